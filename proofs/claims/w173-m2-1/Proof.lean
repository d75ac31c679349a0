import JvmDerived
import JvmDerived.Pilot.@@N@@Statement
import JvmDerived.Pilot.@@N@@Code
set_option linter.unusedVariables false
set_option linter.unusedSimpArgs false

namespace Jvm.RoadKit
open Sem ClassFile Op Lib Jvm.Stand Jvm.Free Jvm.LawKit
section New
variable {p : Program} {l : Launch} {e : Env} {R : Room} {s : State} {m : MethodId} {args : Array Value} {below : List Frame} {meth : Method} {c : Code} {T : State} {locs : List Loc} {cells slots : Nat}
theorem retI (X : Stand p l e R s m args below meth c T locs cells slots) (hx : p.tables.exec = Jvm.exec) {pc : Nat} {Ls : Array Slot} {z : Int32} {rest : List Value} (hret : meth.sig.returnType = some .int) (hd : decode c.code pc = .ok (.ireturn, 1)) {fs : List Frame}
    (hl : ∀ (f : JFrame) (acts : List Action), f.method = m → f.locked = none → f.entered = [] → (doReturn e (T.setTop f) acts (some (.int z))).1 = T.setFrames fs) : Steps p.tables e below (T.setTop (mkF m pc Ls (.int z :: rest))) (T.setFrames fs) := by
  have hm' : T.vm.method? m = some meth := X.method'
  have hn : narrow .int (.int z) = .int z := rfl
  show Steps p.tables e below (T.setTop { method := m, pc := pc, locals := Ls, stack := _ :: rest, locked := none }) _
  jvm_step X.here [X.here.top, hx, hd, hm', hret, hn]
  first | (intro acts; rw [hl _ acts rfl rfl rfl]) | rw [hl _ _ rfl rfl rfl]
  exact Steps.refl _
end New
end Jvm.RoadKit

namespace Jvm.Pilot.@@N@@
open Jvm Jvm.ClassFile Sem Op Lib Jvm.Free Jvm.Stand Jvm.LawKit Jvm.RoadKit Bundle Jvm.Pilot.@@N@@.Jvm.D

theorem own_eqfld {args : Array Value} {s : State} {t : Term} {C n d : String} {k : Int32} {x : Addr} (h : (Jvm.Cond.eq (Term.field t C n d) (Term.int k)).value args s none s [] = some true) (ht : t.eval args s none [] s = some (.ref x)) : s.fieldOf? x C n d = some (.int k) := (fld_at ht).symm.trans (eqv_i (F := Term.int k) (y := k) rfl h)

def own_takes (lo hi n : Int32) : Int32 := if n < lo then 0 else if hi < n then 0 else 1
theorem own_mm_lt {n : Int32} (h : n < 2) : own_takes 2 2147483647 n = 0 := by simp [own_takes, h]
theorem own_mm_ge {n : Int32} (h : ¬ n < 2) : own_takes 2 2147483647 n = 1 := by
  have q : ¬ (2147483647 : Int32) < n := by
    rw [Int32.lt_iff_toInt_lt]
    have := (rng32 n).2
    have e : (2147483647 : Int32).toInt = 2147483647 := by decide
    omega
  simp [own_takes, h, q]
theorem own_pin_eq {k : Int32} : own_takes k k k = 1 := by simp [own_takes]
theorem own_pin_ne {k n : Int32} (h : ¬ n = k) : own_takes k k n = 0 := by
  unfold own_takes
  split
  · rfl
  · split
    · rfl
    · exact absurd (Int32.toInt_inj.mp (by rw [Int32.lt_iff_toInt_lt] at *; omega)) h
theorem own_k6 (x : Int32) : (x &&& 2147483647) % 6 = 0 ∨ (x &&& 2147483647) % 6 = 1 ∨ (x &&& 2147483647) % 6 = 2 ∨ (x &&& 2147483647) % 6 = 3 ∨ (x &&& 2147483647) % 6 = 4 ∨ (x &&& 2147483647) % 6 = 5 := by
  have h1 := (c_and x 2147483647 (by decide)).1
  have h2 := (c_irem (x &&& 2147483647) 6 6 (by decide)).1 h1
  simp only [← Int32.toInt_inj]
  have e0 : (0 : Int32).toInt = 0 := by decide
  have e1 : (1 : Int32).toInt = 1 := by decide
  have e2 : (2 : Int32).toInt = 2 := by decide
  have e3 : (3 : Int32).toInt = 3 := by decide
  have e4 : (4 : Int32).toInt = 4 := by decide
  have e5 : (5 : Int32).toInt = 5 := by decide
  omega

theorem d2_0 : decode prog_73_method_5_code 0 = .ok (.iload_n 1, 1) := by decide +kernel
theorem d2_1 : decode prog_73_method_5_code 1 = .ok (.aload_n 0, 1) := by decide +kernel
theorem d2_2 : decode prog_73_method_5_code 2 = .ok (.getfield 45, 3) := by decide +kernel
theorem d2_5 : decode prog_73_method_5_code 5 = .ok (.if_icmp .lt 15, 3) := by decide +kernel
theorem d2_8 : decode prog_73_method_5_code 8 = .ok (.iload_n 1, 1) := by decide +kernel
theorem d2_9 : decode prog_73_method_5_code 9 = .ok (.aload_n 0, 1) := by decide +kernel
theorem d2_10 : decode prog_73_method_5_code 10 = .ok (.getfield 49, 3) := by decide +kernel
theorem d2_13 : decode prog_73_method_5_code 13 = .ok (.if_icmp .gt 7, 3) := by decide +kernel
theorem d2_16 : decode prog_73_method_5_code 16 = .ok (.iconst 1, 1) := by decide +kernel
theorem d2_17 : decode prog_73_method_5_code 17 = .ok (.goto 4, 3) := by decide +kernel
theorem d2_20 : decode prog_73_method_5_code 20 = .ok (.iconst 0, 1) := by decide +kernel
theorem d2_21 : decode prog_73_method_5_code 21 = .ok (.ireturn, 1) := by decide +kernel
theorem pn_com_example_probver_probver_language_Expression_Function : plainName "com/example/probver/probver/language/Expression$Function" = true := by first | (simp [plainName, overriddenIn]; done) | decide +kernel
theorem ef_2 (m : MethodId) (x0 : Addr) (x1 : Int32) : entryFrame m #[(.ref x0), (.int x1)] 2 = mkF m 0 #[.val (.ref x0), .val (.int x1)] [] := by first | (simp [entryFrame, mkF, argsToLocals, Value.category]; done) | rfl
def Q2 (p2 w3 w5 : Int32) (h0 : Heap) (n0 : Nat) (v : Option Value) (h : Heap) (L : List Loc) : Prop := v = some (.int (own_takes w3 w5 p2)) ∧ Fr n0 L ∧ h = h0
set_option maxRecDepth 65536 in
set_option maxHeartbeats 40000000 in
theorem rm2 (l : Launch) (Z : State) (a0 : Array Value) (hw : ∀ d ∈ tables_1, d.before a0 Z = true) (ws : List Jvm.Cond) (a1 : Addr) (p2 w3 w5 : Int32) (h0 : Heap) (n0 : Nat) (O0 : Old Z n0 h0) (F1 : Fld Z h0 a1 "com/example/probver/probver/language/Expression$Function" "fewestArguments" "I" (.int w3)) (F2 : Fld Z h0 a1 "com/example/probver/probver/language/Expression$Function" "mostArguments" "I" (.int w5)) :
    MetFree l (⟨"com/example/probver/probver/language/Expression$Function", "takes", "(I)Z"⟩ : MethodName) (head1 (Jvm.Cond.code (⟨"com/example/probver/probver/language/Expression$Function", "takes", "(I)Z"⟩ : MethodName) prog_73_method_5_code 2 (some .boolean) :: ws) ({ frames := 0, cells := 0, slots := 0, locals := 0 } : Room)) (fun a U => a = #[(.ref a1), (.int p2)] ∧ Z.Warmed39 U.vm ∧ U.heap = h0) (fun _ _ _ _ _ => True) (fun _ U o U' => ∃ v L, o = .returned v ∧ Q2 p2 w3 w5 h0 n0 v U'.heap L ∧ FrameEnd U o U' L ({ frames := 0, cells := 0, slots := 0, locals := 0 } : Room).cells ({ frames := 0, cells := 0, slots := 0, locals := 0 } : Room).slots) := by
  refine MetFree.of_bodySF (plainFor_of_name pn_com_example_probver_probver_language_Expression_Function) hisR ?_
  intro p e s m args below meth c s₁ Bd hml0 hP hK
  obtain ⟨rfl, hZ, hh⟩ := hP
  have hx := Bd.exec
  have hby := Bd.bytes
  have hml : c.maxLocals = 2 := hml0
  have hown : s.vm.findClass "com/example/probver/probver/language/Expression$Function" = some m.cls := findClass_of_methodNamed Bd.named
  have hnm := (name_of_methodNamed Bd.named Bd.method).1
  have X0 : Stand p l e ({ frames := 0, cells := 0, slots := 0, locals := 0 } : Room) s m #[(.ref a1), (.int p2)] below meth c s₁ [] 0 0 := Stand.of_body Bd
  have e0 : s₁.heap = h0 := by rw [← hh, Bd.state]; rfl
  have N0 := Fr.nil n0
  have pre0 : ∀ t, Steps p.tables e below (s₁.setTop (mkF m 0 #[.val (.ref a1), .val (.int p2)] [])) t → Steps p.tables e below (s₁.setTop (entryFrame m #[(.ref a1), (.int p2)] 2)) t := fun t k => castTop (ef_2 m a1 p2) k
  have k1 := fun (t : State) (kt : Steps p.tables e below (s₁.setTop (mkF m 2 #[.val (.ref a1), .val (.int p2)] [(.ref a1), (.int p2)])) t) => pre0 t (by
    refine XS.iloadN X0.here hx rfl (hb hby d2_0) rfl ?_
    show Steps p.tables e below (s₁.setTop (mkF m 1 #[.val (.ref a1), .val (.int p2)] [(.int p2)])) _
    refine XS.aloadN X0.here hx rfl (hb hby d2_1) rfl rfl ?_
    show Steps p.tables e below (s₁.setTop (mkF m 2 #[.val (.ref a1), .val (.int p2)] [(.ref a1), (.int p2)])) _
    exact kt)
  obtain ⟨T2, X2, e2, st2⟩ := getF X0 hx hZ hown (host := "") (Or.inl (hw _ (List.mem_of_getElem? (i := 13) rfl))) Via.refl e0 F1 (g := (mkF m 2 #[.val (.ref a1), .val (.int p2)] [(.ref a1), (.int p2)])) rfl rfl (hb hby d2_2)
  have k3 := fun (t : State) (kt : Steps p.tables e below (T2.setTop (mkF m 5 #[.val (.ref a1), .val (.int p2)] [(.int w3), (.int p2)])) t) => k1 t (by
    refine st2 _ ?_
    show Steps p.tables e below (T2.setTop (mkF m 5 #[.val (.ref a1), .val (.int p2)] [(.int w3), (.int p2)])) _
    exact kt)
  by_cases hc5_4 : p2 < w3
  · have k5 := fun (t : State) (kt : Steps p.tables e below (T2.setTop (mkF m 21 #[.val (.ref a1), .val (.int p2)] [(.int (0 : Int32))])) t) => k3 t (by
      refine XS.icmpYes X2.here hx rfl (pc0 := 5) (pc' := 20) rfl (hb hby d2_5) rfl (tlt hc5_4).1 (by decide) (by decide) ?_
      show Steps p.tables e below (T2.setTop (mkF m 20 #[.val (.ref a1), .val (.int p2)] [])) _
      refine XS.iconst X2.here hx rfl (hb hby d2_20) ?_
      show Steps p.tables e below (T2.setTop (mkF m 21 #[.val (.ref a1), .val (.int p2)] [(.int (0 : Int32))])) _
      exact kt)
    obtain ⟨fs, hr, hrun, hended, hW, hsame⟩ := X2.leave (v := some (.int (0 : Int32))) (fun h => by rw [Bd.returns] at h; cases h)
    refine ⟨_, _, k5 _ ?_, hrun, hended, _, _, rfl, ?_, ⟨_, rfl⟩, hW, hsame.mono (by decide) (by decide)⟩
    · exact retN X2 hx (t := .boolean) Bd.returns (by simp) (hb hby d2_21) hr
    · show Q2 p2 w3 w5 h0 n0 _ T2.heap _
      rw [e2]
      exact ⟨by simp [own_takes, hc5_4], N0, rfl⟩
  · have k6 := fun (t : State) (kt : Steps p.tables e below (T2.setTop (mkF m 10 #[.val (.ref a1), .val (.int p2)] [(.ref a1), (.int p2)])) t) => k3 t (by
      refine XS.icmpNo X2.here hx rfl (hb hby d2_5) rfl (flt hc5_4).1 ?_
      show Steps p.tables e below (T2.setTop (mkF m 8 #[.val (.ref a1), .val (.int p2)] [])) _
      refine XS.iloadN X2.here hx rfl (hb hby d2_8) rfl ?_
      show Steps p.tables e below (T2.setTop (mkF m 9 #[.val (.ref a1), .val (.int p2)] [(.int p2)])) _
      refine XS.aloadN X2.here hx rfl (hb hby d2_9) rfl rfl ?_
      show Steps p.tables e below (T2.setTop (mkF m 10 #[.val (.ref a1), .val (.int p2)] [(.ref a1), (.int p2)])) _
      exact kt)
    obtain ⟨T7, X7, e7, st7⟩ := getF X2 hx hZ hown (host := "") (Or.inl (hw _ (List.mem_of_getElem? (i := 15) rfl))) Via.refl e2 F2 (g := (mkF m 10 #[.val (.ref a1), .val (.int p2)] [(.ref a1), (.int p2)])) rfl rfl (hb hby d2_10)
    have k8 := fun (t : State) (kt : Steps p.tables e below (T7.setTop (mkF m 13 #[.val (.ref a1), .val (.int p2)] [(.int w5), (.int p2)])) t) => k6 t (by
      refine st7 _ ?_
      show Steps p.tables e below (T7.setTop (mkF m 13 #[.val (.ref a1), .val (.int p2)] [(.int w5), (.int p2)])) _
      exact kt)
    by_cases hc13_9 : w5 < p2
    · have k10 := fun (t : State) (kt : Steps p.tables e below (T7.setTop (mkF m 21 #[.val (.ref a1), .val (.int p2)] [(.int (0 : Int32))])) t) => k8 t (by
        refine XS.icmpYes X7.here hx rfl (pc0 := 13) (pc' := 20) rfl (hb hby d2_13) rfl (tlt hc13_9).2.2.1 (by decide) (by decide) ?_
        show Steps p.tables e below (T7.setTop (mkF m 20 #[.val (.ref a1), .val (.int p2)] [])) _
        refine XS.iconst X7.here hx rfl (hb hby d2_20) ?_
        show Steps p.tables e below (T7.setTop (mkF m 21 #[.val (.ref a1), .val (.int p2)] [(.int (0 : Int32))])) _
        exact kt)
      obtain ⟨fs, hr, hrun, hended, hW, hsame⟩ := X7.leave (v := some (.int (0 : Int32))) (fun h => by rw [Bd.returns] at h; cases h)
      refine ⟨_, _, k10 _ ?_, hrun, hended, _, _, rfl, ?_, ⟨_, rfl⟩, hW, hsame.mono (by decide) (by decide)⟩
      · exact retN X7 hx (t := .boolean) Bd.returns (by simp) (hb hby d2_21) hr
      · show Q2 p2 w3 w5 h0 n0 _ T7.heap _
        rw [e7]
        exact ⟨by simp [own_takes, hc5_4, hc13_9], N0, rfl⟩
    · have k11 := fun (t : State) (kt : Steps p.tables e below (T7.setTop (mkF m 21 #[.val (.ref a1), .val (.int p2)] [(.int (1 : Int32))])) t) => k8 t (by
        refine XS.icmpNo X7.here hx rfl (hb hby d2_13) rfl (flt hc13_9).2.2.1 ?_
        show Steps p.tables e below (T7.setTop (mkF m 16 #[.val (.ref a1), .val (.int p2)] [])) _
        refine XS.iconst X7.here hx rfl (hb hby d2_16) ?_
        show Steps p.tables e below (T7.setTop (mkF m 17 #[.val (.ref a1), .val (.int p2)] [(.int (1 : Int32))])) _
        refine XS.goto X7.here hx rfl (pc0 := 17) (pc' := 21) rfl (hb hby d2_17) (by decide) (by decide) ?_
        show Steps p.tables e below (T7.setTop (mkF m 21 #[.val (.ref a1), .val (.int p2)] [(.int (1 : Int32))])) _
        exact kt)
      obtain ⟨fs, hr, hrun, hended, hW, hsame⟩ := X7.leave (v := some (.int (1 : Int32))) (fun h => by rw [Bd.returns] at h; cases h)
      refine ⟨_, _, k11 _ ?_, hrun, hended, _, _, rfl, ?_, ⟨_, rfl⟩, hW, hsame.mono (by decide) (by decide)⟩
      · exact retN X7 hx (t := .boolean) Bd.returns (by simp) (hb hby d2_21) hr
      · show Q2 p2 w3 w5 h0 n0 _ T7.heap _
        rw [e7]
        exact ⟨by simp [own_takes, hc5_4, hc13_9], N0, rfl⟩

def Q1 (a1 : Addr) (h0 : Heap) (n0 : Nat) (v : Option Value) (h : Heap) (L : List Loc) : Prop := v = some (.ref a1) ∧ Fr n0 L ∧ h = h0

theorem d1_0 : decode method_2_code 0 = .ok (.iload_n 0, 1) := by decide +kernel
theorem d1_1 : decode method_2_code 1 = .ok (.ifCond .ne 7, 3) := by decide +kernel
theorem d1_4 : decode method_2_code 4 = .ok (.getstatic 7, 3) := by decide +kernel
theorem d1_7 : decode method_2_code 7 = .ok (.areturn, 1) := by decide +kernel
theorem pn_com_example_probver_probver_language_FunctionTakesPinLaw : plainName "com/example/probver/probver/language/FunctionTakesPinLaw" = true := by first | (simp [plainName, overriddenIn]; done) | decide +kernel
theorem ef_1_0 (m : MethodId) (x0 : Int32) : entryFrame m #[(.int x0)] 1 = mkF m 0 #[.val (.int x0)] [] := by first | (simp [entryFrame, mkF, argsToLocals, Value.category]; done) | rfl
set_option maxRecDepth 65536 in
set_option maxHeartbeats 40000000 in
theorem rm1_0 (l : Launch) (Z : State) (a0 : Array Value) (hw : ∀ d ∈ tables_1, d.before a0 Z = true) (ws : List Jvm.Cond) (p1 : Int32) (a1 : Addr) (h0 : Heap) (n0 : Nat) (O0 : Old Z n0 h0) (S1 : Sta Z h0 "com/example/probver/probver/language/Expression$Function" "MIN" "Lcom/example/probver/probver/language/Expression$Function;" (.ref a1)) (hk : p1 = (0 : Int32)) :
    MetFree l (⟨"com/example/probver/probver/language/FunctionTakesPinLaw", "pick", "(I)Lcom/example/probver/probver/language/Expression$Function;"⟩ : MethodName) (head1 (Jvm.Cond.code (⟨"com/example/probver/probver/language/FunctionTakesPinLaw", "pick", "(I)Lcom/example/probver/probver/language/Expression$Function;"⟩ : MethodName) method_2_code 1 (some (.object "com/example/probver/probver/language/Expression$Function")) :: ws) ({ frames := 0, cells := 0, slots := 0, locals := 0 } : Room)) (fun a U => a = #[(.int p1)] ∧ Z.Warmed39 U.vm ∧ U.heap = h0) (fun _ _ _ _ _ => True) (fun _ U o U' => ∃ v L, o = .returned v ∧ Q1 a1 h0 n0 v U'.heap L ∧ FrameEnd U o U' L ({ frames := 0, cells := 0, slots := 0, locals := 0 } : Room).cells ({ frames := 0, cells := 0, slots := 0, locals := 0 } : Room).slots) := by
  refine MetFree.of_bodySF (plainFor_of_name pn_com_example_probver_probver_language_FunctionTakesPinLaw) hisR ?_
  intro p e s m args below meth c s₁ Bd hml0 hP hK
  obtain ⟨rfl, hZ, hh⟩ := hP
  have hx := Bd.exec
  have hby := Bd.bytes
  have hml : c.maxLocals = 1 := hml0
  have hown : s.vm.findClass "com/example/probver/probver/language/FunctionTakesPinLaw" = some m.cls := findClass_of_methodNamed Bd.named
  have hnm := (name_of_methodNamed Bd.named Bd.method).1
  have X0 : Stand p l e ({ frames := 0, cells := 0, slots := 0, locals := 0 } : Room) s m #[(.int p1)] below meth c s₁ [] 0 0 := Stand.of_body Bd
  have e0 : s₁.heap = h0 := by rw [← hh, Bd.state]; rfl
  have N0 := Fr.nil n0
  have pre0 : ∀ t, Steps p.tables e below (s₁.setTop (mkF m 0 #[.val (.int p1)] [])) t → Steps p.tables e below (s₁.setTop (entryFrame m #[(.int p1)] 1)) t := fun t k => castTop (ef_1_0 m p1) k
  have k1 := fun (t : State) (kt : Steps p.tables e below (s₁.setTop (mkF m 1 #[.val (.int p1)] [(.int p1)])) t) => pre0 t (by
    refine XS.iloadN X0.here hx rfl (hb hby d1_0) rfl ?_
    show Steps p.tables e below (s₁.setTop (mkF m 1 #[.val (.int p1)] [(.int p1)])) _
    exact kt)
  have k2 := fun (t : State) (kt : Steps p.tables e below (s₁.setTop (mkF m 4 #[.val (.int p1)] [])) t) => k1 t (by
    refine XS.ifNo X0.here hx rfl (hb hby d1_1) rfl ((if0 _ _).trans (teq hk).2) ?_
    show Steps p.tables e below (s₁.setTop (mkF m 4 #[.val (.int p1)] [])) _
    exact kt)
  obtain ⟨T3, X3, e3, st3⟩ := getS2 X0 hx hZ hown (host := "") (Or.inl (hw _ (List.mem_of_getElem? (i := 5) rfl))) Via.refl e0 S1 (g := (mkF m 4 #[.val (.int p1)] [])) rfl (hb hby d1_4)
  have k4 := fun (t : State) (kt : Steps p.tables e below (T3.setTop (mkF m 7 #[.val (.int p1)] [(.ref a1)])) t) => k2 t (by
    refine st3 _ ?_
    show Steps p.tables e below (T3.setTop (mkF m 7 #[.val (.int p1)] [(.ref a1)])) _
    exact kt)
  obtain ⟨fs, hr, hrun, hended, hW, hsame⟩ := X3.leave (v := some (.ref a1)) (fun h => by rw [Bd.returns] at h; cases h)
  refine ⟨_, _, k4 _ ?_, hrun, hended, _, _, rfl, ?_, ⟨_, rfl⟩, hW, hsame.mono (by decide) (by decide)⟩
  · jvm_step X3.here [X3.here.top, hx, (hb hby d1_7), X3.method', Bd.returns, Value.isRef, FieldType.isReference]
    first | (intro acts; rw [hr _ acts rfl rfl rfl]) | rw [hr _ _ rfl rfl rfl]
    exact Steps.refl _
  · show Q1 a1 h0 n0 _ T3.heap _
    rw [e3]
    exact ⟨rfl, N0, rfl⟩

theorem d1_8 : decode method_2_code 8 = .ok (.iload_n 0, 1) := by decide +kernel
theorem d1_9 : decode method_2_code 9 = .ok (.iconst 1, 1) := by decide +kernel
theorem d1_10 : decode method_2_code 10 = .ok (.if_icmp .ne 7, 3) := by decide +kernel
theorem d1_13 : decode method_2_code 13 = .ok (.getstatic 13, 3) := by decide +kernel
theorem d1_16 : decode method_2_code 16 = .ok (.areturn, 1) := by decide +kernel
theorem ef_1_1 (m : MethodId) (x0 : Int32) : entryFrame m #[(.int x0)] 1 = mkF m 0 #[.val (.int x0)] [] := by first | (simp [entryFrame, mkF, argsToLocals, Value.category]; done) | rfl
set_option maxRecDepth 65536 in
set_option maxHeartbeats 40000000 in
theorem rm1_1 (l : Launch) (Z : State) (a0 : Array Value) (hw : ∀ d ∈ tables_1, d.before a0 Z = true) (ws : List Jvm.Cond) (p1 : Int32) (a1 : Addr) (h0 : Heap) (n0 : Nat) (O0 : Old Z n0 h0) (S1 : Sta Z h0 "com/example/probver/probver/language/Expression$Function" "MAX" "Lcom/example/probver/probver/language/Expression$Function;" (.ref a1)) (hk : p1 = (1 : Int32)) :
    MetFree l (⟨"com/example/probver/probver/language/FunctionTakesPinLaw", "pick", "(I)Lcom/example/probver/probver/language/Expression$Function;"⟩ : MethodName) (head1 (Jvm.Cond.code (⟨"com/example/probver/probver/language/FunctionTakesPinLaw", "pick", "(I)Lcom/example/probver/probver/language/Expression$Function;"⟩ : MethodName) method_2_code 1 (some (.object "com/example/probver/probver/language/Expression$Function")) :: ws) ({ frames := 0, cells := 0, slots := 0, locals := 0 } : Room)) (fun a U => a = #[(.int p1)] ∧ Z.Warmed39 U.vm ∧ U.heap = h0) (fun _ _ _ _ _ => True) (fun _ U o U' => ∃ v L, o = .returned v ∧ Q1 a1 h0 n0 v U'.heap L ∧ FrameEnd U o U' L ({ frames := 0, cells := 0, slots := 0, locals := 0 } : Room).cells ({ frames := 0, cells := 0, slots := 0, locals := 0 } : Room).slots) := by
  refine MetFree.of_bodySF (plainFor_of_name pn_com_example_probver_probver_language_FunctionTakesPinLaw) hisR ?_
  intro p e s m args below meth c s₁ Bd hml0 hP hK
  obtain ⟨rfl, hZ, hh⟩ := hP
  have hx := Bd.exec
  have hby := Bd.bytes
  have hml : c.maxLocals = 1 := hml0
  have hown : s.vm.findClass "com/example/probver/probver/language/FunctionTakesPinLaw" = some m.cls := findClass_of_methodNamed Bd.named
  have hnm := (name_of_methodNamed Bd.named Bd.method).1
  have X0 : Stand p l e ({ frames := 0, cells := 0, slots := 0, locals := 0 } : Room) s m #[(.int p1)] below meth c s₁ [] 0 0 := Stand.of_body Bd
  have e0 : s₁.heap = h0 := by rw [← hh, Bd.state]; rfl
  have N0 := Fr.nil n0
  have pre0 : ∀ t, Steps p.tables e below (s₁.setTop (mkF m 0 #[.val (.int p1)] [])) t → Steps p.tables e below (s₁.setTop (entryFrame m #[(.int p1)] 1)) t := fun t k => castTop (ef_1_1 m p1) k
  have k1 := fun (t : State) (kt : Steps p.tables e below (s₁.setTop (mkF m 1 #[.val (.int p1)] [(.int p1)])) t) => pre0 t (by
    refine XS.iloadN X0.here hx rfl (hb hby d1_0) rfl ?_
    show Steps p.tables e below (s₁.setTop (mkF m 1 #[.val (.int p1)] [(.int p1)])) _
    exact kt)
  have k2 := fun (t : State) (kt : Steps p.tables e below (s₁.setTop (mkF m 10 #[.val (.int p1)] [(.int (1 : Int32)), (.int p1)])) t) => k1 t (by
    refine XS.ifYes X0.here hx rfl (pc0 := 1) (pc' := 8) rfl (hb hby d1_1) rfl ((if0 _ _).trans (feq (by rw [hk]; decide)).2) (by decide) (by decide) ?_
    show Steps p.tables e below (s₁.setTop (mkF m 8 #[.val (.int p1)] [])) _
    refine XS.iloadN X0.here hx rfl (hb hby d1_8) rfl ?_
    show Steps p.tables e below (s₁.setTop (mkF m 9 #[.val (.int p1)] [(.int p1)])) _
    refine XS.iconst X0.here hx rfl (hb hby d1_9) ?_
    show Steps p.tables e below (s₁.setTop (mkF m 10 #[.val (.int p1)] [(.int (1 : Int32)), (.int p1)])) _
    exact kt)
  have k3 := fun (t : State) (kt : Steps p.tables e below (s₁.setTop (mkF m 13 #[.val (.int p1)] [])) t) => k2 t (by
    refine XS.icmpNo X0.here hx rfl (hb hby d1_10) rfl (teq hk).2 ?_
    show Steps p.tables e below (s₁.setTop (mkF m 13 #[.val (.int p1)] [])) _
    exact kt)
  obtain ⟨T4, X4, e4, st4⟩ := getS2 X0 hx hZ hown (host := "") (Or.inl (hw _ (List.mem_of_getElem? (i := 17) rfl))) Via.refl e0 S1 (g := (mkF m 13 #[.val (.int p1)] [])) rfl (hb hby d1_13)
  have k5 := fun (t : State) (kt : Steps p.tables e below (T4.setTop (mkF m 16 #[.val (.int p1)] [(.ref a1)])) t) => k3 t (by
    refine st4 _ ?_
    show Steps p.tables e below (T4.setTop (mkF m 16 #[.val (.int p1)] [(.ref a1)])) _
    exact kt)
  obtain ⟨fs, hr, hrun, hended, hW, hsame⟩ := X4.leave (v := some (.ref a1)) (fun h => by rw [Bd.returns] at h; cases h)
  refine ⟨_, _, k5 _ ?_, hrun, hended, _, _, rfl, ?_, ⟨_, rfl⟩, hW, hsame.mono (by decide) (by decide)⟩
  · jvm_step X4.here [X4.here.top, hx, (hb hby d1_16), X4.method', Bd.returns, Value.isRef, FieldType.isReference]
    first | (intro acts; rw [hr _ acts rfl rfl rfl]) | rw [hr _ _ rfl rfl rfl]
    exact Steps.refl _
  · show Q1 a1 h0 n0 _ T4.heap _
    rw [e4]
    exact ⟨rfl, N0, rfl⟩

theorem d1_17 : decode method_2_code 17 = .ok (.iload_n 0, 1) := by decide +kernel
theorem d1_18 : decode method_2_code 18 = .ok (.iconst 2, 1) := by decide +kernel
theorem d1_19 : decode method_2_code 19 = .ok (.if_icmp .ne 7, 3) := by decide +kernel
theorem d1_22 : decode method_2_code 22 = .ok (.getstatic 16, 3) := by decide +kernel
theorem d1_25 : decode method_2_code 25 = .ok (.areturn, 1) := by decide +kernel
theorem ef_1_2 (m : MethodId) (x0 : Int32) : entryFrame m #[(.int x0)] 1 = mkF m 0 #[.val (.int x0)] [] := by first | (simp [entryFrame, mkF, argsToLocals, Value.category]; done) | rfl
set_option maxRecDepth 65536 in
set_option maxHeartbeats 40000000 in
theorem rm1_2 (l : Launch) (Z : State) (a0 : Array Value) (hw : ∀ d ∈ tables_1, d.before a0 Z = true) (ws : List Jvm.Cond) (p1 : Int32) (a1 : Addr) (h0 : Heap) (n0 : Nat) (O0 : Old Z n0 h0) (S1 : Sta Z h0 "com/example/probver/probver/language/Expression$Function" "FLOOR" "Lcom/example/probver/probver/language/Expression$Function;" (.ref a1)) (hk : p1 = (2 : Int32)) :
    MetFree l (⟨"com/example/probver/probver/language/FunctionTakesPinLaw", "pick", "(I)Lcom/example/probver/probver/language/Expression$Function;"⟩ : MethodName) (head1 (Jvm.Cond.code (⟨"com/example/probver/probver/language/FunctionTakesPinLaw", "pick", "(I)Lcom/example/probver/probver/language/Expression$Function;"⟩ : MethodName) method_2_code 1 (some (.object "com/example/probver/probver/language/Expression$Function")) :: ws) ({ frames := 0, cells := 0, slots := 0, locals := 0 } : Room)) (fun a U => a = #[(.int p1)] ∧ Z.Warmed39 U.vm ∧ U.heap = h0) (fun _ _ _ _ _ => True) (fun _ U o U' => ∃ v L, o = .returned v ∧ Q1 a1 h0 n0 v U'.heap L ∧ FrameEnd U o U' L ({ frames := 0, cells := 0, slots := 0, locals := 0 } : Room).cells ({ frames := 0, cells := 0, slots := 0, locals := 0 } : Room).slots) := by
  refine MetFree.of_bodySF (plainFor_of_name pn_com_example_probver_probver_language_FunctionTakesPinLaw) hisR ?_
  intro p e s m args below meth c s₁ Bd hml0 hP hK
  obtain ⟨rfl, hZ, hh⟩ := hP
  have hx := Bd.exec
  have hby := Bd.bytes
  have hml : c.maxLocals = 1 := hml0
  have hown : s.vm.findClass "com/example/probver/probver/language/FunctionTakesPinLaw" = some m.cls := findClass_of_methodNamed Bd.named
  have hnm := (name_of_methodNamed Bd.named Bd.method).1
  have X0 : Stand p l e ({ frames := 0, cells := 0, slots := 0, locals := 0 } : Room) s m #[(.int p1)] below meth c s₁ [] 0 0 := Stand.of_body Bd
  have e0 : s₁.heap = h0 := by rw [← hh, Bd.state]; rfl
  have N0 := Fr.nil n0
  have pre0 : ∀ t, Steps p.tables e below (s₁.setTop (mkF m 0 #[.val (.int p1)] [])) t → Steps p.tables e below (s₁.setTop (entryFrame m #[(.int p1)] 1)) t := fun t k => castTop (ef_1_2 m p1) k
  have k1 := fun (t : State) (kt : Steps p.tables e below (s₁.setTop (mkF m 1 #[.val (.int p1)] [(.int p1)])) t) => pre0 t (by
    refine XS.iloadN X0.here hx rfl (hb hby d1_0) rfl ?_
    show Steps p.tables e below (s₁.setTop (mkF m 1 #[.val (.int p1)] [(.int p1)])) _
    exact kt)
  have k2 := fun (t : State) (kt : Steps p.tables e below (s₁.setTop (mkF m 10 #[.val (.int p1)] [(.int (1 : Int32)), (.int p1)])) t) => k1 t (by
    refine XS.ifYes X0.here hx rfl (pc0 := 1) (pc' := 8) rfl (hb hby d1_1) rfl ((if0 _ _).trans (feq (by rw [hk]; decide)).2) (by decide) (by decide) ?_
    show Steps p.tables e below (s₁.setTop (mkF m 8 #[.val (.int p1)] [])) _
    refine XS.iloadN X0.here hx rfl (hb hby d1_8) rfl ?_
    show Steps p.tables e below (s₁.setTop (mkF m 9 #[.val (.int p1)] [(.int p1)])) _
    refine XS.iconst X0.here hx rfl (hb hby d1_9) ?_
    show Steps p.tables e below (s₁.setTop (mkF m 10 #[.val (.int p1)] [(.int (1 : Int32)), (.int p1)])) _
    exact kt)
  have k3 := fun (t : State) (kt : Steps p.tables e below (s₁.setTop (mkF m 19 #[.val (.int p1)] [(.int (2 : Int32)), (.int p1)])) t) => k2 t (by
    refine XS.icmpYes X0.here hx rfl (pc0 := 10) (pc' := 17) rfl (hb hby d1_10) rfl (feq (by rw [hk]; decide)).2 (by decide) (by decide) ?_
    show Steps p.tables e below (s₁.setTop (mkF m 17 #[.val (.int p1)] [])) _
    refine XS.iloadN X0.here hx rfl (hb hby d1_17) rfl ?_
    show Steps p.tables e below (s₁.setTop (mkF m 18 #[.val (.int p1)] [(.int p1)])) _
    refine XS.iconst X0.here hx rfl (hb hby d1_18) ?_
    show Steps p.tables e below (s₁.setTop (mkF m 19 #[.val (.int p1)] [(.int (2 : Int32)), (.int p1)])) _
    exact kt)
  have k4 := fun (t : State) (kt : Steps p.tables e below (s₁.setTop (mkF m 22 #[.val (.int p1)] [])) t) => k3 t (by
    refine XS.icmpNo X0.here hx rfl (hb hby d1_19) rfl (teq hk).2 ?_
    show Steps p.tables e below (s₁.setTop (mkF m 22 #[.val (.int p1)] [])) _
    exact kt)
  obtain ⟨T5, X5, e5, st5⟩ := getS2 X0 hx hZ hown (host := "") (Or.inl (hw _ (List.mem_of_getElem? (i := 19) rfl))) Via.refl e0 S1 (g := (mkF m 22 #[.val (.int p1)] [])) rfl (hb hby d1_22)
  have k6 := fun (t : State) (kt : Steps p.tables e below (T5.setTop (mkF m 25 #[.val (.int p1)] [(.ref a1)])) t) => k4 t (by
    refine st5 _ ?_
    show Steps p.tables e below (T5.setTop (mkF m 25 #[.val (.int p1)] [(.ref a1)])) _
    exact kt)
  obtain ⟨fs, hr, hrun, hended, hW, hsame⟩ := X5.leave (v := some (.ref a1)) (fun h => by rw [Bd.returns] at h; cases h)
  refine ⟨_, _, k6 _ ?_, hrun, hended, _, _, rfl, ?_, ⟨_, rfl⟩, hW, hsame.mono (by decide) (by decide)⟩
  · jvm_step X5.here [X5.here.top, hx, (hb hby d1_25), X5.method', Bd.returns, Value.isRef, FieldType.isReference]
    first | (intro acts; rw [hr _ acts rfl rfl rfl]) | rw [hr _ _ rfl rfl rfl]
    exact Steps.refl _
  · show Q1 a1 h0 n0 _ T5.heap _
    rw [e5]
    exact ⟨rfl, N0, rfl⟩

theorem d1_26 : decode method_2_code 26 = .ok (.iload_n 0, 1) := by decide +kernel
theorem d1_27 : decode method_2_code 27 = .ok (.iconst 3, 1) := by decide +kernel
theorem d1_28 : decode method_2_code 28 = .ok (.if_icmp .ne 7, 3) := by decide +kernel
theorem d1_31 : decode method_2_code 31 = .ok (.getstatic 19, 3) := by decide +kernel
theorem d1_34 : decode method_2_code 34 = .ok (.areturn, 1) := by decide +kernel
theorem ef_1_3 (m : MethodId) (x0 : Int32) : entryFrame m #[(.int x0)] 1 = mkF m 0 #[.val (.int x0)] [] := by first | (simp [entryFrame, mkF, argsToLocals, Value.category]; done) | rfl
set_option maxRecDepth 65536 in
set_option maxHeartbeats 40000000 in
theorem rm1_3 (l : Launch) (Z : State) (a0 : Array Value) (hw : ∀ d ∈ tables_1, d.before a0 Z = true) (ws : List Jvm.Cond) (p1 : Int32) (a1 : Addr) (h0 : Heap) (n0 : Nat) (O0 : Old Z n0 h0) (S1 : Sta Z h0 "com/example/probver/probver/language/Expression$Function" "CEIL" "Lcom/example/probver/probver/language/Expression$Function;" (.ref a1)) (hk : p1 = (3 : Int32)) :
    MetFree l (⟨"com/example/probver/probver/language/FunctionTakesPinLaw", "pick", "(I)Lcom/example/probver/probver/language/Expression$Function;"⟩ : MethodName) (head1 (Jvm.Cond.code (⟨"com/example/probver/probver/language/FunctionTakesPinLaw", "pick", "(I)Lcom/example/probver/probver/language/Expression$Function;"⟩ : MethodName) method_2_code 1 (some (.object "com/example/probver/probver/language/Expression$Function")) :: ws) ({ frames := 0, cells := 0, slots := 0, locals := 0 } : Room)) (fun a U => a = #[(.int p1)] ∧ Z.Warmed39 U.vm ∧ U.heap = h0) (fun _ _ _ _ _ => True) (fun _ U o U' => ∃ v L, o = .returned v ∧ Q1 a1 h0 n0 v U'.heap L ∧ FrameEnd U o U' L ({ frames := 0, cells := 0, slots := 0, locals := 0 } : Room).cells ({ frames := 0, cells := 0, slots := 0, locals := 0 } : Room).slots) := by
  refine MetFree.of_bodySF (plainFor_of_name pn_com_example_probver_probver_language_FunctionTakesPinLaw) hisR ?_
  intro p e s m args below meth c s₁ Bd hml0 hP hK
  obtain ⟨rfl, hZ, hh⟩ := hP
  have hx := Bd.exec
  have hby := Bd.bytes
  have hml : c.maxLocals = 1 := hml0
  have hown : s.vm.findClass "com/example/probver/probver/language/FunctionTakesPinLaw" = some m.cls := findClass_of_methodNamed Bd.named
  have hnm := (name_of_methodNamed Bd.named Bd.method).1
  have X0 : Stand p l e ({ frames := 0, cells := 0, slots := 0, locals := 0 } : Room) s m #[(.int p1)] below meth c s₁ [] 0 0 := Stand.of_body Bd
  have e0 : s₁.heap = h0 := by rw [← hh, Bd.state]; rfl
  have N0 := Fr.nil n0
  have pre0 : ∀ t, Steps p.tables e below (s₁.setTop (mkF m 0 #[.val (.int p1)] [])) t → Steps p.tables e below (s₁.setTop (entryFrame m #[(.int p1)] 1)) t := fun t k => castTop (ef_1_3 m p1) k
  have k1 := fun (t : State) (kt : Steps p.tables e below (s₁.setTop (mkF m 1 #[.val (.int p1)] [(.int p1)])) t) => pre0 t (by
    refine XS.iloadN X0.here hx rfl (hb hby d1_0) rfl ?_
    show Steps p.tables e below (s₁.setTop (mkF m 1 #[.val (.int p1)] [(.int p1)])) _
    exact kt)
  have k2 := fun (t : State) (kt : Steps p.tables e below (s₁.setTop (mkF m 10 #[.val (.int p1)] [(.int (1 : Int32)), (.int p1)])) t) => k1 t (by
    refine XS.ifYes X0.here hx rfl (pc0 := 1) (pc' := 8) rfl (hb hby d1_1) rfl ((if0 _ _).trans (feq (by rw [hk]; decide)).2) (by decide) (by decide) ?_
    show Steps p.tables e below (s₁.setTop (mkF m 8 #[.val (.int p1)] [])) _
    refine XS.iloadN X0.here hx rfl (hb hby d1_8) rfl ?_
    show Steps p.tables e below (s₁.setTop (mkF m 9 #[.val (.int p1)] [(.int p1)])) _
    refine XS.iconst X0.here hx rfl (hb hby d1_9) ?_
    show Steps p.tables e below (s₁.setTop (mkF m 10 #[.val (.int p1)] [(.int (1 : Int32)), (.int p1)])) _
    exact kt)
  have k3 := fun (t : State) (kt : Steps p.tables e below (s₁.setTop (mkF m 19 #[.val (.int p1)] [(.int (2 : Int32)), (.int p1)])) t) => k2 t (by
    refine XS.icmpYes X0.here hx rfl (pc0 := 10) (pc' := 17) rfl (hb hby d1_10) rfl (feq (by rw [hk]; decide)).2 (by decide) (by decide) ?_
    show Steps p.tables e below (s₁.setTop (mkF m 17 #[.val (.int p1)] [])) _
    refine XS.iloadN X0.here hx rfl (hb hby d1_17) rfl ?_
    show Steps p.tables e below (s₁.setTop (mkF m 18 #[.val (.int p1)] [(.int p1)])) _
    refine XS.iconst X0.here hx rfl (hb hby d1_18) ?_
    show Steps p.tables e below (s₁.setTop (mkF m 19 #[.val (.int p1)] [(.int (2 : Int32)), (.int p1)])) _
    exact kt)
  have k4 := fun (t : State) (kt : Steps p.tables e below (s₁.setTop (mkF m 28 #[.val (.int p1)] [(.int (3 : Int32)), (.int p1)])) t) => k3 t (by
    refine XS.icmpYes X0.here hx rfl (pc0 := 19) (pc' := 26) rfl (hb hby d1_19) rfl (feq (by rw [hk]; decide)).2 (by decide) (by decide) ?_
    show Steps p.tables e below (s₁.setTop (mkF m 26 #[.val (.int p1)] [])) _
    refine XS.iloadN X0.here hx rfl (hb hby d1_26) rfl ?_
    show Steps p.tables e below (s₁.setTop (mkF m 27 #[.val (.int p1)] [(.int p1)])) _
    refine XS.iconst X0.here hx rfl (hb hby d1_27) ?_
    show Steps p.tables e below (s₁.setTop (mkF m 28 #[.val (.int p1)] [(.int (3 : Int32)), (.int p1)])) _
    exact kt)
  have k5 := fun (t : State) (kt : Steps p.tables e below (s₁.setTop (mkF m 31 #[.val (.int p1)] [])) t) => k4 t (by
    refine XS.icmpNo X0.here hx rfl (hb hby d1_28) rfl (teq hk).2 ?_
    show Steps p.tables e below (s₁.setTop (mkF m 31 #[.val (.int p1)] [])) _
    exact kt)
  obtain ⟨T6, X6, e6, st6⟩ := getS2 X0 hx hZ hown (host := "") (Or.inl (hw _ (List.mem_of_getElem? (i := 23) rfl))) Via.refl e0 S1 (g := (mkF m 31 #[.val (.int p1)] [])) rfl (hb hby d1_31)
  have k7 := fun (t : State) (kt : Steps p.tables e below (T6.setTop (mkF m 34 #[.val (.int p1)] [(.ref a1)])) t) => k5 t (by
    refine st6 _ ?_
    show Steps p.tables e below (T6.setTop (mkF m 34 #[.val (.int p1)] [(.ref a1)])) _
    exact kt)
  obtain ⟨fs, hr, hrun, hended, hW, hsame⟩ := X6.leave (v := some (.ref a1)) (fun h => by rw [Bd.returns] at h; cases h)
  refine ⟨_, _, k7 _ ?_, hrun, hended, _, _, rfl, ?_, ⟨_, rfl⟩, hW, hsame.mono (by decide) (by decide)⟩
  · jvm_step X6.here [X6.here.top, hx, (hb hby d1_34), X6.method', Bd.returns, Value.isRef, FieldType.isReference]
    first | (intro acts; rw [hr _ acts rfl rfl rfl]) | rw [hr _ _ rfl rfl rfl]
    exact Steps.refl _
  · show Q1 a1 h0 n0 _ T6.heap _
    rw [e6]
    exact ⟨rfl, N0, rfl⟩

theorem d1_35 : decode method_2_code 35 = .ok (.iload_n 0, 1) := by decide +kernel
theorem d1_36 : decode method_2_code 36 = .ok (.iconst 4, 1) := by decide +kernel
theorem d1_37 : decode method_2_code 37 = .ok (.if_icmp .ne 7, 3) := by decide +kernel
theorem d1_40 : decode method_2_code 40 = .ok (.getstatic 22, 3) := by decide +kernel
theorem d1_43 : decode method_2_code 43 = .ok (.areturn, 1) := by decide +kernel
theorem ef_1_4 (m : MethodId) (x0 : Int32) : entryFrame m #[(.int x0)] 1 = mkF m 0 #[.val (.int x0)] [] := by first | (simp [entryFrame, mkF, argsToLocals, Value.category]; done) | rfl
set_option maxRecDepth 65536 in
set_option maxHeartbeats 40000000 in
theorem rm1_4 (l : Launch) (Z : State) (a0 : Array Value) (hw : ∀ d ∈ tables_1, d.before a0 Z = true) (ws : List Jvm.Cond) (p1 : Int32) (a1 : Addr) (h0 : Heap) (n0 : Nat) (O0 : Old Z n0 h0) (S1 : Sta Z h0 "com/example/probver/probver/language/Expression$Function" "POW" "Lcom/example/probver/probver/language/Expression$Function;" (.ref a1)) (hk : p1 = (4 : Int32)) :
    MetFree l (⟨"com/example/probver/probver/language/FunctionTakesPinLaw", "pick", "(I)Lcom/example/probver/probver/language/Expression$Function;"⟩ : MethodName) (head1 (Jvm.Cond.code (⟨"com/example/probver/probver/language/FunctionTakesPinLaw", "pick", "(I)Lcom/example/probver/probver/language/Expression$Function;"⟩ : MethodName) method_2_code 1 (some (.object "com/example/probver/probver/language/Expression$Function")) :: ws) ({ frames := 0, cells := 0, slots := 0, locals := 0 } : Room)) (fun a U => a = #[(.int p1)] ∧ Z.Warmed39 U.vm ∧ U.heap = h0) (fun _ _ _ _ _ => True) (fun _ U o U' => ∃ v L, o = .returned v ∧ Q1 a1 h0 n0 v U'.heap L ∧ FrameEnd U o U' L ({ frames := 0, cells := 0, slots := 0, locals := 0 } : Room).cells ({ frames := 0, cells := 0, slots := 0, locals := 0 } : Room).slots) := by
  refine MetFree.of_bodySF (plainFor_of_name pn_com_example_probver_probver_language_FunctionTakesPinLaw) hisR ?_
  intro p e s m args below meth c s₁ Bd hml0 hP hK
  obtain ⟨rfl, hZ, hh⟩ := hP
  have hx := Bd.exec
  have hby := Bd.bytes
  have hml : c.maxLocals = 1 := hml0
  have hown : s.vm.findClass "com/example/probver/probver/language/FunctionTakesPinLaw" = some m.cls := findClass_of_methodNamed Bd.named
  have hnm := (name_of_methodNamed Bd.named Bd.method).1
  have X0 : Stand p l e ({ frames := 0, cells := 0, slots := 0, locals := 0 } : Room) s m #[(.int p1)] below meth c s₁ [] 0 0 := Stand.of_body Bd
  have e0 : s₁.heap = h0 := by rw [← hh, Bd.state]; rfl
  have N0 := Fr.nil n0
  have pre0 : ∀ t, Steps p.tables e below (s₁.setTop (mkF m 0 #[.val (.int p1)] [])) t → Steps p.tables e below (s₁.setTop (entryFrame m #[(.int p1)] 1)) t := fun t k => castTop (ef_1_4 m p1) k
  have k1 := fun (t : State) (kt : Steps p.tables e below (s₁.setTop (mkF m 1 #[.val (.int p1)] [(.int p1)])) t) => pre0 t (by
    refine XS.iloadN X0.here hx rfl (hb hby d1_0) rfl ?_
    show Steps p.tables e below (s₁.setTop (mkF m 1 #[.val (.int p1)] [(.int p1)])) _
    exact kt)
  have k2 := fun (t : State) (kt : Steps p.tables e below (s₁.setTop (mkF m 10 #[.val (.int p1)] [(.int (1 : Int32)), (.int p1)])) t) => k1 t (by
    refine XS.ifYes X0.here hx rfl (pc0 := 1) (pc' := 8) rfl (hb hby d1_1) rfl ((if0 _ _).trans (feq (by rw [hk]; decide)).2) (by decide) (by decide) ?_
    show Steps p.tables e below (s₁.setTop (mkF m 8 #[.val (.int p1)] [])) _
    refine XS.iloadN X0.here hx rfl (hb hby d1_8) rfl ?_
    show Steps p.tables e below (s₁.setTop (mkF m 9 #[.val (.int p1)] [(.int p1)])) _
    refine XS.iconst X0.here hx rfl (hb hby d1_9) ?_
    show Steps p.tables e below (s₁.setTop (mkF m 10 #[.val (.int p1)] [(.int (1 : Int32)), (.int p1)])) _
    exact kt)
  have k3 := fun (t : State) (kt : Steps p.tables e below (s₁.setTop (mkF m 19 #[.val (.int p1)] [(.int (2 : Int32)), (.int p1)])) t) => k2 t (by
    refine XS.icmpYes X0.here hx rfl (pc0 := 10) (pc' := 17) rfl (hb hby d1_10) rfl (feq (by rw [hk]; decide)).2 (by decide) (by decide) ?_
    show Steps p.tables e below (s₁.setTop (mkF m 17 #[.val (.int p1)] [])) _
    refine XS.iloadN X0.here hx rfl (hb hby d1_17) rfl ?_
    show Steps p.tables e below (s₁.setTop (mkF m 18 #[.val (.int p1)] [(.int p1)])) _
    refine XS.iconst X0.here hx rfl (hb hby d1_18) ?_
    show Steps p.tables e below (s₁.setTop (mkF m 19 #[.val (.int p1)] [(.int (2 : Int32)), (.int p1)])) _
    exact kt)
  have k4 := fun (t : State) (kt : Steps p.tables e below (s₁.setTop (mkF m 28 #[.val (.int p1)] [(.int (3 : Int32)), (.int p1)])) t) => k3 t (by
    refine XS.icmpYes X0.here hx rfl (pc0 := 19) (pc' := 26) rfl (hb hby d1_19) rfl (feq (by rw [hk]; decide)).2 (by decide) (by decide) ?_
    show Steps p.tables e below (s₁.setTop (mkF m 26 #[.val (.int p1)] [])) _
    refine XS.iloadN X0.here hx rfl (hb hby d1_26) rfl ?_
    show Steps p.tables e below (s₁.setTop (mkF m 27 #[.val (.int p1)] [(.int p1)])) _
    refine XS.iconst X0.here hx rfl (hb hby d1_27) ?_
    show Steps p.tables e below (s₁.setTop (mkF m 28 #[.val (.int p1)] [(.int (3 : Int32)), (.int p1)])) _
    exact kt)
  have k5 := fun (t : State) (kt : Steps p.tables e below (s₁.setTop (mkF m 37 #[.val (.int p1)] [(.int (4 : Int32)), (.int p1)])) t) => k4 t (by
    refine XS.icmpYes X0.here hx rfl (pc0 := 28) (pc' := 35) rfl (hb hby d1_28) rfl (feq (by rw [hk]; decide)).2 (by decide) (by decide) ?_
    show Steps p.tables e below (s₁.setTop (mkF m 35 #[.val (.int p1)] [])) _
    refine XS.iloadN X0.here hx rfl (hb hby d1_35) rfl ?_
    show Steps p.tables e below (s₁.setTop (mkF m 36 #[.val (.int p1)] [(.int p1)])) _
    refine XS.iconst X0.here hx rfl (hb hby d1_36) ?_
    show Steps p.tables e below (s₁.setTop (mkF m 37 #[.val (.int p1)] [(.int (4 : Int32)), (.int p1)])) _
    exact kt)
  have k6 := fun (t : State) (kt : Steps p.tables e below (s₁.setTop (mkF m 40 #[.val (.int p1)] [])) t) => k5 t (by
    refine XS.icmpNo X0.here hx rfl (hb hby d1_37) rfl (teq hk).2 ?_
    show Steps p.tables e below (s₁.setTop (mkF m 40 #[.val (.int p1)] [])) _
    exact kt)
  obtain ⟨T7, X7, e7, st7⟩ := getS2 X0 hx hZ hown (host := "") (Or.inl (hw _ (List.mem_of_getElem? (i := 25) rfl))) Via.refl e0 S1 (g := (mkF m 40 #[.val (.int p1)] [])) rfl (hb hby d1_40)
  have k8 := fun (t : State) (kt : Steps p.tables e below (T7.setTop (mkF m 43 #[.val (.int p1)] [(.ref a1)])) t) => k6 t (by
    refine st7 _ ?_
    show Steps p.tables e below (T7.setTop (mkF m 43 #[.val (.int p1)] [(.ref a1)])) _
    exact kt)
  obtain ⟨fs, hr, hrun, hended, hW, hsame⟩ := X7.leave (v := some (.ref a1)) (fun h => by rw [Bd.returns] at h; cases h)
  refine ⟨_, _, k8 _ ?_, hrun, hended, _, _, rfl, ?_, ⟨_, rfl⟩, hW, hsame.mono (by decide) (by decide)⟩
  · jvm_step X7.here [X7.here.top, hx, (hb hby d1_43), X7.method', Bd.returns, Value.isRef, FieldType.isReference]
    first | (intro acts; rw [hr _ acts rfl rfl rfl]) | rw [hr _ _ rfl rfl rfl]
    exact Steps.refl _
  · show Q1 a1 h0 n0 _ T7.heap _
    rw [e7]
    exact ⟨rfl, N0, rfl⟩

theorem d1_44 : decode method_2_code 44 = .ok (.getstatic 25, 3) := by decide +kernel
theorem d1_47 : decode method_2_code 47 = .ok (.areturn, 1) := by decide +kernel
theorem ef_1_5 (m : MethodId) (x0 : Int32) : entryFrame m #[(.int x0)] 1 = mkF m 0 #[.val (.int x0)] [] := by first | (simp [entryFrame, mkF, argsToLocals, Value.category]; done) | rfl
set_option maxRecDepth 65536 in
set_option maxHeartbeats 40000000 in
theorem rm1_5 (l : Launch) (Z : State) (a0 : Array Value) (hw : ∀ d ∈ tables_1, d.before a0 Z = true) (ws : List Jvm.Cond) (p1 : Int32) (a1 : Addr) (h0 : Heap) (n0 : Nat) (O0 : Old Z n0 h0) (S1 : Sta Z h0 "com/example/probver/probver/language/Expression$Function" "MOD" "Lcom/example/probver/probver/language/Expression$Function;" (.ref a1)) (hk : p1 = (5 : Int32)) :
    MetFree l (⟨"com/example/probver/probver/language/FunctionTakesPinLaw", "pick", "(I)Lcom/example/probver/probver/language/Expression$Function;"⟩ : MethodName) (head1 (Jvm.Cond.code (⟨"com/example/probver/probver/language/FunctionTakesPinLaw", "pick", "(I)Lcom/example/probver/probver/language/Expression$Function;"⟩ : MethodName) method_2_code 1 (some (.object "com/example/probver/probver/language/Expression$Function")) :: ws) ({ frames := 0, cells := 0, slots := 0, locals := 0 } : Room)) (fun a U => a = #[(.int p1)] ∧ Z.Warmed39 U.vm ∧ U.heap = h0) (fun _ _ _ _ _ => True) (fun _ U o U' => ∃ v L, o = .returned v ∧ Q1 a1 h0 n0 v U'.heap L ∧ FrameEnd U o U' L ({ frames := 0, cells := 0, slots := 0, locals := 0 } : Room).cells ({ frames := 0, cells := 0, slots := 0, locals := 0 } : Room).slots) := by
  refine MetFree.of_bodySF (plainFor_of_name pn_com_example_probver_probver_language_FunctionTakesPinLaw) hisR ?_
  intro p e s m args below meth c s₁ Bd hml0 hP hK
  obtain ⟨rfl, hZ, hh⟩ := hP
  have hx := Bd.exec
  have hby := Bd.bytes
  have hml : c.maxLocals = 1 := hml0
  have hown : s.vm.findClass "com/example/probver/probver/language/FunctionTakesPinLaw" = some m.cls := findClass_of_methodNamed Bd.named
  have hnm := (name_of_methodNamed Bd.named Bd.method).1
  have X0 : Stand p l e ({ frames := 0, cells := 0, slots := 0, locals := 0 } : Room) s m #[(.int p1)] below meth c s₁ [] 0 0 := Stand.of_body Bd
  have e0 : s₁.heap = h0 := by rw [← hh, Bd.state]; rfl
  have N0 := Fr.nil n0
  have pre0 : ∀ t, Steps p.tables e below (s₁.setTop (mkF m 0 #[.val (.int p1)] [])) t → Steps p.tables e below (s₁.setTop (entryFrame m #[(.int p1)] 1)) t := fun t k => castTop (ef_1_5 m p1) k
  have k1 := fun (t : State) (kt : Steps p.tables e below (s₁.setTop (mkF m 1 #[.val (.int p1)] [(.int p1)])) t) => pre0 t (by
    refine XS.iloadN X0.here hx rfl (hb hby d1_0) rfl ?_
    show Steps p.tables e below (s₁.setTop (mkF m 1 #[.val (.int p1)] [(.int p1)])) _
    exact kt)
  have k2 := fun (t : State) (kt : Steps p.tables e below (s₁.setTop (mkF m 10 #[.val (.int p1)] [(.int (1 : Int32)), (.int p1)])) t) => k1 t (by
    refine XS.ifYes X0.here hx rfl (pc0 := 1) (pc' := 8) rfl (hb hby d1_1) rfl ((if0 _ _).trans (feq (by rw [hk]; decide)).2) (by decide) (by decide) ?_
    show Steps p.tables e below (s₁.setTop (mkF m 8 #[.val (.int p1)] [])) _
    refine XS.iloadN X0.here hx rfl (hb hby d1_8) rfl ?_
    show Steps p.tables e below (s₁.setTop (mkF m 9 #[.val (.int p1)] [(.int p1)])) _
    refine XS.iconst X0.here hx rfl (hb hby d1_9) ?_
    show Steps p.tables e below (s₁.setTop (mkF m 10 #[.val (.int p1)] [(.int (1 : Int32)), (.int p1)])) _
    exact kt)
  have k3 := fun (t : State) (kt : Steps p.tables e below (s₁.setTop (mkF m 19 #[.val (.int p1)] [(.int (2 : Int32)), (.int p1)])) t) => k2 t (by
    refine XS.icmpYes X0.here hx rfl (pc0 := 10) (pc' := 17) rfl (hb hby d1_10) rfl (feq (by rw [hk]; decide)).2 (by decide) (by decide) ?_
    show Steps p.tables e below (s₁.setTop (mkF m 17 #[.val (.int p1)] [])) _
    refine XS.iloadN X0.here hx rfl (hb hby d1_17) rfl ?_
    show Steps p.tables e below (s₁.setTop (mkF m 18 #[.val (.int p1)] [(.int p1)])) _
    refine XS.iconst X0.here hx rfl (hb hby d1_18) ?_
    show Steps p.tables e below (s₁.setTop (mkF m 19 #[.val (.int p1)] [(.int (2 : Int32)), (.int p1)])) _
    exact kt)
  have k4 := fun (t : State) (kt : Steps p.tables e below (s₁.setTop (mkF m 28 #[.val (.int p1)] [(.int (3 : Int32)), (.int p1)])) t) => k3 t (by
    refine XS.icmpYes X0.here hx rfl (pc0 := 19) (pc' := 26) rfl (hb hby d1_19) rfl (feq (by rw [hk]; decide)).2 (by decide) (by decide) ?_
    show Steps p.tables e below (s₁.setTop (mkF m 26 #[.val (.int p1)] [])) _
    refine XS.iloadN X0.here hx rfl (hb hby d1_26) rfl ?_
    show Steps p.tables e below (s₁.setTop (mkF m 27 #[.val (.int p1)] [(.int p1)])) _
    refine XS.iconst X0.here hx rfl (hb hby d1_27) ?_
    show Steps p.tables e below (s₁.setTop (mkF m 28 #[.val (.int p1)] [(.int (3 : Int32)), (.int p1)])) _
    exact kt)
  have k5 := fun (t : State) (kt : Steps p.tables e below (s₁.setTop (mkF m 37 #[.val (.int p1)] [(.int (4 : Int32)), (.int p1)])) t) => k4 t (by
    refine XS.icmpYes X0.here hx rfl (pc0 := 28) (pc' := 35) rfl (hb hby d1_28) rfl (feq (by rw [hk]; decide)).2 (by decide) (by decide) ?_
    show Steps p.tables e below (s₁.setTop (mkF m 35 #[.val (.int p1)] [])) _
    refine XS.iloadN X0.here hx rfl (hb hby d1_35) rfl ?_
    show Steps p.tables e below (s₁.setTop (mkF m 36 #[.val (.int p1)] [(.int p1)])) _
    refine XS.iconst X0.here hx rfl (hb hby d1_36) ?_
    show Steps p.tables e below (s₁.setTop (mkF m 37 #[.val (.int p1)] [(.int (4 : Int32)), (.int p1)])) _
    exact kt)
  have k6 := fun (t : State) (kt : Steps p.tables e below (s₁.setTop (mkF m 44 #[.val (.int p1)] [])) t) => k5 t (by
    refine XS.icmpYes X0.here hx rfl (pc0 := 37) (pc' := 44) rfl (hb hby d1_37) rfl (feq (by rw [hk]; decide)).2 (by decide) (by decide) ?_
    show Steps p.tables e below (s₁.setTop (mkF m 44 #[.val (.int p1)] [])) _
    exact kt)
  obtain ⟨T7, X7, e7, st7⟩ := getS2 X0 hx hZ hown (host := "") (Or.inl (hw _ (List.mem_of_getElem? (i := 21) rfl))) Via.refl e0 S1 (g := (mkF m 44 #[.val (.int p1)] [])) rfl (hb hby d1_44)
  have k8 := fun (t : State) (kt : Steps p.tables e below (T7.setTop (mkF m 47 #[.val (.int p1)] [(.ref a1)])) t) => k6 t (by
    refine st7 _ ?_
    show Steps p.tables e below (T7.setTop (mkF m 47 #[.val (.int p1)] [(.ref a1)])) _
    exact kt)
  obtain ⟨fs, hr, hrun, hended, hW, hsame⟩ := X7.leave (v := some (.ref a1)) (fun h => by rw [Bd.returns] at h; cases h)
  refine ⟨_, _, k8 _ ?_, hrun, hended, _, _, rfl, ?_, ⟨_, rfl⟩, hW, hsame.mono (by decide) (by decide)⟩
  · jvm_step X7.here [X7.here.top, hx, (hb hby d1_47), X7.method', Bd.returns, Value.isRef, FieldType.isReference]
    first | (intro acts; rw [hr _ acts rfl rfl rfl]) | rw [hr _ _ rfl rfl rfl]
    exact Steps.refl _
  · show Q1 a1 h0 n0 _ T7.heap _
    rw [e7]
    exact ⟨rfl, N0, rfl⟩

theorem pd_0 : parseMethodDescriptor "(I)Lcom/example/probver/probver/language/Expression$Function;" = some ⟨[.int], some (.object "com/example/probver/probver/language/Expression$Function")⟩ := by decide +kernel
theorem pd_1 : parseMethodDescriptor "(I)Z" = some ⟨[.int], some .boolean⟩ := by decide +kernel
theorem ef_0 (m : MethodId) (x0 : Int32) (x1 : Int32) (x2 : Int32) : entryFrame m #[(.int x0), (.int x1), (.int x2)] maxLocals = mkF m 0 #[.val (.int x0), .val (.int x1), .val (.int x2), .unset, .unset, .unset, .unset] [] := by first | (simp [entryFrame, mkF, argsToLocals, Value.category, maxLocals]; done) | rfl
def Q0 (n0 : Nat) (v : Option Value) (h : Heap) (L : List Loc) : Prop := v = some (.int 1) ∧ Fr n0 L
set_option maxRecDepth 65536 in
set_option maxHeartbeats 40000000 in
theorem rm0 (l : Launch) (Z : State) (a0 : Array Value) (hw : ∀ d ∈ tables_1, d.before a0 Z = true) (ws : List Jvm.Cond) (p1 p2 p3 : Int32) (aMIN : Addr) (aMAX : Addr) (aFLOOR : Addr) (aMOD : Addr) (aCEIL : Addr) (aPOW : Addr) (h0 : Heap) (n0 : Nat) (O0 : Old Z n0 h0) (S_MIN : Sta Z Z.heap "com/example/probver/probver/language/Expression$Function" "MIN" "Lcom/example/probver/probver/language/Expression$Function;" (.ref aMIN)) (E_MIN : Exa Z Z.heap aMIN "com/example/probver/probver/language/Expression$Function") (F_MIN_fewestArguments : Fld Z Z.heap aMIN "com/example/probver/probver/language/Expression$Function" "fewestArguments" "I" (.int (2 : Int32))) (F_MIN_mostArguments : Fld Z Z.heap aMIN "com/example/probver/probver/language/Expression$Function" "mostArguments" "I" (.int (2147483647 : Int32))) (S_MAX : Sta Z Z.heap "com/example/probver/probver/language/Expression$Function" "MAX" "Lcom/example/probver/probver/language/Expression$Function;" (.ref aMAX)) (E_MAX : Exa Z Z.heap aMAX "com/example/probver/probver/language/Expression$Function") (F_MAX_fewestArguments : Fld Z Z.heap aMAX "com/example/probver/probver/language/Expression$Function" "fewestArguments" "I" (.int (2 : Int32))) (F_MAX_mostArguments : Fld Z Z.heap aMAX "com/example/probver/probver/language/Expression$Function" "mostArguments" "I" (.int (2147483647 : Int32))) (S_FLOOR : Sta Z Z.heap "com/example/probver/probver/language/Expression$Function" "FLOOR" "Lcom/example/probver/probver/language/Expression$Function;" (.ref aFLOOR)) (E_FLOOR : Exa Z Z.heap aFLOOR "com/example/probver/probver/language/Expression$Function") (F_FLOOR_fewestArguments : Fld Z Z.heap aFLOOR "com/example/probver/probver/language/Expression$Function" "fewestArguments" "I" (.int (1 : Int32))) (F_FLOOR_mostArguments : Fld Z Z.heap aFLOOR "com/example/probver/probver/language/Expression$Function" "mostArguments" "I" (.int (1 : Int32))) (S_MOD : Sta Z Z.heap "com/example/probver/probver/language/Expression$Function" "MOD" "Lcom/example/probver/probver/language/Expression$Function;" (.ref aMOD)) (E_MOD : Exa Z Z.heap aMOD "com/example/probver/probver/language/Expression$Function") (F_MOD_fewestArguments : Fld Z Z.heap aMOD "com/example/probver/probver/language/Expression$Function" "fewestArguments" "I" (.int (2 : Int32))) (F_MOD_mostArguments : Fld Z Z.heap aMOD "com/example/probver/probver/language/Expression$Function" "mostArguments" "I" (.int (2 : Int32))) (S_CEIL : Sta Z Z.heap "com/example/probver/probver/language/Expression$Function" "CEIL" "Lcom/example/probver/probver/language/Expression$Function;" (.ref aCEIL)) (E_CEIL : Exa Z Z.heap aCEIL "com/example/probver/probver/language/Expression$Function") (F_CEIL_fewestArguments : Fld Z Z.heap aCEIL "com/example/probver/probver/language/Expression$Function" "fewestArguments" "I" (.int (1 : Int32))) (F_CEIL_mostArguments : Fld Z Z.heap aCEIL "com/example/probver/probver/language/Expression$Function" "mostArguments" "I" (.int (1 : Int32))) (S_POW : Sta Z Z.heap "com/example/probver/probver/language/Expression$Function" "POW" "Lcom/example/probver/probver/language/Expression$Function;" (.ref aPOW)) (E_POW : Exa Z Z.heap aPOW "com/example/probver/probver/language/Expression$Function") (F_POW_fewestArguments : Fld Z Z.heap aPOW "com/example/probver/probver/language/Expression$Function" "fewestArguments" "I" (.int (2 : Int32))) (F_POW_mostArguments : Fld Z Z.heap aPOW "com/example/probver/probver/language/Expression$Function" "mostArguments" "I" (.int (2 : Int32))) :
    MetFree l x (head1 (Jvm.Cond.code x code maxLocals ret :: ws) room_1) (fun a U => a = #[(.int p1), (.int p2), (.int p3)] ∧ Z.Warmed39 U.vm ∧ U.heap = h0) (fun _ _ _ _ _ => True) (fun _ U o U' => ∃ v L, o = .returned v ∧ Q0 n0 v U'.heap L ∧ FrameEnd U o U' L 0 0) := by
  refine MetFree.of_bodySF (plainFor_of_name pn_com_example_probver_probver_language_FunctionTakesPinLaw) hisR ?_
  intro p e s m args below meth c s₁ Bd hml0 hP hK
  obtain ⟨rfl, hZ, hh⟩ := hP
  have hx := Bd.exec
  have hby := Bd.bytes
  have hml : c.maxLocals = 7 := hml0
  have hown : s.vm.findClass "com/example/probver/probver/language/FunctionTakesPinLaw" = some m.cls := findClass_of_methodNamed Bd.named
  have hnm := (name_of_methodNamed Bd.named Bd.method).1
  have X0 : Stand p l e room_1 s m #[(.int p1), (.int p2), (.int p3)] below meth c s₁ [] 0 0 := Stand.of_body Bd
  have e0 : s₁.heap = h0 := by rw [← hh, Bd.state]; rfl
  have N0 := Fr.nil n0
  have pre0 : ∀ t, Steps p.tables e below (s₁.setTop (mkF m 0 #[.val (.int p1), .val (.int p2), .val (.int p3), .unset, .unset, .unset, .unset] [])) t → Steps p.tables e below (s₁.setTop (entryFrame m #[(.int p1), (.int p2), (.int p3)] maxLocals)) t := fun t k => castTop (ef_0 m p1 p2 p3) k
  refine cps (A := ∃ n : Int32, ∀ t, Steps p.tables e below (s₁.setTop (mkF m 26 #[.val (.int p1), .val (.int p2), .val (.int p3), .val (.int ((p1 &&& (2147483647 : Int32)) % (6 : Int32))), .val (.int n), .unset, .unset] [])) t → Steps p.tables e below (s₁.setTop (entryFrame m #[(.int p1), (.int p2), (.int p3)] maxLocals)) t) ?_ ?_
  · intro join
    have k1 := fun (t : State) (kt : Steps p.tables e below (s₁.setTop (mkF m 11 #[.val (.int p1), .val (.int p2), .val (.int p3), .val (.int ((p1 &&& (2147483647 : Int32)) % (6 : Int32))), .unset, .unset, .unset] [(.int (p3 &&& (1 : Int32)))])) t) => pre0 t (by
      refine XS.iloadN X0.here hx rfl (hb hby at_0) rfl ?_
      show Steps p.tables e below (s₁.setTop (mkF m 1 #[.val (.int p1), .val (.int p2), .val (.int p3), .unset, .unset, .unset, .unset] [(.int p1)])) _
      refine X0.ldcInt hx hown (mvT hZ (hw _ (List.mem_of_getElem? (i := 0) rfl))) (g := (mkF m 1 #[.val (.int p1), .val (.int p2), .val (.int p3), .unset, .unset, .unset, .unset] [(.int p1)])) rfl (hb hby at_1) _ ?_
      show Steps p.tables e below (s₁.setTop (mkF m 3 #[.val (.int p1), .val (.int p2), .val (.int p3), .unset, .unset, .unset, .unset] [(.int (2147483647 : Int32)), (.int p1)])) _
      refine XS.iand X0.here hx rfl (hb hby at_3) rfl ?_
      show Steps p.tables e below (s₁.setTop (mkF m 4 #[.val (.int p1), .val (.int p2), .val (.int p3), .unset, .unset, .unset, .unset] [(.int (p1 &&& (2147483647 : Int32)))])) _
      refine XS.bipush X0.here hx rfl (hb hby at_4) ?_
      show Steps p.tables e below (s₁.setTop (mkF m 6 #[.val (.int p1), .val (.int p2), .val (.int p3), .unset, .unset, .unset, .unset] [(.int (6 : Int32)), (.int (p1 &&& (2147483647 : Int32)))])) _
      refine iremM X0 hx rfl (hb hby at_6) rfl (by decide) ?_
      show Steps p.tables e below (s₁.setTop (mkF m 7 #[.val (.int p1), .val (.int p2), .val (.int p3), .unset, .unset, .unset, .unset] [(.int ((p1 &&& (2147483647 : Int32)) % (6 : Int32)))])) _
      refine XS.istoreN X0.here hx rfl (hb hby at_7) rfl (l' := #[.val (.int p1), .val (.int p2), .val (.int p3), .val (.int ((p1 &&& (2147483647 : Int32)) % (6 : Int32))), .unset, .unset, .unset]) rfl ?_
      show Steps p.tables e below (s₁.setTop (mkF m 8 #[.val (.int p1), .val (.int p2), .val (.int p3), .val (.int ((p1 &&& (2147483647 : Int32)) % (6 : Int32))), .unset, .unset, .unset] [])) _
      refine XS.iloadN X0.here hx rfl (hb hby at_8) rfl ?_
      show Steps p.tables e below (s₁.setTop (mkF m 9 #[.val (.int p1), .val (.int p2), .val (.int p3), .val (.int ((p1 &&& (2147483647 : Int32)) % (6 : Int32))), .unset, .unset, .unset] [(.int p3)])) _
      refine XS.iconst X0.here hx rfl (hb hby at_9) ?_
      show Steps p.tables e below (s₁.setTop (mkF m 10 #[.val (.int p1), .val (.int p2), .val (.int p3), .val (.int ((p1 &&& (2147483647 : Int32)) % (6 : Int32))), .unset, .unset, .unset] [(.int (1 : Int32)), (.int p3)])) _
      refine XS.iand X0.here hx rfl (hb hby at_10) rfl ?_
      show Steps p.tables e below (s₁.setTop (mkF m 11 #[.val (.int p1), .val (.int p2), .val (.int p3), .val (.int ((p1 &&& (2147483647 : Int32)) % (6 : Int32))), .unset, .unset, .unset] [(.int (p3 &&& (1 : Int32)))])) _
      exact kt)
    by_cases hc11_2 : (p3 &&& (1 : Int32)) = (0 : Int32)
    · have k3 := fun (t : State) (kt : Steps p.tables e below (s₁.setTop (mkF m 26 #[.val (.int p1), .val (.int p2), .val (.int p3), .val (.int ((p1 &&& (2147483647 : Int32)) % (6 : Int32))), .val (.int p2), .unset, .unset] [])) t) => k1 t (by
        refine XS.ifYes X0.here hx rfl (pc0 := 11) (pc' := 23) rfl (hb hby at_11) rfl ((if0 _ _).trans (teq hc11_2).1) (by decide) (by decide) ?_
        show Steps p.tables e below (s₁.setTop (mkF m 23 #[.val (.int p1), .val (.int p2), .val (.int p3), .val (.int ((p1 &&& (2147483647 : Int32)) % (6 : Int32))), .unset, .unset, .unset] [])) _
        refine XS.iloadN X0.here hx rfl (hb hby at_23) rfl ?_
        show Steps p.tables e below (s₁.setTop (mkF m 24 #[.val (.int p1), .val (.int p2), .val (.int p3), .val (.int ((p1 &&& (2147483647 : Int32)) % (6 : Int32))), .unset, .unset, .unset] [(.int p2)])) _
        refine XS.istore X0.here hx rfl (hb hby at_24) rfl (l' := #[.val (.int p1), .val (.int p2), .val (.int p3), .val (.int ((p1 &&& (2147483647 : Int32)) % (6 : Int32))), .val (.int p2), .unset, .unset]) rfl ?_
        show Steps p.tables e below (s₁.setTop (mkF m 26 #[.val (.int p1), .val (.int p2), .val (.int p3), .val (.int ((p1 &&& (2147483647 : Int32)) % (6 : Int32))), .val (.int p2), .unset, .unset] [])) _
        exact kt)
      exact join ⟨_, k3⟩
    · have k4 := fun (t : State) (kt : Steps p.tables e below (s₁.setTop (mkF m 26 #[.val (.int p1), .val (.int p2), .val (.int p3), .val (.int ((p1 &&& (2147483647 : Int32)) % (6 : Int32))), .val (.int ((p2 &&& (7 : Int32)) - (3 : Int32))), .unset, .unset] [])) t) => k1 t (by
        refine XS.ifNo X0.here hx rfl (hb hby at_11) rfl ((if0 _ _).trans (feq hc11_2).1) ?_
        show Steps p.tables e below (s₁.setTop (mkF m 14 #[.val (.int p1), .val (.int p2), .val (.int p3), .val (.int ((p1 &&& (2147483647 : Int32)) % (6 : Int32))), .unset, .unset, .unset] [])) _
        refine XS.iloadN X0.here hx rfl (hb hby at_14) rfl ?_
        show Steps p.tables e below (s₁.setTop (mkF m 15 #[.val (.int p1), .val (.int p2), .val (.int p3), .val (.int ((p1 &&& (2147483647 : Int32)) % (6 : Int32))), .unset, .unset, .unset] [(.int p2)])) _
        refine XS.bipush X0.here hx rfl (hb hby at_15) ?_
        show Steps p.tables e below (s₁.setTop (mkF m 17 #[.val (.int p1), .val (.int p2), .val (.int p3), .val (.int ((p1 &&& (2147483647 : Int32)) % (6 : Int32))), .unset, .unset, .unset] [(.int (7 : Int32)), (.int p2)])) _
        refine XS.iand X0.here hx rfl (hb hby at_17) rfl ?_
        show Steps p.tables e below (s₁.setTop (mkF m 18 #[.val (.int p1), .val (.int p2), .val (.int p3), .val (.int ((p1 &&& (2147483647 : Int32)) % (6 : Int32))), .unset, .unset, .unset] [(.int (p2 &&& (7 : Int32)))])) _
        refine XS.iconst X0.here hx rfl (hb hby at_18) ?_
        show Steps p.tables e below (s₁.setTop (mkF m 19 #[.val (.int p1), .val (.int p2), .val (.int p3), .val (.int ((p1 &&& (2147483647 : Int32)) % (6 : Int32))), .unset, .unset, .unset] [(.int (3 : Int32)), (.int (p2 &&& (7 : Int32)))])) _
        refine XS.isub X0.here hx rfl (hb hby at_19) rfl ?_
        show Steps p.tables e below (s₁.setTop (mkF m 20 #[.val (.int p1), .val (.int p2), .val (.int p3), .val (.int ((p1 &&& (2147483647 : Int32)) % (6 : Int32))), .unset, .unset, .unset] [(.int ((p2 &&& (7 : Int32)) - (3 : Int32)))])) _
        refine XS.goto X0.here hx rfl (pc0 := 20) (pc' := 24) rfl (hb hby at_20) (by decide) (by decide) ?_
        show Steps p.tables e below (s₁.setTop (mkF m 24 #[.val (.int p1), .val (.int p2), .val (.int p3), .val (.int ((p1 &&& (2147483647 : Int32)) % (6 : Int32))), .unset, .unset, .unset] [(.int ((p2 &&& (7 : Int32)) - (3 : Int32)))])) _
        refine XS.istore X0.here hx rfl (hb hby at_24) rfl (l' := #[.val (.int p1), .val (.int p2), .val (.int p3), .val (.int ((p1 &&& (2147483647 : Int32)) % (6 : Int32))), .val (.int ((p2 &&& (7 : Int32)) - (3 : Int32))), .unset, .unset]) rfl ?_
        show Steps p.tables e below (s₁.setTop (mkF m 26 #[.val (.int p1), .val (.int p2), .val (.int p3), .val (.int ((p1 &&& (2147483647 : Int32)) % (6 : Int32))), .val (.int ((p2 &&& (7 : Int32)) - (3 : Int32))), .unset, .unset] [])) _
        exact kt)
      exact join ⟨_, k4⟩
  · rintro ⟨n, kJ⟩
    rcases own_k6 p1 with hk | hk | hk | hk | hk | hk
    · have k5 := fun (t : State) (kt : Steps p.tables e below (s₁.setTop (mkF m 27 #[.val (.int p1), .val (.int p2), .val (.int p3), .val (.int ((p1 &&& (2147483647 : Int32)) % (6 : Int32))), .val (.int n), .unset, .unset] [(.int ((p1 &&& (2147483647 : Int32)) % (6 : Int32)))])) t) => kJ t (by
        refine XS.iloadN X0.here hx rfl (hb hby at_26) rfl ?_
        show Steps p.tables e below (s₁.setTop (mkF m 27 #[.val (.int p1), .val (.int p2), .val (.int p3), .val (.int ((p1 &&& (2147483647 : Int32)) % (6 : Int32))), .val (.int n), .unset, .unset] [(.int ((p1 &&& (2147483647 : Int32)) % (6 : Int32)))])) _
        exact kt)
      obtain ⟨_, _, ⟨T6, L6, k6, n6⟩, -, X6, ⟨Lc6, hQ6, l6, y6, z6⟩, st6⟩ := Jvm.LawKit.callS X0 hx (y := (⟨"com/example/probver/probver/language/FunctionTakesPinLaw", "pick", "(I)Lcom/example/probver/probver/language/Expression$Function;"⟩ : MethodName)) hown (mvT hZ (hw _ (List.mem_of_getElem? (i := 1) rfl))) (mvT hZ (hw _ (List.mem_of_getElem? (i := 2) rfl))) (mvT hZ (hw _ (List.mem_of_getElem? (i := 3) rfl))) (mvT hZ (hw _ (List.mem_of_getElem? (i := 4) rfl))) (by decide) (backOf (W := 0) (rm1_0 l Z a0 hw [] ((p1 &&& (2147483647 : Int32)) % (6 : Int32)) aMIN h0 n0 O0 (S_MIN.ext O0.2) hk) hZ (hw _ (List.mem_of_getElem? (i := 4) rfl)) (hw _ (List.mem_of_getElem? (i := 3) rfl)) (by decide) (by decide)) (g := (mkF m 27 #[.val (.int p1), .val (.int p2), .val (.int p3), .val (.int ((p1 &&& (2147483647 : Int32)) % (6 : Int32))), .val (.int n), .unset, .unset] [(.int ((p1 &&& (2147483647 : Int32)) % (6 : Int32)))])) rfl (by rw [hml]; rfl) (argsL := [(.int ((p1 &&& (2147483647 : Int32)) % (6 : Int32)))]) (rest := []) (lenOf pd_0 rfl) rfl (by show 2 * 0 + _ ≤ _; exact Nat.le_of_eq rfl) (hb hby at_27) (fun _ _ => ⟨rfl, e0, (by decide : 0 + 0 ≤ _), (by decide : 0 + 0 ≤ _)⟩)
      dsimp only [Pt.U, Pt.locs, Pt.cells, Pt.slots] at X6 l6 y6 z6 st6 hQ6
      subst l6 y6 z6
      obtain ⟨rfl, Nq6, eh6⟩ := hQ6
      have N6 := Fr.app N0 Nq6
      have k7 := fun (t : State) (kt : Steps p.tables e below (T6.setTop (mkF m 33 #[.val (.int p1), .val (.int p2), .val (.int p3), .val (.int ((p1 &&& (2147483647 : Int32)) % (6 : Int32))), .val (.int n), .val (.ref aMIN), .unset] [(.int ((p1 &&& (2147483647 : Int32)) % (6 : Int32)))])) t) => k5 t (by
        refine st6 _ ?_
        show Steps p.tables e below (T6.setTop (mkF m 30 #[.val (.int p1), .val (.int p2), .val (.int p3), .val (.int ((p1 &&& (2147483647 : Int32)) % (6 : Int32))), .val (.int n), .unset, .unset] [(.ref aMIN)])) _
        refine XS.astore X6.here hx rfl (hb hby at_30) rfl rfl (l' := #[.val (.int p1), .val (.int p2), .val (.int p3), .val (.int ((p1 &&& (2147483647 : Int32)) % (6 : Int32))), .val (.int n), .val (.ref aMIN), .unset]) rfl ?_
        show Steps p.tables e below (T6.setTop (mkF m 32 #[.val (.int p1), .val (.int p2), .val (.int p3), .val (.int ((p1 &&& (2147483647 : Int32)) % (6 : Int32))), .val (.int n), .val (.ref aMIN), .unset] [])) _
        refine XS.iloadN X6.here hx rfl (hb hby at_32) rfl ?_
        show Steps p.tables e below (T6.setTop (mkF m 33 #[.val (.int p1), .val (.int p2), .val (.int p3), .val (.int ((p1 &&& (2147483647 : Int32)) % (6 : Int32))), .val (.int n), .val (.ref aMIN), .unset] [(.int ((p1 &&& (2147483647 : Int32)) % (6 : Int32)))])) _
        exact kt)
      have k8 := fun (t : State) (kt : Steps p.tables e below (T6.setTop (mkF m 44 #[.val (.int p1), .val (.int p2), .val (.int p3), .val (.int ((p1 &&& (2147483647 : Int32)) % (6 : Int32))), .val (.int n), .val (.ref aMIN), .unset] [(.int (2 : Int32)), (.int n)])) t) => k7 t (by
        refine XS.ifYes X6.here hx rfl (pc0 := 33) (pc' := 41) rfl (hb hby at_33) rfl ((if0 _ _).trans (teq hk).1) (by decide) (by decide) ?_
        show Steps p.tables e below (T6.setTop (mkF m 41 #[.val (.int p1), .val (.int p2), .val (.int p3), .val (.int ((p1 &&& (2147483647 : Int32)) % (6 : Int32))), .val (.int n), .val (.ref aMIN), .unset] [])) _
        refine XS.iload X6.here hx rfl (hb hby at_41) rfl ?_
        show Steps p.tables e below (T6.setTop (mkF m 43 #[.val (.int p1), .val (.int p2), .val (.int p3), .val (.int ((p1 &&& (2147483647 : Int32)) % (6 : Int32))), .val (.int n), .val (.ref aMIN), .unset] [(.int n)])) _
        refine XS.iconst X6.here hx rfl (hb hby at_43) ?_
        show Steps p.tables e below (T6.setTop (mkF m 44 #[.val (.int p1), .val (.int p2), .val (.int p3), .val (.int ((p1 &&& (2147483647 : Int32)) % (6 : Int32))), .val (.int n), .val (.ref aMIN), .unset] [(.int (2 : Int32)), (.int n)])) _
        exact kt)
      by_cases hc44_9 : n < (2 : Int32)
      · have k10 := fun (t : State) (kt : Steps p.tables e below (T6.setTop (mkF m 100 #[.val (.int p1), .val (.int p2), .val (.int p3), .val (.int ((p1 &&& (2147483647 : Int32)) % (6 : Int32))), .val (.int n), .val (.ref aMIN), .val (.int (0 : Int32))] [(.int n), (.ref aMIN)])) t) => k8 t (by
          refine XS.icmpYes X6.here hx rfl (pc0 := 44) (pc' := 51) rfl (hb hby at_44) rfl (tlt hc44_9).1 (by decide) (by decide) ?_
          show Steps p.tables e below (T6.setTop (mkF m 51 #[.val (.int p1), .val (.int p2), .val (.int p3), .val (.int ((p1 &&& (2147483647 : Int32)) % (6 : Int32))), .val (.int n), .val (.ref aMIN), .unset] [])) _
          refine XS.iconst X6.here hx rfl (hb hby at_51) ?_
          show Steps p.tables e below (T6.setTop (mkF m 52 #[.val (.int p1), .val (.int p2), .val (.int p3), .val (.int ((p1 &&& (2147483647 : Int32)) % (6 : Int32))), .val (.int n), .val (.ref aMIN), .unset] [(.int (0 : Int32))])) _
          refine XS.istore X6.here hx rfl (hb hby at_52) rfl (l' := #[.val (.int p1), .val (.int p2), .val (.int p3), .val (.int ((p1 &&& (2147483647 : Int32)) % (6 : Int32))), .val (.int n), .val (.ref aMIN), .val (.int (0 : Int32))]) rfl ?_
          show Steps p.tables e below (T6.setTop (mkF m 54 #[.val (.int p1), .val (.int p2), .val (.int p3), .val (.int ((p1 &&& (2147483647 : Int32)) % (6 : Int32))), .val (.int n), .val (.ref aMIN), .val (.int (0 : Int32))] [])) _
          refine XS.goto X6.here hx rfl (pc0 := 54) (pc' := 96) rfl (hb hby at_54) (by decide) (by decide) ?_
          show Steps p.tables e below (T6.setTop (mkF m 96 #[.val (.int p1), .val (.int p2), .val (.int p3), .val (.int ((p1 &&& (2147483647 : Int32)) % (6 : Int32))), .val (.int n), .val (.ref aMIN), .val (.int (0 : Int32))] [])) _
          refine XS.aload X6.here hx rfl (hb hby at_96) rfl rfl ?_
          show Steps p.tables e below (T6.setTop (mkF m 98 #[.val (.int p1), .val (.int p2), .val (.int p3), .val (.int ((p1 &&& (2147483647 : Int32)) % (6 : Int32))), .val (.int n), .val (.ref aMIN), .val (.int (0 : Int32))] [(.ref aMIN)])) _
          refine XS.iload X6.here hx rfl (hb hby at_98) rfl ?_
          show Steps p.tables e below (T6.setTop (mkF m 100 #[.val (.int p1), .val (.int p2), .val (.int p3), .val (.int ((p1 &&& (2147483647 : Int32)) % (6 : Int32))), .val (.int n), .val (.ref aMIN), .val (.int (0 : Int32))] [(.int n), (.ref aMIN)])) _
          exact kt)
        obtain ⟨cq11, kq11, q11a, q11b, q11c⟩ := isOf hZ eh6 (E_MIN.ext O0.2)
        obtain ⟨_, _, ⟨T11, L11, k11, n11⟩, -, X11, ⟨Lc11, hQ11, l11, y11, z11⟩, st11⟩ := X6.virtualBack hx (y := (⟨"com/example/probver/probver/language/Expression$Function", "takes", "(I)Z"⟩ : MethodName)) (z := (⟨"com/example/probver/probver/language/Expression$Function", "takes", "(I)Z"⟩ : MethodName)) hown (mvT hZ (hw _ (List.mem_of_getElem? (i := 8) rfl))) (mvT hZ (hw _ (List.mem_of_getElem? (i := 9) rfl))) (notFace_of_selects (args := #[]) (mvT hZ (hw _ (List.mem_of_getElem? (i := 11) rfl)))) (mvT hZ (hw _ (List.mem_of_getElem? (i := 11) rfl))) (mvT hZ (hw _ (List.mem_of_getElem? (i := 10) rfl))) (by decide) (backOf (W := 0) (rm2 l Z a0 hw [] aMIN n (2 : Int32) (2147483647 : Int32) h0 n0 O0 (F_MIN_fewestArguments.ext O0.2) (F_MIN_mostArguments.ext O0.2)) hZ (hw _ (List.mem_of_getElem? (i := 12) rfl)) (hw _ (List.mem_of_getElem? (i := 6) rfl)) (by decide) (by decide)) q11a q11c (g := (mkF m 100 #[.val (.int p1), .val (.int p2), .val (.int p3), .val (.int ((p1 &&& (2147483647 : Int32)) % (6 : Int32))), .val (.int n), .val (.ref aMIN), .val (.int (0 : Int32))] [(.int n), (.ref aMIN)])) rfl (by rw [hml]; rfl) (Steps.refl _) (argsL := [(.int n)]) (rest := []) (lenOf pd_1 rfl) rfl (by show 2 * 0 + _ ≤ _; exact Nat.le_of_eq rfl) (hb hby at_100) (fun _ _ => ⟨rfl, eh6, (by decide : 0 + 0 ≤ _), (by decide : 0 + 0 ≤ _)⟩)
        dsimp only [Pt.U, Pt.locs, Pt.cells, Pt.slots] at X11 l11 y11 z11 st11 hQ11
        subst l11 y11 z11
        obtain ⟨rfl, Nq11, eh11⟩ := hQ11
        have N11 := Fr.app N6 Nq11
        have k12 := fun (t : State) (kt : Steps p.tables e below (T11.setTop (mkF m 105 #[.val (.int p1), .val (.int p2), .val (.int p3), .val (.int ((p1 &&& (2147483647 : Int32)) % (6 : Int32))), .val (.int n), .val (.ref aMIN), .val (.int (0 : Int32))] [(.int (0 : Int32)), (.int (own_takes (2 : Int32) (2147483647 : Int32) n))])) t) => k10 t (by
          refine st11.trans ?_
          show Steps p.tables e below (T11.setTop (mkF m 103 #[.val (.int p1), .val (.int p2), .val (.int p3), .val (.int ((p1 &&& (2147483647 : Int32)) % (6 : Int32))), .val (.int n), .val (.ref aMIN), .val (.int (0 : Int32))] [(.int (own_takes (2 : Int32) (2147483647 : Int32) n))])) _
          refine XS.iload X11.here hx rfl (hb hby at_103) rfl ?_
          show Steps p.tables e below (T11.setTop (mkF m 105 #[.val (.int p1), .val (.int p2), .val (.int p3), .val (.int ((p1 &&& (2147483647 : Int32)) % (6 : Int32))), .val (.int n), .val (.ref aMIN), .val (.int (0 : Int32))] [(.int (0 : Int32)), (.int (own_takes (2 : Int32) (2147483647 : Int32) n))])) _
          exact kt)
        have k13 := fun (t : State) (kt : Steps p.tables e below (T11.setTop (mkF m 113 #[.val (.int p1), .val (.int p2), .val (.int p3), .val (.int ((p1 &&& (2147483647 : Int32)) % (6 : Int32))), .val (.int n), .val (.ref aMIN), .val (.int (0 : Int32))] [(.int (1 : Int32))])) t) => k12 t (by
          refine XS.icmpNo X11.here hx rfl (hb hby at_105) rfl (teq (own_mm_lt hc44_9)).2 ?_
          show Steps p.tables e below (T11.setTop (mkF m 108 #[.val (.int p1), .val (.int p2), .val (.int p3), .val (.int ((p1 &&& (2147483647 : Int32)) % (6 : Int32))), .val (.int n), .val (.ref aMIN), .val (.int (0 : Int32))] [])) _
          refine XS.iconst X11.here hx rfl (hb hby at_108) ?_
          show Steps p.tables e below (T11.setTop (mkF m 109 #[.val (.int p1), .val (.int p2), .val (.int p3), .val (.int ((p1 &&& (2147483647 : Int32)) % (6 : Int32))), .val (.int n), .val (.ref aMIN), .val (.int (0 : Int32))] [(.int (1 : Int32))])) _
          refine XS.goto X11.here hx rfl (pc0 := 109) (pc' := 113) rfl (hb hby at_109) (by decide) (by decide) ?_
          show Steps p.tables e below (T11.setTop (mkF m 113 #[.val (.int p1), .val (.int p2), .val (.int p3), .val (.int ((p1 &&& (2147483647 : Int32)) % (6 : Int32))), .val (.int n), .val (.ref aMIN), .val (.int (0 : Int32))] [(.int (1 : Int32))])) _
          exact kt)
        obtain ⟨fs, hr, hrun, hended, hW, hsame⟩ := X11.leave (v := some (.int (1 : Int32))) (fun h => by rw [Bd.returns] at h; cases h)
        refine ⟨_, _, k13 _ ?_, hrun, hended, _, _, rfl, ?_, ⟨_, rfl⟩, hW, hsame.mono (by decide) (by decide)⟩
        · exact retN X11 hx (t := .boolean) Bd.returns (by simp) (hb hby at_113) hr
        · show Q0 n0 _ T11.heap _
          rw [eh11]
          exact ⟨rfl, N11⟩
      · have k14 := fun (t : State) (kt : Steps p.tables e below (T6.setTop (mkF m 100 #[.val (.int p1), .val (.int p2), .val (.int p3), .val (.int ((p1 &&& (2147483647 : Int32)) % (6 : Int32))), .val (.int n), .val (.ref aMIN), .val (.int (1 : Int32))] [(.int n), (.ref aMIN)])) t) => k8 t (by
          refine XS.icmpNo X6.here hx rfl (hb hby at_44) rfl (flt hc44_9).1 ?_
          show Steps p.tables e below (T6.setTop (mkF m 47 #[.val (.int p1), .val (.int p2), .val (.int p3), .val (.int ((p1 &&& (2147483647 : Int32)) % (6 : Int32))), .val (.int n), .val (.ref aMIN), .unset] [])) _
          refine XS.iconst X6.here hx rfl (hb hby at_47) ?_
          show Steps p.tables e below (T6.setTop (mkF m 48 #[.val (.int p1), .val (.int p2), .val (.int p3), .val (.int ((p1 &&& (2147483647 : Int32)) % (6 : Int32))), .val (.int n), .val (.ref aMIN), .unset] [(.int (1 : Int32))])) _
          refine XS.goto X6.here hx rfl (pc0 := 48) (pc' := 52) rfl (hb hby at_48) (by decide) (by decide) ?_
          show Steps p.tables e below (T6.setTop (mkF m 52 #[.val (.int p1), .val (.int p2), .val (.int p3), .val (.int ((p1 &&& (2147483647 : Int32)) % (6 : Int32))), .val (.int n), .val (.ref aMIN), .unset] [(.int (1 : Int32))])) _
          refine XS.istore X6.here hx rfl (hb hby at_52) rfl (l' := #[.val (.int p1), .val (.int p2), .val (.int p3), .val (.int ((p1 &&& (2147483647 : Int32)) % (6 : Int32))), .val (.int n), .val (.ref aMIN), .val (.int (1 : Int32))]) rfl ?_
          show Steps p.tables e below (T6.setTop (mkF m 54 #[.val (.int p1), .val (.int p2), .val (.int p3), .val (.int ((p1 &&& (2147483647 : Int32)) % (6 : Int32))), .val (.int n), .val (.ref aMIN), .val (.int (1 : Int32))] [])) _
          refine XS.goto X6.here hx rfl (pc0 := 54) (pc' := 96) rfl (hb hby at_54) (by decide) (by decide) ?_
          show Steps p.tables e below (T6.setTop (mkF m 96 #[.val (.int p1), .val (.int p2), .val (.int p3), .val (.int ((p1 &&& (2147483647 : Int32)) % (6 : Int32))), .val (.int n), .val (.ref aMIN), .val (.int (1 : Int32))] [])) _
          refine XS.aload X6.here hx rfl (hb hby at_96) rfl rfl ?_
          show Steps p.tables e below (T6.setTop (mkF m 98 #[.val (.int p1), .val (.int p2), .val (.int p3), .val (.int ((p1 &&& (2147483647 : Int32)) % (6 : Int32))), .val (.int n), .val (.ref aMIN), .val (.int (1 : Int32))] [(.ref aMIN)])) _
          refine XS.iload X6.here hx rfl (hb hby at_98) rfl ?_
          show Steps p.tables e below (T6.setTop (mkF m 100 #[.val (.int p1), .val (.int p2), .val (.int p3), .val (.int ((p1 &&& (2147483647 : Int32)) % (6 : Int32))), .val (.int n), .val (.ref aMIN), .val (.int (1 : Int32))] [(.int n), (.ref aMIN)])) _
          exact kt)
        obtain ⟨cq15, kq15, q15a, q15b, q15c⟩ := isOf hZ eh6 (E_MIN.ext O0.2)
        obtain ⟨_, _, ⟨T15, L15, k15, n15⟩, -, X15, ⟨Lc15, hQ15, l15, y15, z15⟩, st15⟩ := X6.virtualBack hx (y := (⟨"com/example/probver/probver/language/Expression$Function", "takes", "(I)Z"⟩ : MethodName)) (z := (⟨"com/example/probver/probver/language/Expression$Function", "takes", "(I)Z"⟩ : MethodName)) hown (mvT hZ (hw _ (List.mem_of_getElem? (i := 8) rfl))) (mvT hZ (hw _ (List.mem_of_getElem? (i := 9) rfl))) (notFace_of_selects (args := #[]) (mvT hZ (hw _ (List.mem_of_getElem? (i := 11) rfl)))) (mvT hZ (hw _ (List.mem_of_getElem? (i := 11) rfl))) (mvT hZ (hw _ (List.mem_of_getElem? (i := 10) rfl))) (by decide) (backOf (W := 0) (rm2 l Z a0 hw [] aMIN n (2 : Int32) (2147483647 : Int32) h0 n0 O0 (F_MIN_fewestArguments.ext O0.2) (F_MIN_mostArguments.ext O0.2)) hZ (hw _ (List.mem_of_getElem? (i := 12) rfl)) (hw _ (List.mem_of_getElem? (i := 6) rfl)) (by decide) (by decide)) q15a q15c (g := (mkF m 100 #[.val (.int p1), .val (.int p2), .val (.int p3), .val (.int ((p1 &&& (2147483647 : Int32)) % (6 : Int32))), .val (.int n), .val (.ref aMIN), .val (.int (1 : Int32))] [(.int n), (.ref aMIN)])) rfl (by rw [hml]; rfl) (Steps.refl _) (argsL := [(.int n)]) (rest := []) (lenOf pd_1 rfl) rfl (by show 2 * 0 + _ ≤ _; exact Nat.le_of_eq rfl) (hb hby at_100) (fun _ _ => ⟨rfl, eh6, (by decide : 0 + 0 ≤ _), (by decide : 0 + 0 ≤ _)⟩)
        dsimp only [Pt.U, Pt.locs, Pt.cells, Pt.slots] at X15 l15 y15 z15 st15 hQ15
        subst l15 y15 z15
        obtain ⟨rfl, Nq15, eh15⟩ := hQ15
        have N15 := Fr.app N6 Nq15
        have k16 := fun (t : State) (kt : Steps p.tables e below (T15.setTop (mkF m 105 #[.val (.int p1), .val (.int p2), .val (.int p3), .val (.int ((p1 &&& (2147483647 : Int32)) % (6 : Int32))), .val (.int n), .val (.ref aMIN), .val (.int (1 : Int32))] [(.int (1 : Int32)), (.int (own_takes (2 : Int32) (2147483647 : Int32) n))])) t) => k14 t (by
          refine st15.trans ?_
          show Steps p.tables e below (T15.setTop (mkF m 103 #[.val (.int p1), .val (.int p2), .val (.int p3), .val (.int ((p1 &&& (2147483647 : Int32)) % (6 : Int32))), .val (.int n), .val (.ref aMIN), .val (.int (1 : Int32))] [(.int (own_takes (2 : Int32) (2147483647 : Int32) n))])) _
          refine XS.iload X15.here hx rfl (hb hby at_103) rfl ?_
          show Steps p.tables e below (T15.setTop (mkF m 105 #[.val (.int p1), .val (.int p2), .val (.int p3), .val (.int ((p1 &&& (2147483647 : Int32)) % (6 : Int32))), .val (.int n), .val (.ref aMIN), .val (.int (1 : Int32))] [(.int (1 : Int32)), (.int (own_takes (2 : Int32) (2147483647 : Int32) n))])) _
          exact kt)
        have k17 := fun (t : State) (kt : Steps p.tables e below (T15.setTop (mkF m 113 #[.val (.int p1), .val (.int p2), .val (.int p3), .val (.int ((p1 &&& (2147483647 : Int32)) % (6 : Int32))), .val (.int n), .val (.ref aMIN), .val (.int (1 : Int32))] [(.int (1 : Int32))])) t) => k16 t (by
          refine XS.icmpNo X15.here hx rfl (hb hby at_105) rfl (teq (own_mm_ge hc44_9)).2 ?_
          show Steps p.tables e below (T15.setTop (mkF m 108 #[.val (.int p1), .val (.int p2), .val (.int p3), .val (.int ((p1 &&& (2147483647 : Int32)) % (6 : Int32))), .val (.int n), .val (.ref aMIN), .val (.int (1 : Int32))] [])) _
          refine XS.iconst X15.here hx rfl (hb hby at_108) ?_
          show Steps p.tables e below (T15.setTop (mkF m 109 #[.val (.int p1), .val (.int p2), .val (.int p3), .val (.int ((p1 &&& (2147483647 : Int32)) % (6 : Int32))), .val (.int n), .val (.ref aMIN), .val (.int (1 : Int32))] [(.int (1 : Int32))])) _
          refine XS.goto X15.here hx rfl (pc0 := 109) (pc' := 113) rfl (hb hby at_109) (by decide) (by decide) ?_
          show Steps p.tables e below (T15.setTop (mkF m 113 #[.val (.int p1), .val (.int p2), .val (.int p3), .val (.int ((p1 &&& (2147483647 : Int32)) % (6 : Int32))), .val (.int n), .val (.ref aMIN), .val (.int (1 : Int32))] [(.int (1 : Int32))])) _
          exact kt)
        obtain ⟨fs, hr, hrun, hended, hW, hsame⟩ := X15.leave (v := some (.int (1 : Int32))) (fun h => by rw [Bd.returns] at h; cases h)
        refine ⟨_, _, k17 _ ?_, hrun, hended, _, _, rfl, ?_, ⟨_, rfl⟩, hW, hsame.mono (by decide) (by decide)⟩
        · exact retN X15 hx (t := .boolean) Bd.returns (by simp) (hb hby at_113) hr
        · show Q0 n0 _ T15.heap _
          rw [eh15]
          exact ⟨rfl, N15⟩
    · have k18 := fun (t : State) (kt : Steps p.tables e below (s₁.setTop (mkF m 27 #[.val (.int p1), .val (.int p2), .val (.int p3), .val (.int ((p1 &&& (2147483647 : Int32)) % (6 : Int32))), .val (.int n), .unset, .unset] [(.int ((p1 &&& (2147483647 : Int32)) % (6 : Int32)))])) t) => kJ t (by
        refine XS.iloadN X0.here hx rfl (hb hby at_26) rfl ?_
        show Steps p.tables e below (s₁.setTop (mkF m 27 #[.val (.int p1), .val (.int p2), .val (.int p3), .val (.int ((p1 &&& (2147483647 : Int32)) % (6 : Int32))), .val (.int n), .unset, .unset] [(.int ((p1 &&& (2147483647 : Int32)) % (6 : Int32)))])) _
        exact kt)
      obtain ⟨_, _, ⟨T19, L19, k19, n19⟩, -, X19, ⟨Lc19, hQ19, l19, y19, z19⟩, st19⟩ := Jvm.LawKit.callS X0 hx (y := (⟨"com/example/probver/probver/language/FunctionTakesPinLaw", "pick", "(I)Lcom/example/probver/probver/language/Expression$Function;"⟩ : MethodName)) hown (mvT hZ (hw _ (List.mem_of_getElem? (i := 1) rfl))) (mvT hZ (hw _ (List.mem_of_getElem? (i := 2) rfl))) (mvT hZ (hw _ (List.mem_of_getElem? (i := 3) rfl))) (mvT hZ (hw _ (List.mem_of_getElem? (i := 4) rfl))) (by decide) (backOf (W := 0) (rm1_1 l Z a0 hw [] ((p1 &&& (2147483647 : Int32)) % (6 : Int32)) aMAX h0 n0 O0 (S_MAX.ext O0.2) hk) hZ (hw _ (List.mem_of_getElem? (i := 4) rfl)) (hw _ (List.mem_of_getElem? (i := 3) rfl)) (by decide) (by decide)) (g := (mkF m 27 #[.val (.int p1), .val (.int p2), .val (.int p3), .val (.int ((p1 &&& (2147483647 : Int32)) % (6 : Int32))), .val (.int n), .unset, .unset] [(.int ((p1 &&& (2147483647 : Int32)) % (6 : Int32)))])) rfl (by rw [hml]; rfl) (argsL := [(.int ((p1 &&& (2147483647 : Int32)) % (6 : Int32)))]) (rest := []) (lenOf pd_0 rfl) rfl (by show 2 * 0 + _ ≤ _; exact Nat.le_of_eq rfl) (hb hby at_27) (fun _ _ => ⟨rfl, e0, (by decide : 0 + 0 ≤ _), (by decide : 0 + 0 ≤ _)⟩)
      dsimp only [Pt.U, Pt.locs, Pt.cells, Pt.slots] at X19 l19 y19 z19 st19 hQ19
      subst l19 y19 z19
      obtain ⟨rfl, Nq19, eh19⟩ := hQ19
      have N19 := Fr.app N0 Nq19
      have k20 := fun (t : State) (kt : Steps p.tables e below (T19.setTop (mkF m 33 #[.val (.int p1), .val (.int p2), .val (.int p3), .val (.int ((p1 &&& (2147483647 : Int32)) % (6 : Int32))), .val (.int n), .val (.ref aMAX), .unset] [(.int ((p1 &&& (2147483647 : Int32)) % (6 : Int32)))])) t) => k18 t (by
        refine st19 _ ?_
        show Steps p.tables e below (T19.setTop (mkF m 30 #[.val (.int p1), .val (.int p2), .val (.int p3), .val (.int ((p1 &&& (2147483647 : Int32)) % (6 : Int32))), .val (.int n), .unset, .unset] [(.ref aMAX)])) _
        refine XS.astore X19.here hx rfl (hb hby at_30) rfl rfl (l' := #[.val (.int p1), .val (.int p2), .val (.int p3), .val (.int ((p1 &&& (2147483647 : Int32)) % (6 : Int32))), .val (.int n), .val (.ref aMAX), .unset]) rfl ?_
        show Steps p.tables e below (T19.setTop (mkF m 32 #[.val (.int p1), .val (.int p2), .val (.int p3), .val (.int ((p1 &&& (2147483647 : Int32)) % (6 : Int32))), .val (.int n), .val (.ref aMAX), .unset] [])) _
        refine XS.iloadN X19.here hx rfl (hb hby at_32) rfl ?_
        show Steps p.tables e below (T19.setTop (mkF m 33 #[.val (.int p1), .val (.int p2), .val (.int p3), .val (.int ((p1 &&& (2147483647 : Int32)) % (6 : Int32))), .val (.int n), .val (.ref aMAX), .unset] [(.int ((p1 &&& (2147483647 : Int32)) % (6 : Int32)))])) _
        exact kt)
      have k21 := fun (t : State) (kt : Steps p.tables e below (T19.setTop (mkF m 38 #[.val (.int p1), .val (.int p2), .val (.int p3), .val (.int ((p1 &&& (2147483647 : Int32)) % (6 : Int32))), .val (.int n), .val (.ref aMAX), .unset] [(.int (1 : Int32)), (.int ((p1 &&& (2147483647 : Int32)) % (6 : Int32)))])) t) => k20 t (by
        refine XS.ifNo X19.here hx rfl (hb hby at_33) rfl ((if0 _ _).trans (feq (by rw [hk]; decide)).1) ?_
        show Steps p.tables e below (T19.setTop (mkF m 36 #[.val (.int p1), .val (.int p2), .val (.int p3), .val (.int ((p1 &&& (2147483647 : Int32)) % (6 : Int32))), .val (.int n), .val (.ref aMAX), .unset] [])) _
        refine XS.iloadN X19.here hx rfl (hb hby at_36) rfl ?_
        show Steps p.tables e below (T19.setTop (mkF m 37 #[.val (.int p1), .val (.int p2), .val (.int p3), .val (.int ((p1 &&& (2147483647 : Int32)) % (6 : Int32))), .val (.int n), .val (.ref aMAX), .unset] [(.int ((p1 &&& (2147483647 : Int32)) % (6 : Int32)))])) _
        refine XS.iconst X19.here hx rfl (hb hby at_37) ?_
        show Steps p.tables e below (T19.setTop (mkF m 38 #[.val (.int p1), .val (.int p2), .val (.int p3), .val (.int ((p1 &&& (2147483647 : Int32)) % (6 : Int32))), .val (.int n), .val (.ref aMAX), .unset] [(.int (1 : Int32)), (.int ((p1 &&& (2147483647 : Int32)) % (6 : Int32)))])) _
        exact kt)
      have k22 := fun (t : State) (kt : Steps p.tables e below (T19.setTop (mkF m 44 #[.val (.int p1), .val (.int p2), .val (.int p3), .val (.int ((p1 &&& (2147483647 : Int32)) % (6 : Int32))), .val (.int n), .val (.ref aMAX), .unset] [(.int (2 : Int32)), (.int n)])) t) => k21 t (by
        refine XS.icmpNo X19.here hx rfl (hb hby at_38) rfl (teq hk).2 ?_
        show Steps p.tables e below (T19.setTop (mkF m 41 #[.val (.int p1), .val (.int p2), .val (.int p3), .val (.int ((p1 &&& (2147483647 : Int32)) % (6 : Int32))), .val (.int n), .val (.ref aMAX), .unset] [])) _
        refine XS.iload X19.here hx rfl (hb hby at_41) rfl ?_
        show Steps p.tables e below (T19.setTop (mkF m 43 #[.val (.int p1), .val (.int p2), .val (.int p3), .val (.int ((p1 &&& (2147483647 : Int32)) % (6 : Int32))), .val (.int n), .val (.ref aMAX), .unset] [(.int n)])) _
        refine XS.iconst X19.here hx rfl (hb hby at_43) ?_
        show Steps p.tables e below (T19.setTop (mkF m 44 #[.val (.int p1), .val (.int p2), .val (.int p3), .val (.int ((p1 &&& (2147483647 : Int32)) % (6 : Int32))), .val (.int n), .val (.ref aMAX), .unset] [(.int (2 : Int32)), (.int n)])) _
        exact kt)
      by_cases hc44_23 : n < (2 : Int32)
      · have k24 := fun (t : State) (kt : Steps p.tables e below (T19.setTop (mkF m 100 #[.val (.int p1), .val (.int p2), .val (.int p3), .val (.int ((p1 &&& (2147483647 : Int32)) % (6 : Int32))), .val (.int n), .val (.ref aMAX), .val (.int (0 : Int32))] [(.int n), (.ref aMAX)])) t) => k22 t (by
          refine XS.icmpYes X19.here hx rfl (pc0 := 44) (pc' := 51) rfl (hb hby at_44) rfl (tlt hc44_23).1 (by decide) (by decide) ?_
          show Steps p.tables e below (T19.setTop (mkF m 51 #[.val (.int p1), .val (.int p2), .val (.int p3), .val (.int ((p1 &&& (2147483647 : Int32)) % (6 : Int32))), .val (.int n), .val (.ref aMAX), .unset] [])) _
          refine XS.iconst X19.here hx rfl (hb hby at_51) ?_
          show Steps p.tables e below (T19.setTop (mkF m 52 #[.val (.int p1), .val (.int p2), .val (.int p3), .val (.int ((p1 &&& (2147483647 : Int32)) % (6 : Int32))), .val (.int n), .val (.ref aMAX), .unset] [(.int (0 : Int32))])) _
          refine XS.istore X19.here hx rfl (hb hby at_52) rfl (l' := #[.val (.int p1), .val (.int p2), .val (.int p3), .val (.int ((p1 &&& (2147483647 : Int32)) % (6 : Int32))), .val (.int n), .val (.ref aMAX), .val (.int (0 : Int32))]) rfl ?_
          show Steps p.tables e below (T19.setTop (mkF m 54 #[.val (.int p1), .val (.int p2), .val (.int p3), .val (.int ((p1 &&& (2147483647 : Int32)) % (6 : Int32))), .val (.int n), .val (.ref aMAX), .val (.int (0 : Int32))] [])) _
          refine XS.goto X19.here hx rfl (pc0 := 54) (pc' := 96) rfl (hb hby at_54) (by decide) (by decide) ?_
          show Steps p.tables e below (T19.setTop (mkF m 96 #[.val (.int p1), .val (.int p2), .val (.int p3), .val (.int ((p1 &&& (2147483647 : Int32)) % (6 : Int32))), .val (.int n), .val (.ref aMAX), .val (.int (0 : Int32))] [])) _
          refine XS.aload X19.here hx rfl (hb hby at_96) rfl rfl ?_
          show Steps p.tables e below (T19.setTop (mkF m 98 #[.val (.int p1), .val (.int p2), .val (.int p3), .val (.int ((p1 &&& (2147483647 : Int32)) % (6 : Int32))), .val (.int n), .val (.ref aMAX), .val (.int (0 : Int32))] [(.ref aMAX)])) _
          refine XS.iload X19.here hx rfl (hb hby at_98) rfl ?_
          show Steps p.tables e below (T19.setTop (mkF m 100 #[.val (.int p1), .val (.int p2), .val (.int p3), .val (.int ((p1 &&& (2147483647 : Int32)) % (6 : Int32))), .val (.int n), .val (.ref aMAX), .val (.int (0 : Int32))] [(.int n), (.ref aMAX)])) _
          exact kt)
        obtain ⟨cq25, kq25, q25a, q25b, q25c⟩ := isOf hZ eh19 (E_MAX.ext O0.2)
        obtain ⟨_, _, ⟨T25, L25, k25, n25⟩, -, X25, ⟨Lc25, hQ25, l25, y25, z25⟩, st25⟩ := X19.virtualBack hx (y := (⟨"com/example/probver/probver/language/Expression$Function", "takes", "(I)Z"⟩ : MethodName)) (z := (⟨"com/example/probver/probver/language/Expression$Function", "takes", "(I)Z"⟩ : MethodName)) hown (mvT hZ (hw _ (List.mem_of_getElem? (i := 8) rfl))) (mvT hZ (hw _ (List.mem_of_getElem? (i := 9) rfl))) (notFace_of_selects (args := #[]) (mvT hZ (hw _ (List.mem_of_getElem? (i := 11) rfl)))) (mvT hZ (hw _ (List.mem_of_getElem? (i := 11) rfl))) (mvT hZ (hw _ (List.mem_of_getElem? (i := 10) rfl))) (by decide) (backOf (W := 0) (rm2 l Z a0 hw [] aMAX n (2 : Int32) (2147483647 : Int32) h0 n0 O0 (F_MAX_fewestArguments.ext O0.2) (F_MAX_mostArguments.ext O0.2)) hZ (hw _ (List.mem_of_getElem? (i := 12) rfl)) (hw _ (List.mem_of_getElem? (i := 6) rfl)) (by decide) (by decide)) q25a q25c (g := (mkF m 100 #[.val (.int p1), .val (.int p2), .val (.int p3), .val (.int ((p1 &&& (2147483647 : Int32)) % (6 : Int32))), .val (.int n), .val (.ref aMAX), .val (.int (0 : Int32))] [(.int n), (.ref aMAX)])) rfl (by rw [hml]; rfl) (Steps.refl _) (argsL := [(.int n)]) (rest := []) (lenOf pd_1 rfl) rfl (by show 2 * 0 + _ ≤ _; exact Nat.le_of_eq rfl) (hb hby at_100) (fun _ _ => ⟨rfl, eh19, (by decide : 0 + 0 ≤ _), (by decide : 0 + 0 ≤ _)⟩)
        dsimp only [Pt.U, Pt.locs, Pt.cells, Pt.slots] at X25 l25 y25 z25 st25 hQ25
        subst l25 y25 z25
        obtain ⟨rfl, Nq25, eh25⟩ := hQ25
        have N25 := Fr.app N19 Nq25
        have k26 := fun (t : State) (kt : Steps p.tables e below (T25.setTop (mkF m 105 #[.val (.int p1), .val (.int p2), .val (.int p3), .val (.int ((p1 &&& (2147483647 : Int32)) % (6 : Int32))), .val (.int n), .val (.ref aMAX), .val (.int (0 : Int32))] [(.int (0 : Int32)), (.int (own_takes (2 : Int32) (2147483647 : Int32) n))])) t) => k24 t (by
          refine st25.trans ?_
          show Steps p.tables e below (T25.setTop (mkF m 103 #[.val (.int p1), .val (.int p2), .val (.int p3), .val (.int ((p1 &&& (2147483647 : Int32)) % (6 : Int32))), .val (.int n), .val (.ref aMAX), .val (.int (0 : Int32))] [(.int (own_takes (2 : Int32) (2147483647 : Int32) n))])) _
          refine XS.iload X25.here hx rfl (hb hby at_103) rfl ?_
          show Steps p.tables e below (T25.setTop (mkF m 105 #[.val (.int p1), .val (.int p2), .val (.int p3), .val (.int ((p1 &&& (2147483647 : Int32)) % (6 : Int32))), .val (.int n), .val (.ref aMAX), .val (.int (0 : Int32))] [(.int (0 : Int32)), (.int (own_takes (2 : Int32) (2147483647 : Int32) n))])) _
          exact kt)
        have k27 := fun (t : State) (kt : Steps p.tables e below (T25.setTop (mkF m 113 #[.val (.int p1), .val (.int p2), .val (.int p3), .val (.int ((p1 &&& (2147483647 : Int32)) % (6 : Int32))), .val (.int n), .val (.ref aMAX), .val (.int (0 : Int32))] [(.int (1 : Int32))])) t) => k26 t (by
          refine XS.icmpNo X25.here hx rfl (hb hby at_105) rfl (teq (own_mm_lt hc44_23)).2 ?_
          show Steps p.tables e below (T25.setTop (mkF m 108 #[.val (.int p1), .val (.int p2), .val (.int p3), .val (.int ((p1 &&& (2147483647 : Int32)) % (6 : Int32))), .val (.int n), .val (.ref aMAX), .val (.int (0 : Int32))] [])) _
          refine XS.iconst X25.here hx rfl (hb hby at_108) ?_
          show Steps p.tables e below (T25.setTop (mkF m 109 #[.val (.int p1), .val (.int p2), .val (.int p3), .val (.int ((p1 &&& (2147483647 : Int32)) % (6 : Int32))), .val (.int n), .val (.ref aMAX), .val (.int (0 : Int32))] [(.int (1 : Int32))])) _
          refine XS.goto X25.here hx rfl (pc0 := 109) (pc' := 113) rfl (hb hby at_109) (by decide) (by decide) ?_
          show Steps p.tables e below (T25.setTop (mkF m 113 #[.val (.int p1), .val (.int p2), .val (.int p3), .val (.int ((p1 &&& (2147483647 : Int32)) % (6 : Int32))), .val (.int n), .val (.ref aMAX), .val (.int (0 : Int32))] [(.int (1 : Int32))])) _
          exact kt)
        obtain ⟨fs, hr, hrun, hended, hW, hsame⟩ := X25.leave (v := some (.int (1 : Int32))) (fun h => by rw [Bd.returns] at h; cases h)
        refine ⟨_, _, k27 _ ?_, hrun, hended, _, _, rfl, ?_, ⟨_, rfl⟩, hW, hsame.mono (by decide) (by decide)⟩
        · exact retN X25 hx (t := .boolean) Bd.returns (by simp) (hb hby at_113) hr
        · show Q0 n0 _ T25.heap _
          rw [eh25]
          exact ⟨rfl, N25⟩
      · have k28 := fun (t : State) (kt : Steps p.tables e below (T19.setTop (mkF m 100 #[.val (.int p1), .val (.int p2), .val (.int p3), .val (.int ((p1 &&& (2147483647 : Int32)) % (6 : Int32))), .val (.int n), .val (.ref aMAX), .val (.int (1 : Int32))] [(.int n), (.ref aMAX)])) t) => k22 t (by
          refine XS.icmpNo X19.here hx rfl (hb hby at_44) rfl (flt hc44_23).1 ?_
          show Steps p.tables e below (T19.setTop (mkF m 47 #[.val (.int p1), .val (.int p2), .val (.int p3), .val (.int ((p1 &&& (2147483647 : Int32)) % (6 : Int32))), .val (.int n), .val (.ref aMAX), .unset] [])) _
          refine XS.iconst X19.here hx rfl (hb hby at_47) ?_
          show Steps p.tables e below (T19.setTop (mkF m 48 #[.val (.int p1), .val (.int p2), .val (.int p3), .val (.int ((p1 &&& (2147483647 : Int32)) % (6 : Int32))), .val (.int n), .val (.ref aMAX), .unset] [(.int (1 : Int32))])) _
          refine XS.goto X19.here hx rfl (pc0 := 48) (pc' := 52) rfl (hb hby at_48) (by decide) (by decide) ?_
          show Steps p.tables e below (T19.setTop (mkF m 52 #[.val (.int p1), .val (.int p2), .val (.int p3), .val (.int ((p1 &&& (2147483647 : Int32)) % (6 : Int32))), .val (.int n), .val (.ref aMAX), .unset] [(.int (1 : Int32))])) _
          refine XS.istore X19.here hx rfl (hb hby at_52) rfl (l' := #[.val (.int p1), .val (.int p2), .val (.int p3), .val (.int ((p1 &&& (2147483647 : Int32)) % (6 : Int32))), .val (.int n), .val (.ref aMAX), .val (.int (1 : Int32))]) rfl ?_
          show Steps p.tables e below (T19.setTop (mkF m 54 #[.val (.int p1), .val (.int p2), .val (.int p3), .val (.int ((p1 &&& (2147483647 : Int32)) % (6 : Int32))), .val (.int n), .val (.ref aMAX), .val (.int (1 : Int32))] [])) _
          refine XS.goto X19.here hx rfl (pc0 := 54) (pc' := 96) rfl (hb hby at_54) (by decide) (by decide) ?_
          show Steps p.tables e below (T19.setTop (mkF m 96 #[.val (.int p1), .val (.int p2), .val (.int p3), .val (.int ((p1 &&& (2147483647 : Int32)) % (6 : Int32))), .val (.int n), .val (.ref aMAX), .val (.int (1 : Int32))] [])) _
          refine XS.aload X19.here hx rfl (hb hby at_96) rfl rfl ?_
          show Steps p.tables e below (T19.setTop (mkF m 98 #[.val (.int p1), .val (.int p2), .val (.int p3), .val (.int ((p1 &&& (2147483647 : Int32)) % (6 : Int32))), .val (.int n), .val (.ref aMAX), .val (.int (1 : Int32))] [(.ref aMAX)])) _
          refine XS.iload X19.here hx rfl (hb hby at_98) rfl ?_
          show Steps p.tables e below (T19.setTop (mkF m 100 #[.val (.int p1), .val (.int p2), .val (.int p3), .val (.int ((p1 &&& (2147483647 : Int32)) % (6 : Int32))), .val (.int n), .val (.ref aMAX), .val (.int (1 : Int32))] [(.int n), (.ref aMAX)])) _
          exact kt)
        obtain ⟨cq29, kq29, q29a, q29b, q29c⟩ := isOf hZ eh19 (E_MAX.ext O0.2)
        obtain ⟨_, _, ⟨T29, L29, k29, n29⟩, -, X29, ⟨Lc29, hQ29, l29, y29, z29⟩, st29⟩ := X19.virtualBack hx (y := (⟨"com/example/probver/probver/language/Expression$Function", "takes", "(I)Z"⟩ : MethodName)) (z := (⟨"com/example/probver/probver/language/Expression$Function", "takes", "(I)Z"⟩ : MethodName)) hown (mvT hZ (hw _ (List.mem_of_getElem? (i := 8) rfl))) (mvT hZ (hw _ (List.mem_of_getElem? (i := 9) rfl))) (notFace_of_selects (args := #[]) (mvT hZ (hw _ (List.mem_of_getElem? (i := 11) rfl)))) (mvT hZ (hw _ (List.mem_of_getElem? (i := 11) rfl))) (mvT hZ (hw _ (List.mem_of_getElem? (i := 10) rfl))) (by decide) (backOf (W := 0) (rm2 l Z a0 hw [] aMAX n (2 : Int32) (2147483647 : Int32) h0 n0 O0 (F_MAX_fewestArguments.ext O0.2) (F_MAX_mostArguments.ext O0.2)) hZ (hw _ (List.mem_of_getElem? (i := 12) rfl)) (hw _ (List.mem_of_getElem? (i := 6) rfl)) (by decide) (by decide)) q29a q29c (g := (mkF m 100 #[.val (.int p1), .val (.int p2), .val (.int p3), .val (.int ((p1 &&& (2147483647 : Int32)) % (6 : Int32))), .val (.int n), .val (.ref aMAX), .val (.int (1 : Int32))] [(.int n), (.ref aMAX)])) rfl (by rw [hml]; rfl) (Steps.refl _) (argsL := [(.int n)]) (rest := []) (lenOf pd_1 rfl) rfl (by show 2 * 0 + _ ≤ _; exact Nat.le_of_eq rfl) (hb hby at_100) (fun _ _ => ⟨rfl, eh19, (by decide : 0 + 0 ≤ _), (by decide : 0 + 0 ≤ _)⟩)
        dsimp only [Pt.U, Pt.locs, Pt.cells, Pt.slots] at X29 l29 y29 z29 st29 hQ29
        subst l29 y29 z29
        obtain ⟨rfl, Nq29, eh29⟩ := hQ29
        have N29 := Fr.app N19 Nq29
        have k30 := fun (t : State) (kt : Steps p.tables e below (T29.setTop (mkF m 105 #[.val (.int p1), .val (.int p2), .val (.int p3), .val (.int ((p1 &&& (2147483647 : Int32)) % (6 : Int32))), .val (.int n), .val (.ref aMAX), .val (.int (1 : Int32))] [(.int (1 : Int32)), (.int (own_takes (2 : Int32) (2147483647 : Int32) n))])) t) => k28 t (by
          refine st29.trans ?_
          show Steps p.tables e below (T29.setTop (mkF m 103 #[.val (.int p1), .val (.int p2), .val (.int p3), .val (.int ((p1 &&& (2147483647 : Int32)) % (6 : Int32))), .val (.int n), .val (.ref aMAX), .val (.int (1 : Int32))] [(.int (own_takes (2 : Int32) (2147483647 : Int32) n))])) _
          refine XS.iload X29.here hx rfl (hb hby at_103) rfl ?_
          show Steps p.tables e below (T29.setTop (mkF m 105 #[.val (.int p1), .val (.int p2), .val (.int p3), .val (.int ((p1 &&& (2147483647 : Int32)) % (6 : Int32))), .val (.int n), .val (.ref aMAX), .val (.int (1 : Int32))] [(.int (1 : Int32)), (.int (own_takes (2 : Int32) (2147483647 : Int32) n))])) _
          exact kt)
        have k31 := fun (t : State) (kt : Steps p.tables e below (T29.setTop (mkF m 113 #[.val (.int p1), .val (.int p2), .val (.int p3), .val (.int ((p1 &&& (2147483647 : Int32)) % (6 : Int32))), .val (.int n), .val (.ref aMAX), .val (.int (1 : Int32))] [(.int (1 : Int32))])) t) => k30 t (by
          refine XS.icmpNo X29.here hx rfl (hb hby at_105) rfl (teq (own_mm_ge hc44_23)).2 ?_
          show Steps p.tables e below (T29.setTop (mkF m 108 #[.val (.int p1), .val (.int p2), .val (.int p3), .val (.int ((p1 &&& (2147483647 : Int32)) % (6 : Int32))), .val (.int n), .val (.ref aMAX), .val (.int (1 : Int32))] [])) _
          refine XS.iconst X29.here hx rfl (hb hby at_108) ?_
          show Steps p.tables e below (T29.setTop (mkF m 109 #[.val (.int p1), .val (.int p2), .val (.int p3), .val (.int ((p1 &&& (2147483647 : Int32)) % (6 : Int32))), .val (.int n), .val (.ref aMAX), .val (.int (1 : Int32))] [(.int (1 : Int32))])) _
          refine XS.goto X29.here hx rfl (pc0 := 109) (pc' := 113) rfl (hb hby at_109) (by decide) (by decide) ?_
          show Steps p.tables e below (T29.setTop (mkF m 113 #[.val (.int p1), .val (.int p2), .val (.int p3), .val (.int ((p1 &&& (2147483647 : Int32)) % (6 : Int32))), .val (.int n), .val (.ref aMAX), .val (.int (1 : Int32))] [(.int (1 : Int32))])) _
          exact kt)
        obtain ⟨fs, hr, hrun, hended, hW, hsame⟩ := X29.leave (v := some (.int (1 : Int32))) (fun h => by rw [Bd.returns] at h; cases h)
        refine ⟨_, _, k31 _ ?_, hrun, hended, _, _, rfl, ?_, ⟨_, rfl⟩, hW, hsame.mono (by decide) (by decide)⟩
        · exact retN X29 hx (t := .boolean) Bd.returns (by simp) (hb hby at_113) hr
        · show Q0 n0 _ T29.heap _
          rw [eh29]
          exact ⟨rfl, N29⟩
    · have k32 := fun (t : State) (kt : Steps p.tables e below (s₁.setTop (mkF m 27 #[.val (.int p1), .val (.int p2), .val (.int p3), .val (.int ((p1 &&& (2147483647 : Int32)) % (6 : Int32))), .val (.int n), .unset, .unset] [(.int ((p1 &&& (2147483647 : Int32)) % (6 : Int32)))])) t) => kJ t (by
        refine XS.iloadN X0.here hx rfl (hb hby at_26) rfl ?_
        show Steps p.tables e below (s₁.setTop (mkF m 27 #[.val (.int p1), .val (.int p2), .val (.int p3), .val (.int ((p1 &&& (2147483647 : Int32)) % (6 : Int32))), .val (.int n), .unset, .unset] [(.int ((p1 &&& (2147483647 : Int32)) % (6 : Int32)))])) _
        exact kt)
      obtain ⟨_, _, ⟨T33, L33, k33, n33⟩, -, X33, ⟨Lc33, hQ33, l33, y33, z33⟩, st33⟩ := Jvm.LawKit.callS X0 hx (y := (⟨"com/example/probver/probver/language/FunctionTakesPinLaw", "pick", "(I)Lcom/example/probver/probver/language/Expression$Function;"⟩ : MethodName)) hown (mvT hZ (hw _ (List.mem_of_getElem? (i := 1) rfl))) (mvT hZ (hw _ (List.mem_of_getElem? (i := 2) rfl))) (mvT hZ (hw _ (List.mem_of_getElem? (i := 3) rfl))) (mvT hZ (hw _ (List.mem_of_getElem? (i := 4) rfl))) (by decide) (backOf (W := 0) (rm1_2 l Z a0 hw [] ((p1 &&& (2147483647 : Int32)) % (6 : Int32)) aFLOOR h0 n0 O0 (S_FLOOR.ext O0.2) hk) hZ (hw _ (List.mem_of_getElem? (i := 4) rfl)) (hw _ (List.mem_of_getElem? (i := 3) rfl)) (by decide) (by decide)) (g := (mkF m 27 #[.val (.int p1), .val (.int p2), .val (.int p3), .val (.int ((p1 &&& (2147483647 : Int32)) % (6 : Int32))), .val (.int n), .unset, .unset] [(.int ((p1 &&& (2147483647 : Int32)) % (6 : Int32)))])) rfl (by rw [hml]; rfl) (argsL := [(.int ((p1 &&& (2147483647 : Int32)) % (6 : Int32)))]) (rest := []) (lenOf pd_0 rfl) rfl (by show 2 * 0 + _ ≤ _; exact Nat.le_of_eq rfl) (hb hby at_27) (fun _ _ => ⟨rfl, e0, (by decide : 0 + 0 ≤ _), (by decide : 0 + 0 ≤ _)⟩)
      dsimp only [Pt.U, Pt.locs, Pt.cells, Pt.slots] at X33 l33 y33 z33 st33 hQ33
      subst l33 y33 z33
      obtain ⟨rfl, Nq33, eh33⟩ := hQ33
      have N33 := Fr.app N0 Nq33
      have k34 := fun (t : State) (kt : Steps p.tables e below (T33.setTop (mkF m 33 #[.val (.int p1), .val (.int p2), .val (.int p3), .val (.int ((p1 &&& (2147483647 : Int32)) % (6 : Int32))), .val (.int n), .val (.ref aFLOOR), .unset] [(.int ((p1 &&& (2147483647 : Int32)) % (6 : Int32)))])) t) => k32 t (by
        refine st33 _ ?_
        show Steps p.tables e below (T33.setTop (mkF m 30 #[.val (.int p1), .val (.int p2), .val (.int p3), .val (.int ((p1 &&& (2147483647 : Int32)) % (6 : Int32))), .val (.int n), .unset, .unset] [(.ref aFLOOR)])) _
        refine XS.astore X33.here hx rfl (hb hby at_30) rfl rfl (l' := #[.val (.int p1), .val (.int p2), .val (.int p3), .val (.int ((p1 &&& (2147483647 : Int32)) % (6 : Int32))), .val (.int n), .val (.ref aFLOOR), .unset]) rfl ?_
        show Steps p.tables e below (T33.setTop (mkF m 32 #[.val (.int p1), .val (.int p2), .val (.int p3), .val (.int ((p1 &&& (2147483647 : Int32)) % (6 : Int32))), .val (.int n), .val (.ref aFLOOR), .unset] [])) _
        refine XS.iloadN X33.here hx rfl (hb hby at_32) rfl ?_
        show Steps p.tables e below (T33.setTop (mkF m 33 #[.val (.int p1), .val (.int p2), .val (.int p3), .val (.int ((p1 &&& (2147483647 : Int32)) % (6 : Int32))), .val (.int n), .val (.ref aFLOOR), .unset] [(.int ((p1 &&& (2147483647 : Int32)) % (6 : Int32)))])) _
        exact kt)
      have k35 := fun (t : State) (kt : Steps p.tables e below (T33.setTop (mkF m 38 #[.val (.int p1), .val (.int p2), .val (.int p3), .val (.int ((p1 &&& (2147483647 : Int32)) % (6 : Int32))), .val (.int n), .val (.ref aFLOOR), .unset] [(.int (1 : Int32)), (.int ((p1 &&& (2147483647 : Int32)) % (6 : Int32)))])) t) => k34 t (by
        refine XS.ifNo X33.here hx rfl (hb hby at_33) rfl ((if0 _ _).trans (feq (by rw [hk]; decide)).1) ?_
        show Steps p.tables e below (T33.setTop (mkF m 36 #[.val (.int p1), .val (.int p2), .val (.int p3), .val (.int ((p1 &&& (2147483647 : Int32)) % (6 : Int32))), .val (.int n), .val (.ref aFLOOR), .unset] [])) _
        refine XS.iloadN X33.here hx rfl (hb hby at_36) rfl ?_
        show Steps p.tables e below (T33.setTop (mkF m 37 #[.val (.int p1), .val (.int p2), .val (.int p3), .val (.int ((p1 &&& (2147483647 : Int32)) % (6 : Int32))), .val (.int n), .val (.ref aFLOOR), .unset] [(.int ((p1 &&& (2147483647 : Int32)) % (6 : Int32)))])) _
        refine XS.iconst X33.here hx rfl (hb hby at_37) ?_
        show Steps p.tables e below (T33.setTop (mkF m 38 #[.val (.int p1), .val (.int p2), .val (.int p3), .val (.int ((p1 &&& (2147483647 : Int32)) % (6 : Int32))), .val (.int n), .val (.ref aFLOOR), .unset] [(.int (1 : Int32)), (.int ((p1 &&& (2147483647 : Int32)) % (6 : Int32)))])) _
        exact kt)
      have k36 := fun (t : State) (kt : Steps p.tables e below (T33.setTop (mkF m 59 #[.val (.int p1), .val (.int p2), .val (.int p3), .val (.int ((p1 &&& (2147483647 : Int32)) % (6 : Int32))), .val (.int n), .val (.ref aFLOOR), .unset] [(.int (2 : Int32)), (.int ((p1 &&& (2147483647 : Int32)) % (6 : Int32)))])) t) => k35 t (by
        refine XS.icmpYes X33.here hx rfl (pc0 := 38) (pc' := 57) rfl (hb hby at_38) rfl (feq (by rw [hk]; decide)).2 (by decide) (by decide) ?_
        show Steps p.tables e below (T33.setTop (mkF m 57 #[.val (.int p1), .val (.int p2), .val (.int p3), .val (.int ((p1 &&& (2147483647 : Int32)) % (6 : Int32))), .val (.int n), .val (.ref aFLOOR), .unset] [])) _
        refine XS.iloadN X33.here hx rfl (hb hby at_57) rfl ?_
        show Steps p.tables e below (T33.setTop (mkF m 58 #[.val (.int p1), .val (.int p2), .val (.int p3), .val (.int ((p1 &&& (2147483647 : Int32)) % (6 : Int32))), .val (.int n), .val (.ref aFLOOR), .unset] [(.int ((p1 &&& (2147483647 : Int32)) % (6 : Int32)))])) _
        refine XS.iconst X33.here hx rfl (hb hby at_58) ?_
        show Steps p.tables e below (T33.setTop (mkF m 59 #[.val (.int p1), .val (.int p2), .val (.int p3), .val (.int ((p1 &&& (2147483647 : Int32)) % (6 : Int32))), .val (.int n), .val (.ref aFLOOR), .unset] [(.int (2 : Int32)), (.int ((p1 &&& (2147483647 : Int32)) % (6 : Int32)))])) _
        exact kt)
      have k37 := fun (t : State) (kt : Steps p.tables e below (T33.setTop (mkF m 70 #[.val (.int p1), .val (.int p2), .val (.int p3), .val (.int ((p1 &&& (2147483647 : Int32)) % (6 : Int32))), .val (.int n), .val (.ref aFLOOR), .unset] [(.int (1 : Int32)), (.int n)])) t) => k36 t (by
        refine XS.icmpYes X33.here hx rfl (pc0 := 59) (pc' := 67) rfl (hb hby at_59) rfl (teq hk).1 (by decide) (by decide) ?_
        show Steps p.tables e below (T33.setTop (mkF m 67 #[.val (.int p1), .val (.int p2), .val (.int p3), .val (.int ((p1 &&& (2147483647 : Int32)) % (6 : Int32))), .val (.int n), .val (.ref aFLOOR), .unset] [])) _
        refine XS.iload X33.here hx rfl (hb hby at_67) rfl ?_
        show Steps p.tables e below (T33.setTop (mkF m 69 #[.val (.int p1), .val (.int p2), .val (.int p3), .val (.int ((p1 &&& (2147483647 : Int32)) % (6 : Int32))), .val (.int n), .val (.ref aFLOOR), .unset] [(.int n)])) _
        refine XS.iconst X33.here hx rfl (hb hby at_69) ?_
        show Steps p.tables e below (T33.setTop (mkF m 70 #[.val (.int p1), .val (.int p2), .val (.int p3), .val (.int ((p1 &&& (2147483647 : Int32)) % (6 : Int32))), .val (.int n), .val (.ref aFLOOR), .unset] [(.int (1 : Int32)), (.int n)])) _
        exact kt)
      by_cases hc70_38 : n = (1 : Int32)
      · have k39 := fun (t : State) (kt : Steps p.tables e below (T33.setTop (mkF m 100 #[.val (.int p1), .val (.int p2), .val (.int p3), .val (.int ((p1 &&& (2147483647 : Int32)) % (6 : Int32))), .val (.int n), .val (.ref aFLOOR), .val (.int (1 : Int32))] [(.int n), (.ref aFLOOR)])) t) => k37 t (by
          refine XS.icmpNo X33.here hx rfl (hb hby at_70) rfl (teq hc70_38).2 ?_
          show Steps p.tables e below (T33.setTop (mkF m 73 #[.val (.int p1), .val (.int p2), .val (.int p3), .val (.int ((p1 &&& (2147483647 : Int32)) % (6 : Int32))), .val (.int n), .val (.ref aFLOOR), .unset] [])) _
          refine XS.iconst X33.here hx rfl (hb hby at_73) ?_
          show Steps p.tables e below (T33.setTop (mkF m 74 #[.val (.int p1), .val (.int p2), .val (.int p3), .val (.int ((p1 &&& (2147483647 : Int32)) % (6 : Int32))), .val (.int n), .val (.ref aFLOOR), .unset] [(.int (1 : Int32))])) _
          refine XS.goto X33.here hx rfl (pc0 := 74) (pc' := 78) rfl (hb hby at_74) (by decide) (by decide) ?_
          show Steps p.tables e below (T33.setTop (mkF m 78 #[.val (.int p1), .val (.int p2), .val (.int p3), .val (.int ((p1 &&& (2147483647 : Int32)) % (6 : Int32))), .val (.int n), .val (.ref aFLOOR), .unset] [(.int (1 : Int32))])) _
          refine XS.istore X33.here hx rfl (hb hby at_78) rfl (l' := #[.val (.int p1), .val (.int p2), .val (.int p3), .val (.int ((p1 &&& (2147483647 : Int32)) % (6 : Int32))), .val (.int n), .val (.ref aFLOOR), .val (.int (1 : Int32))]) rfl ?_
          show Steps p.tables e below (T33.setTop (mkF m 80 #[.val (.int p1), .val (.int p2), .val (.int p3), .val (.int ((p1 &&& (2147483647 : Int32)) % (6 : Int32))), .val (.int n), .val (.ref aFLOOR), .val (.int (1 : Int32))] [])) _
          refine XS.goto X33.here hx rfl (pc0 := 80) (pc' := 96) rfl (hb hby at_80) (by decide) (by decide) ?_
          show Steps p.tables e below (T33.setTop (mkF m 96 #[.val (.int p1), .val (.int p2), .val (.int p3), .val (.int ((p1 &&& (2147483647 : Int32)) % (6 : Int32))), .val (.int n), .val (.ref aFLOOR), .val (.int (1 : Int32))] [])) _
          refine XS.aload X33.here hx rfl (hb hby at_96) rfl rfl ?_
          show Steps p.tables e below (T33.setTop (mkF m 98 #[.val (.int p1), .val (.int p2), .val (.int p3), .val (.int ((p1 &&& (2147483647 : Int32)) % (6 : Int32))), .val (.int n), .val (.ref aFLOOR), .val (.int (1 : Int32))] [(.ref aFLOOR)])) _
          refine XS.iload X33.here hx rfl (hb hby at_98) rfl ?_
          show Steps p.tables e below (T33.setTop (mkF m 100 #[.val (.int p1), .val (.int p2), .val (.int p3), .val (.int ((p1 &&& (2147483647 : Int32)) % (6 : Int32))), .val (.int n), .val (.ref aFLOOR), .val (.int (1 : Int32))] [(.int n), (.ref aFLOOR)])) _
          exact kt)
        obtain ⟨cq40, kq40, q40a, q40b, q40c⟩ := isOf hZ eh33 (E_FLOOR.ext O0.2)
        obtain ⟨_, _, ⟨T40, L40, k40, n40⟩, -, X40, ⟨Lc40, hQ40, l40, y40, z40⟩, st40⟩ := X33.virtualBack hx (y := (⟨"com/example/probver/probver/language/Expression$Function", "takes", "(I)Z"⟩ : MethodName)) (z := (⟨"com/example/probver/probver/language/Expression$Function", "takes", "(I)Z"⟩ : MethodName)) hown (mvT hZ (hw _ (List.mem_of_getElem? (i := 8) rfl))) (mvT hZ (hw _ (List.mem_of_getElem? (i := 9) rfl))) (notFace_of_selects (args := #[]) (mvT hZ (hw _ (List.mem_of_getElem? (i := 11) rfl)))) (mvT hZ (hw _ (List.mem_of_getElem? (i := 11) rfl))) (mvT hZ (hw _ (List.mem_of_getElem? (i := 10) rfl))) (by decide) (backOf (W := 0) (rm2 l Z a0 hw [] aFLOOR n (1 : Int32) (1 : Int32) h0 n0 O0 (F_FLOOR_fewestArguments.ext O0.2) (F_FLOOR_mostArguments.ext O0.2)) hZ (hw _ (List.mem_of_getElem? (i := 12) rfl)) (hw _ (List.mem_of_getElem? (i := 6) rfl)) (by decide) (by decide)) q40a q40c (g := (mkF m 100 #[.val (.int p1), .val (.int p2), .val (.int p3), .val (.int ((p1 &&& (2147483647 : Int32)) % (6 : Int32))), .val (.int n), .val (.ref aFLOOR), .val (.int (1 : Int32))] [(.int n), (.ref aFLOOR)])) rfl (by rw [hml]; rfl) (Steps.refl _) (argsL := [(.int n)]) (rest := []) (lenOf pd_1 rfl) rfl (by show 2 * 0 + _ ≤ _; exact Nat.le_of_eq rfl) (hb hby at_100) (fun _ _ => ⟨rfl, eh33, (by decide : 0 + 0 ≤ _), (by decide : 0 + 0 ≤ _)⟩)
        dsimp only [Pt.U, Pt.locs, Pt.cells, Pt.slots] at X40 l40 y40 z40 st40 hQ40
        subst l40 y40 z40
        obtain ⟨rfl, Nq40, eh40⟩ := hQ40
        have N40 := Fr.app N33 Nq40
        have k41 := fun (t : State) (kt : Steps p.tables e below (T40.setTop (mkF m 105 #[.val (.int p1), .val (.int p2), .val (.int p3), .val (.int ((p1 &&& (2147483647 : Int32)) % (6 : Int32))), .val (.int n), .val (.ref aFLOOR), .val (.int (1 : Int32))] [(.int (1 : Int32)), (.int (own_takes (1 : Int32) (1 : Int32) n))])) t) => k39 t (by
          refine st40.trans ?_
          show Steps p.tables e below (T40.setTop (mkF m 103 #[.val (.int p1), .val (.int p2), .val (.int p3), .val (.int ((p1 &&& (2147483647 : Int32)) % (6 : Int32))), .val (.int n), .val (.ref aFLOOR), .val (.int (1 : Int32))] [(.int (own_takes (1 : Int32) (1 : Int32) n))])) _
          refine XS.iload X40.here hx rfl (hb hby at_103) rfl ?_
          show Steps p.tables e below (T40.setTop (mkF m 105 #[.val (.int p1), .val (.int p2), .val (.int p3), .val (.int ((p1 &&& (2147483647 : Int32)) % (6 : Int32))), .val (.int n), .val (.ref aFLOOR), .val (.int (1 : Int32))] [(.int (1 : Int32)), (.int (own_takes (1 : Int32) (1 : Int32) n))])) _
          exact kt)
        have k42 := fun (t : State) (kt : Steps p.tables e below (T40.setTop (mkF m 113 #[.val (.int p1), .val (.int p2), .val (.int p3), .val (.int ((p1 &&& (2147483647 : Int32)) % (6 : Int32))), .val (.int n), .val (.ref aFLOOR), .val (.int (1 : Int32))] [(.int (1 : Int32))])) t) => k41 t (by
          refine XS.icmpNo X40.here hx rfl (hb hby at_105) rfl (teq (by rw [hc70_38]; exact own_pin_eq)).2 ?_
          show Steps p.tables e below (T40.setTop (mkF m 108 #[.val (.int p1), .val (.int p2), .val (.int p3), .val (.int ((p1 &&& (2147483647 : Int32)) % (6 : Int32))), .val (.int n), .val (.ref aFLOOR), .val (.int (1 : Int32))] [])) _
          refine XS.iconst X40.here hx rfl (hb hby at_108) ?_
          show Steps p.tables e below (T40.setTop (mkF m 109 #[.val (.int p1), .val (.int p2), .val (.int p3), .val (.int ((p1 &&& (2147483647 : Int32)) % (6 : Int32))), .val (.int n), .val (.ref aFLOOR), .val (.int (1 : Int32))] [(.int (1 : Int32))])) _
          refine XS.goto X40.here hx rfl (pc0 := 109) (pc' := 113) rfl (hb hby at_109) (by decide) (by decide) ?_
          show Steps p.tables e below (T40.setTop (mkF m 113 #[.val (.int p1), .val (.int p2), .val (.int p3), .val (.int ((p1 &&& (2147483647 : Int32)) % (6 : Int32))), .val (.int n), .val (.ref aFLOOR), .val (.int (1 : Int32))] [(.int (1 : Int32))])) _
          exact kt)
        obtain ⟨fs, hr, hrun, hended, hW, hsame⟩ := X40.leave (v := some (.int (1 : Int32))) (fun h => by rw [Bd.returns] at h; cases h)
        refine ⟨_, _, k42 _ ?_, hrun, hended, _, _, rfl, ?_, ⟨_, rfl⟩, hW, hsame.mono (by decide) (by decide)⟩
        · exact retN X40 hx (t := .boolean) Bd.returns (by simp) (hb hby at_113) hr
        · show Q0 n0 _ T40.heap _
          rw [eh40]
          exact ⟨rfl, N40⟩
      · have k43 := fun (t : State) (kt : Steps p.tables e below (T33.setTop (mkF m 100 #[.val (.int p1), .val (.int p2), .val (.int p3), .val (.int ((p1 &&& (2147483647 : Int32)) % (6 : Int32))), .val (.int n), .val (.ref aFLOOR), .val (.int (0 : Int32))] [(.int n), (.ref aFLOOR)])) t) => k37 t (by
          refine XS.icmpYes X33.here hx rfl (pc0 := 70) (pc' := 77) rfl (hb hby at_70) rfl (feq hc70_38).2 (by decide) (by decide) ?_
          show Steps p.tables e below (T33.setTop (mkF m 77 #[.val (.int p1), .val (.int p2), .val (.int p3), .val (.int ((p1 &&& (2147483647 : Int32)) % (6 : Int32))), .val (.int n), .val (.ref aFLOOR), .unset] [])) _
          refine XS.iconst X33.here hx rfl (hb hby at_77) ?_
          show Steps p.tables e below (T33.setTop (mkF m 78 #[.val (.int p1), .val (.int p2), .val (.int p3), .val (.int ((p1 &&& (2147483647 : Int32)) % (6 : Int32))), .val (.int n), .val (.ref aFLOOR), .unset] [(.int (0 : Int32))])) _
          refine XS.istore X33.here hx rfl (hb hby at_78) rfl (l' := #[.val (.int p1), .val (.int p2), .val (.int p3), .val (.int ((p1 &&& (2147483647 : Int32)) % (6 : Int32))), .val (.int n), .val (.ref aFLOOR), .val (.int (0 : Int32))]) rfl ?_
          show Steps p.tables e below (T33.setTop (mkF m 80 #[.val (.int p1), .val (.int p2), .val (.int p3), .val (.int ((p1 &&& (2147483647 : Int32)) % (6 : Int32))), .val (.int n), .val (.ref aFLOOR), .val (.int (0 : Int32))] [])) _
          refine XS.goto X33.here hx rfl (pc0 := 80) (pc' := 96) rfl (hb hby at_80) (by decide) (by decide) ?_
          show Steps p.tables e below (T33.setTop (mkF m 96 #[.val (.int p1), .val (.int p2), .val (.int p3), .val (.int ((p1 &&& (2147483647 : Int32)) % (6 : Int32))), .val (.int n), .val (.ref aFLOOR), .val (.int (0 : Int32))] [])) _
          refine XS.aload X33.here hx rfl (hb hby at_96) rfl rfl ?_
          show Steps p.tables e below (T33.setTop (mkF m 98 #[.val (.int p1), .val (.int p2), .val (.int p3), .val (.int ((p1 &&& (2147483647 : Int32)) % (6 : Int32))), .val (.int n), .val (.ref aFLOOR), .val (.int (0 : Int32))] [(.ref aFLOOR)])) _
          refine XS.iload X33.here hx rfl (hb hby at_98) rfl ?_
          show Steps p.tables e below (T33.setTop (mkF m 100 #[.val (.int p1), .val (.int p2), .val (.int p3), .val (.int ((p1 &&& (2147483647 : Int32)) % (6 : Int32))), .val (.int n), .val (.ref aFLOOR), .val (.int (0 : Int32))] [(.int n), (.ref aFLOOR)])) _
          exact kt)
        obtain ⟨cq44, kq44, q44a, q44b, q44c⟩ := isOf hZ eh33 (E_FLOOR.ext O0.2)
        obtain ⟨_, _, ⟨T44, L44, k44, n44⟩, -, X44, ⟨Lc44, hQ44, l44, y44, z44⟩, st44⟩ := X33.virtualBack hx (y := (⟨"com/example/probver/probver/language/Expression$Function", "takes", "(I)Z"⟩ : MethodName)) (z := (⟨"com/example/probver/probver/language/Expression$Function", "takes", "(I)Z"⟩ : MethodName)) hown (mvT hZ (hw _ (List.mem_of_getElem? (i := 8) rfl))) (mvT hZ (hw _ (List.mem_of_getElem? (i := 9) rfl))) (notFace_of_selects (args := #[]) (mvT hZ (hw _ (List.mem_of_getElem? (i := 11) rfl)))) (mvT hZ (hw _ (List.mem_of_getElem? (i := 11) rfl))) (mvT hZ (hw _ (List.mem_of_getElem? (i := 10) rfl))) (by decide) (backOf (W := 0) (rm2 l Z a0 hw [] aFLOOR n (1 : Int32) (1 : Int32) h0 n0 O0 (F_FLOOR_fewestArguments.ext O0.2) (F_FLOOR_mostArguments.ext O0.2)) hZ (hw _ (List.mem_of_getElem? (i := 12) rfl)) (hw _ (List.mem_of_getElem? (i := 6) rfl)) (by decide) (by decide)) q44a q44c (g := (mkF m 100 #[.val (.int p1), .val (.int p2), .val (.int p3), .val (.int ((p1 &&& (2147483647 : Int32)) % (6 : Int32))), .val (.int n), .val (.ref aFLOOR), .val (.int (0 : Int32))] [(.int n), (.ref aFLOOR)])) rfl (by rw [hml]; rfl) (Steps.refl _) (argsL := [(.int n)]) (rest := []) (lenOf pd_1 rfl) rfl (by show 2 * 0 + _ ≤ _; exact Nat.le_of_eq rfl) (hb hby at_100) (fun _ _ => ⟨rfl, eh33, (by decide : 0 + 0 ≤ _), (by decide : 0 + 0 ≤ _)⟩)
        dsimp only [Pt.U, Pt.locs, Pt.cells, Pt.slots] at X44 l44 y44 z44 st44 hQ44
        subst l44 y44 z44
        obtain ⟨rfl, Nq44, eh44⟩ := hQ44
        have N44 := Fr.app N33 Nq44
        have k45 := fun (t : State) (kt : Steps p.tables e below (T44.setTop (mkF m 105 #[.val (.int p1), .val (.int p2), .val (.int p3), .val (.int ((p1 &&& (2147483647 : Int32)) % (6 : Int32))), .val (.int n), .val (.ref aFLOOR), .val (.int (0 : Int32))] [(.int (0 : Int32)), (.int (own_takes (1 : Int32) (1 : Int32) n))])) t) => k43 t (by
          refine st44.trans ?_
          show Steps p.tables e below (T44.setTop (mkF m 103 #[.val (.int p1), .val (.int p2), .val (.int p3), .val (.int ((p1 &&& (2147483647 : Int32)) % (6 : Int32))), .val (.int n), .val (.ref aFLOOR), .val (.int (0 : Int32))] [(.int (own_takes (1 : Int32) (1 : Int32) n))])) _
          refine XS.iload X44.here hx rfl (hb hby at_103) rfl ?_
          show Steps p.tables e below (T44.setTop (mkF m 105 #[.val (.int p1), .val (.int p2), .val (.int p3), .val (.int ((p1 &&& (2147483647 : Int32)) % (6 : Int32))), .val (.int n), .val (.ref aFLOOR), .val (.int (0 : Int32))] [(.int (0 : Int32)), (.int (own_takes (1 : Int32) (1 : Int32) n))])) _
          exact kt)
        have k46 := fun (t : State) (kt : Steps p.tables e below (T44.setTop (mkF m 113 #[.val (.int p1), .val (.int p2), .val (.int p3), .val (.int ((p1 &&& (2147483647 : Int32)) % (6 : Int32))), .val (.int n), .val (.ref aFLOOR), .val (.int (0 : Int32))] [(.int (1 : Int32))])) t) => k45 t (by
          refine XS.icmpNo X44.here hx rfl (hb hby at_105) rfl (teq (own_pin_ne hc70_38)).2 ?_
          show Steps p.tables e below (T44.setTop (mkF m 108 #[.val (.int p1), .val (.int p2), .val (.int p3), .val (.int ((p1 &&& (2147483647 : Int32)) % (6 : Int32))), .val (.int n), .val (.ref aFLOOR), .val (.int (0 : Int32))] [])) _
          refine XS.iconst X44.here hx rfl (hb hby at_108) ?_
          show Steps p.tables e below (T44.setTop (mkF m 109 #[.val (.int p1), .val (.int p2), .val (.int p3), .val (.int ((p1 &&& (2147483647 : Int32)) % (6 : Int32))), .val (.int n), .val (.ref aFLOOR), .val (.int (0 : Int32))] [(.int (1 : Int32))])) _
          refine XS.goto X44.here hx rfl (pc0 := 109) (pc' := 113) rfl (hb hby at_109) (by decide) (by decide) ?_
          show Steps p.tables e below (T44.setTop (mkF m 113 #[.val (.int p1), .val (.int p2), .val (.int p3), .val (.int ((p1 &&& (2147483647 : Int32)) % (6 : Int32))), .val (.int n), .val (.ref aFLOOR), .val (.int (0 : Int32))] [(.int (1 : Int32))])) _
          exact kt)
        obtain ⟨fs, hr, hrun, hended, hW, hsame⟩ := X44.leave (v := some (.int (1 : Int32))) (fun h => by rw [Bd.returns] at h; cases h)
        refine ⟨_, _, k46 _ ?_, hrun, hended, _, _, rfl, ?_, ⟨_, rfl⟩, hW, hsame.mono (by decide) (by decide)⟩
        · exact retN X44 hx (t := .boolean) Bd.returns (by simp) (hb hby at_113) hr
        · show Q0 n0 _ T44.heap _
          rw [eh44]
          exact ⟨rfl, N44⟩
    · have k47 := fun (t : State) (kt : Steps p.tables e below (s₁.setTop (mkF m 27 #[.val (.int p1), .val (.int p2), .val (.int p3), .val (.int ((p1 &&& (2147483647 : Int32)) % (6 : Int32))), .val (.int n), .unset, .unset] [(.int ((p1 &&& (2147483647 : Int32)) % (6 : Int32)))])) t) => kJ t (by
        refine XS.iloadN X0.here hx rfl (hb hby at_26) rfl ?_
        show Steps p.tables e below (s₁.setTop (mkF m 27 #[.val (.int p1), .val (.int p2), .val (.int p3), .val (.int ((p1 &&& (2147483647 : Int32)) % (6 : Int32))), .val (.int n), .unset, .unset] [(.int ((p1 &&& (2147483647 : Int32)) % (6 : Int32)))])) _
        exact kt)
      obtain ⟨_, _, ⟨T48, L48, k48, n48⟩, -, X48, ⟨Lc48, hQ48, l48, y48, z48⟩, st48⟩ := Jvm.LawKit.callS X0 hx (y := (⟨"com/example/probver/probver/language/FunctionTakesPinLaw", "pick", "(I)Lcom/example/probver/probver/language/Expression$Function;"⟩ : MethodName)) hown (mvT hZ (hw _ (List.mem_of_getElem? (i := 1) rfl))) (mvT hZ (hw _ (List.mem_of_getElem? (i := 2) rfl))) (mvT hZ (hw _ (List.mem_of_getElem? (i := 3) rfl))) (mvT hZ (hw _ (List.mem_of_getElem? (i := 4) rfl))) (by decide) (backOf (W := 0) (rm1_3 l Z a0 hw [] ((p1 &&& (2147483647 : Int32)) % (6 : Int32)) aCEIL h0 n0 O0 (S_CEIL.ext O0.2) hk) hZ (hw _ (List.mem_of_getElem? (i := 4) rfl)) (hw _ (List.mem_of_getElem? (i := 3) rfl)) (by decide) (by decide)) (g := (mkF m 27 #[.val (.int p1), .val (.int p2), .val (.int p3), .val (.int ((p1 &&& (2147483647 : Int32)) % (6 : Int32))), .val (.int n), .unset, .unset] [(.int ((p1 &&& (2147483647 : Int32)) % (6 : Int32)))])) rfl (by rw [hml]; rfl) (argsL := [(.int ((p1 &&& (2147483647 : Int32)) % (6 : Int32)))]) (rest := []) (lenOf pd_0 rfl) rfl (by show 2 * 0 + _ ≤ _; exact Nat.le_of_eq rfl) (hb hby at_27) (fun _ _ => ⟨rfl, e0, (by decide : 0 + 0 ≤ _), (by decide : 0 + 0 ≤ _)⟩)
      dsimp only [Pt.U, Pt.locs, Pt.cells, Pt.slots] at X48 l48 y48 z48 st48 hQ48
      subst l48 y48 z48
      obtain ⟨rfl, Nq48, eh48⟩ := hQ48
      have N48 := Fr.app N0 Nq48
      have k49 := fun (t : State) (kt : Steps p.tables e below (T48.setTop (mkF m 33 #[.val (.int p1), .val (.int p2), .val (.int p3), .val (.int ((p1 &&& (2147483647 : Int32)) % (6 : Int32))), .val (.int n), .val (.ref aCEIL), .unset] [(.int ((p1 &&& (2147483647 : Int32)) % (6 : Int32)))])) t) => k47 t (by
        refine st48 _ ?_
        show Steps p.tables e below (T48.setTop (mkF m 30 #[.val (.int p1), .val (.int p2), .val (.int p3), .val (.int ((p1 &&& (2147483647 : Int32)) % (6 : Int32))), .val (.int n), .unset, .unset] [(.ref aCEIL)])) _
        refine XS.astore X48.here hx rfl (hb hby at_30) rfl rfl (l' := #[.val (.int p1), .val (.int p2), .val (.int p3), .val (.int ((p1 &&& (2147483647 : Int32)) % (6 : Int32))), .val (.int n), .val (.ref aCEIL), .unset]) rfl ?_
        show Steps p.tables e below (T48.setTop (mkF m 32 #[.val (.int p1), .val (.int p2), .val (.int p3), .val (.int ((p1 &&& (2147483647 : Int32)) % (6 : Int32))), .val (.int n), .val (.ref aCEIL), .unset] [])) _
        refine XS.iloadN X48.here hx rfl (hb hby at_32) rfl ?_
        show Steps p.tables e below (T48.setTop (mkF m 33 #[.val (.int p1), .val (.int p2), .val (.int p3), .val (.int ((p1 &&& (2147483647 : Int32)) % (6 : Int32))), .val (.int n), .val (.ref aCEIL), .unset] [(.int ((p1 &&& (2147483647 : Int32)) % (6 : Int32)))])) _
        exact kt)
      have k50 := fun (t : State) (kt : Steps p.tables e below (T48.setTop (mkF m 38 #[.val (.int p1), .val (.int p2), .val (.int p3), .val (.int ((p1 &&& (2147483647 : Int32)) % (6 : Int32))), .val (.int n), .val (.ref aCEIL), .unset] [(.int (1 : Int32)), (.int ((p1 &&& (2147483647 : Int32)) % (6 : Int32)))])) t) => k49 t (by
        refine XS.ifNo X48.here hx rfl (hb hby at_33) rfl ((if0 _ _).trans (feq (by rw [hk]; decide)).1) ?_
        show Steps p.tables e below (T48.setTop (mkF m 36 #[.val (.int p1), .val (.int p2), .val (.int p3), .val (.int ((p1 &&& (2147483647 : Int32)) % (6 : Int32))), .val (.int n), .val (.ref aCEIL), .unset] [])) _
        refine XS.iloadN X48.here hx rfl (hb hby at_36) rfl ?_
        show Steps p.tables e below (T48.setTop (mkF m 37 #[.val (.int p1), .val (.int p2), .val (.int p3), .val (.int ((p1 &&& (2147483647 : Int32)) % (6 : Int32))), .val (.int n), .val (.ref aCEIL), .unset] [(.int ((p1 &&& (2147483647 : Int32)) % (6 : Int32)))])) _
        refine XS.iconst X48.here hx rfl (hb hby at_37) ?_
        show Steps p.tables e below (T48.setTop (mkF m 38 #[.val (.int p1), .val (.int p2), .val (.int p3), .val (.int ((p1 &&& (2147483647 : Int32)) % (6 : Int32))), .val (.int n), .val (.ref aCEIL), .unset] [(.int (1 : Int32)), (.int ((p1 &&& (2147483647 : Int32)) % (6 : Int32)))])) _
        exact kt)
      have k51 := fun (t : State) (kt : Steps p.tables e below (T48.setTop (mkF m 59 #[.val (.int p1), .val (.int p2), .val (.int p3), .val (.int ((p1 &&& (2147483647 : Int32)) % (6 : Int32))), .val (.int n), .val (.ref aCEIL), .unset] [(.int (2 : Int32)), (.int ((p1 &&& (2147483647 : Int32)) % (6 : Int32)))])) t) => k50 t (by
        refine XS.icmpYes X48.here hx rfl (pc0 := 38) (pc' := 57) rfl (hb hby at_38) rfl (feq (by rw [hk]; decide)).2 (by decide) (by decide) ?_
        show Steps p.tables e below (T48.setTop (mkF m 57 #[.val (.int p1), .val (.int p2), .val (.int p3), .val (.int ((p1 &&& (2147483647 : Int32)) % (6 : Int32))), .val (.int n), .val (.ref aCEIL), .unset] [])) _
        refine XS.iloadN X48.here hx rfl (hb hby at_57) rfl ?_
        show Steps p.tables e below (T48.setTop (mkF m 58 #[.val (.int p1), .val (.int p2), .val (.int p3), .val (.int ((p1 &&& (2147483647 : Int32)) % (6 : Int32))), .val (.int n), .val (.ref aCEIL), .unset] [(.int ((p1 &&& (2147483647 : Int32)) % (6 : Int32)))])) _
        refine XS.iconst X48.here hx rfl (hb hby at_58) ?_
        show Steps p.tables e below (T48.setTop (mkF m 59 #[.val (.int p1), .val (.int p2), .val (.int p3), .val (.int ((p1 &&& (2147483647 : Int32)) % (6 : Int32))), .val (.int n), .val (.ref aCEIL), .unset] [(.int (2 : Int32)), (.int ((p1 &&& (2147483647 : Int32)) % (6 : Int32)))])) _
        exact kt)
      have k52 := fun (t : State) (kt : Steps p.tables e below (T48.setTop (mkF m 64 #[.val (.int p1), .val (.int p2), .val (.int p3), .val (.int ((p1 &&& (2147483647 : Int32)) % (6 : Int32))), .val (.int n), .val (.ref aCEIL), .unset] [(.int (3 : Int32)), (.int ((p1 &&& (2147483647 : Int32)) % (6 : Int32)))])) t) => k51 t (by
        refine XS.icmpNo X48.here hx rfl (hb hby at_59) rfl (feq (by rw [hk]; decide)).1 ?_
        show Steps p.tables e below (T48.setTop (mkF m 62 #[.val (.int p1), .val (.int p2), .val (.int p3), .val (.int ((p1 &&& (2147483647 : Int32)) % (6 : Int32))), .val (.int n), .val (.ref aCEIL), .unset] [])) _
        refine XS.iloadN X48.here hx rfl (hb hby at_62) rfl ?_
        show Steps p.tables e below (T48.setTop (mkF m 63 #[.val (.int p1), .val (.int p2), .val (.int p3), .val (.int ((p1 &&& (2147483647 : Int32)) % (6 : Int32))), .val (.int n), .val (.ref aCEIL), .unset] [(.int ((p1 &&& (2147483647 : Int32)) % (6 : Int32)))])) _
        refine XS.iconst X48.here hx rfl (hb hby at_63) ?_
        show Steps p.tables e below (T48.setTop (mkF m 64 #[.val (.int p1), .val (.int p2), .val (.int p3), .val (.int ((p1 &&& (2147483647 : Int32)) % (6 : Int32))), .val (.int n), .val (.ref aCEIL), .unset] [(.int (3 : Int32)), (.int ((p1 &&& (2147483647 : Int32)) % (6 : Int32)))])) _
        exact kt)
      have k53 := fun (t : State) (kt : Steps p.tables e below (T48.setTop (mkF m 70 #[.val (.int p1), .val (.int p2), .val (.int p3), .val (.int ((p1 &&& (2147483647 : Int32)) % (6 : Int32))), .val (.int n), .val (.ref aCEIL), .unset] [(.int (1 : Int32)), (.int n)])) t) => k52 t (by
        refine XS.icmpNo X48.here hx rfl (hb hby at_64) rfl (teq hk).2 ?_
        show Steps p.tables e below (T48.setTop (mkF m 67 #[.val (.int p1), .val (.int p2), .val (.int p3), .val (.int ((p1 &&& (2147483647 : Int32)) % (6 : Int32))), .val (.int n), .val (.ref aCEIL), .unset] [])) _
        refine XS.iload X48.here hx rfl (hb hby at_67) rfl ?_
        show Steps p.tables e below (T48.setTop (mkF m 69 #[.val (.int p1), .val (.int p2), .val (.int p3), .val (.int ((p1 &&& (2147483647 : Int32)) % (6 : Int32))), .val (.int n), .val (.ref aCEIL), .unset] [(.int n)])) _
        refine XS.iconst X48.here hx rfl (hb hby at_69) ?_
        show Steps p.tables e below (T48.setTop (mkF m 70 #[.val (.int p1), .val (.int p2), .val (.int p3), .val (.int ((p1 &&& (2147483647 : Int32)) % (6 : Int32))), .val (.int n), .val (.ref aCEIL), .unset] [(.int (1 : Int32)), (.int n)])) _
        exact kt)
      by_cases hc70_54 : n = (1 : Int32)
      · have k55 := fun (t : State) (kt : Steps p.tables e below (T48.setTop (mkF m 100 #[.val (.int p1), .val (.int p2), .val (.int p3), .val (.int ((p1 &&& (2147483647 : Int32)) % (6 : Int32))), .val (.int n), .val (.ref aCEIL), .val (.int (1 : Int32))] [(.int n), (.ref aCEIL)])) t) => k53 t (by
          refine XS.icmpNo X48.here hx rfl (hb hby at_70) rfl (teq hc70_54).2 ?_
          show Steps p.tables e below (T48.setTop (mkF m 73 #[.val (.int p1), .val (.int p2), .val (.int p3), .val (.int ((p1 &&& (2147483647 : Int32)) % (6 : Int32))), .val (.int n), .val (.ref aCEIL), .unset] [])) _
          refine XS.iconst X48.here hx rfl (hb hby at_73) ?_
          show Steps p.tables e below (T48.setTop (mkF m 74 #[.val (.int p1), .val (.int p2), .val (.int p3), .val (.int ((p1 &&& (2147483647 : Int32)) % (6 : Int32))), .val (.int n), .val (.ref aCEIL), .unset] [(.int (1 : Int32))])) _
          refine XS.goto X48.here hx rfl (pc0 := 74) (pc' := 78) rfl (hb hby at_74) (by decide) (by decide) ?_
          show Steps p.tables e below (T48.setTop (mkF m 78 #[.val (.int p1), .val (.int p2), .val (.int p3), .val (.int ((p1 &&& (2147483647 : Int32)) % (6 : Int32))), .val (.int n), .val (.ref aCEIL), .unset] [(.int (1 : Int32))])) _
          refine XS.istore X48.here hx rfl (hb hby at_78) rfl (l' := #[.val (.int p1), .val (.int p2), .val (.int p3), .val (.int ((p1 &&& (2147483647 : Int32)) % (6 : Int32))), .val (.int n), .val (.ref aCEIL), .val (.int (1 : Int32))]) rfl ?_
          show Steps p.tables e below (T48.setTop (mkF m 80 #[.val (.int p1), .val (.int p2), .val (.int p3), .val (.int ((p1 &&& (2147483647 : Int32)) % (6 : Int32))), .val (.int n), .val (.ref aCEIL), .val (.int (1 : Int32))] [])) _
          refine XS.goto X48.here hx rfl (pc0 := 80) (pc' := 96) rfl (hb hby at_80) (by decide) (by decide) ?_
          show Steps p.tables e below (T48.setTop (mkF m 96 #[.val (.int p1), .val (.int p2), .val (.int p3), .val (.int ((p1 &&& (2147483647 : Int32)) % (6 : Int32))), .val (.int n), .val (.ref aCEIL), .val (.int (1 : Int32))] [])) _
          refine XS.aload X48.here hx rfl (hb hby at_96) rfl rfl ?_
          show Steps p.tables e below (T48.setTop (mkF m 98 #[.val (.int p1), .val (.int p2), .val (.int p3), .val (.int ((p1 &&& (2147483647 : Int32)) % (6 : Int32))), .val (.int n), .val (.ref aCEIL), .val (.int (1 : Int32))] [(.ref aCEIL)])) _
          refine XS.iload X48.here hx rfl (hb hby at_98) rfl ?_
          show Steps p.tables e below (T48.setTop (mkF m 100 #[.val (.int p1), .val (.int p2), .val (.int p3), .val (.int ((p1 &&& (2147483647 : Int32)) % (6 : Int32))), .val (.int n), .val (.ref aCEIL), .val (.int (1 : Int32))] [(.int n), (.ref aCEIL)])) _
          exact kt)
        obtain ⟨cq56, kq56, q56a, q56b, q56c⟩ := isOf hZ eh48 (E_CEIL.ext O0.2)
        obtain ⟨_, _, ⟨T56, L56, k56, n56⟩, -, X56, ⟨Lc56, hQ56, l56, y56, z56⟩, st56⟩ := X48.virtualBack hx (y := (⟨"com/example/probver/probver/language/Expression$Function", "takes", "(I)Z"⟩ : MethodName)) (z := (⟨"com/example/probver/probver/language/Expression$Function", "takes", "(I)Z"⟩ : MethodName)) hown (mvT hZ (hw _ (List.mem_of_getElem? (i := 8) rfl))) (mvT hZ (hw _ (List.mem_of_getElem? (i := 9) rfl))) (notFace_of_selects (args := #[]) (mvT hZ (hw _ (List.mem_of_getElem? (i := 11) rfl)))) (mvT hZ (hw _ (List.mem_of_getElem? (i := 11) rfl))) (mvT hZ (hw _ (List.mem_of_getElem? (i := 10) rfl))) (by decide) (backOf (W := 0) (rm2 l Z a0 hw [] aCEIL n (1 : Int32) (1 : Int32) h0 n0 O0 (F_CEIL_fewestArguments.ext O0.2) (F_CEIL_mostArguments.ext O0.2)) hZ (hw _ (List.mem_of_getElem? (i := 12) rfl)) (hw _ (List.mem_of_getElem? (i := 6) rfl)) (by decide) (by decide)) q56a q56c (g := (mkF m 100 #[.val (.int p1), .val (.int p2), .val (.int p3), .val (.int ((p1 &&& (2147483647 : Int32)) % (6 : Int32))), .val (.int n), .val (.ref aCEIL), .val (.int (1 : Int32))] [(.int n), (.ref aCEIL)])) rfl (by rw [hml]; rfl) (Steps.refl _) (argsL := [(.int n)]) (rest := []) (lenOf pd_1 rfl) rfl (by show 2 * 0 + _ ≤ _; exact Nat.le_of_eq rfl) (hb hby at_100) (fun _ _ => ⟨rfl, eh48, (by decide : 0 + 0 ≤ _), (by decide : 0 + 0 ≤ _)⟩)
        dsimp only [Pt.U, Pt.locs, Pt.cells, Pt.slots] at X56 l56 y56 z56 st56 hQ56
        subst l56 y56 z56
        obtain ⟨rfl, Nq56, eh56⟩ := hQ56
        have N56 := Fr.app N48 Nq56
        have k57 := fun (t : State) (kt : Steps p.tables e below (T56.setTop (mkF m 105 #[.val (.int p1), .val (.int p2), .val (.int p3), .val (.int ((p1 &&& (2147483647 : Int32)) % (6 : Int32))), .val (.int n), .val (.ref aCEIL), .val (.int (1 : Int32))] [(.int (1 : Int32)), (.int (own_takes (1 : Int32) (1 : Int32) n))])) t) => k55 t (by
          refine st56.trans ?_
          show Steps p.tables e below (T56.setTop (mkF m 103 #[.val (.int p1), .val (.int p2), .val (.int p3), .val (.int ((p1 &&& (2147483647 : Int32)) % (6 : Int32))), .val (.int n), .val (.ref aCEIL), .val (.int (1 : Int32))] [(.int (own_takes (1 : Int32) (1 : Int32) n))])) _
          refine XS.iload X56.here hx rfl (hb hby at_103) rfl ?_
          show Steps p.tables e below (T56.setTop (mkF m 105 #[.val (.int p1), .val (.int p2), .val (.int p3), .val (.int ((p1 &&& (2147483647 : Int32)) % (6 : Int32))), .val (.int n), .val (.ref aCEIL), .val (.int (1 : Int32))] [(.int (1 : Int32)), (.int (own_takes (1 : Int32) (1 : Int32) n))])) _
          exact kt)
        have k58 := fun (t : State) (kt : Steps p.tables e below (T56.setTop (mkF m 113 #[.val (.int p1), .val (.int p2), .val (.int p3), .val (.int ((p1 &&& (2147483647 : Int32)) % (6 : Int32))), .val (.int n), .val (.ref aCEIL), .val (.int (1 : Int32))] [(.int (1 : Int32))])) t) => k57 t (by
          refine XS.icmpNo X56.here hx rfl (hb hby at_105) rfl (teq (by rw [hc70_54]; exact own_pin_eq)).2 ?_
          show Steps p.tables e below (T56.setTop (mkF m 108 #[.val (.int p1), .val (.int p2), .val (.int p3), .val (.int ((p1 &&& (2147483647 : Int32)) % (6 : Int32))), .val (.int n), .val (.ref aCEIL), .val (.int (1 : Int32))] [])) _
          refine XS.iconst X56.here hx rfl (hb hby at_108) ?_
          show Steps p.tables e below (T56.setTop (mkF m 109 #[.val (.int p1), .val (.int p2), .val (.int p3), .val (.int ((p1 &&& (2147483647 : Int32)) % (6 : Int32))), .val (.int n), .val (.ref aCEIL), .val (.int (1 : Int32))] [(.int (1 : Int32))])) _
          refine XS.goto X56.here hx rfl (pc0 := 109) (pc' := 113) rfl (hb hby at_109) (by decide) (by decide) ?_
          show Steps p.tables e below (T56.setTop (mkF m 113 #[.val (.int p1), .val (.int p2), .val (.int p3), .val (.int ((p1 &&& (2147483647 : Int32)) % (6 : Int32))), .val (.int n), .val (.ref aCEIL), .val (.int (1 : Int32))] [(.int (1 : Int32))])) _
          exact kt)
        obtain ⟨fs, hr, hrun, hended, hW, hsame⟩ := X56.leave (v := some (.int (1 : Int32))) (fun h => by rw [Bd.returns] at h; cases h)
        refine ⟨_, _, k58 _ ?_, hrun, hended, _, _, rfl, ?_, ⟨_, rfl⟩, hW, hsame.mono (by decide) (by decide)⟩
        · exact retN X56 hx (t := .boolean) Bd.returns (by simp) (hb hby at_113) hr
        · show Q0 n0 _ T56.heap _
          rw [eh56]
          exact ⟨rfl, N56⟩
      · have k59 := fun (t : State) (kt : Steps p.tables e below (T48.setTop (mkF m 100 #[.val (.int p1), .val (.int p2), .val (.int p3), .val (.int ((p1 &&& (2147483647 : Int32)) % (6 : Int32))), .val (.int n), .val (.ref aCEIL), .val (.int (0 : Int32))] [(.int n), (.ref aCEIL)])) t) => k53 t (by
          refine XS.icmpYes X48.here hx rfl (pc0 := 70) (pc' := 77) rfl (hb hby at_70) rfl (feq hc70_54).2 (by decide) (by decide) ?_
          show Steps p.tables e below (T48.setTop (mkF m 77 #[.val (.int p1), .val (.int p2), .val (.int p3), .val (.int ((p1 &&& (2147483647 : Int32)) % (6 : Int32))), .val (.int n), .val (.ref aCEIL), .unset] [])) _
          refine XS.iconst X48.here hx rfl (hb hby at_77) ?_
          show Steps p.tables e below (T48.setTop (mkF m 78 #[.val (.int p1), .val (.int p2), .val (.int p3), .val (.int ((p1 &&& (2147483647 : Int32)) % (6 : Int32))), .val (.int n), .val (.ref aCEIL), .unset] [(.int (0 : Int32))])) _
          refine XS.istore X48.here hx rfl (hb hby at_78) rfl (l' := #[.val (.int p1), .val (.int p2), .val (.int p3), .val (.int ((p1 &&& (2147483647 : Int32)) % (6 : Int32))), .val (.int n), .val (.ref aCEIL), .val (.int (0 : Int32))]) rfl ?_
          show Steps p.tables e below (T48.setTop (mkF m 80 #[.val (.int p1), .val (.int p2), .val (.int p3), .val (.int ((p1 &&& (2147483647 : Int32)) % (6 : Int32))), .val (.int n), .val (.ref aCEIL), .val (.int (0 : Int32))] [])) _
          refine XS.goto X48.here hx rfl (pc0 := 80) (pc' := 96) rfl (hb hby at_80) (by decide) (by decide) ?_
          show Steps p.tables e below (T48.setTop (mkF m 96 #[.val (.int p1), .val (.int p2), .val (.int p3), .val (.int ((p1 &&& (2147483647 : Int32)) % (6 : Int32))), .val (.int n), .val (.ref aCEIL), .val (.int (0 : Int32))] [])) _
          refine XS.aload X48.here hx rfl (hb hby at_96) rfl rfl ?_
          show Steps p.tables e below (T48.setTop (mkF m 98 #[.val (.int p1), .val (.int p2), .val (.int p3), .val (.int ((p1 &&& (2147483647 : Int32)) % (6 : Int32))), .val (.int n), .val (.ref aCEIL), .val (.int (0 : Int32))] [(.ref aCEIL)])) _
          refine XS.iload X48.here hx rfl (hb hby at_98) rfl ?_
          show Steps p.tables e below (T48.setTop (mkF m 100 #[.val (.int p1), .val (.int p2), .val (.int p3), .val (.int ((p1 &&& (2147483647 : Int32)) % (6 : Int32))), .val (.int n), .val (.ref aCEIL), .val (.int (0 : Int32))] [(.int n), (.ref aCEIL)])) _
          exact kt)
        obtain ⟨cq60, kq60, q60a, q60b, q60c⟩ := isOf hZ eh48 (E_CEIL.ext O0.2)
        obtain ⟨_, _, ⟨T60, L60, k60, n60⟩, -, X60, ⟨Lc60, hQ60, l60, y60, z60⟩, st60⟩ := X48.virtualBack hx (y := (⟨"com/example/probver/probver/language/Expression$Function", "takes", "(I)Z"⟩ : MethodName)) (z := (⟨"com/example/probver/probver/language/Expression$Function", "takes", "(I)Z"⟩ : MethodName)) hown (mvT hZ (hw _ (List.mem_of_getElem? (i := 8) rfl))) (mvT hZ (hw _ (List.mem_of_getElem? (i := 9) rfl))) (notFace_of_selects (args := #[]) (mvT hZ (hw _ (List.mem_of_getElem? (i := 11) rfl)))) (mvT hZ (hw _ (List.mem_of_getElem? (i := 11) rfl))) (mvT hZ (hw _ (List.mem_of_getElem? (i := 10) rfl))) (by decide) (backOf (W := 0) (rm2 l Z a0 hw [] aCEIL n (1 : Int32) (1 : Int32) h0 n0 O0 (F_CEIL_fewestArguments.ext O0.2) (F_CEIL_mostArguments.ext O0.2)) hZ (hw _ (List.mem_of_getElem? (i := 12) rfl)) (hw _ (List.mem_of_getElem? (i := 6) rfl)) (by decide) (by decide)) q60a q60c (g := (mkF m 100 #[.val (.int p1), .val (.int p2), .val (.int p3), .val (.int ((p1 &&& (2147483647 : Int32)) % (6 : Int32))), .val (.int n), .val (.ref aCEIL), .val (.int (0 : Int32))] [(.int n), (.ref aCEIL)])) rfl (by rw [hml]; rfl) (Steps.refl _) (argsL := [(.int n)]) (rest := []) (lenOf pd_1 rfl) rfl (by show 2 * 0 + _ ≤ _; exact Nat.le_of_eq rfl) (hb hby at_100) (fun _ _ => ⟨rfl, eh48, (by decide : 0 + 0 ≤ _), (by decide : 0 + 0 ≤ _)⟩)
        dsimp only [Pt.U, Pt.locs, Pt.cells, Pt.slots] at X60 l60 y60 z60 st60 hQ60
        subst l60 y60 z60
        obtain ⟨rfl, Nq60, eh60⟩ := hQ60
        have N60 := Fr.app N48 Nq60
        have k61 := fun (t : State) (kt : Steps p.tables e below (T60.setTop (mkF m 105 #[.val (.int p1), .val (.int p2), .val (.int p3), .val (.int ((p1 &&& (2147483647 : Int32)) % (6 : Int32))), .val (.int n), .val (.ref aCEIL), .val (.int (0 : Int32))] [(.int (0 : Int32)), (.int (own_takes (1 : Int32) (1 : Int32) n))])) t) => k59 t (by
          refine st60.trans ?_
          show Steps p.tables e below (T60.setTop (mkF m 103 #[.val (.int p1), .val (.int p2), .val (.int p3), .val (.int ((p1 &&& (2147483647 : Int32)) % (6 : Int32))), .val (.int n), .val (.ref aCEIL), .val (.int (0 : Int32))] [(.int (own_takes (1 : Int32) (1 : Int32) n))])) _
          refine XS.iload X60.here hx rfl (hb hby at_103) rfl ?_
          show Steps p.tables e below (T60.setTop (mkF m 105 #[.val (.int p1), .val (.int p2), .val (.int p3), .val (.int ((p1 &&& (2147483647 : Int32)) % (6 : Int32))), .val (.int n), .val (.ref aCEIL), .val (.int (0 : Int32))] [(.int (0 : Int32)), (.int (own_takes (1 : Int32) (1 : Int32) n))])) _
          exact kt)
        have k62 := fun (t : State) (kt : Steps p.tables e below (T60.setTop (mkF m 113 #[.val (.int p1), .val (.int p2), .val (.int p3), .val (.int ((p1 &&& (2147483647 : Int32)) % (6 : Int32))), .val (.int n), .val (.ref aCEIL), .val (.int (0 : Int32))] [(.int (1 : Int32))])) t) => k61 t (by
          refine XS.icmpNo X60.here hx rfl (hb hby at_105) rfl (teq (own_pin_ne hc70_54)).2 ?_
          show Steps p.tables e below (T60.setTop (mkF m 108 #[.val (.int p1), .val (.int p2), .val (.int p3), .val (.int ((p1 &&& (2147483647 : Int32)) % (6 : Int32))), .val (.int n), .val (.ref aCEIL), .val (.int (0 : Int32))] [])) _
          refine XS.iconst X60.here hx rfl (hb hby at_108) ?_
          show Steps p.tables e below (T60.setTop (mkF m 109 #[.val (.int p1), .val (.int p2), .val (.int p3), .val (.int ((p1 &&& (2147483647 : Int32)) % (6 : Int32))), .val (.int n), .val (.ref aCEIL), .val (.int (0 : Int32))] [(.int (1 : Int32))])) _
          refine XS.goto X60.here hx rfl (pc0 := 109) (pc' := 113) rfl (hb hby at_109) (by decide) (by decide) ?_
          show Steps p.tables e below (T60.setTop (mkF m 113 #[.val (.int p1), .val (.int p2), .val (.int p3), .val (.int ((p1 &&& (2147483647 : Int32)) % (6 : Int32))), .val (.int n), .val (.ref aCEIL), .val (.int (0 : Int32))] [(.int (1 : Int32))])) _
          exact kt)
        obtain ⟨fs, hr, hrun, hended, hW, hsame⟩ := X60.leave (v := some (.int (1 : Int32))) (fun h => by rw [Bd.returns] at h; cases h)
        refine ⟨_, _, k62 _ ?_, hrun, hended, _, _, rfl, ?_, ⟨_, rfl⟩, hW, hsame.mono (by decide) (by decide)⟩
        · exact retN X60 hx (t := .boolean) Bd.returns (by simp) (hb hby at_113) hr
        · show Q0 n0 _ T60.heap _
          rw [eh60]
          exact ⟨rfl, N60⟩
    · have k63 := fun (t : State) (kt : Steps p.tables e below (s₁.setTop (mkF m 27 #[.val (.int p1), .val (.int p2), .val (.int p3), .val (.int ((p1 &&& (2147483647 : Int32)) % (6 : Int32))), .val (.int n), .unset, .unset] [(.int ((p1 &&& (2147483647 : Int32)) % (6 : Int32)))])) t) => kJ t (by
        refine XS.iloadN X0.here hx rfl (hb hby at_26) rfl ?_
        show Steps p.tables e below (s₁.setTop (mkF m 27 #[.val (.int p1), .val (.int p2), .val (.int p3), .val (.int ((p1 &&& (2147483647 : Int32)) % (6 : Int32))), .val (.int n), .unset, .unset] [(.int ((p1 &&& (2147483647 : Int32)) % (6 : Int32)))])) _
        exact kt)
      obtain ⟨_, _, ⟨T64, L64, k64, n64⟩, -, X64, ⟨Lc64, hQ64, l64, y64, z64⟩, st64⟩ := Jvm.LawKit.callS X0 hx (y := (⟨"com/example/probver/probver/language/FunctionTakesPinLaw", "pick", "(I)Lcom/example/probver/probver/language/Expression$Function;"⟩ : MethodName)) hown (mvT hZ (hw _ (List.mem_of_getElem? (i := 1) rfl))) (mvT hZ (hw _ (List.mem_of_getElem? (i := 2) rfl))) (mvT hZ (hw _ (List.mem_of_getElem? (i := 3) rfl))) (mvT hZ (hw _ (List.mem_of_getElem? (i := 4) rfl))) (by decide) (backOf (W := 0) (rm1_4 l Z a0 hw [] ((p1 &&& (2147483647 : Int32)) % (6 : Int32)) aPOW h0 n0 O0 (S_POW.ext O0.2) hk) hZ (hw _ (List.mem_of_getElem? (i := 4) rfl)) (hw _ (List.mem_of_getElem? (i := 3) rfl)) (by decide) (by decide)) (g := (mkF m 27 #[.val (.int p1), .val (.int p2), .val (.int p3), .val (.int ((p1 &&& (2147483647 : Int32)) % (6 : Int32))), .val (.int n), .unset, .unset] [(.int ((p1 &&& (2147483647 : Int32)) % (6 : Int32)))])) rfl (by rw [hml]; rfl) (argsL := [(.int ((p1 &&& (2147483647 : Int32)) % (6 : Int32)))]) (rest := []) (lenOf pd_0 rfl) rfl (by show 2 * 0 + _ ≤ _; exact Nat.le_of_eq rfl) (hb hby at_27) (fun _ _ => ⟨rfl, e0, (by decide : 0 + 0 ≤ _), (by decide : 0 + 0 ≤ _)⟩)
      dsimp only [Pt.U, Pt.locs, Pt.cells, Pt.slots] at X64 l64 y64 z64 st64 hQ64
      subst l64 y64 z64
      obtain ⟨rfl, Nq64, eh64⟩ := hQ64
      have N64 := Fr.app N0 Nq64
      have k65 := fun (t : State) (kt : Steps p.tables e below (T64.setTop (mkF m 33 #[.val (.int p1), .val (.int p2), .val (.int p3), .val (.int ((p1 &&& (2147483647 : Int32)) % (6 : Int32))), .val (.int n), .val (.ref aPOW), .unset] [(.int ((p1 &&& (2147483647 : Int32)) % (6 : Int32)))])) t) => k63 t (by
        refine st64 _ ?_
        show Steps p.tables e below (T64.setTop (mkF m 30 #[.val (.int p1), .val (.int p2), .val (.int p3), .val (.int ((p1 &&& (2147483647 : Int32)) % (6 : Int32))), .val (.int n), .unset, .unset] [(.ref aPOW)])) _
        refine XS.astore X64.here hx rfl (hb hby at_30) rfl rfl (l' := #[.val (.int p1), .val (.int p2), .val (.int p3), .val (.int ((p1 &&& (2147483647 : Int32)) % (6 : Int32))), .val (.int n), .val (.ref aPOW), .unset]) rfl ?_
        show Steps p.tables e below (T64.setTop (mkF m 32 #[.val (.int p1), .val (.int p2), .val (.int p3), .val (.int ((p1 &&& (2147483647 : Int32)) % (6 : Int32))), .val (.int n), .val (.ref aPOW), .unset] [])) _
        refine XS.iloadN X64.here hx rfl (hb hby at_32) rfl ?_
        show Steps p.tables e below (T64.setTop (mkF m 33 #[.val (.int p1), .val (.int p2), .val (.int p3), .val (.int ((p1 &&& (2147483647 : Int32)) % (6 : Int32))), .val (.int n), .val (.ref aPOW), .unset] [(.int ((p1 &&& (2147483647 : Int32)) % (6 : Int32)))])) _
        exact kt)
      have k66 := fun (t : State) (kt : Steps p.tables e below (T64.setTop (mkF m 38 #[.val (.int p1), .val (.int p2), .val (.int p3), .val (.int ((p1 &&& (2147483647 : Int32)) % (6 : Int32))), .val (.int n), .val (.ref aPOW), .unset] [(.int (1 : Int32)), (.int ((p1 &&& (2147483647 : Int32)) % (6 : Int32)))])) t) => k65 t (by
        refine XS.ifNo X64.here hx rfl (hb hby at_33) rfl ((if0 _ _).trans (feq (by rw [hk]; decide)).1) ?_
        show Steps p.tables e below (T64.setTop (mkF m 36 #[.val (.int p1), .val (.int p2), .val (.int p3), .val (.int ((p1 &&& (2147483647 : Int32)) % (6 : Int32))), .val (.int n), .val (.ref aPOW), .unset] [])) _
        refine XS.iloadN X64.here hx rfl (hb hby at_36) rfl ?_
        show Steps p.tables e below (T64.setTop (mkF m 37 #[.val (.int p1), .val (.int p2), .val (.int p3), .val (.int ((p1 &&& (2147483647 : Int32)) % (6 : Int32))), .val (.int n), .val (.ref aPOW), .unset] [(.int ((p1 &&& (2147483647 : Int32)) % (6 : Int32)))])) _
        refine XS.iconst X64.here hx rfl (hb hby at_37) ?_
        show Steps p.tables e below (T64.setTop (mkF m 38 #[.val (.int p1), .val (.int p2), .val (.int p3), .val (.int ((p1 &&& (2147483647 : Int32)) % (6 : Int32))), .val (.int n), .val (.ref aPOW), .unset] [(.int (1 : Int32)), (.int ((p1 &&& (2147483647 : Int32)) % (6 : Int32)))])) _
        exact kt)
      have k67 := fun (t : State) (kt : Steps p.tables e below (T64.setTop (mkF m 59 #[.val (.int p1), .val (.int p2), .val (.int p3), .val (.int ((p1 &&& (2147483647 : Int32)) % (6 : Int32))), .val (.int n), .val (.ref aPOW), .unset] [(.int (2 : Int32)), (.int ((p1 &&& (2147483647 : Int32)) % (6 : Int32)))])) t) => k66 t (by
        refine XS.icmpYes X64.here hx rfl (pc0 := 38) (pc' := 57) rfl (hb hby at_38) rfl (feq (by rw [hk]; decide)).2 (by decide) (by decide) ?_
        show Steps p.tables e below (T64.setTop (mkF m 57 #[.val (.int p1), .val (.int p2), .val (.int p3), .val (.int ((p1 &&& (2147483647 : Int32)) % (6 : Int32))), .val (.int n), .val (.ref aPOW), .unset] [])) _
        refine XS.iloadN X64.here hx rfl (hb hby at_57) rfl ?_
        show Steps p.tables e below (T64.setTop (mkF m 58 #[.val (.int p1), .val (.int p2), .val (.int p3), .val (.int ((p1 &&& (2147483647 : Int32)) % (6 : Int32))), .val (.int n), .val (.ref aPOW), .unset] [(.int ((p1 &&& (2147483647 : Int32)) % (6 : Int32)))])) _
        refine XS.iconst X64.here hx rfl (hb hby at_58) ?_
        show Steps p.tables e below (T64.setTop (mkF m 59 #[.val (.int p1), .val (.int p2), .val (.int p3), .val (.int ((p1 &&& (2147483647 : Int32)) % (6 : Int32))), .val (.int n), .val (.ref aPOW), .unset] [(.int (2 : Int32)), (.int ((p1 &&& (2147483647 : Int32)) % (6 : Int32)))])) _
        exact kt)
      have k68 := fun (t : State) (kt : Steps p.tables e below (T64.setTop (mkF m 64 #[.val (.int p1), .val (.int p2), .val (.int p3), .val (.int ((p1 &&& (2147483647 : Int32)) % (6 : Int32))), .val (.int n), .val (.ref aPOW), .unset] [(.int (3 : Int32)), (.int ((p1 &&& (2147483647 : Int32)) % (6 : Int32)))])) t) => k67 t (by
        refine XS.icmpNo X64.here hx rfl (hb hby at_59) rfl (feq (by rw [hk]; decide)).1 ?_
        show Steps p.tables e below (T64.setTop (mkF m 62 #[.val (.int p1), .val (.int p2), .val (.int p3), .val (.int ((p1 &&& (2147483647 : Int32)) % (6 : Int32))), .val (.int n), .val (.ref aPOW), .unset] [])) _
        refine XS.iloadN X64.here hx rfl (hb hby at_62) rfl ?_
        show Steps p.tables e below (T64.setTop (mkF m 63 #[.val (.int p1), .val (.int p2), .val (.int p3), .val (.int ((p1 &&& (2147483647 : Int32)) % (6 : Int32))), .val (.int n), .val (.ref aPOW), .unset] [(.int ((p1 &&& (2147483647 : Int32)) % (6 : Int32)))])) _
        refine XS.iconst X64.here hx rfl (hb hby at_63) ?_
        show Steps p.tables e below (T64.setTop (mkF m 64 #[.val (.int p1), .val (.int p2), .val (.int p3), .val (.int ((p1 &&& (2147483647 : Int32)) % (6 : Int32))), .val (.int n), .val (.ref aPOW), .unset] [(.int (3 : Int32)), (.int ((p1 &&& (2147483647 : Int32)) % (6 : Int32)))])) _
        exact kt)
      have k69 := fun (t : State) (kt : Steps p.tables e below (T64.setTop (mkF m 86 #[.val (.int p1), .val (.int p2), .val (.int p3), .val (.int ((p1 &&& (2147483647 : Int32)) % (6 : Int32))), .val (.int n), .val (.ref aPOW), .unset] [(.int (2 : Int32)), (.int n)])) t) => k68 t (by
        refine XS.icmpYes X64.here hx rfl (pc0 := 64) (pc' := 83) rfl (hb hby at_64) rfl (feq (by rw [hk]; decide)).2 (by decide) (by decide) ?_
        show Steps p.tables e below (T64.setTop (mkF m 83 #[.val (.int p1), .val (.int p2), .val (.int p3), .val (.int ((p1 &&& (2147483647 : Int32)) % (6 : Int32))), .val (.int n), .val (.ref aPOW), .unset] [])) _
        refine XS.iload X64.here hx rfl (hb hby at_83) rfl ?_
        show Steps p.tables e below (T64.setTop (mkF m 85 #[.val (.int p1), .val (.int p2), .val (.int p3), .val (.int ((p1 &&& (2147483647 : Int32)) % (6 : Int32))), .val (.int n), .val (.ref aPOW), .unset] [(.int n)])) _
        refine XS.iconst X64.here hx rfl (hb hby at_85) ?_
        show Steps p.tables e below (T64.setTop (mkF m 86 #[.val (.int p1), .val (.int p2), .val (.int p3), .val (.int ((p1 &&& (2147483647 : Int32)) % (6 : Int32))), .val (.int n), .val (.ref aPOW), .unset] [(.int (2 : Int32)), (.int n)])) _
        exact kt)
      by_cases hc86_70 : n = (2 : Int32)
      · have k71 := fun (t : State) (kt : Steps p.tables e below (T64.setTop (mkF m 100 #[.val (.int p1), .val (.int p2), .val (.int p3), .val (.int ((p1 &&& (2147483647 : Int32)) % (6 : Int32))), .val (.int n), .val (.ref aPOW), .val (.int (1 : Int32))] [(.int n), (.ref aPOW)])) t) => k69 t (by
          refine XS.icmpNo X64.here hx rfl (hb hby at_86) rfl (teq hc86_70).2 ?_
          show Steps p.tables e below (T64.setTop (mkF m 89 #[.val (.int p1), .val (.int p2), .val (.int p3), .val (.int ((p1 &&& (2147483647 : Int32)) % (6 : Int32))), .val (.int n), .val (.ref aPOW), .unset] [])) _
          refine XS.iconst X64.here hx rfl (hb hby at_89) ?_
          show Steps p.tables e below (T64.setTop (mkF m 90 #[.val (.int p1), .val (.int p2), .val (.int p3), .val (.int ((p1 &&& (2147483647 : Int32)) % (6 : Int32))), .val (.int n), .val (.ref aPOW), .unset] [(.int (1 : Int32))])) _
          refine XS.goto X64.here hx rfl (pc0 := 90) (pc' := 94) rfl (hb hby at_90) (by decide) (by decide) ?_
          show Steps p.tables e below (T64.setTop (mkF m 94 #[.val (.int p1), .val (.int p2), .val (.int p3), .val (.int ((p1 &&& (2147483647 : Int32)) % (6 : Int32))), .val (.int n), .val (.ref aPOW), .unset] [(.int (1 : Int32))])) _
          refine XS.istore X64.here hx rfl (hb hby at_94) rfl (l' := #[.val (.int p1), .val (.int p2), .val (.int p3), .val (.int ((p1 &&& (2147483647 : Int32)) % (6 : Int32))), .val (.int n), .val (.ref aPOW), .val (.int (1 : Int32))]) rfl ?_
          show Steps p.tables e below (T64.setTop (mkF m 96 #[.val (.int p1), .val (.int p2), .val (.int p3), .val (.int ((p1 &&& (2147483647 : Int32)) % (6 : Int32))), .val (.int n), .val (.ref aPOW), .val (.int (1 : Int32))] [])) _
          refine XS.aload X64.here hx rfl (hb hby at_96) rfl rfl ?_
          show Steps p.tables e below (T64.setTop (mkF m 98 #[.val (.int p1), .val (.int p2), .val (.int p3), .val (.int ((p1 &&& (2147483647 : Int32)) % (6 : Int32))), .val (.int n), .val (.ref aPOW), .val (.int (1 : Int32))] [(.ref aPOW)])) _
          refine XS.iload X64.here hx rfl (hb hby at_98) rfl ?_
          show Steps p.tables e below (T64.setTop (mkF m 100 #[.val (.int p1), .val (.int p2), .val (.int p3), .val (.int ((p1 &&& (2147483647 : Int32)) % (6 : Int32))), .val (.int n), .val (.ref aPOW), .val (.int (1 : Int32))] [(.int n), (.ref aPOW)])) _
          exact kt)
        obtain ⟨cq72, kq72, q72a, q72b, q72c⟩ := isOf hZ eh64 (E_POW.ext O0.2)
        obtain ⟨_, _, ⟨T72, L72, k72, n72⟩, -, X72, ⟨Lc72, hQ72, l72, y72, z72⟩, st72⟩ := X64.virtualBack hx (y := (⟨"com/example/probver/probver/language/Expression$Function", "takes", "(I)Z"⟩ : MethodName)) (z := (⟨"com/example/probver/probver/language/Expression$Function", "takes", "(I)Z"⟩ : MethodName)) hown (mvT hZ (hw _ (List.mem_of_getElem? (i := 8) rfl))) (mvT hZ (hw _ (List.mem_of_getElem? (i := 9) rfl))) (notFace_of_selects (args := #[]) (mvT hZ (hw _ (List.mem_of_getElem? (i := 11) rfl)))) (mvT hZ (hw _ (List.mem_of_getElem? (i := 11) rfl))) (mvT hZ (hw _ (List.mem_of_getElem? (i := 10) rfl))) (by decide) (backOf (W := 0) (rm2 l Z a0 hw [] aPOW n (2 : Int32) (2 : Int32) h0 n0 O0 (F_POW_fewestArguments.ext O0.2) (F_POW_mostArguments.ext O0.2)) hZ (hw _ (List.mem_of_getElem? (i := 12) rfl)) (hw _ (List.mem_of_getElem? (i := 6) rfl)) (by decide) (by decide)) q72a q72c (g := (mkF m 100 #[.val (.int p1), .val (.int p2), .val (.int p3), .val (.int ((p1 &&& (2147483647 : Int32)) % (6 : Int32))), .val (.int n), .val (.ref aPOW), .val (.int (1 : Int32))] [(.int n), (.ref aPOW)])) rfl (by rw [hml]; rfl) (Steps.refl _) (argsL := [(.int n)]) (rest := []) (lenOf pd_1 rfl) rfl (by show 2 * 0 + _ ≤ _; exact Nat.le_of_eq rfl) (hb hby at_100) (fun _ _ => ⟨rfl, eh64, (by decide : 0 + 0 ≤ _), (by decide : 0 + 0 ≤ _)⟩)
        dsimp only [Pt.U, Pt.locs, Pt.cells, Pt.slots] at X72 l72 y72 z72 st72 hQ72
        subst l72 y72 z72
        obtain ⟨rfl, Nq72, eh72⟩ := hQ72
        have N72 := Fr.app N64 Nq72
        have k73 := fun (t : State) (kt : Steps p.tables e below (T72.setTop (mkF m 105 #[.val (.int p1), .val (.int p2), .val (.int p3), .val (.int ((p1 &&& (2147483647 : Int32)) % (6 : Int32))), .val (.int n), .val (.ref aPOW), .val (.int (1 : Int32))] [(.int (1 : Int32)), (.int (own_takes (2 : Int32) (2 : Int32) n))])) t) => k71 t (by
          refine st72.trans ?_
          show Steps p.tables e below (T72.setTop (mkF m 103 #[.val (.int p1), .val (.int p2), .val (.int p3), .val (.int ((p1 &&& (2147483647 : Int32)) % (6 : Int32))), .val (.int n), .val (.ref aPOW), .val (.int (1 : Int32))] [(.int (own_takes (2 : Int32) (2 : Int32) n))])) _
          refine XS.iload X72.here hx rfl (hb hby at_103) rfl ?_
          show Steps p.tables e below (T72.setTop (mkF m 105 #[.val (.int p1), .val (.int p2), .val (.int p3), .val (.int ((p1 &&& (2147483647 : Int32)) % (6 : Int32))), .val (.int n), .val (.ref aPOW), .val (.int (1 : Int32))] [(.int (1 : Int32)), (.int (own_takes (2 : Int32) (2 : Int32) n))])) _
          exact kt)
        have k74 := fun (t : State) (kt : Steps p.tables e below (T72.setTop (mkF m 113 #[.val (.int p1), .val (.int p2), .val (.int p3), .val (.int ((p1 &&& (2147483647 : Int32)) % (6 : Int32))), .val (.int n), .val (.ref aPOW), .val (.int (1 : Int32))] [(.int (1 : Int32))])) t) => k73 t (by
          refine XS.icmpNo X72.here hx rfl (hb hby at_105) rfl (teq (by rw [hc86_70]; exact own_pin_eq)).2 ?_
          show Steps p.tables e below (T72.setTop (mkF m 108 #[.val (.int p1), .val (.int p2), .val (.int p3), .val (.int ((p1 &&& (2147483647 : Int32)) % (6 : Int32))), .val (.int n), .val (.ref aPOW), .val (.int (1 : Int32))] [])) _
          refine XS.iconst X72.here hx rfl (hb hby at_108) ?_
          show Steps p.tables e below (T72.setTop (mkF m 109 #[.val (.int p1), .val (.int p2), .val (.int p3), .val (.int ((p1 &&& (2147483647 : Int32)) % (6 : Int32))), .val (.int n), .val (.ref aPOW), .val (.int (1 : Int32))] [(.int (1 : Int32))])) _
          refine XS.goto X72.here hx rfl (pc0 := 109) (pc' := 113) rfl (hb hby at_109) (by decide) (by decide) ?_
          show Steps p.tables e below (T72.setTop (mkF m 113 #[.val (.int p1), .val (.int p2), .val (.int p3), .val (.int ((p1 &&& (2147483647 : Int32)) % (6 : Int32))), .val (.int n), .val (.ref aPOW), .val (.int (1 : Int32))] [(.int (1 : Int32))])) _
          exact kt)
        obtain ⟨fs, hr, hrun, hended, hW, hsame⟩ := X72.leave (v := some (.int (1 : Int32))) (fun h => by rw [Bd.returns] at h; cases h)
        refine ⟨_, _, k74 _ ?_, hrun, hended, _, _, rfl, ?_, ⟨_, rfl⟩, hW, hsame.mono (by decide) (by decide)⟩
        · exact retN X72 hx (t := .boolean) Bd.returns (by simp) (hb hby at_113) hr
        · show Q0 n0 _ T72.heap _
          rw [eh72]
          exact ⟨rfl, N72⟩
      · have k75 := fun (t : State) (kt : Steps p.tables e below (T64.setTop (mkF m 100 #[.val (.int p1), .val (.int p2), .val (.int p3), .val (.int ((p1 &&& (2147483647 : Int32)) % (6 : Int32))), .val (.int n), .val (.ref aPOW), .val (.int (0 : Int32))] [(.int n), (.ref aPOW)])) t) => k69 t (by
          refine XS.icmpYes X64.here hx rfl (pc0 := 86) (pc' := 93) rfl (hb hby at_86) rfl (feq hc86_70).2 (by decide) (by decide) ?_
          show Steps p.tables e below (T64.setTop (mkF m 93 #[.val (.int p1), .val (.int p2), .val (.int p3), .val (.int ((p1 &&& (2147483647 : Int32)) % (6 : Int32))), .val (.int n), .val (.ref aPOW), .unset] [])) _
          refine XS.iconst X64.here hx rfl (hb hby at_93) ?_
          show Steps p.tables e below (T64.setTop (mkF m 94 #[.val (.int p1), .val (.int p2), .val (.int p3), .val (.int ((p1 &&& (2147483647 : Int32)) % (6 : Int32))), .val (.int n), .val (.ref aPOW), .unset] [(.int (0 : Int32))])) _
          refine XS.istore X64.here hx rfl (hb hby at_94) rfl (l' := #[.val (.int p1), .val (.int p2), .val (.int p3), .val (.int ((p1 &&& (2147483647 : Int32)) % (6 : Int32))), .val (.int n), .val (.ref aPOW), .val (.int (0 : Int32))]) rfl ?_
          show Steps p.tables e below (T64.setTop (mkF m 96 #[.val (.int p1), .val (.int p2), .val (.int p3), .val (.int ((p1 &&& (2147483647 : Int32)) % (6 : Int32))), .val (.int n), .val (.ref aPOW), .val (.int (0 : Int32))] [])) _
          refine XS.aload X64.here hx rfl (hb hby at_96) rfl rfl ?_
          show Steps p.tables e below (T64.setTop (mkF m 98 #[.val (.int p1), .val (.int p2), .val (.int p3), .val (.int ((p1 &&& (2147483647 : Int32)) % (6 : Int32))), .val (.int n), .val (.ref aPOW), .val (.int (0 : Int32))] [(.ref aPOW)])) _
          refine XS.iload X64.here hx rfl (hb hby at_98) rfl ?_
          show Steps p.tables e below (T64.setTop (mkF m 100 #[.val (.int p1), .val (.int p2), .val (.int p3), .val (.int ((p1 &&& (2147483647 : Int32)) % (6 : Int32))), .val (.int n), .val (.ref aPOW), .val (.int (0 : Int32))] [(.int n), (.ref aPOW)])) _
          exact kt)
        obtain ⟨cq76, kq76, q76a, q76b, q76c⟩ := isOf hZ eh64 (E_POW.ext O0.2)
        obtain ⟨_, _, ⟨T76, L76, k76, n76⟩, -, X76, ⟨Lc76, hQ76, l76, y76, z76⟩, st76⟩ := X64.virtualBack hx (y := (⟨"com/example/probver/probver/language/Expression$Function", "takes", "(I)Z"⟩ : MethodName)) (z := (⟨"com/example/probver/probver/language/Expression$Function", "takes", "(I)Z"⟩ : MethodName)) hown (mvT hZ (hw _ (List.mem_of_getElem? (i := 8) rfl))) (mvT hZ (hw _ (List.mem_of_getElem? (i := 9) rfl))) (notFace_of_selects (args := #[]) (mvT hZ (hw _ (List.mem_of_getElem? (i := 11) rfl)))) (mvT hZ (hw _ (List.mem_of_getElem? (i := 11) rfl))) (mvT hZ (hw _ (List.mem_of_getElem? (i := 10) rfl))) (by decide) (backOf (W := 0) (rm2 l Z a0 hw [] aPOW n (2 : Int32) (2 : Int32) h0 n0 O0 (F_POW_fewestArguments.ext O0.2) (F_POW_mostArguments.ext O0.2)) hZ (hw _ (List.mem_of_getElem? (i := 12) rfl)) (hw _ (List.mem_of_getElem? (i := 6) rfl)) (by decide) (by decide)) q76a q76c (g := (mkF m 100 #[.val (.int p1), .val (.int p2), .val (.int p3), .val (.int ((p1 &&& (2147483647 : Int32)) % (6 : Int32))), .val (.int n), .val (.ref aPOW), .val (.int (0 : Int32))] [(.int n), (.ref aPOW)])) rfl (by rw [hml]; rfl) (Steps.refl _) (argsL := [(.int n)]) (rest := []) (lenOf pd_1 rfl) rfl (by show 2 * 0 + _ ≤ _; exact Nat.le_of_eq rfl) (hb hby at_100) (fun _ _ => ⟨rfl, eh64, (by decide : 0 + 0 ≤ _), (by decide : 0 + 0 ≤ _)⟩)
        dsimp only [Pt.U, Pt.locs, Pt.cells, Pt.slots] at X76 l76 y76 z76 st76 hQ76
        subst l76 y76 z76
        obtain ⟨rfl, Nq76, eh76⟩ := hQ76
        have N76 := Fr.app N64 Nq76
        have k77 := fun (t : State) (kt : Steps p.tables e below (T76.setTop (mkF m 105 #[.val (.int p1), .val (.int p2), .val (.int p3), .val (.int ((p1 &&& (2147483647 : Int32)) % (6 : Int32))), .val (.int n), .val (.ref aPOW), .val (.int (0 : Int32))] [(.int (0 : Int32)), (.int (own_takes (2 : Int32) (2 : Int32) n))])) t) => k75 t (by
          refine st76.trans ?_
          show Steps p.tables e below (T76.setTop (mkF m 103 #[.val (.int p1), .val (.int p2), .val (.int p3), .val (.int ((p1 &&& (2147483647 : Int32)) % (6 : Int32))), .val (.int n), .val (.ref aPOW), .val (.int (0 : Int32))] [(.int (own_takes (2 : Int32) (2 : Int32) n))])) _
          refine XS.iload X76.here hx rfl (hb hby at_103) rfl ?_
          show Steps p.tables e below (T76.setTop (mkF m 105 #[.val (.int p1), .val (.int p2), .val (.int p3), .val (.int ((p1 &&& (2147483647 : Int32)) % (6 : Int32))), .val (.int n), .val (.ref aPOW), .val (.int (0 : Int32))] [(.int (0 : Int32)), (.int (own_takes (2 : Int32) (2 : Int32) n))])) _
          exact kt)
        have k78 := fun (t : State) (kt : Steps p.tables e below (T76.setTop (mkF m 113 #[.val (.int p1), .val (.int p2), .val (.int p3), .val (.int ((p1 &&& (2147483647 : Int32)) % (6 : Int32))), .val (.int n), .val (.ref aPOW), .val (.int (0 : Int32))] [(.int (1 : Int32))])) t) => k77 t (by
          refine XS.icmpNo X76.here hx rfl (hb hby at_105) rfl (teq (own_pin_ne hc86_70)).2 ?_
          show Steps p.tables e below (T76.setTop (mkF m 108 #[.val (.int p1), .val (.int p2), .val (.int p3), .val (.int ((p1 &&& (2147483647 : Int32)) % (6 : Int32))), .val (.int n), .val (.ref aPOW), .val (.int (0 : Int32))] [])) _
          refine XS.iconst X76.here hx rfl (hb hby at_108) ?_
          show Steps p.tables e below (T76.setTop (mkF m 109 #[.val (.int p1), .val (.int p2), .val (.int p3), .val (.int ((p1 &&& (2147483647 : Int32)) % (6 : Int32))), .val (.int n), .val (.ref aPOW), .val (.int (0 : Int32))] [(.int (1 : Int32))])) _
          refine XS.goto X76.here hx rfl (pc0 := 109) (pc' := 113) rfl (hb hby at_109) (by decide) (by decide) ?_
          show Steps p.tables e below (T76.setTop (mkF m 113 #[.val (.int p1), .val (.int p2), .val (.int p3), .val (.int ((p1 &&& (2147483647 : Int32)) % (6 : Int32))), .val (.int n), .val (.ref aPOW), .val (.int (0 : Int32))] [(.int (1 : Int32))])) _
          exact kt)
        obtain ⟨fs, hr, hrun, hended, hW, hsame⟩ := X76.leave (v := some (.int (1 : Int32))) (fun h => by rw [Bd.returns] at h; cases h)
        refine ⟨_, _, k78 _ ?_, hrun, hended, _, _, rfl, ?_, ⟨_, rfl⟩, hW, hsame.mono (by decide) (by decide)⟩
        · exact retN X76 hx (t := .boolean) Bd.returns (by simp) (hb hby at_113) hr
        · show Q0 n0 _ T76.heap _
          rw [eh76]
          exact ⟨rfl, N76⟩
    · have k79 := fun (t : State) (kt : Steps p.tables e below (s₁.setTop (mkF m 27 #[.val (.int p1), .val (.int p2), .val (.int p3), .val (.int ((p1 &&& (2147483647 : Int32)) % (6 : Int32))), .val (.int n), .unset, .unset] [(.int ((p1 &&& (2147483647 : Int32)) % (6 : Int32)))])) t) => kJ t (by
        refine XS.iloadN X0.here hx rfl (hb hby at_26) rfl ?_
        show Steps p.tables e below (s₁.setTop (mkF m 27 #[.val (.int p1), .val (.int p2), .val (.int p3), .val (.int ((p1 &&& (2147483647 : Int32)) % (6 : Int32))), .val (.int n), .unset, .unset] [(.int ((p1 &&& (2147483647 : Int32)) % (6 : Int32)))])) _
        exact kt)
      obtain ⟨_, _, ⟨T80, L80, k80, n80⟩, -, X80, ⟨Lc80, hQ80, l80, y80, z80⟩, st80⟩ := Jvm.LawKit.callS X0 hx (y := (⟨"com/example/probver/probver/language/FunctionTakesPinLaw", "pick", "(I)Lcom/example/probver/probver/language/Expression$Function;"⟩ : MethodName)) hown (mvT hZ (hw _ (List.mem_of_getElem? (i := 1) rfl))) (mvT hZ (hw _ (List.mem_of_getElem? (i := 2) rfl))) (mvT hZ (hw _ (List.mem_of_getElem? (i := 3) rfl))) (mvT hZ (hw _ (List.mem_of_getElem? (i := 4) rfl))) (by decide) (backOf (W := 0) (rm1_5 l Z a0 hw [] ((p1 &&& (2147483647 : Int32)) % (6 : Int32)) aMOD h0 n0 O0 (S_MOD.ext O0.2) hk) hZ (hw _ (List.mem_of_getElem? (i := 4) rfl)) (hw _ (List.mem_of_getElem? (i := 3) rfl)) (by decide) (by decide)) (g := (mkF m 27 #[.val (.int p1), .val (.int p2), .val (.int p3), .val (.int ((p1 &&& (2147483647 : Int32)) % (6 : Int32))), .val (.int n), .unset, .unset] [(.int ((p1 &&& (2147483647 : Int32)) % (6 : Int32)))])) rfl (by rw [hml]; rfl) (argsL := [(.int ((p1 &&& (2147483647 : Int32)) % (6 : Int32)))]) (rest := []) (lenOf pd_0 rfl) rfl (by show 2 * 0 + _ ≤ _; exact Nat.le_of_eq rfl) (hb hby at_27) (fun _ _ => ⟨rfl, e0, (by decide : 0 + 0 ≤ _), (by decide : 0 + 0 ≤ _)⟩)
      dsimp only [Pt.U, Pt.locs, Pt.cells, Pt.slots] at X80 l80 y80 z80 st80 hQ80
      subst l80 y80 z80
      obtain ⟨rfl, Nq80, eh80⟩ := hQ80
      have N80 := Fr.app N0 Nq80
      have k81 := fun (t : State) (kt : Steps p.tables e below (T80.setTop (mkF m 33 #[.val (.int p1), .val (.int p2), .val (.int p3), .val (.int ((p1 &&& (2147483647 : Int32)) % (6 : Int32))), .val (.int n), .val (.ref aMOD), .unset] [(.int ((p1 &&& (2147483647 : Int32)) % (6 : Int32)))])) t) => k79 t (by
        refine st80 _ ?_
        show Steps p.tables e below (T80.setTop (mkF m 30 #[.val (.int p1), .val (.int p2), .val (.int p3), .val (.int ((p1 &&& (2147483647 : Int32)) % (6 : Int32))), .val (.int n), .unset, .unset] [(.ref aMOD)])) _
        refine XS.astore X80.here hx rfl (hb hby at_30) rfl rfl (l' := #[.val (.int p1), .val (.int p2), .val (.int p3), .val (.int ((p1 &&& (2147483647 : Int32)) % (6 : Int32))), .val (.int n), .val (.ref aMOD), .unset]) rfl ?_
        show Steps p.tables e below (T80.setTop (mkF m 32 #[.val (.int p1), .val (.int p2), .val (.int p3), .val (.int ((p1 &&& (2147483647 : Int32)) % (6 : Int32))), .val (.int n), .val (.ref aMOD), .unset] [])) _
        refine XS.iloadN X80.here hx rfl (hb hby at_32) rfl ?_
        show Steps p.tables e below (T80.setTop (mkF m 33 #[.val (.int p1), .val (.int p2), .val (.int p3), .val (.int ((p1 &&& (2147483647 : Int32)) % (6 : Int32))), .val (.int n), .val (.ref aMOD), .unset] [(.int ((p1 &&& (2147483647 : Int32)) % (6 : Int32)))])) _
        exact kt)
      have k82 := fun (t : State) (kt : Steps p.tables e below (T80.setTop (mkF m 38 #[.val (.int p1), .val (.int p2), .val (.int p3), .val (.int ((p1 &&& (2147483647 : Int32)) % (6 : Int32))), .val (.int n), .val (.ref aMOD), .unset] [(.int (1 : Int32)), (.int ((p1 &&& (2147483647 : Int32)) % (6 : Int32)))])) t) => k81 t (by
        refine XS.ifNo X80.here hx rfl (hb hby at_33) rfl ((if0 _ _).trans (feq (by rw [hk]; decide)).1) ?_
        show Steps p.tables e below (T80.setTop (mkF m 36 #[.val (.int p1), .val (.int p2), .val (.int p3), .val (.int ((p1 &&& (2147483647 : Int32)) % (6 : Int32))), .val (.int n), .val (.ref aMOD), .unset] [])) _
        refine XS.iloadN X80.here hx rfl (hb hby at_36) rfl ?_
        show Steps p.tables e below (T80.setTop (mkF m 37 #[.val (.int p1), .val (.int p2), .val (.int p3), .val (.int ((p1 &&& (2147483647 : Int32)) % (6 : Int32))), .val (.int n), .val (.ref aMOD), .unset] [(.int ((p1 &&& (2147483647 : Int32)) % (6 : Int32)))])) _
        refine XS.iconst X80.here hx rfl (hb hby at_37) ?_
        show Steps p.tables e below (T80.setTop (mkF m 38 #[.val (.int p1), .val (.int p2), .val (.int p3), .val (.int ((p1 &&& (2147483647 : Int32)) % (6 : Int32))), .val (.int n), .val (.ref aMOD), .unset] [(.int (1 : Int32)), (.int ((p1 &&& (2147483647 : Int32)) % (6 : Int32)))])) _
        exact kt)
      have k83 := fun (t : State) (kt : Steps p.tables e below (T80.setTop (mkF m 59 #[.val (.int p1), .val (.int p2), .val (.int p3), .val (.int ((p1 &&& (2147483647 : Int32)) % (6 : Int32))), .val (.int n), .val (.ref aMOD), .unset] [(.int (2 : Int32)), (.int ((p1 &&& (2147483647 : Int32)) % (6 : Int32)))])) t) => k82 t (by
        refine XS.icmpYes X80.here hx rfl (pc0 := 38) (pc' := 57) rfl (hb hby at_38) rfl (feq (by rw [hk]; decide)).2 (by decide) (by decide) ?_
        show Steps p.tables e below (T80.setTop (mkF m 57 #[.val (.int p1), .val (.int p2), .val (.int p3), .val (.int ((p1 &&& (2147483647 : Int32)) % (6 : Int32))), .val (.int n), .val (.ref aMOD), .unset] [])) _
        refine XS.iloadN X80.here hx rfl (hb hby at_57) rfl ?_
        show Steps p.tables e below (T80.setTop (mkF m 58 #[.val (.int p1), .val (.int p2), .val (.int p3), .val (.int ((p1 &&& (2147483647 : Int32)) % (6 : Int32))), .val (.int n), .val (.ref aMOD), .unset] [(.int ((p1 &&& (2147483647 : Int32)) % (6 : Int32)))])) _
        refine XS.iconst X80.here hx rfl (hb hby at_58) ?_
        show Steps p.tables e below (T80.setTop (mkF m 59 #[.val (.int p1), .val (.int p2), .val (.int p3), .val (.int ((p1 &&& (2147483647 : Int32)) % (6 : Int32))), .val (.int n), .val (.ref aMOD), .unset] [(.int (2 : Int32)), (.int ((p1 &&& (2147483647 : Int32)) % (6 : Int32)))])) _
        exact kt)
      have k84 := fun (t : State) (kt : Steps p.tables e below (T80.setTop (mkF m 64 #[.val (.int p1), .val (.int p2), .val (.int p3), .val (.int ((p1 &&& (2147483647 : Int32)) % (6 : Int32))), .val (.int n), .val (.ref aMOD), .unset] [(.int (3 : Int32)), (.int ((p1 &&& (2147483647 : Int32)) % (6 : Int32)))])) t) => k83 t (by
        refine XS.icmpNo X80.here hx rfl (hb hby at_59) rfl (feq (by rw [hk]; decide)).1 ?_
        show Steps p.tables e below (T80.setTop (mkF m 62 #[.val (.int p1), .val (.int p2), .val (.int p3), .val (.int ((p1 &&& (2147483647 : Int32)) % (6 : Int32))), .val (.int n), .val (.ref aMOD), .unset] [])) _
        refine XS.iloadN X80.here hx rfl (hb hby at_62) rfl ?_
        show Steps p.tables e below (T80.setTop (mkF m 63 #[.val (.int p1), .val (.int p2), .val (.int p3), .val (.int ((p1 &&& (2147483647 : Int32)) % (6 : Int32))), .val (.int n), .val (.ref aMOD), .unset] [(.int ((p1 &&& (2147483647 : Int32)) % (6 : Int32)))])) _
        refine XS.iconst X80.here hx rfl (hb hby at_63) ?_
        show Steps p.tables e below (T80.setTop (mkF m 64 #[.val (.int p1), .val (.int p2), .val (.int p3), .val (.int ((p1 &&& (2147483647 : Int32)) % (6 : Int32))), .val (.int n), .val (.ref aMOD), .unset] [(.int (3 : Int32)), (.int ((p1 &&& (2147483647 : Int32)) % (6 : Int32)))])) _
        exact kt)
      have k85 := fun (t : State) (kt : Steps p.tables e below (T80.setTop (mkF m 86 #[.val (.int p1), .val (.int p2), .val (.int p3), .val (.int ((p1 &&& (2147483647 : Int32)) % (6 : Int32))), .val (.int n), .val (.ref aMOD), .unset] [(.int (2 : Int32)), (.int n)])) t) => k84 t (by
        refine XS.icmpYes X80.here hx rfl (pc0 := 64) (pc' := 83) rfl (hb hby at_64) rfl (feq (by rw [hk]; decide)).2 (by decide) (by decide) ?_
        show Steps p.tables e below (T80.setTop (mkF m 83 #[.val (.int p1), .val (.int p2), .val (.int p3), .val (.int ((p1 &&& (2147483647 : Int32)) % (6 : Int32))), .val (.int n), .val (.ref aMOD), .unset] [])) _
        refine XS.iload X80.here hx rfl (hb hby at_83) rfl ?_
        show Steps p.tables e below (T80.setTop (mkF m 85 #[.val (.int p1), .val (.int p2), .val (.int p3), .val (.int ((p1 &&& (2147483647 : Int32)) % (6 : Int32))), .val (.int n), .val (.ref aMOD), .unset] [(.int n)])) _
        refine XS.iconst X80.here hx rfl (hb hby at_85) ?_
        show Steps p.tables e below (T80.setTop (mkF m 86 #[.val (.int p1), .val (.int p2), .val (.int p3), .val (.int ((p1 &&& (2147483647 : Int32)) % (6 : Int32))), .val (.int n), .val (.ref aMOD), .unset] [(.int (2 : Int32)), (.int n)])) _
        exact kt)
      by_cases hc86_86 : n = (2 : Int32)
      · have k87 := fun (t : State) (kt : Steps p.tables e below (T80.setTop (mkF m 100 #[.val (.int p1), .val (.int p2), .val (.int p3), .val (.int ((p1 &&& (2147483647 : Int32)) % (6 : Int32))), .val (.int n), .val (.ref aMOD), .val (.int (1 : Int32))] [(.int n), (.ref aMOD)])) t) => k85 t (by
          refine XS.icmpNo X80.here hx rfl (hb hby at_86) rfl (teq hc86_86).2 ?_
          show Steps p.tables e below (T80.setTop (mkF m 89 #[.val (.int p1), .val (.int p2), .val (.int p3), .val (.int ((p1 &&& (2147483647 : Int32)) % (6 : Int32))), .val (.int n), .val (.ref aMOD), .unset] [])) _
          refine XS.iconst X80.here hx rfl (hb hby at_89) ?_
          show Steps p.tables e below (T80.setTop (mkF m 90 #[.val (.int p1), .val (.int p2), .val (.int p3), .val (.int ((p1 &&& (2147483647 : Int32)) % (6 : Int32))), .val (.int n), .val (.ref aMOD), .unset] [(.int (1 : Int32))])) _
          refine XS.goto X80.here hx rfl (pc0 := 90) (pc' := 94) rfl (hb hby at_90) (by decide) (by decide) ?_
          show Steps p.tables e below (T80.setTop (mkF m 94 #[.val (.int p1), .val (.int p2), .val (.int p3), .val (.int ((p1 &&& (2147483647 : Int32)) % (6 : Int32))), .val (.int n), .val (.ref aMOD), .unset] [(.int (1 : Int32))])) _
          refine XS.istore X80.here hx rfl (hb hby at_94) rfl (l' := #[.val (.int p1), .val (.int p2), .val (.int p3), .val (.int ((p1 &&& (2147483647 : Int32)) % (6 : Int32))), .val (.int n), .val (.ref aMOD), .val (.int (1 : Int32))]) rfl ?_
          show Steps p.tables e below (T80.setTop (mkF m 96 #[.val (.int p1), .val (.int p2), .val (.int p3), .val (.int ((p1 &&& (2147483647 : Int32)) % (6 : Int32))), .val (.int n), .val (.ref aMOD), .val (.int (1 : Int32))] [])) _
          refine XS.aload X80.here hx rfl (hb hby at_96) rfl rfl ?_
          show Steps p.tables e below (T80.setTop (mkF m 98 #[.val (.int p1), .val (.int p2), .val (.int p3), .val (.int ((p1 &&& (2147483647 : Int32)) % (6 : Int32))), .val (.int n), .val (.ref aMOD), .val (.int (1 : Int32))] [(.ref aMOD)])) _
          refine XS.iload X80.here hx rfl (hb hby at_98) rfl ?_
          show Steps p.tables e below (T80.setTop (mkF m 100 #[.val (.int p1), .val (.int p2), .val (.int p3), .val (.int ((p1 &&& (2147483647 : Int32)) % (6 : Int32))), .val (.int n), .val (.ref aMOD), .val (.int (1 : Int32))] [(.int n), (.ref aMOD)])) _
          exact kt)
        obtain ⟨cq88, kq88, q88a, q88b, q88c⟩ := isOf hZ eh80 (E_MOD.ext O0.2)
        obtain ⟨_, _, ⟨T88, L88, k88, n88⟩, -, X88, ⟨Lc88, hQ88, l88, y88, z88⟩, st88⟩ := X80.virtualBack hx (y := (⟨"com/example/probver/probver/language/Expression$Function", "takes", "(I)Z"⟩ : MethodName)) (z := (⟨"com/example/probver/probver/language/Expression$Function", "takes", "(I)Z"⟩ : MethodName)) hown (mvT hZ (hw _ (List.mem_of_getElem? (i := 8) rfl))) (mvT hZ (hw _ (List.mem_of_getElem? (i := 9) rfl))) (notFace_of_selects (args := #[]) (mvT hZ (hw _ (List.mem_of_getElem? (i := 11) rfl)))) (mvT hZ (hw _ (List.mem_of_getElem? (i := 11) rfl))) (mvT hZ (hw _ (List.mem_of_getElem? (i := 10) rfl))) (by decide) (backOf (W := 0) (rm2 l Z a0 hw [] aMOD n (2 : Int32) (2 : Int32) h0 n0 O0 (F_MOD_fewestArguments.ext O0.2) (F_MOD_mostArguments.ext O0.2)) hZ (hw _ (List.mem_of_getElem? (i := 12) rfl)) (hw _ (List.mem_of_getElem? (i := 6) rfl)) (by decide) (by decide)) q88a q88c (g := (mkF m 100 #[.val (.int p1), .val (.int p2), .val (.int p3), .val (.int ((p1 &&& (2147483647 : Int32)) % (6 : Int32))), .val (.int n), .val (.ref aMOD), .val (.int (1 : Int32))] [(.int n), (.ref aMOD)])) rfl (by rw [hml]; rfl) (Steps.refl _) (argsL := [(.int n)]) (rest := []) (lenOf pd_1 rfl) rfl (by show 2 * 0 + _ ≤ _; exact Nat.le_of_eq rfl) (hb hby at_100) (fun _ _ => ⟨rfl, eh80, (by decide : 0 + 0 ≤ _), (by decide : 0 + 0 ≤ _)⟩)
        dsimp only [Pt.U, Pt.locs, Pt.cells, Pt.slots] at X88 l88 y88 z88 st88 hQ88
        subst l88 y88 z88
        obtain ⟨rfl, Nq88, eh88⟩ := hQ88
        have N88 := Fr.app N80 Nq88
        have k89 := fun (t : State) (kt : Steps p.tables e below (T88.setTop (mkF m 105 #[.val (.int p1), .val (.int p2), .val (.int p3), .val (.int ((p1 &&& (2147483647 : Int32)) % (6 : Int32))), .val (.int n), .val (.ref aMOD), .val (.int (1 : Int32))] [(.int (1 : Int32)), (.int (own_takes (2 : Int32) (2 : Int32) n))])) t) => k87 t (by
          refine st88.trans ?_
          show Steps p.tables e below (T88.setTop (mkF m 103 #[.val (.int p1), .val (.int p2), .val (.int p3), .val (.int ((p1 &&& (2147483647 : Int32)) % (6 : Int32))), .val (.int n), .val (.ref aMOD), .val (.int (1 : Int32))] [(.int (own_takes (2 : Int32) (2 : Int32) n))])) _
          refine XS.iload X88.here hx rfl (hb hby at_103) rfl ?_
          show Steps p.tables e below (T88.setTop (mkF m 105 #[.val (.int p1), .val (.int p2), .val (.int p3), .val (.int ((p1 &&& (2147483647 : Int32)) % (6 : Int32))), .val (.int n), .val (.ref aMOD), .val (.int (1 : Int32))] [(.int (1 : Int32)), (.int (own_takes (2 : Int32) (2 : Int32) n))])) _
          exact kt)
        have k90 := fun (t : State) (kt : Steps p.tables e below (T88.setTop (mkF m 113 #[.val (.int p1), .val (.int p2), .val (.int p3), .val (.int ((p1 &&& (2147483647 : Int32)) % (6 : Int32))), .val (.int n), .val (.ref aMOD), .val (.int (1 : Int32))] [(.int (1 : Int32))])) t) => k89 t (by
          refine XS.icmpNo X88.here hx rfl (hb hby at_105) rfl (teq (by rw [hc86_86]; exact own_pin_eq)).2 ?_
          show Steps p.tables e below (T88.setTop (mkF m 108 #[.val (.int p1), .val (.int p2), .val (.int p3), .val (.int ((p1 &&& (2147483647 : Int32)) % (6 : Int32))), .val (.int n), .val (.ref aMOD), .val (.int (1 : Int32))] [])) _
          refine XS.iconst X88.here hx rfl (hb hby at_108) ?_
          show Steps p.tables e below (T88.setTop (mkF m 109 #[.val (.int p1), .val (.int p2), .val (.int p3), .val (.int ((p1 &&& (2147483647 : Int32)) % (6 : Int32))), .val (.int n), .val (.ref aMOD), .val (.int (1 : Int32))] [(.int (1 : Int32))])) _
          refine XS.goto X88.here hx rfl (pc0 := 109) (pc' := 113) rfl (hb hby at_109) (by decide) (by decide) ?_
          show Steps p.tables e below (T88.setTop (mkF m 113 #[.val (.int p1), .val (.int p2), .val (.int p3), .val (.int ((p1 &&& (2147483647 : Int32)) % (6 : Int32))), .val (.int n), .val (.ref aMOD), .val (.int (1 : Int32))] [(.int (1 : Int32))])) _
          exact kt)
        obtain ⟨fs, hr, hrun, hended, hW, hsame⟩ := X88.leave (v := some (.int (1 : Int32))) (fun h => by rw [Bd.returns] at h; cases h)
        refine ⟨_, _, k90 _ ?_, hrun, hended, _, _, rfl, ?_, ⟨_, rfl⟩, hW, hsame.mono (by decide) (by decide)⟩
        · exact retN X88 hx (t := .boolean) Bd.returns (by simp) (hb hby at_113) hr
        · show Q0 n0 _ T88.heap _
          rw [eh88]
          exact ⟨rfl, N88⟩
      · have k91 := fun (t : State) (kt : Steps p.tables e below (T80.setTop (mkF m 100 #[.val (.int p1), .val (.int p2), .val (.int p3), .val (.int ((p1 &&& (2147483647 : Int32)) % (6 : Int32))), .val (.int n), .val (.ref aMOD), .val (.int (0 : Int32))] [(.int n), (.ref aMOD)])) t) => k85 t (by
          refine XS.icmpYes X80.here hx rfl (pc0 := 86) (pc' := 93) rfl (hb hby at_86) rfl (feq hc86_86).2 (by decide) (by decide) ?_
          show Steps p.tables e below (T80.setTop (mkF m 93 #[.val (.int p1), .val (.int p2), .val (.int p3), .val (.int ((p1 &&& (2147483647 : Int32)) % (6 : Int32))), .val (.int n), .val (.ref aMOD), .unset] [])) _
          refine XS.iconst X80.here hx rfl (hb hby at_93) ?_
          show Steps p.tables e below (T80.setTop (mkF m 94 #[.val (.int p1), .val (.int p2), .val (.int p3), .val (.int ((p1 &&& (2147483647 : Int32)) % (6 : Int32))), .val (.int n), .val (.ref aMOD), .unset] [(.int (0 : Int32))])) _
          refine XS.istore X80.here hx rfl (hb hby at_94) rfl (l' := #[.val (.int p1), .val (.int p2), .val (.int p3), .val (.int ((p1 &&& (2147483647 : Int32)) % (6 : Int32))), .val (.int n), .val (.ref aMOD), .val (.int (0 : Int32))]) rfl ?_
          show Steps p.tables e below (T80.setTop (mkF m 96 #[.val (.int p1), .val (.int p2), .val (.int p3), .val (.int ((p1 &&& (2147483647 : Int32)) % (6 : Int32))), .val (.int n), .val (.ref aMOD), .val (.int (0 : Int32))] [])) _
          refine XS.aload X80.here hx rfl (hb hby at_96) rfl rfl ?_
          show Steps p.tables e below (T80.setTop (mkF m 98 #[.val (.int p1), .val (.int p2), .val (.int p3), .val (.int ((p1 &&& (2147483647 : Int32)) % (6 : Int32))), .val (.int n), .val (.ref aMOD), .val (.int (0 : Int32))] [(.ref aMOD)])) _
          refine XS.iload X80.here hx rfl (hb hby at_98) rfl ?_
          show Steps p.tables e below (T80.setTop (mkF m 100 #[.val (.int p1), .val (.int p2), .val (.int p3), .val (.int ((p1 &&& (2147483647 : Int32)) % (6 : Int32))), .val (.int n), .val (.ref aMOD), .val (.int (0 : Int32))] [(.int n), (.ref aMOD)])) _
          exact kt)
        obtain ⟨cq92, kq92, q92a, q92b, q92c⟩ := isOf hZ eh80 (E_MOD.ext O0.2)
        obtain ⟨_, _, ⟨T92, L92, k92, n92⟩, -, X92, ⟨Lc92, hQ92, l92, y92, z92⟩, st92⟩ := X80.virtualBack hx (y := (⟨"com/example/probver/probver/language/Expression$Function", "takes", "(I)Z"⟩ : MethodName)) (z := (⟨"com/example/probver/probver/language/Expression$Function", "takes", "(I)Z"⟩ : MethodName)) hown (mvT hZ (hw _ (List.mem_of_getElem? (i := 8) rfl))) (mvT hZ (hw _ (List.mem_of_getElem? (i := 9) rfl))) (notFace_of_selects (args := #[]) (mvT hZ (hw _ (List.mem_of_getElem? (i := 11) rfl)))) (mvT hZ (hw _ (List.mem_of_getElem? (i := 11) rfl))) (mvT hZ (hw _ (List.mem_of_getElem? (i := 10) rfl))) (by decide) (backOf (W := 0) (rm2 l Z a0 hw [] aMOD n (2 : Int32) (2 : Int32) h0 n0 O0 (F_MOD_fewestArguments.ext O0.2) (F_MOD_mostArguments.ext O0.2)) hZ (hw _ (List.mem_of_getElem? (i := 12) rfl)) (hw _ (List.mem_of_getElem? (i := 6) rfl)) (by decide) (by decide)) q92a q92c (g := (mkF m 100 #[.val (.int p1), .val (.int p2), .val (.int p3), .val (.int ((p1 &&& (2147483647 : Int32)) % (6 : Int32))), .val (.int n), .val (.ref aMOD), .val (.int (0 : Int32))] [(.int n), (.ref aMOD)])) rfl (by rw [hml]; rfl) (Steps.refl _) (argsL := [(.int n)]) (rest := []) (lenOf pd_1 rfl) rfl (by show 2 * 0 + _ ≤ _; exact Nat.le_of_eq rfl) (hb hby at_100) (fun _ _ => ⟨rfl, eh80, (by decide : 0 + 0 ≤ _), (by decide : 0 + 0 ≤ _)⟩)
        dsimp only [Pt.U, Pt.locs, Pt.cells, Pt.slots] at X92 l92 y92 z92 st92 hQ92
        subst l92 y92 z92
        obtain ⟨rfl, Nq92, eh92⟩ := hQ92
        have N92 := Fr.app N80 Nq92
        have k93 := fun (t : State) (kt : Steps p.tables e below (T92.setTop (mkF m 105 #[.val (.int p1), .val (.int p2), .val (.int p3), .val (.int ((p1 &&& (2147483647 : Int32)) % (6 : Int32))), .val (.int n), .val (.ref aMOD), .val (.int (0 : Int32))] [(.int (0 : Int32)), (.int (own_takes (2 : Int32) (2 : Int32) n))])) t) => k91 t (by
          refine st92.trans ?_
          show Steps p.tables e below (T92.setTop (mkF m 103 #[.val (.int p1), .val (.int p2), .val (.int p3), .val (.int ((p1 &&& (2147483647 : Int32)) % (6 : Int32))), .val (.int n), .val (.ref aMOD), .val (.int (0 : Int32))] [(.int (own_takes (2 : Int32) (2 : Int32) n))])) _
          refine XS.iload X92.here hx rfl (hb hby at_103) rfl ?_
          show Steps p.tables e below (T92.setTop (mkF m 105 #[.val (.int p1), .val (.int p2), .val (.int p3), .val (.int ((p1 &&& (2147483647 : Int32)) % (6 : Int32))), .val (.int n), .val (.ref aMOD), .val (.int (0 : Int32))] [(.int (0 : Int32)), (.int (own_takes (2 : Int32) (2 : Int32) n))])) _
          exact kt)
        have k94 := fun (t : State) (kt : Steps p.tables e below (T92.setTop (mkF m 113 #[.val (.int p1), .val (.int p2), .val (.int p3), .val (.int ((p1 &&& (2147483647 : Int32)) % (6 : Int32))), .val (.int n), .val (.ref aMOD), .val (.int (0 : Int32))] [(.int (1 : Int32))])) t) => k93 t (by
          refine XS.icmpNo X92.here hx rfl (hb hby at_105) rfl (teq (own_pin_ne hc86_86)).2 ?_
          show Steps p.tables e below (T92.setTop (mkF m 108 #[.val (.int p1), .val (.int p2), .val (.int p3), .val (.int ((p1 &&& (2147483647 : Int32)) % (6 : Int32))), .val (.int n), .val (.ref aMOD), .val (.int (0 : Int32))] [])) _
          refine XS.iconst X92.here hx rfl (hb hby at_108) ?_
          show Steps p.tables e below (T92.setTop (mkF m 109 #[.val (.int p1), .val (.int p2), .val (.int p3), .val (.int ((p1 &&& (2147483647 : Int32)) % (6 : Int32))), .val (.int n), .val (.ref aMOD), .val (.int (0 : Int32))] [(.int (1 : Int32))])) _
          refine XS.goto X92.here hx rfl (pc0 := 109) (pc' := 113) rfl (hb hby at_109) (by decide) (by decide) ?_
          show Steps p.tables e below (T92.setTop (mkF m 113 #[.val (.int p1), .val (.int p2), .val (.int p3), .val (.int ((p1 &&& (2147483647 : Int32)) % (6 : Int32))), .val (.int n), .val (.ref aMOD), .val (.int (0 : Int32))] [(.int (1 : Int32))])) _
          exact kt)
        obtain ⟨fs, hr, hrun, hended, hW, hsame⟩ := X92.leave (v := some (.int (1 : Int32))) (fun h => by rw [Bd.returns] at h; cases h)
        refine ⟨_, _, k94 _ ?_, hrun, hended, _, _, rfl, ?_, ⟨_, rfl⟩, hW, hsame.mono (by decide) (by decide)⟩
        · exact retN X92 hx (t := .boolean) Bd.returns (by simp) (hb hby at_113) hr
        · show Q0 n0 _ T92.heap _
          rw [eh92]
          exact ⟨rfl, N92⟩

set_option maxRecDepth 65536 in
set_option maxHeartbeats 40000000 in
theorem comes_1 {Post : Tables → Env → Array Value → State → Outcome → State → Prop} (hpost : ∀ tb e args s v u, (limb_1_1.after args s (.returned v) u = true ∧ limb_1_2.after args s (.returned v) u = true ∧ True) → FrameEnd s (.returned v) u (Jvm.fieldLocs frame_1_writes args s ++ Jvm.arrayLocs frame_1_arrays args s ++ Jvm.staticLocs frame_1_statics s) 0 0 → Post tb e args s (.returned v) u) :
    ArmFor flags0 classFile x code maxLocals ret World_1 tables_1 room_1 Calls_1 rest_1 Pre_1 Post := by
  intro l hfl _ _ p e ha hc hk s m args below hf hA hF happ hP
  obtain ⟨hcalls, hrest, hpre⟩ := hP
  obtain ⟨-, -, -, hnamed, -, -, -, hat⟩ := (Spec.applies_iff hf).mp happ
  obtain ⟨hg, hn⟩ := and_e (Cond.before_iff.mp (show (Jvm.Cond.and given_1 narrow_1).before args s = true from hpre))
  obtain ⟨q1, q2⟩ := and_e hg
  obtain ⟨q3, q4⟩ := and_e q2
  obtain ⟨q5, q6⟩ := and_e q4
  obtain ⟨q7, q8⟩ := and_e hn
  obtain ⟨q9, q10⟩ := and_e q8
  obtain ⟨q11, q12⟩ := and_e q10
  obtain ⟨q13, q14⟩ := and_e q12
  obtain ⟨q15, q16⟩ := and_e q14
  obtain ⟨q17, q18⟩ := and_e q16
  obtain ⟨q19, q20⟩ := and_e q18
  obtain ⟨q21, q22⟩ := and_e q20
  obtain ⟨q23, q24⟩ := and_e q22
  obtain ⟨q25, q26⟩ := and_e q24
  obtain ⟨q27, q28⟩ := and_e q26
  obtain ⟨q29, q30⟩ := and_e q28
  obtain ⟨q31, q32⟩ := and_e q30
  obtain ⟨q33, q34⟩ := and_e q32
  obtain ⟨q35, q36⟩ := and_e q34
  obtain ⟨q37, q38⟩ := and_e q36
  obtain ⟨q39, q40⟩ := and_e q38
  obtain ⟨w0, w1, w2, rfl⟩ : ∃ w0 w1 w2 : Value, args = #[w0, w1, w2] := by
    have hs : args.size = 3 := by simpa [Cond.value, given_1] using q1
    obtain ⟨L⟩ := args
    match L, hs with
    | [w0, w1, w2], _ => exact ⟨w0, w1, w2, rfl⟩
  have hw := fun d (hd : d ∈ tables_1) => atoms_spec (ws := Jvm.Cond.code x code maxLocals ret :: tables_1) hat d (List.mem_cons_of_mem _ hd)
  have hfit : Fit s := fun {y c} hc i hi => by
    obtain ⟨ha, rfl⟩ := Array.getElem?_eq_some_iff.mp hc
    have q := List.all_eq_true.mp ((Array.all_eq_true_iff_forall_mem.mp hF) _ (Array.getElem_mem ha)) i (List.mem_range.mpr hi)
    simpa [Array.getElem?_eq_getElem hi] using q
  obtain ⟨i0, ei0⟩ := is_v q3
  obtain rfl : w0 = (.int i0) := Option.some.inj ei0
  obtain ⟨i1, ei1⟩ := is_v q5
  obtain rfl : w1 = (.int i1) := Option.some.inj ei1
  obtain ⟨i2, ei2⟩ := is_v q6
  obtain rfl : w2 = (.int i2) := Option.some.inj ei2
  obtain ⟨aMIN, ev_MIN⟩ := exa_v q7
  have S_MIN := Sta.start ev_MIN (Or.inr ⟨(hw _ (List.mem_of_getElem? (i := 6) rfl)), (hw _ (List.mem_of_getElem? (i := 7) rfl))⟩)
  have E_MIN := Exa.start ev_MIN q7
  have F_MIN_fewestArguments := Fld.start (own_eqfld q9 ev_MIN)
  have F_MIN_mostArguments := Fld.start (own_eqfld q11 ev_MIN)
  obtain ⟨aMAX, ev_MAX⟩ := exa_v q13
  have S_MAX := Sta.start ev_MAX (Or.inr ⟨(hw _ (List.mem_of_getElem? (i := 6) rfl)), (hw _ (List.mem_of_getElem? (i := 18) rfl))⟩)
  have E_MAX := Exa.start ev_MAX q13
  have F_MAX_fewestArguments := Fld.start (own_eqfld q15 ev_MAX)
  have F_MAX_mostArguments := Fld.start (own_eqfld q40 ev_MAX)
  obtain ⟨aFLOOR, ev_FLOOR⟩ := exa_v q17
  have S_FLOOR := Sta.start ev_FLOOR (Or.inr ⟨(hw _ (List.mem_of_getElem? (i := 6) rfl)), (hw _ (List.mem_of_getElem? (i := 20) rfl))⟩)
  have E_FLOOR := Exa.start ev_FLOOR q17
  have F_FLOOR_fewestArguments := Fld.start (own_eqfld q19 ev_FLOOR)
  have F_FLOOR_mostArguments := Fld.start (own_eqfld q31 ev_FLOOR)
  obtain ⟨aMOD, ev_MOD⟩ := exa_v q21
  have S_MOD := Sta.start ev_MOD (Or.inr ⟨(hw _ (List.mem_of_getElem? (i := 6) rfl)), (hw _ (List.mem_of_getElem? (i := 22) rfl))⟩)
  have E_MOD := Exa.start ev_MOD q21
  have F_MOD_fewestArguments := Fld.start (own_eqfld q23 ev_MOD)
  have F_MOD_mostArguments := Fld.start (own_eqfld q39 ev_MOD)
  obtain ⟨aCEIL, ev_CEIL⟩ := exa_v q25
  have S_CEIL := Sta.start ev_CEIL (Or.inr ⟨(hw _ (List.mem_of_getElem? (i := 6) rfl)), (hw _ (List.mem_of_getElem? (i := 24) rfl))⟩)
  have E_CEIL := Exa.start ev_CEIL q25
  have F_CEIL_fewestArguments := Fld.start (own_eqfld q27 ev_CEIL)
  have F_CEIL_mostArguments := Fld.start (own_eqfld q29 ev_CEIL)
  obtain ⟨aPOW, ev_POW⟩ := exa_v q33
  have S_POW := Sta.start ev_POW (Or.inr ⟨(hw _ (List.mem_of_getElem? (i := 6) rfl)), (hw _ (List.mem_of_getElem? (i := 26) rfl))⟩)
  have E_POW := Exa.start ev_POW q33
  have F_POW_fewestArguments := Fld.start (own_eqfld q35 ev_POW)
  have F_POW_mostArguments := Fld.start (own_eqfld q37 ev_POW)
  obtain ⟨n, o, h1, h2, h3, _, L, rfl, ⟨rfl, N⟩, hq⟩ := rm0 l s _ hw tables_1 i0 i1 i2 aMIN aMAX aFLOOR aMOD aCEIL aPOW  s.heap s.heap.size (Old.start s) S_MIN E_MIN F_MIN_fewestArguments F_MIN_mostArguments S_MAX E_MAX F_MAX_fewestArguments F_MAX_mostArguments S_FLOOR E_FLOOR F_FLOOR_fewestArguments F_FLOOR_mostArguments S_MOD E_MOD F_MOD_fewestArguments F_MOD_mostArguments S_CEIL E_CEIL F_CEIL_fewestArguments F_CEIL_mostArguments S_POW E_POW F_POW_fewestArguments F_POW_mostArguments  p e ha hc hk s m _ below hf ((Spec.applies_iff_loose hf).mp happ).1 ⟨rfl, State.Warmed39.refl s, rfl⟩ trivial
  refine ⟨n, _, h1, h2, h3, hpost _ _ _ _ _ _ ⟨Cond.after_iff.mpr rfl, Cond.after_iff.mpr (eq_i res_at (Term.int_eval (1)) rfl), trivial⟩ ⟨hq.1, hq.2.1, (hq.2.2.sift fun y hy => Or.inr (N y hy)).mono (by decide) (by decide)⟩⟩
theorem main_1_1 : Claimed_1_1 := comes_1 fun _ _ _ _ _ _ h hF => ⟨h.1, hF⟩
theorem main_1_2 : Claimed_1_2 := comes_1 fun _ _ _ _ _ _ h hF => ⟨h.2.1, hF⟩

end Jvm.Pilot.@@N@@
namespace Jvm.Pilot.@@N@@
open Jvm Jvm.ClassFile Sem Op Lib Jvm.Free Jvm.Stand Jvm.Pilot.@@N@@.Jvm.D
/-! MADE BY PROGRAM (witnessworld.py) out of the Statement's table words and the real class files: 10 classes; the members and pool entries that the words name. The judged class is class 1, her method 2. -/
namespace start1
open Jvm.ClassFile
def u (s : String) : CpInfo := .utf8 (stringToUtf16 s)
/-- a pool by its gaps: so many unusable entries, then the entry; so many at the end -/
def gap : Nat → List CpInfo → List CpInfo
  | 0, r => r
  | n + 1, r => .unusable :: gap n r
def poolList (es : List (Nat × CpInfo)) (last : Nat) : List CpInfo := es.foldr (fun e r => gap e.1 (e.2 :: r)) (gap last [])
def pool (es : List (Nat × CpInfo)) (last : Nat) : Array CpInfo := ⟨poolList es last⟩
def fileOf (pool : Array CpInfo) (this : Nat) (attrs : Array Attribute := #[]) (ms : Array MethodInfo := #[]) (fl : Nat := 33) (sup : Nat := 0) (ifs : Array Nat := #[]) (fds : Array FieldInfo := #[]) : ClassFile where
  minorVersion := 0
  majorVersion := 65
  constantPool := pool
  accessFlags := fl
  thisClass := this
  superClass := sup
  interfaces := ifs
  fields := fds
  methods := ms
  attributes := attrs
def plain (name : String) (sup : Option ClassId) : Class where
  name := name
  kind := .ordinary
  loader := none
  accessFlags := 33
  super := sup
  interfaces := #[]
  cf := none
  fields := #[]
  methods := #[]
  instanceTypes := #[]
  staticTypes := #[]
  resolved := #[]
  callSites := []
  init := .initialized
  statics := none
  mirror := none

def pool0 : Array CpInfo := pool [(5, u "<init>"), (0, u "()V"), (1, .class_ 10), (1, u "java/lang/Object")] 113

def k0m0 : Method := { name := "<init>", desc := "()V", sig := { parameters := [], returnType := none }, accessFlags := 1, code := none }
/-- java/lang/Object -/
def k0 : Class := { plain "java/lang/Object" none with
  accessFlags := 33
  interfaces := #[]
  cf := some (fileOf pool0 8 #[] #[{ accessFlags := 1, nameIndex := 5, descriptorIndex := 6, attributes := #[] }] 33 0 #[] #[])
  fields := #[]
  methods := #[k0m0]
  instanceTypes := #[]
  staticTypes := #[]
  resolved := Array.replicate 124 none
  statics := none }

def pool1 : Array CpInfo := pool [(2, .class_ 4), (1, u "java/lang/Object"), (0, u "<init>"), (0, u "()V"), (0, .fieldref 8 9), (0, .class_ 10), (0, .nameAndType 11 12), (0, u "com/example/probver/probver/language/Expression$Function"), (0, u "MIN"), (0, u "Lcom/example/probver/probver/language/Expression$Function;"), (0, .fieldref 8 14), (0, .nameAndType 15 12), (0, u "MAX"), (0, .fieldref 8 17), (0, .nameAndType 18 12), (0, u "FLOOR"), (0, .fieldref 8 20), (0, .nameAndType 21 12), (0, u "CEIL"), (0, .fieldref 8 23), (0, .nameAndType 24 12), (0, u "POW"), (0, .fieldref 8 26), (0, .nameAndType 27 12), (0, u "MOD"), (0, .integer 2147483647), (0, .methodref 30 31), (0, .class_ 32), (0, .nameAndType 33 34), (0, u "com/example/probver/probver/language/FunctionTakesPinLaw"), (0, u "pick"), (0, u "(I)Lcom/example/probver/probver/language/Expression$Function;"), (0, .methodref 8 36), (0, .nameAndType 37 38), (0, u "takes"), (0, u "(I)Z"), (3, u "law"), (0, u "(III)Z")] 6

def k1m0 : Method := { name := "<init>", desc := "()V", sig := { parameters := [], returnType := none }, accessFlags := 2, code := none }
def k1c1 : Code := { maxStack := 2, maxLocals := 1, code := method_2_code, exceptionTable := #[], attributes := #[] }
def k1m1 : Method := { name := "pick", desc := "(I)Lcom/example/probver/probver/language/Expression$Function;", sig := { parameters := [.int], returnType := some (.object "com/example/probver/probver/language/Expression$Function") }, accessFlags := 10, code := some k1c1 }
def k1c2 : Code := { maxStack := 2, maxLocals := 7, code := code, exceptionTable := #[], attributes := #[] }
def k1m2 : Method := { name := "law", desc := "(III)Z", sig := { parameters := [.int, .int, .int], returnType := some .boolean }, accessFlags := 9, code := some k1c2 }
/-- com/example/probver/probver/language/FunctionTakesPinLaw -/
def k1 : Class := { plain "com/example/probver/probver/language/FunctionTakesPinLaw" (some 0) with
  accessFlags := 49
  interfaces := #[]
  cf := some (fileOf pool1 30 #[] #[{ accessFlags := 2, nameIndex := 5, descriptorIndex := 6, attributes := #[] }, { accessFlags := 10, nameIndex := 33, descriptorIndex := 34, attributes := #[] }, { accessFlags := 9, nameIndex := 42, descriptorIndex := 43, attributes := #[] }] 49 2 #[] #[])
  fields := #[]
  methods := #[k1m0, k1m1, k1m2]
  instanceTypes := #[]
  staticTypes := #[]
  resolved := Array.replicate 50 none
  statics := none }

def pool2 : Array CpInfo := pool [(1, .class_ 2), (0, u "java/lang/constant/Constable"), (0, .class_ 4), (0, u "java/lang/Object")] 6

/-- java/lang/constant/Constable -/
def k2 : Class := { plain "java/lang/constant/Constable" (some 0) with
  accessFlags := 1537
  interfaces := #[]
  cf := some (fileOf pool2 1 #[] #[] 1537 3 #[] #[])
  fields := #[]
  methods := #[]
  instanceTypes := #[]
  staticTypes := #[]
  resolved := Array.replicate 11 none
  statics := none }

def pool3 : Array CpInfo := pool [(1, .class_ 2), (0, u "java/lang/Comparable"), (0, .class_ 4), (0, u "java/lang/Object")] 7

/-- java/lang/Comparable -/
def k3 : Class := { plain "java/lang/Comparable" (some 0) with
  accessFlags := 1537
  interfaces := #[]
  cf := some (fileOf pool3 1 #[] #[] 1537 3 #[] #[])
  fields := #[]
  methods := #[]
  instanceTypes := #[]
  staticTypes := #[]
  resolved := Array.replicate 12 none
  statics := none }

def pool4 : Array CpInfo := pool [(1, .class_ 2), (0, u "java/io/Serializable"), (0, .class_ 4), (0, u "java/lang/Object")] 2

/-- java/io/Serializable -/
def k4 : Class := { plain "java/io/Serializable" (some 0) with
  accessFlags := 1537
  interfaces := #[]
  cf := some (fileOf pool4 1 #[] #[] 1537 3 #[] #[])
  fields := #[]
  methods := #[]
  instanceTypes := #[]
  staticTypes := #[]
  resolved := Array.replicate 7 none
  statics := none }

def pool5 : Array CpInfo := pool [(2, .class_ 4), (1, u "java/lang/Enum"), (0, u "name"), (0, u "Ljava/lang/String;"), (2, u "ordinal"), (0, u "I"), (1, .class_ 14), (1, u "java/lang/Object"), (4, u "hash"), (86, .class_ 108), (1, u "java/lang/Enum$EnumDesc"), (2, .class_ 112), (0, u "java/lang/constant/Constable"), (0, .class_ 114), (0, u "java/lang/Comparable"), (0, .class_ 116), (0, u "java/io/Serializable")] 87

/-- java/lang/Enum -/
def k5 : Class := { plain "java/lang/Enum" (some 0) with
  accessFlags := 1057
  interfaces := #[2, 3, 4]
  cf := some (fileOf pool5 2 #[.nestMembers #[106]] #[] 1057 12 #[111, 113, 115] #[{ accessFlags := 18, nameIndex := 5, descriptorIndex := 6, attributes := #[] }, { accessFlags := 18, nameIndex := 9, descriptorIndex := 10, attributes := #[] }, { accessFlags := 2, nameIndex := 19, descriptorIndex := 10, attributes := #[] }])
  fields := #[{ name := "name", type := (.object "java/lang/String"), accessFlags := 18, slot := 0, constantValue := 0 }, { name := "ordinal", type := .int, accessFlags := 18, slot := 1, constantValue := 0 }, { name := "hash", type := .int, accessFlags := 2, slot := 2, constantValue := 0 }]
  methods := #[]
  instanceTypes := #[(.object "java/lang/String"), .int, .int]
  staticTypes := #[]
  resolved := Array.replicate 204 none
  statics := none }

def pool6 : Array CpInfo := pool [(1, .class_ 2), (0, u "com/example/probver/probver/language/Expression$Function"), (2, u "MIN"), (0, u "Lcom/example/probver/probver/language/Expression$Function;"), (2, u "MAX"), (2, u "FLOOR"), (2, u "CEIL"), (2, u "POW"), (2, u "MOD"), (2, u "$VALUES"), (0, u "[Lcom/example/probver/probver/language/Expression$Function;"), (6, .class_ 34), (1, u "java/lang/Enum"), (8, u "name"), (0, u "Ljava/lang/String;"), (0, .fieldref 1 46), (0, .nameAndType 47 48), (0, u "fewestArguments"), (0, u "I"), (0, .fieldref 1 50), (0, .nameAndType 51 48), (0, u "mostArguments"), (59, u "takes"), (0, u "(I)Z"), (9, .class_ 123), (0, u "com/example/probver/probver/language/Expression")] 20

def k6c0 : Code := { maxStack := 2, maxLocals := 2, code := prog_73_method_5_code, exceptionTable := #[], attributes := #[] }
def k6m0 : Method := { name := "takes", desc := "(I)Z", sig := { parameters := [.int], returnType := some .boolean }, accessFlags := 0, code := some k6c0 }
/-- com/example/probver/probver/language/Expression$Function -/
def k6 : Class := { plain "com/example/probver/probver/language/Expression$Function" (some 5) with
  accessFlags := 16433
  interfaces := #[]
  cf := some (fileOf pool6 1 #[.nestHost 122] #[{ accessFlags := 0, nameIndex := 111, descriptorIndex := 112, attributes := #[] }] 16433 32 #[] #[{ accessFlags := 16409, nameIndex := 5, descriptorIndex := 6, attributes := #[] }, { accessFlags := 16409, nameIndex := 9, descriptorIndex := 6, attributes := #[] }, { accessFlags := 16409, nameIndex := 12, descriptorIndex := 6, attributes := #[] }, { accessFlags := 16409, nameIndex := 15, descriptorIndex := 6, attributes := #[] }, { accessFlags := 16409, nameIndex := 18, descriptorIndex := 6, attributes := #[] }, { accessFlags := 16409, nameIndex := 21, descriptorIndex := 6, attributes := #[] }, { accessFlags := 18, nameIndex := 43, descriptorIndex := 44, attributes := #[] }, { accessFlags := 18, nameIndex := 47, descriptorIndex := 48, attributes := #[] }, { accessFlags := 18, nameIndex := 51, descriptorIndex := 48, attributes := #[] }, { accessFlags := 4122, nameIndex := 24, descriptorIndex := 25, attributes := #[] }])
  fields := #[{ name := "MIN", type := (.object "com/example/probver/probver/language/Expression$Function"), accessFlags := 16409, slot := 0, constantValue := 0 }, { name := "MAX", type := (.object "com/example/probver/probver/language/Expression$Function"), accessFlags := 16409, slot := 1, constantValue := 0 }, { name := "FLOOR", type := (.object "com/example/probver/probver/language/Expression$Function"), accessFlags := 16409, slot := 2, constantValue := 0 }, { name := "CEIL", type := (.object "com/example/probver/probver/language/Expression$Function"), accessFlags := 16409, slot := 3, constantValue := 0 }, { name := "POW", type := (.object "com/example/probver/probver/language/Expression$Function"), accessFlags := 16409, slot := 4, constantValue := 0 }, { name := "MOD", type := (.object "com/example/probver/probver/language/Expression$Function"), accessFlags := 16409, slot := 5, constantValue := 0 }, { name := "name", type := (.object "java/lang/String"), accessFlags := 18, slot := 3, constantValue := 0 }, { name := "fewestArguments", type := .int, accessFlags := 18, slot := 4, constantValue := 0 }, { name := "mostArguments", type := .int, accessFlags := 18, slot := 5, constantValue := 0 }, { name := "$VALUES", type := (.array (.object "com/example/probver/probver/language/Expression$Function")), accessFlags := 4122, slot := 6, constantValue := 0 }]
  methods := #[k6m0]
  instanceTypes := #[(.object "java/lang/String"), .int, .int, (.object "java/lang/String"), .int, .int]
  staticTypes := #[(.object "com/example/probver/probver/language/Expression$Function"), (.object "com/example/probver/probver/language/Expression$Function"), (.object "com/example/probver/probver/language/Expression$Function"), (.object "com/example/probver/probver/language/Expression$Function"), (.object "com/example/probver/probver/language/Expression$Function"), (.object "com/example/probver/probver/language/Expression$Function"), (.array (.object "com/example/probver/probver/language/Expression$Function"))]
  resolved := Array.replicate 144 none
  statics := some 0 }

def pool7 : Array CpInfo := pool [(1, u "java/lang/Cloneable"), (0, .class_ 1), (0, u "java/lang/Object"), (0, .class_ 3)] 3

/-- java/lang/Cloneable -/
def k7 : Class := { plain "java/lang/Cloneable" (some 0) with
  accessFlags := 1537
  interfaces := #[]
  cf := some (fileOf pool7 2 #[] #[] 1537 4 #[] #[])
  fields := #[]
  methods := #[]
  instanceTypes := #[]
  staticTypes := #[]
  resolved := Array.replicate 8 none
  statics := none }

/-- the primitive byte -/
def k8 : Class := { plain "byte" none with kind := .primitive 'B', accessFlags := 0x411 }
/-- [B -/
def k9 : Class := { plain "[B" (some 0) with kind := .array 8 .byte, interfaces := #[7, 4], accessFlags := 1041 }

def heap : Heap := #[{ cls := 6, slots := #[.ref 1, .ref 2, .ref 3, .ref 5, .ref 6, .ref 4, .null], vm := .statics 6 },
  { cls := 6, slots := #[.null, .int 0, .int 0, .null, .int 2, .int 2147483647], vm := .none },
  { cls := 6, slots := #[.null, .int 0, .int 0, .null, .int 2, .int 2147483647], vm := .none },
  { cls := 6, slots := #[.null, .int 0, .int 0, .null, .int 1, .int 1], vm := .none },
  { cls := 6, slots := #[.null, .int 0, .int 0, .null, .int 2, .int 2], vm := .none },
  { cls := 6, slots := #[.null, .int 0, .int 0, .null, .int 1, .int 1], vm := .none },
  { cls := 6, slots := #[.null, .int 0, .int 0, .null, .int 2, .int 2], vm := .none }]
def classes : Array Class := #[k0, k1, k2, k3, k4, k5, k6, k7, k8, k9]
def interned : List (Array UInt16 × Addr) := []
def slotsUsed : Nat := 43
def theMethod : MethodId := ⟨1, 2⟩
def args0 : Array Value := #[.int 1, .int 2, .int 3]
def aboutOver (below : List Frame) : State where
  vm := { classes := classes, interned := interned.toArray }
  heap := heap
  slotsUsed := slotsUsed
  threads := #[{ frames := .invoking theMethod args0 :: below }]
def below0 : List Frame := [.native { method := ⟨0, 0⟩, args := #[] }]
def about1 : State := aboutOver below0
def p0 : Program := .bare "" "" ""
def e0 : Env := launch0.env 0 0 0
theorem w_frames : about1.frames = Frame.invoking theMethod args0 :: below0 := rfl
set_option maxRecDepth 65536 in
theorem w_args : argsFit about1.vm theMethod args0 = true := by decide +kernel
set_option maxRecDepth 65536 in
theorem w_heap : heapFits about1 = true := by decide +kernel
set_option maxRecDepth 65536 in
theorem w_runnable : about1.curStatus? = some .runnable := by decide +kernel
set_option maxRecDepth 65536 in
theorem w_alone : about1.alone = true := by decide +kernel
set_option maxRecDepth 65536 in
theorem w_named : about1.methodNamed? x = some theMethod := by decide +kernel
set_option maxRecDepth 65536 in
theorem w_hears : about1.hears theMethod below0 = true := by decide +kernel
set_option maxRecDepth 65536 in
theorem w_ripe : about1.ripe theMethod args0 below0 = true := by decide +kernel
theorem w_running : about1.status = .running := rfl
set_option maxRecDepth 65536 in
theorem w_room : about1.hasRoom e0.platform room_1 = true :=
  launch0.hasRoom_least _ room_1 (by decide +kernel) (by decide +kernel) (by decide +kernel) (by decide +kernel) (by decide +kernel) (by decide +kernel)
theorem allAtoms_all (ts : List Jvm.Cond) (a : Array Jvm.Value) (st : Jvm.State) : (allAtoms ts).before a st = ts.all (fun c => c.before a st) := by
  induction ts with
  | nil => rfl
  | cons c t ih =>
    show (Jvm.Cond.and c (allAtoms t)).before a st = _
    rw [Jvm.Cond.before_and, ih, List.all_cons]
def words1 : List Jvm.Cond := Jvm.Cond.code x code maxLocals ret :: tables_1
/-- a 'code' word, met by the world's own term for the bytes: nothing is compared byte by byte -/
theorem code_word {y : MethodName} {bytes : ByteArray} {mx : Nat} {rt : Option FieldType} {a : Array Value} {s : State} {m : MethodId} {meth : Method} {c : Code} (h1 : s.methodNamed? y = some m) (h2 : s.vm.method? m = some meth) (h3 : meth.code = some c) (h4 : c.code = bytes)
    (h5 : (c.maxLocals == mx && c.exceptionTable.isEmpty && decide (c.maxStack ≤ mostOperands) && decide (meth.sig.returnType = rt) && !meth.locks && decide (parseMethodDescriptor y.desc = some meth.sig)) = true) : (Jvm.Cond.code y bytes mx rt).before a s = true := by
  simp only [Bool.and_eq_true, beq_iff_eq, Bool.not_eq_true', decide_eq_true_eq] at h5
  obtain ⟨⟨⟨⟨⟨g1, g2⟩, g3⟩, g4⟩, g5⟩, g6⟩ := h5
  simp [Cond.before, Cond.holds, Cond.value, h1, h2, h3, h4, g1, g2, g3, g4, g5, g6]
def isCode : Jvm.Cond → Bool
  | .code _ _ _ _ => true
  | _ => false
theorem all_split {L : List Jvm.Cond} {P : Jvm.Cond → Bool} (h1 : L.all (fun c => isCode c || P c) = true) (h2 : ∀ c ∈ L.filter isCode, P c = true) : L.all P = true := by
  refine List.all_eq_true.mpr fun c hc => ?_
  have h := List.all_eq_true.mp h1 c hc
  rcases Bool.eq_false_or_eq_true (isCode c) with hi | hi
  · exact h2 c (List.mem_filter.mpr ⟨hc, hi⟩)
  · simpa [hi] using h
set_option maxRecDepth 65536 in
theorem w_c0 : (Jvm.Cond.code x code maxLocals ret).before args0 about1 = true := code_word (m := ⟨1, 2⟩) (meth := k1m2) (c := k1c2) (by decide +kernel) rfl rfl rfl (by decide +kernel)
set_option maxRecDepth 65536 in
theorem w_c1 : (Jvm.Cond.code ({ cls := "com/example/probver/probver/language/FunctionTakesPinLaw", name := "pick", desc := "(I)Lcom/example/probver/probver/language/Expression$Function;" } : Jvm.MethodName) method_2_code (1 : Nat) (Option.some (Jvm.ClassFile.FieldType.object "com/example/probver/probver/language/Expression$Function"))).before args0 about1 = true := code_word (m := ⟨1, 1⟩) (meth := k1m1) (c := k1c1) (by decide +kernel) rfl rfl rfl (by decide +kernel)
set_option maxRecDepth 65536 in
theorem w_c2 : (Jvm.Cond.code ({ cls := "com/example/probver/probver/language/Expression$Function", name := "takes", desc := "(I)Z" } : Jvm.MethodName) prog_73_method_5_code (2 : Nat) (Option.some Jvm.ClassFile.FieldType.boolean)).before args0 about1 = true := code_word (m := ⟨6, 0⟩) (meth := k6m0) (c := k6c0) (by decide +kernel) rfl rfl rfl (by decide +kernel)
def codes1 : List Jvm.Cond := [Jvm.Cond.code x code maxLocals ret, Jvm.Cond.code ({ cls := "com/example/probver/probver/language/FunctionTakesPinLaw", name := "pick", desc := "(I)Lcom/example/probver/probver/language/Expression$Function;" } : Jvm.MethodName) method_2_code (1 : Nat) (Option.some (Jvm.ClassFile.FieldType.object "com/example/probver/probver/language/Expression$Function")), Jvm.Cond.code ({ cls := "com/example/probver/probver/language/Expression$Function", name := "takes", desc := "(I)Z" } : Jvm.MethodName) prog_73_method_5_code (2 : Nat) (Option.some Jvm.ClassFile.FieldType.boolean)]
set_option maxRecDepth 65536 in
theorem codes_eq : words1.filter isCode = codes1 := rfl
theorem w_codes : ∀ c ∈ words1.filter isCode, c.before args0 about1 = true := by
  rw [codes_eq]
  intro c hc
  simp only [codes1, List.mem_cons, List.not_mem_nil, or_false] at hc
  rcases hc with rfl | rfl | rfl
  · exact w_c0
  · exact w_c1
  · exact w_c2
set_option maxRecDepth 65536 in
theorem w_t1 : (words1.take 24).all (fun c => isCode c || c.before args0 about1) = true := by decide +kernel
set_option maxRecDepth 65536 in
theorem w_t2 : (words1.drop 24).all (fun c => isCode c || c.before args0 about1) = true := by decide +kernel
theorem w_tables : (allAtoms (Jvm.Cond.code x code maxLocals ret :: tables_1)).before args0 about1 = true := by
  rw [allAtoms_all]
  show words1.all (fun c => c.before args0 about1) = true
  refine all_split ?_ w_codes
  rw [← List.take_append_drop 24 words1, List.all_append, w_t1, w_t2]
  rfl
set_option maxRecDepth 65536 in
theorem w_case : (Jvm.Cond.and given_1 narrow_1).before args0 about1 = true := by decide +kernel
theorem w_applies : (headSpec (Jvm.Cond.code x code maxLocals ret :: tables_1) room_1).applies x e0.platform about1 = true :=
  (Spec.applies_iff w_frames).mpr ⟨w_running, w_runnable, w_alone, w_named, w_hears, w_ripe, w_room, w_tables⟩
theorem atStart : AtStart classFile x code maxLocals ret World_1 tables_1 room_1 Calls_1 rest_1 Pre_1 launch0 p0 e0 about1 theMethod args0 below0 :=
  ⟨lists_1, trivial, launch0.admits_env _ _ _, launch0.least_env, fairChoices_fair.cas, fairChoices_fair.clock, w_frames, w_args, w_heap, w_applies, trivial, trivial, w_case⟩
end start1
theorem witness_1 : WitnessClaimed_1 := ⟨start1.p0, start1.e0, start1.about1, start1.theMethod, start1.args0, start1.below0, start1.atStart⟩
end Jvm.Pilot.@@N@@
