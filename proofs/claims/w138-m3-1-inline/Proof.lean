import JvmDerived
import JvmDerived.Pilot.@@N@@Statement
import JvmDerived.Pilot.@@N@@Code
set_option linter.unusedVariables false
set_option linter.unusedSimpArgs false

namespace Jvm.RoadKit
open Sem ClassFile Op Lib Jvm.Stand Jvm.Free Jvm.LawKit
section New
variable {p : Program} {l : Launch} {e : Env} {R : Room} {s : State} {m : MethodId} {args : Array Value} {below : List Frame} {meth : Method} {c : Code} {T : State} {locs : List Loc} {cells slots : Nat}
theorem retI (X : Stand p l e R s m args below meth c T locs cells slots) (hx : p.tables.exec = Jvm.exec) {pc : Nat} {Ls : Array Slot} {z : Int32} {rest : List Value} (hret : meth.sig.returnType = some .int) (hd : decode c.code pc = .ok (.ireturn, 1)) {fs : List Frame}
    (hl : ∀ (f : JFrame) (acts : List Action), f.method = m → f.locked = none → f.entered = [] → (doReturn e (T.setTop f) acts (some (.int z))).1 = T.setFrames fs) : Steps p.tables e below (T.setTop (mkF m pc Ls (.int z :: rest))) (T.setFrames fs) := by
  have hm' : T.vm.method? m = some meth := X.method'
  have hn : narrow .int (.int z) = .int z := rfl
  show Steps p.tables e below (T.setTop { method := m, pc := pc, locals := Ls, stack := _ :: rest, locked := none }) _
  jvm_step X.here [X.here.top, hx, hd, hm', hret, hn]
  first | (intro acts; rw [hl _ acts rfl rfl rfl]) | rw [hl _ _ rfl rfl rfl]
  exact Steps.refl _
end New
end Jvm.RoadKit

namespace Jvm.RoadKit
open Sem ClassFile Op Lib Bundle Jvm.Stand Jvm.Free Jvm.LawKit Jvm.Free.SB Jvm.Free.SBG
section OwnLdcW
variable {p : Program} {l : Launch} {e : Env} {R : Room} {s : State} {m : MethodId} {args : Array Value} {below : List Frame} {meth : Method} {c : Code} {T : State} {locs : List Loc} {cells slots : Nat} {Z : State} {a0 : Array Value} {EL : List (String × Nat)} {h : Heap} {vm0 : Vm} {own text : String} {index : Nat}
theorem own_two (x y : Cell) : Ext h ((h.push x).push y) ∧ ((h.push x).push y)[h.size]? = some x ∧ ((h.push x).push y)[h.size + 1]? = some y ∧ ((h.push x).push y).size = h.size + 2 := by
  have hs : ((h.push x).push y).size = h.size + 2 := by rw [Array.size_push, Array.size_push]
  refine ⟨⟨by omega, fun a d q => ?_⟩, ?_, ?_, hs⟩
  · have ha := (Array.getElem?_eq_some_iff.mp q).1
    rw [Array.getElem?_push, if_neg (by rw [Array.size_push]; omega), Array.getElem?_push, if_neg (by omega)]
    exact q
  · rw [Array.getElem?_push, if_neg (by rw [Array.size_push]; omega), Array.getElem?_push, if_pos rfl]
  · rw [Array.getElem?_push, if_pos (by rw [Array.size_push])]
/-- what a compact String is, in the words of Z and a heap -/
theorem own_said {a : Addr} {u : Array UInt16} {vs : List Value} {z : Int32} (F : SlOf ({ Z with heap := h } : State) a u) (hlat : u.all (· < 256) = true) (hv : u.toList.map (fun x => Value.int (Jvm.Lit.byteI x)) = vs) (hz : ¬ z < 0) (hl : z.toNatClampNeg = vs.length) :
    ∃ (b : Addr) (k : ClassId), Exa Z h a "java/lang/String" ∧ Fld Z h a "java/lang/String" "coder" "B" (.int 0) ∧ Fld Z h a "java/lang/String" "value" "[B" (.ref b) ∧ Arv Z h b k .byte z vs (.int 0) := by
  obtain ⟨q, cS, rfl, ⟨⟨t1, t2, t3, ⟨_, _, _, v1, v2⟩, ⟨_, _, _, w1, w2⟩, t4, t5, t6, t7, t8, t9, t10, -, -, -, t11⟩, f1, f2⟩, ⟨kS, g1, -, g2⟩, -, f3⟩ := F
  have es : q.SA.slots = u.map (fun x => Value.int (Jvm.Lit.byteI x)) := f3.trans (SBG.stringBytes_lat hlat)
  have hz1 : q.SA.slots.size = u.size := by rw [es, Array.size_map]
  have hz2 : vs.length = u.size := by rw [← hv, List.length_map, Array.length_toList]
  have hH : Has q.SA vs (.int 0) := fun j hj => by
    have hj' : j < u.size := by omega
    rw [es, ← hv]
    simp [hj']
  have hF : ∀ i, i < q.SA.slots.size → fits .byte (vs.getD i (.int 0)) = true := fun i hi => by
    have r := t11 i hi
    rw [SBG.getD_of (hH i hi)] at r
    exact r
  have f4 : Z.vm.findClass "java/lang/String" = some q.sC.cls := by rw [f2]; exact f1
  have g3 : Z.vm.classes[q.sC.cls]? = some kS := by rw [f2]; exact g1
  exact ⟨q.sd, q.SA.cls, ⟨q.sC, kS, t1, f4, g3, t3, fun _ => g2⟩, ⟨q.sC, _, _, _, q.fSC, t1, w1, t5, t2, t3, w2, t7⟩, ⟨q.sC, _, _, _, q.fSV, t1, v1, t4, t2, t3, v2, t6⟩, ⟨q.SA, ⟨t8, t9, t10⟩, rfl, by omega, hz, hH, hF⟩⟩
/-- the end of each road: the machine stands at T'' with the tables v' -/
theorem own_close {vs : List Value} {z : Int32} {g : JFrame} {n k0 : Nat} (X : Stand p l e R (s.setVm vm0) m args below meth c T locs cells slots) (hZ : Z.Warmed39 vm0) (hown : vm0.findClass own = some m.cls) (eT : T.heap = h) (hS : s.Since vm0 k0) (hk : k0 ≤ h.size)
    {T'' Y : State} {v' : Vm} {a : Addr} {u : Array UInt16} (XS : Stand p l e R (s.setVm vm0) m args below meth c T'' locs (cells + 2) (slots + (n + 4))) (hW : T.Warmed39 v') (hI : T.Interned1 (T''.setVm v')) (hE : Ext T.heap T''.heap) (F : SlOf Y a u) (hY : Y.vm.Alike v') (hYh : ∀ (b : Addr) (d : Cell), Y.heap[b]? = some d → T''.heap[b]? = some d)
    (hlat : u.all (· < 256) = true) (hv : u.toList.map (fun x => Value.int (Jvm.Lit.byteI x)) = vs) (hz : ¬ z < 0) (hl : z.toNatClampNeg = vs.length)
    (st : ∀ target, Steps p.tables e below ((T''.setVm v').setTop { g with pc := g.pc + 3, stack := .ref a :: g.stack }) target → Steps p.tables e below (T.setTop g) target) :
    ∃ (a : Addr) (T' : State) (h' : Heap) (k1 : Nat) (b : Addr) (k : ClassId), Stand p l e R (s.setVm T'.vm) m args below meth c T' locs (cells + 2) (slots + (n + 4)) ∧ T'.heap = h' ∧ Ext h h' ∧ s.Since T'.vm k1 ∧ k1 ≤ h'.size ∧ Z.Warmed39 (s.setVm T'.vm).vm ∧ (s.setVm T'.vm).vm.findClass own = some m.cls ∧
      Exa Z h' a "java/lang/String" ∧ Fld Z h' a "java/lang/String" "coder" "B" (.int 0) ∧ Fld Z h' a "java/lang/String" "value" "[B" (.ref b) ∧ Arv Z h' b k .byte z vs (.int 0) ∧
      ∀ target, Steps p.tables e below (T'.setTop { g with pc := g.pc + 3, stack := .ref a :: g.stack }) target → Steps p.tables e below (T.setTop g) target := by
  have hV : (s.setVm vm0).Warmed39 v' := State.Warmed39.trans (t := T) X.warmed.wide hW
  have hZv : Z.Warmed39 v' := State.Warmed39.trans (t := s.setVm vm0) hZ hV
  have h2 : (s.setVm vm0).Since v' (T''.setVm v').heap.size := ⟨hV, State.Booked.step (T₂ := T''.setVm v') (X.warmed.no_new_pair _) X.same.2.1 hI⟩
  subst eT
  have h3 : s.Since v' (T''.setVm v').heap.size := hS.trans h2 (Nat.le_trans hk hE.1)
  have hfc : v'.findClass own = some m.cls := by rw [hV.alike.findClass]; exact hown
  obtain ⟨b, kb, c1, c2, c3, c4⟩ := own_said (Z := Z) (h := T''.heap) (F.moved (W := ({ Z with heap := T''.heap } : State)) (hY.trans hZv.alike.symm) hYh) hlat hv hz hl
  exact ⟨a, T''.setVm v', T''.heap, _, b, kb, XS.retabled hV, rfl, hE, h3, Nat.le_refl _, hZv, hfc, c1, c2, c3, c4, st⟩
set_option maxHeartbeats 4000000 in
theorem own_ldcW (X : Stand p l e R (s.setVm vm0) m args below meth c T locs cells slots) (hx : p.tables.exec = Jvm.exec) (hZ : Z.Warmed39 vm0) (hown : vm0.findClass own = some m.cls) (w : (Cond.stringLink own index text).before a0 Z = true) (wS : ∀ a ∈ Bundle.stringAtoms, a.before a0 Z = true)
    (eT : T.heap = h) {k0 : Nat} (hS : s.Since vm0 k0) (hk : k0 ≤ h.size) (hEL : EW Z a0 EL) (hmem : (own, index) ∈ EL) (H : CHv Z EL vm0 h)
    {vs : List Value} {z : Int32} (ht : (∀ c ∈ text.toList, c.toNat < 256) ∧ text.toList.map (fun c => Value.int (Jvm.Lit.byteI c.toNat.toUInt16)) = vs) (hz : ¬ z < 0) (hl : z.toNatClampNeg = vs.length)
    {g : JFrame} (hg : g.method = m) (hd : decode c.code g.pc = .ok (.ldc_w index, 3)) {n : Nat} (hn : 4 * text.toList.length ≤ n) (hbig : n ≤ 536870912) (hc : cells + 2 ≤ R.cells) (hl' : slots + (n + 4) ≤ R.slots) :
    ∃ (a : Addr) (T' : State) (h' : Heap) (k1 : Nat) (b : Addr) (k : ClassId), Stand p l e R (s.setVm T'.vm) m args below meth c T' locs (cells + 2) (slots + (n + 4)) ∧ T'.heap = h' ∧ Ext h h' ∧ s.Since T'.vm k1 ∧ k1 ≤ h'.size ∧ Z.Warmed39 (s.setVm T'.vm).vm ∧ (s.setVm T'.vm).vm.findClass own = some m.cls ∧
      Exa Z h' a "java/lang/String" ∧ Fld Z h' a "java/lang/String" "coder" "B" (.int 0) ∧ Fld Z h' a "java/lang/String" "value" "[B" (.ref b) ∧ Arv Z h' b k .byte z vs (.int 0) ∧
      ∀ target, Steps p.tables e below (T'.setTop { g with pc := g.pc + 3, stack := .ref a :: g.stack }) target → Steps p.tables e below (T.setTop g) target := by
  have hZT : Z.Warmed39 T.vm := wtrans (s := s.setVm vm0) hZ X.warmed
  have hoT : T.vm.findClass own = some m.cls := by rw [X.warmed.alike.findClass]; exact hown
  obtain ⟨k, cf, i, u, hk1, hcf, hcp, hu, hnm, hdec, hres⟩ := Cond.stringLink_spec (s := T.setVm T.vm) hoT (mvS (s := T) (args := args) hZT w)
  have hk1 : T.vm.classes[m.cls]? = some k := hk1
  have hlat := Jvm.ClassFile.lat_of_text hdec ht.1
  have hv : u.toList.map (fun x => Value.int (Jvm.Lit.byteI x)) = vs := by
    rw [← ht.2, Jvm.ClassFile.units_of_text hdec ht.1, List.map_map]
    rfl
  have r1 : k.cf.bind (namesOf? ·.constantPool index) = some (.string text) := by rw [hcf]; exact hnm
  have r2 : k.cf.bind (·.constantPool[index]?) = some (.string i) := by rw [hcf]; exact hcp
  have r3 : k.cf.bind (·.constantPool.utf8? i) = some u := by rw [hcf]; simp [ConstantPool.utf8?, hu]
  have HT : CHv Z EL T.vm h := (CHv.at X hZ hEL H).1
  have same : T.Interned1 (T.setVm T.vm) := ⟨Nat.le_refl _, Or.inl rfl⟩
  have XM : Stand p l e R (s.setVm vm0) m args below meth c T locs (cells + 2) (slots + (n + 4)) := X.mono (by omega) (by omega)
  have stay : Ext T.heap T.heap := ⟨Nat.le_refl _, fun _ _ q => q⟩
  have old : ∀ (b : Addr) (d : Cell), (Wst Z T.vm h).heap[b]? = some d → T.heap[b]? = some d := fun b d q => by rw [eT]; exact q
  subst hg
  rcases hres with hop | ⟨a, hr⟩
  · cases hf : T.vm.interned.find? (fun p => p.1 == u) with
    | some pr =>
      obtain ⟨u', a⟩ := pr
      have eu : u' = u := by simpa using Array.find?_some hf
      subst eu
      have F := HT _ hmem _ a ⟨_, k, cf, i, hoT, hk1, hcf, hcp, hu, Or.inr ⟨hop, hf⟩⟩
      have hW := (State.Warmed39.refl T).notedString hk1 (Or.inl hop) r1 r2 r3 hf
      refine own_close X hZ hown eT hS hk (T'' := T) (Y := Wst Z T.vm h) XM hW ⟨Nat.le_refl _, Or.inl rfl⟩ stay F hW.alike old hlat hv hz hl (fun target hrest => ?_)
      jvm_step X.here [hx, hd, ldc_w.wp_string_found (e := e) (s := T) (f := g) X.here.top hk1 hcf hcp hu hop hf]
      exact hrest
    | none =>
      obtain ⟨St, LZ, hn4, fitv, fitc⟩ := StringT.of_atoms (args := a0) wS
      obtain ⟨kS, kB, LT, hty⟩ := LZ.warmer hZT.alike
      have hfs : T.fitsSlot = Z.fitsSlot := fits_alike hZT.alike
      have hle : (stringBytes u).size ≤ n := Nat.le_trans (text_bytes_le hdec) hn
      have eW := withString_eq T St.cB St.cS kS St.fv St.fc u
      have eH : (withString T St.cB St.cS kS St.fv St.fc u).heap = (T.heap.push (bytesOf St.cB u)).push (stringAt St.cS kS St.fv St.fc u T.heap.size) := by rw [eW] <;> rfl
      obtain ⟨o1, o2, o3, o4⟩ := own_two (h := T.heap) (bytesOf St.cB u) (stringAt St.cS kS St.fv St.fc u T.heap.size)
      have n1 : (bytesOf St.cB u).slots.size = (stringBytes u).size := by rw [bytesOf_slots, bytesSlots_eq]
      have n2 : (stringAt St.cS kS St.fv St.fc u T.heap.size).slots.size = 4 := by simp [string0, Cell.setSlot, hty, hn4]
      have XS : Stand p l e R (s.setVm vm0) g.method args below meth c (withString T St.cB St.cS kS St.fv St.fc u) locs (cells + 2) (slots + (n + 4)) := by
        rw [eW]
        exact ((X.pushed (bytesOf St.cB u)).pushed (stringAt St.cS kS St.fv St.fc u T.heap.size)).mono (by omega) (by omega)
      have hnew : (T.vm.interned.push (u, T.heap.size + 1)).find? (fun p => p.1 == u) = some (u, T.heap.size + 1) := by
        rw [Array.find?_push, hf]
        simp
      have hW := ((State.Warmed39.refl T).interns u (T.heap.size + 1)).notedString hk1 (Or.inl hop) r1 r2 r3 hnew
      obtain ⟨q, cS, y1, y2, y3, y4, y5, -⟩ := made_sl (W := (withString T St.cB St.cS kS St.fv St.fc u).setVm (({ T.vm with interned := T.vm.interned.push (u, T.heap.size + 1) } : Vm).noted g.method.cls index (.string (T.heap.size + 1)))) (n := T.heap.size) wS LZ hn4 hty (State.Warmed39.trans (t := T) hZT hW).alike (by show (withString T St.cB St.cS kS St.fv St.fc u).heap[T.heap.size]? = _; rw [eH]; exact o2) (by show (withString T St.cB St.cS kS St.fv St.fc u).heap[T.heap.size + 1]? = _; rw [eH]; exact o3) hlat (by omega) 0
      have hI : T.Interned1 ((withString T St.cB St.cS kS St.fv St.fc u).setVm (({ T.vm with interned := T.vm.interned.push (u, T.heap.size + 1) } : Vm).noted g.method.cls index (.string (T.heap.size + 1)))) := by
        refine ⟨?_, Or.inr ⟨u, T.heap.size + 1, rfl, Nat.le_succ _, ?_⟩⟩
        · show T.heap.size ≤ (withString T St.cB St.cS kS St.fv St.fc u).heap.size
          rw [eH]; omega
        · show T.heap.size + 1 < (withString T St.cB St.cS kS St.fv St.fc u).heap.size
          rw [eH]; omega
      have F : SlOf _ _ _ := ⟨q, cS, y1, y2, y3, y4, y5⟩
      refine own_close X hZ hown eT hS hk XS hW hI (by rw [eH]; exact o1) F (Vm.Alike.refl _) (fun _ _ q => q) hlat hv hz hl (fun target hrest => ?_)
      have top1 : (withString T St.cB St.cS kS St.fv St.fc u).topJava?.isSome := by simpa [withString] using X.here.top
      have room := X.slotsAbove hl'
      refine Steps.instr (c := _) (by simpa using X.here) ?_
      simp [jvm, wpRun, exec, X.here.top, hx, hd]
      refine ldc_w.wp_string_new (e := e) (s := T) (f := g) X.here.top hk1 hcf hcp hu hop hf LT.found LT.cls LT.initialized LT.ordinary LT.foundB LT.clsB LT.kindB LT.value LT.coder (by rw [Launch.admits_arrayLengthLimit X.admits]; omega) (by rw [Launch.admits_maxHeapBytes X.admits]; simp only [componentBytes]; omega) (X.cellsAbove hc)
        (by show T.slotsUsed + (stringBytes u).size + kS.instanceTypes.size ≤ _; rw [hty, hn4]; omega) (stringBytes_fit LT.clsB LT.kindB u) LT.valueSlot LT.coderSlot (by rw [hfs]; exact fitv _) (by rw [hfs]; exact fitc _) (fun d' acts' => ?_)
      intro acts''
      have top2 : ((withString T St.cB St.cS kS St.fv St.fc u).setVm (({ T.vm with interned := T.vm.interned.push (u, T.heap.size + 1) } : Vm).noted g.method.cls index (.string (T.heap.size + 1)))).topJava?.isSome := by simpa using top1
      simp [jvm, afterInstr, top1, top2]
      rw [State.modifyTopJava_setTop]
      exact hrest
  · have F := HT _ hmem _ a ⟨_, k, cf, i, hoT, hk1, hcf, hcp, hu, Or.inl hr⟩
    refine own_close X hZ hown eT hS hk (T'' := T) (v' := T.vm) (Y := Wst Z T.vm h) XM (State.Warmed39.refl T) same stay F (Vm.Alike.refl _) old hlat hv hz hl (fun target hrest => ?_)
    jvm_step X.here [hx, hd, ldc_w.wp_string (e := e) (s := T) (f := g) X.here.top hk1 hcf hcp hr]
    exact hrest
end OwnLdcW
end Jvm.RoadKit

namespace Jvm.Pilot.@@N@@
open Jvm Jvm.ClassFile Sem Op Lib Jvm.Free Jvm.Stand Jvm.LawKit Jvm.RoadKit Bundle Jvm.Pilot.@@N@@.Jvm.D

theorem own_up {p : Program} {l : Launch} {e : Env} {R : Room} {s : State} {m : MethodId} {args : Array Value} {below : List Frame} {meth : Method} {c : Code} {T : State} {locs : List Loc} {cells slots cells' slots' : Nat} (X : Stand p l e R s m args below meth c T locs cells slots) (h1 : cells ≤ cells') (h2 : slots ≤ slots') : Stand p l e R s m args below meth c T locs cells' slots' := { X with same := X.same.mono h1 h2 }
theorem own_ikeep {Z : State} {h h' : Heap} {a : Addr} {C : String} {b : Bool} {ws : List Addr} (F : Ins Z h a C b) (K : Keep h h' ws) : Ins Z h' a C b := by
  obtain ⟨cell, cT, h1, h2, h3⟩ := F
  obtain ⟨c', q1, q2, q3, -⟩ := K.2.2 _ _ h1
  exact ⟨c', cT, q1, h2, by rw [q2, q3]; exact h3⟩

theorem own_selq {Z s : State} {a0 args : Array Value} {y : MethodName} {C : String} (hZ : Z.Warmed39 s.vm) (hs : (Cond.selects C y y).before a0 Z = true) (hp : (Cond.privateMethod y).before a0 Z = true) (hi : (Cond.instanceMethod y).before a0 Z = true) (hy : y.cls ≠ "java/lang/invoke/MethodHandle" ∧ y.cls ≠ "java/lang/invoke/VarHandle") : (Cond.selects y.cls y y).before args s = true := by
  have h1 : (Cond.selects y.cls y y).before a0 Z = true := by
    obtain ⟨c2, r2, m2, -, -, q3, -, kP, hkP, hkPi⟩ := Cond.selects_spec hs
    exact Stand.selects_self_of_private (findClass_of_methodNamed q3) hkP hkPi (Cond.privateMethod_at hp) hi hy
  exact mvT hZ h1
theorem own_nf {s : State} {args : Array Value} {y z : MethodName} {C : String} (hs : (Cond.selects C z z).before args s = true) (hyz : z.cls = y.cls) : NotFace s y := fun r0 h0 => by
  obtain ⟨c2, r2, m2, -, -, q3, -, kP, hkP, hkPi⟩ := Cond.selects_spec hs
  have h1 := findClass_of_methodNamed h0
  have h2 := findClass_of_methodNamed q3
  rw [hyz, h1] at h2
  rw [← Option.some.inj h2] at hkP
  exact ⟨kP, hkP, hkPi⟩
theorem own_same {Z : State} {a0 : Array Value} {y z : MethodName} {C : String} (hi : (Cond.instanceMethod y).before a0 Z = true) (hs : (Cond.selects C z z).before a0 Z = true) (hyz : z.cls = y.cls) (hy : y.cls ≠ "java/lang/invoke/MethodHandle" ∧ y.cls ≠ "java/lang/invoke/VarHandle") : (Cond.sameMethod y.cls y.cls y.name y.desc).before a0 Z = true := by
  obtain ⟨yc, yn, yd⟩ := y
  obtain ⟨mk, methM, hnamed, -⟩ := Cond.instanceMethod_spec hi
  obtain ⟨c2, r2, m2, -, -, q3, -, kP, hkP, hkPi⟩ := Cond.selects_spec hs
  have hc := findClass_of_methodNamed hnamed
  have hz := findClass_of_methodNamed q3
  rw [hyz, hc] at hz
  have hz' := Option.some.inj hz
  rw [← hz'] at hkP
  have hf := State.methodFound?_of_named hnamed hy
  simp only [Cond.before, Cond.holds, Cond.value, hc, hf, hnamed, hkP]
  simp [hkPi]

theorem own_wS {a0 : Array Value} {Z : State} (hw : ∀ d ∈ tables_1, d.before a0 Z = true) : ∀ a ∈ Bundle.stringAtoms, a.before a0 Z = true := fun d hd => hw d ((by decide +kernel : ∀ d ∈ Bundle.stringAtoms, d ∈ tables_1) d hd)

theorem own_backC {p : Program} {l : Launch} {e : Env} {R : Room} {s : State} {args : Array Value} {below : List Frame} {Z : State} {a0 : Array Value} {EL : List (String × Nat)} {h : Heap} {vm0 : Vm} {y : MethodName} {bytes : ByteArray} {maxL : Nat} {ret : Option FieldType} {rm : Room} {len W : Nat} {as' : Array Value} {Q : Option Value → Heap → List Loc → Prop}
    (hM : MetFree l y (head1 [Jvm.Cond.code y bytes maxL ret] rm) (fun a U => a = as' ∧ Z.Warmed39 U.vm ∧ U.heap = h ∧ CHv Z EL U.vm h) (fun _ _ _ _ _ => True) (fun _ U o U' => ∃ v L, o = .returned v ∧ Q v U'.heap L ∧ ReturnedEndW U o U' L rm.cells rm.slots))
    (hZ : Z.Warmed39 vm0) (wc : (Jvm.Cond.code y bytes maxL ret).before a0 Z = true) (wz : (Jvm.Cond.initialized y.cls).before a0 Z = true) (hf : rm.frames + 1 ≤ R.frames) (hl : W + (maxL + 11) + rm.locals ≤ R.locals) (hEL : EW Z a0 EL) (H : CHv Z EL vm0 h) :
    BackS l R p e below (s.setVm vm0) args y len W (fun A a => a = as' ∧ A.U.heap = h ∧ A.cells + rm.cells ≤ R.cells ∧ A.slots + rm.slots ≤ R.slots)
      (fun A _ v B => ∃ L, Q v B.U.heap L ∧ B.locs = A.locs ++ L ∧ B.cells = A.cells + rm.cells ∧ B.slots = A.slots + rm.slots) :=
  BackS.of_freeW (E := fun _ _ o t L k n => k = rm.cells ∧ n = rm.slots ∧ ∃ v, o = .returned v ∧ Q v t.heap L) hM hf hl
    (fun m meth c A a Y hp => by
      have hU : Z.Warmed39 A.U.vm := wtrans (s := s.setVm vm0) hZ Y.warmed
      refine ⟨?_, mv hU wc, mv hU wz, hp.2.2.1, hp.2.2.2⟩
      show (Jvm.Cond.and _ .tt).before a A.U = true
      rw [Cond.before_and, mv hU wc]
      rfl)
    (fun m meth c A a g mk Y hp => ⟨hp.1, wtrans (s := s.setVm vm0) hZ Y.warmed, hp.2.1, (CHv.at Y hZ hEL H).1⟩) (fun _ _ _ _ _ _ _ _ _ => trivial)
    (fun _ _ _ _ hq => by
      obtain ⟨v, L, h1, h2, h3⟩ := hq
      exact ⟨L, _, _, h3, rfl, rfl, v, h1, h2⟩)
    (fun m meth c A a g mk v t L k n Y hp _ _ hq => by
      obtain ⟨e1, e2, v', e3, e4⟩ := hq
      cases e3
      subst e1 e2
      exact ⟨L, e4, rfl, rfl, rfl⟩)

/-- an array in function form: n places, f i at the place i -/
def AF (Z : State) (h : Heap) (a : Addr) (k : ClassId) (ty : FieldType) (n : Nat) (f : Nat → Value) : Prop := ∃ c : Cell, Arr Z h a c ty ∧ c.cls = k ∧ c.slots.size = n ∧ ∀ j, j < n → c.slots[j]? = some (f j)
def own_upd (f : Nat → Value) (i : Nat) (v : Value) : Nat → Value := fun j => if j = i then v else f j
theorem own_upd_eq (f : Nat → Value) (i : Nat) (v : Value) : own_upd f i v i = v := if_pos rfl
theorem own_upd_ne (f : Nat → Value) {i j : Nat} (v : Value) (h : j ≠ i) : own_upd f i v j = f j := if_neg h
theorem AF.lt {Z : State} {h : Heap} {a : Addr} {k : ClassId} {ty : FieldType} {n : Nat} {f : Nat → Value} (F : AF Z h a k ty n f) : a < h.size := by obtain ⟨c, A, -⟩ := F; exact A.lt
theorem AF.ext {Z : State} {h h' : Heap} {a : Addr} {k : ClassId} {ty : FieldType} {n : Nat} {f : Nat → Value} (F : AF Z h a k ty n f) (E : Ext h h') : AF Z h' a k ty n f := by obtain ⟨c, A, r⟩ := F; exact ⟨c, A.ext E, r⟩
theorem AF.other {Z : State} {h h' : Heap} {a b : Addr} {sl : Nat} {v : Value} {k : ClassId} {ty : FieldType} {n : Nat} {f : Nat → Value} (F : AF Z h a k ty n f) (W : Wr h h' b sl v) (q : a ≠ b) : AF Z h' a k ty n f := by obtain ⟨c, A, r⟩ := F; exact ⟨c, A.other W q, r⟩
theorem AF.keep {Z : State} {h h' : Heap} {a : Addr} {ws : List Addr} {k : ClassId} {ty : FieldType} {n : Nat} {f : Nat → Value} (F : AF Z h a k ty n f) (K : Keep h h' ws) (q : a ∉ ws) : AF Z h' a k ty n f := by obtain ⟨c, A, r⟩ := F; exact ⟨c, ⟨K.2.1 a c A.1 q, A.2⟩, r⟩
theorem AF.new {Z : State} {h : Heap} {a : Addr} {k : ClassId} {ty : FieldType} {z : Int32} {n : Nat} (A : Arr Z h a (newA k ty z) ty) (hz : z.toNatClampNeg = n) : AF Z h a k ty n (fun _ => defaultValue ty) := by
  refine ⟨_, A, rfl, (sz_new _ _ _).trans hz, fun j hj => ?_⟩
  have hj' : j < z.toNatClampNeg := by rw [hz]; exact hj
  rw [show (newA k ty z).slots = Array.replicate z.toNatClampNeg (defaultValue ty) from rfl, Array.getElem?_replicate, if_pos hj']
theorem AF.of_arv {Z : State} {h : Heap} {a : Addr} {k : ClassId} {ty : FieldType} {z : Int32} {vs : List Value} {d : Value} {n : Nat} (F : Arv Z h a k ty z vs d) (hz : z.toNatClampNeg = n) : AF Z h a k ty n (fun j => vs.getD j d) := by
  obtain ⟨c, A, q, S, -, H, -⟩ := F
  exact ⟨c, A, q, S.trans hz, fun j hj => H j (by rw [S, hz]; exact hj)⟩
theorem AF.congr {Z : State} {h : Heap} {a : Addr} {k : ClassId} {ty : FieldType} {n : Nat} {f g : Nat → Value} (F : AF Z h a k ty n f) (q : ∀ j, j < n → f j = g j) : AF Z h a k ty n g := by obtain ⟨c, A, r, s, H⟩ := F; exact ⟨c, A, r, s, fun j hj => by rw [← q j hj]; exact H j hj⟩
theorem own_ix {i : Nat} (h : i < 2147483648) : ¬ (Nat.toInt32 i) < 0 ∧ (Nat.toInt32 i).toNatClampNeg = i := by
  have e : (Nat.toInt32 i).toInt = i := len_toInt h
  refine ⟨fun q => ?_, ?_⟩
  · rw [Int32.lt_iff_toInt_lt, e] at q
    have z : (0 : Int32).toInt = 0 := by decide
    omega
  · simp only [Int32.toNatClampNeg, e]
    rfl
theorem AF.inb {c : Cell} {n i : Nat} {j : Int32} (S : c.slots.size = n) (hj : ¬ j < 0 ∧ j.toNatClampNeg = i) (hi : i < n) : ¬ (j < 0 ∨ c.slots.size ≤ j.toNatClampNeg) := fun q => by
  rcases q with q | q
  · exact hj.1 q
  · rw [S, hj.2] at q; omega
theorem AF.at {c : Cell} {n i : Nat} {f : Nat → Value} {j : Int32} {v : Value} (H : ∀ j, j < n → c.slots[j]? = some (f j)) (hj : ¬ j < 0 ∧ j.toNatClampNeg = i) (hi : i < n) (hv : f i = v) : c.slots[j.toNatClampNeg]? = some v := by rw [hj.2, H i hi, hv]
theorem AF.set {Z : State} {h h' : Heap} {a : Addr} {c : Cell} {k : ClassId} {ty : FieldType} {n i : Nat} {f : Nat → Value} {j : Int32} {v : Value} (A : Arr Z h a c ty) (q : c.cls = k) (S : c.slots.size = n) (H : ∀ j, j < n → c.slots[j]? = some (f j)) (W : Wr h h' a j.toNatClampNeg v) (hj : ¬ j < 0 ∧ j.toNatClampNeg = i) (hi : i < n) : AF Z h' a k ty n (own_upd f i v) := by
  refine ⟨_, A.same W, q, by rw [sz_set]; exact S, fun y hy => ?_⟩
  rw [hj.2]
  simp only [Cell.setSlot, Array.getElem?_setIfInBounds]
  by_cases e : y = i
  · subst e
    have : y < c.slots.size := by rw [S]; exact hy
    simp [own_upd, this]
  · rw [if_neg (fun z => e z.symm), H y hy, own_upd_ne f v e]
theorem own_bb (x : Int32) : x.toInt8.toInt32.toInt8.toInt32 = x.toInt8.toInt32 := by simp
theorem own_nb (x : Int32) : nar .byte x.toInt8.toInt32 = x.toInt8.toInt32 := own_bb x
theorem own_loop {G : Prop} {A : Nat → Prop} (hs : ∀ k, (A k → G) → A (k + 1) → G) (he : A 0 → G) : ∀ k, A k → G
  | 0, h => he h
  | k + 1, h => hs k (own_loop hs he k) h
theorem own_ti {i : Nat} (h : i < 2147483648) : (Nat.toInt32 i).toInt = i := len_toInt h
theorem own_inc {i : Nat} (h : i + 1 < 2147483648) : (Nat.toInt32 i) + (1 : Int32) = (Nat.toInt32 (i + 1)) := by
  rw [← Int32.toInt_inj, own_ti h]
  have e := own_ti (i := i) (by omega)
  have q := c_iadd (Nat.toInt32 i) 1
  have r := rng32 (Nat.toInt32 i + 1)
  have o : (1 : Int32).toInt = 1 := by decide
  omega
theorem own_dbl {i : Nat} (h : 2 * i < 2147483648) : ((Nat.toInt32 i) <<< ((1 : Int32) &&& 31)) = (Nat.toInt32 (2 * i)) := by
  rw [← Int32.toInt_inj, own_ti h]
  have e := own_ti (i := i) (by omega)
  have q := c_ishl (Nat.toInt32 i) 1 1 (by decide)
  have r := rng32 ((Nat.toInt32 i) <<< ((1 : Int32) &&& 31))
  omega
theorem own_hlf {i : Nat} (h : 2 * i < 2147483648) : ((Nat.toInt32 (2 * i)) >>> ((1 : Int32) &&& 31)) = (Nat.toInt32 i) := by
  rw [← Int32.toInt_inj, own_ti (by omega), c_ishr _ 1 1 (by decide), own_ti h]
  omega
theorem own_lt {i j : Nat} (hi : i < 2147483648) (hj : j < 2147483648) : (Nat.toInt32 i) < (Nat.toInt32 j) ↔ i < j := by
  rw [Int32.lt_iff_toInt_lt, own_ti hi, own_ti hj]
  omega
theorem own_eqn {i j : Nat} (hi : i < 2147483648) (hj : j < 2147483648) : (Nat.toInt32 i) = (Nat.toInt32 j) ↔ i = j := by
  rw [← Int32.toInt_inj, own_ti hi, own_ti hj]
  omega

def own_b0 (c : Int32) : Int32 := (c >>> ((0 : Int32) &&& 31)).toInt8.toInt32
def own_b1 (c : Int32) : Int32 := (c >>> ((8 : Int32) &&& 31)).toInt8.toInt32
def own_u (cs : List Int32) : Prop := ∀ j, 0 ≤ (cs.getD j 0).toInt ∧ (cs.getD j 0).toInt ≤ 65535
def own_gc (x0 x1 : Int32) : Int32 := nar .char ((((x0 &&& (255 : Int32)) <<< ((0 : Int32) &&& 31)) ||| ((x1 &&& (255 : Int32)) <<< ((8 : Int32) &&& 31))).toUInt32.toUInt16.toUInt32.toInt32)
def own_lc (x : Int32) : Int32 := nar .char ((x &&& (255 : Int32)).toUInt32.toUInt16.toUInt32.toInt32)
theorem own_nch {c : Int32} (h0 : 0 ≤ c.toInt) (h1 : c.toInt ≤ 65535) : nar .char c = c := by
  have q := c_i2c c
  rw [← Int32.toInt_inj]
  show c.toUInt32.toUInt16.toUInt32.toInt32.toInt = c.toInt
  omega
theorem own_lc_b {c : Int32} (h0 : 0 ≤ c.toInt) (h1 : c.toInt ≤ 255) : own_lc c.toInt8.toInt32 = c := by
  have e1 := c_mask c.toInt8.toInt32 255 8 (by decide) (by decide)
  have e2 := c_i2b c
  have e3 := c_i2c (c.toInt8.toInt32 &&& (255 : Int32))
  have e4 : (c.toInt8.toInt32 &&& (255 : Int32)).toUInt32.toUInt16.toUInt32.toInt32 = c := by
    rw [← Int32.toInt_inj]
    omega
  unfold own_lc
  rw [e4]
  exact own_nch h0 (by omega)
theorem own_gc_b {c : Int32} (h0 : 0 ≤ c.toInt) (h1 : c.toInt ≤ 65535) : own_gc (own_b0 c) (own_b1 c) = c := by
  have s0 := c_ishr c 0 0 (by decide)
  have s1 := c_ishr c 8 8 (by decide)
  have b0 := c_i2b (c >>> ((0 : Int32) &&& 31))
  have b1 := c_i2b (c >>> ((8 : Int32) &&& 31))
  have m0 := c_mask (own_b0 c) 255 8 (by decide) (by decide)
  have m1 := c_mask (own_b1 c) 255 8 (by decide) (by decide)
  have l0 := c_ishl (own_b0 c &&& (255 : Int32)) 0 0 (by decide)
  have l1 := c_ishl (own_b1 c &&& (255 : Int32)) 8 8 (by decide)
  have d0 : (own_b0 c).toInt = (c >>> ((0 : Int32) &&& 31)).toInt8.toInt32.toInt := rfl
  have d1 : (own_b1 c).toInt = (c >>> ((8 : Int32) &&& 31)).toInt8.toInt32.toInt := rfl
  have r0 := rng32 ((own_b0 c &&& (255 : Int32)) <<< ((0 : Int32) &&& 31))
  have r1 := rng32 ((own_b1 c &&& (255 : Int32)) <<< ((8 : Int32) &&& 31))
  have o := c_or' ((own_b0 c &&& (255 : Int32)) <<< ((0 : Int32) &&& 31)) ((own_b1 c &&& (255 : Int32)) <<< ((8 : Int32) &&& 31)) 8 (by decide) 256 (by decide) (by omega) (by omega) (by omega)
  have r2 := rng32 (((own_b0 c &&& (255 : Int32)) <<< ((0 : Int32) &&& 31)) ||| ((own_b1 c &&& (255 : Int32)) <<< ((8 : Int32) &&& 31)))
  have e := c_i2c (((own_b0 c &&& (255 : Int32)) <<< ((0 : Int32) &&& 31)) ||| ((own_b1 c &&& (255 : Int32)) <<< ((8 : Int32) &&& 31)))
  have e4 : ((((own_b0 c &&& (255 : Int32)) <<< ((0 : Int32) &&& 31)) ||| ((own_b1 c &&& (255 : Int32)) <<< ((8 : Int32) &&& 31))).toUInt32.toUInt16.toUInt32.toInt32) = c := by
    rw [← Int32.toInt_inj]
    omega
  unfold own_gc
  rw [e4]
  exact own_nch h0 h1
theorem own_sh0 (x : Int32) : x >>> ((0 : Int32) &&& 31) = x := by
  rw [← Int32.toInt_inj, c_ishr x 0 0 (by decide)]
  omega
theorem own_cd (x : Int32) : (nar .byte ((x.toUInt32 >>> ((31 : Int32) &&& 31).toUInt32).toInt32).toInt8.toInt32) = if x.toInt < 0 then 1 else 0 := by
  have r := rng32 x
  have q := c_iushr x 31 31 (by decide) (by decide)
  have b := c_i2b ((x.toUInt32 >>> ((31 : Int32) &&& 31).toUInt32).toInt32)
  have n : (nar .byte ((x.toUInt32 >>> ((31 : Int32) &&& 31).toUInt32).toInt32).toInt8.toInt32) = ((x.toUInt32 >>> ((31 : Int32) &&& 31).toUInt32).toInt32).toInt8.toInt32 := own_bb _
  rw [n, ← Int32.toInt_inj]
  split
  · show _ = (1 : Int32).toInt
    have : (1 : Int32).toInt = 1 := by decide
    omega
  · show _ = (0 : Int32).toInt
    have : (0 : Int32).toInt = 0 := by decide
    omega
theorem own_cd0 {n : Nat} : (nar .byte (((Nat.toInt32 n - Nat.toInt32 n).toUInt32 >>> ((31 : Int32) &&& 31).toUInt32).toInt32).toInt8.toInt32) = 0 := by
  rw [own_cd, Int32.sub_self]
  decide
theorem own_cd1 {n : Nat} (h0 : 0 < n) (h : 2 * n < 2147483648) : (nar .byte (((Nat.toInt32 n - Nat.toInt32 (2 * n)).toUInt32 >>> ((31 : Int32) &&& 31).toUInt32).toInt32).toInt8.toInt32) = 1 := by
  have e1 := own_ti (i := n) (by omega)
  have e2 := own_ti h
  have q := c_isub (Nat.toInt32 n) (Nat.toInt32 (2 * n))
  have r := rng32 (Nat.toInt32 n - Nat.toInt32 (2 * n))
  rw [own_cd, if_pos (by omega)]
def own_L (cs : List Int32) (f : Nat → Value) : Prop := ∀ j, j < cs.length → f j = .int (cs.getD j 0).toInt8.toInt32 ∧ (cs.getD j 0).toInt ≤ 255
def own_U (cs : List Int32) (f : Nat → Value) : Prop := ∀ j, j < cs.length → f (2 * j) = .int (own_b0 (cs.getD j 0)) ∧ f (2 * j + 1) = .int (own_b1 (cs.getD j 0))
def own_UC (cs : List Int32) (f : Nat → Value) : Prop := own_U cs f ∧ ∃ i, i < cs.length ∧ (255 : Int32) < cs.getD i 0
def SW (Z : State) (co : Int32) (vf : Value) : Prop := Sta Z Z.heap "java/lang/String" "COMPACT_STRINGS" "Z" (.int co) ∧ (¬ co = (0 : Int32)) ∧ Sta Z Z.heap "java/lang/StringUTF16" "$assertionsDisabled" "Z" (.int (1 : Int32)) ∧ Sta Z Z.heap "java/lang/StringUTF16" "HI_BYTE_SHIFT" "I" (.int (0 : Int32)) ∧ Sta Z Z.heap "java/lang/StringUTF16" "LO_BYTE_SHIFT" "I" (.int (8 : Int32)) ∧ Sta Z Z.heap "jdk/internal/util/Preconditions" "SIOOBE_FORMATTER" "Ljava/util/function/BiFunction;" vf ∧ vf.category = 1
def SV (Z : State) (h : Heap) (b : Addr) (cs : List Int32) (k : ClassId) (f : Nat → Value) (cd : Int32) : Prop := (cd = 0 ∧ AF Z h b k .byte cs.length f ∧ own_L cs f) ∨ (cd = 1 ∧ AF Z h b k .byte (2 * cs.length) f ∧ own_UC cs f)
/-- a String of the chars cs: Latin-1 or UTF-16 -/
def SS (Z : State) (h : Heap) (s : Addr) (cs : List Int32) (b : Addr) (k : ClassId) (f : Nat → Value) (cd : Int32) : Prop := Exa Z h s "java/lang/String" ∧ Fld Z h s "java/lang/String" "value" "[B" (.ref b) ∧ Fld Z h s "java/lang/String" "coder" "B" (.int cd) ∧ SV Z h b cs k f cd
def QN (h0 : Heap) (n0 : Nat) (v : Option Value) (h : Heap) (L : List Loc) : Prop := v = none ∧ Fr n0 L ∧ h = h0
def QI (x : Int32) (h0 : Heap) (n0 : Nat) (v : Option Value) (h : Heap) (L : List Loc) : Prop := v = some (.int x) ∧ Fr n0 L ∧ h = h0
def QAF (Z : State) (a : Addr) (k : ClassId) (ty : FieldType) (m : Nat) (f : Nat → Value) (h0 : Heap) (n0 : Nat) (v : Option Value) (h : Heap) (L : List Loc) : Prop := v = none ∧ Fr n0 L ∧ Keep h0 h [a] ∧ AF Z h a k ty m f
def QNA (Z : State) (m : Nat) (P : (Nat → Value) → Prop) (h0 : Heap) (n0 : Nat) (v : Option Value) (h : Heap) (L : List Loc) : Prop := ∃ (r : Addr) (k : ClassId) (f : Nat → Value), v = some (.ref r) ∧ Fr n0 L ∧ Keep h0 h [] ∧ h0.size ≤ r ∧ AF Z h r k .byte m f ∧ P f
def QC5 (Z : State) (cs : List Int32) (da : Addr) (kd : ClassId) (h0 : Heap) (n0 : Nat) (v : Option Value) (h : Heap) (L : List Loc) : Prop := (∃ f : Nat → Value, v = some (.int (Nat.toInt32 cs.length)) ∧ Fr n0 L ∧ Keep h0 h [da] ∧ AF Z h da kd .byte cs.length f ∧ own_L cs f) ∨ (∃ i : Nat, v = some (.int (Nat.toInt32 i)) ∧ Fr n0 L ∧ Keep h0 h [da] ∧ i < cs.length ∧ (255 : Int32) < cs.getD i 0)
def QC3 (Z : State) (cs : List Int32) (h0 : Heap) (n0 : Nat) (v : Option Value) (h : Heap) (L : List Loc) : Prop := (∃ (r : Addr) (k : ClassId) (f : Nat → Value), v = some (.ref r) ∧ Fr n0 L ∧ Keep h0 h [] ∧ h0.size ≤ r ∧ AF Z h r k .byte cs.length f ∧ own_L cs f) ∨ (∃ (r : Addr) (k : ClassId) (f : Nat → Value), v = some (.ref r) ∧ Fr n0 L ∧ Keep h0 h [] ∧ h0.size ≤ r ∧ AF Z h r k .byte (2 * cs.length) f ∧ own_UC cs f)
def QST (Z : State) (a : Addr) (cs : List Int32) (h0 : Heap) (n0 : Nat) (v : Option Value) (h : Heap) (L : List Loc) : Prop := v = none ∧ Fr n0 L ∧ Keep h0 h [a] ∧ ∃ (b : Addr) (k : ClassId) (f : Nat → Value) (cd : Int32), SS Z h a cs b k f cd
theorem own_Lstep {cs : List Int32} {i : Nat} {f : Nat → Value} (H : ∀ j, j < i → f j = .int (cs.getD j 0).toInt8.toInt32 ∧ (cs.getD j 0).toInt ≤ 255) (hc : ¬ (255 : Int32) < cs.getD i 0) : ∀ j, j < i + 1 → own_upd f i (.int (cs.getD i 0).toInt8.toInt32) j = .int (cs.getD j 0).toInt8.toInt32 ∧ (cs.getD j 0).toInt ≤ 255 := fun j hj => by
  by_cases e : j = i
  · subst e
    rw [Int32.lt_iff_toInt_lt] at hc
    have e : (255 : Int32).toInt = 255 := by decide
    exact ⟨own_upd_eq _ _ _, by omega⟩
  · rw [own_upd_ne _ _ e]
    exact H j (by omega)
theorem own_Ustep {cs : List Int32} {i : Nat} {f : Nat → Value} (H : ∀ j, j < i → f (2 * j) = .int (own_b0 (cs.getD j 0)) ∧ f (2 * j + 1) = .int (own_b1 (cs.getD j 0))) : ∀ j, j < i + 1 → own_upd (own_upd f (2 * i) (.int (own_b0 (cs.getD i 0)))) (2 * i + 1) (.int (own_b1 (cs.getD i 0))) (2 * j) = .int (own_b0 (cs.getD j 0)) ∧ own_upd (own_upd f (2 * i) (.int (own_b0 (cs.getD i 0)))) (2 * i + 1) (.int (own_b1 (cs.getD i 0))) (2 * j + 1) = .int (own_b1 (cs.getD j 0)) := fun j hj => by
  by_cases e : j = i
  · subst e
    exact ⟨by rw [own_upd_ne _ _ (by omega), own_upd_eq], own_upd_eq _ _ _⟩
  · obtain ⟨q1, q2⟩ := H j (by omega)
    exact ⟨by rw [own_upd_ne _ _ (by omega), own_upd_ne _ _ (by omega)]; exact q1, by rw [own_upd_ne _ _ (by omega), own_upd_ne _ _ (by omega)]; exact q2⟩
theorem own_getD (cs : List Int32) (j : Nat) : (cs.map Value.int).getD j (.int 0) = .int (cs.getD j 0) := by
  simp only [List.getD_eq_getElem?_getD, List.getElem?_map]
  cases cs[j]? <;> rfl

theorem own_EW {a0 : Array Value} {Z : State} (hw : ∀ d ∈ tables_1, d.before a0 Z = true) : EW Z a0 consts_1 := EW.cons (hw _ (List.mem_of_getElem? (i := 224) rfl)) (by decide) (EW.cons (hw _ (List.mem_of_getElem? (i := 14) rfl)) (by decide) EW.nil)

theorem own_neA {Z : State} {h : Heap} {x b : Addr} {C : String} {a0 : Array Value} {n m : Nat} {k : ClassId} {ty : FieldType} {f : Nat → Value} (E : Exa Z h x C) (F : AF Z h b k ty m f) (w : (Cond.instantiable C n).before a0 Z = true) : x ≠ b := fun q => by
  subst q
  obtain ⟨c1, k1, e1, f1, g1, -⟩ := E
  obtain ⟨c2, ⟨e2, hA, -⟩, -⟩ := F
  obtain rfl := Option.some.inj (e1.symm.trans e2)
  obtain ⟨-, kk, hk, comp, hkind⟩ := hA
  obtain ⟨c0, k0, hc, hk0, ho, -⟩ := Cond.instantiable_spec w
  have hcc : c0 = c1.cls := Option.some.inj (hc.symm.trans f1)
  subst hcc
  obtain rfl := Option.some.inj (hk0.symm.trans hk)
  rw [ho] at hkind
  cases hkind
theorem own_neSV {Z : State} {h : Heap} {x b : Addr} {C : String} {a0 : Array Value} {n : Nat} {cs : List Int32} {k : ClassId} {f : Nat → Value} {cd : Int32} (E : Exa Z h x C) (F : SV Z h b cs k f cd) (w : (Cond.instantiable C n).before a0 Z = true) : x ≠ b := by
  rcases F with ⟨-, A, -⟩ | ⟨-, A, -⟩
  · exact own_neA E A w
  · exact own_neA E A w
theorem own_sfA {Z : State} {EL : List (String × Nat)} {vm : Vm} {h : Heap} {x : Addr} {k : ClassId} {ty : FieldType} {n : Nat} {f : Nat → Value} (hal : Z.vm.Alike vm) (F : AF Z h x k ty n f) (ht : ty ≠ .byte) : Safe Z EL vm h x := by
  obtain ⟨c, A, -⟩ := F
  exact Safe.arr hal A ht
theorem SV.lt {Z : State} {h : Heap} {b : Addr} {cs : List Int32} {k : ClassId} {f : Nat → Value} {cd : Int32} (F : SV Z h b cs k f cd) : b < h.size := by
  rcases F with ⟨-, A, -⟩ | ⟨-, A, -⟩
  · exact A.lt
  · exact A.lt
theorem SV.ext {Z : State} {h h' : Heap} {b : Addr} {cs : List Int32} {k : ClassId} {f : Nat → Value} {cd : Int32} (F : SV Z h b cs k f cd) (E : Ext h h') : SV Z h' b cs k f cd := by
  rcases F with ⟨q, A, r⟩ | ⟨q, A, r⟩
  · exact Or.inl ⟨q, A.ext E, r⟩
  · exact Or.inr ⟨q, A.ext E, r⟩
theorem SV.other {Z : State} {h h' : Heap} {b a : Addr} {sl : Nat} {v : Value} {cs : List Int32} {k : ClassId} {f : Nat → Value} {cd : Int32} (F : SV Z h b cs k f cd) (W : Wr h h' a sl v) (n : b ≠ a) : SV Z h' b cs k f cd := by
  rcases F with ⟨q, A, r⟩ | ⟨q, A, r⟩
  · exact Or.inl ⟨q, A.other W n, r⟩
  · exact Or.inr ⟨q, A.other W n, r⟩
theorem SV.keep {Z : State} {h h' : Heap} {b : Addr} {ws : List Addr} {cs : List Int32} {k : ClassId} {f : Nat → Value} {cd : Int32} (F : SV Z h b cs k f cd) (K : Keep h h' ws) (n : b ∉ ws) : SV Z h' b cs k f cd := by
  rcases F with ⟨q, A, r⟩ | ⟨q, A, r⟩
  · exact Or.inl ⟨q, A.keep K n, r⟩
  · exact Or.inr ⟨q, A.keep K n, r⟩
def own_fb (n : Nat) (f : Nat → Value) : Prop := ∀ j, j < n → fits .byte (f j) = true
def own_cp (f g : Nat → Value) (i j c : Nat) : Nat → Value := fun q => if j ≤ q ∧ q < j + c then f (i + (q - j)) else g q
theorem own_cp_in {f g : Nat → Value} {i j c q : Nat} (h1 : j ≤ q) (h2 : q < j + c) : own_cp f g i j c q = f (i + (q - j)) := if_pos ⟨h1, h2⟩
theorem own_cp_lo {f g : Nat → Value} {i j c q : Nat} (h : q < j) : own_cp f g i j c q = g q := if_neg fun z => absurd z.1 (by omega)
theorem own_cp0 {f g : Nat → Value} {c q : Nat} (h : q < c) : own_cp f g 0 0 c q = f q := by
  rw [own_cp_in (Nat.zero_le q) (by omega)]
  congr 1
  omega
theorem own_fb_cp {f g : Nat → Value} {n m i j c : Nat} (F : own_fb n f) (G : own_fb m g) (h : i + c ≤ n) : own_fb m (own_cp f g i j c) := fun q hq => by
  unfold own_cp
  split
  · exact F _ (by omega)
  · exact G q hq
theorem own_fb0 (n : Nat) : own_fb n (fun _ => defaultValue .byte) := fun _ _ => rfl
theorem own_U_fb {cs : List Int32} {f : Nat → Value} (h : own_U cs f) : own_fb (2 * cs.length) f := fun j hj => by
  obtain ⟨q1, q2⟩ := h (j / 2) (by omega)
  rcases Nat.mod_two_eq_zero_or_one j with e | e
  · rw [show 2 * (j / 2) = j by omega] at q1
    rw [q1]
    exact fits_nar_byte _
  · rw [show 2 * (j / 2) + 1 = j by omega] at q2
    rw [q2]
    exact fits_nar_byte _
theorem own_L_fb {cs : List Int32} {f : Nat → Value} (h : own_L cs f) : own_fb cs.length f := fun j hj => by
  rw [(h j hj).1]
  exact fits_nar_byte _
theorem own_arv {Z : State} {h : Heap} {a : Addr} {k : ClassId} {ty : FieldType} {n : Nat} {f : Nat → Value} {d : Value} (F : AF Z h a k ty n f) (G : ∀ j, j < n → fits ty (f j) = true) (hn : n < 2147483648) : Arv Z h a k ty (Nat.toInt32 n) ((List.range n).map f) d := by
  obtain ⟨c, A, q, S, H⟩ := F
  have e := own_ix hn
  have key : ∀ i, i < n → ((List.range n).map f).getD i d = f i := fun i hi => by simp [List.getD_eq_getElem?_getD, hi]
  refine ⟨c, A, q, S.trans e.2.symm, e.1, fun i hi => ?_, fun i hi => ?_⟩
  · rw [key i (by omega)]
    exact H i (by omega)
  · rw [key i (by omega)]
    exact G i (by omega)
theorem own_cpL {f g : Nat → Value} {n m i j c : Nat} {d : Value} (h1 : i + c ≤ n) (h2 : j + c ≤ m) {q : Nat} (hq : q < m) : (((List.range m).map g).take j ++ ((List.range c).map fun t => ((List.range n).map f).getD (i + t) d) ++ ((List.range m).map g).drop (j + c)).getD q d = own_cp f g i j c q := by
  unfold own_cp
  simp only [List.getD_eq_getElem?_getD]
  by_cases a1 : q < j
  · rw [List.getElem?_append_left (by simp; omega), List.getElem?_append_left (by simp; omega), if_neg (by omega)]
    simp [a1, hq]
  · by_cases a2 : q < j + c
    · rw [List.getElem?_append_left (by simp; omega), List.getElem?_append_right (by simp; omega), if_pos (by omega)]
      have e : q - (((List.range m).map g).take j).length = q - j := by simp; omega
      have hc : q - j < c := by omega
      have hn : i + (q - j) < n := by omega
      rw [e]
      simp [hc, hn]
    · rw [List.getElem?_append_right (by simp; omega), if_neg (by omega)]
      have e : (((List.range m).map g).take j ++ ((List.range c).map fun t => (((List.range n).map f)[i + t]?).getD d)).length = j + c := by simp; omega
      rw [e, List.getElem?_drop, show j + c + (q - (j + c)) = q by omega]
      simp [hq]
theorem own_subn {i n : Nat} (h : i ≤ n) (hn : n < 2147483648) : (Nat.toInt32 n) - (Nat.toInt32 i) = (Nat.toInt32 (n - i)) := by
  rw [← Int32.toInt_inj, own_ti (by omega)]
  have e1 := own_ti hn
  have e2 := own_ti (i := i) (by omega)
  have q := c_isub (Nat.toInt32 n) (Nat.toInt32 i)
  have r := rng32 (Nat.toInt32 n - Nat.toInt32 i)
  omega
theorem own_sub0 (x : Int32) : x - (0 : Int32) = x := by
  rw [← Int32.toInt_inj]
  have q := c_isub x 0
  have r := rng32 (x - 0)
  have r2 := rng32 x
  have z : (0 : Int32).toInt = 0 := by decide
  omega
theorem own_or3 {n i c : Nat} (hn : n < 2147483648) (hi : i < 2147483648) (hc : c < 2147483648) : ¬ (((Nat.toInt32 n) ||| (Nat.toInt32 i)) ||| (Nat.toInt32 c)) < (0 : Int32) := fun q => by
  have a := (c_orS (Nat.toInt32 n) (Nat.toInt32 i)).1 (by rw [own_ti hn]; omega) (by rw [own_ti hi]; omega)
  have b := (c_orS ((Nat.toInt32 n) ||| (Nat.toInt32 i)) (Nat.toInt32 c)).1 a (by rw [own_ti hc]; omega)
  rw [Int32.lt_iff_toInt_lt] at q
  have z : (0 : Int32).toInt = 0 := by decide
  omega
def own_min (x y : Int32) : Int32 := if y < x then y else x
def own_max (x y : Int32) : Int32 := if x < y then y else x
theorem own_minr {c n : Nat} (h : c ≤ n) (hn : n < 2147483648) : own_min (Nat.toInt32 n) (Nat.toInt32 c) = (Nat.toInt32 c) := by
  unfold own_min
  split
  · rfl
  · rename_i q
    have e : n = c := by
      have := mt (own_lt (i := c) (j := n) (by omega) hn).mpr q
      omega
    rw [e]
theorem own_minl {c n : Nat} (h : n ≤ c) (hc : c < 2147483648) : own_min (Nat.toInt32 n) (Nat.toInt32 c) = (Nat.toInt32 n) := by
  unfold own_min
  split
  · rename_i q
    have := (own_lt (i := c) (j := n) hc (by omega)).mp q
    omega
  · rfl
theorem own_a255 {c : Int32} (h0 : 0 ≤ c.toInt) (h1 : c.toInt ≤ 255) : (c.toInt8.toInt32 &&& (255 : Int32)) = c := by
  have e1 := c_mask c.toInt8.toInt32 255 8 (by decide) (by decide)
  have e2 := c_i2b c
  rw [← Int32.toInt_inj]
  omega
def QCP (Z : State) (f : Nat → Value) (n c : Nat) (h0 : Heap) (n0 : Nat) (v : Option Value) (h : Heap) (L : List Loc) : Prop := QNA Z c (fun f' => (∀ j, j < n → f' j = f j) ∧ own_fb c f') h0 n0 v h L
def own_pre (es cs : List Int32) : Prop := cs.length = 200 ∧ ∀ j, j < 200 → cs.getD j 0 = es.getD j 0
def QD5 (Z : State) (cs : List Int32) (da : Addr) (kd : ClassId) (h0 : Heap) (n0 : Nat) (v : Option Value) (h : Heap) (L : List Loc) : Prop := (∃ f : Nat → Value, v = some (.int 200) ∧ Fr n0 L ∧ Keep h0 h [da] ∧ AF Z h da kd .byte 200 f ∧ own_L cs f) ∨ (∃ i : Nat, v = some (.int (Nat.toInt32 i)) ∧ Fr n0 L ∧ Keep h0 h [da] ∧ i < 200 ∧ (255 : Int32) < cs.getD i 0)
def QD3 (Z : State) (cs : List Int32) (h0 : Heap) (n0 : Nat) (v : Option Value) (h : Heap) (L : List Loc) : Prop := (∃ (r : Addr) (k : ClassId) (f : Nat → Value), v = some (.ref r) ∧ Fr n0 L ∧ Keep h0 h [] ∧ h0.size ≤ r ∧ AF Z h r k .byte 200 f ∧ own_L cs f) ∨ (∃ (r : Addr) (k : ClassId) (f : Nat → Value), v = some (.ref r) ∧ Fr n0 L ∧ Keep h0 h [] ∧ h0.size ≤ r ∧ AF Z h r k .byte 400 f ∧ own_UC cs f)
def QBB (Z : State) (a1 r : Addr) (cd : Int32) (h0 : Heap) (n0 : Nat) (v : Option Value) (h : Heap) (L : List Loc) : Prop := v = none ∧ Fr n0 L ∧ Keep h0 h [a1] ∧ Exa Z h a1 "java/lang/String" ∧ Fld Z h a1 "java/lang/String" "value" "[B" (.ref r) ∧ Fld Z h a1 "java/lang/String" "coder" "B" (.int cd)
def QSU (Z : State) (cs : List Int32) (h0 : Heap) (n0 : Nat) (v : Option Value) (h : Heap) (L : List Loc) : Prop := ∃ (r bb : Addr) (k : ClassId) (f : Nat → Value) (cd : Int32), v = some (.ref r) ∧ Fr n0 L ∧ Keep h0 h [] ∧ h0.size ≤ r ∧ h0.size ≤ bb ∧ SS Z h r cs bb k f cd
def SBF (Z : State) (h : Heap) (sb vb : Addr) (cd cnt : Int32) : Prop := Exa Z h sb "java/lang/StringBuilder" ∧ Fld Z h sb "java/lang/AbstractStringBuilder" "value" "[B" (.ref vb) ∧ Fld Z h sb "java/lang/AbstractStringBuilder" "coder" "B" (.int cd) ∧ Fld Z h sb "java/lang/AbstractStringBuilder" "count" "I" (.int cnt) ∧ Fld Z h sb "java/lang/AbstractStringBuilder" "maybeLatin1" "Z" (.int 0)
/-- behind a call that gives the builder a new array -/
def QSB (Z : State) (sb : Addr) (cd cnt : Int32) (m : Nat) (P : (Nat → Value) → Prop) (w : Option Value) (h0 : Heap) (n0 : Nat) (v : Option Value) (h : Heap) (L : List Loc) : Prop := ∃ (r : Addr) (k : ClassId) (f : Nat → Value), v = w ∧ Fr n0 L ∧ Keep h0 h [sb] ∧ h0.size ≤ r ∧ SBF Z h sb r cd cnt ∧ AF Z h r k .byte m f ∧ own_fb m f ∧ P f
/-- behind a call that writes into the builder's array -/
def QDA (Z : State) (da : Addr) (k : ClassId) (m : Nat) (P : (Nat → Value) → Prop) (h0 : Heap) (n0 : Nat) (v : Option Value) (h : Heap) (L : List Loc) : Prop := ∃ f : Nat → Value, v = none ∧ Fr n0 L ∧ Keep h0 h [da] ∧ AF Z h da k .byte m f ∧ own_fb m f ∧ P f
theorem own_Istep {xs : List Int32} {o i : Nat} {g fr : Nat → Value} (H : (∀ j, j < i → fr (2 * (o + j)) = .int (own_b0 (xs.getD j 0)) ∧ fr (2 * (o + j) + 1) = .int (own_b1 (xs.getD j 0))) ∧ ∀ q, q < 2 * o → fr q = g q) : (∀ j, j < i + 1 → own_upd (own_upd fr (2 * (o + i)) (.int (own_b0 (xs.getD i 0)))) (2 * (o + i) + 1) (.int (own_b1 (xs.getD i 0))) (2 * (o + j)) = .int (own_b0 (xs.getD j 0)) ∧ own_upd (own_upd fr (2 * (o + i)) (.int (own_b0 (xs.getD i 0)))) (2 * (o + i) + 1) (.int (own_b1 (xs.getD i 0))) (2 * (o + j) + 1) = .int (own_b1 (xs.getD j 0))) ∧ ∀ q, q < 2 * o → own_upd (own_upd fr (2 * (o + i)) (.int (own_b0 (xs.getD i 0)))) (2 * (o + i) + 1) (.int (own_b1 (xs.getD i 0))) q = g q := by
  refine ⟨fun j hj => ?_, fun q hq => ?_⟩
  · by_cases e : j = i
    · subst e
      exact ⟨by rw [own_upd_ne _ _ (by omega), own_upd_eq], own_upd_eq _ _ _⟩
    · obtain ⟨q1, q2⟩ := H.1 j (by omega)
      exact ⟨by rw [own_upd_ne _ _ (by omega), own_upd_ne _ _ (by omega)]; exact q1, by rw [own_upd_ne _ _ (by omega), own_upd_ne _ _ (by omega)]; exact q2⟩
  · rw [own_upd_ne _ _ (by omega), own_upd_ne _ _ (by omega)]
    exact H.2 q hq
theorem own_fb_up {m i : Nat} {f : Nat → Value} {x : Int32} (F : own_fb m f) : own_fb m (own_upd f i (.int x.toInt8.toInt32)) := fun j hj => by
  unfold own_upd
  split
  · exact fits_nar_byte _
  · exact F j hj
theorem own_u46 : own_u [46, 46, 46] := fun j => by
  match j with
  | 0 => decide
  | 1 => decide
  | 2 => decide
  | j + 3 => simp

theorem own_u0 : own_u [] := fun j => by simp

abbrev HW (a0 : Array Value) (Z : State) : Prop := ∀ d ∈ tables_1, d.before a0 Z = true
abbrev vr (a : Addr) : Slot := .val (.ref a)
abbrev vi (x : Int32) : Slot := .val (.int x)
set_option maxRecDepth 65536
set_option maxHeartbeats 40000000
abbrev DC (c : ByteArray) (pc : Nat) (i : Instr) (n : Nat) : Prop := decode c pc = .ok (i, n)
abbrev MT (l : Launch) (y : MethodName) (bytes : ByteArray) (maxL : Nat) (ret : Option FieldType) (ws : List Jvm.Cond) (rm : Room) (as' : Array Value) (Z : State) (h0 : Heap) (Q : Option Value → Heap → List Loc → Prop) : Prop := MetFree l y (head1 (Jvm.Cond.code y bytes maxL ret :: ws) rm) (fun a U => a = as' ∧ Z.Warmed39 U.vm ∧ U.heap = h0) (fun _ _ _ _ _ => True) (fun _ U o U' => ∃ v L, o = .returned v ∧ Q v U'.heap L ∧ FrameEnd U o U' L rm.cells rm.slots)
theorem wq {a0 : Array Value} {Z : State} (hw : ∀ d ∈ tables_1, d.before a0 Z = true) (i : Nat) {d : Jvm.Cond} (h : tables_1[i]? = some d) : d.before a0 Z = true := hw d (List.mem_of_getElem? h)
abbrev SF (p : Program) (e : Env) (below : List Frame) (T : State) (f : JFrame) (t : State) : Prop := Steps p.tables e below (T.setTop f) t

abbrev y0' : MethodName := ⟨"java/lang/StringUTF16", "newBytesLength", "(I)I"⟩
abbrev y1' : MethodName := ⟨"java/lang/StringUTF16", "newBytesFor", "(I)[B"⟩
abbrev y2' : MethodName := ⟨"java/lang/StringUTF16", "putChar", "([BII)V"⟩
abbrev y3' : MethodName := ⟨"java/lang/StringUTF16", "getChar", "([BI)C"⟩
abbrev y4' : MethodName := ⟨"java/lang/StringUTF16", "toBytes", "([CII)[B"⟩
abbrev y5' : MethodName := ⟨"java/lang/StringUTF16", "compress", "([CI[BII)I"⟩
abbrev y6' : MethodName := ⟨"java/lang/StringUTF16", "compress", "([CII)[B"⟩
abbrev y7' : MethodName := ⟨"java/lang/StringUTF16", "coderFromArrayLen", "([BI)B"⟩
abbrev y8' : MethodName := ⟨"java/lang/String", "<init>", "([CIILjava/lang/Void;)V"⟩
abbrev y9' : MethodName := ⟨"java/lang/String", "<init>", "([C)V"⟩
abbrev y10' : MethodName := ⟨"java/lang/StringUTF16", "length", "([B)I"⟩
abbrev y11' : MethodName := ⟨"java/lang/String", "isLatin1", "()Z"⟩
abbrev y12' : MethodName := ⟨"java/lang/String", "coder", "()B"⟩
abbrev y13' : MethodName := ⟨"java/lang/String", "length", "()I"⟩
abbrev y14' : MethodName := ⟨"jdk/internal/util/Preconditions", "checkFromToIndex", "(IIILjava/util/function/BiFunction;)I"⟩
abbrev y15' : MethodName := ⟨"java/lang/String", "checkBoundsBeginEnd", "(III)V"⟩
abbrev y16' : MethodName := ⟨"jdk/internal/util/Preconditions", "checkFromIndexSize", "(IIILjava/util/function/BiFunction;)I"⟩
abbrev y17' : MethodName := ⟨"java/lang/String", "checkBoundsOffCount", "(III)I"⟩
abbrev y18' : MethodName := ⟨"java/lang/StringUTF16", "checkBoundsOffCount", "(II[B)V"⟩
abbrev y19' : MethodName := ⟨"java/lang/Math", "min", "(II)I"⟩
abbrev y20' : MethodName := ⟨"java/lang/Math", "max", "(II)I"⟩
abbrev y21' : MethodName := ⟨"java/util/Arrays", "checkLength", "(II)V"⟩
abbrev y22' : MethodName := ⟨"java/util/Arrays", "copyOfRangeByte", "([BII)[B"⟩
abbrev y23' : MethodName := ⟨"java/util/Arrays", "copyOfRange", "([BII)[B"⟩
abbrev y24' : MethodName := ⟨"java/util/Arrays", "copyOf", "([BI)[B"⟩
abbrev y25' : MethodName := ⟨"java/lang/String", "<init>", "([BB)V"⟩
abbrev y26' : MethodName := ⟨"java/lang/StringLatin1", "newString", "([BII)Ljava/lang/String;"⟩
abbrev y27' : MethodName := ⟨"java/lang/StringUTF16", "compress", "([BI[BII)I"⟩
abbrev y28' : MethodName := ⟨"java/lang/StringUTF16", "compress", "([BII)[B"⟩
abbrev y29' : MethodName := ⟨"java/lang/StringUTF16", "newString", "([BII)Ljava/lang/String;"⟩
abbrev y30' : MethodName := ⟨"java/lang/String", "substring", "(II)Ljava/lang/String;"⟩
abbrev y31' : MethodName := ⟨"java/lang/AbstractStringBuilder", "<init>", "(I)V"⟩
abbrev y32' : MethodName := ⟨"java/lang/StringBuilder", "<init>", "()V"⟩
abbrev y33' : MethodName := ⟨"jdk/internal/util/ArraysSupport", "newLength", "(III)I"⟩
abbrev y34' : MethodName := ⟨"java/lang/AbstractStringBuilder", "newCapacity", "(I)I"⟩
abbrev y35' : MethodName := ⟨"java/lang/AbstractStringBuilder", "ensureCapacityInternal", "(I)V"⟩
abbrev y36' : MethodName := ⟨"java/lang/AbstractStringBuilder", "isLatin1", "()Z"⟩
abbrev y37' : MethodName := ⟨"java/lang/StringUTF16", "inflate", "([BI[BII)V"⟩
abbrev y38' : MethodName := ⟨"java/lang/StringLatin1", "inflate", "([BI[BII)V"⟩
abbrev y39' : MethodName := ⟨"java/lang/AbstractStringBuilder", "inflate", "()V"⟩
abbrev y40' : MethodName := ⟨"java/lang/AbstractStringBuilder", "inflateIfNeededFor", "(Ljava/lang/String;)V"⟩
abbrev y41' : MethodName := ⟨"java/lang/String", "getBytes", "([BIB)V"⟩
abbrev y42' : MethodName := ⟨"java/lang/AbstractStringBuilder", "putStringAt", "(ILjava/lang/String;)V"⟩
abbrev y43' : MethodName := ⟨"java/lang/AbstractStringBuilder", "append", "(Ljava/lang/String;)Ljava/lang/AbstractStringBuilder;"⟩
abbrev y44' : MethodName := ⟨"java/lang/StringBuilder", "append", "(Ljava/lang/String;)Ljava/lang/StringBuilder;"⟩
abbrev y45' : MethodName := ⟨"java/lang/AbstractStringBuilder", "getValue", "()[B"⟩
abbrev y46' : MethodName := ⟨"java/lang/AbstractStringBuilder", "length", "()I"⟩
abbrev y47' : MethodName := ⟨"java/lang/StringBuilder", "length", "()I"⟩
abbrev y48' : MethodName := ⟨"java/lang/String", "<init>", "(Ljava/lang/AbstractStringBuilder;Ljava/lang/Void;)V"⟩
abbrev y49' : MethodName := ⟨"java/lang/String", "<init>", "(Ljava/lang/StringBuilder;)V"⟩
abbrev y50' : MethodName := ⟨"java/lang/StringBuilder", "toString", "()Ljava/lang/String;"⟩
abbrev y51' : MethodName := ⟨"java/lang/StringLatin1", "equals", "([B[B)Z"⟩
abbrev y52' : MethodName := ⟨"java/lang/String", "equals", "(Ljava/lang/Object;)Z"⟩
abbrev y53' : MethodName := ⟨"com/example/tickcross/tickcross/http/RequestStream", "quoted", "(Ljava/lang/String;)Ljava/lang/String;"⟩
abbrev c0' : ByteArray := jdk_52_method_3_code
abbrev c1' : ByteArray := jdk_52_method_2_code
abbrev c2' : ByteArray := jdk_52_method_4_code
abbrev c3' : ByteArray := jdk_52_method_5_code
abbrev c4' : ByteArray := jdk_52_method_14_code
abbrev c5' : ByteArray := jdk_52_method_21_code
abbrev c6' : ByteArray := jdk_52_method_16_code
abbrev c7' : ByteArray := jdk_52_method_15_code
abbrev c8' : ByteArray := jdk_42_method_149_code
abbrev c9' : ByteArray := jdk_42_method_3_code
abbrev c10' : ByteArray := jdk_52_method_6_code
abbrev c11' : ByteArray := jdk_42_method_154_code
abbrev c12' : ByteArray := jdk_42_method_152_code
abbrev c13' : ByteArray := jdk_42_method_54_code
abbrev c14' : ByteArray := jdk_41_method_12_code
abbrev c15' : ByteArray := jdk_42_method_158_code
abbrev c16' : ByteArray := jdk_41_method_13_code
abbrev c17' : ByteArray := jdk_42_method_157_code
abbrev c18' : ByteArray := jdk_52_method_94_code
abbrev c19' : ByteArray := jdk_29_method_69_code
abbrev c20' : ByteArray := jdk_29_method_65_code
abbrev c21' : ByteArray := jdk_65_method_131_code
abbrev c22' : ByteArray := jdk_65_method_133_code
abbrev c23' : ByteArray := jdk_65_method_132_code
abbrev c24' : ByteArray := jdk_65_method_121_code
abbrev c25' : ByteArray := jdk_42_method_151_code
abbrev c26' : ByteArray := jdk_43_method_47_code
abbrev c27' : ByteArray := jdk_52_method_22_code
abbrev c28' : ByteArray := jdk_52_method_17_code
abbrev c29' : ByteArray := jdk_52_method_69_code
abbrev c30' : ByteArray := jdk_42_method_92_code
abbrev c31' : ByteArray := jdk_68_method_2_code
abbrev c32' : ByteArray := jdk_67_method_1_code
abbrev c33' : ByteArray := jdk_48_method_27_code
abbrev c34' : ByteArray := jdk_68_method_10_code
abbrev c35' : ByteArray := jdk_68_method_9_code
abbrev c36' : ByteArray := jdk_68_method_68_code
abbrev c37' : ByteArray := jdk_52_method_86_code
abbrev c38' : ByteArray := jdk_43_method_50_code
abbrev c39' : ByteArray := jdk_68_method_11_code
abbrev c40' : ByteArray := jdk_68_method_71_code
abbrev c41' : ByteArray := jdk_42_method_147_code
abbrev c42' : ByteArray := jdk_68_method_73_code
abbrev c43' : ByteArray := jdk_68_method_22_code
abbrev c44' : ByteArray := jdk_67_method_7_code
abbrev c45' : ByteArray := jdk_68_method_64_code
abbrev c46' : ByteArray := jdk_68_method_6_code
abbrev c47' : ByteArray := jdk_67_method_93_code
abbrev c48' : ByteArray := jdk_42_method_150_code
abbrev c49' : ByteArray := jdk_42_method_53_code
abbrev c50' : ByteArray := jdk_67_method_42_code
abbrev c51' : ByteArray := jdk_43_method_13_code
abbrev c52' : ByteArray := jdk_42_method_66_code
theorem d13_0 : DC c0' 0 (.iload_n 0) 1 := by decide +kernel
theorem d13_1 : DC c0' 1 (.ifCond .ge 11) 3 := by decide +kernel
theorem d13_12 : DC c0' 12 (.iload_n 0) 1 := by decide +kernel
theorem d13_13 : DC c0' 13 (.ldc 20) 2 := by decide +kernel
theorem d13_15 : DC c0' 15 (.if_icmp .lt 40) 3 := by decide +kernel
theorem d13_55 : DC c0' 55 (.iload_n 0) 1 := by decide +kernel
theorem d13_56 : DC c0' 56 (.iconst 1) 1 := by decide +kernel
theorem d13_57 : DC c0' 57 (.ishl) 1 := by decide +kernel
theorem d13_58 : DC c0' 58 (.ireturn) 1 := by decide +kernel
theorem pn_java_lang_StringUTF16 : plainName "java/lang/StringUTF16" = true := by first | (simp [plainName, overriddenIn]; done) | decide +kernel
theorem ef_13 (m : MethodId) (x0 : Int32) : entryFrame m #[(.int x0)] 1 = mkF m 0 #[.val (.int x0)] [] := by first | (simp [entryFrame, mkF, argsToLocals, Value.category]; done) | rfl
theorem rm13 (l : Launch) (Z : State) (a0 : Array Value) (hw : HW a0 Z) (ws : List Jvm.Cond) (n : Nat) (h0 : Heap) (n0 : Nat) (O0 : Old Z n0 h0) (hn : n ≤ 402) :
    MT l y0' c0' 1 (some .int) ws ({ frames := 0, cells := 0, slots := 0, locals := 0 } : Room) #[(.int (Nat.toInt32 n))] Z h0 (QI (Nat.toInt32 (2 * n)) h0 n0) := by
  refine MetFree.of_bodySF (plainFor_of_name pn_java_lang_StringUTF16) hisR ?_
  intro p e s m args below meth kode s₁ Bd hml0 hP hK
  obtain ⟨rfl, hZ, hh⟩ := hP
  have hx := Bd.exec
  have hby := Bd.bytes
  have hb' := @hb _ _ hby
  have hml : kode.maxLocals = 1 := hml0
  have hown : s.vm.findClass "java/lang/StringUTF16" = some m.cls := findClass_of_methodNamed Bd.named
  have X0 : Stand p l e ({ frames := 0, cells := 0, slots := 0, locals := 0 } : Room) s m #[(.int (Nat.toInt32 n))] below meth kode s₁ [] 0 0 := Stand.of_body Bd
  have e0 : s₁.heap = h0 := by rw [← hh, Bd.state]; rfl
  have N0 := Fr.nil n0
  have pre0 : ∀ t, SF p e below s₁ (mkF m 0 #[vi (Nat.toInt32 n)] []) t → SF p e below s₁ (entryFrame m #[(.int (Nat.toInt32 n))] 1) t := fun t k => castTop (ef_13 m (Nat.toInt32 n)) k
  have hn31 : n < 2147483648 := by omega
  have cn1 := fun (t : State) (kt : SF p e below s₁ (mkF m 1 #[vi (Nat.toInt32 n)] [.int (Nat.toInt32 n)]) t) => pre0 t (by
    exact XS.iloadN X0.here hx rfl (hb' d13_0) rfl kt)
  have cn2 := fun (t : State) (kt : SF p e below s₁ (mkF m 15 #[vi (Nat.toInt32 n)] [.int 1073741823, .int (Nat.toInt32 n)]) t) => cn1 t (by
    refine XS.ifYes X0.here hx rfl (pc0 := 1) (pc' := 12) rfl (hb' d13_1) rfl ((if0 _ _).trans (flt (own_ix hn31).1).2.1) (by decide) (by decide) ?_
    refine XS.iloadN X0.here hx rfl (hb' d13_12) rfl ?_
    exact X0.ldcInt hx hown (mvT hZ (wq hw 62 rfl)) (g := (mkF m 13 #[vi (Nat.toInt32 n)] [.int (Nat.toInt32 n)])) rfl (hb' d13_13) _ kt)
  have cn3 := fun (t : State) (kt : SF p e below s₁ (mkF m 58 #[vi (Nat.toInt32 n)] [.int ((Nat.toInt32 n) <<< ((1 : Int32) &&& 31))]) t) => cn2 t (by
    refine XS.icmpYes X0.here hx rfl (pc0 := 15) (pc' := 55) rfl (hb' d13_15) rfl (tlt ((own_lt (j := 1073741823) hn31 (by decide)).mpr (by omega))).1 (by decide) (by decide) ?_
    refine XS.iloadN X0.here hx rfl (hb' d13_55) rfl ?_
    refine XS.iconst X0.here hx rfl (hb' d13_56) ?_
    exact XS.ishl X0.here hx rfl (hb' d13_57) rfl kt)
  obtain ⟨frs, hr, hrun, hended, hW, hsame⟩ := X0.leave (v := some (.int ((Nat.toInt32 n) <<< ((1 : Int32) &&& 31)))) (fun h => by rw [Bd.returns] at h; cases h)
  refine ⟨_, _, cn3 _ ?_, hrun, hended, _, _, rfl, ?_, ⟨_, rfl⟩, hW, hsame.mono (by decide) (by decide)⟩
  · exact retI X0 hx Bd.returns (hb' d13_58) hr
  · show QI (Nat.toInt32 (2 * n)) h0 n0 _ s₁.heap _
    rw [e0]
    exact ⟨by rw [own_dbl (by omega)], N0, rfl⟩

theorem d12_0 : DC c1' 0 (.iload_n 0) 1 := by decide +kernel
theorem d12_1 : DC c1' 1 (.invokestatic 11) 3 := by decide +kernel
theorem d12_4 : DC c1' 4 (.newarray .byte) 2 := by decide +kernel
theorem d12_6 : DC c1' 6 (.areturn) 1 := by decide +kernel
theorem pd_0 : parseMethodDescriptor "(I)I" = some ⟨[.int], some .int⟩ := by decide +kernel
theorem ef_12 (m : MethodId) (x0 : Int32) : entryFrame m #[(.int x0)] 1 = mkF m 0 #[.val (.int x0)] [] := by first | (simp [entryFrame, mkF, argsToLocals, Value.category]; done) | rfl
theorem rm12 (l : Launch) (Z : State) (a0 : Array Value) (hw : HW a0 Z) (ws : List Jvm.Cond) (n : Nat) (h0 : Heap) (n0 : Nat) (O0 : Old Z n0 h0) (hn : n ≤ 402) :
    MT l y1' c1' 1 (some (.array .byte)) ws ({ frames := 1, cells := 1, slots := 804, locals := 12 } : Room) #[(.int (Nat.toInt32 n))] Z h0 (QNA Z (2 * n) (fun f => ∀ j, f j = .int 0) h0 n0) := by
  refine MetFree.of_bodySF (plainFor_of_name pn_java_lang_StringUTF16) hisR ?_
  intro p e s m args below meth kode s₁ Bd hml0 hP hK
  obtain ⟨rfl, hZ, hh⟩ := hP
  have hx := Bd.exec
  have hby := Bd.bytes
  have hb' := @hb _ _ hby
  have hml : kode.maxLocals = 1 := hml0
  have hown : s.vm.findClass "java/lang/StringUTF16" = some m.cls := findClass_of_methodNamed Bd.named
  have X0 : Stand p l e ({ frames := 1, cells := 1, slots := 804, locals := 12 } : Room) s m #[(.int (Nat.toInt32 n))] below meth kode s₁ [] 0 0 := Stand.of_body Bd
  have e0 : s₁.heap = h0 := by rw [← hh, Bd.state]; rfl
  have N0 := Fr.nil n0
  have pre0 : ∀ t, SF p e below s₁ (mkF m 0 #[vi (Nat.toInt32 n)] []) t → SF p e below s₁ (entryFrame m #[(.int (Nat.toInt32 n))] 1) t := fun t k => castTop (ef_12 m (Nat.toInt32 n)) k
  have hx2 := own_ix (i := 2 * n) (by omega)
  have cn1 := fun (t : State) (kt : SF p e below s₁ (mkF m 1 #[vi (Nat.toInt32 n)] [.int (Nat.toInt32 n)]) t) => pre0 t (by
    exact XS.iloadN X0.here hx rfl (hb' d12_0) rfl kt)
  obtain ⟨_, _, ⟨T2, L2, k2, n2⟩, -, X2, ⟨Lc2, hQ2, l2, y2, z2⟩, st2⟩ := Jvm.LawKit.callS X0 hx (y := y0') hown (mvT hZ (wq hw 59 rfl)) (mvT hZ (wq hw 60 rfl)) (mvT hZ (wq hw 45 rfl)) (mvT hZ (wq hw 61 rfl)) (by decide) (backOf (W := 0) (rm13 l Z a0 hw [] n h0 n0 O0 hn) hZ (wq hw 61 rfl) (wq hw 45 rfl) (by decide) (by decide)) (g := (mkF m 1 #[vi (Nat.toInt32 n)] [.int (Nat.toInt32 n)])) rfl (by rw [hml]; rfl) (argsL := [(.int (Nat.toInt32 n))]) (rest := []) (lenOf pd_0 rfl) rfl (Nat.le_refl _) (hb' d12_1) (fun _ _ => ⟨rfl, e0, (by decide : 0 + 0 ≤ _), (by decide : 0 + 0 ≤ _)⟩)
  dsimp only [Pt.U, Pt.locs, Pt.cells, Pt.slots] at X2 l2 y2 z2 st2 hQ2
  subst l2 y2 z2
  obtain ⟨rfl, Nq2, eh2⟩ := hQ2
  have N2 := Fr.app N0 Nq2
  have cn3 := fun (t : State) (kt : SF p e below T2 (mkF m 4 #[vi (Nat.toInt32 n)] [.int (Nat.toInt32 (2 * n))]) t) => cn1 t (by
    exact st2 _ kt)
  obtain ⟨T4, h4, k4, X4, e4, E4, A4, st4⟩ := newP X2 hx hZ (wq hw 15 rfl) eh2 (g := (mkF m 4 #[vi (Nat.toInt32 n)] [.int (Nat.toInt32 (2 * n))])) rfl (hb' d12_4) rfl hx2.1 (cap := 804) (by rw [hx2.2]; omega) (by decide) (by decide) (by decide)
  obtain ⟨b4, g4⟩ : ∃ z, z = h0.size := ⟨_, rfl⟩
  rw [← g4] at A4 st4
  have sz_b4 : h0.size ≤ b4 := Nat.le_trans (Keep.refl h0 []).1 (Nat.le_of_eq g4.symm)
  have g_b4 : n0 ≤ b4 := Nat.le_trans (O0.1 ▸ O0.2.1) sz_b4
  have O4 := O0.ext E4
  have K4 : Keep h0 h4 [] := (Keep.refl h0 []).ext E4
  have AF4 : AF Z h4 b4 k4 .byte (2 * n) (fun _ => defaultValue .byte) := AF.new A4 hx2.2
  have cn5 := fun (t : State) (kt : SF p e below T4 (mkF m 6 #[vi (Nat.toInt32 n)] [.ref b4]) t) => cn3 t (by
    exact st4 _ kt)
  obtain ⟨frs, hr, hrun, hended, hW, hsame⟩ := X4.leave (v := some (.ref b4)) (fun h => by rw [Bd.returns] at h; cases h)
  refine ⟨_, _, cn5 _ ?_, hrun, hended, _, _, rfl, ?_, ⟨_, rfl⟩, hW, hsame.mono (by decide) (by decide)⟩
  · jvm_step X4.here [X4.here.top, hx, (hb' d12_6), X4.method', Bd.returns, Value.isRef, FieldType.isReference]
    first | (intro acts; rw [hr _ acts rfl rfl rfl]) | rw [hr _ _ rfl rfl rfl]
    exact Steps.refl _
  · show QNA Z (2 * n) (fun f => ∀ j, f j = .int 0) h0 n0 _ T4.heap _
    rw [e4]
    exact ⟨b4, _, _, rfl, N2, K4, sz_b4, AF4, fun _ => rfl⟩

theorem d14_0 : DC c2' 0 (.getstatic 44) 3 := by decide +kernel
theorem d14_3 : DC c2' 3 (.ifCond .ne 25) 3 := by decide +kernel
theorem d14_28 : DC c2' 28 (.iload_n 1) 1 := by decide +kernel
theorem d14_29 : DC c2' 29 (.iconst 1) 1 := by decide +kernel
theorem d14_30 : DC c2' 30 (.ishl) 1 := by decide +kernel
theorem d14_31 : DC c2' 31 (.istore_n 1) 1 := by decide +kernel
theorem d14_32 : DC c2' 32 (.aload_n 0) 1 := by decide +kernel
theorem d14_33 : DC c2' 33 (.iload_n 1) 1 := by decide +kernel
theorem d14_34 : DC c2' 34 (.iinc 1 1) 3 := by decide +kernel
theorem d14_37 : DC c2' 37 (.iload_n 2) 1 := by decide +kernel
theorem d14_38 : DC c2' 38 (.getstatic 59) 3 := by decide +kernel
theorem d14_41 : DC c2' 41 (.ishr) 1 := by decide +kernel
theorem d14_42 : DC c2' 42 (.i2b) 1 := by decide +kernel
theorem d14_43 : DC c2' 43 (.bastore) 1 := by decide +kernel
theorem d14_44 : DC c2' 44 (.aload_n 0) 1 := by decide +kernel
theorem d14_45 : DC c2' 45 (.iload_n 1) 1 := by decide +kernel
theorem d14_46 : DC c2' 46 (.iload_n 2) 1 := by decide +kernel
theorem d14_47 : DC c2' 47 (.getstatic 63) 3 := by decide +kernel
theorem d14_50 : DC c2' 50 (.ishr) 1 := by decide +kernel
theorem d14_51 : DC c2' 51 (.i2b) 1 := by decide +kernel
theorem d14_52 : DC c2' 52 (.bastore) 1 := by decide +kernel
theorem d14_53 : DC c2' 53 (.return_) 1 := by decide +kernel
theorem ef_14 (m : MethodId) (x0 : Addr) (x1 : Int32) (x2 : Int32) : entryFrame m #[(.ref x0), (.int x1), (.int x2)] 3 = mkF m 0 #[.val (.ref x0), .val (.int x1), .val (.int x2)] [] := by first | (simp [entryFrame, mkF, argsToLocals, Value.category]; done) | rfl
theorem rm14 (l : Launch) (Z : State) (a0 : Array Value) (hw : HW a0 Z) (ws : List Jvm.Cond) (ba : Addr) (k : ClassId) (m2 i : Nat) (f : Nat → Value) (c : Int32) (co : Int32) (vf : Value) (h0 : Heap) (n0 : Nat) (O0 : Old Z n0 h0) (g_ba : n0 ≤ ba) (hi : 2 * i + 1 < m2) (hm : m2 ≤ 804) (A_ba : AF Z h0 ba k .byte m2 f) (SWh : SW Z co vf) :
    MT l y2' c2' 3 none ws ({ frames := 0, cells := 0, slots := 0, locals := 0 } : Room) #[(.ref ba), (.int (Nat.toInt32 i)), (.int c)] Z h0 (QAF Z ba k .byte m2 (own_upd (own_upd f (2 * i) (.int (own_b0 c))) (2 * i + 1) (.int (own_b1 c))) h0 n0) := by
  refine MetFree.of_bodySF (plainFor_of_name pn_java_lang_StringUTF16) hisR ?_
  intro p e s m args below meth kode s₁ Bd hml0 hP hK
  obtain ⟨rfl, hZ, hh⟩ := hP
  have hx := Bd.exec
  have hby := Bd.bytes
  have hb' := @hb _ _ hby
  have hml : kode.maxLocals = 3 := hml0
  have hown : s.vm.findClass "java/lang/StringUTF16" = some m.cls := findClass_of_methodNamed Bd.named
  have X0 : Stand p l e ({ frames := 0, cells := 0, slots := 0, locals := 0 } : Room) s m #[(.ref ba), (.int (Nat.toInt32 i)), (.int c)] below meth kode s₁ [] 0 0 := Stand.of_body Bd
  have e0 : s₁.heap = h0 := by rw [← hh, Bd.state]; rfl
  have N0 := Fr.nil n0
  have pre0 : ∀ t, SF p e below s₁ (mkF m 0 #[vr ba, vi (Nat.toInt32 i), vi c] []) t → SF p e below s₁ (entryFrame m #[(.ref ba), (.int (Nat.toInt32 i)), (.int c)] 3) t := fun t k => castTop (ef_14 m ba (Nat.toInt32 i) c) k
  have SWx := SWh
  obtain ⟨S_CS, hcs, S_AD, S_HI, S_LO, S_SI, hcat_vf⟩ := SWx
  obtain ⟨T1, X1, e1, st1⟩ := getS2 X0 hx hZ hown (host := "") (Or.inl (wq hw 66 rfl)) Via.refl e0 (S_AD.ext O0.2) (g := (mkF m 0 #[vr ba, vi (Nat.toInt32 i), vi c] [])) rfl (hb' d14_0)
  have cn2 := fun (t : State) (kt : SF p e below T1 (mkF m 3 #[vr ba, vi (Nat.toInt32 i), vi c] [.int 1]) t) => pre0 t (by
    exact st1 _ kt)
  have cn3 := fun (t : State) (kt : SF p e below T1 (mkF m 32 #[vr ba, vi ((Nat.toInt32 i) <<< ((1 : Int32) &&& 31)), vi c] []) t) => cn2 t (by
    refine XS.ifYes X1.here hx rfl (pc0 := 3) (pc' := 28) rfl (hb' d14_3) rfl ((if0 _ _).trans (feq (by decide : ¬ ((1 : Int32) = (0 : Int32)))).2) (by decide) (by decide) ?_
    refine XS.iloadN X1.here hx rfl (hb' d14_28) rfl ?_
    refine XS.iconst X1.here hx rfl (hb' d14_29) ?_
    refine XS.ishl X1.here hx rfl (hb' d14_30) rfl ?_
    exact XS.istoreN X1.here hx rfl (hb' d14_31) rfl (l' := #[vr ba, vi ((Nat.toInt32 i) <<< ((1 : Int32) &&& 31)), vi c]) rfl kt)
  have cn4 : ∀ t, SF p e below T1 (mkF m 32 #[vr ba, vi (Nat.toInt32 (2 * i)), vi c] []) t → SF p e below s₁ (entryFrame m #[(.ref ba), (.int (Nat.toInt32 i)), (.int c)] 3) t := by have q := cn3; rw [(id (own_dbl (by omega)) : ((Nat.toInt32 i) <<< ((1 : Int32) &&& 31)) = (Nat.toInt32 (2 * i)))] at q; exact q
  have cn5 := fun (t : State) (kt : SF p e below T1 (mkF m 37 #[vr ba, vi ((Nat.toInt32 (2 * i)) + (1 : Int32)), vi c] [.int (Nat.toInt32 (2 * i)), .ref ba]) t) => cn4 t (by
    refine XS.aloadN X1.here hx rfl (hb' d14_32) rfl rfl ?_
    refine XS.iloadN X1.here hx rfl (hb' d14_33) rfl ?_
    exact XS.iinc X1.here hx rfl (hb' d14_34) rfl (l' := #[vr ba, vi ((Nat.toInt32 (2 * i)) + (1 : Int32)), vi c]) rfl kt)
  have cn6 : ∀ t, SF p e below T1 (mkF m 37 #[vr ba, vi (Nat.toInt32 (2 * i + 1)), vi c] [.int (Nat.toInt32 (2 * i)), .ref ba]) t → SF p e below s₁ (entryFrame m #[(.ref ba), (.int (Nat.toInt32 i)), (.int c)] 3) t := by have q := cn5; rw [(id (own_inc (by omega)) : ((Nat.toInt32 (2 * i)) + (1 : Int32)) = (Nat.toInt32 (2 * i + 1)))] at q; exact q
  have cn7 := fun (t : State) (kt : SF p e below T1 (mkF m 38 #[vr ba, vi (Nat.toInt32 (2 * i + 1)), vi c] [.int c, .int (Nat.toInt32 (2 * i)), .ref ba]) t) => cn6 t (by
    exact XS.iloadN X1.here hx rfl (hb' d14_37) rfl kt)
  obtain ⟨T8, X8, e8, st8⟩ := getS2 X1 hx hZ hown (host := "") (Or.inl (wq hw 67 rfl)) Via.refl e1 (S_HI.ext O0.2) (g := (mkF m 38 #[vr ba, vi (Nat.toInt32 (2 * i + 1)), vi c] [.int c, .int (Nat.toInt32 (2 * i)), .ref ba])) rfl (hb' d14_38)
  have cn9 := fun (t : State) (kt : SF p e below T8 (mkF m 43 #[vr ba, vi (Nat.toInt32 (2 * i + 1)), vi c] [.int ((c >>> ((0 : Int32) &&& 31)).toInt8.toInt32), .int (Nat.toInt32 (2 * i)), .ref ba]) t) => cn7 t (by
    refine st8 _ ?_
    refine XS.ishr X8.here hx rfl (hb' d14_41) rfl ?_
    exact XS.i2b X8.here hx rfl (hb' d14_42) rfl kt)
  have AFx10 := A_ba
  obtain ⟨cl10, Ar10, q10, S10, H10⟩ := AFx10
  have hin10 : ¬ ((Nat.toInt32 (2 * i)) < 0 ∨ cl10.slots.size ≤ ((Nat.toInt32 (2 * i))).toNatClampNeg) := AF.inb S10 (own_ix (by omega)) (by omega)
  obtain ⟨T11, h11, X11, e11, W11, st11⟩ := stB X8 hx hZ e8 Ar10 (j := (Nat.toInt32 (2 * i))) hin10 (g := (mkF m 43 #[vr ba, vi (Nat.toInt32 (2 * i + 1)), vi c] [.int ((c >>> ((0 : Int32) &&& 31)).toInt8.toInt32), .int (Nat.toInt32 (2 * i)), .ref ba])) rfl rfl (hb' d14_43)
  rw [own_nb] at W11
  have AF11 : AF Z h11 ba k .byte m2 (own_upd f (2 * i) (.int ((c >>> ((0 : Int32) &&& 31)).toInt8.toInt32))) := AF.set Ar10 q10 S10 H10 W11 (own_ix (by omega)) (by omega)
  have N11 := Fr.snoc X11 N0 g_ba
  have O11 := O0.wr W11 g_ba
  have K11 : Keep h0 h11 [ba] := (Keep.refl h0 [ba]).wr W11 (Or.inl (List.mem_of_getElem? (i := 0) rfl))
  have cn12 := fun (t : State) (kt : SF p e below T11 (mkF m 47 #[vr ba, vi (Nat.toInt32 (2 * i + 1)), vi c] [.int c, .int (Nat.toInt32 (2 * i + 1)), .ref ba]) t) => cn9 t (by
    refine st11 _ ?_
    refine XS.aloadN X11.here hx rfl (hb' d14_44) rfl rfl ?_
    refine XS.iloadN X11.here hx rfl (hb' d14_45) rfl ?_
    exact XS.iloadN X11.here hx rfl (hb' d14_46) rfl kt)
  obtain ⟨T13, X13, e13, st13⟩ := getS2 X11 hx hZ hown (host := "") (Or.inl (wq hw 68 rfl)) Via.refl e11 (S_LO.ext O11.2) (g := (mkF m 47 #[vr ba, vi (Nat.toInt32 (2 * i + 1)), vi c] [.int c, .int (Nat.toInt32 (2 * i + 1)), .ref ba])) rfl (hb' d14_47)
  have cn14 := fun (t : State) (kt : SF p e below T13 (mkF m 52 #[vr ba, vi (Nat.toInt32 (2 * i + 1)), vi c] [.int ((c >>> ((8 : Int32) &&& 31)).toInt8.toInt32), .int (Nat.toInt32 (2 * i + 1)), .ref ba]) t) => cn12 t (by
    refine st13 _ ?_
    refine XS.ishr X13.here hx rfl (hb' d14_50) rfl ?_
    exact XS.i2b X13.here hx rfl (hb' d14_51) rfl kt)
  have AFx15 := AF11
  obtain ⟨cl15, Ar15, q15, S15, H15⟩ := AFx15
  have hin15 : ¬ ((Nat.toInt32 (2 * i + 1)) < 0 ∨ cl15.slots.size ≤ ((Nat.toInt32 (2 * i + 1))).toNatClampNeg) := AF.inb S15 (own_ix (by omega)) (by omega)
  obtain ⟨T16, h16, X16, e16, W16, st16⟩ := stB X13 hx hZ e13 Ar15 (j := (Nat.toInt32 (2 * i + 1))) hin15 (g := (mkF m 52 #[vr ba, vi (Nat.toInt32 (2 * i + 1)), vi c] [.int ((c >>> ((8 : Int32) &&& 31)).toInt8.toInt32), .int (Nat.toInt32 (2 * i + 1)), .ref ba])) rfl rfl (hb' d14_52)
  rw [own_nb] at W16
  have AF16 : AF Z h16 ba k .byte m2 (own_upd (own_upd f (2 * i) (.int ((c >>> ((0 : Int32) &&& 31)).toInt8.toInt32))) (2 * i + 1) (.int ((c >>> ((8 : Int32) &&& 31)).toInt8.toInt32))) := AF.set Ar15 q15 S15 H15 W16 (own_ix (by omega)) (by omega)
  have N16 := Fr.snoc X16 N11 g_ba
  have O16 := O11.wr W16 g_ba
  have K16 : Keep h0 h16 [ba] := K11.wr W16 (Or.inl (List.mem_of_getElem? (i := 0) rfl))
  have cn17 := fun (t : State) (kt : SF p e below T16 (mkF m 53 #[vr ba, vi (Nat.toInt32 (2 * i + 1)), vi c] []) t) => cn14 t (by
    exact st16 _ kt)
  obtain ⟨frs, hr, hrun, hended, hW, hsame⟩ := X16.leave (v := none) (fun _ => rfl)
  refine ⟨_, _, cn17 _ ?_, hrun, hended, _, _, rfl, ?_, ⟨_, rfl⟩, hW, hsame.mono (by decide) (by decide)⟩
  · exact X16.returnOut hx Bd.returns (hb' d14_53) hr
  · show QAF Z ba k .byte m2 (own_upd (own_upd f (2 * i) (.int (own_b0 c))) (2 * i + 1) (.int (own_b1 c))) h0 n0 _ T16.heap _
    rw [e16]
    exact ⟨rfl, N16, K16, AF16⟩

theorem d15_0 : DC c3' 0 (.getstatic 44) 3 := by decide +kernel
theorem d15_3 : DC c3' 3 (.ifCond .ne 25) 3 := by decide +kernel
theorem d15_28 : DC c3' 28 (.iload_n 1) 1 := by decide +kernel
theorem d15_29 : DC c3' 29 (.iconst 1) 1 := by decide +kernel
theorem d15_30 : DC c3' 30 (.ishl) 1 := by decide +kernel
theorem d15_31 : DC c3' 31 (.istore_n 1) 1 := by decide +kernel
theorem d15_32 : DC c3' 32 (.aload_n 0) 1 := by decide +kernel
theorem d15_33 : DC c3' 33 (.iload_n 1) 1 := by decide +kernel
theorem d15_34 : DC c3' 34 (.iinc 1 1) 3 := by decide +kernel
theorem d15_37 : DC c3' 37 (.baload) 1 := by decide +kernel
theorem d15_38 : DC c3' 38 (.sipush 255) 3 := by decide +kernel
theorem d15_41 : DC c3' 41 (.iand) 1 := by decide +kernel
theorem d15_42 : DC c3' 42 (.getstatic 59) 3 := by decide +kernel
theorem d15_45 : DC c3' 45 (.ishl) 1 := by decide +kernel
theorem d15_46 : DC c3' 46 (.aload_n 0) 1 := by decide +kernel
theorem d15_47 : DC c3' 47 (.iload_n 1) 1 := by decide +kernel
theorem d15_48 : DC c3' 48 (.baload) 1 := by decide +kernel
theorem d15_49 : DC c3' 49 (.sipush 255) 3 := by decide +kernel
theorem d15_52 : DC c3' 52 (.iand) 1 := by decide +kernel
theorem d15_53 : DC c3' 53 (.getstatic 63) 3 := by decide +kernel
theorem d15_56 : DC c3' 56 (.ishl) 1 := by decide +kernel
theorem d15_57 : DC c3' 57 (.ior) 1 := by decide +kernel
theorem d15_58 : DC c3' 58 (.i2c) 1 := by decide +kernel
theorem d15_59 : DC c3' 59 (.ireturn) 1 := by decide +kernel
theorem ef_15 (m : MethodId) (x0 : Addr) (x1 : Int32) : entryFrame m #[(.ref x0), (.int x1)] 2 = mkF m 0 #[.val (.ref x0), .val (.int x1)] [] := by first | (simp [entryFrame, mkF, argsToLocals, Value.category]; done) | rfl
theorem rm15 (l : Launch) (Z : State) (a0 : Array Value) (hw : HW a0 Z) (ws : List Jvm.Cond) (ba : Addr) (k : ClassId) (m2 i : Nat) (f : Nat → Value) (x0 x1 : Int32) (co : Int32) (vf : Value) (h0 : Heap) (n0 : Nat) (O0 : Old Z n0 h0) (hi : 2 * i + 1 < m2) (hm : m2 ≤ 804) (hx0 : f (2 * i) = .int x0) (hx1 : f (2 * i + 1) = .int x1) (A_ba : AF Z h0 ba k .byte m2 f) (SWh : SW Z co vf) :
    MT l y3' c3' 2 (some .char) ws ({ frames := 0, cells := 0, slots := 0, locals := 0 } : Room) #[(.ref ba), (.int (Nat.toInt32 i))] Z h0 (QI (own_gc x0 x1) h0 n0) := by
  refine MetFree.of_bodySF (plainFor_of_name pn_java_lang_StringUTF16) hisR ?_
  intro p e s m args below meth kode s₁ Bd hml0 hP hK
  obtain ⟨rfl, hZ, hh⟩ := hP
  have hx := Bd.exec
  have hby := Bd.bytes
  have hb' := @hb _ _ hby
  have hml : kode.maxLocals = 2 := hml0
  have hown : s.vm.findClass "java/lang/StringUTF16" = some m.cls := findClass_of_methodNamed Bd.named
  have X0 : Stand p l e ({ frames := 0, cells := 0, slots := 0, locals := 0 } : Room) s m #[(.ref ba), (.int (Nat.toInt32 i))] below meth kode s₁ [] 0 0 := Stand.of_body Bd
  have e0 : s₁.heap = h0 := by rw [← hh, Bd.state]; rfl
  have N0 := Fr.nil n0
  have pre0 : ∀ t, SF p e below s₁ (mkF m 0 #[vr ba, vi (Nat.toInt32 i)] []) t → SF p e below s₁ (entryFrame m #[(.ref ba), (.int (Nat.toInt32 i))] 2) t := fun t k => castTop (ef_15 m ba (Nat.toInt32 i)) k
  have SWx := SWh
  obtain ⟨S_CS, hcs, S_AD, S_HI, S_LO, S_SI, hcat_vf⟩ := SWx
  obtain ⟨T1, X1, e1, st1⟩ := getS2 X0 hx hZ hown (host := "") (Or.inl (wq hw 66 rfl)) Via.refl e0 (S_AD.ext O0.2) (g := (mkF m 0 #[vr ba, vi (Nat.toInt32 i)] [])) rfl (hb' d15_0)
  have cn2 := fun (t : State) (kt : SF p e below T1 (mkF m 3 #[vr ba, vi (Nat.toInt32 i)] [.int 1]) t) => pre0 t (by
    exact st1 _ kt)
  have cn3 := fun (t : State) (kt : SF p e below T1 (mkF m 32 #[vr ba, vi ((Nat.toInt32 i) <<< ((1 : Int32) &&& 31))] []) t) => cn2 t (by
    refine XS.ifYes X1.here hx rfl (pc0 := 3) (pc' := 28) rfl (hb' d15_3) rfl ((if0 _ _).trans (feq (by decide : ¬ ((1 : Int32) = (0 : Int32)))).2) (by decide) (by decide) ?_
    refine XS.iloadN X1.here hx rfl (hb' d15_28) rfl ?_
    refine XS.iconst X1.here hx rfl (hb' d15_29) ?_
    refine XS.ishl X1.here hx rfl (hb' d15_30) rfl ?_
    exact XS.istoreN X1.here hx rfl (hb' d15_31) rfl (l' := #[vr ba, vi ((Nat.toInt32 i) <<< ((1 : Int32) &&& 31))]) rfl kt)
  have cn4 : ∀ t, SF p e below T1 (mkF m 32 #[vr ba, vi (Nat.toInt32 (2 * i))] []) t → SF p e below s₁ (entryFrame m #[(.ref ba), (.int (Nat.toInt32 i))] 2) t := by have q := cn3; rw [(id (own_dbl (by omega)) : ((Nat.toInt32 i) <<< ((1 : Int32) &&& 31)) = (Nat.toInt32 (2 * i)))] at q; exact q
  have cn5 := fun (t : State) (kt : SF p e below T1 (mkF m 37 #[vr ba, vi ((Nat.toInt32 (2 * i)) + (1 : Int32))] [.int (Nat.toInt32 (2 * i)), .ref ba]) t) => cn4 t (by
    refine XS.aloadN X1.here hx rfl (hb' d15_32) rfl rfl ?_
    refine XS.iloadN X1.here hx rfl (hb' d15_33) rfl ?_
    exact XS.iinc X1.here hx rfl (hb' d15_34) rfl (l' := #[vr ba, vi ((Nat.toInt32 (2 * i)) + (1 : Int32))]) rfl kt)
  have cn6 : ∀ t, SF p e below T1 (mkF m 37 #[vr ba, vi (Nat.toInt32 (2 * i + 1))] [.int (Nat.toInt32 (2 * i)), .ref ba]) t → SF p e below s₁ (entryFrame m #[(.ref ba), (.int (Nat.toInt32 i))] 2) t := by have q := cn5; rw [(id (own_inc (by omega)) : ((Nat.toInt32 (2 * i)) + (1 : Int32)) = (Nat.toInt32 (2 * i + 1)))] at q; exact q
  have AFx7 := A_ba
  obtain ⟨cl7, Ar7, q7, S7, H7⟩ := AFx7
  have hin7 : ¬ ((Nat.toInt32 (2 * i)) < 0 ∨ cl7.slots.size ≤ ((Nat.toInt32 (2 * i))).toNatClampNeg) := AF.inb S7 (own_ix (by omega)) (by omega)
  have hat7 : cl7.slots[((Nat.toInt32 (2 * i))).toNatClampNeg]? = some (.int x0) := AF.at H7 (own_ix (by omega)) (by omega) hx0
  have cn8 := fun (t : State) (kt : SF p e below T1 (mkF m 42 #[vr ba, vi (Nat.toInt32 (2 * i + 1))] [.int (x0 &&& (255 : Int32))]) t) => cn6 t (by
    refine X1.baloadBytes hx (j := (Nat.toInt32 (2 * i))) (v := (.int x0)) (by rw [e1]; exact Ar7.1) (State.isArrayOf_alike hZ.alike Ar7.2.1) Ar7.2.2 hin7 hat7 (g := (mkF m 37 #[vr ba, vi (Nat.toInt32 (2 * i + 1))] [.int (Nat.toInt32 (2 * i)), .ref ba])) rfl rfl (hb' d15_37) _ ?_
    refine XS.sipush X1.here hx rfl (hb' d15_38) ?_
    exact XS.iand X1.here hx rfl (hb' d15_41) rfl kt)
  obtain ⟨T9, X9, e9, st9⟩ := getS2 X1 hx hZ hown (host := "") (Or.inl (wq hw 67 rfl)) Via.refl e1 (S_HI.ext O0.2) (g := (mkF m 42 #[vr ba, vi (Nat.toInt32 (2 * i + 1))] [.int (x0 &&& (255 : Int32))])) rfl (hb' d15_42)
  have cn10 := fun (t : State) (kt : SF p e below T9 (mkF m 48 #[vr ba, vi (Nat.toInt32 (2 * i + 1))] [.int (Nat.toInt32 (2 * i + 1)), .ref ba, .int ((x0 &&& (255 : Int32)) <<< ((0 : Int32) &&& 31))]) t) => cn8 t (by
    refine st9 _ ?_
    refine XS.ishl X9.here hx rfl (hb' d15_45) rfl ?_
    refine XS.aloadN X9.here hx rfl (hb' d15_46) rfl rfl ?_
    exact XS.iloadN X9.here hx rfl (hb' d15_47) rfl kt)
  have AFx11 := A_ba
  obtain ⟨cl11, Ar11, q11, S11, H11⟩ := AFx11
  have hin11 : ¬ ((Nat.toInt32 (2 * i + 1)) < 0 ∨ cl11.slots.size ≤ ((Nat.toInt32 (2 * i + 1))).toNatClampNeg) := AF.inb S11 (own_ix (by omega)) (by omega)
  have hat11 : cl11.slots[((Nat.toInt32 (2 * i + 1))).toNatClampNeg]? = some (.int x1) := AF.at H11 (own_ix (by omega)) (by omega) hx1
  have cn12 := fun (t : State) (kt : SF p e below T9 (mkF m 53 #[vr ba, vi (Nat.toInt32 (2 * i + 1))] [.int (x1 &&& (255 : Int32)), .int ((x0 &&& (255 : Int32)) <<< ((0 : Int32) &&& 31))]) t) => cn10 t (by
    refine X9.baloadBytes hx (j := (Nat.toInt32 (2 * i + 1))) (v := (.int x1)) (by rw [e9]; exact Ar11.1) (State.isArrayOf_alike hZ.alike Ar11.2.1) Ar11.2.2 hin11 hat11 (g := (mkF m 48 #[vr ba, vi (Nat.toInt32 (2 * i + 1))] [.int (Nat.toInt32 (2 * i + 1)), .ref ba, .int ((x0 &&& (255 : Int32)) <<< ((0 : Int32) &&& 31))])) rfl rfl (hb' d15_48) _ ?_
    refine XS.sipush X9.here hx rfl (hb' d15_49) ?_
    exact XS.iand X9.here hx rfl (hb' d15_52) rfl kt)
  obtain ⟨T13, X13, e13, st13⟩ := getS2 X9 hx hZ hown (host := "") (Or.inl (wq hw 68 rfl)) Via.refl e9 (S_LO.ext O0.2) (g := (mkF m 53 #[vr ba, vi (Nat.toInt32 (2 * i + 1))] [.int (x1 &&& (255 : Int32)), .int ((x0 &&& (255 : Int32)) <<< ((0 : Int32) &&& 31))])) rfl (hb' d15_53)
  have cn14 := fun (t : State) (kt : SF p e below T13 (mkF m 59 #[vr ba, vi (Nat.toInt32 (2 * i + 1))] [.int ((((x0 &&& (255 : Int32)) <<< ((0 : Int32) &&& 31)) ||| ((x1 &&& (255 : Int32)) <<< ((8 : Int32) &&& 31))).toUInt32.toUInt16.toUInt32.toInt32)]) t) => cn12 t (by
    refine st13 _ ?_
    refine XS.ishl X13.here hx rfl (hb' d15_56) rfl ?_
    refine XS.ior X13.here hx rfl (hb' d15_57) rfl ?_
    exact XS.i2c X13.here hx rfl (hb' d15_58) rfl kt)
  obtain ⟨frs, hr, hrun, hended, hW, hsame⟩ := X13.leave (v := some (.int (nar .char ((((x0 &&& (255 : Int32)) <<< ((0 : Int32) &&& 31)) ||| ((x1 &&& (255 : Int32)) <<< ((8 : Int32) &&& 31))).toUInt32.toUInt16.toUInt32.toInt32)))) (fun h => by rw [Bd.returns] at h; cases h)
  refine ⟨_, _, cn14 _ ?_, hrun, hended, _, _, rfl, ?_, ⟨_, rfl⟩, hW, hsame.mono (by decide) (by decide)⟩
  · exact retN X13 hx (t := .char) Bd.returns (by simp) (hb' d15_59) hr
  · show QI (own_gc x0 x1) h0 n0 _ T13.heap _
    rw [e13]
    exact ⟨rfl, N0, rfl⟩

theorem d11_0 : DC c4' 0 (.iload_n 2) 1 := by decide +kernel
theorem d11_1 : DC c4' 1 (.invokestatic 107) 3 := by decide +kernel
theorem d11_4 : DC c4' 4 (.astore_n 3) 1 := by decide +kernel
theorem d11_5 : DC c4' 5 (.iconst 0) 1 := by decide +kernel
theorem d11_6 : DC c4' 6 (.istore 4) 2 := by decide +kernel
theorem d11_8 : DC c4' 8 (.iload 4) 2 := by decide +kernel
theorem d11_10 : DC c4' 10 (.iload_n 2) 1 := by decide +kernel
theorem d11_11 : DC c4' 11 (.if_icmp .ge 21) 3 := by decide +kernel
theorem d11_14 : DC c4' 14 (.aload_n 3) 1 := by decide +kernel
theorem d11_15 : DC c4' 15 (.iload 4) 2 := by decide +kernel
theorem d11_17 : DC c4' 17 (.aload_n 0) 1 := by decide +kernel
theorem d11_18 : DC c4' 18 (.iload_n 1) 1 := by decide +kernel
theorem d11_19 : DC c4' 19 (.caload) 1 := by decide +kernel
theorem d11_20 : DC c4' 20 (.invokestatic 111) 3 := by decide +kernel
theorem d11_23 : DC c4' 23 (.iinc 1 1) 3 := by decide +kernel
theorem d11_26 : DC c4' 26 (.iinc 4 1) 3 := by decide +kernel
theorem d11_29 : DC c4' 29 (.goto (-21)) 3 := by decide +kernel
theorem d11_32 : DC c4' 32 (.aload_n 3) 1 := by decide +kernel
theorem d11_33 : DC c4' 33 (.areturn) 1 := by decide +kernel
theorem pd_1 : parseMethodDescriptor "(I)[B" = some ⟨[.int], some (.array .byte)⟩ := by decide +kernel
theorem pd_2 : parseMethodDescriptor "([BII)V" = some ⟨[(.array .byte), .int, .int], none⟩ := by decide +kernel
theorem ef_11 (m : MethodId) (x0 : Addr) (x1 : Int32) (x2 : Int32) : entryFrame m #[(.ref x0), (.int x1), (.int x2)] 5 = mkF m 0 #[.val (.ref x0), .val (.int x1), .val (.int x2), .unset, .unset] [] := by first | (simp [entryFrame, mkF, argsToLocals, Value.category]; done) | rfl
theorem rm11 (l : Launch) (Z : State) (a0 : Array Value) (hw : HW a0 Z) (ws : List Jvm.Cond) (ca : Addr) (kc : ClassId) (cs : List Int32) (co : Int32) (vf : Value) (h0 : Heap) (n0 : Nat) (O0 : Old Z n0 h0) (hn : cs.length ≤ 402) (A_ca : AF Z h0 ca kc .char cs.length (fun j => .int (cs.getD j 0))) (SWh : SW Z co vf) :
    MT l y4' c4' 5 (some (.array .byte)) ws ({ frames := 2, cells := 1, slots := 804, locals := 24 } : Room) #[(.ref ca), (.int (0 : Int32)), (.int (Nat.toInt32 cs.length))] Z h0 (QNA Z (2 * cs.length) (own_U cs) h0 n0) := by
  refine MetFree.of_bodySF (plainFor_of_name pn_java_lang_StringUTF16) hisR ?_
  intro p e s m args below meth kode s₁ Bd hml0 hP hK
  obtain ⟨rfl, hZ, hh⟩ := hP
  have hx := Bd.exec
  have hby := Bd.bytes
  have hb' := @hb _ _ hby
  have hml : kode.maxLocals = 5 := hml0
  have hown : s.vm.findClass "java/lang/StringUTF16" = some m.cls := findClass_of_methodNamed Bd.named
  have X0 : Stand p l e ({ frames := 2, cells := 1, slots := 804, locals := 24 } : Room) s m #[(.ref ca), (.int (0 : Int32)), (.int (Nat.toInt32 cs.length))] below meth kode s₁ [] 0 0 := Stand.of_body Bd
  have e0 : s₁.heap = h0 := by rw [← hh, Bd.state]; rfl
  have N0 := Fr.nil n0
  have pre0 : ∀ t, SF p e below s₁ (mkF m 0 #[vr ca, vi 0, vi (Nat.toInt32 cs.length), .unset, .unset] []) t → SF p e below s₁ (entryFrame m #[(.ref ca), (.int (0 : Int32)), (.int (Nat.toInt32 cs.length))] 5) t := fun t k => castTop (ef_11 m ca (0 : Int32) (Nat.toInt32 cs.length)) k
  have SWx := SWh
  obtain ⟨S_CS, hcs, S_AD, S_HI, S_LO, S_SI, hcat_vf⟩ := SWx
  have cn1 := fun (t : State) (kt : SF p e below s₁ (mkF m 1 #[vr ca, vi 0, vi (Nat.toInt32 cs.length), .unset, .unset] [.int (Nat.toInt32 cs.length)]) t) => pre0 t (by
    exact XS.iloadN X0.here hx rfl (hb' d11_0) rfl kt)
  obtain ⟨_, _, ⟨T2, L2, k2, n2⟩, -, X2, ⟨Lc2, hQ2, l2, y2, z2⟩, st2⟩ := Jvm.LawKit.callS X0 hx (y := y1') hown (mvT hZ (wq hw 56 rfl)) (mvT hZ (wq hw 57 rfl)) (mvT hZ (wq hw 45 rfl)) (mvT hZ (wq hw 58 rfl)) (by decide) (backOf (W := 0) (rm12 l Z a0 hw [] cs.length h0 n0 O0 hn) hZ (wq hw 58 rfl) (wq hw 45 rfl) (by decide) (by decide)) (g := (mkF m 1 #[vr ca, vi 0, vi (Nat.toInt32 cs.length), .unset, .unset] [.int (Nat.toInt32 cs.length)])) rfl (by rw [hml]; rfl) (argsL := [(.int (Nat.toInt32 cs.length))]) (rest := []) (lenOf pd_1 rfl) rfl (Nat.le_refl _) (hb' d11_1) (fun _ _ => ⟨rfl, e0, (by decide : 0 + 1 ≤ _), (by decide : 0 + 804 ≤ _)⟩)
  dsimp only [Pt.U, Pt.locs, Pt.cells, Pt.slots] at X2 l2 y2 z2 st2 hQ2
  subst l2 y2 z2
  obtain ⟨r2x, kq2, f2, rfl, Nq2, Kq2, szq2, Aq2, hz2⟩ := hQ2
  have N2 := Fr.app N0 Nq2
  have ne_ca_r2x : ca ≠ r2x := Nat.ne_of_lt (Nat.lt_of_lt_of_le A_ca.lt szq2)
  have sz_r2x : h0.size ≤ r2x := Nat.le_trans (Keep.refl h0 []).1 szq2
  have g_r2x : n0 ≤ r2x := Nat.le_trans (O0.1 ▸ O0.2.1) sz_r2x
  have K2 := Kq2
  have A_ca_e2 := A_ca.keep K2 nin0
  have O2 := O0.keep K2 all0
  have KK2 : Keep h0 T2.heap [] := (Keep.refl h0 []).trans K2 all0
  have cn3 := fun (t : State) (kt : SF p e below T2 (mkF m 8 #[vr ca, vi 0, vi (Nat.toInt32 cs.length), vr r2x, vi 0] []) t) => cn1 t (by
    refine st2 _ ?_
    refine XS.astoreN X2.here hx rfl (hb' d11_4) rfl rfl (l' := #[vr ca, vi 0, vi (Nat.toInt32 cs.length), vr r2x, .unset]) rfl ?_
    refine XS.iconst X2.here hx rfl (hb' d11_5) ?_
    exact XS.istore X2.here hx rfl (hb' d11_6) rfl (l' := #[vr ca, vi 0, vi (Nat.toInt32 cs.length), vr r2x, vi 0]) rfl kt)
  refine own_loop (A := fun kk => ∃ (TJ : State) (hJ : Heap) (lJ : List Loc) (i : Nat) (fr : Nat → Value), Stand p l e ({ frames := 2, cells := 1, slots := 804, locals := 24 } : Room) s m #[(.ref ca), (.int (0 : Int32)), (.int (Nat.toInt32 cs.length))] below meth kode TJ lJ 1 804 ∧ TJ.heap = hJ ∧ Fr n0 lJ ∧ Old Z n0 hJ ∧ Keep h0 hJ [] ∧ (i + kk = cs.length) ∧ (AF Z hJ ca kc .char cs.length (fun j => .int (cs.getD j 0))) ∧ (AF Z hJ r2x kq2 .byte (2 * cs.length) fr) ∧ (∀ j, j < i → fr (2 * j) = .int (own_b0 (cs.getD j 0)) ∧ fr (2 * j + 1) = .int (own_b1 (cs.getD j 0))) ∧ ∀ t, SF p e below TJ (mkF m 8 #[vr ca, vi (Nat.toInt32 i), vi (Nat.toInt32 cs.length), vr r2x, vi (Nat.toInt32 i)] []) t → SF p e below s₁ (entryFrame m #[(.ref ca), (.int (0 : Int32)), (.int (Nat.toInt32 cs.length))] 5) t) ?_ ?_ (cs.length) ?_
  · intro kk4 IH4
    rintro ⟨TJ5, hJ5, lJ5, i, fr, XJ5, eJ5, NJ5, OJ5, KJ5, hik, Ac, Ar, hfr, kJ_5⟩
    have hil : i < cs.length := by omega
    have cn6 := fun (t : State) (kt : SF p e below TJ5 (mkF m 11 #[vr ca, vi (Nat.toInt32 i), vi (Nat.toInt32 cs.length), vr r2x, vi (Nat.toInt32 i)] [.int (Nat.toInt32 cs.length), .int (Nat.toInt32 i)]) t) => kJ_5 t (by
      refine XS.iload XJ5.here hx rfl (hb' d11_8) rfl ?_
      exact XS.iloadN XJ5.here hx rfl (hb' d11_10) rfl kt)
    have cn7 := fun (t : State) (kt : SF p e below TJ5 (mkF m 19 #[vr ca, vi (Nat.toInt32 i), vi (Nat.toInt32 cs.length), vr r2x, vi (Nat.toInt32 i)] [.int (Nat.toInt32 i), .ref ca, .int (Nat.toInt32 i), .ref r2x]) t) => cn6 t (by
      refine XS.icmpNo XJ5.here hx rfl (hb' d11_11) rfl (tlt ((own_lt (by omega) (by omega)).mpr hil)).2.1 ?_
      refine XS.aloadN XJ5.here hx rfl (hb' d11_14) rfl rfl ?_
      refine XS.iload XJ5.here hx rfl (hb' d11_15) rfl ?_
      refine XS.aloadN XJ5.here hx rfl (hb' d11_17) rfl rfl ?_
      exact XS.iloadN XJ5.here hx rfl (hb' d11_18) rfl kt)
    have AFx8 := Ac
    obtain ⟨cl8, Ar8, q8, S8, H8⟩ := AFx8
    have hin8 : ¬ ((Nat.toInt32 i) < 0 ∨ cl8.slots.size ≤ ((Nat.toInt32 i)).toNatClampNeg) := AF.inb S8 (own_ix (by omega)) hil
    have hat8 : cl8.slots[((Nat.toInt32 i)).toNatClampNeg]? = some (.int (cs.getD i 0)) := AF.at H8 (own_ix (by omega)) hil rfl
    have cn9 := fun (t : State) (kt : SF p e below TJ5 (mkF m 20 #[vr ca, vi (Nat.toInt32 i), vi (Nat.toInt32 cs.length), vr r2x, vi (Nat.toInt32 i)] [.int (cs.getD i 0), .int (Nat.toInt32 i), .ref r2x]) t) => cn7 t (by
      exact XJ5.caload hx (j := (Nat.toInt32 i)) (v := (.int (cs.getD i 0))) (by rw [eJ5]; exact Ar8.1) (State.isArrayOf_alike hZ.alike Ar8.2.1) Ar8.2.2 hin8 hat8 (g := (mkF m 19 #[vr ca, vi (Nat.toInt32 i), vi (Nat.toInt32 cs.length), vr r2x, vi (Nat.toInt32 i)] [.int (Nat.toInt32 i), .ref ca, .int (Nat.toInt32 i), .ref r2x])) rfl rfl (hb' d11_19) _ kt)
    obtain ⟨_, _, ⟨T10, L10, k10, n10⟩, -, X10, ⟨Lc10, hQ10, l10, y10, z10⟩, st10⟩ := Jvm.LawKit.callS XJ5 hx (y := y2') hown (mvT hZ (wq hw 63 rfl)) (mvT hZ (wq hw 64 rfl)) (mvT hZ (wq hw 45 rfl)) (mvT hZ (wq hw 65 rfl)) (by decide) (backOf (W := 0) (rm14 l Z a0 hw [] r2x kq2 (2 * cs.length) i fr (cs.getD i 0) co vf hJ5 n0 OJ5 g_r2x (by omega) (by omega) Ar SWh) hZ (wq hw 65 rfl) (wq hw 45 rfl) (by decide) (by decide)) (g := (mkF m 20 #[vr ca, vi (Nat.toInt32 i), vi (Nat.toInt32 cs.length), vr r2x, vi (Nat.toInt32 i)] [.int (cs.getD i 0), .int (Nat.toInt32 i), .ref r2x])) rfl (by rw [hml]; rfl) (argsL := [(.ref r2x), (.int (Nat.toInt32 i)), (.int (cs.getD i 0))]) (rest := []) (lenOf pd_2 rfl) rfl (Nat.le_refl _) (hb' d11_20) (fun _ _ => ⟨rfl, eJ5, (by decide : 1 + 0 ≤ _), (by decide : 804 + 0 ≤ _)⟩)
    dsimp only [Pt.U, Pt.locs, Pt.cells, Pt.slots] at X10 l10 y10 z10 st10 hQ10
    subst l10 y10 z10
    obtain ⟨rfl, Nq10, Kq10, Aq10⟩ := hQ10
    have N10 := Fr.app NJ5 Nq10
    have K10 := Kq10
    have Ac_e10 := Ac.keep K10 (ninS ne_ca_r2x nin0)
    have O10 := OJ5.keep K10 (allS g_r2x all0)
    have KK10 : Keep h0 T10.heap [] := KJ5.trans K10 (allS (Or.inr sz_r2x) all0)
    have cn11 := fun (t : State) (kt : SF p e below T10 (mkF m 29 #[vr ca, vi ((Nat.toInt32 i) + (1 : Int32)), vi (Nat.toInt32 cs.length), vr r2x, vi ((Nat.toInt32 i) + (1 : Int32))] []) t) => cn9 t (by
      refine st10 _ ?_
      refine XS.iinc X10.here hx rfl (hb' d11_23) rfl (l' := #[vr ca, vi ((Nat.toInt32 i) + (1 : Int32)), vi (Nat.toInt32 cs.length), vr r2x, vi (Nat.toInt32 i)]) rfl ?_
      exact XS.iinc X10.here hx rfl (hb' d11_26) rfl (l' := #[vr ca, vi ((Nat.toInt32 i) + (1 : Int32)), vi (Nat.toInt32 cs.length), vr r2x, vi ((Nat.toInt32 i) + (1 : Int32))]) rfl kt)
    have cn12 : ∀ t, SF p e below T10 (mkF m 29 #[vr ca, vi (Nat.toInt32 (i + 1)), vi (Nat.toInt32 cs.length), vr r2x, vi (Nat.toInt32 (i + 1))] []) t → SF p e below s₁ (entryFrame m #[(.ref ca), (.int (0 : Int32)), (.int (Nat.toInt32 cs.length))] 5) t := by have q := cn11; rw [(id (own_inc (by omega)) : ((Nat.toInt32 i) + (1 : Int32)) = (Nat.toInt32 (i + 1)))] at q; exact q
    have cn13 := fun (t : State) (kt : SF p e below T10 (mkF m 8 #[vr ca, vi (Nat.toInt32 (i + 1)), vi (Nat.toInt32 cs.length), vr r2x, vi (Nat.toInt32 (i + 1))] []) t) => cn12 t (by
      exact XS.goto X10.here hx rfl (pc0 := 29) (pc' := 8) rfl (hb' d11_29) (by decide) (by decide) kt)
    exact IH4 ⟨T10, T10.heap, _, i + 1, (own_upd (own_upd fr (2 * i) (.int (own_b0 (cs.getD i 0)))) (2 * i + 1) (.int (own_b1 (cs.getD i 0)))), own_up X10 (by decide) (by decide), rfl, N10, O10, KK10, (by omega), Ac_e10, Aq10, own_Ustep hfr, cn13⟩
  · rintro ⟨TJ14, hJ14, lJ14, i, fr, XJ14, eJ14, NJ14, OJ14, KJ14, hik, Ac, Ar, hfr, kJ_14⟩
    obtain rfl : i = cs.length := by omega
    have cn15 := fun (t : State) (kt : SF p e below TJ14 (mkF m 11 #[vr ca, vi (Nat.toInt32 cs.length), vi (Nat.toInt32 cs.length), vr r2x, vi (Nat.toInt32 cs.length)] [.int (Nat.toInt32 cs.length), .int (Nat.toInt32 cs.length)]) t) => kJ_14 t (by
      refine XS.iload XJ14.here hx rfl (hb' d11_8) rfl ?_
      exact XS.iloadN XJ14.here hx rfl (hb' d11_10) rfl kt)
    have cn16 := fun (t : State) (kt : SF p e below TJ14 (mkF m 33 #[vr ca, vi (Nat.toInt32 cs.length), vi (Nat.toInt32 cs.length), vr r2x, vi (Nat.toInt32 cs.length)] [.ref r2x]) t) => cn15 t (by
      refine XS.icmpYes XJ14.here hx rfl (pc0 := 11) (pc' := 32) rfl (hb' d11_11) rfl (flt (fun q => Nat.lt_irrefl _ ((own_lt (by omega) (by omega)).mp q))).2.1 (by decide) (by decide) ?_
      exact XS.aloadN XJ14.here hx rfl (hb' d11_32) rfl rfl kt)
    obtain ⟨frs, hr, hrun, hended, hW, hsame⟩ := XJ14.leave (v := some (.ref r2x)) (fun h => by rw [Bd.returns] at h; cases h)
    refine ⟨_, _, cn16 _ ?_, hrun, hended, _, _, rfl, ?_, ⟨_, rfl⟩, hW, hsame.mono (by decide) (by decide)⟩
    · jvm_step XJ14.here [XJ14.here.top, hx, (hb' d11_33), XJ14.method', Bd.returns, Value.isRef, FieldType.isReference]
      first | (intro acts; rw [hr _ acts rfl rfl rfl]) | rw [hr _ _ rfl rfl rfl]
      exact Steps.refl _
    · show QNA Z (2 * cs.length) (own_U cs) h0 n0 _ TJ14.heap _
      rw [eJ14]
      exact ⟨r2x, _, _, rfl, NJ14, KJ14, sz_r2x, Ar, hfr⟩
  · exact ⟨T2, T2.heap, _, 0, f2, own_up X2 (by decide) (by decide), rfl, N2, O2, KK2, (Nat.zero_add _), A_ca_e2, Aq2, (fun j hj => absurd hj (Nat.not_lt_zero j)), cn3⟩

theorem d9_0 : DC c5' 0 (.iconst 0) 1 := by decide +kernel
theorem d9_1 : DC c5' 1 (.istore 5) 2 := by decide +kernel
theorem d9_3 : DC c5' 3 (.iload 5) 2 := by decide +kernel
theorem d9_5 : DC c5' 5 (.iload 4) 2 := by decide +kernel
theorem d9_7 : DC c5' 7 (.if_icmp .ge 37) 3 := by decide +kernel
theorem d9_10 : DC c5' 10 (.aload_n 0) 1 := by decide +kernel
theorem d9_11 : DC c5' 11 (.iload_n 1) 1 := by decide +kernel
theorem d9_12 : DC c5' 12 (.caload) 1 := by decide +kernel
theorem d9_13 : DC c5' 13 (.istore 6) 2 := by decide +kernel
theorem d9_15 : DC c5' 15 (.iload 6) 2 := by decide +kernel
theorem d9_17 : DC c5' 17 (.sipush 255) 3 := by decide +kernel
theorem d9_20 : DC c5' 20 (.if_icmp .le 6) 3 := by decide +kernel
theorem d9_23 : DC c5' 23 (.iload 5) 2 := by decide +kernel
theorem d9_25 : DC c5' 25 (.ireturn) 1 := by decide +kernel
theorem d9_26 : DC c5' 26 (.aload_n 2) 1 := by decide +kernel
theorem d9_27 : DC c5' 27 (.iload_n 3) 1 := by decide +kernel
theorem d9_28 : DC c5' 28 (.iload 6) 2 := by decide +kernel
theorem d9_30 : DC c5' 30 (.i2b) 1 := by decide +kernel
theorem d9_31 : DC c5' 31 (.bastore) 1 := by decide +kernel
theorem d9_32 : DC c5' 32 (.iinc 1 1) 3 := by decide +kernel
theorem d9_35 : DC c5' 35 (.iinc 3 1) 3 := by decide +kernel
theorem d9_38 : DC c5' 38 (.iinc 5 1) 3 := by decide +kernel
theorem d9_41 : DC c5' 41 (.goto (-38)) 3 := by decide +kernel
theorem d9_44 : DC c5' 44 (.iload 4) 2 := by decide +kernel
theorem d9_46 : DC c5' 46 (.ireturn) 1 := by decide +kernel
theorem ef_9 (m : MethodId) (x0 : Addr) (x1 : Int32) (x2 : Addr) (x3 : Int32) (x4 : Int32) : entryFrame m #[(.ref x0), (.int x1), (.ref x2), (.int x3), (.int x4)] 7 = mkF m 0 #[.val (.ref x0), .val (.int x1), .val (.ref x2), .val (.int x3), .val (.int x4), .unset, .unset] [] := by first | (simp [entryFrame, mkF, argsToLocals, Value.category]; done) | rfl
theorem rm9 (l : Launch) (Z : State) (a0 : Array Value) (hw : HW a0 Z) (ws : List Jvm.Cond) (ca da : Addr) (kc kd : ClassId) (cs : List Int32) (fd0 : Nat → Value) (h0 : Heap) (n0 : Nat) (O0 : Old Z n0 h0) (g_da : n0 ≤ da) (necd : ca ≠ da) (hn : cs.length ≤ 402) (A_ca : AF Z h0 ca kc .char cs.length (fun j => .int (cs.getD j 0))) (A_da : AF Z h0 da kd .byte cs.length fd0) :
    MT l y5' c5' 7 (some .int) ws ({ frames := 0, cells := 0, slots := 0, locals := 0 } : Room) #[(.ref ca), (.int (0 : Int32)), (.ref da), (.int (0 : Int32)), (.int (Nat.toInt32 cs.length))] Z h0 (QC5 Z cs da kd h0 n0) := by
  refine MetFree.of_bodySF (plainFor_of_name pn_java_lang_StringUTF16) hisR ?_
  intro p e s m args below meth kode s₁ Bd hml0 hP hK
  obtain ⟨rfl, hZ, hh⟩ := hP
  have hx := Bd.exec
  have hby := Bd.bytes
  have hb' := @hb _ _ hby
  have hml : kode.maxLocals = 7 := hml0
  have hown : s.vm.findClass "java/lang/StringUTF16" = some m.cls := findClass_of_methodNamed Bd.named
  have X0 : Stand p l e ({ frames := 0, cells := 0, slots := 0, locals := 0 } : Room) s m #[(.ref ca), (.int (0 : Int32)), (.ref da), (.int (0 : Int32)), (.int (Nat.toInt32 cs.length))] below meth kode s₁ [] 0 0 := Stand.of_body Bd
  have e0 : s₁.heap = h0 := by rw [← hh, Bd.state]; rfl
  have N0 := Fr.nil n0
  have pre0 : ∀ t, SF p e below s₁ (mkF m 0 #[vr ca, vi 0, vr da, vi 0, vi (Nat.toInt32 cs.length), .unset, .unset] []) t → SF p e below s₁ (entryFrame m #[(.ref ca), (.int (0 : Int32)), (.ref da), (.int (0 : Int32)), (.int (Nat.toInt32 cs.length))] 7) t := fun t k => castTop (ef_9 m ca (0 : Int32) da (0 : Int32) (Nat.toInt32 cs.length)) k
  have cn1 := fun (t : State) (kt : SF p e below s₁ (mkF m 3 #[vr ca, vi 0, vr da, vi 0, vi (Nat.toInt32 cs.length), vi 0, .unset] []) t) => pre0 t (by
    refine XS.iconst X0.here hx rfl (hb' d9_0) ?_
    exact XS.istore X0.here hx rfl (hb' d9_1) rfl (l' := #[vr ca, vi 0, vr da, vi 0, vi (Nat.toInt32 cs.length), vi 0, .unset]) rfl kt)
  refine own_loop (A := fun kk => ∃ (TJ : State) (hJ : Heap) (lJ : List Loc) (i : Nat) (fd : Nat → Value) (s6 : Slot), Stand p l e ({ frames := 0, cells := 0, slots := 0, locals := 0 } : Room) s m #[(.ref ca), (.int (0 : Int32)), (.ref da), (.int (0 : Int32)), (.int (Nat.toInt32 cs.length))] below meth kode TJ lJ 0 0 ∧ TJ.heap = hJ ∧ Fr n0 lJ ∧ Old Z n0 hJ ∧ Keep h0 hJ [da] ∧ (i + kk = cs.length) ∧ (One s6) ∧ (AF Z hJ ca kc .char cs.length (fun j => .int (cs.getD j 0))) ∧ (AF Z hJ da kd .byte cs.length fd) ∧ (∀ j, j < i → fd j = .int (cs.getD j 0).toInt8.toInt32 ∧ (cs.getD j 0).toInt ≤ 255) ∧ ∀ t, SF p e below TJ (mkF m 3 #[vr ca, vi (Nat.toInt32 i), vr da, vi (Nat.toInt32 i), vi (Nat.toInt32 cs.length), vi (Nat.toInt32 i), s6] []) t → SF p e below s₁ (entryFrame m #[(.ref ca), (.int (0 : Int32)), (.ref da), (.int (0 : Int32)), (.int (Nat.toInt32 cs.length))] 7) t) ?_ ?_ (cs.length) ?_
  · intro kk2 IH2
    rintro ⟨TJ3, hJ3, lJ3, i, fd, s6, XJ3, eJ3, NJ3, OJ3, KJ3, hik, ho6, Ac, Ad, hfd, kJ_3⟩
    have hil : i < cs.length := by omega
    have cn4 := fun (t : State) (kt : SF p e below TJ3 (mkF m 7 #[vr ca, vi (Nat.toInt32 i), vr da, vi (Nat.toInt32 i), vi (Nat.toInt32 cs.length), vi (Nat.toInt32 i), s6] [.int (Nat.toInt32 cs.length), .int (Nat.toInt32 i)]) t) => kJ_3 t (by
      refine XS.iload XJ3.here hx rfl (hb' d9_3) rfl ?_
      exact XS.iload XJ3.here hx rfl (hb' d9_5) rfl kt)
    have cn5 := fun (t : State) (kt : SF p e below TJ3 (mkF m 12 #[vr ca, vi (Nat.toInt32 i), vr da, vi (Nat.toInt32 i), vi (Nat.toInt32 cs.length), vi (Nat.toInt32 i), s6] [.int (Nat.toInt32 i), .ref ca]) t) => cn4 t (by
      refine XS.icmpNo XJ3.here hx rfl (hb' d9_7) rfl (tlt ((own_lt (by omega) (by omega)).mpr hil)).2.1 ?_
      refine XS.aloadN XJ3.here hx rfl (hb' d9_10) rfl rfl ?_
      exact XS.iloadN XJ3.here hx rfl (hb' d9_11) rfl kt)
    have AFx6 := Ac
    obtain ⟨cl6, Ar6, q6, S6, H6⟩ := AFx6
    have hin6 : ¬ ((Nat.toInt32 i) < 0 ∨ cl6.slots.size ≤ ((Nat.toInt32 i)).toNatClampNeg) := AF.inb S6 (own_ix (by omega)) hil
    have hat6 : cl6.slots[((Nat.toInt32 i)).toNatClampNeg]? = some (.int (cs.getD i 0)) := AF.at H6 (own_ix (by omega)) hil rfl
    have cn7 := fun (t : State) (kt : SF p e below TJ3 (mkF m 20 #[vr ca, vi (Nat.toInt32 i), vr da, vi (Nat.toInt32 i), vi (Nat.toInt32 cs.length), vi (Nat.toInt32 i), vi (cs.getD i 0)] [.int 255, .int (cs.getD i 0)]) t) => cn5 t (by
      refine XJ3.caload hx (j := (Nat.toInt32 i)) (v := (.int (cs.getD i 0))) (by rw [eJ3]; exact Ar6.1) (State.isArrayOf_alike hZ.alike Ar6.2.1) Ar6.2.2 hin6 hat6 (g := (mkF m 12 #[vr ca, vi (Nat.toInt32 i), vr da, vi (Nat.toInt32 i), vi (Nat.toInt32 cs.length), vi (Nat.toInt32 i), s6] [.int (Nat.toInt32 i), .ref ca])) rfl rfl (hb' d9_12) _ ?_
      refine XS.istoreS XJ3.here hx rfl (hb' d9_13) rfl rfl ho6 ?_
      refine XS.iload XJ3.here hx rfl (hb' d9_15) rfl ?_
      exact XS.sipush XJ3.here hx rfl (hb' d9_17) kt)
    by_cases hc20_8 : (255 : Int32) < (cs.getD i 0)
    · have cn9 := fun (t : State) (kt : SF p e below TJ3 (mkF m 25 #[vr ca, vi (Nat.toInt32 i), vr da, vi (Nat.toInt32 i), vi (Nat.toInt32 cs.length), vi (Nat.toInt32 i), vi (cs.getD i 0)] [.int (Nat.toInt32 i)]) t) => cn7 t (by
        refine XS.icmpNo XJ3.here hx rfl (hb' d9_20) rfl (tlt hc20_8).2.2.2 ?_
        exact XS.iload XJ3.here hx rfl (hb' d9_23) rfl kt)
      obtain ⟨frs, hr, hrun, hended, hW, hsame⟩ := XJ3.leave (v := some (.int (Nat.toInt32 i))) (fun h => by rw [Bd.returns] at h; cases h)
      refine ⟨_, _, cn9 _ ?_, hrun, hended, _, _, rfl, ?_, ⟨_, rfl⟩, hW, hsame.mono (by decide) (by decide)⟩
      · exact retI XJ3 hx Bd.returns (hb' d9_25) hr
      · show QC5 Z cs da kd h0 n0 _ TJ3.heap _
        rw [eJ3]
        exact Or.inr ⟨i, rfl, NJ3, KJ3, hil, hc20_8⟩
    · have cn10 := fun (t : State) (kt : SF p e below TJ3 (mkF m 31 #[vr ca, vi (Nat.toInt32 i), vr da, vi (Nat.toInt32 i), vi (Nat.toInt32 cs.length), vi (Nat.toInt32 i), vi (cs.getD i 0)] [.int ((cs.getD i 0).toInt8.toInt32), .int (Nat.toInt32 i), .ref da]) t) => cn7 t (by
        refine XS.icmpYes XJ3.here hx rfl (pc0 := 20) (pc' := 26) rfl (hb' d9_20) rfl (flt hc20_8).2.2.2 (by decide) (by decide) ?_
        refine XS.aloadN XJ3.here hx rfl (hb' d9_26) rfl rfl ?_
        refine XS.iloadN XJ3.here hx rfl (hb' d9_27) rfl ?_
        refine XS.iload XJ3.here hx rfl (hb' d9_28) rfl ?_
        exact XS.i2b XJ3.here hx rfl (hb' d9_30) rfl kt)
      have AFx11 := Ad
      obtain ⟨cl11, Ar11, q11, S11, H11⟩ := AFx11
      have hin11 : ¬ ((Nat.toInt32 i) < 0 ∨ cl11.slots.size ≤ ((Nat.toInt32 i)).toNatClampNeg) := AF.inb S11 (own_ix (by omega)) hil
      obtain ⟨T12, h12, X12, e12, W12, st12⟩ := stB XJ3 hx hZ eJ3 Ar11 (j := (Nat.toInt32 i)) hin11 (g := (mkF m 31 #[vr ca, vi (Nat.toInt32 i), vr da, vi (Nat.toInt32 i), vi (Nat.toInt32 cs.length), vi (Nat.toInt32 i), vi (cs.getD i 0)] [.int ((cs.getD i 0).toInt8.toInt32), .int (Nat.toInt32 i), .ref da])) rfl rfl (hb' d9_31)
      rw [own_nb] at W12
      have Ac_e12 := Ac.other W12 necd
      have AF12 : AF Z h12 da kd .byte cs.length (own_upd fd i (.int ((cs.getD i 0).toInt8.toInt32))) := AF.set Ar11 q11 S11 H11 W12 (own_ix (by omega)) hil
      have N12 := Fr.snoc X12 NJ3 g_da
      have O12 := OJ3.wr W12 g_da
      have K12 : Keep h0 h12 [da] := KJ3.wr W12 (Or.inl (List.mem_of_getElem? (i := 0) rfl))
      have cn13 := fun (t : State) (kt : SF p e below T12 (mkF m 41 #[vr ca, vi ((Nat.toInt32 i) + (1 : Int32)), vr da, vi ((Nat.toInt32 i) + (1 : Int32)), vi (Nat.toInt32 cs.length), vi ((Nat.toInt32 i) + (1 : Int32)), vi (cs.getD i 0)] []) t) => cn10 t (by
        refine st12 _ ?_
        refine XS.iinc X12.here hx rfl (hb' d9_32) rfl (l' := #[vr ca, vi ((Nat.toInt32 i) + (1 : Int32)), vr da, vi (Nat.toInt32 i), vi (Nat.toInt32 cs.length), vi (Nat.toInt32 i), vi (cs.getD i 0)]) rfl ?_
        refine XS.iinc X12.here hx rfl (hb' d9_35) rfl (l' := #[vr ca, vi ((Nat.toInt32 i) + (1 : Int32)), vr da, vi ((Nat.toInt32 i) + (1 : Int32)), vi (Nat.toInt32 cs.length), vi (Nat.toInt32 i), vi (cs.getD i 0)]) rfl ?_
        exact XS.iinc X12.here hx rfl (hb' d9_38) rfl (l' := #[vr ca, vi ((Nat.toInt32 i) + (1 : Int32)), vr da, vi ((Nat.toInt32 i) + (1 : Int32)), vi (Nat.toInt32 cs.length), vi ((Nat.toInt32 i) + (1 : Int32)), vi (cs.getD i 0)]) rfl kt)
      have cn14 : ∀ t, SF p e below T12 (mkF m 41 #[vr ca, vi (Nat.toInt32 (i + 1)), vr da, vi (Nat.toInt32 (i + 1)), vi (Nat.toInt32 cs.length), vi (Nat.toInt32 (i + 1)), vi (cs.getD i 0)] []) t → SF p e below s₁ (entryFrame m #[(.ref ca), (.int (0 : Int32)), (.ref da), (.int (0 : Int32)), (.int (Nat.toInt32 cs.length))] 7) t := by have q := cn13; rw [(id (own_inc (by omega)) : ((Nat.toInt32 i) + (1 : Int32)) = (Nat.toInt32 (i + 1)))] at q; exact q
      have cn15 := fun (t : State) (kt : SF p e below T12 (mkF m 3 #[vr ca, vi (Nat.toInt32 (i + 1)), vr da, vi (Nat.toInt32 (i + 1)), vi (Nat.toInt32 cs.length), vi (Nat.toInt32 (i + 1)), vi (cs.getD i 0)] []) t) => cn14 t (by
        exact XS.goto X12.here hx rfl (pc0 := 41) (pc' := 3) rfl (hb' d9_41) (by decide) (by decide) kt)
      exact IH2 ⟨T12, h12, _, i + 1, (own_upd fd i (.int ((cs.getD i 0).toInt8.toInt32))), _, own_up X12 (by decide) (by decide), e12, N12, O12, K12, (by omega), (One.val rfl), Ac_e12, AF12, own_Lstep hfd hc20_8, cn15⟩
  · rintro ⟨TJ16, hJ16, lJ16, i, fd, s6, XJ16, eJ16, NJ16, OJ16, KJ16, hik, ho6, Ac, Ad, hfd, kJ_16⟩
    obtain rfl : i = cs.length := by omega
    have cn17 := fun (t : State) (kt : SF p e below TJ16 (mkF m 7 #[vr ca, vi (Nat.toInt32 cs.length), vr da, vi (Nat.toInt32 cs.length), vi (Nat.toInt32 cs.length), vi (Nat.toInt32 cs.length), s6] [.int (Nat.toInt32 cs.length), .int (Nat.toInt32 cs.length)]) t) => kJ_16 t (by
      refine XS.iload XJ16.here hx rfl (hb' d9_3) rfl ?_
      exact XS.iload XJ16.here hx rfl (hb' d9_5) rfl kt)
    have cn18 := fun (t : State) (kt : SF p e below TJ16 (mkF m 46 #[vr ca, vi (Nat.toInt32 cs.length), vr da, vi (Nat.toInt32 cs.length), vi (Nat.toInt32 cs.length), vi (Nat.toInt32 cs.length), s6] [.int (Nat.toInt32 cs.length)]) t) => cn17 t (by
      refine XS.icmpYes XJ16.here hx rfl (pc0 := 7) (pc' := 44) rfl (hb' d9_7) rfl (flt (fun q => Nat.lt_irrefl _ ((own_lt (by omega) (by omega)).mp q))).2.1 (by decide) (by decide) ?_
      exact XS.iload XJ16.here hx rfl (hb' d9_44) rfl kt)
    obtain ⟨frs, hr, hrun, hended, hW, hsame⟩ := XJ16.leave (v := some (.int (Nat.toInt32 cs.length))) (fun h => by rw [Bd.returns] at h; cases h)
    refine ⟨_, _, cn18 _ ?_, hrun, hended, _, _, rfl, ?_, ⟨_, rfl⟩, hW, hsame.mono (by decide) (by decide)⟩
    · exact retI XJ16 hx Bd.returns (hb' d9_46) hr
    · show QC5 Z cs da kd h0 n0 _ TJ16.heap _
      rw [eJ16]
      exact Or.inl ⟨fd, rfl, NJ16, KJ16, Ad, hfd⟩
  · exact ⟨s₁, h0, _, 0, fd0, _, own_up X0 (by decide) (by decide), e0, N0, O0, (Keep.refl h0 [da]), (Nat.zero_add _), One.u, A_ca, A_da, (fun j hj => absurd hj (Nat.not_lt_zero j)), cn1⟩

theorem d8_0 : DC c6' 0 (.iload_n 2) 1 := by decide +kernel
theorem d8_1 : DC c6' 1 (.newarray .byte) 2 := by decide +kernel
theorem d8_3 : DC c6' 3 (.astore_n 3) 1 := by decide +kernel
theorem d8_4 : DC c6' 4 (.aload_n 0) 1 := by decide +kernel
theorem d8_5 : DC c6' 5 (.iload_n 1) 1 := by decide +kernel
theorem d8_6 : DC c6' 6 (.aload_n 3) 1 := by decide +kernel
theorem d8_7 : DC c6' 7 (.iconst 0) 1 := by decide +kernel
theorem d8_8 : DC c6' 8 (.iload_n 2) 1 := by decide +kernel
theorem d8_9 : DC c6' 9 (.invokestatic 115) 3 := by decide +kernel
theorem d8_12 : DC c6' 12 (.istore 4) 2 := by decide +kernel
theorem d8_14 : DC c6' 14 (.iload 4) 2 := by decide +kernel
theorem d8_16 : DC c6' 16 (.iload_n 2) 1 := by decide +kernel
theorem d8_17 : DC c6' 17 (.if_icmp .eq 40) 3 := by decide +kernel
theorem d8_20 : DC c6' 20 (.aload_n 0) 1 := by decide +kernel
theorem d8_21 : DC c6' 21 (.iload_n 1) 1 := by decide +kernel
theorem d8_22 : DC c6' 22 (.iload_n 2) 1 := by decide +kernel
theorem d8_23 : DC c6' 23 (.invokestatic 119) 3 := by decide +kernel
theorem d8_26 : DC c6' 26 (.astore 5) 2 := by decide +kernel
theorem d8_28 : DC c6' 28 (.aload 5) 2 := by decide +kernel
theorem d8_30 : DC c6' 30 (.iload 4) 2 := by decide +kernel
theorem d8_32 : DC c6' 32 (.invokestatic 71) 3 := by decide +kernel
theorem d8_35 : DC c6' 35 (.sipush 255) 3 := by decide +kernel
theorem d8_38 : DC c6' 38 (.if_icmp .gt 16) 3 := by decide +kernel
theorem d8_54 : DC c6' 54 (.aload 5) 2 := by decide +kernel
theorem d8_56 : DC c6' 56 (.areturn) 1 := by decide +kernel
theorem d8_57 : DC c6' 57 (.aload_n 3) 1 := by decide +kernel
theorem d8_58 : DC c6' 58 (.areturn) 1 := by decide +kernel
theorem pd_5 : parseMethodDescriptor "([BI)C" = some ⟨[(.array .byte), .int], some .char⟩ := by decide +kernel
theorem pd_4 : parseMethodDescriptor "([CII)[B" = some ⟨[(.array .char), .int, .int], some (.array .byte)⟩ := by decide +kernel
theorem pd_3 : parseMethodDescriptor "([CI[BII)I" = some ⟨[(.array .char), .int, (.array .byte), .int, .int], some .int⟩ := by decide +kernel
theorem ef_8 (m : MethodId) (x0 : Addr) (x1 : Int32) (x2 : Int32) : entryFrame m #[(.ref x0), (.int x1), (.int x2)] 6 = mkF m 0 #[.val (.ref x0), .val (.int x1), .val (.int x2), .unset, .unset, .unset] [] := by first | (simp [entryFrame, mkF, argsToLocals, Value.category]; done) | rfl
theorem rm8 (l : Launch) (Z : State) (a0 : Array Value) (hw : HW a0 Z) (ws : List Jvm.Cond) (ca : Addr) (kc : ClassId) (cs : List Int32) (co : Int32) (vf : Value) (h0 : Heap) (n0 : Nat) (O0 : Old Z n0 h0) (hn : cs.length ≤ 402) (hu : own_u cs) (A_ca : AF Z h0 ca kc .char cs.length (fun j => .int (cs.getD j 0))) (SWh : SW Z co vf) :
    MT l y6' c6' 6 (some (.array .byte)) ws ({ frames := 3, cells := 2, slots := 1206, locals := 40 } : Room) #[(.ref ca), (.int (0 : Int32)), (.int (Nat.toInt32 cs.length))] Z h0 (QC3 Z cs h0 n0) := by
  refine MetFree.of_bodySF (plainFor_of_name pn_java_lang_StringUTF16) hisR ?_
  intro p e s m args below meth kode s₁ Bd hml0 hP hK
  obtain ⟨rfl, hZ, hh⟩ := hP
  have hx := Bd.exec
  have hby := Bd.bytes
  have hb' := @hb _ _ hby
  have hml : kode.maxLocals = 6 := hml0
  have hown : s.vm.findClass "java/lang/StringUTF16" = some m.cls := findClass_of_methodNamed Bd.named
  have X0 : Stand p l e ({ frames := 3, cells := 2, slots := 1206, locals := 40 } : Room) s m #[(.ref ca), (.int (0 : Int32)), (.int (Nat.toInt32 cs.length))] below meth kode s₁ [] 0 0 := Stand.of_body Bd
  have e0 : s₁.heap = h0 := by rw [← hh, Bd.state]; rfl
  have N0 := Fr.nil n0
  have pre0 : ∀ t, SF p e below s₁ (mkF m 0 #[vr ca, vi 0, vi (Nat.toInt32 cs.length), .unset, .unset, .unset] []) t → SF p e below s₁ (entryFrame m #[(.ref ca), (.int (0 : Int32)), (.int (Nat.toInt32 cs.length))] 6) t := fun t k => castTop (ef_8 m ca (0 : Int32) (Nat.toInt32 cs.length)) k
  have SWx := SWh
  obtain ⟨S_CS, hcs, S_AD, S_HI, S_LO, S_SI, hcat_vf⟩ := SWx
  have hx2 := own_ix (i := cs.length) (by omega)
  have cn1 := fun (t : State) (kt : SF p e below s₁ (mkF m 1 #[vr ca, vi 0, vi (Nat.toInt32 cs.length), .unset, .unset, .unset] [.int (Nat.toInt32 cs.length)]) t) => pre0 t (by
    exact XS.iloadN X0.here hx rfl (hb' d8_0) rfl kt)
  obtain ⟨T2, h2, k2, X2, e2, E2, A2, st2⟩ := newP X0 hx hZ (wq hw 15 rfl) e0 (g := (mkF m 1 #[vr ca, vi 0, vi (Nat.toInt32 cs.length), .unset, .unset, .unset] [.int (Nat.toInt32 cs.length)])) rfl (hb' d8_1) rfl hx2.1 (cap := 402) (by rw [hx2.2]; exact hn) (by decide) (by decide) (by decide)
  obtain ⟨b2, g2⟩ : ∃ z, z = h0.size := ⟨_, rfl⟩
  rw [← g2] at A2 st2
  have ne_ca_b2 : ca ≠ b2 := Nat.ne_of_lt (Nat.lt_of_lt_of_le A_ca.lt (Nat.le_of_eq g2.symm))
  have sz_b2 : h0.size ≤ b2 := Nat.le_trans (Keep.refl h0 []).1 (Nat.le_of_eq g2.symm)
  have g_b2 : n0 ≤ b2 := Nat.le_trans (O0.1 ▸ O0.2.1) sz_b2
  have A_ca_e2 := A_ca.ext E2
  have O2 := O0.ext E2
  have K2 : Keep h0 h2 [] := (Keep.refl h0 []).ext E2
  have AF2 : AF Z h2 b2 k2 .byte cs.length (fun _ => defaultValue .byte) := AF.new A2 hx2.2
  have cn3 := fun (t : State) (kt : SF p e below T2 (mkF m 9 #[vr ca, vi 0, vi (Nat.toInt32 cs.length), vr b2, .unset, .unset] [.int (Nat.toInt32 cs.length), .int 0, .ref b2, .int 0, .ref ca]) t) => cn1 t (by
    refine st2 _ ?_
    refine XS.astoreN X2.here hx rfl (hb' d8_3) rfl rfl (l' := #[vr ca, vi 0, vi (Nat.toInt32 cs.length), vr b2, .unset, .unset]) rfl ?_
    refine XS.aloadN X2.here hx rfl (hb' d8_4) rfl rfl ?_
    refine XS.iloadN X2.here hx rfl (hb' d8_5) rfl ?_
    refine XS.aloadN X2.here hx rfl (hb' d8_6) rfl rfl ?_
    refine XS.iconst X2.here hx rfl (hb' d8_7) ?_
    exact XS.iloadN X2.here hx rfl (hb' d8_8) rfl kt)
  obtain ⟨_, _, ⟨T4, L4, k4, n4⟩, -, X4, ⟨Lc4, hQ4, l4, y4, z4⟩, st4⟩ := Jvm.LawKit.callS X2 hx (y := y5') hown (mvT hZ (wq hw 47 rfl)) (mvT hZ (wq hw 48 rfl)) (mvT hZ (wq hw 45 rfl)) (mvT hZ (wq hw 49 rfl)) (by decide) (backOf (W := 0) (rm9 l Z a0 hw [] ca b2 kc k2 cs (fun _ => defaultValue .byte) h2 n0 O2 g_b2 ne_ca_b2 hn A_ca_e2 AF2) hZ (wq hw 49 rfl) (wq hw 45 rfl) (by decide) (by decide)) (g := (mkF m 9 #[vr ca, vi 0, vi (Nat.toInt32 cs.length), vr b2, .unset, .unset] [.int (Nat.toInt32 cs.length), .int 0, .ref b2, .int 0, .ref ca])) rfl (by rw [hml]; rfl) (argsL := [(.ref ca), (.int (0 : Int32)), (.ref b2), (.int (0 : Int32)), (.int (Nat.toInt32 cs.length))]) (rest := []) (lenOf pd_3 rfl) rfl (Nat.le_refl _) (hb' d8_9) (fun _ _ => ⟨rfl, e2, (by decide : 1 + 0 ≤ _), (by decide : 402 + 0 ≤ _)⟩)
  dsimp only [Pt.U, Pt.locs, Pt.cells, Pt.slots] at X4 l4 y4 z4 st4 hQ4
  subst l4 y4 z4
  rcases hQ4 with ⟨f4, rfl, Nq4, Kq4, Aq4, hL4⟩ | ⟨i, rfl, Nq4, Kq4, hil, hgt⟩
  · have N4 := Fr.app N0 Nq4
    have K4 := Kq4
    have A_ca_e4 := A_ca_e2.keep K4 (ninS ne_ca_b2 nin0)
    have O4 := O2.keep K4 (allS g_b2 all0)
    have KK4 : Keep h0 T4.heap [] := K2.trans K4 (allS (Or.inr sz_b2) all0)
    have cn5 := fun (t : State) (kt : SF p e below T4 (mkF m 17 #[vr ca, vi 0, vi (Nat.toInt32 cs.length), vr b2, vi (Nat.toInt32 cs.length), .unset] [.int (Nat.toInt32 cs.length), .int (Nat.toInt32 cs.length)]) t) => cn3 t (by
      refine st4 _ ?_
      refine XS.istore X4.here hx rfl (hb' d8_12) rfl (l' := #[vr ca, vi 0, vi (Nat.toInt32 cs.length), vr b2, vi (Nat.toInt32 cs.length), .unset]) rfl ?_
      refine XS.iload X4.here hx rfl (hb' d8_14) rfl ?_
      exact XS.iloadN X4.here hx rfl (hb' d8_16) rfl kt)
    have cn6 := fun (t : State) (kt : SF p e below T4 (mkF m 58 #[vr ca, vi 0, vi (Nat.toInt32 cs.length), vr b2, vi (Nat.toInt32 cs.length), .unset] [.ref b2]) t) => cn5 t (by
      refine XS.icmpYes X4.here hx rfl (pc0 := 17) (pc' := 57) rfl (hb' d8_17) rfl (teq (rfl : (Nat.toInt32 cs.length) = (Nat.toInt32 cs.length))).1 (by decide) (by decide) ?_
      exact XS.aloadN X4.here hx rfl (hb' d8_57) rfl rfl kt)
    obtain ⟨frs, hr, hrun, hended, hW, hsame⟩ := X4.leave (v := some (.ref b2)) (fun h => by rw [Bd.returns] at h; cases h)
    refine ⟨_, _, cn6 _ ?_, hrun, hended, _, _, rfl, ?_, ⟨_, rfl⟩, hW, hsame.mono (by decide) (by decide)⟩
    · jvm_step X4.here [X4.here.top, hx, (hb' d8_58), X4.method', Bd.returns, Value.isRef, FieldType.isReference]
      first | (intro acts; rw [hr _ acts rfl rfl rfl]) | rw [hr _ _ rfl rfl rfl]
      exact Steps.refl _
    · show QC3 Z cs h0 n0 _ T4.heap _
      exact Or.inl ⟨b2, k2, _, rfl, N4, KK4, sz_b2, Aq4, hL4⟩
  · have N4 := Fr.app N0 Nq4
    have K4 := Kq4
    have A_ca_e4 := A_ca_e2.keep K4 (ninS ne_ca_b2 nin0)
    have O4 := O2.keep K4 (allS g_b2 all0)
    have KK4 : Keep h0 T4.heap [] := K2.trans K4 (allS (Or.inr sz_b2) all0)
    have hne := Nat.ne_of_lt hil
    have cn7 := fun (t : State) (kt : SF p e below T4 (mkF m 17 #[vr ca, vi 0, vi (Nat.toInt32 cs.length), vr b2, vi (Nat.toInt32 i), .unset] [.int (Nat.toInt32 cs.length), .int (Nat.toInt32 i)]) t) => cn3 t (by
      refine st4 _ ?_
      refine XS.istore X4.here hx rfl (hb' d8_12) rfl (l' := #[vr ca, vi 0, vi (Nat.toInt32 cs.length), vr b2, vi (Nat.toInt32 i), .unset]) rfl ?_
      refine XS.iload X4.here hx rfl (hb' d8_14) rfl ?_
      exact XS.iloadN X4.here hx rfl (hb' d8_16) rfl kt)
    have cn8 := fun (t : State) (kt : SF p e below T4 (mkF m 23 #[vr ca, vi 0, vi (Nat.toInt32 cs.length), vr b2, vi (Nat.toInt32 i), .unset] [.int (Nat.toInt32 cs.length), .int 0, .ref ca]) t) => cn7 t (by
      refine XS.icmpNo X4.here hx rfl (hb' d8_17) rfl (feq (fun q => hne ((own_eqn (by omega) (by omega)).mp q))).1 ?_
      refine XS.aloadN X4.here hx rfl (hb' d8_20) rfl rfl ?_
      refine XS.iloadN X4.here hx rfl (hb' d8_21) rfl ?_
      exact XS.iloadN X4.here hx rfl (hb' d8_22) rfl kt)
    obtain ⟨_, _, ⟨T9, L9, k9, n9⟩, -, X9, ⟨Lc9, hQ9, l9, y9, z9⟩, st9⟩ := Jvm.LawKit.callS X4 hx (y := y4') hown (mvT hZ (wq hw 53 rfl)) (mvT hZ (wq hw 54 rfl)) (mvT hZ (wq hw 45 rfl)) (mvT hZ (wq hw 55 rfl)) (by decide) (backOf (W := 0) (rm11 l Z a0 hw [] ca kc cs co vf T4.heap n0 O4 hn A_ca_e4 SWh) hZ (wq hw 55 rfl) (wq hw 45 rfl) (by decide) (by decide)) (g := (mkF m 23 #[vr ca, vi 0, vi (Nat.toInt32 cs.length), vr b2, vi (Nat.toInt32 i), .unset] [.int (Nat.toInt32 cs.length), .int 0, .ref ca])) rfl (by rw [hml]; rfl) (argsL := [(.ref ca), (.int (0 : Int32)), (.int (Nat.toInt32 cs.length))]) (rest := []) (lenOf pd_4 rfl) rfl (Nat.le_refl _) (hb' d8_23) (fun _ _ => ⟨rfl, rfl, (by decide : 1 + 1 ≤ _), (by decide : 402 + 804 ≤ _)⟩)
    dsimp only [Pt.U, Pt.locs, Pt.cells, Pt.slots] at X9 l9 y9 z9 st9 hQ9
    subst l9 y9 z9
    obtain ⟨r9x, kq9, f9, rfl, Nq9, Kq9, szq9, Aq9, hU9⟩ := hQ9
    have N9 := Fr.app N4 Nq9
    have ne_ca_r9x : ca ≠ r9x := Nat.ne_of_lt (Nat.lt_of_lt_of_le A_ca_e4.lt szq9)
    have sz_r9x : h0.size ≤ r9x := Nat.le_trans KK4.1 szq9
    have g_r9x : n0 ≤ r9x := Nat.le_trans (O0.1 ▸ O0.2.1) sz_r9x
    have K9 := Kq9
    have A_ca_e9 := A_ca_e4.keep K9 nin0
    have O9 := O4.keep K9 all0
    have KK9 : Keep h0 T9.heap [] := KK4.trans K9 all0
    have cn10 := fun (t : State) (kt : SF p e below T9 (mkF m 32 #[vr ca, vi 0, vi (Nat.toInt32 cs.length), vr b2, vi (Nat.toInt32 i), vr r9x] [.int (Nat.toInt32 i), .ref r9x]) t) => cn8 t (by
      refine st9 _ ?_
      refine XS.astore X9.here hx rfl (hb' d8_26) rfl rfl (l' := #[vr ca, vi 0, vi (Nat.toInt32 cs.length), vr b2, vi (Nat.toInt32 i), vr r9x]) rfl ?_
      refine XS.aload X9.here hx rfl (hb' d8_28) rfl rfl ?_
      exact XS.iload X9.here hx rfl (hb' d8_30) rfl kt)
    obtain ⟨_, _, ⟨T11, L11, k11, n11⟩, -, X11, ⟨Lc11, hQ11, l11, y11, z11⟩, st11⟩ := Jvm.LawKit.callS X9 hx (y := y3') hown (mvT hZ (wq hw 69 rfl)) (mvT hZ (wq hw 70 rfl)) (mvT hZ (wq hw 45 rfl)) (mvT hZ (wq hw 71 rfl)) (by decide) (backOf (W := 0) (rm15 l Z a0 hw [] r9x kq9 (2 * cs.length) i f9 (own_b0 (cs.getD i 0)) (own_b1 (cs.getD i 0)) co vf T9.heap n0 O9 (by omega) (by omega) (hU9 i hil).1 (hU9 i hil).2 Aq9 SWh) hZ (wq hw 71 rfl) (wq hw 45 rfl) (by decide) (by decide)) (g := (mkF m 32 #[vr ca, vi 0, vi (Nat.toInt32 cs.length), vr b2, vi (Nat.toInt32 i), vr r9x] [.int (Nat.toInt32 i), .ref r9x])) rfl (by rw [hml]; rfl) (argsL := [(.ref r9x), (.int (Nat.toInt32 i))]) (rest := []) (lenOf pd_5 rfl) rfl (Nat.le_refl _) (hb' d8_32) (fun _ _ => ⟨rfl, rfl, (by decide : 2 + 0 ≤ _), (by decide : 1206 + 0 ≤ _)⟩)
    dsimp only [Pt.U, Pt.locs, Pt.cells, Pt.slots] at X11 l11 y11 z11 st11 hQ11
    subst l11 y11 z11
    obtain ⟨rfl, Nq11, eh11⟩ := hQ11
    have N11 := Fr.app N9 Nq11
    have cn12 := fun (t : State) (kt : SF p e below T11 (mkF m 38 #[vr ca, vi 0, vi (Nat.toInt32 cs.length), vr b2, vi (Nat.toInt32 i), vr r9x] [.int 255, .int (own_gc (own_b0 (cs.getD i 0)) (own_b1 (cs.getD i 0)))]) t) => cn10 t (by
      refine st11 _ ?_
      exact XS.sipush X11.here hx rfl (hb' d8_35) kt)
    have cn13 := fun (t : State) (kt : SF p e below T11 (mkF m 56 #[vr ca, vi 0, vi (Nat.toInt32 cs.length), vr b2, vi (Nat.toInt32 i), vr r9x] [.ref r9x]) t) => cn12 t (by
      refine XS.icmpYes X11.here hx rfl (pc0 := 38) (pc' := 54) rfl (hb' d8_38) rfl (tlt (by rw [own_gc_b (hu i).1 (hu i).2]; exact hgt)).2.2.1 (by decide) (by decide) ?_
      exact XS.aload X11.here hx rfl (hb' d8_54) rfl rfl kt)
    obtain ⟨frs, hr, hrun, hended, hW, hsame⟩ := X11.leave (v := some (.ref r9x)) (fun h => by rw [Bd.returns] at h; cases h)
    refine ⟨_, _, cn13 _ ?_, hrun, hended, _, _, rfl, ?_, ⟨_, rfl⟩, hW, hsame.mono (by decide) (by decide)⟩
    · jvm_step X11.here [X11.here.top, hx, (hb' d8_56), X11.method', Bd.returns, Value.isRef, FieldType.isReference]
      first | (intro acts; rw [hr _ acts rfl rfl rfl]) | rw [hr _ _ rfl rfl rfl]
      exact Steps.refl _
    · show QC3 Z cs h0 n0 _ T11.heap _
      rw [eh11]
      exact Or.inr ⟨r9x, kq9, _, rfl, N11, KK9, sz_r9x, Aq9, ⟨hU9, i, hil, hgt⟩⟩

theorem d10_0 : DC c7' 0 (.iload_n 1) 1 := by decide +kernel
theorem d10_1 : DC c7' 1 (.aload_n 0) 1 := by decide +kernel
theorem d10_2 : DC c7' 2 (.arraylength) 1 := by decide +kernel
theorem d10_3 : DC c7' 3 (.isub) 1 := by decide +kernel
theorem d10_4 : DC c7' 4 (.bipush 31) 2 := by decide +kernel
theorem d10_6 : DC c7' 6 (.iushr) 1 := by decide +kernel
theorem d10_7 : DC c7' 7 (.i2b) 1 := by decide +kernel
theorem d10_8 : DC c7' 8 (.ireturn) 1 := by decide +kernel
theorem ef_10L (m : MethodId) (x0 : Addr) (x1 : Int32) : entryFrame m #[(.ref x0), (.int x1)] 2 = mkF m 0 #[.val (.ref x0), .val (.int x1)] [] := by first | (simp [entryFrame, mkF, argsToLocals, Value.category]; done) | rfl
theorem rm10L (l : Launch) (Z : State) (a0 : Array Value) (hw : HW a0 Z) (ws : List Jvm.Cond) (ba : Addr) (k : ClassId) (n : Nat) (f : Nat → Value) (h0 : Heap) (n0 : Nat) (O0 : Old Z n0 h0) (hn0 : 0 < n) (hn : n ≤ 402) (A_ba : AF Z h0 ba k .byte n f) :
    MT l y7' c7' 2 (some .byte) ws ({ frames := 0, cells := 0, slots := 0, locals := 0 } : Room) #[(.ref ba), (.int (Nat.toInt32 n))] Z h0 (QI 0 h0 n0) := by
  refine MetFree.of_bodySF (plainFor_of_name pn_java_lang_StringUTF16) hisR ?_
  intro p e s m args below meth kode s₁ Bd hml0 hP hK
  obtain ⟨rfl, hZ, hh⟩ := hP
  have hx := Bd.exec
  have hby := Bd.bytes
  have hb' := @hb _ _ hby
  have hml : kode.maxLocals = 2 := hml0
  have hown : s.vm.findClass "java/lang/StringUTF16" = some m.cls := findClass_of_methodNamed Bd.named
  have X0 : Stand p l e ({ frames := 0, cells := 0, slots := 0, locals := 0 } : Room) s m #[(.ref ba), (.int (Nat.toInt32 n))] below meth kode s₁ [] 0 0 := Stand.of_body Bd
  have e0 : s₁.heap = h0 := by rw [← hh, Bd.state]; rfl
  have N0 := Fr.nil n0
  have pre0 : ∀ t, SF p e below s₁ (mkF m 0 #[vr ba, vi (Nat.toInt32 n)] []) t → SF p e below s₁ (entryFrame m #[(.ref ba), (.int (Nat.toInt32 n))] 2) t := fun t k => castTop (ef_10L m ba (Nat.toInt32 n)) k
  have cn1 := fun (t : State) (kt : SF p e below s₁ (mkF m 2 #[vr ba, vi (Nat.toInt32 n)] [.ref ba, .int (Nat.toInt32 n)]) t) => pre0 t (by
    refine XS.iloadN X0.here hx rfl (hb' d10_0) rfl ?_
    exact XS.aloadN X0.here hx rfl (hb' d10_1) rfl rfl kt)
  have AFx2 := A_ba
  obtain ⟨cl2, Ar2, q2, S2, H2⟩ := AFx2
  have cn3 := fun (t : State) (kt : SF p e below s₁ (mkF m 8 #[vr ba, vi (Nat.toInt32 n)] [.int (((((Nat.toInt32 n) - (Nat.toInt32 n)).toUInt32 >>> ((31 : Int32) &&& 31).toUInt32).toInt32).toInt8.toInt32)]) t) => cn1 t (by
    refine X0.arraylength hx (by rw [e0]; exact Ar2.1) (State.isArrayOf_alike hZ.alike Ar2.2.1) (g := (mkF m 2 #[vr ba, vi (Nat.toInt32 n)] [.ref ba, .int (Nat.toInt32 n)])) rfl rfl (hb' d10_2) _ ?_
    rw [S2]
    refine XS.isub X0.here hx rfl (hb' d10_3) rfl ?_
    refine XS.bipush X0.here hx rfl (hb' d10_4) ?_
    refine XS.iushr X0.here hx rfl (hb' d10_6) rfl ?_
    exact XS.i2b X0.here hx rfl (hb' d10_7) rfl kt)
  obtain ⟨frs, hr, hrun, hended, hW, hsame⟩ := X0.leave (v := some (.int (nar .byte (((((Nat.toInt32 n) - (Nat.toInt32 n)).toUInt32 >>> ((31 : Int32) &&& 31).toUInt32).toInt32).toInt8.toInt32)))) (fun h => by rw [Bd.returns] at h; cases h)
  refine ⟨_, _, cn3 _ ?_, hrun, hended, _, _, rfl, ?_, ⟨_, rfl⟩, hW, hsame.mono (by decide) (by decide)⟩
  · exact retN X0 hx (t := .byte) Bd.returns (by simp) (hb' d10_8) hr
  · show QI 0 h0 n0 _ s₁.heap _
    rw [e0]
    exact ⟨by rw [own_cd0], N0, rfl⟩

theorem ef_10U (m : MethodId) (x0 : Addr) (x1 : Int32) : entryFrame m #[(.ref x0), (.int x1)] 2 = mkF m 0 #[.val (.ref x0), .val (.int x1)] [] := by first | (simp [entryFrame, mkF, argsToLocals, Value.category]; done) | rfl
theorem rm10U (l : Launch) (Z : State) (a0 : Array Value) (hw : HW a0 Z) (ws : List Jvm.Cond) (ba : Addr) (k : ClassId) (n : Nat) (f : Nat → Value) (h0 : Heap) (n0 : Nat) (O0 : Old Z n0 h0) (hn0 : 0 < n) (hn : n ≤ 402) (A_ba : AF Z h0 ba k .byte (2 * n) f) :
    MT l y7' c7' 2 (some .byte) ws ({ frames := 0, cells := 0, slots := 0, locals := 0 } : Room) #[(.ref ba), (.int (Nat.toInt32 n))] Z h0 (QI 1 h0 n0) := by
  refine MetFree.of_bodySF (plainFor_of_name pn_java_lang_StringUTF16) hisR ?_
  intro p e s m args below meth kode s₁ Bd hml0 hP hK
  obtain ⟨rfl, hZ, hh⟩ := hP
  have hx := Bd.exec
  have hby := Bd.bytes
  have hb' := @hb _ _ hby
  have hml : kode.maxLocals = 2 := hml0
  have hown : s.vm.findClass "java/lang/StringUTF16" = some m.cls := findClass_of_methodNamed Bd.named
  have X0 : Stand p l e ({ frames := 0, cells := 0, slots := 0, locals := 0 } : Room) s m #[(.ref ba), (.int (Nat.toInt32 n))] below meth kode s₁ [] 0 0 := Stand.of_body Bd
  have e0 : s₁.heap = h0 := by rw [← hh, Bd.state]; rfl
  have N0 := Fr.nil n0
  have pre0 : ∀ t, SF p e below s₁ (mkF m 0 #[vr ba, vi (Nat.toInt32 n)] []) t → SF p e below s₁ (entryFrame m #[(.ref ba), (.int (Nat.toInt32 n))] 2) t := fun t k => castTop (ef_10U m ba (Nat.toInt32 n)) k
  have cn1 := fun (t : State) (kt : SF p e below s₁ (mkF m 2 #[vr ba, vi (Nat.toInt32 n)] [.ref ba, .int (Nat.toInt32 n)]) t) => pre0 t (by
    refine XS.iloadN X0.here hx rfl (hb' d10_0) rfl ?_
    exact XS.aloadN X0.here hx rfl (hb' d10_1) rfl rfl kt)
  have AFx2 := A_ba
  obtain ⟨cl2, Ar2, q2, S2, H2⟩ := AFx2
  have cn3 := fun (t : State) (kt : SF p e below s₁ (mkF m 8 #[vr ba, vi (Nat.toInt32 n)] [.int (((((Nat.toInt32 n) - (Nat.toInt32 (2 * n))).toUInt32 >>> ((31 : Int32) &&& 31).toUInt32).toInt32).toInt8.toInt32)]) t) => cn1 t (by
    refine X0.arraylength hx (by rw [e0]; exact Ar2.1) (State.isArrayOf_alike hZ.alike Ar2.2.1) (g := (mkF m 2 #[vr ba, vi (Nat.toInt32 n)] [.ref ba, .int (Nat.toInt32 n)])) rfl rfl (hb' d10_2) _ ?_
    rw [S2]
    refine XS.isub X0.here hx rfl (hb' d10_3) rfl ?_
    refine XS.bipush X0.here hx rfl (hb' d10_4) ?_
    refine XS.iushr X0.here hx rfl (hb' d10_6) rfl ?_
    exact XS.i2b X0.here hx rfl (hb' d10_7) rfl kt)
  obtain ⟨frs, hr, hrun, hended, hW, hsame⟩ := X0.leave (v := some (.int (nar .byte (((((Nat.toInt32 n) - (Nat.toInt32 (2 * n))).toUInt32 >>> ((31 : Int32) &&& 31).toUInt32).toInt32).toInt8.toInt32)))) (fun h => by rw [Bd.returns] at h; cases h)
  refine ⟨_, _, cn3 _ ?_, hrun, hended, _, _, rfl, ?_, ⟨_, rfl⟩, hW, hsame.mono (by decide) (by decide)⟩
  · exact retN X0 hx (t := .byte) Bd.returns (by simp) (hb' d10_8) hr
  · show QI 1 h0 n0 _ s₁.heap _
    rw [e0]
    exact ⟨by rw [(own_cd1 hn0 (by omega))], N0, rfl⟩

theorem d2_0 : DC c8' 0 (.aload_n 0) 1 := by decide +kernel
theorem d2_1 : DC c8' 1 (.invokespecial 1) 3 := by decide +kernel
theorem d2_4 : DC c8' 4 (.iload_n 3) 1 := by decide +kernel
theorem d2_5 : DC c8' 5 (.ifCond .ne 22) 3 := by decide +kernel
theorem d2_27 : DC c8' 27 (.getstatic 38) 3 := by decide +kernel
theorem d2_30 : DC c8' 30 (.ifCond .eq 28) 3 := by decide +kernel
theorem d2_33 : DC c8' 33 (.aload_n 1) 1 := by decide +kernel
theorem d2_34 : DC c8' 34 (.iload_n 2) 1 := by decide +kernel
theorem d2_35 : DC c8' 35 (.iload_n 3) 1 := by decide +kernel
theorem d2_36 : DC c8' 36 (.invokestatic 177) 3 := by decide +kernel
theorem d2_39 : DC c8' 39 (.astore 5) 2 := by decide +kernel
theorem d2_41 : DC c8' 41 (.aload_n 0) 1 := by decide +kernel
theorem d2_42 : DC c8' 42 (.aload 5) 2 := by decide +kernel
theorem d2_44 : DC c8' 44 (.iload_n 3) 1 := by decide +kernel
theorem d2_45 : DC c8' 45 (.invokestatic 47) 3 := by decide +kernel
theorem d2_48 : DC c8' 48 (.putfield 15) 3 := by decide +kernel
theorem d2_51 : DC c8' 51 (.aload_n 0) 1 := by decide +kernel
theorem d2_52 : DC c8' 52 (.aload 5) 2 := by decide +kernel
theorem d2_54 : DC c8' 54 (.putfield 9) 3 := by decide +kernel
theorem d2_57 : DC c8' 57 (.return_) 1 := by decide +kernel
theorem pd_6 : parseMethodDescriptor "([BI)B" = some ⟨[(.array .byte), .int], some .byte⟩ := by decide +kernel
theorem pn_java_lang_String : plainName "java/lang/String" = true := by first | (simp [plainName, overriddenIn]; done) | decide +kernel
theorem ef_149s (m : MethodId) (x0 : Addr) (x1 : Addr) (x2 : Int32) (x3 : Int32) : entryFrame m #[(.ref x0), (.ref x1), (.int x2), (.int x3), .null] 6 = mkF m 0 #[.val (.ref x0), .val (.ref x1), .val (.int x2), .val (.int x3), .val .null, .unset] [] := by first | (simp [entryFrame, mkF, argsToLocals, Value.category]; done) | rfl
theorem rm149s (l : Launch) (Z : State) (a0 : Array Value) (hw : HW a0 Z) (ws : List Jvm.Cond) (a1 ca : Addr) (kc : ClassId) (cs : List Int32) (co : Int32) (vf : Value) (h0 : Heap) (n0 : Nat) (O0 : Old Z n0 h0) (g_a1 : n0 ≤ a1) (E_a1 : Exa Z h0 a1 "java/lang/String") (Fvalue : Fld Z h0 a1 "java/lang/String" "value" "[B" .null) (Fcoder : Fld Z h0 a1 "java/lang/String" "coder" "B" (.int (0 : Int32))) (neac : a1 ≠ ca) (hn0 : 0 < cs.length) (hn : cs.length ≤ 402) (hu : own_u cs) (A_ca : AF Z h0 ca kc .char cs.length (fun j => .int (cs.getD j 0))) (SWh : SW Z co vf) :
    MT l y8' c8' 6 none ws ({ frames := 4, cells := 2, slots := 1206, locals := 57 } : Room) #[(.ref a1), (.ref ca), (.int (0 : Int32)), (.int (Nat.toInt32 cs.length)), .null] Z h0 (QST Z a1 cs h0 n0) := by
  refine MetFree.of_bodySF (plainFor_of_name pn_java_lang_String) hisR ?_
  intro p e s m args below meth kode s₁ Bd hml0 hP hK
  obtain ⟨rfl, hZ, hh⟩ := hP
  have hx := Bd.exec
  have hby := Bd.bytes
  have hb' := @hb _ _ hby
  have hml : kode.maxLocals = 6 := hml0
  have hown : s.vm.findClass "java/lang/String" = some m.cls := findClass_of_methodNamed Bd.named
  have hnm := (name_of_methodNamed Bd.named Bd.method).1
  have X0 : Stand p l e ({ frames := 4, cells := 2, slots := 1206, locals := 57 } : Room) s m #[(.ref a1), (.ref ca), (.int (0 : Int32)), (.int (Nat.toInt32 cs.length)), .null] below meth kode s₁ [] 0 0 := Stand.of_body Bd
  have e0 : s₁.heap = h0 := by rw [← hh, Bd.state]; rfl
  have N0 := Fr.nil n0
  have pre0 : ∀ t, SF p e below s₁ (mkF m 0 #[vr a1, vr ca, vi 0, vi (Nat.toInt32 cs.length), .val .null, .unset] []) t → SF p e below s₁ (entryFrame m #[(.ref a1), (.ref ca), (.int (0 : Int32)), (.int (Nat.toInt32 cs.length)), .null] 6) t := fun t k => castTop (ef_149s m a1 ca (0 : Int32) (Nat.toInt32 cs.length)) k
  have SWx := SWh
  obtain ⟨S_CS, hcs, S_AD, S_HI, S_LO, S_SI, hcat_vf⟩ := SWx
  have cn1 := fun (t : State) (kt : SF p e below s₁ (mkF m 1 #[vr a1, vr ca, vi 0, vi (Nat.toInt32 cs.length), .val .null, .unset] [.ref a1]) t) => pre0 t (by
    exact XS.aloadN X0.here hx rfl (hb' d2_0) rfl rfl kt)
  obtain ⟨T2, X2, e2, st2⟩ := initO X0 hx hZ hown (wq hw 11 rfl) (wq hw 12 rfl) (wq hw 13 rfl) e0 (g := (mkF m 1 #[vr a1, vr ca, vi 0, vi (Nat.toInt32 cs.length), .val .null, .unset] [.ref a1])) rfl (by rw [hml]; rfl) rfl (hb' d2_1) (by decide) (W := 0) (Nat.le_refl _) (by decide)
  have cn3 := fun (t : State) (kt : SF p e below T2 (mkF m 5 #[vr a1, vr ca, vi 0, vi (Nat.toInt32 cs.length), .val .null, .unset] [.int (Nat.toInt32 cs.length)]) t) => cn1 t (by
    refine st2 _ ?_
    exact XS.iloadN X2.here hx rfl (hb' d2_4) rfl kt)
  have cn4 := fun (t : State) (kt : SF p e below T2 (mkF m 27 #[vr a1, vr ca, vi 0, vi (Nat.toInt32 cs.length), .val .null, .unset] []) t) => cn3 t (by
    exact XS.ifYes X2.here hx rfl (pc0 := 5) (pc' := 27) rfl (hb' d2_5) rfl ((if0 _ _).trans (feq (fun q => Nat.ne_of_gt hn0 ((own_eqn (j := 0) (by omega) (by decide)).mp q))).2) (by decide) (by decide) kt)
  obtain ⟨T5, X5, e5, st5⟩ := getS2 X2 hx hZ hown (host := "") (Or.inl (wq hw 36 rfl)) Via.refl e2 (S_CS.ext O0.2) (g := (mkF m 27 #[vr a1, vr ca, vi 0, vi (Nat.toInt32 cs.length), .val .null, .unset] [])) rfl (hb' d2_27)
  have cn6 := fun (t : State) (kt : SF p e below T5 (mkF m 30 #[vr a1, vr ca, vi 0, vi (Nat.toInt32 cs.length), .val .null, .unset] [.int co]) t) => cn4 t (by
    exact st5 _ kt)
  have cn7 := fun (t : State) (kt : SF p e below T5 (mkF m 36 #[vr a1, vr ca, vi 0, vi (Nat.toInt32 cs.length), .val .null, .unset] [.int (Nat.toInt32 cs.length), .int 0, .ref ca]) t) => cn6 t (by
    refine XS.ifNo X5.here hx rfl (hb' d2_30) rfl ((if0 _ _).trans (feq hcs).1) ?_
    refine XS.aloadN X5.here hx rfl (hb' d2_33) rfl rfl ?_
    refine XS.iloadN X5.here hx rfl (hb' d2_34) rfl ?_
    exact XS.iloadN X5.here hx rfl (hb' d2_35) rfl kt)
  obtain ⟨_, _, ⟨T8, L8, k8, n8⟩, -, X8, ⟨Lc8, hQ8, l8, y8, z8⟩, st8⟩ := Jvm.LawKit.callS X5 hx (y := y6') hown (mvT hZ (wq hw 43 rfl)) (mvT hZ (wq hw 44 rfl)) (mvT hZ (wq hw 45 rfl)) (mvT hZ (wq hw 46 rfl)) (by decide) (backOf (W := 0) (rm8 l Z a0 hw [] ca kc cs co vf h0 n0 O0 hn hu A_ca SWh) hZ (wq hw 46 rfl) (wq hw 45 rfl) (by decide) (by decide)) (g := (mkF m 36 #[vr a1, vr ca, vi 0, vi (Nat.toInt32 cs.length), .val .null, .unset] [.int (Nat.toInt32 cs.length), .int 0, .ref ca])) rfl (by rw [hml]; rfl) (argsL := [(.ref ca), (.int (0 : Int32)), (.int (Nat.toInt32 cs.length))]) (rest := []) (lenOf pd_4 rfl) rfl (Nat.le_refl _) (hb' d2_36) (fun _ _ => ⟨rfl, e5, (by decide : 0 + 2 ≤ _), (by decide : 0 + 1206 ≤ _)⟩)
  dsimp only [Pt.U, Pt.locs, Pt.cells, Pt.slots] at X8 l8 y8 z8 st8 hQ8
  subst l8 y8 z8
  rcases hQ8 with ⟨r8x, kq8, f8, rfl, Nq8, Kq8, szq8, Aq8, hP8⟩ | ⟨r8x, kq8, f8, rfl, Nq8, Kq8, szq8, Aq8, hP8⟩
  · have N8 := Fr.app N0 Nq8
    have ne_a1_r8x : a1 ≠ r8x := Nat.ne_of_lt (Nat.lt_of_lt_of_le E_a1.lt szq8)
    have ne_ca_r8x : ca ≠ r8x := Nat.ne_of_lt (Nat.lt_of_lt_of_le A_ca.lt szq8)
    have sz_r8x : h0.size ≤ r8x := Nat.le_trans (Keep.refl h0 [a1]).1 szq8
    have g_r8x : n0 ≤ r8x := Nat.le_trans (O0.1 ▸ O0.2.1) sz_r8x
    have K8 := Kq8
    have E_a1_e8 := E_a1.keep K8
    have Fvalue_e8 := Fvalue.keep K8 nin0
    have Fcoder_e8 := Fcoder.keep K8 nin0
    have A_ca_e8 := A_ca.keep K8 nin0
    have O8 := O0.keep K8 all0
    have KK8 : Keep h0 T8.heap [a1] := (Keep.refl h0 [a1]).trans K8 all0
    have cn9 := fun (t : State) (kt : SF p e below T8 (mkF m 45 #[vr a1, vr ca, vi 0, vi (Nat.toInt32 cs.length), .val .null, vr r8x] [.int (Nat.toInt32 cs.length), .ref r8x, .ref a1]) t) => cn7 t (by
      refine st8 _ ?_
      refine XS.astore X8.here hx rfl (hb' d2_39) rfl rfl (l' := #[vr a1, vr ca, vi 0, vi (Nat.toInt32 cs.length), .val .null, vr r8x]) rfl ?_
      refine XS.aloadN X8.here hx rfl (hb' d2_41) rfl rfl ?_
      refine XS.aload X8.here hx rfl (hb' d2_42) rfl rfl ?_
      exact XS.iloadN X8.here hx rfl (hb' d2_44) rfl kt)
    obtain ⟨_, _, ⟨T10, L10, k10, n10⟩, -, X10, ⟨Lc10, hQ10, l10, y10, z10⟩, st10⟩ := Jvm.LawKit.callS X8 hx (y := y7') hown (mvT hZ (wq hw 50 rfl)) (mvT hZ (wq hw 51 rfl)) (mvT hZ (wq hw 45 rfl)) (mvT hZ (wq hw 52 rfl)) (by decide) (backOf (W := 1) (rm10L l Z a0 hw [] r8x kq8 cs.length f8 T8.heap n0 O8 hn0 hn Aq8) hZ (wq hw 52 rfl) (wq hw 45 rfl) (by decide) (by decide)) (g := (mkF m 45 #[vr a1, vr ca, vi 0, vi (Nat.toInt32 cs.length), .val .null, vr r8x] [.int (Nat.toInt32 cs.length), .ref r8x, .ref a1])) rfl (by rw [hml]; rfl) (argsL := [(.ref r8x), (.int (Nat.toInt32 cs.length))]) (rest := [(.ref a1)]) (lenOf pd_6 rfl) rfl (Nat.le_refl _) (hb' d2_45) (fun _ _ => ⟨rfl, rfl, (by decide : 2 + 0 ≤ _), (by decide : 1206 + 0 ≤ _)⟩)
    dsimp only [Pt.U, Pt.locs, Pt.cells, Pt.slots] at X10 l10 y10 z10 st10 hQ10
    subst l10 y10 z10
    obtain ⟨rfl, Nq10, eh10⟩ := hQ10
    have N10 := Fr.app N8 Nq10
    have cn11 := fun (t : State) (kt : SF p e below T10 (mkF m 48 #[vr a1, vr ca, vi 0, vi (Nat.toInt32 cs.length), .val .null, vr r8x] [.int 0, .ref a1]) t) => cn9 t (by
      exact st10 _ kt)
    obtain ⟨T12, h12, X12, e12, W12, st12⟩ := putFN X10 hx hZ hown (wq hw 21 rfl) Via.refl eh10 Fcoder_e8 E_a1_e8 (Or.inr ⟨(wq hw 17 rfl), rfl, hnm⟩) (wq hw 2 rfl) (ty := .byte) (v' := (.int (0 : Int32))) (by decide) rfl rfl (g := (mkF m 48 #[vr a1, vr ca, vi 0, vi (Nat.toInt32 cs.length), .val .null, vr r8x] [.int 0, .ref a1])) rfl rfl (hb' d2_48)
    have E_a1_e12 := E_a1_e8.wr W12
    have Fvalue_e12 := Fvalue_e8.other W12 (Or.inr (slot_ne (Or.inr (wq hw 16 rfl)) (Or.inr (wq hw 17 rfl)) (by decide) (t := (.array .byte)) (t' := .byte) (by decide) (by decide)))
    have A_ca_e12 := A_ca_e8.other W12 (Ne.symm neac)
    have Aq8_e12 := Aq8.other W12 (Ne.symm ne_a1_r8x)
    have N12 := Fr.snoc X12 N10 g_a1
    have O12 := O8.wr W12 g_a1
    have K12 : Keep h0 h12 [a1] := KK8.wr W12 (Or.inl (List.mem_of_getElem? (i := 0) rfl))
    have Fcoder_12 := Fcoder_e8.same W12
    have cn13 := fun (t : State) (kt : SF p e below T12 (mkF m 54 #[vr a1, vr ca, vi 0, vi (Nat.toInt32 cs.length), .val .null, vr r8x] [.ref r8x, .ref a1]) t) => cn11 t (by
      refine st12 _ ?_
      refine XS.aloadN X12.here hx rfl (hb' d2_51) rfl rfl ?_
      exact XS.aload X12.here hx rfl (hb' d2_52) rfl rfl kt)
    obtain ⟨T14, h14, X14, e14, W14, st14⟩ := putF X12 hx hZ hown (host := "") (Or.inl (wq hw 20 rfl)) Via.refl e12 Fvalue_e12 E_a1_e12 (Or.inr ⟨(wq hw 16 rfl), rfl, hnm⟩) (wq hw 2 rfl) (ty := (.array .byte)) (by decide) rfl rfl (g := (mkF m 54 #[vr a1, vr ca, vi 0, vi (Nat.toInt32 cs.length), .val .null, vr r8x] [.ref r8x, .ref a1])) rfl rfl (hb' d2_54)
    have E_a1_e14 := E_a1_e12.wr W14
    have Fcoder_12_e14 := Fcoder_12.other W14 (Or.inr (slot_ne (Or.inr (wq hw 17 rfl)) (Or.inr (wq hw 16 rfl)) (by decide) (t := .byte) (t' := (.array .byte)) (by decide) (by decide)))
    have A_ca_e14 := A_ca_e12.other W14 (Ne.symm neac)
    have Aq8_e14 := Aq8_e12.other W14 (Ne.symm ne_a1_r8x)
    have N14 := Fr.snoc X14 N12 g_a1
    have O14 := O12.wr W14 g_a1
    have K14 : Keep h0 h14 [a1] := K12.wr W14 (Or.inl (List.mem_of_getElem? (i := 0) rfl))
    have Fvalue_14 := Fvalue_e12.same W14
    have cn15 := fun (t : State) (kt : SF p e below T14 (mkF m 57 #[vr a1, vr ca, vi 0, vi (Nat.toInt32 cs.length), .val .null, vr r8x] []) t) => cn13 t (by
      exact st14 _ kt)
    obtain ⟨frs, hr, hrun, hended, hW, hsame⟩ := X14.leave (v := none) (fun _ => rfl)
    refine ⟨_, _, cn15 _ ?_, hrun, hended, _, _, rfl, ?_, ⟨_, rfl⟩, hW, hsame.mono (by decide) (by decide)⟩
    · exact X14.returnOut hx Bd.returns (hb' d2_57) hr
    · show QST Z a1 cs h0 n0 _ T14.heap _
      rw [e14]
      exact ⟨rfl, N14, K14, r8x, _, _, (0 : Int32), E_a1_e14, Fvalue_14, Fcoder_12_e14, Or.inl ⟨rfl, Aq8_e14, hP8⟩⟩
  · have N8 := Fr.app N0 Nq8
    have ne_a1_r8x : a1 ≠ r8x := Nat.ne_of_lt (Nat.lt_of_lt_of_le E_a1.lt szq8)
    have ne_ca_r8x : ca ≠ r8x := Nat.ne_of_lt (Nat.lt_of_lt_of_le A_ca.lt szq8)
    have sz_r8x : h0.size ≤ r8x := Nat.le_trans (Keep.refl h0 [a1]).1 szq8
    have g_r8x : n0 ≤ r8x := Nat.le_trans (O0.1 ▸ O0.2.1) sz_r8x
    have K8 := Kq8
    have E_a1_e8 := E_a1.keep K8
    have Fvalue_e8 := Fvalue.keep K8 nin0
    have Fcoder_e8 := Fcoder.keep K8 nin0
    have A_ca_e8 := A_ca.keep K8 nin0
    have O8 := O0.keep K8 all0
    have KK8 : Keep h0 T8.heap [a1] := (Keep.refl h0 [a1]).trans K8 all0
    have cn16 := fun (t : State) (kt : SF p e below T8 (mkF m 45 #[vr a1, vr ca, vi 0, vi (Nat.toInt32 cs.length), .val .null, vr r8x] [.int (Nat.toInt32 cs.length), .ref r8x, .ref a1]) t) => cn7 t (by
      refine st8 _ ?_
      refine XS.astore X8.here hx rfl (hb' d2_39) rfl rfl (l' := #[vr a1, vr ca, vi 0, vi (Nat.toInt32 cs.length), .val .null, vr r8x]) rfl ?_
      refine XS.aloadN X8.here hx rfl (hb' d2_41) rfl rfl ?_
      refine XS.aload X8.here hx rfl (hb' d2_42) rfl rfl ?_
      exact XS.iloadN X8.here hx rfl (hb' d2_44) rfl kt)
    obtain ⟨_, _, ⟨T17, L17, k17, n17⟩, -, X17, ⟨Lc17, hQ17, l17, y17, z17⟩, st17⟩ := Jvm.LawKit.callS X8 hx (y := y7') hown (mvT hZ (wq hw 50 rfl)) (mvT hZ (wq hw 51 rfl)) (mvT hZ (wq hw 45 rfl)) (mvT hZ (wq hw 52 rfl)) (by decide) (backOf (W := 1) (rm10U l Z a0 hw [] r8x kq8 cs.length f8 T8.heap n0 O8 hn0 hn Aq8) hZ (wq hw 52 rfl) (wq hw 45 rfl) (by decide) (by decide)) (g := (mkF m 45 #[vr a1, vr ca, vi 0, vi (Nat.toInt32 cs.length), .val .null, vr r8x] [.int (Nat.toInt32 cs.length), .ref r8x, .ref a1])) rfl (by rw [hml]; rfl) (argsL := [(.ref r8x), (.int (Nat.toInt32 cs.length))]) (rest := [(.ref a1)]) (lenOf pd_6 rfl) rfl (Nat.le_refl _) (hb' d2_45) (fun _ _ => ⟨rfl, rfl, (by decide : 2 + 0 ≤ _), (by decide : 1206 + 0 ≤ _)⟩)
    dsimp only [Pt.U, Pt.locs, Pt.cells, Pt.slots] at X17 l17 y17 z17 st17 hQ17
    subst l17 y17 z17
    obtain ⟨rfl, Nq17, eh17⟩ := hQ17
    have N17 := Fr.app N8 Nq17
    have cn18 := fun (t : State) (kt : SF p e below T17 (mkF m 48 #[vr a1, vr ca, vi 0, vi (Nat.toInt32 cs.length), .val .null, vr r8x] [.int 1, .ref a1]) t) => cn16 t (by
      exact st17 _ kt)
    obtain ⟨T19, h19, X19, e19, W19, st19⟩ := putFN X17 hx hZ hown (wq hw 21 rfl) Via.refl eh17 Fcoder_e8 E_a1_e8 (Or.inr ⟨(wq hw 17 rfl), rfl, hnm⟩) (wq hw 2 rfl) (ty := .byte) (v' := (.int (1 : Int32))) (by decide) rfl rfl (g := (mkF m 48 #[vr a1, vr ca, vi 0, vi (Nat.toInt32 cs.length), .val .null, vr r8x] [.int 1, .ref a1])) rfl rfl (hb' d2_48)
    have E_a1_e19 := E_a1_e8.wr W19
    have Fvalue_e19 := Fvalue_e8.other W19 (Or.inr (slot_ne (Or.inr (wq hw 16 rfl)) (Or.inr (wq hw 17 rfl)) (by decide) (t := (.array .byte)) (t' := .byte) (by decide) (by decide)))
    have A_ca_e19 := A_ca_e8.other W19 (Ne.symm neac)
    have Aq8_e19 := Aq8.other W19 (Ne.symm ne_a1_r8x)
    have N19 := Fr.snoc X19 N17 g_a1
    have O19 := O8.wr W19 g_a1
    have K19 : Keep h0 h19 [a1] := KK8.wr W19 (Or.inl (List.mem_of_getElem? (i := 0) rfl))
    have Fcoder_19 := Fcoder_e8.same W19
    have cn20 := fun (t : State) (kt : SF p e below T19 (mkF m 54 #[vr a1, vr ca, vi 0, vi (Nat.toInt32 cs.length), .val .null, vr r8x] [.ref r8x, .ref a1]) t) => cn18 t (by
      refine st19 _ ?_
      refine XS.aloadN X19.here hx rfl (hb' d2_51) rfl rfl ?_
      exact XS.aload X19.here hx rfl (hb' d2_52) rfl rfl kt)
    obtain ⟨T21, h21, X21, e21, W21, st21⟩ := putF X19 hx hZ hown (host := "") (Or.inl (wq hw 20 rfl)) Via.refl e19 Fvalue_e19 E_a1_e19 (Or.inr ⟨(wq hw 16 rfl), rfl, hnm⟩) (wq hw 2 rfl) (ty := (.array .byte)) (by decide) rfl rfl (g := (mkF m 54 #[vr a1, vr ca, vi 0, vi (Nat.toInt32 cs.length), .val .null, vr r8x] [.ref r8x, .ref a1])) rfl rfl (hb' d2_54)
    have E_a1_e21 := E_a1_e19.wr W21
    have Fcoder_19_e21 := Fcoder_19.other W21 (Or.inr (slot_ne (Or.inr (wq hw 17 rfl)) (Or.inr (wq hw 16 rfl)) (by decide) (t := .byte) (t' := (.array .byte)) (by decide) (by decide)))
    have A_ca_e21 := A_ca_e19.other W21 (Ne.symm neac)
    have Aq8_e21 := Aq8_e19.other W21 (Ne.symm ne_a1_r8x)
    have N21 := Fr.snoc X21 N19 g_a1
    have O21 := O19.wr W21 g_a1
    have K21 : Keep h0 h21 [a1] := K19.wr W21 (Or.inl (List.mem_of_getElem? (i := 0) rfl))
    have Fvalue_21 := Fvalue_e19.same W21
    have cn22 := fun (t : State) (kt : SF p e below T21 (mkF m 57 #[vr a1, vr ca, vi 0, vi (Nat.toInt32 cs.length), .val .null, vr r8x] []) t) => cn20 t (by
      exact st21 _ kt)
    obtain ⟨frs, hr, hrun, hended, hW, hsame⟩ := X21.leave (v := none) (fun _ => rfl)
    refine ⟨_, _, cn22 _ ?_, hrun, hended, _, _, rfl, ?_, ⟨_, rfl⟩, hW, hsame.mono (by decide) (by decide)⟩
    · exact X21.returnOut hx Bd.returns (hb' d2_57) hr
    · show QST Z a1 cs h0 n0 _ T21.heap _
      rw [e21]
      exact ⟨rfl, N21, K21, r8x, _, _, (1 : Int32), E_a1_e21, Fvalue_21, Fcoder_19_e21, Or.inr ⟨rfl, Aq8_e21, hP8⟩⟩

theorem d1_0 : DC c9' 0 (.aload_n 0) 1 := by decide +kernel
theorem d1_1 : DC c9' 1 (.aload_n 1) 1 := by decide +kernel
theorem d1_2 : DC c9' 2 (.iconst 0) 1 := by decide +kernel
theorem d1_3 : DC c9' 3 (.aload_n 1) 1 := by decide +kernel
theorem d1_4 : DC c9' 4 (.arraylength) 1 := by decide +kernel
theorem d1_5 : DC c9' 5 (.aconst_null) 1 := by decide +kernel
theorem d1_6 : DC c9' 6 (.invokespecial 27) 3 := by decide +kernel
theorem d1_9 : DC c9' 9 (.return_) 1 := by decide +kernel
theorem pd_7 : parseMethodDescriptor "([CIILjava/lang/Void;)V" = some ⟨[(.array .char), .int, .int, (.object "java/lang/Void")], none⟩ := by decide +kernel
theorem ef_3s (m : MethodId) (x0 : Addr) (x1 : Addr) : entryFrame m #[(.ref x0), (.ref x1)] 2 = mkF m 0 #[.val (.ref x0), .val (.ref x1)] [] := by first | (simp [entryFrame, mkF, argsToLocals, Value.category]; done) | rfl
theorem rm3s (l : Launch) (Z : State) (a0 : Array Value) (hw : HW a0 Z) (ws : List Jvm.Cond) (a1 ca : Addr) (kc : ClassId) (cs : List Int32) (co : Int32) (vf : Value) (h0 : Heap) (n0 : Nat) (O0 : Old Z n0 h0) (g_a1 : n0 ≤ a1) (E_a1 : Exa Z h0 a1 "java/lang/String") (Fvalue : Fld Z h0 a1 "java/lang/String" "value" "[B" .null) (Fcoder : Fld Z h0 a1 "java/lang/String" "coder" "B" (.int (0 : Int32))) (neac : a1 ≠ ca) (hn0 : 0 < cs.length) (hn : cs.length ≤ 402) (hu : own_u cs) (A_ca : AF Z h0 ca kc .char cs.length (fun j => .int (cs.getD j 0))) (SWh : SW Z co vf) :
    MT l y9' c9' 2 none ws ({ frames := 5, cells := 2, slots := 1206, locals := 74 } : Room) #[(.ref a1), (.ref ca)] Z h0 (QST Z a1 cs h0 n0) := by
  refine MetFree.of_bodySF (plainFor_of_name pn_java_lang_String) hisR ?_
  intro p e s m args below meth kode s₁ Bd hml0 hP hK
  obtain ⟨rfl, hZ, hh⟩ := hP
  have hx := Bd.exec
  have hby := Bd.bytes
  have hb' := @hb _ _ hby
  have hml : kode.maxLocals = 2 := hml0
  have hown : s.vm.findClass "java/lang/String" = some m.cls := findClass_of_methodNamed Bd.named
  have X0 : Stand p l e ({ frames := 5, cells := 2, slots := 1206, locals := 74 } : Room) s m #[(.ref a1), (.ref ca)] below meth kode s₁ [] 0 0 := Stand.of_body Bd
  have e0 : s₁.heap = h0 := by rw [← hh, Bd.state]; rfl
  have N0 := Fr.nil n0
  have pre0 : ∀ t, SF p e below s₁ (mkF m 0 #[vr a1, vr ca] []) t → SF p e below s₁ (entryFrame m #[(.ref a1), (.ref ca)] 2) t := fun t k => castTop (ef_3s m a1 ca) k
  have SWx := SWh
  obtain ⟨S_CS, hcs, S_AD, S_HI, S_LO, S_SI, hcat_vf⟩ := SWx
  have cn1 := fun (t : State) (kt : SF p e below s₁ (mkF m 4 #[vr a1, vr ca] [.ref ca, .int 0, .ref ca, .ref a1]) t) => pre0 t (by
    refine XS.aloadN X0.here hx rfl (hb' d1_0) rfl rfl ?_
    refine XS.aloadN X0.here hx rfl (hb' d1_1) rfl rfl ?_
    refine XS.iconst X0.here hx rfl (hb' d1_2) ?_
    exact XS.aloadN X0.here hx rfl (hb' d1_3) rfl rfl kt)
  have AFx2 := A_ca
  obtain ⟨cl2, Ar2, q2, S2, H2⟩ := AFx2
  have cn3 := fun (t : State) (kt : SF p e below s₁ (mkF m 6 #[vr a1, vr ca] [.null, .int (Nat.toInt32 cs.length), .int 0, .ref ca, .ref a1]) t) => cn1 t (by
    refine X0.arraylength hx (by rw [e0]; exact Ar2.1) (State.isArrayOf_alike hZ.alike Ar2.2.1) (g := (mkF m 4 #[vr a1, vr ca] [.ref ca, .int 0, .ref ca, .ref a1])) rfl rfl (hb' d1_4) _ ?_
    rw [S2]
    exact XS.aconstNull X0.here hx rfl (hb' d1_5) kt)
  obtain ⟨_, _, ⟨T4, L4, k4, n4⟩, -, X4, ⟨Lc4, hQ4, l4, y4, z4⟩, st4⟩ := X0.specialBack hx (y := y8') rfl hown (mvT hZ (wq hw 7 rfl)) (mvT hZ (wq hw 8 rfl)) (mvT hZ (wq hw 10 rfl)) (by decide) (backOf (W := 0) (rm149s l Z a0 hw [] a1 ca kc cs co vf h0 n0 O0 g_a1 E_a1 Fvalue Fcoder neac hn0 hn hu A_ca SWh) hZ (wq hw 10 rfl) (wq hw 3 rfl) (by decide) (by decide)) (g := (mkF m 6 #[vr a1, vr ca] [.null, .int (Nat.toInt32 cs.length), .int 0, .ref ca, .ref a1])) rfl (by rw [hml]; rfl) (Steps.refl _) (a := a1) (argsL := [(.ref ca), (.int (0 : Int32)), (.int (Nat.toInt32 cs.length)), .null]) (rest := []) (lenOf pd_7 rfl) rfl (Nat.le_refl _) (hb' d1_6) (fun _ _ => ⟨rfl, e0, (by decide : 0 + 2 ≤ _), (by decide : 0 + 1206 ≤ _)⟩)
  dsimp only [Pt.U, Pt.locs, Pt.cells, Pt.slots] at X4 l4 y4 z4 st4 hQ4
  subst l4 y4 z4
  obtain ⟨rfl, Nq4, Kq4, b4x, kb4, fb4, cd4, SS4⟩ := hQ4
  have N4 := Fr.app N0 Nq4
  have K4 := Kq4
  have E_a1_e4 := E_a1.keep K4
  have A_ca_e4 := A_ca.keep K4 (ninS (Ne.symm neac) nin0)
  have O4 := O0.keep K4 (allS g_a1 all0)
  have KK4 : Keep h0 T4.heap [a1] := (Keep.refl h0 [a1]).trans K4 (allS (Or.inl (List.mem_of_getElem? (i := 0) rfl)) all0)
  have cn5 := fun (t : State) (kt : SF p e below T4 (mkF m 9 #[vr a1, vr ca] []) t) => cn3 t (by
    exact st4.trans kt)
  obtain ⟨frs, hr, hrun, hended, hW, hsame⟩ := X4.leave (v := none) (fun _ => rfl)
  refine ⟨_, _, cn5 _ ?_, hrun, hended, _, _, rfl, ?_, ⟨_, rfl⟩, hW, hsame.mono (by decide) (by decide)⟩
  · exact X4.returnOut hx Bd.returns (hb' d1_9) hr
  · show QST Z a1 cs h0 n0 _ T4.heap _
    exact ⟨rfl, N4, KK4, _, _, _, _, SS4⟩

theorem d26_0 : DC c10' 0 (.aload_n 0) 1 := by decide +kernel
theorem d26_1 : DC c10' 1 (.arraylength) 1 := by decide +kernel
theorem d26_2 : DC c10' 2 (.iconst 1) 1 := by decide +kernel
theorem d26_3 : DC c10' 3 (.ishr) 1 := by decide +kernel
theorem d26_4 : DC c10' 4 (.ireturn) 1 := by decide +kernel
theorem ef_26 (m : MethodId) (x0 : Addr) : entryFrame m #[(.ref x0)] 1 = mkF m 0 #[.val (.ref x0)] [] := by first | (simp [entryFrame, mkF, argsToLocals, Value.category]; done) | rfl
theorem rm26 (l : Launch) (Z : State) (a0 : Array Value) (hw : HW a0 Z) (ws : List Jvm.Cond) (ba : Addr) (k : ClassId) (n : Nat) (f : Nat → Value) (h0 : Heap) (n0 : Nat) (O0 : Old Z n0 h0) (hm : n ≤ 402) (A_ba : AF Z h0 ba k .byte (2 * n) f) :
    MT l y10' c10' 1 (some .int) ws ({ frames := 0, cells := 0, slots := 0, locals := 0 } : Room) #[(.ref ba)] Z h0 (QI (Nat.toInt32 n) h0 n0) := by
  refine MetFree.of_bodySF (plainFor_of_name pn_java_lang_StringUTF16) hisR ?_
  intro p e s m args below meth kode s₁ Bd hml0 hP hK
  obtain ⟨rfl, hZ, hh⟩ := hP
  have hx := Bd.exec
  have hby := Bd.bytes
  have hb' := @hb _ _ hby
  have hml : kode.maxLocals = 1 := hml0
  have hown : s.vm.findClass "java/lang/StringUTF16" = some m.cls := findClass_of_methodNamed Bd.named
  have X0 : Stand p l e ({ frames := 0, cells := 0, slots := 0, locals := 0 } : Room) s m #[(.ref ba)] below meth kode s₁ [] 0 0 := Stand.of_body Bd
  have e0 : s₁.heap = h0 := by rw [← hh, Bd.state]; rfl
  have N0 := Fr.nil n0
  have pre0 : ∀ t, SF p e below s₁ (mkF m 0 #[vr ba] []) t → SF p e below s₁ (entryFrame m #[(.ref ba)] 1) t := fun t k => castTop (ef_26 m ba) k
  have cn1 := fun (t : State) (kt : SF p e below s₁ (mkF m 1 #[vr ba] [.ref ba]) t) => pre0 t (by
    exact XS.aloadN X0.here hx rfl (hb' d26_0) rfl rfl kt)
  have AFx2 := A_ba
  obtain ⟨cl2, Ar2, q2, S2, H2⟩ := AFx2
  have cn3 := fun (t : State) (kt : SF p e below s₁ (mkF m 4 #[vr ba] [.int ((Nat.toInt32 (2 * n)) >>> ((1 : Int32) &&& 31))]) t) => cn1 t (by
    refine X0.arraylength hx (by rw [e0]; exact Ar2.1) (State.isArrayOf_alike hZ.alike Ar2.2.1) (g := (mkF m 1 #[vr ba] [.ref ba])) rfl rfl (hb' d26_1) _ ?_
    rw [S2]
    refine XS.iconst X0.here hx rfl (hb' d26_2) ?_
    exact XS.ishr X0.here hx rfl (hb' d26_3) rfl kt)
  obtain ⟨frs, hr, hrun, hended, hW, hsame⟩ := X0.leave (v := some (.int ((Nat.toInt32 (2 * n)) >>> ((1 : Int32) &&& 31)))) (fun h => by rw [Bd.returns] at h; cases h)
  refine ⟨_, _, cn3 _ ?_, hrun, hended, _, _, rfl, ?_, ⟨_, rfl⟩, hW, hsame.mono (by decide) (by decide)⟩
  · exact retI X0 hx Bd.returns (hb' d26_4) hr
  · show QI (Nat.toInt32 n) h0 n0 _ s₁.heap _
    rw [e0]
    exact ⟨by rw [own_hlf (by omega)], N0, rfl⟩

theorem d21_0 : DC c11' 0 (.getstatic 38) 3 := by decide +kernel
theorem d21_3 : DC c11' 3 (.ifCond .eq 14) 3 := by decide +kernel
theorem d21_6 : DC c11' 6 (.aload_n 0) 1 := by decide +kernel
theorem d21_7 : DC c11' 7 (.getfield 15) 3 := by decide +kernel
theorem d21_10 : DC c11' 10 (.ifCond .ne 7) 3 := by decide +kernel
theorem d21_13 : DC c11' 13 (.iconst 1) 1 := by decide +kernel
theorem d21_14 : DC c11' 14 (.goto 4) 3 := by decide +kernel
theorem d21_18 : DC c11' 18 (.ireturn) 1 := by decide +kernel
theorem ef_21_0 (m : MethodId) (x0 : Addr) : entryFrame m #[(.ref x0)] 1 = mkF m 0 #[.val (.ref x0)] [] := by first | (simp [entryFrame, mkF, argsToLocals, Value.category]; done) | rfl
theorem rm21_0 (l : Launch) (Z : State) (a0 : Array Value) (hw : HW a0 Z) (ws : List Jvm.Cond) (a1 : Addr) (co : Int32) (vf : Value) (h0 : Heap) (n0 : Nat) (O0 : Old Z n0 h0) (Fc : Fld Z h0 a1 "java/lang/String" "coder" "B" (.int (0 : Int32))) (SWh : SW Z co vf) :
    MT l y11' c11' 1 (some .boolean) ws ({ frames := 0, cells := 0, slots := 0, locals := 0 } : Room) #[(.ref a1)] Z h0 (QI 1 h0 n0) := by
  refine MetFree.of_bodySF (plainFor_of_name pn_java_lang_String) hisR ?_
  intro p e s m args below meth kode s₁ Bd hml0 hP hK
  obtain ⟨rfl, hZ, hh⟩ := hP
  have hx := Bd.exec
  have hby := Bd.bytes
  have hb' := @hb _ _ hby
  have hml : kode.maxLocals = 1 := hml0
  have hown : s.vm.findClass "java/lang/String" = some m.cls := findClass_of_methodNamed Bd.named
  have X0 : Stand p l e ({ frames := 0, cells := 0, slots := 0, locals := 0 } : Room) s m #[(.ref a1)] below meth kode s₁ [] 0 0 := Stand.of_body Bd
  have e0 : s₁.heap = h0 := by rw [← hh, Bd.state]; rfl
  have N0 := Fr.nil n0
  have pre0 : ∀ t, SF p e below s₁ (mkF m 0 #[vr a1] []) t → SF p e below s₁ (entryFrame m #[(.ref a1)] 1) t := fun t k => castTop (ef_21_0 m a1) k
  have SWx := SWh
  obtain ⟨S_CS, hcs, S_AD, S_HI, S_LO, S_SI, hcat_vf⟩ := SWx
  obtain ⟨T1, X1, e1, st1⟩ := getS2 X0 hx hZ hown (host := "") (Or.inl (wq hw 36 rfl)) Via.refl e0 (S_CS.ext O0.2) (g := (mkF m 0 #[vr a1] [])) rfl (hb' d21_0)
  have cn2 := fun (t : State) (kt : SF p e below T1 (mkF m 3 #[vr a1] [.int co]) t) => pre0 t (by
    exact st1 _ kt)
  have cn3 := fun (t : State) (kt : SF p e below T1 (mkF m 7 #[vr a1] [.ref a1]) t) => cn2 t (by
    refine XS.ifNo X1.here hx rfl (hb' d21_3) rfl ((if0 _ _).trans (feq hcs).1) ?_
    exact XS.aloadN X1.here hx rfl (hb' d21_6) rfl rfl kt)
  obtain ⟨T4, X4, e4, st4⟩ := getF X1 hx hZ hown (host := "") (Or.inl (wq hw 21 rfl)) Via.refl e1 Fc (g := (mkF m 7 #[vr a1] [.ref a1])) rfl rfl (hb' d21_7)
  have cn5 := fun (t : State) (kt : SF p e below T4 (mkF m 10 #[vr a1] [.int 0]) t) => cn3 t (by
    exact st4 _ kt)
  have cn6 := fun (t : State) (kt : SF p e below T4 (mkF m 18 #[vr a1] [.int 1]) t) => cn5 t (by
    refine XS.ifNo X4.here hx rfl (hb' d21_10) rfl ((if0 _ _).trans (teq (by decide : (0 : Int32) = (0 : Int32))).2) ?_
    refine XS.iconst X4.here hx rfl (hb' d21_13) ?_
    exact XS.goto X4.here hx rfl (pc0 := 14) (pc' := 18) rfl (hb' d21_14) (by decide) (by decide) kt)
  obtain ⟨frs, hr, hrun, hended, hW, hsame⟩ := X4.leave (v := some (.int (1 : Int32))) (fun h => by rw [Bd.returns] at h; cases h)
  refine ⟨_, _, cn6 _ ?_, hrun, hended, _, _, rfl, ?_, ⟨_, rfl⟩, hW, hsame.mono (by decide) (by decide)⟩
  · exact retN X4 hx (t := .boolean) Bd.returns (by simp) (hb' d21_18) hr
  · show QI 1 h0 n0 _ T4.heap _
    rw [e4]
    exact ⟨rfl, N0, rfl⟩

theorem d21_17 : DC c11' 17 (.iconst 0) 1 := by decide +kernel
theorem ef_21_1 (m : MethodId) (x0 : Addr) : entryFrame m #[(.ref x0)] 1 = mkF m 0 #[.val (.ref x0)] [] := by first | (simp [entryFrame, mkF, argsToLocals, Value.category]; done) | rfl
theorem rm21_1 (l : Launch) (Z : State) (a0 : Array Value) (hw : HW a0 Z) (ws : List Jvm.Cond) (a1 : Addr) (co : Int32) (vf : Value) (h0 : Heap) (n0 : Nat) (O0 : Old Z n0 h0) (Fc : Fld Z h0 a1 "java/lang/String" "coder" "B" (.int (1 : Int32))) (SWh : SW Z co vf) :
    MT l y11' c11' 1 (some .boolean) ws ({ frames := 0, cells := 0, slots := 0, locals := 0 } : Room) #[(.ref a1)] Z h0 (QI 0 h0 n0) := by
  refine MetFree.of_bodySF (plainFor_of_name pn_java_lang_String) hisR ?_
  intro p e s m args below meth kode s₁ Bd hml0 hP hK
  obtain ⟨rfl, hZ, hh⟩ := hP
  have hx := Bd.exec
  have hby := Bd.bytes
  have hb' := @hb _ _ hby
  have hml : kode.maxLocals = 1 := hml0
  have hown : s.vm.findClass "java/lang/String" = some m.cls := findClass_of_methodNamed Bd.named
  have X0 : Stand p l e ({ frames := 0, cells := 0, slots := 0, locals := 0 } : Room) s m #[(.ref a1)] below meth kode s₁ [] 0 0 := Stand.of_body Bd
  have e0 : s₁.heap = h0 := by rw [← hh, Bd.state]; rfl
  have N0 := Fr.nil n0
  have pre0 : ∀ t, SF p e below s₁ (mkF m 0 #[vr a1] []) t → SF p e below s₁ (entryFrame m #[(.ref a1)] 1) t := fun t k => castTop (ef_21_1 m a1) k
  have SWx := SWh
  obtain ⟨S_CS, hcs, S_AD, S_HI, S_LO, S_SI, hcat_vf⟩ := SWx
  obtain ⟨T1, X1, e1, st1⟩ := getS2 X0 hx hZ hown (host := "") (Or.inl (wq hw 36 rfl)) Via.refl e0 (S_CS.ext O0.2) (g := (mkF m 0 #[vr a1] [])) rfl (hb' d21_0)
  have cn2 := fun (t : State) (kt : SF p e below T1 (mkF m 3 #[vr a1] [.int co]) t) => pre0 t (by
    exact st1 _ kt)
  have cn3 := fun (t : State) (kt : SF p e below T1 (mkF m 7 #[vr a1] [.ref a1]) t) => cn2 t (by
    refine XS.ifNo X1.here hx rfl (hb' d21_3) rfl ((if0 _ _).trans (feq hcs).1) ?_
    exact XS.aloadN X1.here hx rfl (hb' d21_6) rfl rfl kt)
  obtain ⟨T4, X4, e4, st4⟩ := getF X1 hx hZ hown (host := "") (Or.inl (wq hw 21 rfl)) Via.refl e1 Fc (g := (mkF m 7 #[vr a1] [.ref a1])) rfl rfl (hb' d21_7)
  have cn5 := fun (t : State) (kt : SF p e below T4 (mkF m 10 #[vr a1] [.int 1]) t) => cn3 t (by
    exact st4 _ kt)
  have cn6 := fun (t : State) (kt : SF p e below T4 (mkF m 18 #[vr a1] [.int 0]) t) => cn5 t (by
    refine XS.ifYes X4.here hx rfl (pc0 := 10) (pc' := 17) rfl (hb' d21_10) rfl ((if0 _ _).trans (feq (by decide : ¬ ((1 : Int32) = (0 : Int32)))).2) (by decide) (by decide) ?_
    exact XS.iconst X4.here hx rfl (hb' d21_17) kt)
  obtain ⟨frs, hr, hrun, hended, hW, hsame⟩ := X4.leave (v := some (.int (0 : Int32))) (fun h => by rw [Bd.returns] at h; cases h)
  refine ⟨_, _, cn6 _ ?_, hrun, hended, _, _, rfl, ?_, ⟨_, rfl⟩, hW, hsame.mono (by decide) (by decide)⟩
  · exact retN X4 hx (t := .boolean) Bd.returns (by simp) (hb' d21_18) hr
  · show QI 0 h0 n0 _ T4.heap _
    rw [e4]
    exact ⟨rfl, N0, rfl⟩

theorem d6_0 : DC c12' 0 (.getstatic 38) 3 := by decide +kernel
theorem d6_3 : DC c12' 3 (.ifCond .eq 10) 3 := by decide +kernel
theorem d6_6 : DC c12' 6 (.aload_n 0) 1 := by decide +kernel
theorem d6_7 : DC c12' 7 (.getfield 15) 3 := by decide +kernel
theorem d6_10 : DC c12' 10 (.goto 4) 3 := by decide +kernel
theorem d6_14 : DC c12' 14 (.ireturn) 1 := by decide +kernel
theorem ef_6_0 (m : MethodId) (x0 : Addr) : entryFrame m #[(.ref x0)] 1 = mkF m 0 #[.val (.ref x0)] [] := by first | (simp [entryFrame, mkF, argsToLocals, Value.category]; done) | rfl
theorem rm6_0 (l : Launch) (Z : State) (a0 : Array Value) (hw : HW a0 Z) (ws : List Jvm.Cond) (a1 : Addr) (co : Int32) (vf : Value) (h0 : Heap) (n0 : Nat) (O0 : Old Z n0 h0) (Fc : Fld Z h0 a1 "java/lang/String" "coder" "B" (.int (0 : Int32))) (SWh : SW Z co vf) :
    MT l y12' c12' 1 (some .byte) ws ({ frames := 0, cells := 0, slots := 0, locals := 0 } : Room) #[(.ref a1)] Z h0 (QI 0 h0 n0) := by
  refine MetFree.of_bodySF (plainFor_of_name pn_java_lang_String) hisR ?_
  intro p e s m args below meth kode s₁ Bd hml0 hP hK
  obtain ⟨rfl, hZ, hh⟩ := hP
  have hx := Bd.exec
  have hby := Bd.bytes
  have hb' := @hb _ _ hby
  have hml : kode.maxLocals = 1 := hml0
  have hown : s.vm.findClass "java/lang/String" = some m.cls := findClass_of_methodNamed Bd.named
  have X0 : Stand p l e ({ frames := 0, cells := 0, slots := 0, locals := 0 } : Room) s m #[(.ref a1)] below meth kode s₁ [] 0 0 := Stand.of_body Bd
  have e0 : s₁.heap = h0 := by rw [← hh, Bd.state]; rfl
  have N0 := Fr.nil n0
  have pre0 : ∀ t, SF p e below s₁ (mkF m 0 #[vr a1] []) t → SF p e below s₁ (entryFrame m #[(.ref a1)] 1) t := fun t k => castTop (ef_6_0 m a1) k
  have SWx := SWh
  obtain ⟨S_CS, hcs, S_AD, S_HI, S_LO, S_SI, hcat_vf⟩ := SWx
  obtain ⟨T1, X1, e1, st1⟩ := getS2 X0 hx hZ hown (host := "") (Or.inl (wq hw 36 rfl)) Via.refl e0 (S_CS.ext O0.2) (g := (mkF m 0 #[vr a1] [])) rfl (hb' d6_0)
  have cn2 := fun (t : State) (kt : SF p e below T1 (mkF m 3 #[vr a1] [.int co]) t) => pre0 t (by
    exact st1 _ kt)
  have cn3 := fun (t : State) (kt : SF p e below T1 (mkF m 7 #[vr a1] [.ref a1]) t) => cn2 t (by
    refine XS.ifNo X1.here hx rfl (hb' d6_3) rfl ((if0 _ _).trans (feq hcs).1) ?_
    exact XS.aloadN X1.here hx rfl (hb' d6_6) rfl rfl kt)
  obtain ⟨T4, X4, e4, st4⟩ := getF X1 hx hZ hown (host := "") (Or.inl (wq hw 21 rfl)) Via.refl e1 Fc (g := (mkF m 7 #[vr a1] [.ref a1])) rfl rfl (hb' d6_7)
  have cn5 := fun (t : State) (kt : SF p e below T4 (mkF m 14 #[vr a1] [.int 0]) t) => cn3 t (by
    refine st4 _ ?_
    exact XS.goto X4.here hx rfl (pc0 := 10) (pc' := 14) rfl (hb' d6_10) (by decide) (by decide) kt)
  obtain ⟨frs, hr, hrun, hended, hW, hsame⟩ := X4.leave (v := some (.int (0 : Int32))) (fun h => by rw [Bd.returns] at h; cases h)
  refine ⟨_, _, cn5 _ ?_, hrun, hended, _, _, rfl, ?_, ⟨_, rfl⟩, hW, hsame.mono (by decide) (by decide)⟩
  · exact retN X4 hx (t := .byte) Bd.returns (by simp) (hb' d6_14) hr
  · show QI 0 h0 n0 _ T4.heap _
    rw [e4]
    exact ⟨rfl, N0, rfl⟩

theorem ef_6_1 (m : MethodId) (x0 : Addr) : entryFrame m #[(.ref x0)] 1 = mkF m 0 #[.val (.ref x0)] [] := by first | (simp [entryFrame, mkF, argsToLocals, Value.category]; done) | rfl
theorem rm6_1 (l : Launch) (Z : State) (a0 : Array Value) (hw : HW a0 Z) (ws : List Jvm.Cond) (a1 : Addr) (co : Int32) (vf : Value) (h0 : Heap) (n0 : Nat) (O0 : Old Z n0 h0) (Fc : Fld Z h0 a1 "java/lang/String" "coder" "B" (.int (1 : Int32))) (SWh : SW Z co vf) :
    MT l y12' c12' 1 (some .byte) ws ({ frames := 0, cells := 0, slots := 0, locals := 0 } : Room) #[(.ref a1)] Z h0 (QI 1 h0 n0) := by
  refine MetFree.of_bodySF (plainFor_of_name pn_java_lang_String) hisR ?_
  intro p e s m args below meth kode s₁ Bd hml0 hP hK
  obtain ⟨rfl, hZ, hh⟩ := hP
  have hx := Bd.exec
  have hby := Bd.bytes
  have hb' := @hb _ _ hby
  have hml : kode.maxLocals = 1 := hml0
  have hown : s.vm.findClass "java/lang/String" = some m.cls := findClass_of_methodNamed Bd.named
  have X0 : Stand p l e ({ frames := 0, cells := 0, slots := 0, locals := 0 } : Room) s m #[(.ref a1)] below meth kode s₁ [] 0 0 := Stand.of_body Bd
  have e0 : s₁.heap = h0 := by rw [← hh, Bd.state]; rfl
  have N0 := Fr.nil n0
  have pre0 : ∀ t, SF p e below s₁ (mkF m 0 #[vr a1] []) t → SF p e below s₁ (entryFrame m #[(.ref a1)] 1) t := fun t k => castTop (ef_6_1 m a1) k
  have SWx := SWh
  obtain ⟨S_CS, hcs, S_AD, S_HI, S_LO, S_SI, hcat_vf⟩ := SWx
  obtain ⟨T1, X1, e1, st1⟩ := getS2 X0 hx hZ hown (host := "") (Or.inl (wq hw 36 rfl)) Via.refl e0 (S_CS.ext O0.2) (g := (mkF m 0 #[vr a1] [])) rfl (hb' d6_0)
  have cn2 := fun (t : State) (kt : SF p e below T1 (mkF m 3 #[vr a1] [.int co]) t) => pre0 t (by
    exact st1 _ kt)
  have cn3 := fun (t : State) (kt : SF p e below T1 (mkF m 7 #[vr a1] [.ref a1]) t) => cn2 t (by
    refine XS.ifNo X1.here hx rfl (hb' d6_3) rfl ((if0 _ _).trans (feq hcs).1) ?_
    exact XS.aloadN X1.here hx rfl (hb' d6_6) rfl rfl kt)
  obtain ⟨T4, X4, e4, st4⟩ := getF X1 hx hZ hown (host := "") (Or.inl (wq hw 21 rfl)) Via.refl e1 Fc (g := (mkF m 7 #[vr a1] [.ref a1])) rfl rfl (hb' d6_7)
  have cn5 := fun (t : State) (kt : SF p e below T4 (mkF m 14 #[vr a1] [.int 1]) t) => cn3 t (by
    refine st4 _ ?_
    exact XS.goto X4.here hx rfl (pc0 := 10) (pc' := 14) rfl (hb' d6_10) (by decide) (by decide) kt)
  obtain ⟨frs, hr, hrun, hended, hW, hsame⟩ := X4.leave (v := some (.int (1 : Int32))) (fun h => by rw [Bd.returns] at h; cases h)
  refine ⟨_, _, cn5 _ ?_, hrun, hended, _, _, rfl, ?_, ⟨_, rfl⟩, hW, hsame.mono (by decide) (by decide)⟩
  · exact retN X4 hx (t := .byte) Bd.returns (by simp) (hb' d6_14) hr
  · show QI 1 h0 n0 _ T4.heap _
    rw [e4]
    exact ⟨rfl, N0, rfl⟩

theorem d5_0 : DC c13' 0 (.aload_n 0) 1 := by decide +kernel
theorem d5_1 : DC c13' 1 (.getfield 9) 3 := by decide +kernel
theorem d5_4 : DC c13' 4 (.arraylength) 1 := by decide +kernel
theorem d5_5 : DC c13' 5 (.aload_n 0) 1 := by decide +kernel
theorem d5_6 : DC c13' 6 (.invokevirtual 335) 3 := by decide +kernel
theorem d5_9 : DC c13' 9 (.ishr) 1 := by decide +kernel
theorem d5_10 : DC c13' 10 (.ireturn) 1 := by decide +kernel
theorem pd_8 : parseMethodDescriptor "()B" = some ⟨[], some .byte⟩ := by decide +kernel
theorem ef_5 (m : MethodId) (x0 : Addr) : entryFrame m #[(.ref x0)] 1 = mkF m 0 #[.val (.ref x0)] [] := by first | (simp [entryFrame, mkF, argsToLocals, Value.category]; done) | rfl
theorem rm5 (l : Launch) (Z : State) (a0 : Array Value) (hw : HW a0 Z) (ws : List Jvm.Cond) (a1 b : Addr) (cs : List Int32) (k : ClassId) (f : Nat → Value) (cd : Int32) (co : Int32) (vf : Value) (h0 : Heap) (n0 : Nat) (O0 : Old Z n0 h0) (hn : cs.length ≤ 402) (Sh : SS Z h0 a1 cs b k f cd) (SWh : SW Z co vf) :
    MT l y13' c13' 1 (some .int) ws ({ frames := 1, cells := 0, slots := 0, locals := 13 } : Room) #[(.ref a1)] Z h0 (QI (Nat.toInt32 cs.length) h0 n0) := by
  refine MetFree.of_bodySF (plainFor_of_name pn_java_lang_String) hisR ?_
  intro p e s m args below meth kode s₁ Bd hml0 hP hK
  obtain ⟨rfl, hZ, hh⟩ := hP
  have hx := Bd.exec
  have hby := Bd.bytes
  have hb' := @hb _ _ hby
  have hml : kode.maxLocals = 1 := hml0
  have hown : s.vm.findClass "java/lang/String" = some m.cls := findClass_of_methodNamed Bd.named
  have X0 : Stand p l e ({ frames := 1, cells := 0, slots := 0, locals := 13 } : Room) s m #[(.ref a1)] below meth kode s₁ [] 0 0 := Stand.of_body Bd
  have e0 : s₁.heap = h0 := by rw [← hh, Bd.state]; rfl
  have N0 := Fr.nil n0
  have pre0 : ∀ t, SF p e below s₁ (mkF m 0 #[vr a1] []) t → SF p e below s₁ (entryFrame m #[(.ref a1)] 1) t := fun t k => castTop (ef_5 m a1) k
  have SWx := SWh
  obtain ⟨S_CS, hcs, S_AD, S_HI, S_LO, S_SI, hcat_vf⟩ := SWx
  obtain ⟨E_a1, Fv, Fc, ⟨rfl, A_b, hP⟩ | ⟨rfl, A_b, hP⟩⟩ := Sh
  · have cn1 := fun (t : State) (kt : SF p e below s₁ (mkF m 1 #[vr a1] [.ref a1]) t) => pre0 t (by
      exact XS.aloadN X0.here hx rfl (hb' d5_0) rfl rfl kt)
    obtain ⟨T2, X2, e2, st2⟩ := getF X0 hx hZ hown (host := "") (Or.inl (wq hw 20 rfl)) Via.refl e0 Fv (g := (mkF m 1 #[vr a1] [.ref a1])) rfl rfl (hb' d5_1)
    have cn3 := fun (t : State) (kt : SF p e below T2 (mkF m 4 #[vr a1] [.ref b]) t) => cn1 t (by
      exact st2 _ kt)
    have AFx4 := A_b
    obtain ⟨cl4, Ar4, q4, S4, H4⟩ := AFx4
    have cn5 := fun (t : State) (kt : SF p e below T2 (mkF m 6 #[vr a1] [.ref a1, .int (Nat.toInt32 cs.length)]) t) => cn3 t (by
      refine X2.arraylength hx (by rw [e2]; exact Ar4.1) (State.isArrayOf_alike hZ.alike Ar4.2.1) (g := (mkF m 4 #[vr a1] [.ref b])) rfl rfl (hb' d5_4) _ ?_
      rw [S4]
      exact XS.aloadN X2.here hx rfl (hb' d5_5) rfl rfl kt)
    obtain ⟨cq6, kq6, q6a, q6b, q6c⟩ := isOf hZ e2 E_a1
    obtain ⟨_, _, ⟨T6, L6, k6, n6⟩, -, X6, ⟨Lc6, hQ6, l6, y6, z6⟩, st6⟩ := X2.virtualBack hx (y := y12') (z := y12') hown (mvT hZ (wq hw 31 rfl)) (mvT hZ (wq hw 32 rfl)) (notFace_of_selects (args := #[]) (mvT hZ (wq hw 34 rfl))) (mvT hZ (wq hw 34 rfl)) (mvT hZ (wq hw 33 rfl)) (by decide) (backOf (W := 1) (rm6_0 l Z a0 hw [] a1 co vf h0 n0 O0 Fc SWh) hZ (wq hw 35 rfl) (wq hw 3 rfl) (by decide) (by decide)) q6a q6c (g := (mkF m 6 #[vr a1] [.ref a1, .int (Nat.toInt32 cs.length)])) rfl (by rw [hml]; rfl) (Steps.refl _) (argsL := []) (rest := [(.int (Nat.toInt32 cs.length))]) (lenOf pd_8 rfl) rfl (Nat.le_refl _) (hb' d5_6) (fun _ _ => ⟨rfl, e2, (by decide : 0 + 0 ≤ _), (by decide : 0 + 0 ≤ _)⟩)
    dsimp only [Pt.U, Pt.locs, Pt.cells, Pt.slots] at X6 l6 y6 z6 st6 hQ6
    subst l6 y6 z6
    obtain ⟨rfl, Nq6, eh6⟩ := hQ6
    have N6 := Fr.app N0 Nq6
    have cn7 := fun (t : State) (kt : SF p e below T6 (mkF m 10 #[vr a1] [.int ((Nat.toInt32 cs.length) >>> ((0 : Int32) &&& 31))]) t) => cn5 t (by
      refine st6.trans ?_
      exact XS.ishr X6.here hx rfl (hb' d5_9) rfl kt)
    obtain ⟨frs, hr, hrun, hended, hW, hsame⟩ := X6.leave (v := some (.int ((Nat.toInt32 cs.length) >>> ((0 : Int32) &&& 31)))) (fun h => by rw [Bd.returns] at h; cases h)
    refine ⟨_, _, cn7 _ ?_, hrun, hended, _, _, rfl, ?_, ⟨_, rfl⟩, hW, hsame.mono (by decide) (by decide)⟩
    · exact retI X6 hx Bd.returns (hb' d5_10) hr
    · show QI (Nat.toInt32 cs.length) h0 n0 _ T6.heap _
      rw [eh6]
      exact ⟨by rw [own_sh0], N6, rfl⟩
  · have cn8 := fun (t : State) (kt : SF p e below s₁ (mkF m 1 #[vr a1] [.ref a1]) t) => pre0 t (by
      exact XS.aloadN X0.here hx rfl (hb' d5_0) rfl rfl kt)
    obtain ⟨T9, X9, e9, st9⟩ := getF X0 hx hZ hown (host := "") (Or.inl (wq hw 20 rfl)) Via.refl e0 Fv (g := (mkF m 1 #[vr a1] [.ref a1])) rfl rfl (hb' d5_1)
    have cn10 := fun (t : State) (kt : SF p e below T9 (mkF m 4 #[vr a1] [.ref b]) t) => cn8 t (by
      exact st9 _ kt)
    have AFx11 := A_b
    obtain ⟨cl11, Ar11, q11, S11, H11⟩ := AFx11
    have cn12 := fun (t : State) (kt : SF p e below T9 (mkF m 6 #[vr a1] [.ref a1, .int (Nat.toInt32 (2 * cs.length))]) t) => cn10 t (by
      refine X9.arraylength hx (by rw [e9]; exact Ar11.1) (State.isArrayOf_alike hZ.alike Ar11.2.1) (g := (mkF m 4 #[vr a1] [.ref b])) rfl rfl (hb' d5_4) _ ?_
      rw [S11]
      exact XS.aloadN X9.here hx rfl (hb' d5_5) rfl rfl kt)
    obtain ⟨cq13, kq13, q13a, q13b, q13c⟩ := isOf hZ e9 E_a1
    obtain ⟨_, _, ⟨T13, L13, k13, n13⟩, -, X13, ⟨Lc13, hQ13, l13, y13, z13⟩, st13⟩ := X9.virtualBack hx (y := y12') (z := y12') hown (mvT hZ (wq hw 31 rfl)) (mvT hZ (wq hw 32 rfl)) (notFace_of_selects (args := #[]) (mvT hZ (wq hw 34 rfl))) (mvT hZ (wq hw 34 rfl)) (mvT hZ (wq hw 33 rfl)) (by decide) (backOf (W := 1) (rm6_1 l Z a0 hw [] a1 co vf h0 n0 O0 Fc SWh) hZ (wq hw 35 rfl) (wq hw 3 rfl) (by decide) (by decide)) q13a q13c (g := (mkF m 6 #[vr a1] [.ref a1, .int (Nat.toInt32 (2 * cs.length))])) rfl (by rw [hml]; rfl) (Steps.refl _) (argsL := []) (rest := [(.int (Nat.toInt32 (2 * cs.length)))]) (lenOf pd_8 rfl) rfl (Nat.le_refl _) (hb' d5_6) (fun _ _ => ⟨rfl, e9, (by decide : 0 + 0 ≤ _), (by decide : 0 + 0 ≤ _)⟩)
    dsimp only [Pt.U, Pt.locs, Pt.cells, Pt.slots] at X13 l13 y13 z13 st13 hQ13
    subst l13 y13 z13
    obtain ⟨rfl, Nq13, eh13⟩ := hQ13
    have N13 := Fr.app N0 Nq13
    have cn14 := fun (t : State) (kt : SF p e below T13 (mkF m 10 #[vr a1] [.int ((Nat.toInt32 (2 * cs.length)) >>> ((1 : Int32) &&& 31))]) t) => cn12 t (by
      refine st13.trans ?_
      exact XS.ishr X13.here hx rfl (hb' d5_9) rfl kt)
    obtain ⟨frs, hr, hrun, hended, hW, hsame⟩ := X13.leave (v := some (.int ((Nat.toInt32 (2 * cs.length)) >>> ((1 : Int32) &&& 31)))) (fun h => by rw [Bd.returns] at h; cases h)
    refine ⟨_, _, cn14 _ ?_, hrun, hended, _, _, rfl, ?_, ⟨_, rfl⟩, hW, hsame.mono (by decide) (by decide)⟩
    · exact retI X13 hx Bd.returns (hb' d5_10) hr
    · show QI (Nat.toInt32 cs.length) h0 n0 _ T13.heap _
      rw [eh13]
      exact ⟨by rw [own_hlf (by omega)], N13, rfl⟩

theorem d2_8 : DC c8' 8 (.aload_n 0) 1 := by decide +kernel
theorem d2_9 : DC c8' 9 (.ldc 7) 2 := by decide +kernel
theorem d2_11 : DC c8' 11 (.getfield 9) 3 := by decide +kernel
theorem d2_14 : DC c8' 14 (.putfield 9) 3 := by decide +kernel
theorem d2_17 : DC c8' 17 (.aload_n 0) 1 := by decide +kernel
theorem d2_18 : DC c8' 18 (.ldc 7) 2 := by decide +kernel
theorem d2_20 : DC c8' 20 (.getfield 15) 3 := by decide +kernel
theorem d2_23 : DC c8' 23 (.putfield 15) 3 := by decide +kernel
theorem d2_26 : DC c8' 26 (.return_) 1 := by decide +kernel
theorem ef_149e (m : MethodId) (x0 : Addr) (x1 : Addr) (x2 : Int32) (x3 : Int32) : entryFrame m #[(.ref x0), (.ref x1), (.int x2), (.int x3), .null] 6 = mkF m 0 #[.val (.ref x0), .val (.ref x1), .val (.int x2), .val (.int x3), .val .null, .unset] [] := by first | (simp [entryFrame, mkF, argsToLocals, Value.category]; done) | rfl
theorem rm149e (l : Launch) (Z : State) (a0 : Array Value) (hw : HW a0 Z) (ws : List Jvm.Cond) (a1 ca : Addr) (kc : ClassId) (fc : Nat → Value) (h0 : Heap) (n0 : Nat) (O0 : Old Z n0 h0) (g_a1 : n0 ≤ a1) (E_a1 : Exa Z h0 a1 "java/lang/String") (Fvalue : Fld Z h0 a1 "java/lang/String" "value" "[B" .null) (Fcoder : Fld Z h0 a1 "java/lang/String" "coder" "B" (.int (0 : Int32))) (neac : a1 ≠ ca) (A_ca : AF Z h0 ca kc .char 0 fc) :
    MetFree l y8' (head1 (Jvm.Cond.code y8' c8' 6 none :: ws) ({ frames := 1, cells := 2, slots := 4, locals := 12 } : Room)) (fun aQ U => aQ = #[(.ref a1), (.ref ca), (.int (0 : Int32)), (.int (0 : Int32)), .null] ∧ Z.Warmed39 U.vm ∧ U.heap = h0 ∧ CHv Z consts_1 U.vm h0) (fun _ _ _ _ _ => True) (fun _ U o U' => ∃ v L, o = .returned v ∧ QST Z a1 [] h0 n0 v U'.heap L ∧ ReturnedEndW U o U' L ({ frames := 1, cells := 2, slots := 4, locals := 12 } : Room).cells ({ frames := 1, cells := 2, slots := 4, locals := 12 } : Room).slots) := by
  refine MetFree.of_bodySF (plainFor_of_name pn_java_lang_String) hisR ?_
  intro p e s m args below meth kode s₁ Bd hml0 hP hK
  obtain ⟨rfl, hZ, hh, CH⟩ := hP
  have hx := Bd.exec
  have hby := Bd.bytes
  have hb' := @hb _ _ hby
  have hml : kode.maxLocals = 6 := hml0
  have hown : s.vm.findClass "java/lang/String" = some m.cls := findClass_of_methodNamed Bd.named
  have hnm := (name_of_methodNamed Bd.named Bd.method).1
  have X0 : Stand p l e ({ frames := 1, cells := 2, slots := 4, locals := 12 } : Room) (s.setVm s.vm) m #[(.ref a1), (.ref ca), (.int (0 : Int32)), (.int (0 : Int32)), .null] below meth kode s₁ [] 0 0 := Stand.of_body Bd
  have e0 : s₁.heap = h0 := by rw [← hh, Bd.state]; rfl
  have N0 := Fr.nil n0
  have pre0 : ∀ t, SF p e below s₁ (mkF m 0 #[vr a1, vr ca, vi 0, vi 0, .val .null, .unset] []) t → SF p e below s₁ (entryFrame m #[(.ref a1), (.ref ca), (.int (0 : Int32)), (.int (0 : Int32)), .null] 6) t := fun t k => castTop (ef_149e m a1 ca (0 : Int32) (0 : Int32)) k
  have hS : s.Since s.vm 0 := (State.WarmedH.refl s).since 0
  have hk : 0 ≤ h0.size := Nat.zero_le _
  have wS : ∀ a ∈ Bundle.stringAtoms, a.before a0 Z = true := own_wS hw
  have hEL := own_EW hw
  have cn1 := fun (t : State) (kt : SF p e below s₁ (mkF m 1 #[vr a1, vr ca, vi 0, vi 0, .val .null, .unset] [.ref a1]) t) => pre0 t (by
    exact XS.aloadN X0.here hx rfl (hb' d2_0) rfl rfl kt)
  obtain ⟨T2, X2, e2, st2⟩ := initO X0 hx hZ hown (wq hw 11 rfl) (wq hw 12 rfl) (wq hw 13 rfl) e0 (g := (mkF m 1 #[vr a1, vr ca, vi 0, vi 0, .val .null, .unset] [.ref a1])) rfl (by rw [hml]; rfl) rfl (hb' d2_1) (by decide) (W := 0) (Nat.le_refl _) (by decide)
  have cn3 := fun (t : State) (kt : SF p e below T2 (mkF m 5 #[vr a1, vr ca, vi 0, vi 0, .val .null, .unset] [.int 0]) t) => cn1 t (by
    refine st2 _ ?_
    exact XS.iloadN X2.here hx rfl (hb' d2_4) rfl kt)
  have cn4 := fun (t : State) (kt : SF p e below T2 (mkF m 9 #[vr a1, vr ca, vi 0, vi 0, .val .null, .unset] [.ref a1]) t) => cn3 t (by
    refine XS.ifNo X2.here hx rfl (hb' d2_5) rfl ((if0 _ _).trans (teq (by decide : (0 : Int32) = (0 : Int32))).2) ?_
    exact XS.aloadN X2.here hx rfl (hb' d2_8) rfl rfl kt)
  obtain ⟨b5, T5, h5, k15, c5x, kc5, X5, e5, E5, hS, hk, hZ, hown, A5, Fcoder_5, Fvalue_5, V5, lta5, ltb5, CR5, Li5, hne5, st5⟩ := ldcCH (s := s) X2 hx hZ hown (wq hw 14 rfl) wS e2 hS hk hEL (List.mem_of_getElem? (i := 1) rfl) CH (vs := []) (z := (0 : Int32)) ⟨by decide, rfl⟩ (by decide) rfl (g := (mkF m 9 #[vr a1, vr ca, vi 0, vi 0, .val .null, .unset] [.ref a1])) rfl (hb' d2_9) (n := 0) (by decide) (by decide) (by decide) (by decide)
  have CH := CR5.1
  have E_a1_e5 := E_a1.ext E5
  have Fvalue_e5 := Fvalue.ext E5
  have Fcoder_e5 := Fcoder.ext E5
  have A_ca_e5 := A_ca.ext E5
  have O5 := O0.ext E5
  have K5 : Keep h0 h5 [a1] := (Keep.refl h0 [a1]).ext E5
  have nel5 : a1 ≠ b5 := Fld.ne Fvalue_e5 Fvalue_5 (fun q => nomatch q)
  have nec5 : a1 ≠ c5x := Exa.neArv E_a1_e5 V5 (wq hw 2 rfl)
  have cn6 := fun (t : State) (kt : SF p e below T5 (mkF m 11 #[vr a1, vr ca, vi 0, vi 0, .val .null, .unset] [.ref b5, .ref a1]) t) => cn4 t (by
    exact st5 _ kt)
  obtain ⟨T7, X7, e7, st7⟩ := getF X5 hx hZ hown (host := "") (Or.inl (wq hw 20 rfl)) Via.refl e5 Fvalue_5 (g := (mkF m 11 #[vr a1, vr ca, vi 0, vi 0, .val .null, .unset] [.ref b5, .ref a1])) rfl rfl (hb' d2_11)
  have cn8 := fun (t : State) (kt : SF p e below T7 (mkF m 14 #[vr a1, vr ca, vi 0, vi 0, .val .null, .unset] [.ref c5x, .ref a1]) t) => cn6 t (by
    exact st7 _ kt)
  obtain ⟨T9, h9, X9, e9, W9, st9⟩ := putF X7 hx hZ hown (host := "") (Or.inl (wq hw 20 rfl)) Via.refl e7 Fvalue_e5 E_a1_e5 (Or.inr ⟨(wq hw 16 rfl), rfl, hnm⟩) (wq hw 2 rfl) (ty := (.array .byte)) (by decide) rfl rfl (g := (mkF m 14 #[vr a1, vr ca, vi 0, vi 0, .val .null, .unset] [.ref c5x, .ref a1])) rfl rfl (hb' d2_14)
  have E_a1_e9 := E_a1_e5.wr W9
  have Fcoder_e9 := Fcoder_e5.other W9 (Or.inr (slot_ne (Or.inr (wq hw 17 rfl)) (Or.inr (wq hw 16 rfl)) (by decide) (t := .byte) (t' := (.array .byte)) (by decide) (by decide)))
  have A_ca_e9 := A_ca_e5.other W9 (Ne.symm neac)
  have A5_e9 := A5.wr W9
  have Fcoder_5_e9 := Fcoder_5.other W9 (Or.inl (Ne.symm nel5))
  have Fvalue_5_e9 := Fvalue_5.other W9 (Or.inl (Ne.symm nel5))
  have V5_e9 := V5.other W9 (Ne.symm nec5)
  have N9 := Fr.snoc X9 N0 g_a1
  have O9 := O5.wr W9 g_a1
  have hk := Nat.le_trans hk (Nat.le_of_eq W9.size.symm)
  have K9 : Keep h0 h9 [a1] := K5.wr W9 (Or.inl (List.mem_of_getElem? (i := 0) rfl))
  have Fvalue_9 := Fvalue_e5.same W9
  have cn10 := fun (t : State) (kt : SF p e below T9 (mkF m 20 #[vr a1, vr ca, vi 0, vi 0, .val .null, .unset] [.ref b5, .ref a1]) t) => cn8 t (by
    refine st9 _ ?_
    refine XS.aloadN X9.here hx rfl (hb' d2_17) rfl rfl ?_
    exact ldcAgain X9 hx hZ hown (wq hw 14 rfl) Li5 (g := (mkF m 18 #[vr a1, vr ca, vi 0, vi 0, .val .null, .unset] [.ref a1])) rfl (hb' d2_18) _ kt)
  obtain ⟨T11, X11, e11, st11⟩ := getF X9 hx hZ hown (host := "") (Or.inl (wq hw 21 rfl)) Via.refl e9 Fcoder_5_e9 (g := (mkF m 20 #[vr a1, vr ca, vi 0, vi 0, .val .null, .unset] [.ref b5, .ref a1])) rfl rfl (hb' d2_20)
  have cn12 := fun (t : State) (kt : SF p e below T11 (mkF m 23 #[vr a1, vr ca, vi 0, vi 0, .val .null, .unset] [.int 0, .ref a1]) t) => cn10 t (by
    exact st11 _ kt)
  obtain ⟨T13, h13, X13, e13, W13, st13⟩ := putFN X11 hx hZ hown (wq hw 21 rfl) Via.refl e11 Fcoder_e9 E_a1_e9 (Or.inr ⟨(wq hw 17 rfl), rfl, hnm⟩) (wq hw 2 rfl) (ty := .byte) (v' := (.int (0 : Int32))) (by decide) rfl rfl (g := (mkF m 23 #[vr a1, vr ca, vi 0, vi 0, .val .null, .unset] [.int 0, .ref a1])) rfl rfl (hb' d2_23)
  have E_a1_e13 := E_a1_e9.wr W13
  have Fvalue_9_e13 := Fvalue_9.other W13 (Or.inr (slot_ne (Or.inr (wq hw 16 rfl)) (Or.inr (wq hw 17 rfl)) (by decide) (t := (.array .byte)) (t' := .byte) (by decide) (by decide)))
  have A_ca_e13 := A_ca_e9.other W13 (Ne.symm neac)
  have A5_e13 := A5_e9.wr W13
  have Fcoder_5_e13 := Fcoder_5_e9.other W13 (Or.inl (Ne.symm nel5))
  have Fvalue_5_e13 := Fvalue_5_e9.other W13 (Or.inl (Ne.symm nel5))
  have V5_e13 := V5_e9.other W13 (Ne.symm nec5)
  have N13 := Fr.snoc X13 N9 g_a1
  have O13 := O9.wr W13 g_a1
  have hk := Nat.le_trans hk (Nat.le_of_eq W13.size.symm)
  have K13 : Keep h0 h13 [a1] := K9.wr W13 (Or.inl (List.mem_of_getElem? (i := 0) rfl))
  have Fcoder_13 := Fcoder_e9.same W13
  have cn14 := fun (t : State) (kt : SF p e below T13 (mkF m 26 #[vr a1, vr ca, vi 0, vi 0, .val .null, .unset] []) t) => cn12 t (by
    exact st13 _ kt)
  obtain ⟨frs, hr, hrun, hended, hRW⟩ := X13.leaveW hS (by rw [e13]; exact hk) (v := none) (fun _ => rfl)
  refine ⟨_, _, cn14 _ ?_, hrun, hended, _, _, rfl, ?_, hRW.1, hRW.2.1, hRW.2.2.1, hRW.2.2.2.mono (by decide) (by decide)⟩
  · exact X13.returnOut hx Bd.returns (hb' d2_26) hr
  · show QST Z a1 [] h0 n0 _ T13.heap _
    rw [e13]
    exact ⟨rfl, N13, K13, c5x, _, _, 0, E_a1_e13, Fvalue_9_e13, Fcoder_13, Or.inl ⟨rfl, AF.of_arv V5_e13 rfl, fun j hj => absurd hj (Nat.not_lt_zero j)⟩⟩

theorem ef_3e (m : MethodId) (x0 : Addr) (x1 : Addr) : entryFrame m #[(.ref x0), (.ref x1)] 2 = mkF m 0 #[.val (.ref x0), .val (.ref x1)] [] := by first | (simp [entryFrame, mkF, argsToLocals, Value.category]; done) | rfl
theorem rm3e (l : Launch) (Z : State) (a0 : Array Value) (hw : HW a0 Z) (ws : List Jvm.Cond) (a1 ca : Addr) (kc : ClassId) (fc : Nat → Value) (h0 : Heap) (n0 : Nat) (O0 : Old Z n0 h0) (g_a1 : n0 ≤ a1) (E_a1 : Exa Z h0 a1 "java/lang/String") (Fvalue : Fld Z h0 a1 "java/lang/String" "value" "[B" .null) (Fcoder : Fld Z h0 a1 "java/lang/String" "coder" "B" (.int (0 : Int32))) (neac : a1 ≠ ca) (A_ca : AF Z h0 ca kc .char 0 fc) :
    MetFree l y9' (head1 (Jvm.Cond.code y9' c9' 2 none :: ws) ({ frames := 2, cells := 2, slots := 4, locals := 29 } : Room)) (fun aQ U => aQ = #[(.ref a1), (.ref ca)] ∧ Z.Warmed39 U.vm ∧ U.heap = h0 ∧ CHv Z consts_1 U.vm h0) (fun _ _ _ _ _ => True) (fun _ U o U' => ∃ v L, o = .returned v ∧ QST Z a1 [] h0 n0 v U'.heap L ∧ ReturnedEndW U o U' L ({ frames := 2, cells := 2, slots := 4, locals := 29 } : Room).cells ({ frames := 2, cells := 2, slots := 4, locals := 29 } : Room).slots) := by
  refine MetFree.of_bodySF (plainFor_of_name pn_java_lang_String) hisR ?_
  intro p e s m args below meth kode s₁ Bd hml0 hP hK
  obtain ⟨rfl, hZ, hh, CH⟩ := hP
  have hx := Bd.exec
  have hby := Bd.bytes
  have hb' := @hb _ _ hby
  have hml : kode.maxLocals = 2 := hml0
  have hown : s.vm.findClass "java/lang/String" = some m.cls := findClass_of_methodNamed Bd.named
  have X0 : Stand p l e ({ frames := 2, cells := 2, slots := 4, locals := 29 } : Room) (s.setVm s.vm) m #[(.ref a1), (.ref ca)] below meth kode s₁ [] 0 0 := Stand.of_body Bd
  have e0 : s₁.heap = h0 := by rw [← hh, Bd.state]; rfl
  have N0 := Fr.nil n0
  have pre0 : ∀ t, SF p e below s₁ (mkF m 0 #[vr a1, vr ca] []) t → SF p e below s₁ (entryFrame m #[(.ref a1), (.ref ca)] 2) t := fun t k => castTop (ef_3e m a1 ca) k
  have hS : s.Since s.vm 0 := (State.WarmedH.refl s).since 0
  have hk : 0 ≤ h0.size := Nat.zero_le _
  have wS : ∀ a ∈ Bundle.stringAtoms, a.before a0 Z = true := own_wS hw
  have hEL := own_EW hw
  have cn1 := fun (t : State) (kt : SF p e below s₁ (mkF m 4 #[vr a1, vr ca] [.ref ca, .int 0, .ref ca, .ref a1]) t) => pre0 t (by
    refine XS.aloadN X0.here hx rfl (hb' d1_0) rfl rfl ?_
    refine XS.aloadN X0.here hx rfl (hb' d1_1) rfl rfl ?_
    refine XS.iconst X0.here hx rfl (hb' d1_2) ?_
    exact XS.aloadN X0.here hx rfl (hb' d1_3) rfl rfl kt)
  have AFx2 := A_ca
  obtain ⟨cl2, Ar2, q2, S2, H2⟩ := AFx2
  have cn3 := fun (t : State) (kt : SF p e below s₁ (mkF m 6 #[vr a1, vr ca] [.null, .int (Nat.toInt32 0), .int 0, .ref ca, .ref a1]) t) => cn1 t (by
    refine X0.arraylength hx (by rw [e0]; exact Ar2.1) (State.isArrayOf_alike hZ.alike Ar2.2.1) (g := (mkF m 4 #[vr a1, vr ca] [.ref ca, .int 0, .ref ca, .ref a1])) rfl rfl (hb' d1_4) _ ?_
    rw [S2]
    exact XS.aconstNull X0.here hx rfl (hb' d1_5) kt)
  obtain ⟨_, _, ⟨T4, L4, k4, n4⟩, -, X4, hSq4, hgr4, ⟨Lc4, hQ4, l4, y4, z4⟩, st4⟩ := X0.specialBackS hx (y := y8') rfl hown (mvT hZ (wq hw 7 rfl)) (mvT hZ (wq hw 8 rfl)) (mvT hZ (wq hw 10 rfl)) (by decide) (own_backC (s := s) (W := 0) (rm149e l Z a0 hw [] a1 ca kc fc h0 n0 O0 g_a1 E_a1 Fvalue Fcoder neac A_ca) hZ (wq hw 10 rfl) (wq hw 3 rfl) (by decide) (by decide) hEL CH) (g := (mkF m 6 #[vr a1, vr ca] [.null, .int (Nat.toInt32 0), .int 0, .ref ca, .ref a1])) rfl (by rw [hml]; rfl) (Steps.refl _) (a := a1) (argsL := [(.ref ca), (.int (0 : Int32)), (.int (Nat.toInt32 0)), .null]) (rest := []) (lenOf pd_7 rfl) rfl (Nat.le_refl _) (hb' d1_6) (fun _ _ => ⟨rfl, e0, (by decide : 0 + 2 ≤ _), (by decide : 0 + 4 ≤ _)⟩)
  dsimp only [Pt.U, Pt.locs, Pt.cells, Pt.slots] at X4 hSq4 hgr4 l4 y4 z4 st4 hQ4
  subst l4 y4 z4
  obtain ⟨X4, hS, hZ, hown⟩ := rebS hS (by rw [e0]; exact hk) X4 hSq4 hgr4 hZ hown
  have hk := Nat.le_refl T4.heap.size
  obtain ⟨rfl, Nq4, Kq4, b4x, kb4, fb4, cd4, SS4⟩ := hQ4
  have N4 := Fr.app N0 Nq4
  have K4 := Kq4
  have E_a1_e4 := E_a1.keep K4
  have A_ca_e4 := A_ca.keep K4 (ninS (Ne.symm neac) nin0)
  have O4 := O0.keep K4 (allS g_a1 all0)
  have KK4 : Keep h0 T4.heap [a1] := (Keep.refl h0 [a1]).trans K4 (allS (Or.inl (List.mem_of_getElem? (i := 0) rfl)) all0)
  have cn5 := fun (t : State) (kt : SF p e below T4 (mkF m 9 #[vr a1, vr ca] []) t) => cn3 t (by
    exact st4.trans kt)
  obtain ⟨frs, hr, hrun, hended, hRW⟩ := X4.leaveW hS hk (v := none) (fun _ => rfl)
  refine ⟨_, _, cn5 _ ?_, hrun, hended, _, _, rfl, ?_, hRW.1, hRW.2.1, hRW.2.2.1, hRW.2.2.2.mono (by decide) (by decide)⟩
  · exact X4.returnOut hx Bd.returns (hb' d1_9) hr
  · show QST Z a1 [] h0 n0 _ T4.heap _
    exact ⟨rfl, N4, KK4, _, _, _, _, SS4⟩

theorem d20_0 : DC c14' 0 (.iload_n 0) 1 := by decide +kernel
theorem d20_1 : DC c14' 1 (.ifCond .lt 13) 3 := by decide +kernel
theorem d20_4 : DC c14' 4 (.iload_n 0) 1 := by decide +kernel
theorem d20_5 : DC c14' 5 (.iload_n 1) 1 := by decide +kernel
theorem d20_6 : DC c14' 6 (.if_icmp .gt 8) 3 := by decide +kernel
theorem d20_9 : DC c14' 9 (.iload_n 1) 1 := by decide +kernel
theorem d20_10 : DC c14' 10 (.iload_n 2) 1 := by decide +kernel
theorem d20_11 : DC c14' 11 (.if_icmp .le 11) 3 := by decide +kernel
theorem d20_22 : DC c14' 22 (.iload_n 0) 1 := by decide +kernel
theorem d20_23 : DC c14' 23 (.ireturn) 1 := by decide +kernel
theorem pn_jdk_internal_util_Preconditions : plainName "jdk/internal/util/Preconditions" = true := by first | (simp [plainName, overriddenIn]; done) | decide +kernel
theorem ef_20 (m : MethodId) (x0 : Int32) (x1 : Int32) (x2 : Int32) (x3 : Value) (hx3 : x3.category = 1) : entryFrame m #[(.int x0), (.int x1), (.int x2), x3] 4 = mkF m 0 #[.val (.int x0), .val (.int x1), .val (.int x2), .val x3] [] := by first | (simp [entryFrame, mkF, argsToLocals, Value.category, hx3]; done) | rfl | (cases x3 <;> first | rfl | (simp [Value.category] at hx3; done))
theorem rm20 (l : Launch) (Z : State) (a0 : Array Value) (hw : HW a0 Z) (ws : List Jvm.Cond) (n : Nat) (vf : Value) (h0 : Heap) (n0 : Nat) (O0 : Old Z n0 h0) (h200 : 200 ≤ n) (hm : n ≤ 402) (hcat_vf : vf.category = 1) :
    MT l y14' c14' 4 (some .int) ws ({ frames := 0, cells := 0, slots := 0, locals := 0 } : Room) #[(.int (0 : Int32)), (.int (200 : Int32)), (.int (Nat.toInt32 n)), vf] Z h0 (QI 0 h0 n0) := by
  refine MetFree.of_bodySF (plainFor_of_name pn_jdk_internal_util_Preconditions) hisR ?_
  intro p e s m args below meth kode s₁ Bd hml0 hP hK
  obtain ⟨rfl, hZ, hh⟩ := hP
  have hx := Bd.exec
  have hby := Bd.bytes
  have hb' := @hb _ _ hby
  have hml : kode.maxLocals = 4 := hml0
  have hown : s.vm.findClass "jdk/internal/util/Preconditions" = some m.cls := findClass_of_methodNamed Bd.named
  have X0 : Stand p l e ({ frames := 0, cells := 0, slots := 0, locals := 0 } : Room) s m #[(.int (0 : Int32)), (.int (200 : Int32)), (.int (Nat.toInt32 n)), vf] below meth kode s₁ [] 0 0 := Stand.of_body Bd
  have e0 : s₁.heap = h0 := by rw [← hh, Bd.state]; rfl
  have N0 := Fr.nil n0
  have pre0 : ∀ t, SF p e below s₁ (mkF m 0 #[vi 0, vi 200, vi (Nat.toInt32 n), .val vf] []) t → SF p e below s₁ (entryFrame m #[(.int (0 : Int32)), (.int (200 : Int32)), (.int (Nat.toInt32 n)), vf] 4) t := fun t k => castTop (ef_20 m (0 : Int32) (200 : Int32) (Nat.toInt32 n) vf hcat_vf) k
  have cn1 := fun (t : State) (kt : SF p e below s₁ (mkF m 1 #[vi 0, vi 200, vi (Nat.toInt32 n), .val vf] [.int 0]) t) => pre0 t (by
    exact XS.iloadN X0.here hx rfl (hb' d20_0) rfl kt)
  have cn2 := fun (t : State) (kt : SF p e below s₁ (mkF m 6 #[vi 0, vi 200, vi (Nat.toInt32 n), .val vf] [.int 200, .int 0]) t) => cn1 t (by
    refine XS.ifNo X0.here hx rfl (hb' d20_1) rfl ((if0 _ _).trans (flt (by decide : ¬ ((0 : Int32) < (0 : Int32)))).1) ?_
    refine XS.iloadN X0.here hx rfl (hb' d20_4) rfl ?_
    exact XS.iloadN X0.here hx rfl (hb' d20_5) rfl kt)
  have cn3 := fun (t : State) (kt : SF p e below s₁ (mkF m 11 #[vi 0, vi 200, vi (Nat.toInt32 n), .val vf] [.int (Nat.toInt32 n), .int 200]) t) => cn2 t (by
    refine XS.icmpNo X0.here hx rfl (hb' d20_6) rfl (flt (by decide : ¬ ((200 : Int32) < (0 : Int32)))).2.2.1 ?_
    refine XS.iloadN X0.here hx rfl (hb' d20_9) rfl ?_
    exact XS.iloadN X0.here hx rfl (hb' d20_10) rfl kt)
  have cn4 := fun (t : State) (kt : SF p e below s₁ (mkF m 23 #[vi 0, vi 200, vi (Nat.toInt32 n), .val vf] [.int 0]) t) => cn3 t (by
    refine XS.icmpYes X0.here hx rfl (pc0 := 11) (pc' := 22) rfl (hb' d20_11) rfl (flt (fun q => absurd ((own_lt (i := n) (j := 200) (by omega) (by decide)).mp q) (by omega))).2.2.2 (by decide) (by decide) ?_
    exact XS.iloadN X0.here hx rfl (hb' d20_22) rfl kt)
  obtain ⟨frs, hr, hrun, hended, hW, hsame⟩ := X0.leave (v := some (.int (0 : Int32))) (fun h => by rw [Bd.returns] at h; cases h)
  refine ⟨_, _, cn4 _ ?_, hrun, hended, _, _, rfl, ?_, ⟨_, rfl⟩, hW, hsame.mono (by decide) (by decide)⟩
  · exact retI X0 hx Bd.returns (hb' d20_23) hr
  · show QI 0 h0 n0 _ s₁.heap _
    rw [e0]
    exact ⟨rfl, N0, rfl⟩

theorem d19_0 : DC c15' 0 (.iload_n 0) 1 := by decide +kernel
theorem d19_1 : DC c15' 1 (.iload_n 1) 1 := by decide +kernel
theorem d19_2 : DC c15' 2 (.iload_n 2) 1 := by decide +kernel
theorem d19_3 : DC c15' 3 (.getstatic 1053) 3 := by decide +kernel
theorem d19_6 : DC c15' 6 (.invokestatic 1062) 3 := by decide +kernel
theorem d19_9 : DC c15' 9 (.pop) 1 := by decide +kernel
theorem d19_10 : DC c15' 10 (.return_) 1 := by decide +kernel
theorem pd_9 : parseMethodDescriptor "(IIILjava/util/function/BiFunction;)I" = some ⟨[.int, .int, .int, (.object "java/util/function/BiFunction")], some .int⟩ := by decide +kernel
theorem ef_19 (m : MethodId) (x0 : Int32) (x1 : Int32) (x2 : Int32) : entryFrame m #[(.int x0), (.int x1), (.int x2)] 3 = mkF m 0 #[.val (.int x0), .val (.int x1), .val (.int x2)] [] := by first | (simp [entryFrame, mkF, argsToLocals, Value.category]; done) | rfl
theorem rm19 (l : Launch) (Z : State) (a0 : Array Value) (hw : HW a0 Z) (ws : List Jvm.Cond) (n : Nat) (co : Int32) (vf : Value) (h0 : Heap) (n0 : Nat) (O0 : Old Z n0 h0) (h200 : 200 ≤ n) (hm : n ≤ 402) (SWh : SW Z co vf) :
    MT l y15' c15' 3 none ws ({ frames := 1, cells := 0, slots := 0, locals := 15 } : Room) #[(.int (0 : Int32)), (.int (200 : Int32)), (.int (Nat.toInt32 n))] Z h0 (QN h0 n0) := by
  refine MetFree.of_bodySF (plainFor_of_name pn_java_lang_String) hisR ?_
  intro p e s m args below meth kode s₁ Bd hml0 hP hK
  obtain ⟨rfl, hZ, hh⟩ := hP
  have hx := Bd.exec
  have hby := Bd.bytes
  have hb' := @hb _ _ hby
  have hml : kode.maxLocals = 3 := hml0
  have hown : s.vm.findClass "java/lang/String" = some m.cls := findClass_of_methodNamed Bd.named
  have X0 : Stand p l e ({ frames := 1, cells := 0, slots := 0, locals := 15 } : Room) s m #[(.int (0 : Int32)), (.int (200 : Int32)), (.int (Nat.toInt32 n))] below meth kode s₁ [] 0 0 := Stand.of_body Bd
  have e0 : s₁.heap = h0 := by rw [← hh, Bd.state]; rfl
  have N0 := Fr.nil n0
  have pre0 : ∀ t, SF p e below s₁ (mkF m 0 #[vi 0, vi 200, vi (Nat.toInt32 n)] []) t → SF p e below s₁ (entryFrame m #[(.int (0 : Int32)), (.int (200 : Int32)), (.int (Nat.toInt32 n))] 3) t := fun t k => castTop (ef_19 m (0 : Int32) (200 : Int32) (Nat.toInt32 n)) k
  have SWx := SWh
  obtain ⟨S_CS, hcs, S_AD, S_HI, S_LO, S_SI, hcat_vf⟩ := SWx
  have cn1 := fun (t : State) (kt : SF p e below s₁ (mkF m 3 #[vi 0, vi 200, vi (Nat.toInt32 n)] [.int (Nat.toInt32 n), .int 200, .int 0]) t) => pre0 t (by
    refine XS.iloadN X0.here hx rfl (hb' d19_0) rfl ?_
    refine XS.iloadN X0.here hx rfl (hb' d19_1) rfl ?_
    exact XS.iloadN X0.here hx rfl (hb' d19_2) rfl kt)
  obtain ⟨T2, X2, e2, st2⟩ := getS2 X0 hx hZ hown (host := "") (Or.inl (wq hw 99 rfl)) Via.refl e0 (S_SI.ext O0.2) (g := (mkF m 3 #[vi 0, vi 200, vi (Nat.toInt32 n)] [.int (Nat.toInt32 n), .int 200, .int 0])) rfl (hb' d19_3)
  have cn3 := fun (t : State) (kt : SF p e below T2 (mkF m 6 #[vi 0, vi 200, vi (Nat.toInt32 n)] [vf, .int (Nat.toInt32 n), .int 200, .int 0]) t) => cn1 t (by
    exact st2 _ kt)
  obtain ⟨_, _, ⟨T4, L4, k4, n4⟩, -, X4, ⟨Lc4, hQ4, l4, y4, z4⟩, st4⟩ := Jvm.LawKit.callS X2 hx (y := y14') hown (mvT hZ (wq hw 101 rfl)) (mvT hZ (wq hw 102 rfl)) (mvT hZ (wq hw 100 rfl)) (mvT hZ (wq hw 103 rfl)) (by decide) (backOf (W := 0) (rm20 l Z a0 hw [] n vf h0 n0 O0 (by omega) (by omega) hcat_vf) hZ (wq hw 103 rfl) (wq hw 100 rfl) (by decide) (by decide)) (g := (mkF m 6 #[vi 0, vi 200, vi (Nat.toInt32 n)] [vf, .int (Nat.toInt32 n), .int 200, .int 0])) rfl (by rw [hml]; rfl) (argsL := [(.int (0 : Int32)), (.int (200 : Int32)), (.int (Nat.toInt32 n)), vf]) (rest := []) (lenOf pd_9 rfl) rfl (Nat.le_refl _) (hb' d19_6) (fun _ _ => ⟨rfl, e2, (by decide : 0 + 0 ≤ _), (by decide : 0 + 0 ≤ _)⟩)
  dsimp only [Pt.U, Pt.locs, Pt.cells, Pt.slots] at X4 l4 y4 z4 st4 hQ4
  subst l4 y4 z4
  obtain ⟨rfl, Nq4, eh4⟩ := hQ4
  have N4 := Fr.app N0 Nq4
  have cn5 := fun (t : State) (kt : SF p e below T4 (mkF m 10 #[vi 0, vi 200, vi (Nat.toInt32 n)] []) t) => cn3 t (by
    refine st4 _ ?_
    exact XS.pop X4.here hx rfl (hb' d19_9) rfl rfl kt)
  obtain ⟨frs, hr, hrun, hended, hW, hsame⟩ := X4.leave (v := none) (fun _ => rfl)
  refine ⟨_, _, cn5 _ ?_, hrun, hended, _, _, rfl, ?_, ⟨_, rfl⟩, hW, hsame.mono (by decide) (by decide)⟩
  · exact X4.returnOut hx Bd.returns (hb' d19_10) hr
  · show QN h0 n0 _ T4.heap _
    rw [eh4]
    exact ⟨rfl, N4, rfl⟩

theorem d28_0 : DC c16' 0 (.iload_n 2) 1 := by decide +kernel
theorem d28_1 : DC c16' 1 (.iload_n 0) 1 := by decide +kernel
theorem d28_2 : DC c16' 2 (.ior) 1 := by decide +kernel
theorem d28_3 : DC c16' 3 (.iload_n 1) 1 := by decide +kernel
theorem d28_4 : DC c16' 4 (.ior) 1 := by decide +kernel
theorem d28_5 : DC c16' 5 (.ifCond .lt 10) 3 := by decide +kernel
theorem d28_8 : DC c16' 8 (.iload_n 1) 1 := by decide +kernel
theorem d28_9 : DC c16' 9 (.iload_n 2) 1 := by decide +kernel
theorem d28_10 : DC c16' 10 (.iload_n 0) 1 := by decide +kernel
theorem d28_11 : DC c16' 11 (.isub) 1 := by decide +kernel
theorem d28_12 : DC c16' 12 (.if_icmp .le 11) 3 := by decide +kernel
theorem d28_23 : DC c16' 23 (.iload_n 0) 1 := by decide +kernel
theorem d28_24 : DC c16' 24 (.ireturn) 1 := by decide +kernel
theorem ef_28 (m : MethodId) (x0 : Int32) (x1 : Int32) (x2 : Int32) (x3 : Value) (hx3 : x3.category = 1) : entryFrame m #[(.int x0), (.int x1), (.int x2), x3] 4 = mkF m 0 #[.val (.int x0), .val (.int x1), .val (.int x2), .val x3] [] := by first | (simp [entryFrame, mkF, argsToLocals, Value.category, hx3]; done) | rfl | (cases x3 <;> first | rfl | (simp [Value.category] at hx3; done))
theorem rm28 (l : Launch) (Z : State) (a0 : Array Value) (hw : HW a0 Z) (ws : List Jvm.Cond) (i c n : Nat) (vf : Value) (h0 : Heap) (n0 : Nat) (O0 : Old Z n0 h0) (hic : i + c ≤ n) (hm : n ≤ 402) (hcat_vf : vf.category = 1) :
    MT l y16' c16' 4 (some .int) ws ({ frames := 0, cells := 0, slots := 0, locals := 0 } : Room) #[(.int (Nat.toInt32 i)), (.int (Nat.toInt32 c)), (.int (Nat.toInt32 n)), vf] Z h0 (QI (Nat.toInt32 i) h0 n0) := by
  refine MetFree.of_bodySF (plainFor_of_name pn_jdk_internal_util_Preconditions) hisR ?_
  intro p e s m args below meth kode s₁ Bd hml0 hP hK
  obtain ⟨rfl, hZ, hh⟩ := hP
  have hx := Bd.exec
  have hby := Bd.bytes
  have hb' := @hb _ _ hby
  have hml : kode.maxLocals = 4 := hml0
  have hown : s.vm.findClass "jdk/internal/util/Preconditions" = some m.cls := findClass_of_methodNamed Bd.named
  have X0 : Stand p l e ({ frames := 0, cells := 0, slots := 0, locals := 0 } : Room) s m #[(.int (Nat.toInt32 i)), (.int (Nat.toInt32 c)), (.int (Nat.toInt32 n)), vf] below meth kode s₁ [] 0 0 := Stand.of_body Bd
  have e0 : s₁.heap = h0 := by rw [← hh, Bd.state]; rfl
  have N0 := Fr.nil n0
  have pre0 : ∀ t, SF p e below s₁ (mkF m 0 #[vi (Nat.toInt32 i), vi (Nat.toInt32 c), vi (Nat.toInt32 n), .val vf] []) t → SF p e below s₁ (entryFrame m #[(.int (Nat.toInt32 i)), (.int (Nat.toInt32 c)), (.int (Nat.toInt32 n)), vf] 4) t := fun t k => castTop (ef_28 m (Nat.toInt32 i) (Nat.toInt32 c) (Nat.toInt32 n) vf hcat_vf) k
  have cn1 := fun (t : State) (kt : SF p e below s₁ (mkF m 5 #[vi (Nat.toInt32 i), vi (Nat.toInt32 c), vi (Nat.toInt32 n), .val vf] [.int (((Nat.toInt32 n) ||| (Nat.toInt32 i)) ||| (Nat.toInt32 c))]) t) => pre0 t (by
    refine XS.iloadN X0.here hx rfl (hb' d28_0) rfl ?_
    refine XS.iloadN X0.here hx rfl (hb' d28_1) rfl ?_
    refine XS.ior X0.here hx rfl (hb' d28_2) rfl ?_
    refine XS.iloadN X0.here hx rfl (hb' d28_3) rfl ?_
    exact XS.ior X0.here hx rfl (hb' d28_4) rfl kt)
  have cn2 := fun (t : State) (kt : SF p e below s₁ (mkF m 12 #[vi (Nat.toInt32 i), vi (Nat.toInt32 c), vi (Nat.toInt32 n), .val vf] [.int ((Nat.toInt32 n) - (Nat.toInt32 i)), .int (Nat.toInt32 c)]) t) => cn1 t (by
    refine XS.ifNo X0.here hx rfl (hb' d28_5) rfl ((if0 _ _).trans (flt (own_or3 (by omega) (by omega) (by omega))).1) ?_
    refine XS.iloadN X0.here hx rfl (hb' d28_8) rfl ?_
    refine XS.iloadN X0.here hx rfl (hb' d28_9) rfl ?_
    refine XS.iloadN X0.here hx rfl (hb' d28_10) rfl ?_
    exact XS.isub X0.here hx rfl (hb' d28_11) rfl kt)
  have cn3 : ∀ t, SF p e below s₁ (mkF m 12 #[vi (Nat.toInt32 i), vi (Nat.toInt32 c), vi (Nat.toInt32 n), .val vf] [.int (Nat.toInt32 (n - i)), .int (Nat.toInt32 c)]) t → SF p e below s₁ (entryFrame m #[(.int (Nat.toInt32 i)), (.int (Nat.toInt32 c)), (.int (Nat.toInt32 n)), vf] 4) t := by have q := cn2; rw [(id (own_subn (by omega) (by omega)) : ((Nat.toInt32 n) - (Nat.toInt32 i)) = (Nat.toInt32 (n - i)))] at q; exact q
  have cn4 := fun (t : State) (kt : SF p e below s₁ (mkF m 24 #[vi (Nat.toInt32 i), vi (Nat.toInt32 c), vi (Nat.toInt32 n), .val vf] [.int (Nat.toInt32 i)]) t) => cn3 t (by
    refine XS.icmpYes X0.here hx rfl (pc0 := 12) (pc' := 23) rfl (hb' d28_12) rfl (flt (fun q => absurd ((own_lt (by omega) (by omega)).mp q) (by omega))).2.2.2 (by decide) (by decide) ?_
    exact XS.iloadN X0.here hx rfl (hb' d28_23) rfl kt)
  obtain ⟨frs, hr, hrun, hended, hW, hsame⟩ := X0.leave (v := some (.int (Nat.toInt32 i))) (fun h => by rw [Bd.returns] at h; cases h)
  refine ⟨_, _, cn4 _ ?_, hrun, hended, _, _, rfl, ?_, ⟨_, rfl⟩, hW, hsame.mono (by decide) (by decide)⟩
  · exact retI X0 hx Bd.returns (hb' d28_24) hr
  · show QI (Nat.toInt32 i) h0 n0 _ s₁.heap _
    rw [e0]
    exact ⟨rfl, N0, rfl⟩

theorem d27_0 : DC c17' 0 (.iload_n 0) 1 := by decide +kernel
theorem d27_1 : DC c17' 1 (.iload_n 1) 1 := by decide +kernel
theorem d27_2 : DC c17' 2 (.iload_n 2) 1 := by decide +kernel
theorem d27_3 : DC c17' 3 (.getstatic 1053) 3 := by decide +kernel
theorem d27_6 : DC c17' 6 (.invokestatic 1065) 3 := by decide +kernel
theorem d27_9 : DC c17' 9 (.ireturn) 1 := by decide +kernel
theorem ef_27 (m : MethodId) (x0 : Int32) (x1 : Int32) (x2 : Int32) : entryFrame m #[(.int x0), (.int x1), (.int x2)] 3 = mkF m 0 #[.val (.int x0), .val (.int x1), .val (.int x2)] [] := by first | (simp [entryFrame, mkF, argsToLocals, Value.category]; done) | rfl
theorem rm27 (l : Launch) (Z : State) (a0 : Array Value) (hw : HW a0 Z) (ws : List Jvm.Cond) (i c n : Nat) (co : Int32) (vf : Value) (h0 : Heap) (n0 : Nat) (O0 : Old Z n0 h0) (hic : i + c ≤ n) (hm : n ≤ 402) (SWh : SW Z co vf) :
    MT l y17' c17' 3 (some .int) ws ({ frames := 1, cells := 0, slots := 0, locals := 15 } : Room) #[(.int (Nat.toInt32 i)), (.int (Nat.toInt32 c)), (.int (Nat.toInt32 n))] Z h0 (QI (Nat.toInt32 i) h0 n0) := by
  refine MetFree.of_bodySF (plainFor_of_name pn_java_lang_String) hisR ?_
  intro p e s m args below meth kode s₁ Bd hml0 hP hK
  obtain ⟨rfl, hZ, hh⟩ := hP
  have hx := Bd.exec
  have hby := Bd.bytes
  have hb' := @hb _ _ hby
  have hml : kode.maxLocals = 3 := hml0
  have hown : s.vm.findClass "java/lang/String" = some m.cls := findClass_of_methodNamed Bd.named
  have X0 : Stand p l e ({ frames := 1, cells := 0, slots := 0, locals := 15 } : Room) s m #[(.int (Nat.toInt32 i)), (.int (Nat.toInt32 c)), (.int (Nat.toInt32 n))] below meth kode s₁ [] 0 0 := Stand.of_body Bd
  have e0 : s₁.heap = h0 := by rw [← hh, Bd.state]; rfl
  have N0 := Fr.nil n0
  have pre0 : ∀ t, SF p e below s₁ (mkF m 0 #[vi (Nat.toInt32 i), vi (Nat.toInt32 c), vi (Nat.toInt32 n)] []) t → SF p e below s₁ (entryFrame m #[(.int (Nat.toInt32 i)), (.int (Nat.toInt32 c)), (.int (Nat.toInt32 n))] 3) t := fun t k => castTop (ef_27 m (Nat.toInt32 i) (Nat.toInt32 c) (Nat.toInt32 n)) k
  have SWx := SWh
  obtain ⟨S_CS, hcs, S_AD, S_HI, S_LO, S_SI, hcat_vf⟩ := SWx
  have cn1 := fun (t : State) (kt : SF p e below s₁ (mkF m 3 #[vi (Nat.toInt32 i), vi (Nat.toInt32 c), vi (Nat.toInt32 n)] [.int (Nat.toInt32 n), .int (Nat.toInt32 c), .int (Nat.toInt32 i)]) t) => pre0 t (by
    refine XS.iloadN X0.here hx rfl (hb' d27_0) rfl ?_
    refine XS.iloadN X0.here hx rfl (hb' d27_1) rfl ?_
    exact XS.iloadN X0.here hx rfl (hb' d27_2) rfl kt)
  obtain ⟨T2, X2, e2, st2⟩ := getS2 X0 hx hZ hown (host := "") (Or.inl (wq hw 99 rfl)) Via.refl e0 (S_SI.ext O0.2) (g := (mkF m 3 #[vi (Nat.toInt32 i), vi (Nat.toInt32 c), vi (Nat.toInt32 n)] [.int (Nat.toInt32 n), .int (Nat.toInt32 c), .int (Nat.toInt32 i)])) rfl (hb' d27_3)
  have cn3 := fun (t : State) (kt : SF p e below T2 (mkF m 6 #[vi (Nat.toInt32 i), vi (Nat.toInt32 c), vi (Nat.toInt32 n)] [vf, .int (Nat.toInt32 n), .int (Nat.toInt32 c), .int (Nat.toInt32 i)]) t) => cn1 t (by
    exact st2 _ kt)
  obtain ⟨_, _, ⟨T4, L4, k4, n4⟩, -, X4, ⟨Lc4, hQ4, l4, y4, z4⟩, st4⟩ := Jvm.LawKit.callS X2 hx (y := y16') hown (mvT hZ (wq hw 128 rfl)) (mvT hZ (wq hw 129 rfl)) (mvT hZ (wq hw 100 rfl)) (mvT hZ (wq hw 130 rfl)) (by decide) (backOf (W := 0) (rm28 l Z a0 hw [] i c n vf h0 n0 O0 (by omega) (by omega) hcat_vf) hZ (wq hw 130 rfl) (wq hw 100 rfl) (by decide) (by decide)) (g := (mkF m 6 #[vi (Nat.toInt32 i), vi (Nat.toInt32 c), vi (Nat.toInt32 n)] [vf, .int (Nat.toInt32 n), .int (Nat.toInt32 c), .int (Nat.toInt32 i)])) rfl (by rw [hml]; rfl) (argsL := [(.int (Nat.toInt32 i)), (.int (Nat.toInt32 c)), (.int (Nat.toInt32 n)), vf]) (rest := []) (lenOf pd_9 rfl) rfl (Nat.le_refl _) (hb' d27_6) (fun _ _ => ⟨rfl, e2, (by decide : 0 + 0 ≤ _), (by decide : 0 + 0 ≤ _)⟩)
  dsimp only [Pt.U, Pt.locs, Pt.cells, Pt.slots] at X4 l4 y4 z4 st4 hQ4
  subst l4 y4 z4
  obtain ⟨rfl, Nq4, eh4⟩ := hQ4
  have N4 := Fr.app N0 Nq4
  have cn5 := fun (t : State) (kt : SF p e below T4 (mkF m 9 #[vi (Nat.toInt32 i), vi (Nat.toInt32 c), vi (Nat.toInt32 n)] [.int (Nat.toInt32 i)]) t) => cn3 t (by
    exact st4 _ kt)
  obtain ⟨frs, hr, hrun, hended, hW, hsame⟩ := X4.leave (v := some (.int (Nat.toInt32 i))) (fun h => by rw [Bd.returns] at h; cases h)
  refine ⟨_, _, cn5 _ ?_, hrun, hended, _, _, rfl, ?_, ⟨_, rfl⟩, hW, hsame.mono (by decide) (by decide)⟩
  · exact retI X4 hx Bd.returns (hb' d27_9) hr
  · show QI (Nat.toInt32 i) h0 n0 _ T4.heap _
    rw [eh4]
    exact ⟨rfl, N4, rfl⟩

theorem d25_0 : DC c18' 0 (.iload_n 0) 1 := by decide +kernel
theorem d25_1 : DC c18' 1 (.iload_n 1) 1 := by decide +kernel
theorem d25_2 : DC c18' 2 (.aload_n 2) 1 := by decide +kernel
theorem d25_3 : DC c18' 3 (.invokestatic 48) 3 := by decide +kernel
theorem d25_6 : DC c18' 6 (.invokestatic 419) 3 := by decide +kernel
theorem d25_9 : DC c18' 9 (.pop) 1 := by decide +kernel
theorem d25_10 : DC c18' 10 (.return_) 1 := by decide +kernel
theorem pd_11 : parseMethodDescriptor "(III)I" = some ⟨[.int, .int, .int], some .int⟩ := by decide +kernel
theorem pd_10 : parseMethodDescriptor "([B)I" = some ⟨[(.array .byte)], some .int⟩ := by decide +kernel
theorem ef_25 (m : MethodId) (x0 : Int32) (x1 : Int32) (x2 : Addr) : entryFrame m #[(.int x0), (.int x1), (.ref x2)] 3 = mkF m 0 #[.val (.int x0), .val (.int x1), .val (.ref x2)] [] := by first | (simp [entryFrame, mkF, argsToLocals, Value.category]; done) | rfl
theorem rm25 (l : Launch) (Z : State) (a0 : Array Value) (hw : HW a0 Z) (ws : List Jvm.Cond) (ba : Addr) (k : ClassId) (i c n : Nat) (f : Nat → Value) (co : Int32) (vf : Value) (h0 : Heap) (n0 : Nat) (O0 : Old Z n0 h0) (hic : i + c ≤ n) (hm : n ≤ 402) (A_ba : AF Z h0 ba k .byte (2 * n) f) (SWh : SW Z co vf) :
    MT l y18' c18' 3 none ws ({ frames := 2, cells := 0, slots := 0, locals := 29 } : Room) #[(.int (Nat.toInt32 i)), (.int (Nat.toInt32 c)), (.ref ba)] Z h0 (QN h0 n0) := by
  refine MetFree.of_bodySF (plainFor_of_name pn_java_lang_StringUTF16) hisR ?_
  intro p e s m args below meth kode s₁ Bd hml0 hP hK
  obtain ⟨rfl, hZ, hh⟩ := hP
  have hx := Bd.exec
  have hby := Bd.bytes
  have hb' := @hb _ _ hby
  have hml : kode.maxLocals = 3 := hml0
  have hown : s.vm.findClass "java/lang/StringUTF16" = some m.cls := findClass_of_methodNamed Bd.named
  have X0 : Stand p l e ({ frames := 2, cells := 0, slots := 0, locals := 29 } : Room) s m #[(.int (Nat.toInt32 i)), (.int (Nat.toInt32 c)), (.ref ba)] below meth kode s₁ [] 0 0 := Stand.of_body Bd
  have e0 : s₁.heap = h0 := by rw [← hh, Bd.state]; rfl
  have N0 := Fr.nil n0
  have pre0 : ∀ t, SF p e below s₁ (mkF m 0 #[vi (Nat.toInt32 i), vi (Nat.toInt32 c), vr ba] []) t → SF p e below s₁ (entryFrame m #[(.int (Nat.toInt32 i)), (.int (Nat.toInt32 c)), (.ref ba)] 3) t := fun t k => castTop (ef_25 m (Nat.toInt32 i) (Nat.toInt32 c) ba) k
  have SWx := SWh
  obtain ⟨S_CS, hcs, S_AD, S_HI, S_LO, S_SI, hcat_vf⟩ := SWx
  have hmc := hm
  have cn1 := fun (t : State) (kt : SF p e below s₁ (mkF m 3 #[vi (Nat.toInt32 i), vi (Nat.toInt32 c), vr ba] [.ref ba, .int (Nat.toInt32 c), .int (Nat.toInt32 i)]) t) => pre0 t (by
    refine XS.iloadN X0.here hx rfl (hb' d25_0) rfl ?_
    refine XS.iloadN X0.here hx rfl (hb' d25_1) rfl ?_
    exact XS.aloadN X0.here hx rfl (hb' d25_2) rfl rfl kt)
  obtain ⟨_, _, ⟨T2, L2, k2, n2⟩, -, X2, ⟨Lc2, hQ2, l2, y2, z2⟩, st2⟩ := Jvm.LawKit.callS X0 hx (y := y10') hown (mvT hZ (wq hw 122 rfl)) (mvT hZ (wq hw 123 rfl)) (mvT hZ (wq hw 45 rfl)) (mvT hZ (wq hw 124 rfl)) (by decide) (backOf (W := 2) (rm26 l Z a0 hw [] ba k n f h0 n0 O0 hmc A_ba) hZ (wq hw 124 rfl) (wq hw 45 rfl) (by decide) (by decide)) (g := (mkF m 3 #[vi (Nat.toInt32 i), vi (Nat.toInt32 c), vr ba] [.ref ba, .int (Nat.toInt32 c), .int (Nat.toInt32 i)])) rfl (by rw [hml]; rfl) (argsL := [(.ref ba)]) (rest := [(.int (Nat.toInt32 c)), (.int (Nat.toInt32 i))]) (lenOf pd_10 rfl) rfl (Nat.le_refl _) (hb' d25_3) (fun _ _ => ⟨rfl, e0, (by decide : 0 + 0 ≤ _), (by decide : 0 + 0 ≤ _)⟩)
  dsimp only [Pt.U, Pt.locs, Pt.cells, Pt.slots] at X2 l2 y2 z2 st2 hQ2
  subst l2 y2 z2
  obtain ⟨rfl, Nq2, eh2⟩ := hQ2
  have N2 := Fr.app N0 Nq2
  have cn3 := fun (t : State) (kt : SF p e below T2 (mkF m 6 #[vi (Nat.toInt32 i), vi (Nat.toInt32 c), vr ba] [.int (Nat.toInt32 n), .int (Nat.toInt32 c), .int (Nat.toInt32 i)]) t) => cn1 t (by
    exact st2 _ kt)
  obtain ⟨_, _, ⟨T4, L4, k4, n4⟩, -, X4, ⟨Lc4, hQ4, l4, y4, z4⟩, st4⟩ := Jvm.LawKit.callS X2 hx (y := y17') hown (mvT hZ (wq hw 125 rfl)) (mvT hZ (wq hw 126 rfl)) (mvT hZ (wq hw 3 rfl)) (mvT hZ (wq hw 127 rfl)) (by decide) (backOf (W := 0) (rm27 l Z a0 hw [] i c n co vf h0 n0 O0 (by omega) (by omega) SWh) hZ (wq hw 127 rfl) (wq hw 3 rfl) (by decide) (by decide)) (g := (mkF m 6 #[vi (Nat.toInt32 i), vi (Nat.toInt32 c), vr ba] [.int (Nat.toInt32 n), .int (Nat.toInt32 c), .int (Nat.toInt32 i)])) rfl (by rw [hml]; rfl) (argsL := [(.int (Nat.toInt32 i)), (.int (Nat.toInt32 c)), (.int (Nat.toInt32 n))]) (rest := []) (lenOf pd_11 rfl) rfl (Nat.le_refl _) (hb' d25_6) (fun _ _ => ⟨rfl, eh2, (by decide : 0 + 0 ≤ _), (by decide : 0 + 0 ≤ _)⟩)
  dsimp only [Pt.U, Pt.locs, Pt.cells, Pt.slots] at X4 l4 y4 z4 st4 hQ4
  subst l4 y4 z4
  obtain ⟨rfl, Nq4, eh4⟩ := hQ4
  have N4 := Fr.app N2 Nq4
  have cn5 := fun (t : State) (kt : SF p e below T4 (mkF m 10 #[vi (Nat.toInt32 i), vi (Nat.toInt32 c), vr ba] []) t) => cn3 t (by
    refine st4 _ ?_
    exact XS.pop X4.here hx rfl (hb' d25_9) rfl rfl kt)
  obtain ⟨frs, hr, hrun, hended, hW, hsame⟩ := X4.leave (v := none) (fun _ => rfl)
  refine ⟨_, _, cn5 _ ?_, hrun, hended, _, _, rfl, ?_, ⟨_, rfl⟩, hW, hsame.mono (by decide) (by decide)⟩
  · exact X4.returnOut hx Bd.returns (hb' d25_10) hr
  · show QN h0 n0 _ T4.heap _
    rw [eh4]
    exact ⟨rfl, N4, rfl⟩

theorem d32_0 : DC c19' 0 (.iload_n 0) 1 := by decide +kernel
theorem d32_1 : DC c19' 1 (.iload_n 1) 1 := by decide +kernel
theorem d32_2 : DC c19' 2 (.if_icmp .gt 7) 3 := by decide +kernel
theorem d32_5 : DC c19' 5 (.iload_n 0) 1 := by decide +kernel
theorem d32_6 : DC c19' 6 (.goto 4) 3 := by decide +kernel
theorem d32_9 : DC c19' 9 (.iload_n 1) 1 := by decide +kernel
theorem d32_10 : DC c19' 10 (.ireturn) 1 := by decide +kernel
theorem ef_32 (m : MethodId) (x0 : Int32) (x1 : Int32) : entryFrame m #[(.int x0), (.int x1)] 2 = mkF m 0 #[.val (.int x0), .val (.int x1)] [] := by first | (simp [entryFrame, mkF, argsToLocals, Value.category]; done) | rfl
theorem rm32 (l : Launch) (Z : State) (a0 : Array Value) (hw : HW a0 Z) (ws : List Jvm.Cond) (x y : Int32) (h0 : Heap) (n0 : Nat) (O0 : Old Z n0 h0)  :
    MT l y19' c19' 2 (some .int) ws ({ frames := 0, cells := 0, slots := 0, locals := 0 } : Room) #[(.int x), (.int y)] Z h0 (QI (own_min x y) h0 n0) := by
  refine MetFree.of_bodySF (Jvm.Free.JP.mathPlain rfl (by decide +kernel)) hisR ?_
  intro p e s m args below meth kode s₁ Bd hml0 hP hK
  obtain ⟨rfl, hZ, hh⟩ := hP
  have hx := Bd.exec
  have hby := Bd.bytes
  have hb' := @hb _ _ hby
  have hml : kode.maxLocals = 2 := hml0
  have hown : s.vm.findClass "java/lang/Math" = some m.cls := findClass_of_methodNamed Bd.named
  have X0 : Stand p l e ({ frames := 0, cells := 0, slots := 0, locals := 0 } : Room) s m #[(.int x), (.int y)] below meth kode s₁ [] 0 0 := Stand.of_body Bd
  have e0 : s₁.heap = h0 := by rw [← hh, Bd.state]; rfl
  have N0 := Fr.nil n0
  have pre0 : ∀ t, SF p e below s₁ (mkF m 0 #[vi x, vi y] []) t → SF p e below s₁ (entryFrame m #[(.int x), (.int y)] 2) t := fun t k => castTop (ef_32 m x y) k
  have cn1 := fun (t : State) (kt : SF p e below s₁ (mkF m 2 #[vi x, vi y] [.int y, .int x]) t) => pre0 t (by
    refine XS.iloadN X0.here hx rfl (hb' d32_0) rfl ?_
    exact XS.iloadN X0.here hx rfl (hb' d32_1) rfl kt)
  by_cases hc2_2 : y < x
  · have cn3 := fun (t : State) (kt : SF p e below s₁ (mkF m 10 #[vi x, vi y] [.int y]) t) => cn1 t (by
      refine XS.icmpYes X0.here hx rfl (pc0 := 2) (pc' := 9) rfl (hb' d32_2) rfl (tlt hc2_2).2.2.1 (by decide) (by decide) ?_
      exact XS.iloadN X0.here hx rfl (hb' d32_9) rfl kt)
    obtain ⟨frs, hr, hrun, hended, hW, hsame⟩ := X0.leave (v := some (.int y)) (fun h => by rw [Bd.returns] at h; cases h)
    refine ⟨_, _, cn3 _ ?_, hrun, hended, _, _, rfl, ?_, ⟨_, rfl⟩, hW, hsame.mono (by decide) (by decide)⟩
    · exact retI X0 hx Bd.returns (hb' d32_10) hr
    · show QI (own_min x y) h0 n0 _ s₁.heap _
      rw [e0]
      exact ⟨by simp [own_min, hc2_2], N0, rfl⟩
  · have cn4 := fun (t : State) (kt : SF p e below s₁ (mkF m 10 #[vi x, vi y] [.int x]) t) => cn1 t (by
      refine XS.icmpNo X0.here hx rfl (hb' d32_2) rfl (flt hc2_2).2.2.1 ?_
      refine XS.iloadN X0.here hx rfl (hb' d32_5) rfl ?_
      exact XS.goto X0.here hx rfl (pc0 := 6) (pc' := 10) rfl (hb' d32_6) (by decide) (by decide) kt)
    obtain ⟨frs, hr, hrun, hended, hW, hsame⟩ := X0.leave (v := some (.int x)) (fun h => by rw [Bd.returns] at h; cases h)
    refine ⟨_, _, cn4 _ ?_, hrun, hended, _, _, rfl, ?_, ⟨_, rfl⟩, hW, hsame.mono (by decide) (by decide)⟩
    · exact retI X0 hx Bd.returns (hb' d32_10) hr
    · show QI (own_min x y) h0 n0 _ s₁.heap _
      rw [e0]
      exact ⟨by simp [own_min, hc2_2], N0, rfl⟩

theorem d39_0 : DC c20' 0 (.iload_n 0) 1 := by decide +kernel
theorem d39_1 : DC c20' 1 (.iload_n 1) 1 := by decide +kernel
theorem d39_2 : DC c20' 2 (.if_icmp .lt 7) 3 := by decide +kernel
theorem d39_5 : DC c20' 5 (.iload_n 0) 1 := by decide +kernel
theorem d39_6 : DC c20' 6 (.goto 4) 3 := by decide +kernel
theorem d39_9 : DC c20' 9 (.iload_n 1) 1 := by decide +kernel
theorem d39_10 : DC c20' 10 (.ireturn) 1 := by decide +kernel
theorem ef_39 (m : MethodId) (x0 : Int32) (x1 : Int32) : entryFrame m #[(.int x0), (.int x1)] 2 = mkF m 0 #[.val (.int x0), .val (.int x1)] [] := by first | (simp [entryFrame, mkF, argsToLocals, Value.category]; done) | rfl
theorem rm39 (l : Launch) (Z : State) (a0 : Array Value) (hw : HW a0 Z) (ws : List Jvm.Cond) (x y : Int32) (h0 : Heap) (n0 : Nat) (O0 : Old Z n0 h0)  :
    MT l y20' c20' 2 (some .int) ws ({ frames := 0, cells := 0, slots := 0, locals := 0 } : Room) #[(.int x), (.int y)] Z h0 (QI (own_max x y) h0 n0) := by
  refine MetFree.of_bodySF (Jvm.Free.JP.mathPlain rfl (by decide +kernel)) hisR ?_
  intro p e s m args below meth kode s₁ Bd hml0 hP hK
  obtain ⟨rfl, hZ, hh⟩ := hP
  have hx := Bd.exec
  have hby := Bd.bytes
  have hb' := @hb _ _ hby
  have hml : kode.maxLocals = 2 := hml0
  have hown : s.vm.findClass "java/lang/Math" = some m.cls := findClass_of_methodNamed Bd.named
  have X0 : Stand p l e ({ frames := 0, cells := 0, slots := 0, locals := 0 } : Room) s m #[(.int x), (.int y)] below meth kode s₁ [] 0 0 := Stand.of_body Bd
  have e0 : s₁.heap = h0 := by rw [← hh, Bd.state]; rfl
  have N0 := Fr.nil n0
  have pre0 : ∀ t, SF p e below s₁ (mkF m 0 #[vi x, vi y] []) t → SF p e below s₁ (entryFrame m #[(.int x), (.int y)] 2) t := fun t k => castTop (ef_39 m x y) k
  have cn1 := fun (t : State) (kt : SF p e below s₁ (mkF m 2 #[vi x, vi y] [.int y, .int x]) t) => pre0 t (by
    refine XS.iloadN X0.here hx rfl (hb' d39_0) rfl ?_
    exact XS.iloadN X0.here hx rfl (hb' d39_1) rfl kt)
  by_cases hc2_2 : x < y
  · have cn3 := fun (t : State) (kt : SF p e below s₁ (mkF m 10 #[vi x, vi y] [.int y]) t) => cn1 t (by
      refine XS.icmpYes X0.here hx rfl (pc0 := 2) (pc' := 9) rfl (hb' d39_2) rfl (tlt hc2_2).1 (by decide) (by decide) ?_
      exact XS.iloadN X0.here hx rfl (hb' d39_9) rfl kt)
    obtain ⟨frs, hr, hrun, hended, hW, hsame⟩ := X0.leave (v := some (.int y)) (fun h => by rw [Bd.returns] at h; cases h)
    refine ⟨_, _, cn3 _ ?_, hrun, hended, _, _, rfl, ?_, ⟨_, rfl⟩, hW, hsame.mono (by decide) (by decide)⟩
    · exact retI X0 hx Bd.returns (hb' d39_10) hr
    · show QI (own_max x y) h0 n0 _ s₁.heap _
      rw [e0]
      exact ⟨by simp [own_max, hc2_2], N0, rfl⟩
  · have cn4 := fun (t : State) (kt : SF p e below s₁ (mkF m 10 #[vi x, vi y] [.int x]) t) => cn1 t (by
      refine XS.icmpNo X0.here hx rfl (hb' d39_2) rfl (flt hc2_2).1 ?_
      refine XS.iloadN X0.here hx rfl (hb' d39_5) rfl ?_
      exact XS.goto X0.here hx rfl (pc0 := 6) (pc' := 10) rfl (hb' d39_6) (by decide) (by decide) kt)
    obtain ⟨frs, hr, hrun, hended, hW, hsame⟩ := X0.leave (v := some (.int x)) (fun h => by rw [Bd.returns] at h; cases h)
    refine ⟨_, _, cn4 _ ?_, hrun, hended, _, _, rfl, ?_, ⟨_, rfl⟩, hW, hsame.mono (by decide) (by decide)⟩
    · exact retI X0 hx Bd.returns (hb' d39_10) hr
    · show QI (own_max x y) h0 n0 _ s₁.heap _
      rw [e0]
      exact ⟨by simp [own_max, hc2_2], N0, rfl⟩

theorem d31_0 : DC c21' 0 (.iload_n 1) 1 := by decide +kernel
theorem d31_1 : DC c21' 1 (.iload_n 0) 1 := by decide +kernel
theorem d31_2 : DC c21' 2 (.if_icmp .ge 35) 3 := by decide +kernel
theorem d31_37 : DC c21' 37 (.return_) 1 := by decide +kernel
theorem pn_java_util_Arrays : plainName "java/util/Arrays" = true := by first | (simp [plainName, overriddenIn]; done) | decide +kernel
theorem ef_31 (m : MethodId) (x0 : Int32) (x1 : Int32) : entryFrame m #[(.int x0), (.int x1)] 2 = mkF m 0 #[.val (.int x0), .val (.int x1)] [] := by first | (simp [entryFrame, mkF, argsToLocals, Value.category]; done) | rfl
theorem rm31 (l : Launch) (Z : State) (a0 : Array Value) (hw : HW a0 Z) (ws : List Jvm.Cond) (c : Nat) (h0 : Heap) (n0 : Nat) (O0 : Old Z n0 h0) (hc : c ≤ 804) :
    MT l y21' c21' 2 none ws ({ frames := 0, cells := 0, slots := 0, locals := 0 } : Room) #[(.int (0 : Int32)), (.int (Nat.toInt32 c))] Z h0 (QN h0 n0) := by
  refine MetFree.of_bodySF (plainFor_of_name pn_java_util_Arrays) hisR ?_
  intro p e s m args below meth kode s₁ Bd hml0 hP hK
  obtain ⟨rfl, hZ, hh⟩ := hP
  have hx := Bd.exec
  have hby := Bd.bytes
  have hb' := @hb _ _ hby
  have hml : kode.maxLocals = 2 := hml0
  have hown : s.vm.findClass "java/util/Arrays" = some m.cls := findClass_of_methodNamed Bd.named
  have X0 : Stand p l e ({ frames := 0, cells := 0, slots := 0, locals := 0 } : Room) s m #[(.int (0 : Int32)), (.int (Nat.toInt32 c))] below meth kode s₁ [] 0 0 := Stand.of_body Bd
  have e0 : s₁.heap = h0 := by rw [← hh, Bd.state]; rfl
  have N0 := Fr.nil n0
  have pre0 : ∀ t, SF p e below s₁ (mkF m 0 #[vi 0, vi (Nat.toInt32 c)] []) t → SF p e below s₁ (entryFrame m #[(.int (0 : Int32)), (.int (Nat.toInt32 c))] 2) t := fun t k => castTop (ef_31 m (0 : Int32) (Nat.toInt32 c)) k
  have cn1 := fun (t : State) (kt : SF p e below s₁ (mkF m 2 #[vi 0, vi (Nat.toInt32 c)] [.int 0, .int (Nat.toInt32 c)]) t) => pre0 t (by
    refine XS.iloadN X0.here hx rfl (hb' d31_0) rfl ?_
    exact XS.iloadN X0.here hx rfl (hb' d31_1) rfl kt)
  have cn2 := fun (t : State) (kt : SF p e below s₁ (mkF m 37 #[vi 0, vi (Nat.toInt32 c)] []) t) => cn1 t (by
    exact XS.icmpYes X0.here hx rfl (pc0 := 2) (pc' := 37) rfl (hb' d31_2) rfl (flt (own_ix (by omega)).1).2.1 (by decide) (by decide) kt)
  obtain ⟨frs, hr, hrun, hended, hW, hsame⟩ := X0.leave (v := none) (fun _ => rfl)
  refine ⟨_, _, cn2 _ ?_, hrun, hended, _, _, rfl, ?_, ⟨_, rfl⟩, hW, hsame.mono (by decide) (by decide)⟩
  · exact X0.returnOut hx Bd.returns (hb' d31_37) hr
  · show QN h0 n0 _ s₁.heap _
    rw [e0]
    exact ⟨rfl, N0, rfl⟩

theorem d30_0 : DC c22' 0 (.iload_n 1) 1 := by decide +kernel
theorem d30_1 : DC c22' 1 (.iload_n 2) 1 := by decide +kernel
theorem d30_2 : DC c22' 2 (.invokestatic 343) 3 := by decide +kernel
theorem d30_5 : DC c22' 5 (.iload_n 2) 1 := by decide +kernel
theorem d30_6 : DC c22' 6 (.iload_n 1) 1 := by decide +kernel
theorem d30_7 : DC c22' 7 (.isub) 1 := by decide +kernel
theorem d30_8 : DC c22' 8 (.istore_n 3) 1 := by decide +kernel
theorem d30_9 : DC c22' 9 (.iload_n 3) 1 := by decide +kernel
theorem d30_10 : DC c22' 10 (.newarray .byte) 2 := by decide +kernel
theorem d30_12 : DC c22' 12 (.astore 4) 2 := by decide +kernel
theorem d30_14 : DC c22' 14 (.aload_n 0) 1 := by decide +kernel
theorem d30_15 : DC c22' 15 (.iload_n 1) 1 := by decide +kernel
theorem d30_16 : DC c22' 16 (.aload 4) 2 := by decide +kernel
theorem d30_18 : DC c22' 18 (.iconst 0) 1 := by decide +kernel
theorem d30_19 : DC c22' 19 (.aload_n 0) 1 := by decide +kernel
theorem d30_20 : DC c22' 20 (.arraylength) 1 := by decide +kernel
theorem d30_21 : DC c22' 21 (.iload_n 1) 1 := by decide +kernel
theorem d30_22 : DC c22' 22 (.isub) 1 := by decide +kernel
theorem d30_23 : DC c22' 23 (.iload_n 3) 1 := by decide +kernel
theorem d30_24 : DC c22' 24 (.invokestatic 304) 3 := by decide +kernel
theorem d30_27 : DC c22' 27 (.invokestatic 150) 3 := by decide +kernel
theorem d30_30 : DC c22' 30 (.aload 4) 2 := by decide +kernel
theorem d30_32 : DC c22' 32 (.areturn) 1 := by decide +kernel
theorem pd_13 : parseMethodDescriptor "(II)I" = some ⟨[.int, .int], some .int⟩ := by decide +kernel
theorem pd_12 : parseMethodDescriptor "(II)V" = some ⟨[.int, .int], none⟩ := by decide +kernel
theorem ef_30 (m : MethodId) (x0 : Addr) (x1 : Int32) (x2 : Int32) : entryFrame m #[(.ref x0), (.int x1), (.int x2)] 5 = mkF m 0 #[.val (.ref x0), .val (.int x1), .val (.int x2), .unset, .unset] [] := by first | (simp [entryFrame, mkF, argsToLocals, Value.category]; done) | rfl
theorem rm30 (l : Launch) (Z : State) (a0 : Array Value) (hw : HW a0 Z) (ws : List Jvm.Cond) (ba : Addr) (k : ClassId) (n c : Nat) (f : Nat → Value) (h0 : Heap) (n0 : Nat) (O0 : Old Z n0 h0) (hcn : c < n) (hn : n ≤ 804) (hc : c ≤ 406) (A_ba : AF Z h0 ba k .byte n f) (hfb : own_fb n f) :
    MT l y22' c22' 5 (some (.array .byte)) ws ({ frames := 1, cells := 1, slots := 406, locals := 40 } : Room) #[(.ref ba), (.int (0 : Int32)), (.int (Nat.toInt32 c))] Z h0 (QCP Z f c c h0 n0) := by
  refine MetFree.of_bodySF (plainFor_of_name pn_java_util_Arrays) hisR ?_
  intro p e s m args below meth kode s₁ Bd hml0 hP hK
  obtain ⟨rfl, hZ, hh⟩ := hP
  have hx := Bd.exec
  have hby := Bd.bytes
  have hb' := @hb _ _ hby
  have hml : kode.maxLocals = 5 := hml0
  have hown : s.vm.findClass "java/util/Arrays" = some m.cls := findClass_of_methodNamed Bd.named
  have X0 : Stand p l e ({ frames := 1, cells := 1, slots := 406, locals := 40 } : Room) s m #[(.ref ba), (.int (0 : Int32)), (.int (Nat.toInt32 c))] below meth kode s₁ [] 0 0 := Stand.of_body Bd
  have e0 : s₁.heap = h0 := by rw [← hh, Bd.state]; rfl
  have N0 := Fr.nil n0
  have pre0 : ∀ t, SF p e below s₁ (mkF m 0 #[vr ba, vi 0, vi (Nat.toInt32 c), .unset, .unset] []) t → SF p e below s₁ (entryFrame m #[(.ref ba), (.int (0 : Int32)), (.int (Nat.toInt32 c))] 5) t := fun t k => castTop (ef_30 m ba (0 : Int32) (Nat.toInt32 c)) k
  have hx2 := own_ix (i := c) (by omega)
  have cn1 := fun (t : State) (kt : SF p e below s₁ (mkF m 2 #[vr ba, vi 0, vi (Nat.toInt32 c), .unset, .unset] [.int (Nat.toInt32 c), .int 0]) t) => pre0 t (by
    refine XS.iloadN X0.here hx rfl (hb' d30_0) rfl ?_
    exact XS.iloadN X0.here hx rfl (hb' d30_1) rfl kt)
  obtain ⟨_, _, ⟨T2, L2, k2, n2⟩, -, X2, ⟨Lc2, hQ2, l2, y2, z2⟩, st2⟩ := Jvm.LawKit.callS X0 hx (y := y21') hown (mvT hZ (wq hw 138 rfl)) (mvT hZ (wq hw 139 rfl)) (mvT hZ (wq hw 133 rfl)) (mvT hZ (wq hw 140 rfl)) (by decide) (backOf (W := 0) (rm31 l Z a0 hw [] c h0 n0 O0 (by omega)) hZ (wq hw 140 rfl) (wq hw 133 rfl) (by decide) (by decide)) (g := (mkF m 2 #[vr ba, vi 0, vi (Nat.toInt32 c), .unset, .unset] [.int (Nat.toInt32 c), .int 0])) rfl (by rw [hml]; rfl) (argsL := [(.int (0 : Int32)), (.int (Nat.toInt32 c))]) (rest := []) (lenOf pd_12 rfl) rfl (Nat.le_refl _) (hb' d30_2) (fun _ _ => ⟨rfl, e0, (by decide : 0 + 0 ≤ _), (by decide : 0 + 0 ≤ _)⟩)
  dsimp only [Pt.U, Pt.locs, Pt.cells, Pt.slots] at X2 l2 y2 z2 st2 hQ2
  subst l2 y2 z2
  obtain ⟨rfl, Nq2, eh2⟩ := hQ2
  have N2 := Fr.app N0 Nq2
  have cn3 := fun (t : State) (kt : SF p e below T2 (mkF m 8 #[vr ba, vi 0, vi (Nat.toInt32 c), .unset, .unset] [.int ((Nat.toInt32 c) - (0 : Int32))]) t) => cn1 t (by
    refine st2 _ ?_
    refine XS.iloadN X2.here hx rfl (hb' d30_5) rfl ?_
    refine XS.iloadN X2.here hx rfl (hb' d30_6) rfl ?_
    exact XS.isub X2.here hx rfl (hb' d30_7) rfl kt)
  have cn4 : ∀ t, SF p e below T2 (mkF m 8 #[vr ba, vi 0, vi (Nat.toInt32 c), .unset, .unset] [.int (Nat.toInt32 c)]) t → SF p e below s₁ (entryFrame m #[(.ref ba), (.int (0 : Int32)), (.int (Nat.toInt32 c))] 5) t := by have q := cn3; rw [(id (own_sub0 _) : ((Nat.toInt32 c) - (0 : Int32)) = (Nat.toInt32 c))] at q; exact q
  have cn5 := fun (t : State) (kt : SF p e below T2 (mkF m 10 #[vr ba, vi 0, vi (Nat.toInt32 c), vi (Nat.toInt32 c), .unset] [.int (Nat.toInt32 c)]) t) => cn4 t (by
    refine XS.istoreN X2.here hx rfl (hb' d30_8) rfl (l' := #[vr ba, vi 0, vi (Nat.toInt32 c), vi (Nat.toInt32 c), .unset]) rfl ?_
    exact XS.iloadN X2.here hx rfl (hb' d30_9) rfl kt)
  obtain ⟨T6, h6, k6, X6, e6, E6, A6, st6⟩ := newP X2 hx hZ (wq hw 15 rfl) eh2 (g := (mkF m 10 #[vr ba, vi 0, vi (Nat.toInt32 c), vi (Nat.toInt32 c), .unset] [.int (Nat.toInt32 c)])) rfl (hb' d30_10) rfl hx2.1 (cap := 406) (by rw [hx2.2]; omega) (by decide) (by decide) (by decide)
  obtain ⟨b6, g6⟩ : ∃ z, z = h0.size := ⟨_, rfl⟩
  rw [← g6] at A6 st6
  have ne_ba_b6 : ba ≠ b6 := Nat.ne_of_lt (Nat.lt_of_lt_of_le A_ba.lt (Nat.le_of_eq g6.symm))
  have sz_b6 : h0.size ≤ b6 := Nat.le_trans (Keep.refl h0 []).1 (Nat.le_of_eq g6.symm)
  have g_b6 : n0 ≤ b6 := Nat.le_trans (O0.1 ▸ O0.2.1) sz_b6
  have A_ba_e6 := A_ba.ext E6
  have O6 := O0.ext E6
  have K6 : Keep h0 h6 [] := (Keep.refl h0 []).ext E6
  have AF6 : AF Z h6 b6 k6 .byte c (fun _ => defaultValue .byte) := AF.new A6 hx2.2
  have cn7 := fun (t : State) (kt : SF p e below T6 (mkF m 20 #[vr ba, vi 0, vi (Nat.toInt32 c), vi (Nat.toInt32 c), vr b6] [.ref ba, .int 0, .ref b6, .int 0, .ref ba]) t) => cn5 t (by
    refine st6 _ ?_
    refine XS.astore X6.here hx rfl (hb' d30_12) rfl rfl (l' := #[vr ba, vi 0, vi (Nat.toInt32 c), vi (Nat.toInt32 c), vr b6]) rfl ?_
    refine XS.aloadN X6.here hx rfl (hb' d30_14) rfl rfl ?_
    refine XS.iloadN X6.here hx rfl (hb' d30_15) rfl ?_
    refine XS.aload X6.here hx rfl (hb' d30_16) rfl rfl ?_
    refine XS.iconst X6.here hx rfl (hb' d30_18) ?_
    exact XS.aloadN X6.here hx rfl (hb' d30_19) rfl rfl kt)
  have AFx8 := A_ba_e6
  obtain ⟨cl8, Ar8, q8, S8, H8⟩ := AFx8
  have cn9 := fun (t : State) (kt : SF p e below T6 (mkF m 23 #[vr ba, vi 0, vi (Nat.toInt32 c), vi (Nat.toInt32 c), vr b6] [.int ((Nat.toInt32 n) - (0 : Int32)), .int 0, .ref b6, .int 0, .ref ba]) t) => cn7 t (by
    refine X6.arraylength hx (by rw [e6]; exact Ar8.1) (State.isArrayOf_alike hZ.alike Ar8.2.1) (g := (mkF m 20 #[vr ba, vi 0, vi (Nat.toInt32 c), vi (Nat.toInt32 c), vr b6] [.ref ba, .int 0, .ref b6, .int 0, .ref ba])) rfl rfl (hb' d30_20) _ ?_
    rw [S8]
    refine XS.iloadN X6.here hx rfl (hb' d30_21) rfl ?_
    exact XS.isub X6.here hx rfl (hb' d30_22) rfl kt)
  have cn10 : ∀ t, SF p e below T6 (mkF m 23 #[vr ba, vi 0, vi (Nat.toInt32 c), vi (Nat.toInt32 c), vr b6] [.int (Nat.toInt32 n), .int 0, .ref b6, .int 0, .ref ba]) t → SF p e below s₁ (entryFrame m #[(.ref ba), (.int (0 : Int32)), (.int (Nat.toInt32 c))] 5) t := by have q := cn9; rw [(id (own_sub0 _) : ((Nat.toInt32 n) - (0 : Int32)) = (Nat.toInt32 n))] at q; exact q
  have cn11 := fun (t : State) (kt : SF p e below T6 (mkF m 24 #[vr ba, vi 0, vi (Nat.toInt32 c), vi (Nat.toInt32 c), vr b6] [.int (Nat.toInt32 c), .int (Nat.toInt32 n), .int 0, .ref b6, .int 0, .ref ba]) t) => cn10 t (by
    exact XS.iloadN X6.here hx rfl (hb' d30_23) rfl kt)
  obtain ⟨_, _, ⟨T12, L12, k12, n12⟩, -, X12, ⟨Lc12, hQ12, l12, y12, z12⟩, st12⟩ := Jvm.LawKit.callS X6 hx (y := y19') hown (mvT hZ (wq hw 141 rfl)) (mvT hZ (wq hw 142 rfl)) (mvT hZ (wq hw 143 rfl)) (mvT hZ (wq hw 144 rfl)) (by decide) (backOf (W := 4) (rm32 l Z a0 hw [] (Nat.toInt32 n) (Nat.toInt32 c) h6 n0 O6) hZ (wq hw 144 rfl) (wq hw 143 rfl) (by decide) (by decide)) (g := (mkF m 24 #[vr ba, vi 0, vi (Nat.toInt32 c), vi (Nat.toInt32 c), vr b6] [.int (Nat.toInt32 c), .int (Nat.toInt32 n), .int 0, .ref b6, .int 0, .ref ba])) rfl (by rw [hml]; rfl) (argsL := [(.int (Nat.toInt32 n)), (.int (Nat.toInt32 c))]) (rest := [(.int (0 : Int32)), (.ref b6), (.int (0 : Int32)), (.ref ba)]) (lenOf pd_13 rfl) rfl (Nat.le_refl _) (hb' d30_24) (fun _ _ => ⟨rfl, e6, (by decide : 1 + 0 ≤ _), (by decide : 406 + 0 ≤ _)⟩)
  dsimp only [Pt.U, Pt.locs, Pt.cells, Pt.slots] at X12 l12 y12 z12 st12 hQ12
  subst l12 y12 z12
  obtain ⟨rfl, Nq12, eh12⟩ := hQ12
  have N12 := Fr.app N2 Nq12
  have cn13 := fun (t : State) (kt : SF p e below T12 (mkF m 27 #[vr ba, vi 0, vi (Nat.toInt32 c), vi (Nat.toInt32 c), vr b6] [.int (own_min (Nat.toInt32 n) (Nat.toInt32 c)), .int 0, .ref b6, .int 0, .ref ba]) t) => cn11 t (by
    exact st12 _ kt)
  have cn14 : ∀ t, SF p e below T12 (mkF m 27 #[vr ba, vi 0, vi (Nat.toInt32 c), vi (Nat.toInt32 c), vr b6] [.int (Nat.toInt32 c), .int 0, .ref b6, .int 0, .ref ba]) t → SF p e below s₁ (entryFrame m #[(.ref ba), (.int (0 : Int32)), (.int (Nat.toInt32 c))] 5) t := by have q := cn13; rw [(id (own_minr (by omega) (by omega)) : (own_min (Nat.toInt32 n) (Nat.toInt32 c)) = (Nat.toInt32 c))] at q; exact q
  have hs15 : ¬ (0 : Int32) < 0 ∧ ((0 : Int32)).toNatClampNeg = 0 := own_ix (i := 0) (by omega)
  have hd15 : ¬ (0 : Int32) < 0 ∧ ((0 : Int32)).toNatClampNeg = 0 := own_ix (i := 0) (by omega)
  have hn15 : ¬ (Nat.toInt32 c) < 0 ∧ ((Nat.toInt32 c)).toNatClampNeg = c := own_ix (i := c) (by omega)
  have ha15 := own_ix (i := n) (by omega)
  have hb15 := own_ix (i := c) (by omega)
  have VS15 := own_arv (d := .int 0) A_ba_e6 hfb (by omega)
  have VD15 := own_arv (d := .int 0) AF6 (own_fb0 c) (by omega)
  obtain ⟨T15, h15, L15, X15, e15, N15, Kq15, VR15, st15⟩ := cpA X12 hx hZ hown (wq hw 145 rfl) (wq hw 148 rfl) (wq hw 146 rfl) (wq hw 147 rfl) eh12 VS15 VD15 (Or.inl ⟨rfl, rfl⟩) hs15.1 hd15.1 hn15.1 (by simp only [hs15.2, hn15.2, ha15.2]; omega) (by simp only [hd15.2, hn15.2, hb15.2]; omega) rfl (by simp only [hd15.2, hn15.2, List.length_map, List.length_range]; omega) N12 g_b6 (g := (mkF m 27 #[vr ba, vi 0, vi (Nat.toInt32 c), vi (Nat.toInt32 c), vr b6] [.int (Nat.toInt32 c), .int 0, .ref b6, .int 0, .ref ba])) rfl (by rw [hml]; rfl) rfl (hb' d30_27) (by decide) (W := 0) (Nat.le_refl _) (by decide)
  have K15 := Kq15
  have A_ba_e15 := A_ba_e6.keep K15 (ninS ne_ba_b6 nin0)
  have O15 := O6.keep K15 (allS g_b6 all0)
  have KK15 : Keep h0 h15 [] := K6.trans K15 (allS (Or.inr sz_b6) all0)
  have AF15 : AF Z h15 b6 k6 .byte c (own_cp f (fun _ => defaultValue .byte) 0 0 c) := (AF.of_arv VR15 hb15.2).congr (fun q hq => by simp only [hd15.2, hn15.2, hs15.2]; exact own_cpL (by omega) (by omega) hq)
  have cn16 := fun (t : State) (kt : SF p e below T15 (mkF m 32 #[vr ba, vi 0, vi (Nat.toInt32 c), vi (Nat.toInt32 c), vr b6] [.ref b6]) t) => cn14 t (by
    refine st15 _ ?_
    exact XS.aload X15.here hx rfl (hb' d30_30) rfl rfl kt)
  obtain ⟨frs, hr, hrun, hended, hW, hsame⟩ := X15.leave (v := some (.ref b6)) (fun h => by rw [Bd.returns] at h; cases h)
  refine ⟨_, _, cn16 _ ?_, hrun, hended, _, _, rfl, ?_, ⟨_, rfl⟩, hW, hsame.mono (by decide) (by decide)⟩
  · jvm_step X15.here [X15.here.top, hx, (hb' d30_32), X15.method', Bd.returns, Value.isRef, FieldType.isReference]
    first | (intro acts; rw [hr _ acts rfl rfl rfl]) | rw [hr _ _ rfl rfl rfl]
    exact Steps.refl _
  · show QCP Z f c c h0 n0 _ T15.heap _
    rw [e15]
    exact ⟨b6, _, _, rfl, N15, KK15, sz_b6, AF15, fun j hj => own_cp0 hj, own_fb_cp hfb (own_fb0 c) (by omega)⟩

theorem d29_0 : DC c23' 0 (.iload_n 1) 1 := by decide +kernel
theorem d29_1 : DC c23' 1 (.ifCond .ne 9) 3 := by decide +kernel
theorem d29_4 : DC c23' 4 (.iload_n 2) 1 := by decide +kernel
theorem d29_5 : DC c23' 5 (.aload_n 0) 1 := by decide +kernel
theorem d29_6 : DC c23' 6 (.arraylength) 1 := by decide +kernel
theorem d29_7 : DC c23' 7 (.if_icmp .eq 10) 3 := by decide +kernel
theorem d29_10 : DC c23' 10 (.aload_n 0) 1 := by decide +kernel
theorem d29_11 : DC c23' 11 (.iload_n 1) 1 := by decide +kernel
theorem d29_12 : DC c23' 12 (.iload_n 2) 1 := by decide +kernel
theorem d29_13 : DC c23' 13 (.invokestatic 339) 3 := by decide +kernel
theorem d29_16 : DC c23' 16 (.areturn) 1 := by decide +kernel
theorem pd_14 : parseMethodDescriptor "([BII)[B" = some ⟨[(.array .byte), .int, .int], some (.array .byte)⟩ := by decide +kernel
theorem ef_29 (m : MethodId) (x0 : Addr) (x1 : Int32) (x2 : Int32) : entryFrame m #[(.ref x0), (.int x1), (.int x2)] 3 = mkF m 0 #[.val (.ref x0), .val (.int x1), .val (.int x2)] [] := by first | (simp [entryFrame, mkF, argsToLocals, Value.category]; done) | rfl
theorem rm29 (l : Launch) (Z : State) (a0 : Array Value) (hw : HW a0 Z) (ws : List Jvm.Cond) (ba : Addr) (k : ClassId) (n c : Nat) (f : Nat → Value) (h0 : Heap) (n0 : Nat) (O0 : Old Z n0 h0) (hcn : c < n) (hn : n ≤ 804) (hc : c ≤ 406) (A_ba : AF Z h0 ba k .byte n f) (hfb : own_fb n f) :
    MT l y23' c23' 3 (some (.array .byte)) ws ({ frames := 2, cells := 1, slots := 406, locals := 56 } : Room) #[(.ref ba), (.int (0 : Int32)), (.int (Nat.toInt32 c))] Z h0 (QCP Z f c c h0 n0) := by
  refine MetFree.of_bodySF (plainFor_of_name pn_java_util_Arrays) hisR ?_
  intro p e s m args below meth kode s₁ Bd hml0 hP hK
  obtain ⟨rfl, hZ, hh⟩ := hP
  have hx := Bd.exec
  have hby := Bd.bytes
  have hb' := @hb _ _ hby
  have hml : kode.maxLocals = 3 := hml0
  have hown : s.vm.findClass "java/util/Arrays" = some m.cls := findClass_of_methodNamed Bd.named
  have X0 : Stand p l e ({ frames := 2, cells := 1, slots := 406, locals := 56 } : Room) s m #[(.ref ba), (.int (0 : Int32)), (.int (Nat.toInt32 c))] below meth kode s₁ [] 0 0 := Stand.of_body Bd
  have e0 : s₁.heap = h0 := by rw [← hh, Bd.state]; rfl
  have N0 := Fr.nil n0
  have pre0 : ∀ t, SF p e below s₁ (mkF m 0 #[vr ba, vi 0, vi (Nat.toInt32 c)] []) t → SF p e below s₁ (entryFrame m #[(.ref ba), (.int (0 : Int32)), (.int (Nat.toInt32 c))] 3) t := fun t k => castTop (ef_29 m ba (0 : Int32) (Nat.toInt32 c)) k
  have cn1 := fun (t : State) (kt : SF p e below s₁ (mkF m 1 #[vr ba, vi 0, vi (Nat.toInt32 c)] [.int 0]) t) => pre0 t (by
    exact XS.iloadN X0.here hx rfl (hb' d29_0) rfl kt)
  have cn2 := fun (t : State) (kt : SF p e below s₁ (mkF m 6 #[vr ba, vi 0, vi (Nat.toInt32 c)] [.ref ba, .int (Nat.toInt32 c)]) t) => cn1 t (by
    refine XS.ifNo X0.here hx rfl (hb' d29_1) rfl ((if0 _ _).trans (teq (by decide : (0 : Int32) = (0 : Int32))).2) ?_
    refine XS.iloadN X0.here hx rfl (hb' d29_4) rfl ?_
    exact XS.aloadN X0.here hx rfl (hb' d29_5) rfl rfl kt)
  have AFx3 := A_ba
  obtain ⟨cl3, Ar3, q3, S3, H3⟩ := AFx3
  have cn4 := fun (t : State) (kt : SF p e below s₁ (mkF m 7 #[vr ba, vi 0, vi (Nat.toInt32 c)] [.int (Nat.toInt32 n), .int (Nat.toInt32 c)]) t) => cn2 t (by
    refine X0.arraylength hx (by rw [e0]; exact Ar3.1) (State.isArrayOf_alike hZ.alike Ar3.2.1) (g := (mkF m 6 #[vr ba, vi 0, vi (Nat.toInt32 c)] [.ref ba, .int (Nat.toInt32 c)])) rfl rfl (hb' d29_6) _ ?_
    rw [S3]
    exact kt)
  have cn5 := fun (t : State) (kt : SF p e below s₁ (mkF m 13 #[vr ba, vi 0, vi (Nat.toInt32 c)] [.int (Nat.toInt32 c), .int 0, .ref ba]) t) => cn4 t (by
    refine XS.icmpNo X0.here hx rfl (hb' d29_7) rfl (feq (fun q => absurd ((own_eqn (by omega) (by omega)).mp q) (by omega))).1 ?_
    refine XS.aloadN X0.here hx rfl (hb' d29_10) rfl rfl ?_
    refine XS.iloadN X0.here hx rfl (hb' d29_11) rfl ?_
    exact XS.iloadN X0.here hx rfl (hb' d29_12) rfl kt)
  obtain ⟨_, _, ⟨T6, L6, k6, n6⟩, -, X6, ⟨Lc6, hQ6, l6, y6, z6⟩, st6⟩ := Jvm.LawKit.callS X0 hx (y := y22') hown (mvT hZ (wq hw 135 rfl)) (mvT hZ (wq hw 136 rfl)) (mvT hZ (wq hw 133 rfl)) (mvT hZ (wq hw 137 rfl)) (by decide) (backOf (W := 0) (rm30 l Z a0 hw [] ba k n c f h0 n0 O0 (by omega) (by omega) (by omega) A_ba hfb) hZ (wq hw 137 rfl) (wq hw 133 rfl) (by decide) (by decide)) (g := (mkF m 13 #[vr ba, vi 0, vi (Nat.toInt32 c)] [.int (Nat.toInt32 c), .int 0, .ref ba])) rfl (by rw [hml]; rfl) (argsL := [(.ref ba), (.int (0 : Int32)), (.int (Nat.toInt32 c))]) (rest := []) (lenOf pd_14 rfl) rfl (Nat.le_refl _) (hb' d29_13) (fun _ _ => ⟨rfl, e0, (by decide : 0 + 1 ≤ _), (by decide : 0 + 406 ≤ _)⟩)
  dsimp only [Pt.U, Pt.locs, Pt.cells, Pt.slots] at X6 l6 y6 z6 st6 hQ6
  subst l6 y6 z6
  obtain ⟨r6x, kq6, f6, rfl, Nq6, Kq6, szq6, Aq6, hcp6, hfb6⟩ := hQ6
  have N6 := Fr.app N0 Nq6
  have ne_ba_r6x : ba ≠ r6x := Nat.ne_of_lt (Nat.lt_of_lt_of_le A_ba.lt szq6)
  have sz_r6x : h0.size ≤ r6x := Nat.le_trans (Keep.refl h0 []).1 szq6
  have g_r6x : n0 ≤ r6x := Nat.le_trans (O0.1 ▸ O0.2.1) sz_r6x
  have K6 := Kq6
  have A_ba_e6 := A_ba.keep K6 nin0
  have O6 := O0.keep K6 all0
  have KK6 : Keep h0 T6.heap [] := (Keep.refl h0 []).trans K6 all0
  have cn7 := fun (t : State) (kt : SF p e below T6 (mkF m 16 #[vr ba, vi 0, vi (Nat.toInt32 c)] [.ref r6x]) t) => cn5 t (by
    exact st6 _ kt)
  obtain ⟨frs, hr, hrun, hended, hW, hsame⟩ := X6.leave (v := some (.ref r6x)) (fun h => by rw [Bd.returns] at h; cases h)
  refine ⟨_, _, cn7 _ ?_, hrun, hended, _, _, rfl, ?_, ⟨_, rfl⟩, hW, hsame.mono (by decide) (by decide)⟩
  · jvm_step X6.here [X6.here.top, hx, (hb' d29_16), X6.method', Bd.returns, Value.isRef, FieldType.isReference]
    first | (intro acts; rw [hr _ acts rfl rfl rfl]) | rw [hr _ _ rfl rfl rfl]
    exact Steps.refl _
  · show QCP Z f c c h0 n0 _ T6.heap _
    exact ⟨r6x, _, _, rfl, N6, KK6, sz_r6x, Aq6, hcp6, hfb6⟩

theorem d40_0 : DC c24' 0 (.iload_n 1) 1 := by decide +kernel
theorem d40_1 : DC c24' 1 (.aload_n 0) 1 := by decide +kernel
theorem d40_2 : DC c24' 2 (.arraylength) 1 := by decide +kernel
theorem d40_3 : DC c24' 3 (.if_icmp .ne 11) 3 := by decide +kernel
theorem d40_14 : DC c24' 14 (.iload_n 1) 1 := by decide +kernel
theorem d40_15 : DC c24' 15 (.newarray .byte) 2 := by decide +kernel
theorem d40_17 : DC c24' 17 (.astore_n 2) 1 := by decide +kernel
theorem d40_18 : DC c24' 18 (.aload_n 0) 1 := by decide +kernel
theorem d40_19 : DC c24' 19 (.iconst 0) 1 := by decide +kernel
theorem d40_20 : DC c24' 20 (.aload_n 2) 1 := by decide +kernel
theorem d40_21 : DC c24' 21 (.iconst 0) 1 := by decide +kernel
theorem d40_22 : DC c24' 22 (.aload_n 0) 1 := by decide +kernel
theorem d40_23 : DC c24' 23 (.arraylength) 1 := by decide +kernel
theorem d40_24 : DC c24' 24 (.iload_n 1) 1 := by decide +kernel
theorem d40_25 : DC c24' 25 (.invokestatic 304) 3 := by decide +kernel
theorem d40_28 : DC c24' 28 (.invokestatic 150) 3 := by decide +kernel
theorem d40_31 : DC c24' 31 (.aload_n 2) 1 := by decide +kernel
theorem d40_32 : DC c24' 32 (.areturn) 1 := by decide +kernel
theorem ef_40 (m : MethodId) (x0 : Addr) (x1 : Int32) : entryFrame m #[(.ref x0), (.int x1)] 3 = mkF m 0 #[.val (.ref x0), .val (.int x1), .unset] [] := by first | (simp [entryFrame, mkF, argsToLocals, Value.category]; done) | rfl
theorem rm40 (l : Launch) (Z : State) (a0 : Array Value) (hw : HW a0 Z) (ws : List Jvm.Cond) (ba : Addr) (k : ClassId) (n c : Nat) (f : Nat → Value) (h0 : Heap) (n0 : Nat) (O0 : Old Z n0 h0) (hcn : n < c) (hn : n ≤ 804) (hc : c ≤ 804) (A_ba : AF Z h0 ba k .byte n f) (hfb : own_fb n f) :
    MT l y24' c24' 3 (some (.array .byte)) ws ({ frames := 1, cells := 1, slots := 804, locals := 40 } : Room) #[(.ref ba), (.int (Nat.toInt32 c))] Z h0 (QCP Z f n c h0 n0) := by
  refine MetFree.of_bodySF (plainFor_of_name pn_java_util_Arrays) hisR ?_
  intro p e s m args below meth kode s₁ Bd hml0 hP hK
  obtain ⟨rfl, hZ, hh⟩ := hP
  have hx := Bd.exec
  have hby := Bd.bytes
  have hb' := @hb _ _ hby
  have hml : kode.maxLocals = 3 := hml0
  have hown : s.vm.findClass "java/util/Arrays" = some m.cls := findClass_of_methodNamed Bd.named
  have X0 : Stand p l e ({ frames := 1, cells := 1, slots := 804, locals := 40 } : Room) s m #[(.ref ba), (.int (Nat.toInt32 c))] below meth kode s₁ [] 0 0 := Stand.of_body Bd
  have e0 : s₁.heap = h0 := by rw [← hh, Bd.state]; rfl
  have N0 := Fr.nil n0
  have pre0 : ∀ t, SF p e below s₁ (mkF m 0 #[vr ba, vi (Nat.toInt32 c), .unset] []) t → SF p e below s₁ (entryFrame m #[(.ref ba), (.int (Nat.toInt32 c))] 3) t := fun t k => castTop (ef_40 m ba (Nat.toInt32 c)) k
  have hx2 := own_ix (i := c) (by omega)
  have cn1 := fun (t : State) (kt : SF p e below s₁ (mkF m 2 #[vr ba, vi (Nat.toInt32 c), .unset] [.ref ba, .int (Nat.toInt32 c)]) t) => pre0 t (by
    refine XS.iloadN X0.here hx rfl (hb' d40_0) rfl ?_
    exact XS.aloadN X0.here hx rfl (hb' d40_1) rfl rfl kt)
  have AFx2 := A_ba
  obtain ⟨cl2, Ar2, q2, S2, H2⟩ := AFx2
  have cn3 := fun (t : State) (kt : SF p e below s₁ (mkF m 3 #[vr ba, vi (Nat.toInt32 c), .unset] [.int (Nat.toInt32 n), .int (Nat.toInt32 c)]) t) => cn1 t (by
    refine X0.arraylength hx (by rw [e0]; exact Ar2.1) (State.isArrayOf_alike hZ.alike Ar2.2.1) (g := (mkF m 2 #[vr ba, vi (Nat.toInt32 c), .unset] [.ref ba, .int (Nat.toInt32 c)])) rfl rfl (hb' d40_2) _ ?_
    rw [S2]
    exact kt)
  have cn4 := fun (t : State) (kt : SF p e below s₁ (mkF m 15 #[vr ba, vi (Nat.toInt32 c), .unset] [.int (Nat.toInt32 c)]) t) => cn3 t (by
    refine XS.icmpYes X0.here hx rfl (pc0 := 3) (pc' := 14) rfl (hb' d40_3) rfl (feq (fun q => absurd ((own_eqn (by omega) (by omega)).mp q) (by omega))).2 (by decide) (by decide) ?_
    exact XS.iloadN X0.here hx rfl (hb' d40_14) rfl kt)
  obtain ⟨T5, h5, k5, X5, e5, E5, A5, st5⟩ := newP X0 hx hZ (wq hw 15 rfl) e0 (g := (mkF m 15 #[vr ba, vi (Nat.toInt32 c), .unset] [.int (Nat.toInt32 c)])) rfl (hb' d40_15) rfl hx2.1 (cap := 804) (by rw [hx2.2]; omega) (by decide) (by decide) (by decide)
  obtain ⟨b5, g5⟩ : ∃ z, z = h0.size := ⟨_, rfl⟩
  rw [← g5] at A5 st5
  have ne_ba_b5 : ba ≠ b5 := Nat.ne_of_lt (Nat.lt_of_lt_of_le A_ba.lt (Nat.le_of_eq g5.symm))
  have sz_b5 : h0.size ≤ b5 := Nat.le_trans (Keep.refl h0 []).1 (Nat.le_of_eq g5.symm)
  have g_b5 : n0 ≤ b5 := Nat.le_trans (O0.1 ▸ O0.2.1) sz_b5
  have A_ba_e5 := A_ba.ext E5
  have O5 := O0.ext E5
  have K5 : Keep h0 h5 [] := (Keep.refl h0 []).ext E5
  have AF5 : AF Z h5 b5 k5 .byte c (fun _ => defaultValue .byte) := AF.new A5 hx2.2
  have cn6 := fun (t : State) (kt : SF p e below T5 (mkF m 23 #[vr ba, vi (Nat.toInt32 c), vr b5] [.ref ba, .int 0, .ref b5, .int 0, .ref ba]) t) => cn4 t (by
    refine st5 _ ?_
    refine XS.astoreN X5.here hx rfl (hb' d40_17) rfl rfl (l' := #[vr ba, vi (Nat.toInt32 c), vr b5]) rfl ?_
    refine XS.aloadN X5.here hx rfl (hb' d40_18) rfl rfl ?_
    refine XS.iconst X5.here hx rfl (hb' d40_19) ?_
    refine XS.aloadN X5.here hx rfl (hb' d40_20) rfl rfl ?_
    refine XS.iconst X5.here hx rfl (hb' d40_21) ?_
    exact XS.aloadN X5.here hx rfl (hb' d40_22) rfl rfl kt)
  have AFx7 := A_ba_e5
  obtain ⟨cl7, Ar7, q7, S7, H7⟩ := AFx7
  have cn8 := fun (t : State) (kt : SF p e below T5 (mkF m 25 #[vr ba, vi (Nat.toInt32 c), vr b5] [.int (Nat.toInt32 c), .int (Nat.toInt32 n), .int 0, .ref b5, .int 0, .ref ba]) t) => cn6 t (by
    refine X5.arraylength hx (by rw [e5]; exact Ar7.1) (State.isArrayOf_alike hZ.alike Ar7.2.1) (g := (mkF m 23 #[vr ba, vi (Nat.toInt32 c), vr b5] [.ref ba, .int 0, .ref b5, .int 0, .ref ba])) rfl rfl (hb' d40_23) _ ?_
    rw [S7]
    exact XS.iloadN X5.here hx rfl (hb' d40_24) rfl kt)
  obtain ⟨_, _, ⟨T9, L9, k9, n9⟩, -, X9, ⟨Lc9, hQ9, l9, y9, z9⟩, st9⟩ := Jvm.LawKit.callS X5 hx (y := y19') hown (mvT hZ (wq hw 141 rfl)) (mvT hZ (wq hw 142 rfl)) (mvT hZ (wq hw 143 rfl)) (mvT hZ (wq hw 144 rfl)) (by decide) (backOf (W := 4) (rm32 l Z a0 hw [] (Nat.toInt32 n) (Nat.toInt32 c) h5 n0 O5) hZ (wq hw 144 rfl) (wq hw 143 rfl) (by decide) (by decide)) (g := (mkF m 25 #[vr ba, vi (Nat.toInt32 c), vr b5] [.int (Nat.toInt32 c), .int (Nat.toInt32 n), .int 0, .ref b5, .int 0, .ref ba])) rfl (by rw [hml]; rfl) (argsL := [(.int (Nat.toInt32 n)), (.int (Nat.toInt32 c))]) (rest := [(.int (0 : Int32)), (.ref b5), (.int (0 : Int32)), (.ref ba)]) (lenOf pd_13 rfl) rfl (Nat.le_refl _) (hb' d40_25) (fun _ _ => ⟨rfl, e5, (by decide : 1 + 0 ≤ _), (by decide : 804 + 0 ≤ _)⟩)
  dsimp only [Pt.U, Pt.locs, Pt.cells, Pt.slots] at X9 l9 y9 z9 st9 hQ9
  subst l9 y9 z9
  obtain ⟨rfl, Nq9, eh9⟩ := hQ9
  have N9 := Fr.app N0 Nq9
  have cn10 := fun (t : State) (kt : SF p e below T9 (mkF m 28 #[vr ba, vi (Nat.toInt32 c), vr b5] [.int (own_min (Nat.toInt32 n) (Nat.toInt32 c)), .int 0, .ref b5, .int 0, .ref ba]) t) => cn8 t (by
    exact st9 _ kt)
  have cn11 : ∀ t, SF p e below T9 (mkF m 28 #[vr ba, vi (Nat.toInt32 c), vr b5] [.int (Nat.toInt32 n), .int 0, .ref b5, .int 0, .ref ba]) t → SF p e below s₁ (entryFrame m #[(.ref ba), (.int (Nat.toInt32 c))] 3) t := by have q := cn10; rw [(id (own_minl (by omega) (by omega)) : (own_min (Nat.toInt32 n) (Nat.toInt32 c)) = (Nat.toInt32 n))] at q; exact q
  have hs12 : ¬ (0 : Int32) < 0 ∧ ((0 : Int32)).toNatClampNeg = 0 := own_ix (i := 0) (by omega)
  have hd12 : ¬ (0 : Int32) < 0 ∧ ((0 : Int32)).toNatClampNeg = 0 := own_ix (i := 0) (by omega)
  have hn12 : ¬ (Nat.toInt32 n) < 0 ∧ ((Nat.toInt32 n)).toNatClampNeg = n := own_ix (i := n) (by omega)
  have ha12 := own_ix (i := n) (by omega)
  have hb12 := own_ix (i := c) (by omega)
  have VS12 := own_arv (d := .int 0) A_ba_e5 hfb (by omega)
  have VD12 := own_arv (d := .int 0) AF5 (own_fb0 c) (by omega)
  obtain ⟨T12, h12, L12, X12, e12, N12, Kq12, VR12, st12⟩ := cpA X9 hx hZ hown (wq hw 145 rfl) (wq hw 148 rfl) (wq hw 146 rfl) (wq hw 147 rfl) eh9 VS12 VD12 (Or.inl ⟨rfl, rfl⟩) hs12.1 hd12.1 hn12.1 (by simp only [hs12.2, hn12.2, ha12.2]; omega) (by simp only [hd12.2, hn12.2, hb12.2]; omega) rfl (by simp only [hd12.2, hn12.2, List.length_map, List.length_range]; omega) N9 g_b5 (g := (mkF m 28 #[vr ba, vi (Nat.toInt32 c), vr b5] [.int (Nat.toInt32 n), .int 0, .ref b5, .int 0, .ref ba])) rfl (by rw [hml]; rfl) rfl (hb' d40_28) (by decide) (W := 0) (Nat.le_refl _) (by decide)
  have K12 := Kq12
  have A_ba_e12 := A_ba_e5.keep K12 (ninS ne_ba_b5 nin0)
  have O12 := O5.keep K12 (allS g_b5 all0)
  have KK12 : Keep h0 h12 [] := K5.trans K12 (allS (Or.inr sz_b5) all0)
  have AF12 : AF Z h12 b5 k5 .byte c (own_cp f (fun _ => defaultValue .byte) 0 0 n) := (AF.of_arv VR12 hb12.2).congr (fun q hq => by simp only [hd12.2, hn12.2, hs12.2]; exact own_cpL (by omega) (by omega) hq)
  have cn13 := fun (t : State) (kt : SF p e below T12 (mkF m 32 #[vr ba, vi (Nat.toInt32 c), vr b5] [.ref b5]) t) => cn11 t (by
    refine st12 _ ?_
    exact XS.aloadN X12.here hx rfl (hb' d40_31) rfl rfl kt)
  obtain ⟨frs, hr, hrun, hended, hW, hsame⟩ := X12.leave (v := some (.ref b5)) (fun h => by rw [Bd.returns] at h; cases h)
  refine ⟨_, _, cn13 _ ?_, hrun, hended, _, _, rfl, ?_, ⟨_, rfl⟩, hW, hsame.mono (by decide) (by decide)⟩
  · jvm_step X12.here [X12.here.top, hx, (hb' d40_32), X12.method', Bd.returns, Value.isRef, FieldType.isReference]
    first | (intro acts; rw [hr _ acts rfl rfl rfl]) | rw [hr _ _ rfl rfl rfl]
    exact Steps.refl _
  · show QCP Z f n c h0 n0 _ T12.heap _
    rw [e12]
    exact ⟨b5, _, _, rfl, N12, KK12, sz_b5, AF12, fun j hj => own_cp0 hj, own_fb_cp hfb (own_fb0 c) (by omega)⟩

theorem d33_0 : DC c25' 0 (.aload_n 0) 1 := by decide +kernel
theorem d33_1 : DC c25' 1 (.invokespecial 1) 3 := by decide +kernel
theorem d33_4 : DC c25' 4 (.aload_n 0) 1 := by decide +kernel
theorem d33_5 : DC c25' 5 (.aload_n 1) 1 := by decide +kernel
theorem d33_6 : DC c25' 6 (.putfield 9) 3 := by decide +kernel
theorem d33_9 : DC c25' 9 (.aload_n 0) 1 := by decide +kernel
theorem d33_10 : DC c25' 10 (.iload_n 2) 1 := by decide +kernel
theorem d33_11 : DC c25' 11 (.putfield 15) 3 := by decide +kernel
theorem d33_14 : DC c25' 14 (.return_) 1 := by decide +kernel
theorem ef_33_0 (m : MethodId) (x0 : Addr) (x1 : Addr) (x2 : Int32) : entryFrame m #[(.ref x0), (.ref x1), (.int x2)] 3 = mkF m 0 #[.val (.ref x0), .val (.ref x1), .val (.int x2)] [] := by first | (simp [entryFrame, mkF, argsToLocals, Value.category]; done) | rfl
theorem rm33_0 (l : Launch) (Z : State) (a0 : Array Value) (hw : HW a0 Z) (ws : List Jvm.Cond) (a1 r : Addr) (h0 : Heap) (n0 : Nat) (O0 : Old Z n0 h0) (g_a1 : n0 ≤ a1) (E_a1 : Exa Z h0 a1 "java/lang/String") (Fvalue : Fld Z h0 a1 "java/lang/String" "value" "[B" .null) (Fcoder : Fld Z h0 a1 "java/lang/String" "coder" "B" (.int (0 : Int32))) :
    MT l y25' c25' 3 none ws ({ frames := 1, cells := 0, slots := 0, locals := 12 } : Room) #[(.ref a1), (.ref r), (.int (0 : Int32))] Z h0 (QBB Z a1 r 0 h0 n0) := by
  refine MetFree.of_bodySF (plainFor_of_name pn_java_lang_String) hisR ?_
  intro p e s m args below meth kode s₁ Bd hml0 hP hK
  obtain ⟨rfl, hZ, hh⟩ := hP
  have hx := Bd.exec
  have hby := Bd.bytes
  have hb' := @hb _ _ hby
  have hml : kode.maxLocals = 3 := hml0
  have hown : s.vm.findClass "java/lang/String" = some m.cls := findClass_of_methodNamed Bd.named
  have hnm := (name_of_methodNamed Bd.named Bd.method).1
  have X0 : Stand p l e ({ frames := 1, cells := 0, slots := 0, locals := 12 } : Room) s m #[(.ref a1), (.ref r), (.int (0 : Int32))] below meth kode s₁ [] 0 0 := Stand.of_body Bd
  have e0 : s₁.heap = h0 := by rw [← hh, Bd.state]; rfl
  have N0 := Fr.nil n0
  have pre0 : ∀ t, SF p e below s₁ (mkF m 0 #[vr a1, vr r, vi 0] []) t → SF p e below s₁ (entryFrame m #[(.ref a1), (.ref r), (.int (0 : Int32))] 3) t := fun t k => castTop (ef_33_0 m a1 r (0 : Int32)) k
  have cn1 := fun (t : State) (kt : SF p e below s₁ (mkF m 1 #[vr a1, vr r, vi 0] [.ref a1]) t) => pre0 t (by
    exact XS.aloadN X0.here hx rfl (hb' d33_0) rfl rfl kt)
  obtain ⟨T2, X2, e2, st2⟩ := initO X0 hx hZ hown (wq hw 11 rfl) (wq hw 12 rfl) (wq hw 13 rfl) e0 (g := (mkF m 1 #[vr a1, vr r, vi 0] [.ref a1])) rfl (by rw [hml]; rfl) rfl (hb' d33_1) (by decide) (W := 0) (Nat.le_refl _) (by decide)
  have cn3 := fun (t : State) (kt : SF p e below T2 (mkF m 6 #[vr a1, vr r, vi 0] [.ref r, .ref a1]) t) => cn1 t (by
    refine st2 _ ?_
    refine XS.aloadN X2.here hx rfl (hb' d33_4) rfl rfl ?_
    exact XS.aloadN X2.here hx rfl (hb' d33_5) rfl rfl kt)
  obtain ⟨T4, h4, X4, e4, W4, st4⟩ := putF X2 hx hZ hown (host := "") (Or.inl (wq hw 20 rfl)) Via.refl e2 Fvalue E_a1 (Or.inr ⟨(wq hw 16 rfl), rfl, hnm⟩) (wq hw 2 rfl) (ty := (.array .byte)) (by decide) rfl rfl (g := (mkF m 6 #[vr a1, vr r, vi 0] [.ref r, .ref a1])) rfl rfl (hb' d33_6)
  have E_a1_e4 := E_a1.wr W4
  have Fcoder_e4 := Fcoder.other W4 (Or.inr (slot_ne (Or.inr (wq hw 17 rfl)) (Or.inr (wq hw 16 rfl)) (by decide) (t := .byte) (t' := (.array .byte)) (by decide) (by decide)))
  have N4 := Fr.snoc X4 N0 g_a1
  have O4 := O0.wr W4 g_a1
  have K4 : Keep h0 h4 [a1] := (Keep.refl h0 [a1]).wr W4 (Or.inl (List.mem_of_getElem? (i := 0) rfl))
  have Fvalue_4 := Fvalue.same W4
  have cn5 := fun (t : State) (kt : SF p e below T4 (mkF m 11 #[vr a1, vr r, vi 0] [.int 0, .ref a1]) t) => cn3 t (by
    refine st4 _ ?_
    refine XS.aloadN X4.here hx rfl (hb' d33_9) rfl rfl ?_
    exact XS.iloadN X4.here hx rfl (hb' d33_10) rfl kt)
  obtain ⟨T6, h6, X6, e6, W6, st6⟩ := putFN X4 hx hZ hown (wq hw 21 rfl) Via.refl e4 Fcoder_e4 E_a1_e4 (Or.inr ⟨(wq hw 17 rfl), rfl, hnm⟩) (wq hw 2 rfl) (ty := .byte) (v' := (.int (0 : Int32))) (by decide) rfl rfl (g := (mkF m 11 #[vr a1, vr r, vi 0] [.int 0, .ref a1])) rfl rfl (hb' d33_11)
  have E_a1_e6 := E_a1_e4.wr W6
  have Fvalue_4_e6 := Fvalue_4.other W6 (Or.inr (slot_ne (Or.inr (wq hw 16 rfl)) (Or.inr (wq hw 17 rfl)) (by decide) (t := (.array .byte)) (t' := .byte) (by decide) (by decide)))
  have N6 := Fr.snoc X6 N4 g_a1
  have O6 := O4.wr W6 g_a1
  have K6 : Keep h0 h6 [a1] := K4.wr W6 (Or.inl (List.mem_of_getElem? (i := 0) rfl))
  have Fcoder_6 := Fcoder_e4.same W6
  have cn7 := fun (t : State) (kt : SF p e below T6 (mkF m 14 #[vr a1, vr r, vi 0] []) t) => cn5 t (by
    exact st6 _ kt)
  obtain ⟨frs, hr, hrun, hended, hW, hsame⟩ := X6.leave (v := none) (fun _ => rfl)
  refine ⟨_, _, cn7 _ ?_, hrun, hended, _, _, rfl, ?_, ⟨_, rfl⟩, hW, hsame.mono (by decide) (by decide)⟩
  · exact X6.returnOut hx Bd.returns (hb' d33_14) hr
  · show QBB Z a1 r 0 h0 n0 _ T6.heap _
    rw [e6]
    exact ⟨rfl, N6, K6, E_a1_e6, Fvalue_4_e6, Fcoder_6⟩

theorem ef_33_1 (m : MethodId) (x0 : Addr) (x1 : Addr) (x2 : Int32) : entryFrame m #[(.ref x0), (.ref x1), (.int x2)] 3 = mkF m 0 #[.val (.ref x0), .val (.ref x1), .val (.int x2)] [] := by first | (simp [entryFrame, mkF, argsToLocals, Value.category]; done) | rfl
theorem rm33_1 (l : Launch) (Z : State) (a0 : Array Value) (hw : HW a0 Z) (ws : List Jvm.Cond) (a1 r : Addr) (h0 : Heap) (n0 : Nat) (O0 : Old Z n0 h0) (g_a1 : n0 ≤ a1) (E_a1 : Exa Z h0 a1 "java/lang/String") (Fvalue : Fld Z h0 a1 "java/lang/String" "value" "[B" .null) (Fcoder : Fld Z h0 a1 "java/lang/String" "coder" "B" (.int (0 : Int32))) :
    MT l y25' c25' 3 none ws ({ frames := 1, cells := 0, slots := 0, locals := 12 } : Room) #[(.ref a1), (.ref r), (.int (1 : Int32))] Z h0 (QBB Z a1 r 1 h0 n0) := by
  refine MetFree.of_bodySF (plainFor_of_name pn_java_lang_String) hisR ?_
  intro p e s m args below meth kode s₁ Bd hml0 hP hK
  obtain ⟨rfl, hZ, hh⟩ := hP
  have hx := Bd.exec
  have hby := Bd.bytes
  have hb' := @hb _ _ hby
  have hml : kode.maxLocals = 3 := hml0
  have hown : s.vm.findClass "java/lang/String" = some m.cls := findClass_of_methodNamed Bd.named
  have hnm := (name_of_methodNamed Bd.named Bd.method).1
  have X0 : Stand p l e ({ frames := 1, cells := 0, slots := 0, locals := 12 } : Room) s m #[(.ref a1), (.ref r), (.int (1 : Int32))] below meth kode s₁ [] 0 0 := Stand.of_body Bd
  have e0 : s₁.heap = h0 := by rw [← hh, Bd.state]; rfl
  have N0 := Fr.nil n0
  have pre0 : ∀ t, SF p e below s₁ (mkF m 0 #[vr a1, vr r, vi 1] []) t → SF p e below s₁ (entryFrame m #[(.ref a1), (.ref r), (.int (1 : Int32))] 3) t := fun t k => castTop (ef_33_1 m a1 r (1 : Int32)) k
  have cn1 := fun (t : State) (kt : SF p e below s₁ (mkF m 1 #[vr a1, vr r, vi 1] [.ref a1]) t) => pre0 t (by
    exact XS.aloadN X0.here hx rfl (hb' d33_0) rfl rfl kt)
  obtain ⟨T2, X2, e2, st2⟩ := initO X0 hx hZ hown (wq hw 11 rfl) (wq hw 12 rfl) (wq hw 13 rfl) e0 (g := (mkF m 1 #[vr a1, vr r, vi 1] [.ref a1])) rfl (by rw [hml]; rfl) rfl (hb' d33_1) (by decide) (W := 0) (Nat.le_refl _) (by decide)
  have cn3 := fun (t : State) (kt : SF p e below T2 (mkF m 6 #[vr a1, vr r, vi 1] [.ref r, .ref a1]) t) => cn1 t (by
    refine st2 _ ?_
    refine XS.aloadN X2.here hx rfl (hb' d33_4) rfl rfl ?_
    exact XS.aloadN X2.here hx rfl (hb' d33_5) rfl rfl kt)
  obtain ⟨T4, h4, X4, e4, W4, st4⟩ := putF X2 hx hZ hown (host := "") (Or.inl (wq hw 20 rfl)) Via.refl e2 Fvalue E_a1 (Or.inr ⟨(wq hw 16 rfl), rfl, hnm⟩) (wq hw 2 rfl) (ty := (.array .byte)) (by decide) rfl rfl (g := (mkF m 6 #[vr a1, vr r, vi 1] [.ref r, .ref a1])) rfl rfl (hb' d33_6)
  have E_a1_e4 := E_a1.wr W4
  have Fcoder_e4 := Fcoder.other W4 (Or.inr (slot_ne (Or.inr (wq hw 17 rfl)) (Or.inr (wq hw 16 rfl)) (by decide) (t := .byte) (t' := (.array .byte)) (by decide) (by decide)))
  have N4 := Fr.snoc X4 N0 g_a1
  have O4 := O0.wr W4 g_a1
  have K4 : Keep h0 h4 [a1] := (Keep.refl h0 [a1]).wr W4 (Or.inl (List.mem_of_getElem? (i := 0) rfl))
  have Fvalue_4 := Fvalue.same W4
  have cn5 := fun (t : State) (kt : SF p e below T4 (mkF m 11 #[vr a1, vr r, vi 1] [.int 1, .ref a1]) t) => cn3 t (by
    refine st4 _ ?_
    refine XS.aloadN X4.here hx rfl (hb' d33_9) rfl rfl ?_
    exact XS.iloadN X4.here hx rfl (hb' d33_10) rfl kt)
  obtain ⟨T6, h6, X6, e6, W6, st6⟩ := putFN X4 hx hZ hown (wq hw 21 rfl) Via.refl e4 Fcoder_e4 E_a1_e4 (Or.inr ⟨(wq hw 17 rfl), rfl, hnm⟩) (wq hw 2 rfl) (ty := .byte) (v' := (.int (1 : Int32))) (by decide) rfl rfl (g := (mkF m 11 #[vr a1, vr r, vi 1] [.int 1, .ref a1])) rfl rfl (hb' d33_11)
  have E_a1_e6 := E_a1_e4.wr W6
  have Fvalue_4_e6 := Fvalue_4.other W6 (Or.inr (slot_ne (Or.inr (wq hw 16 rfl)) (Or.inr (wq hw 17 rfl)) (by decide) (t := (.array .byte)) (t' := .byte) (by decide) (by decide)))
  have N6 := Fr.snoc X6 N4 g_a1
  have O6 := O4.wr W6 g_a1
  have K6 : Keep h0 h6 [a1] := K4.wr W6 (Or.inl (List.mem_of_getElem? (i := 0) rfl))
  have Fcoder_6 := Fcoder_e4.same W6
  have cn7 := fun (t : State) (kt : SF p e below T6 (mkF m 14 #[vr a1, vr r, vi 1] []) t) => cn5 t (by
    exact st6 _ kt)
  obtain ⟨frs, hr, hrun, hended, hW, hsame⟩ := X6.leave (v := none) (fun _ => rfl)
  refine ⟨_, _, cn7 _ ?_, hrun, hended, _, _, rfl, ?_, ⟨_, rfl⟩, hW, hsame.mono (by decide) (by decide)⟩
  · exact X6.returnOut hx Bd.returns (hb' d33_14) hr
  · show QBB Z a1 r 1 h0 n0 _ T6.heap _
    rw [e6]
    exact ⟨rfl, N6, K6, E_a1_e6, Fvalue_4_e6, Fcoder_6⟩

theorem d55_0 : DC c26' 0 (.iload_n 2) 1 := by decide +kernel
theorem d55_1 : DC c26' 1 (.ifCond .ne 6) 3 := by decide +kernel
theorem d55_7 : DC c26' 7 (.new 1) 3 := by decide +kernel
theorem d55_10 : DC c26' 10 (.dup) 1 := by decide +kernel
theorem d55_11 : DC c26' 11 (.aload_n 0) 1 := by decide +kernel
theorem d55_12 : DC c26' 12 (.iload_n 1) 1 := by decide +kernel
theorem d55_13 : DC c26' 13 (.iload_n 1) 1 := by decide +kernel
theorem d55_14 : DC c26' 14 (.iload_n 2) 1 := by decide +kernel
theorem d55_15 : DC c26' 15 (.iadd) 1 := by decide +kernel
theorem d55_16 : DC c26' 16 (.invokestatic 232) 3 := by decide +kernel
theorem d55_19 : DC c26' 19 (.iconst 0) 1 := by decide +kernel
theorem d55_20 : DC c26' 20 (.invokespecial 112) 3 := by decide +kernel
theorem d55_23 : DC c26' 23 (.areturn) 1 := by decide +kernel
theorem pd_15 : parseMethodDescriptor "([BB)V" = some ⟨[(.array .byte), .byte], none⟩ := by decide +kernel
theorem pn_java_lang_StringLatin1 : plainName "java/lang/StringLatin1" = true := by first | (simp [plainName, overriddenIn]; done) | decide +kernel
theorem ef_55 (m : MethodId) (x0 : Addr) (x1 : Int32) (x2 : Int32) : entryFrame m #[(.ref x0), (.int x1), (.int x2)] 3 = mkF m 0 #[.val (.ref x0), .val (.int x1), .val (.int x2)] [] := by first | (simp [entryFrame, mkF, argsToLocals, Value.category]; done) | rfl
theorem rm55 (l : Launch) (Z : State) (a0 : Array Value) (hw : HW a0 Z) (ws : List Jvm.Cond) (ba : Addr) (k : ClassId) (es cs : List Int32) (f : Nat → Value) (h0 : Heap) (n0 : Nat) (O0 : Old Z n0 h0) (h200 : 200 < es.length) (hm : es.length ≤ 402) (hpre : own_pre es cs) (A_ba : AF Z h0 ba k .byte es.length f) (hL : own_L es f) :
    MT l y26' c26' 3 (some (.object "java/lang/String")) ws ({ frames := 3, cells := 2, slots := 410, locals := 72 } : Room) #[(.ref ba), (.int (0 : Int32)), (.int (200 : Int32))] Z h0 (QSU Z cs h0 n0) := by
  refine MetFree.of_bodySF (plainFor_of_name pn_java_lang_StringLatin1) hisR ?_
  intro p e s m args below meth kode s₁ Bd hml0 hP hK
  obtain ⟨rfl, hZ, hh⟩ := hP
  have hx := Bd.exec
  have hby := Bd.bytes
  have hb' := @hb _ _ hby
  have hml : kode.maxLocals = 3 := hml0
  have hown : s.vm.findClass "java/lang/StringLatin1" = some m.cls := findClass_of_methodNamed Bd.named
  have X0 : Stand p l e ({ frames := 3, cells := 2, slots := 410, locals := 72 } : Room) s m #[(.ref ba), (.int (0 : Int32)), (.int (200 : Int32))] below meth kode s₁ [] 0 0 := Stand.of_body Bd
  have e0 : s₁.heap = h0 := by rw [← hh, Bd.state]; rfl
  have N0 := Fr.nil n0
  have pre0 : ∀ t, SF p e below s₁ (mkF m 0 #[vr ba, vi 0, vi 200] []) t → SF p e below s₁ (entryFrame m #[(.ref ba), (.int (0 : Int32)), (.int (200 : Int32))] 3) t := fun t k => castTop (ef_55 m ba (0 : Int32) (200 : Int32)) k
  have cn1 := fun (t : State) (kt : SF p e below s₁ (mkF m 1 #[vr ba, vi 0, vi 200] [.int 200]) t) => pre0 t (by
    exact XS.iloadN X0.here hx rfl (hb' d55_0) rfl kt)
  have cn2 := fun (t : State) (kt : SF p e below s₁ (mkF m 7 #[vr ba, vi 0, vi 200] []) t) => cn1 t (by
    exact XS.ifYes X0.here hx rfl (pc0 := 1) (pc' := 7) rfl (hb' d55_1) rfl ((if0 _ _).trans (feq (by decide : ¬ ((200 : Int32) = (0 : Int32)))).2) (by decide) (by decide) kt)
  obtain ⟨T3, h3, X3, e3, E3, A3, D3, U3, st3⟩ := newO X0 hx hZ hown (wq hw 262 rfl) (wq hw 2 rfl) (wq hw 3 rfl) e0 (g := (mkF m 7 #[vr ba, vi 0, vi 200] [])) rfl (hb' d55_7) (by decide) (by decide)
  obtain ⟨b3, g3⟩ : ∃ z, z = h0.size := ⟨_, rfl⟩
  rw [← g3] at A3 D3 U3 st3
  have ne_ba_b3 : ba ≠ b3 := Nat.ne_of_lt (Nat.lt_of_lt_of_le A_ba.lt (Nat.le_of_eq g3.symm))
  have sz_b3 : h0.size ≤ b3 := Nat.le_trans (Keep.refl h0 []).1 (Nat.le_of_eq g3.symm)
  have g_b3 : n0 ≤ b3 := Nat.le_trans (O0.1 ▸ O0.2.1) sz_b3
  have A_ba_e3 := A_ba.ext E3
  have O3 := O0.ext E3
  have K3 : Keep h0 h3 [] := (Keep.refl h0 []).ext E3
  have Fvalue_3 : Fld Z h3 b3 "java/lang/String" "value" "[B" .null := D3 (Or.inr (wq hw 16 rfl)) (ty := (.array .byte)) (by decide)
  have Fcoder_3 : Fld Z h3 b3 "java/lang/String" "coder" "B" (.int (0 : Int32)) := D3 (Or.inr (wq hw 17 rfl)) (ty := .byte) (by decide)
  have cn4 := fun (t : State) (kt : SF p e below T3 (mkF m 16 #[vr ba, vi 0, vi 200] [.int 200, .int 0, .ref ba, .ref b3, .ref b3]) t) => cn2 t (by
    refine st3 _ ?_
    refine XS.dup X3.here hx rfl (hb' d55_10) rfl rfl ?_
    refine XS.aloadN X3.here hx rfl (hb' d55_11) rfl rfl ?_
    refine XS.iloadN X3.here hx rfl (hb' d55_12) rfl ?_
    refine XS.iloadN X3.here hx rfl (hb' d55_13) rfl ?_
    refine XS.iloadN X3.here hx rfl (hb' d55_14) rfl ?_
    exact XS.iadd X3.here hx rfl (hb' d55_15) rfl kt)
  obtain ⟨_, _, ⟨T5, L5, k5, n5⟩, -, X5, ⟨Lc5, hQ5, l5, y5, z5⟩, st5⟩ := Jvm.LawKit.callS X3 hx (y := y23') hown (mvT hZ (wq hw 263 rfl)) (mvT hZ (wq hw 132 rfl)) (mvT hZ (wq hw 133 rfl)) (mvT hZ (wq hw 134 rfl)) (by decide) (backOf (W := 2) (rm29 l Z a0 hw [] ba k es.length 200 f h3 n0 O3 (by omega) (by omega) (by omega) A_ba_e3 (own_L_fb hL)) hZ (wq hw 134 rfl) (wq hw 133 rfl) (by decide) (by decide)) (g := (mkF m 16 #[vr ba, vi 0, vi 200] [.int 200, .int 0, .ref ba, .ref b3, .ref b3])) rfl (by rw [hml]; rfl) (argsL := [(.ref ba), (.int (0 : Int32)), (.int (200 : Int32))]) (rest := [(.ref b3), (.ref b3)]) (lenOf pd_14 rfl) rfl (Nat.le_refl _) (hb' d55_16) (fun _ _ => ⟨rfl, e3, (by decide : 1 + 1 ≤ _), (by decide : 4 + 406 ≤ _)⟩)
  dsimp only [Pt.U, Pt.locs, Pt.cells, Pt.slots] at X5 l5 y5 z5 st5 hQ5
  subst l5 y5 z5
  obtain ⟨r5x, kq5, f5, rfl, Nq5, Kq5, szq5, Aq5, hcp5, hfb5⟩ := hQ5
  have N5 := Fr.app N0 Nq5
  have ne_ba_r5x : ba ≠ r5x := Nat.ne_of_lt (Nat.lt_of_lt_of_le A_ba_e3.lt szq5)
  have ne_b3_r5x : b3 ≠ r5x := Nat.ne_of_lt (Nat.lt_of_lt_of_le A3.lt szq5)
  have sz_r5x : h0.size ≤ r5x := Nat.le_trans K3.1 szq5
  have g_r5x : n0 ≤ r5x := Nat.le_trans (O0.1 ▸ O0.2.1) sz_r5x
  have K5 := Kq5
  have A_ba_e5 := A_ba_e3.keep K5 nin0
  have A3_e5 := A3.keep K5
  have Fvalue_3_e5 := Fvalue_3.keep K5 nin0
  have Fcoder_3_e5 := Fcoder_3.keep K5 nin0
  have O5 := O3.keep K5 all0
  have KK5 : Keep h0 T5.heap [] := K3.trans K5 all0
  have hLc : own_L cs f5 := fun j hj => by
    have h2 : j < 200 := hpre.1 ▸ hj
    rw [hpre.2 j h2, hcp5 j h2]
    exact hL j (by omega)
  have cn6 := fun (t : State) (kt : SF p e below T5 (mkF m 20 #[vr ba, vi 0, vi 200] [.int 0, .ref r5x, .ref b3, .ref b3]) t) => cn4 t (by
    refine st5 _ ?_
    exact XS.iconst X5.here hx rfl (hb' d55_19) kt)
  obtain ⟨_, _, ⟨T7, L7, k7, n7⟩, -, X7, ⟨Lc7, hQ7, l7, y7, z7⟩, st7⟩ := X5.specialBack hx (y := y25') rfl hown (mvT hZ (wq hw 264 rfl)) (mvT hZ (wq hw 152 rfl)) (mvT hZ (wq hw 153 rfl)) (by decide) (backOf (W := 1) (rm33_0 l Z a0 hw [] b3 r5x T5.heap n0 O5 g_b3 A3_e5 Fvalue_3_e5 Fcoder_3_e5) hZ (wq hw 153 rfl) (wq hw 3 rfl) (by decide) (by decide)) (g := (mkF m 20 #[vr ba, vi 0, vi 200] [.int 0, .ref r5x, .ref b3, .ref b3])) rfl (by rw [hml]; rfl) (Steps.refl _) (a := b3) (argsL := [(.ref r5x), (.int (0 : Int32))]) (rest := [(.ref b3)]) (lenOf pd_15 rfl) rfl (Nat.le_refl _) (hb' d55_20) (fun _ _ => ⟨rfl, rfl, (by decide : 2 + 0 ≤ _), (by decide : 410 + 0 ≤ _)⟩)
  dsimp only [Pt.U, Pt.locs, Pt.cells, Pt.slots] at X7 l7 y7 z7 st7 hQ7
  subst l7 y7 z7
  obtain ⟨rfl, Nq7, Kq7, Ex7, Fv7, Fc7⟩ := hQ7
  have N7 := Fr.app N5 Nq7
  have K7 := Kq7
  have A_ba_e7 := A_ba_e5.keep K7 (ninS ne_ba_b3 nin0)
  have A3_e7 := A3_e5.keep K7
  have Aq5_e7 := Aq5.keep K7 (ninS (Ne.symm ne_b3_r5x) nin0)
  have O7 := O5.keep K7 (allS g_b3 all0)
  have KK7 : Keep h0 T7.heap [] := KK5.trans K7 (allS (Or.inr sz_b3) all0)
  have cn8 := fun (t : State) (kt : SF p e below T7 (mkF m 23 #[vr ba, vi 0, vi 200] [.ref b3]) t) => cn6 t (by
    exact st7.trans kt)
  obtain ⟨frs, hr, hrun, hended, hW, hsame⟩ := X7.leave (v := some (.ref b3)) (fun h => by rw [Bd.returns] at h; cases h)
  refine ⟨_, _, cn8 _ ?_, hrun, hended, _, _, rfl, ?_, ⟨_, rfl⟩, hW, hsame.mono (by decide) (by decide)⟩
  · jvm_step X7.here [X7.here.top, hx, (hb' d55_23), X7.method', Bd.returns, Value.isRef, FieldType.isReference]
    first | (intro acts; rw [hr _ acts rfl rfl rfl]) | rw [hr _ _ rfl rfl rfl]
    exact Steps.refl _
  · show QSU Z cs h0 n0 _ T7.heap _
    exact ⟨b3, r5x, _, _, _, rfl, N7, KK7, sz_b3, sz_r5x, Ex7, Fv7, Fc7, Or.inl ⟨rfl, by rw [hpre.1]; exact Aq5_e7, hLc⟩⟩

theorem d24_0 : DC c27' 0 (.iload_n 1) 1 := by decide +kernel
theorem d24_1 : DC c27' 1 (.iload 4) 2 := by decide +kernel
theorem d24_3 : DC c27' 3 (.aload_n 0) 1 := by decide +kernel
theorem d24_4 : DC c27' 4 (.invokestatic 173) 3 := by decide +kernel
theorem d24_7 : DC c27' 7 (.iconst 0) 1 := by decide +kernel
theorem d24_8 : DC c27' 8 (.istore 5) 2 := by decide +kernel
theorem d24_10 : DC c27' 10 (.iload 5) 2 := by decide +kernel
theorem d24_12 : DC c27' 12 (.iload 4) 2 := by decide +kernel
theorem d24_14 : DC c27' 14 (.if_icmp .ge 39) 3 := by decide +kernel
theorem d24_17 : DC c27' 17 (.aload_n 0) 1 := by decide +kernel
theorem d24_18 : DC c27' 18 (.iload_n 1) 1 := by decide +kernel
theorem d24_19 : DC c27' 19 (.invokestatic 71) 3 := by decide +kernel
theorem d24_22 : DC c27' 22 (.istore 6) 2 := by decide +kernel
theorem d24_24 : DC c27' 24 (.iload 6) 2 := by decide +kernel
theorem d24_26 : DC c27' 26 (.sipush 255) 3 := by decide +kernel
theorem d24_29 : DC c27' 29 (.if_icmp .le 6) 3 := by decide +kernel
theorem d24_32 : DC c27' 32 (.iload 5) 2 := by decide +kernel
theorem d24_34 : DC c27' 34 (.ireturn) 1 := by decide +kernel
theorem d24_35 : DC c27' 35 (.aload_n 2) 1 := by decide +kernel
theorem d24_36 : DC c27' 36 (.iload_n 3) 1 := by decide +kernel
theorem d24_37 : DC c27' 37 (.iload 6) 2 := by decide +kernel
theorem d24_39 : DC c27' 39 (.i2b) 1 := by decide +kernel
theorem d24_40 : DC c27' 40 (.bastore) 1 := by decide +kernel
theorem d24_41 : DC c27' 41 (.iinc 1 1) 3 := by decide +kernel
theorem d24_44 : DC c27' 44 (.iinc 3 1) 3 := by decide +kernel
theorem d24_47 : DC c27' 47 (.iinc 5 1) 3 := by decide +kernel
theorem d24_50 : DC c27' 50 (.goto (-40)) 3 := by decide +kernel
theorem d24_53 : DC c27' 53 (.iload 4) 2 := by decide +kernel
theorem d24_55 : DC c27' 55 (.ireturn) 1 := by decide +kernel
theorem pd_16 : parseMethodDescriptor "(II[B)V" = some ⟨[.int, .int, (.array .byte)], none⟩ := by decide +kernel
theorem ef_24 (m : MethodId) (x0 : Addr) (x1 : Int32) (x2 : Addr) (x3 : Int32) (x4 : Int32) : entryFrame m #[(.ref x0), (.int x1), (.ref x2), (.int x3), (.int x4)] 7 = mkF m 0 #[.val (.ref x0), .val (.int x1), .val (.ref x2), .val (.int x3), .val (.int x4), .unset, .unset] [] := by first | (simp [entryFrame, mkF, argsToLocals, Value.category]; done) | rfl
theorem rm24 (l : Launch) (Z : State) (a0 : Array Value) (hw : HW a0 Z) (ws : List Jvm.Cond) (ba da : Addr) (k kd : ClassId) (es cs : List Int32) (f fd0 : Nat → Value) (co : Int32) (vf : Value) (h0 : Heap) (n0 : Nat) (O0 : Old Z n0 h0) (g_da : n0 ≤ da) (nebd : ba ≠ da) (h200 : 200 < es.length) (hm : es.length ≤ 402) (hpre : own_pre es cs) (hu : own_u es) (A_ba : AF Z h0 ba k .byte (2 * es.length) f) (hU : own_U es f) (A_da : AF Z h0 da kd .byte 200 fd0) (SWh : SW Z co vf) :
    MT l y27' c27' 7 (some .int) ws ({ frames := 3, cells := 0, slots := 0, locals := 43 } : Room) #[(.ref ba), (.int (0 : Int32)), (.ref da), (.int (0 : Int32)), (.int (200 : Int32))] Z h0 (QD5 Z cs da kd h0 n0) := by
  refine MetFree.of_bodySF (plainFor_of_name pn_java_lang_StringUTF16) hisR ?_
  intro p e s m args below meth kode s₁ Bd hml0 hP hK
  obtain ⟨rfl, hZ, hh⟩ := hP
  have hx := Bd.exec
  have hby := Bd.bytes
  have hb' := @hb _ _ hby
  have hml : kode.maxLocals = 7 := hml0
  have hown : s.vm.findClass "java/lang/StringUTF16" = some m.cls := findClass_of_methodNamed Bd.named
  have X0 : Stand p l e ({ frames := 3, cells := 0, slots := 0, locals := 43 } : Room) s m #[(.ref ba), (.int (0 : Int32)), (.ref da), (.int (0 : Int32)), (.int (200 : Int32))] below meth kode s₁ [] 0 0 := Stand.of_body Bd
  have e0 : s₁.heap = h0 := by rw [← hh, Bd.state]; rfl
  have N0 := Fr.nil n0
  have pre0 : ∀ t, SF p e below s₁ (mkF m 0 #[vr ba, vi 0, vr da, vi 0, vi 200, .unset, .unset] []) t → SF p e below s₁ (entryFrame m #[(.ref ba), (.int (0 : Int32)), (.ref da), (.int (0 : Int32)), (.int (200 : Int32))] 7) t := fun t k => castTop (ef_24 m ba (0 : Int32) da (0 : Int32) (200 : Int32)) k
  have SWx := SWh
  obtain ⟨S_CS, hcs, S_AD, S_HI, S_LO, S_SI, hcat_vf⟩ := SWx
  have cn1 := fun (t : State) (kt : SF p e below s₁ (mkF m 4 #[vr ba, vi 0, vr da, vi 0, vi 200, .unset, .unset] [.ref ba, .int 200, .int 0]) t) => pre0 t (by
    refine XS.iloadN X0.here hx rfl (hb' d24_0) rfl ?_
    refine XS.iload X0.here hx rfl (hb' d24_1) rfl ?_
    exact XS.aloadN X0.here hx rfl (hb' d24_3) rfl rfl kt)
  obtain ⟨_, _, ⟨T2, L2, k2, n2⟩, -, X2, ⟨Lc2, hQ2, l2, y2, z2⟩, st2⟩ := Jvm.LawKit.callS X0 hx (y := y18') hown (mvT hZ (wq hw 119 rfl)) (mvT hZ (wq hw 120 rfl)) (mvT hZ (wq hw 45 rfl)) (mvT hZ (wq hw 121 rfl)) (by decide) (backOf (W := 0) (rm25 l Z a0 hw [] ba k 0 200 es.length f co vf h0 n0 O0 (by omega) (by omega) A_ba SWh) hZ (wq hw 121 rfl) (wq hw 45 rfl) (by decide) (by decide)) (g := (mkF m 4 #[vr ba, vi 0, vr da, vi 0, vi 200, .unset, .unset] [.ref ba, .int 200, .int 0])) rfl (by rw [hml]; rfl) (argsL := [(.int (0 : Int32)), (.int (200 : Int32)), (.ref ba)]) (rest := []) (lenOf pd_16 rfl) rfl (Nat.le_refl _) (hb' d24_4) (fun _ _ => ⟨rfl, e0, (by decide : 0 + 0 ≤ _), (by decide : 0 + 0 ≤ _)⟩)
  dsimp only [Pt.U, Pt.locs, Pt.cells, Pt.slots] at X2 l2 y2 z2 st2 hQ2
  subst l2 y2 z2
  obtain ⟨rfl, Nq2, eh2⟩ := hQ2
  have N2 := Fr.app N0 Nq2
  have cn3 := fun (t : State) (kt : SF p e below T2 (mkF m 10 #[vr ba, vi 0, vr da, vi 0, vi 200, vi 0, .unset] []) t) => cn1 t (by
    refine st2 _ ?_
    refine XS.iconst X2.here hx rfl (hb' d24_7) ?_
    exact XS.istore X2.here hx rfl (hb' d24_8) rfl (l' := #[vr ba, vi 0, vr da, vi 0, vi 200, vi 0, .unset]) rfl kt)
  refine own_loop (A := fun kk => ∃ (TJ : State) (hJ : Heap) (lJ : List Loc) (i : Nat) (fd : Nat → Value) (s6 : Slot), Stand p l e ({ frames := 3, cells := 0, slots := 0, locals := 43 } : Room) s m #[(.ref ba), (.int (0 : Int32)), (.ref da), (.int (0 : Int32)), (.int (200 : Int32))] below meth kode TJ lJ 0 0 ∧ TJ.heap = hJ ∧ Fr n0 lJ ∧ Old Z n0 hJ ∧ Keep h0 hJ [da] ∧ (i + kk = 200) ∧ (One s6) ∧ (AF Z hJ ba k .byte (2 * es.length) f) ∧ (AF Z hJ da kd .byte 200 fd) ∧ (∀ j, j < i → fd j = .int (cs.getD j 0).toInt8.toInt32 ∧ (cs.getD j 0).toInt ≤ 255) ∧ ∀ t, SF p e below TJ (mkF m 10 #[vr ba, vi (Nat.toInt32 i), vr da, vi (Nat.toInt32 i), vi 200, vi (Nat.toInt32 i), s6] []) t → SF p e below s₁ (entryFrame m #[(.ref ba), (.int (0 : Int32)), (.ref da), (.int (0 : Int32)), (.int (200 : Int32))] 7) t) ?_ ?_ (200) ?_
  · intro kk4 IH4
    rintro ⟨TJ5, hJ5, lJ5, i, fd, s6, XJ5, eJ5, NJ5, OJ5, KJ5, hik, ho6, Ab, Ad, hfd, kJ_5⟩
    have hil : i < 200 := by omega
    have hie : i < es.length := by omega
    have cn6 := fun (t : State) (kt : SF p e below TJ5 (mkF m 14 #[vr ba, vi (Nat.toInt32 i), vr da, vi (Nat.toInt32 i), vi 200, vi (Nat.toInt32 i), s6] [.int 200, .int (Nat.toInt32 i)]) t) => kJ_5 t (by
      refine XS.iload XJ5.here hx rfl (hb' d24_10) rfl ?_
      exact XS.iload XJ5.here hx rfl (hb' d24_12) rfl kt)
    have cn7 := fun (t : State) (kt : SF p e below TJ5 (mkF m 19 #[vr ba, vi (Nat.toInt32 i), vr da, vi (Nat.toInt32 i), vi 200, vi (Nat.toInt32 i), s6] [.int (Nat.toInt32 i), .ref ba]) t) => cn6 t (by
      refine XS.icmpNo XJ5.here hx rfl (hb' d24_14) rfl (tlt ((own_lt (j := 200) (by omega) (by decide)).mpr hil)).2.1 ?_
      refine XS.aloadN XJ5.here hx rfl (hb' d24_17) rfl rfl ?_
      exact XS.iloadN XJ5.here hx rfl (hb' d24_18) rfl kt)
    obtain ⟨_, _, ⟨T8, L8, k8, n8⟩, -, X8, ⟨Lc8, hQ8, l8, y8, z8⟩, st8⟩ := Jvm.LawKit.callS XJ5 hx (y := y3') hown (mvT hZ (wq hw 69 rfl)) (mvT hZ (wq hw 70 rfl)) (mvT hZ (wq hw 45 rfl)) (mvT hZ (wq hw 71 rfl)) (by decide) (backOf (W := 0) (rm15 l Z a0 hw [] ba k (2 * es.length) i f (own_b0 (es.getD i 0)) (own_b1 (es.getD i 0)) co vf hJ5 n0 OJ5 (by omega) (by omega) (hU i hie).1 (hU i hie).2 Ab SWh) hZ (wq hw 71 rfl) (wq hw 45 rfl) (by decide) (by decide)) (g := (mkF m 19 #[vr ba, vi (Nat.toInt32 i), vr da, vi (Nat.toInt32 i), vi 200, vi (Nat.toInt32 i), s6] [.int (Nat.toInt32 i), .ref ba])) rfl (by rw [hml]; rfl) (argsL := [(.ref ba), (.int (Nat.toInt32 i))]) (rest := []) (lenOf pd_5 rfl) rfl (Nat.le_refl _) (hb' d24_19) (fun _ _ => ⟨rfl, eJ5, (by decide : 0 + 0 ≤ _), (by decide : 0 + 0 ≤ _)⟩)
    dsimp only [Pt.U, Pt.locs, Pt.cells, Pt.slots] at X8 l8 y8 z8 st8 hQ8
    subst l8 y8 z8
    obtain ⟨rfl, Nq8, eh8⟩ := hQ8
    have N8 := Fr.app NJ5 Nq8
    have cn9 := fun (t : State) (kt : SF p e below T8 (mkF m 22 #[vr ba, vi (Nat.toInt32 i), vr da, vi (Nat.toInt32 i), vi 200, vi (Nat.toInt32 i), s6] [.int (own_gc (own_b0 (es.getD i 0)) (own_b1 (es.getD i 0)))]) t) => cn7 t (by
      exact st8 _ kt)
    have cn10 : ∀ t, SF p e below T8 (mkF m 22 #[vr ba, vi (Nat.toInt32 i), vr da, vi (Nat.toInt32 i), vi 200, vi (Nat.toInt32 i), s6] [.int (cs.getD i 0)]) t → SF p e below s₁ (entryFrame m #[(.ref ba), (.int (0 : Int32)), (.ref da), (.int (0 : Int32)), (.int (200 : Int32))] 7) t := by have q := cn9; rw [(id (by rw [own_gc_b (hu i).1 (hu i).2, hpre.2 i hil]) : (own_gc (own_b0 (es.getD i 0)) (own_b1 (es.getD i 0))) = (cs.getD i 0))] at q; exact q
    have cn11 := fun (t : State) (kt : SF p e below T8 (mkF m 29 #[vr ba, vi (Nat.toInt32 i), vr da, vi (Nat.toInt32 i), vi 200, vi (Nat.toInt32 i), vi (cs.getD i 0)] [.int 255, .int (cs.getD i 0)]) t) => cn10 t (by
      refine XS.istoreS X8.here hx rfl (hb' d24_22) rfl rfl ho6 ?_
      refine XS.iload X8.here hx rfl (hb' d24_24) rfl ?_
      exact XS.sipush X8.here hx rfl (hb' d24_26) kt)
    by_cases hc29_12 : (255 : Int32) < (cs.getD i 0)
    · have cn13 := fun (t : State) (kt : SF p e below T8 (mkF m 34 #[vr ba, vi (Nat.toInt32 i), vr da, vi (Nat.toInt32 i), vi 200, vi (Nat.toInt32 i), vi (cs.getD i 0)] [.int (Nat.toInt32 i)]) t) => cn11 t (by
        refine XS.icmpNo X8.here hx rfl (hb' d24_29) rfl (tlt hc29_12).2.2.2 ?_
        exact XS.iload X8.here hx rfl (hb' d24_32) rfl kt)
      obtain ⟨frs, hr, hrun, hended, hW, hsame⟩ := X8.leave (v := some (.int (Nat.toInt32 i))) (fun h => by rw [Bd.returns] at h; cases h)
      refine ⟨_, _, cn13 _ ?_, hrun, hended, _, _, rfl, ?_, ⟨_, rfl⟩, hW, hsame.mono (by decide) (by decide)⟩
      · exact retI X8 hx Bd.returns (hb' d24_34) hr
      · show QD5 Z cs da kd h0 n0 _ T8.heap _
        rw [eh8]
        exact Or.inr ⟨i, rfl, N8, KJ5, hil, hc29_12⟩
    · have cn14 := fun (t : State) (kt : SF p e below T8 (mkF m 40 #[vr ba, vi (Nat.toInt32 i), vr da, vi (Nat.toInt32 i), vi 200, vi (Nat.toInt32 i), vi (cs.getD i 0)] [.int ((cs.getD i 0).toInt8.toInt32), .int (Nat.toInt32 i), .ref da]) t) => cn11 t (by
        refine XS.icmpYes X8.here hx rfl (pc0 := 29) (pc' := 35) rfl (hb' d24_29) rfl (flt hc29_12).2.2.2 (by decide) (by decide) ?_
        refine XS.aloadN X8.here hx rfl (hb' d24_35) rfl rfl ?_
        refine XS.iloadN X8.here hx rfl (hb' d24_36) rfl ?_
        refine XS.iload X8.here hx rfl (hb' d24_37) rfl ?_
        exact XS.i2b X8.here hx rfl (hb' d24_39) rfl kt)
      have AFx15 := Ad
      obtain ⟨cl15, Ar15, q15, S15, H15⟩ := AFx15
      have hin15 : ¬ ((Nat.toInt32 i) < 0 ∨ cl15.slots.size ≤ ((Nat.toInt32 i)).toNatClampNeg) := AF.inb S15 (own_ix (by omega)) hil
      obtain ⟨T16, h16, X16, e16, W16, st16⟩ := stB X8 hx hZ eh8 Ar15 (j := (Nat.toInt32 i)) hin15 (g := (mkF m 40 #[vr ba, vi (Nat.toInt32 i), vr da, vi (Nat.toInt32 i), vi 200, vi (Nat.toInt32 i), vi (cs.getD i 0)] [.int ((cs.getD i 0).toInt8.toInt32), .int (Nat.toInt32 i), .ref da])) rfl rfl (hb' d24_40)
      rw [own_nb] at W16
      have Ab_e16 := Ab.other W16 nebd
      have AF16 : AF Z h16 da kd .byte 200 (own_upd fd i (.int ((cs.getD i 0).toInt8.toInt32))) := AF.set Ar15 q15 S15 H15 W16 (own_ix (by omega)) hil
      have N16 := Fr.snoc X16 N8 g_da
      have O16 := OJ5.wr W16 g_da
      have K16 : Keep h0 h16 [da] := KJ5.wr W16 (Or.inl (List.mem_of_getElem? (i := 0) rfl))
      have cn17 := fun (t : State) (kt : SF p e below T16 (mkF m 50 #[vr ba, vi ((Nat.toInt32 i) + (1 : Int32)), vr da, vi ((Nat.toInt32 i) + (1 : Int32)), vi 200, vi ((Nat.toInt32 i) + (1 : Int32)), vi (cs.getD i 0)] []) t) => cn14 t (by
        refine st16 _ ?_
        refine XS.iinc X16.here hx rfl (hb' d24_41) rfl (l' := #[vr ba, vi ((Nat.toInt32 i) + (1 : Int32)), vr da, vi (Nat.toInt32 i), vi 200, vi (Nat.toInt32 i), vi (cs.getD i 0)]) rfl ?_
        refine XS.iinc X16.here hx rfl (hb' d24_44) rfl (l' := #[vr ba, vi ((Nat.toInt32 i) + (1 : Int32)), vr da, vi ((Nat.toInt32 i) + (1 : Int32)), vi 200, vi (Nat.toInt32 i), vi (cs.getD i 0)]) rfl ?_
        exact XS.iinc X16.here hx rfl (hb' d24_47) rfl (l' := #[vr ba, vi ((Nat.toInt32 i) + (1 : Int32)), vr da, vi ((Nat.toInt32 i) + (1 : Int32)), vi 200, vi ((Nat.toInt32 i) + (1 : Int32)), vi (cs.getD i 0)]) rfl kt)
      have cn18 : ∀ t, SF p e below T16 (mkF m 50 #[vr ba, vi (Nat.toInt32 (i + 1)), vr da, vi (Nat.toInt32 (i + 1)), vi 200, vi (Nat.toInt32 (i + 1)), vi (cs.getD i 0)] []) t → SF p e below s₁ (entryFrame m #[(.ref ba), (.int (0 : Int32)), (.ref da), (.int (0 : Int32)), (.int (200 : Int32))] 7) t := by have q := cn17; rw [(id (own_inc (by omega)) : ((Nat.toInt32 i) + (1 : Int32)) = (Nat.toInt32 (i + 1)))] at q; exact q
      have cn19 := fun (t : State) (kt : SF p e below T16 (mkF m 10 #[vr ba, vi (Nat.toInt32 (i + 1)), vr da, vi (Nat.toInt32 (i + 1)), vi 200, vi (Nat.toInt32 (i + 1)), vi (cs.getD i 0)] []) t) => cn18 t (by
        exact XS.goto X16.here hx rfl (pc0 := 50) (pc' := 10) rfl (hb' d24_50) (by decide) (by decide) kt)
      exact IH4 ⟨T16, h16, _, i + 1, (own_upd fd i (.int ((cs.getD i 0).toInt8.toInt32))), _, own_up X16 (by decide) (by decide), e16, N16, O16, K16, (by omega), (One.val rfl), Ab_e16, AF16, own_Lstep hfd hc29_12, cn19⟩
  · rintro ⟨TJ20, hJ20, lJ20, i, fd, s6, XJ20, eJ20, NJ20, OJ20, KJ20, hik, ho6, Ab, Ad, hfd, kJ_20⟩
    obtain rfl : i = 200 := by omega
    have cn21 := fun (t : State) (kt : SF p e below TJ20 (mkF m 14 #[vr ba, vi (Nat.toInt32 200), vr da, vi (Nat.toInt32 200), vi 200, vi (Nat.toInt32 200), s6] [.int 200, .int (Nat.toInt32 200)]) t) => kJ_20 t (by
      refine XS.iload XJ20.here hx rfl (hb' d24_10) rfl ?_
      exact XS.iload XJ20.here hx rfl (hb' d24_12) rfl kt)
    have cn22 := fun (t : State) (kt : SF p e below TJ20 (mkF m 55 #[vr ba, vi (Nat.toInt32 200), vr da, vi (Nat.toInt32 200), vi 200, vi (Nat.toInt32 200), s6] [.int 200]) t) => cn21 t (by
      refine XS.icmpYes XJ20.here hx rfl (pc0 := 14) (pc' := 53) rfl (hb' d24_14) rfl (flt (fun q => Nat.lt_irrefl _ ((own_lt (i := 200) (j := 200) (by decide) (by decide)).mp q))).2.1 (by decide) (by decide) ?_
      exact XS.iload XJ20.here hx rfl (hb' d24_53) rfl kt)
    obtain ⟨frs, hr, hrun, hended, hW, hsame⟩ := XJ20.leave (v := some (.int (200 : Int32))) (fun h => by rw [Bd.returns] at h; cases h)
    refine ⟨_, _, cn22 _ ?_, hrun, hended, _, _, rfl, ?_, ⟨_, rfl⟩, hW, hsame.mono (by decide) (by decide)⟩
    · exact retI XJ20 hx Bd.returns (hb' d24_55) hr
    · show QD5 Z cs da kd h0 n0 _ TJ20.heap _
      rw [eJ20]
      exact Or.inl ⟨fd, rfl, NJ20, KJ20, Ad, fun j hj => hfd j (hpre.1 ▸ hj)⟩
  · exact ⟨T2, h0, _, 0, fd0, _, own_up X2 (by decide) (by decide), eh2, N2, O0, (Keep.refl h0 [da]), (Nat.zero_add _), One.u, A_ba, A_da, (fun j hj => absurd hj (Nat.not_lt_zero j)), cn3⟩

theorem d23_0 : DC c28' 0 (.iload_n 2) 1 := by decide +kernel
theorem d23_1 : DC c28' 1 (.newarray .byte) 2 := by decide +kernel
theorem d23_3 : DC c28' 3 (.astore_n 3) 1 := by decide +kernel
theorem d23_4 : DC c28' 4 (.aload_n 0) 1 := by decide +kernel
theorem d23_5 : DC c28' 5 (.iload_n 1) 1 := by decide +kernel
theorem d23_6 : DC c28' 6 (.aload_n 3) 1 := by decide +kernel
theorem d23_7 : DC c28' 7 (.iconst 0) 1 := by decide +kernel
theorem d23_8 : DC c28' 8 (.iload_n 2) 1 := by decide +kernel
theorem d23_9 : DC c28' 9 (.invokestatic 123) 3 := by decide +kernel
theorem d23_12 : DC c28' 12 (.istore 4) 2 := by decide +kernel
theorem d23_14 : DC c28' 14 (.iload 4) 2 := by decide +kernel
theorem d23_16 : DC c28' 16 (.iload_n 2) 1 := by decide +kernel
theorem d23_17 : DC c28' 17 (.if_icmp .eq 47) 3 := by decide +kernel
theorem d23_20 : DC c28' 20 (.aload_n 0) 1 := by decide +kernel
theorem d23_21 : DC c28' 21 (.iload_n 1) 1 := by decide +kernel
theorem d23_22 : DC c28' 22 (.iconst 1) 1 := by decide +kernel
theorem d23_23 : DC c28' 23 (.ishl) 1 := by decide +kernel
theorem d23_24 : DC c28' 24 (.iload_n 1) 1 := by decide +kernel
theorem d23_25 : DC c28' 25 (.iload_n 2) 1 := by decide +kernel
theorem d23_26 : DC c28' 26 (.iadd) 1 := by decide +kernel
theorem d23_27 : DC c28' 27 (.invokestatic 11) 3 := by decide +kernel
theorem d23_30 : DC c28' 30 (.invokestatic 126) 3 := by decide +kernel
theorem d23_33 : DC c28' 33 (.astore 5) 2 := by decide +kernel
theorem d23_35 : DC c28' 35 (.aload 5) 2 := by decide +kernel
theorem d23_37 : DC c28' 37 (.iload 4) 2 := by decide +kernel
theorem d23_39 : DC c28' 39 (.invokestatic 71) 3 := by decide +kernel
theorem d23_42 : DC c28' 42 (.sipush 255) 3 := by decide +kernel
theorem d23_45 : DC c28' 45 (.if_icmp .gt 16) 3 := by decide +kernel
theorem d23_61 : DC c28' 61 (.aload 5) 2 := by decide +kernel
theorem d23_63 : DC c28' 63 (.areturn) 1 := by decide +kernel
theorem d23_64 : DC c28' 64 (.aload_n 3) 1 := by decide +kernel
theorem d23_65 : DC c28' 65 (.areturn) 1 := by decide +kernel
theorem pd_17 : parseMethodDescriptor "([BI[BII)I" = some ⟨[(.array .byte), .int, (.array .byte), .int, .int], some .int⟩ := by decide +kernel
theorem ef_23 (m : MethodId) (x0 : Addr) (x1 : Int32) (x2 : Int32) : entryFrame m #[(.ref x0), (.int x1), (.int x2)] 6 = mkF m 0 #[.val (.ref x0), .val (.int x1), .val (.int x2), .unset, .unset, .unset] [] := by first | (simp [entryFrame, mkF, argsToLocals, Value.category]; done) | rfl
theorem rm23 (l : Launch) (Z : State) (a0 : Array Value) (hw : HW a0 Z) (ws : List Jvm.Cond) (ba : Addr) (k : ClassId) (es cs : List Int32) (f : Nat → Value) (co : Int32) (vf : Value) (h0 : Heap) (n0 : Nat) (O0 : Old Z n0 h0) (h200 : 200 < es.length) (hm : es.length ≤ 402) (hpre : own_pre es cs) (hu : own_u es) (hud : own_u cs) (A_ba : AF Z h0 ba k .byte (2 * es.length) f) (hU : own_U es f) (SWh : SW Z co vf) :
    MT l y28' c28' 6 (some (.array .byte)) ws ({ frames := 4, cells := 2, slots := 606, locals := 70 } : Room) #[(.ref ba), (.int (0 : Int32)), (.int (200 : Int32))] Z h0 (QD3 Z cs h0 n0) := by
  refine MetFree.of_bodySF (plainFor_of_name pn_java_lang_StringUTF16) hisR ?_
  intro p e s m args below meth kode s₁ Bd hml0 hP hK
  obtain ⟨rfl, hZ, hh⟩ := hP
  have hx := Bd.exec
  have hby := Bd.bytes
  have hb' := @hb _ _ hby
  have hml : kode.maxLocals = 6 := hml0
  have hown : s.vm.findClass "java/lang/StringUTF16" = some m.cls := findClass_of_methodNamed Bd.named
  have X0 : Stand p l e ({ frames := 4, cells := 2, slots := 606, locals := 70 } : Room) s m #[(.ref ba), (.int (0 : Int32)), (.int (200 : Int32))] below meth kode s₁ [] 0 0 := Stand.of_body Bd
  have e0 : s₁.heap = h0 := by rw [← hh, Bd.state]; rfl
  have N0 := Fr.nil n0
  have pre0 : ∀ t, SF p e below s₁ (mkF m 0 #[vr ba, vi 0, vi 200, .unset, .unset, .unset] []) t → SF p e below s₁ (entryFrame m #[(.ref ba), (.int (0 : Int32)), (.int (200 : Int32))] 6) t := fun t k => castTop (ef_23 m ba (0 : Int32) (200 : Int32)) k
  have SWx := SWh
  obtain ⟨S_CS, hcs, S_AD, S_HI, S_LO, S_SI, hcat_vf⟩ := SWx
  have hn : 200 ≤ 402 := by decide
  have cn1 := fun (t : State) (kt : SF p e below s₁ (mkF m 1 #[vr ba, vi 0, vi 200, .unset, .unset, .unset] [.int 200]) t) => pre0 t (by
    exact XS.iloadN X0.here hx rfl (hb' d23_0) rfl kt)
  obtain ⟨T2, h2, k2, X2, e2, E2, A2, st2⟩ := newP X0 hx hZ (wq hw 15 rfl) e0 (g := (mkF m 1 #[vr ba, vi 0, vi 200, .unset, .unset, .unset] [.int 200])) rfl (hb' d23_1) rfl (by decide) (cap := 200) (by decide) (by decide) (by decide) (by decide)
  obtain ⟨b2, g2⟩ : ∃ z, z = h0.size := ⟨_, rfl⟩
  rw [← g2] at A2 st2
  have ne_ba_b2 : ba ≠ b2 := Nat.ne_of_lt (Nat.lt_of_lt_of_le A_ba.lt (Nat.le_of_eq g2.symm))
  have sz_b2 : h0.size ≤ b2 := Nat.le_trans (Keep.refl h0 []).1 (Nat.le_of_eq g2.symm)
  have g_b2 : n0 ≤ b2 := Nat.le_trans (O0.1 ▸ O0.2.1) sz_b2
  have A_ba_e2 := A_ba.ext E2
  have O2 := O0.ext E2
  have K2 : Keep h0 h2 [] := (Keep.refl h0 []).ext E2
  have AF2 : AF Z h2 b2 k2 .byte 200 (fun _ => defaultValue .byte) := AF.new A2 (by decide)
  have cn3 := fun (t : State) (kt : SF p e below T2 (mkF m 9 #[vr ba, vi 0, vi 200, vr b2, .unset, .unset] [.int 200, .int 0, .ref b2, .int 0, .ref ba]) t) => cn1 t (by
    refine st2 _ ?_
    refine XS.astoreN X2.here hx rfl (hb' d23_3) rfl rfl (l' := #[vr ba, vi 0, vi 200, vr b2, .unset, .unset]) rfl ?_
    refine XS.aloadN X2.here hx rfl (hb' d23_4) rfl rfl ?_
    refine XS.iloadN X2.here hx rfl (hb' d23_5) rfl ?_
    refine XS.aloadN X2.here hx rfl (hb' d23_6) rfl rfl ?_
    refine XS.iconst X2.here hx rfl (hb' d23_7) ?_
    exact XS.iloadN X2.here hx rfl (hb' d23_8) rfl kt)
  obtain ⟨_, _, ⟨T4, L4, k4, n4⟩, -, X4, ⟨Lc4, hQ4, l4, y4, z4⟩, st4⟩ := Jvm.LawKit.callS X2 hx (y := y27') hown (mvT hZ (wq hw 116 rfl)) (mvT hZ (wq hw 117 rfl)) (mvT hZ (wq hw 45 rfl)) (mvT hZ (wq hw 118 rfl)) (by decide) (backOf (W := 0) (rm24 l Z a0 hw [] ba b2 k k2 es cs f (fun _ => defaultValue .byte) co vf h2 n0 O2 g_b2 ne_ba_b2 h200 hm hpre hu A_ba_e2 hU AF2 SWh) hZ (wq hw 118 rfl) (wq hw 45 rfl) (by decide) (by decide)) (g := (mkF m 9 #[vr ba, vi 0, vi 200, vr b2, .unset, .unset] [.int 200, .int 0, .ref b2, .int 0, .ref ba])) rfl (by rw [hml]; rfl) (argsL := [(.ref ba), (.int (0 : Int32)), (.ref b2), (.int (0 : Int32)), (.int (200 : Int32))]) (rest := []) (lenOf pd_17 rfl) rfl (Nat.le_refl _) (hb' d23_9) (fun _ _ => ⟨rfl, e2, (by decide : 1 + 0 ≤ _), (by decide : 200 + 0 ≤ _)⟩)
  dsimp only [Pt.U, Pt.locs, Pt.cells, Pt.slots] at X4 l4 y4 z4 st4 hQ4
  subst l4 y4 z4
  rcases hQ4 with ⟨f4, rfl, Nq4, Kq4, Aq4, hL4⟩ | ⟨i, rfl, Nq4, Kq4, hil, hgt⟩
  · have N4 := Fr.app N0 Nq4
    have K4 := Kq4
    have A_ba_e4 := A_ba_e2.keep K4 (ninS ne_ba_b2 nin0)
    have O4 := O2.keep K4 (allS g_b2 all0)
    have KK4 : Keep h0 T4.heap [] := K2.trans K4 (allS (Or.inr sz_b2) all0)
    have cn5 := fun (t : State) (kt : SF p e below T4 (mkF m 17 #[vr ba, vi 0, vi 200, vr b2, vi 200, .unset] [.int 200, .int 200]) t) => cn3 t (by
      refine st4 _ ?_
      refine XS.istore X4.here hx rfl (hb' d23_12) rfl (l' := #[vr ba, vi 0, vi 200, vr b2, vi 200, .unset]) rfl ?_
      refine XS.iload X4.here hx rfl (hb' d23_14) rfl ?_
      exact XS.iloadN X4.here hx rfl (hb' d23_16) rfl kt)
    have cn6 := fun (t : State) (kt : SF p e below T4 (mkF m 65 #[vr ba, vi 0, vi 200, vr b2, vi 200, .unset] [.ref b2]) t) => cn5 t (by
      refine XS.icmpYes X4.here hx rfl (pc0 := 17) (pc' := 64) rfl (hb' d23_17) rfl (teq (by decide : (200 : Int32) = (200 : Int32))).1 (by decide) (by decide) ?_
      exact XS.aloadN X4.here hx rfl (hb' d23_64) rfl rfl kt)
    obtain ⟨frs, hr, hrun, hended, hW, hsame⟩ := X4.leave (v := some (.ref b2)) (fun h => by rw [Bd.returns] at h; cases h)
    refine ⟨_, _, cn6 _ ?_, hrun, hended, _, _, rfl, ?_, ⟨_, rfl⟩, hW, hsame.mono (by decide) (by decide)⟩
    · jvm_step X4.here [X4.here.top, hx, (hb' d23_65), X4.method', Bd.returns, Value.isRef, FieldType.isReference]
      first | (intro acts; rw [hr _ acts rfl rfl rfl]) | rw [hr _ _ rfl rfl rfl]
      exact Steps.refl _
    · show QD3 Z cs h0 n0 _ T4.heap _
      exact Or.inl ⟨b2, _, _, rfl, N4, KK4, sz_b2, Aq4, hL4⟩
  · have N4 := Fr.app N0 Nq4
    have K4 := Kq4
    have A_ba_e4 := A_ba_e2.keep K4 (ninS ne_ba_b2 nin0)
    have O4 := O2.keep K4 (allS g_b2 all0)
    have KK4 : Keep h0 T4.heap [] := K2.trans K4 (allS (Or.inr sz_b2) all0)
    have cn7 := fun (t : State) (kt : SF p e below T4 (mkF m 17 #[vr ba, vi 0, vi 200, vr b2, vi (Nat.toInt32 i), .unset] [.int 200, .int (Nat.toInt32 i)]) t) => cn3 t (by
      refine st4 _ ?_
      refine XS.istore X4.here hx rfl (hb' d23_12) rfl (l' := #[vr ba, vi 0, vi 200, vr b2, vi (Nat.toInt32 i), .unset]) rfl ?_
      refine XS.iload X4.here hx rfl (hb' d23_14) rfl ?_
      exact XS.iloadN X4.here hx rfl (hb' d23_16) rfl kt)
    have cn8 := fun (t : State) (kt : SF p e below T4 (mkF m 27 #[vr ba, vi 0, vi 200, vr b2, vi (Nat.toInt32 i), .unset] [.int 200, .int 0, .ref ba]) t) => cn7 t (by
      refine XS.icmpNo X4.here hx rfl (hb' d23_17) rfl (feq (fun q => absurd ((own_eqn (j := 200) (by omega) (by decide)).mp q) (by omega))).1 ?_
      refine XS.aloadN X4.here hx rfl (hb' d23_20) rfl rfl ?_
      refine XS.iloadN X4.here hx rfl (hb' d23_21) rfl ?_
      refine XS.iconst X4.here hx rfl (hb' d23_22) ?_
      refine XS.ishl X4.here hx rfl (hb' d23_23) rfl ?_
      refine XS.iloadN X4.here hx rfl (hb' d23_24) rfl ?_
      refine XS.iloadN X4.here hx rfl (hb' d23_25) rfl ?_
      exact XS.iadd X4.here hx rfl (hb' d23_26) rfl kt)
    obtain ⟨_, _, ⟨T9, L9, k9, n9⟩, -, X9, ⟨Lc9, hQ9, l9, y9, z9⟩, st9⟩ := Jvm.LawKit.callS X4 hx (y := y0') hown (mvT hZ (wq hw 59 rfl)) (mvT hZ (wq hw 60 rfl)) (mvT hZ (wq hw 45 rfl)) (mvT hZ (wq hw 61 rfl)) (by decide) (backOf (W := 2) (rm13 l Z a0 hw [] 200 T4.heap n0 O4 hn) hZ (wq hw 61 rfl) (wq hw 45 rfl) (by decide) (by decide)) (g := (mkF m 27 #[vr ba, vi 0, vi 200, vr b2, vi (Nat.toInt32 i), .unset] [.int 200, .int 0, .ref ba])) rfl (by rw [hml]; rfl) (argsL := [(.int (200 : Int32))]) (rest := [(.int (0 : Int32)), (.ref ba)]) (lenOf pd_0 rfl) rfl (Nat.le_refl _) (hb' d23_27) (fun _ _ => ⟨rfl, rfl, (by decide : 1 + 0 ≤ _), (by decide : 200 + 0 ≤ _)⟩)
    dsimp only [Pt.U, Pt.locs, Pt.cells, Pt.slots] at X9 l9 y9 z9 st9 hQ9
    subst l9 y9 z9
    obtain ⟨rfl, Nq9, eh9⟩ := hQ9
    have N9 := Fr.app N4 Nq9
    have cn10 := fun (t : State) (kt : SF p e below T9 (mkF m 30 #[vr ba, vi 0, vi 200, vr b2, vi (Nat.toInt32 i), .unset] [.int (Nat.toInt32 (2 * 200)), .int 0, .ref ba]) t) => cn8 t (by
      exact st9 _ kt)
    have cn11 : ∀ t, SF p e below T9 (mkF m 30 #[vr ba, vi 0, vi 200, vr b2, vi (Nat.toInt32 i), .unset] [.int 400, .int 0, .ref ba]) t → SF p e below s₁ (entryFrame m #[(.ref ba), (.int (0 : Int32)), (.int (200 : Int32))] 6) t := by have q := cn10; rw [(id (by decide) : (Nat.toInt32 (2 * 200)) = (400 : Int32))] at q; exact q
    obtain ⟨_, _, ⟨T12, L12, k12, n12⟩, -, X12, ⟨Lc12, hQ12, l12, y12, z12⟩, st12⟩ := Jvm.LawKit.callS X9 hx (y := y23') hown (mvT hZ (wq hw 131 rfl)) (mvT hZ (wq hw 132 rfl)) (mvT hZ (wq hw 133 rfl)) (mvT hZ (wq hw 134 rfl)) (by decide) (backOf (W := 0) (rm29 l Z a0 hw [] ba k (2 * es.length) 400 f T4.heap n0 O4 (by omega) (by omega) (by omega) A_ba_e4 (own_U_fb hU)) hZ (wq hw 134 rfl) (wq hw 133 rfl) (by decide) (by decide)) (g := (mkF m 30 #[vr ba, vi 0, vi 200, vr b2, vi (Nat.toInt32 i), .unset] [.int 400, .int 0, .ref ba])) rfl (by rw [hml]; rfl) (argsL := [(.ref ba), (.int (0 : Int32)), (.int (400 : Int32))]) (rest := []) (lenOf pd_14 rfl) rfl (Nat.le_refl _) (hb' d23_30) (fun _ _ => ⟨rfl, eh9, (by decide : 1 + 1 ≤ _), (by decide : 200 + 406 ≤ _)⟩)
    dsimp only [Pt.U, Pt.locs, Pt.cells, Pt.slots] at X12 l12 y12 z12 st12 hQ12
    subst l12 y12 z12
    obtain ⟨r12x, kq12, f12, rfl, Nq12, Kq12, szq12, Aq12, hcp12, hfb12⟩ := hQ12
    have N12 := Fr.app N9 Nq12
    have ne_ba_r12x : ba ≠ r12x := Nat.ne_of_lt (Nat.lt_of_lt_of_le A_ba_e4.lt szq12)
    have sz_r12x : h0.size ≤ r12x := Nat.le_trans KK4.1 szq12
    have g_r12x : n0 ≤ r12x := Nat.le_trans (O0.1 ▸ O0.2.1) sz_r12x
    have K12 := Kq12
    have A_ba_e12 := A_ba_e4.keep K12 nin0
    have O12 := O4.keep K12 all0
    have KK12 : Keep h0 T12.heap [] := KK4.trans K12 all0
    have hU2 : ∀ j, j < 200 → f12 (2 * j) = .int (own_b0 (cs.getD j 0)) ∧ f12 (2 * j + 1) = .int (own_b1 (cs.getD j 0)) := fun j hj => by
      rw [hpre.2 j hj, hcp12 (2 * j) (by omega), hcp12 (2 * j + 1) (by omega)]
      exact hU j (by omega)
    have hUc : own_U cs f12 := fun j hj => hU2 j (hpre.1 ▸ hj)
    have cn13 := fun (t : State) (kt : SF p e below T12 (mkF m 39 #[vr ba, vi 0, vi 200, vr b2, vi (Nat.toInt32 i), vr r12x] [.int (Nat.toInt32 i), .ref r12x]) t) => cn11 t (by
      refine st12 _ ?_
      refine XS.astore X12.here hx rfl (hb' d23_33) rfl rfl (l' := #[vr ba, vi 0, vi 200, vr b2, vi (Nat.toInt32 i), vr r12x]) rfl ?_
      refine XS.aload X12.here hx rfl (hb' d23_35) rfl rfl ?_
      exact XS.iload X12.here hx rfl (hb' d23_37) rfl kt)
    obtain ⟨_, _, ⟨T14, L14, k14, n14⟩, -, X14, ⟨Lc14, hQ14, l14, y14, z14⟩, st14⟩ := Jvm.LawKit.callS X12 hx (y := y3') hown (mvT hZ (wq hw 69 rfl)) (mvT hZ (wq hw 70 rfl)) (mvT hZ (wq hw 45 rfl)) (mvT hZ (wq hw 71 rfl)) (by decide) (backOf (W := 0) (rm15 l Z a0 hw [] r12x kq12 400 i f12 (own_b0 (cs.getD i 0)) (own_b1 (cs.getD i 0)) co vf T12.heap n0 O12 (by omega) (by omega) (hU2 i hil).1 (hU2 i hil).2 Aq12 SWh) hZ (wq hw 71 rfl) (wq hw 45 rfl) (by decide) (by decide)) (g := (mkF m 39 #[vr ba, vi 0, vi 200, vr b2, vi (Nat.toInt32 i), vr r12x] [.int (Nat.toInt32 i), .ref r12x])) rfl (by rw [hml]; rfl) (argsL := [(.ref r12x), (.int (Nat.toInt32 i))]) (rest := []) (lenOf pd_5 rfl) rfl (Nat.le_refl _) (hb' d23_39) (fun _ _ => ⟨rfl, rfl, (by decide : 2 + 0 ≤ _), (by decide : 606 + 0 ≤ _)⟩)
    dsimp only [Pt.U, Pt.locs, Pt.cells, Pt.slots] at X14 l14 y14 z14 st14 hQ14
    subst l14 y14 z14
    obtain ⟨rfl, Nq14, eh14⟩ := hQ14
    have N14 := Fr.app N12 Nq14
    have cn15 := fun (t : State) (kt : SF p e below T14 (mkF m 45 #[vr ba, vi 0, vi 200, vr b2, vi (Nat.toInt32 i), vr r12x] [.int 255, .int (own_gc (own_b0 (cs.getD i 0)) (own_b1 (cs.getD i 0)))]) t) => cn13 t (by
      refine st14 _ ?_
      exact XS.sipush X14.here hx rfl (hb' d23_42) kt)
    have cn16 := fun (t : State) (kt : SF p e below T14 (mkF m 63 #[vr ba, vi 0, vi 200, vr b2, vi (Nat.toInt32 i), vr r12x] [.ref r12x]) t) => cn15 t (by
      refine XS.icmpYes X14.here hx rfl (pc0 := 45) (pc' := 61) rfl (hb' d23_45) rfl (tlt (by rw [own_gc_b (hud i).1 (hud i).2]; exact hgt)).2.2.1 (by decide) (by decide) ?_
      exact XS.aload X14.here hx rfl (hb' d23_61) rfl rfl kt)
    obtain ⟨frs, hr, hrun, hended, hW, hsame⟩ := X14.leave (v := some (.ref r12x)) (fun h => by rw [Bd.returns] at h; cases h)
    refine ⟨_, _, cn16 _ ?_, hrun, hended, _, _, rfl, ?_, ⟨_, rfl⟩, hW, hsame.mono (by decide) (by decide)⟩
    · jvm_step X14.here [X14.here.top, hx, (hb' d23_63), X14.method', Bd.returns, Value.isRef, FieldType.isReference]
      first | (intro acts; rw [hr _ acts rfl rfl rfl]) | rw [hr _ _ rfl rfl rfl]
      exact Steps.refl _
    · show QD3 Z cs h0 n0 _ T14.heap _
      rw [eh14]
      exact Or.inr ⟨r12x, _, _, rfl, N14, KK12, sz_r12x, Aq12, ⟨hUc, i, hpre.1.symm ▸ hil, hgt⟩⟩

theorem d22_0 : DC c29' 0 (.iload_n 2) 1 := by decide +kernel
theorem d22_1 : DC c29' 1 (.ifCond .ne 7) 3 := by decide +kernel
theorem d22_8 : DC c29' 8 (.getstatic 251) 3 := by decide +kernel
theorem d22_11 : DC c29' 11 (.ifCond .eq 28) 3 := by decide +kernel
theorem d22_14 : DC c29' 14 (.aload_n 0) 1 := by decide +kernel
theorem d22_15 : DC c29' 15 (.iload_n 1) 1 := by decide +kernel
theorem d22_16 : DC c29' 16 (.iload_n 2) 1 := by decide +kernel
theorem d22_17 : DC c29' 17 (.invokestatic 257) 3 := by decide +kernel
theorem d22_20 : DC c29' 20 (.astore_n 3) 1 := by decide +kernel
theorem d22_21 : DC c29' 21 (.aload_n 3) 1 := by decide +kernel
theorem d22_22 : DC c29' 22 (.iload_n 2) 1 := by decide +kernel
theorem d22_23 : DC c29' 23 (.invokestatic 259) 3 := by decide +kernel
theorem d22_26 : DC c29' 26 (.istore 4) 2 := by decide +kernel
theorem d22_28 : DC c29' 28 (.new 3) 3 := by decide +kernel
theorem d22_31 : DC c29' 31 (.dup) 1 := by decide +kernel
theorem d22_32 : DC c29' 32 (.aload_n 3) 1 := by decide +kernel
theorem d22_33 : DC c29' 33 (.iload 4) 2 := by decide +kernel
theorem d22_35 : DC c29' 35 (.invokespecial 263) 3 := by decide +kernel
theorem d22_38 : DC c29' 38 (.areturn) 1 := by decide +kernel
theorem ef_22 (m : MethodId) (x0 : Addr) (x1 : Int32) (x2 : Int32) : entryFrame m #[(.ref x0), (.int x1), (.int x2)] 5 = mkF m 0 #[.val (.ref x0), .val (.int x1), .val (.int x2), .unset, .unset] [] := by first | (simp [entryFrame, mkF, argsToLocals, Value.category]; done) | rfl
theorem rm22 (l : Launch) (Z : State) (a0 : Array Value) (hw : HW a0 Z) (ws : List Jvm.Cond) (ba : Addr) (k : ClassId) (es cs : List Int32) (f : Nat → Value) (co : Int32) (vf : Value) (h0 : Heap) (n0 : Nat) (O0 : Old Z n0 h0) (h200 : 200 < es.length) (hm : es.length ≤ 402) (hpre : own_pre es cs) (hu : own_u es) (hud : own_u cs) (A_ba : AF Z h0 ba k .byte (2 * es.length) f) (hU : own_U es f) (SWh : SW Z co vf) :
    MT l y29' c29' 5 (some (.object "java/lang/String")) ws ({ frames := 5, cells := 3, slots := 610, locals := 87 } : Room) #[(.ref ba), (.int (0 : Int32)), (.int (200 : Int32))] Z h0 (QSU Z cs h0 n0) := by
  refine MetFree.of_bodySF (plainFor_of_name pn_java_lang_StringUTF16) hisR ?_
  intro p e s m args below meth kode s₁ Bd hml0 hP hK
  obtain ⟨rfl, hZ, hh⟩ := hP
  have hx := Bd.exec
  have hby := Bd.bytes
  have hb' := @hb _ _ hby
  have hml : kode.maxLocals = 5 := hml0
  have hown : s.vm.findClass "java/lang/StringUTF16" = some m.cls := findClass_of_methodNamed Bd.named
  have X0 : Stand p l e ({ frames := 5, cells := 3, slots := 610, locals := 87 } : Room) s m #[(.ref ba), (.int (0 : Int32)), (.int (200 : Int32))] below meth kode s₁ [] 0 0 := Stand.of_body Bd
  have e0 : s₁.heap = h0 := by rw [← hh, Bd.state]; rfl
  have N0 := Fr.nil n0
  have pre0 : ∀ t, SF p e below s₁ (mkF m 0 #[vr ba, vi 0, vi 200, .unset, .unset] []) t → SF p e below s₁ (entryFrame m #[(.ref ba), (.int (0 : Int32)), (.int (200 : Int32))] 5) t := fun t k => castTop (ef_22 m ba (0 : Int32) (200 : Int32)) k
  have SWx := SWh
  obtain ⟨S_CS, hcs, S_AD, S_HI, S_LO, S_SI, hcat_vf⟩ := SWx
  have cn1 := fun (t : State) (kt : SF p e below s₁ (mkF m 1 #[vr ba, vi 0, vi 200, .unset, .unset] [.int 200]) t) => pre0 t (by
    exact XS.iloadN X0.here hx rfl (hb' d22_0) rfl kt)
  have cn2 := fun (t : State) (kt : SF p e below s₁ (mkF m 8 #[vr ba, vi 0, vi 200, .unset, .unset] []) t) => cn1 t (by
    exact XS.ifYes X0.here hx rfl (pc0 := 1) (pc' := 8) rfl (hb' d22_1) rfl ((if0 _ _).trans (feq (by decide : ¬ ((200 : Int32) = (0 : Int32)))).2) (by decide) (by decide) kt)
  obtain ⟨T3, X3, e3, st3⟩ := getS2 X0 hx hZ hown (host := "") (Or.inl (wq hw 112 rfl)) Via.refl e0 (S_CS.ext O0.2) (g := (mkF m 8 #[vr ba, vi 0, vi 200, .unset, .unset] [])) rfl (hb' d22_8)
  have cn4 := fun (t : State) (kt : SF p e below T3 (mkF m 11 #[vr ba, vi 0, vi 200, .unset, .unset] [.int co]) t) => cn2 t (by
    exact st3 _ kt)
  have cn5 := fun (t : State) (kt : SF p e below T3 (mkF m 17 #[vr ba, vi 0, vi 200, .unset, .unset] [.int 200, .int 0, .ref ba]) t) => cn4 t (by
    refine XS.ifNo X3.here hx rfl (hb' d22_11) rfl ((if0 _ _).trans (feq hcs).1) ?_
    refine XS.aloadN X3.here hx rfl (hb' d22_14) rfl rfl ?_
    refine XS.iloadN X3.here hx rfl (hb' d22_15) rfl ?_
    exact XS.iloadN X3.here hx rfl (hb' d22_16) rfl kt)
  obtain ⟨_, _, ⟨T6, L6, k6, n6⟩, -, X6, ⟨Lc6, hQ6, l6, y6, z6⟩, st6⟩ := Jvm.LawKit.callS X3 hx (y := y28') hown (mvT hZ (wq hw 113 rfl)) (mvT hZ (wq hw 114 rfl)) (mvT hZ (wq hw 45 rfl)) (mvT hZ (wq hw 115 rfl)) (by decide) (backOf (W := 0) (rm23 l Z a0 hw [] ba k es cs f co vf h0 n0 O0 h200 hm hpre hu hud A_ba hU SWh) hZ (wq hw 115 rfl) (wq hw 45 rfl) (by decide) (by decide)) (g := (mkF m 17 #[vr ba, vi 0, vi 200, .unset, .unset] [.int 200, .int 0, .ref ba])) rfl (by rw [hml]; rfl) (argsL := [(.ref ba), (.int (0 : Int32)), (.int (200 : Int32))]) (rest := []) (lenOf pd_14 rfl) rfl (Nat.le_refl _) (hb' d22_17) (fun _ _ => ⟨rfl, e3, (by decide : 0 + 2 ≤ _), (by decide : 0 + 606 ≤ _)⟩)
  dsimp only [Pt.U, Pt.locs, Pt.cells, Pt.slots] at X6 l6 y6 z6 st6 hQ6
  subst l6 y6 z6
  rcases hQ6 with ⟨r6x, kq6, f6, rfl, Nq6, Kq6, szq6, Aq6, hP6⟩ | ⟨r6x, kq6, f6, rfl, Nq6, Kq6, szq6, Aq6, hP6⟩
  · have N6 := Fr.app N0 Nq6
    have ne_ba_r6x : ba ≠ r6x := Nat.ne_of_lt (Nat.lt_of_lt_of_le A_ba.lt szq6)
    have sz_r6x : h0.size ≤ r6x := Nat.le_trans (Keep.refl h0 []).1 szq6
    have g_r6x : n0 ≤ r6x := Nat.le_trans (O0.1 ▸ O0.2.1) sz_r6x
    have K6 := Kq6
    have A_ba_e6 := A_ba.keep K6 nin0
    have O6 := O0.keep K6 all0
    have KK6 : Keep h0 T6.heap [] := (Keep.refl h0 []).trans K6 all0
    have cn7 := fun (t : State) (kt : SF p e below T6 (mkF m 23 #[vr ba, vi 0, vi 200, vr r6x, .unset] [.int 200, .ref r6x]) t) => cn5 t (by
      refine st6 _ ?_
      refine XS.astoreN X6.here hx rfl (hb' d22_20) rfl rfl (l' := #[vr ba, vi 0, vi 200, vr r6x, .unset]) rfl ?_
      refine XS.aloadN X6.here hx rfl (hb' d22_21) rfl rfl ?_
      exact XS.iloadN X6.here hx rfl (hb' d22_22) rfl kt)
    obtain ⟨_, _, ⟨T8, L8, k8, n8⟩, -, X8, ⟨Lc8, hQ8, l8, y8, z8⟩, st8⟩ := Jvm.LawKit.callS X6 hx (y := y7') hown (mvT hZ (wq hw 149 rfl)) (mvT hZ (wq hw 51 rfl)) (mvT hZ (wq hw 45 rfl)) (mvT hZ (wq hw 52 rfl)) (by decide) (backOf (W := 0) (rm10L l Z a0 hw [] r6x kq6 200 f6 T6.heap n0 O6 (by decide) (by decide) Aq6) hZ (wq hw 52 rfl) (wq hw 45 rfl) (by decide) (by decide)) (g := (mkF m 23 #[vr ba, vi 0, vi 200, vr r6x, .unset] [.int 200, .ref r6x])) rfl (by rw [hml]; rfl) (argsL := [(.ref r6x), (.int (200 : Int32))]) (rest := []) (lenOf pd_6 rfl) rfl (Nat.le_refl _) (hb' d22_23) (fun _ _ => ⟨rfl, rfl, (by decide : 2 + 0 ≤ _), (by decide : 606 + 0 ≤ _)⟩)
    dsimp only [Pt.U, Pt.locs, Pt.cells, Pt.slots] at X8 l8 y8 z8 st8 hQ8
    subst l8 y8 z8
    obtain ⟨rfl, Nq8, eh8⟩ := hQ8
    have N8 := Fr.app N6 Nq8
    have cn9 := fun (t : State) (kt : SF p e below T8 (mkF m 28 #[vr ba, vi 0, vi 200, vr r6x, vi 0] []) t) => cn7 t (by
      refine st8 _ ?_
      exact XS.istore X8.here hx rfl (hb' d22_26) rfl (l' := #[vr ba, vi 0, vi 200, vr r6x, vi 0]) rfl kt)
    obtain ⟨T10, h10, X10, e10, E10, A10, D10, U10, st10⟩ := newO X8 hx hZ hown (wq hw 150 rfl) (wq hw 2 rfl) (wq hw 3 rfl) eh8 (g := (mkF m 28 #[vr ba, vi 0, vi 200, vr r6x, vi 0] [])) rfl (hb' d22_28) (by decide) (by decide)
    obtain ⟨b10, g10⟩ : ∃ z, z = T6.heap.size := ⟨_, rfl⟩
    rw [← g10] at A10 D10 U10 st10
    have ne_ba_b10 : ba ≠ b10 := Nat.ne_of_lt (Nat.lt_of_lt_of_le A_ba_e6.lt (Nat.le_of_eq g10.symm))
    have ne_r6x_b10 : r6x ≠ b10 := Nat.ne_of_lt (Nat.lt_of_lt_of_le Aq6.lt (Nat.le_of_eq g10.symm))
    have sz_b10 : h0.size ≤ b10 := Nat.le_trans KK6.1 (Nat.le_of_eq g10.symm)
    have g_b10 : n0 ≤ b10 := Nat.le_trans (O0.1 ▸ O0.2.1) sz_b10
    have A_ba_e10 := A_ba_e6.ext E10
    have Aq6_e10 := Aq6.ext E10
    have O10 := O6.ext E10
    have K10 : Keep h0 h10 [] := KK6.ext E10
    have Fvalue_10 : Fld Z h10 b10 "java/lang/String" "value" "[B" .null := D10 (Or.inr (wq hw 16 rfl)) (ty := (.array .byte)) (by decide)
    have Fcoder_10 : Fld Z h10 b10 "java/lang/String" "coder" "B" (.int (0 : Int32)) := D10 (Or.inr (wq hw 17 rfl)) (ty := .byte) (by decide)
    have cn11 := fun (t : State) (kt : SF p e below T10 (mkF m 35 #[vr ba, vi 0, vi 200, vr r6x, vi 0] [.int 0, .ref r6x, .ref b10, .ref b10]) t) => cn9 t (by
      refine st10 _ ?_
      refine XS.dup X10.here hx rfl (hb' d22_31) rfl rfl ?_
      refine XS.aloadN X10.here hx rfl (hb' d22_32) rfl rfl ?_
      exact XS.iload X10.here hx rfl (hb' d22_33) rfl kt)
    obtain ⟨_, _, ⟨T12, L12, k12, n12⟩, -, X12, ⟨Lc12, hQ12, l12, y12, z12⟩, st12⟩ := X10.specialBack hx (y := y25') rfl hown (mvT hZ (wq hw 151 rfl)) (mvT hZ (wq hw 152 rfl)) (mvT hZ (wq hw 153 rfl)) (by decide) (backOf (W := 1) (rm33_0 l Z a0 hw [] b10 r6x h10 n0 O10 g_b10 A10 Fvalue_10 Fcoder_10) hZ (wq hw 153 rfl) (wq hw 3 rfl) (by decide) (by decide)) (g := (mkF m 35 #[vr ba, vi 0, vi 200, vr r6x, vi 0] [.int 0, .ref r6x, .ref b10, .ref b10])) rfl (by rw [hml]; rfl) (Steps.refl _) (a := b10) (argsL := [(.ref r6x), (.int (0 : Int32))]) (rest := [(.ref b10)]) (lenOf pd_15 rfl) rfl (Nat.le_refl _) (hb' d22_35) (fun _ _ => ⟨rfl, e10, (by decide : 3 + 0 ≤ _), (by decide : 610 + 0 ≤ _)⟩)
    dsimp only [Pt.U, Pt.locs, Pt.cells, Pt.slots] at X12 l12 y12 z12 st12 hQ12
    subst l12 y12 z12
    obtain ⟨rfl, Nq12, Kq12, Ex12, Fv12, Fc12⟩ := hQ12
    have N12 := Fr.app N8 Nq12
    have K12 := Kq12
    have A_ba_e12 := A_ba_e10.keep K12 (ninS ne_ba_b10 nin0)
    have Aq6_e12 := Aq6_e10.keep K12 (ninS ne_r6x_b10 nin0)
    have A10_e12 := A10.keep K12
    have O12 := O10.keep K12 (allS g_b10 all0)
    have KK12 : Keep h0 T12.heap [] := K10.trans K12 (allS (Or.inr sz_b10) all0)
    have cn13 := fun (t : State) (kt : SF p e below T12 (mkF m 38 #[vr ba, vi 0, vi 200, vr r6x, vi 0] [.ref b10]) t) => cn11 t (by
      exact st12.trans kt)
    obtain ⟨frs, hr, hrun, hended, hW, hsame⟩ := X12.leave (v := some (.ref b10)) (fun h => by rw [Bd.returns] at h; cases h)
    refine ⟨_, _, cn13 _ ?_, hrun, hended, _, _, rfl, ?_, ⟨_, rfl⟩, hW, hsame.mono (by decide) (by decide)⟩
    · jvm_step X12.here [X12.here.top, hx, (hb' d22_38), X12.method', Bd.returns, Value.isRef, FieldType.isReference]
      first | (intro acts; rw [hr _ acts rfl rfl rfl]) | rw [hr _ _ rfl rfl rfl]
      exact Steps.refl _
    · show QSU Z cs h0 n0 _ T12.heap _
      exact ⟨b10, r6x, _, _, _, rfl, N12, KK12, sz_b10, sz_r6x, Ex12, Fv12, Fc12, Or.inl ⟨rfl, by rw [hpre.1]; exact Aq6_e12, hP6⟩⟩
  · have N6 := Fr.app N0 Nq6
    have ne_ba_r6x : ba ≠ r6x := Nat.ne_of_lt (Nat.lt_of_lt_of_le A_ba.lt szq6)
    have sz_r6x : h0.size ≤ r6x := Nat.le_trans (Keep.refl h0 []).1 szq6
    have g_r6x : n0 ≤ r6x := Nat.le_trans (O0.1 ▸ O0.2.1) sz_r6x
    have K6 := Kq6
    have A_ba_e6 := A_ba.keep K6 nin0
    have O6 := O0.keep K6 all0
    have KK6 : Keep h0 T6.heap [] := (Keep.refl h0 []).trans K6 all0
    have cn14 := fun (t : State) (kt : SF p e below T6 (mkF m 23 #[vr ba, vi 0, vi 200, vr r6x, .unset] [.int 200, .ref r6x]) t) => cn5 t (by
      refine st6 _ ?_
      refine XS.astoreN X6.here hx rfl (hb' d22_20) rfl rfl (l' := #[vr ba, vi 0, vi 200, vr r6x, .unset]) rfl ?_
      refine XS.aloadN X6.here hx rfl (hb' d22_21) rfl rfl ?_
      exact XS.iloadN X6.here hx rfl (hb' d22_22) rfl kt)
    obtain ⟨_, _, ⟨T15, L15, k15, n15⟩, -, X15, ⟨Lc15, hQ15, l15, y15, z15⟩, st15⟩ := Jvm.LawKit.callS X6 hx (y := y7') hown (mvT hZ (wq hw 149 rfl)) (mvT hZ (wq hw 51 rfl)) (mvT hZ (wq hw 45 rfl)) (mvT hZ (wq hw 52 rfl)) (by decide) (backOf (W := 0) (rm10U l Z a0 hw [] r6x kq6 200 f6 T6.heap n0 O6 (by decide) (by decide) Aq6) hZ (wq hw 52 rfl) (wq hw 45 rfl) (by decide) (by decide)) (g := (mkF m 23 #[vr ba, vi 0, vi 200, vr r6x, .unset] [.int 200, .ref r6x])) rfl (by rw [hml]; rfl) (argsL := [(.ref r6x), (.int (200 : Int32))]) (rest := []) (lenOf pd_6 rfl) rfl (Nat.le_refl _) (hb' d22_23) (fun _ _ => ⟨rfl, rfl, (by decide : 2 + 0 ≤ _), (by decide : 606 + 0 ≤ _)⟩)
    dsimp only [Pt.U, Pt.locs, Pt.cells, Pt.slots] at X15 l15 y15 z15 st15 hQ15
    subst l15 y15 z15
    obtain ⟨rfl, Nq15, eh15⟩ := hQ15
    have N15 := Fr.app N6 Nq15
    have cn16 := fun (t : State) (kt : SF p e below T15 (mkF m 28 #[vr ba, vi 0, vi 200, vr r6x, vi 1] []) t) => cn14 t (by
      refine st15 _ ?_
      exact XS.istore X15.here hx rfl (hb' d22_26) rfl (l' := #[vr ba, vi 0, vi 200, vr r6x, vi 1]) rfl kt)
    obtain ⟨T17, h17, X17, e17, E17, A17, D17, U17, st17⟩ := newO X15 hx hZ hown (wq hw 150 rfl) (wq hw 2 rfl) (wq hw 3 rfl) eh15 (g := (mkF m 28 #[vr ba, vi 0, vi 200, vr r6x, vi 1] [])) rfl (hb' d22_28) (by decide) (by decide)
    obtain ⟨b17, g17⟩ : ∃ z, z = T6.heap.size := ⟨_, rfl⟩
    rw [← g17] at A17 D17 U17 st17
    have ne_ba_b17 : ba ≠ b17 := Nat.ne_of_lt (Nat.lt_of_lt_of_le A_ba_e6.lt (Nat.le_of_eq g17.symm))
    have ne_r6x_b17 : r6x ≠ b17 := Nat.ne_of_lt (Nat.lt_of_lt_of_le Aq6.lt (Nat.le_of_eq g17.symm))
    have sz_b17 : h0.size ≤ b17 := Nat.le_trans KK6.1 (Nat.le_of_eq g17.symm)
    have g_b17 : n0 ≤ b17 := Nat.le_trans (O0.1 ▸ O0.2.1) sz_b17
    have A_ba_e17 := A_ba_e6.ext E17
    have Aq6_e17 := Aq6.ext E17
    have O17 := O6.ext E17
    have K17 : Keep h0 h17 [] := KK6.ext E17
    have Fvalue_17 : Fld Z h17 b17 "java/lang/String" "value" "[B" .null := D17 (Or.inr (wq hw 16 rfl)) (ty := (.array .byte)) (by decide)
    have Fcoder_17 : Fld Z h17 b17 "java/lang/String" "coder" "B" (.int (0 : Int32)) := D17 (Or.inr (wq hw 17 rfl)) (ty := .byte) (by decide)
    have cn18 := fun (t : State) (kt : SF p e below T17 (mkF m 35 #[vr ba, vi 0, vi 200, vr r6x, vi 1] [.int 1, .ref r6x, .ref b17, .ref b17]) t) => cn16 t (by
      refine st17 _ ?_
      refine XS.dup X17.here hx rfl (hb' d22_31) rfl rfl ?_
      refine XS.aloadN X17.here hx rfl (hb' d22_32) rfl rfl ?_
      exact XS.iload X17.here hx rfl (hb' d22_33) rfl kt)
    obtain ⟨_, _, ⟨T19, L19, k19, n19⟩, -, X19, ⟨Lc19, hQ19, l19, y19, z19⟩, st19⟩ := X17.specialBack hx (y := y25') rfl hown (mvT hZ (wq hw 151 rfl)) (mvT hZ (wq hw 152 rfl)) (mvT hZ (wq hw 153 rfl)) (by decide) (backOf (W := 1) (rm33_1 l Z a0 hw [] b17 r6x h17 n0 O17 g_b17 A17 Fvalue_17 Fcoder_17) hZ (wq hw 153 rfl) (wq hw 3 rfl) (by decide) (by decide)) (g := (mkF m 35 #[vr ba, vi 0, vi 200, vr r6x, vi 1] [.int 1, .ref r6x, .ref b17, .ref b17])) rfl (by rw [hml]; rfl) (Steps.refl _) (a := b17) (argsL := [(.ref r6x), (.int (1 : Int32))]) (rest := [(.ref b17)]) (lenOf pd_15 rfl) rfl (Nat.le_refl _) (hb' d22_35) (fun _ _ => ⟨rfl, e17, (by decide : 3 + 0 ≤ _), (by decide : 610 + 0 ≤ _)⟩)
    dsimp only [Pt.U, Pt.locs, Pt.cells, Pt.slots] at X19 l19 y19 z19 st19 hQ19
    subst l19 y19 z19
    obtain ⟨rfl, Nq19, Kq19, Ex19, Fv19, Fc19⟩ := hQ19
    have N19 := Fr.app N15 Nq19
    have K19 := Kq19
    have A_ba_e19 := A_ba_e17.keep K19 (ninS ne_ba_b17 nin0)
    have Aq6_e19 := Aq6_e17.keep K19 (ninS ne_r6x_b17 nin0)
    have A17_e19 := A17.keep K19
    have O19 := O17.keep K19 (allS g_b17 all0)
    have KK19 : Keep h0 T19.heap [] := K17.trans K19 (allS (Or.inr sz_b17) all0)
    have cn20 := fun (t : State) (kt : SF p e below T19 (mkF m 38 #[vr ba, vi 0, vi 200, vr r6x, vi 1] [.ref b17]) t) => cn18 t (by
      exact st19.trans kt)
    obtain ⟨frs, hr, hrun, hended, hW, hsame⟩ := X19.leave (v := some (.ref b17)) (fun h => by rw [Bd.returns] at h; cases h)
    refine ⟨_, _, cn20 _ ?_, hrun, hended, _, _, rfl, ?_, ⟨_, rfl⟩, hW, hsame.mono (by decide) (by decide)⟩
    · jvm_step X19.here [X19.here.top, hx, (hb' d22_38), X19.method', Bd.returns, Value.isRef, FieldType.isReference]
      first | (intro acts; rw [hr _ acts rfl rfl rfl]) | rw [hr _ _ rfl rfl rfl]
      exact Steps.refl _
    · show QSU Z cs h0 n0 _ T19.heap _
      exact ⟨b17, r6x, _, _, _, rfl, N19, KK19, sz_b17, sz_r6x, Ex19, Fv19, Fc19, Or.inr ⟨rfl, by rw [hpre.1]; exact Aq6_e19, hP6⟩⟩

theorem d18_0 : DC c30' 0 (.aload_n 0) 1 := by decide +kernel
theorem d18_1 : DC c30' 1 (.invokevirtual 505) 3 := by decide +kernel
theorem d18_4 : DC c30' 4 (.istore_n 3) 1 := by decide +kernel
theorem d18_5 : DC c30' 5 (.iload_n 1) 1 := by decide +kernel
theorem d18_6 : DC c30' 6 (.iload_n 2) 1 := by decide +kernel
theorem d18_7 : DC c30' 7 (.iload_n 3) 1 := by decide +kernel
theorem d18_8 : DC c30' 8 (.invokestatic 521) 3 := by decide +kernel
theorem d18_11 : DC c30' 11 (.iload_n 1) 1 := by decide +kernel
theorem d18_12 : DC c30' 12 (.ifCond .ne 10) 3 := by decide +kernel
theorem d18_15 : DC c30' 15 (.iload_n 2) 1 := by decide +kernel
theorem d18_16 : DC c30' 16 (.iload_n 3) 1 := by decide +kernel
theorem d18_17 : DC c30' 17 (.if_icmp .ne 5) 3 := by decide +kernel
theorem d18_22 : DC c30' 22 (.iload_n 2) 1 := by decide +kernel
theorem d18_23 : DC c30' 23 (.iload_n 1) 1 := by decide +kernel
theorem d18_24 : DC c30' 24 (.isub) 1 := by decide +kernel
theorem d18_25 : DC c30' 25 (.istore 4) 2 := by decide +kernel
theorem d18_27 : DC c30' 27 (.aload_n 0) 1 := by decide +kernel
theorem d18_28 : DC c30' 28 (.invokevirtual 492) 3 := by decide +kernel
theorem d18_31 : DC c30' 31 (.ifCond .eq 16) 3 := by decide +kernel
theorem d18_34 : DC c30' 34 (.aload_n 0) 1 := by decide +kernel
theorem d18_35 : DC c30' 35 (.getfield 9) 3 := by decide +kernel
theorem d18_38 : DC c30' 38 (.iload_n 1) 1 := by decide +kernel
theorem d18_39 : DC c30' 39 (.iload 4) 2 := by decide +kernel
theorem d18_41 : DC c30' 41 (.invokestatic 685) 3 := by decide +kernel
theorem d18_44 : DC c30' 44 (.goto 13) 3 := by decide +kernel
theorem d18_47 : DC c30' 47 (.aload_n 0) 1 := by decide +kernel
theorem d18_48 : DC c30' 48 (.getfield 9) 3 := by decide +kernel
theorem d18_51 : DC c30' 51 (.iload_n 1) 1 := by decide +kernel
theorem d18_52 : DC c30' 52 (.iload 4) 2 := by decide +kernel
theorem d18_54 : DC c30' 54 (.invokestatic 689) 3 := by decide +kernel
theorem d18_57 : DC c30' 57 (.areturn) 1 := by decide +kernel
theorem pd_18 : parseMethodDescriptor "()I" = some ⟨[], some .int⟩ := by decide +kernel
theorem pd_20 : parseMethodDescriptor "()Z" = some ⟨[], some .boolean⟩ := by decide +kernel
theorem pd_19 : parseMethodDescriptor "(III)V" = some ⟨[.int, .int, .int], none⟩ := by decide +kernel
theorem pd_21 : parseMethodDescriptor "([BII)Ljava/lang/String;" = some ⟨[(.array .byte), .int, .int], some (.object "java/lang/String")⟩ := by decide +kernel
theorem ef_18 (m : MethodId) (x0 : Addr) (x1 : Int32) (x2 : Int32) : entryFrame m #[(.ref x0), (.int x1), (.int x2)] 5 = mkF m 0 #[.val (.ref x0), .val (.int x1), .val (.int x2), .unset, .unset] [] := by first | (simp [entryFrame, mkF, argsToLocals, Value.category]; done) | rfl
theorem rm18 (l : Launch) (Z : State) (a0 : Array Value) (hw : HW a0 Z) (ws : List Jvm.Cond) (a1 b : Addr) (es cs : List Int32) (k : ClassId) (f : Nat → Value) (cd : Int32) (co : Int32) (vf : Value) (h0 : Heap) (n0 : Nat) (O0 : Old Z n0 h0) (h200 : 200 < es.length) (hm : es.length ≤ 402) (hpre : own_pre es cs) (hu : own_u es) (hud : own_u cs) (Sh : SS Z h0 a1 es b k f cd) (SWh : SW Z co vf) :
    MT l y30' c30' 5 (some (.object "java/lang/String")) ws ({ frames := 6, cells := 3, slots := 610, locals := 103 } : Room) #[(.ref a1), (.int (0 : Int32)), (.int (200 : Int32))] Z h0 (QSU Z cs h0 n0) := by
  refine MetFree.of_bodySF (plainFor_of_name pn_java_lang_String) hisR ?_
  intro p e s m args below meth kode s₁ Bd hml0 hP hK
  obtain ⟨rfl, hZ, hh⟩ := hP
  have hx := Bd.exec
  have hby := Bd.bytes
  have hb' := @hb _ _ hby
  have hml : kode.maxLocals = 5 := hml0
  have hown : s.vm.findClass "java/lang/String" = some m.cls := findClass_of_methodNamed Bd.named
  have X0 : Stand p l e ({ frames := 6, cells := 3, slots := 610, locals := 103 } : Room) s m #[(.ref a1), (.int (0 : Int32)), (.int (200 : Int32))] below meth kode s₁ [] 0 0 := Stand.of_body Bd
  have e0 : s₁.heap = h0 := by rw [← hh, Bd.state]; rfl
  have N0 := Fr.nil n0
  have pre0 : ∀ t, SF p e below s₁ (mkF m 0 #[vr a1, vi 0, vi 200, .unset, .unset] []) t → SF p e below s₁ (entryFrame m #[(.ref a1), (.int (0 : Int32)), (.int (200 : Int32))] 5) t := fun t k => castTop (ef_18 m a1 (0 : Int32) (200 : Int32)) k
  have SWx := SWh
  obtain ⟨S_CS, hcs, S_AD, S_HI, S_LO, S_SI, hcat_vf⟩ := SWx
  have Sh0 := Sh
  obtain ⟨E_a1, Fv, Fc, ⟨rfl, A_b, hP⟩ | ⟨rfl, A_b, hP⟩⟩ := Sh
  · have hmc := hm
    have cn1 := fun (t : State) (kt : SF p e below s₁ (mkF m 1 #[vr a1, vi 0, vi 200, .unset, .unset] [.ref a1]) t) => pre0 t (by
      exact XS.aloadN X0.here hx rfl (hb' d18_0) rfl rfl kt)
    obtain ⟨cq2, kq2, q2a, q2b, q2c⟩ := isOf hZ e0 E_a1
    obtain ⟨_, _, ⟨T2, L2, k2, n2⟩, -, X2, ⟨Lc2, hQ2, l2, y2, z2⟩, st2⟩ := X0.virtualBack hx (y := y13') (z := y13') hown (mvT hZ (wq hw 95 rfl)) (mvT hZ (wq hw 27 rfl)) (notFace_of_selects (args := #[]) (mvT hZ (wq hw 29 rfl))) (mvT hZ (wq hw 29 rfl)) (mvT hZ (wq hw 28 rfl)) (by decide) (backOf (W := 0) (rm5 l Z a0 hw [] a1 b es k f 0 co vf h0 n0 O0 hm Sh0 SWh) hZ (wq hw 30 rfl) (wq hw 3 rfl) (by decide) (by decide)) q2a q2c (g := (mkF m 1 #[vr a1, vi 0, vi 200, .unset, .unset] [.ref a1])) rfl (by rw [hml]; rfl) (Steps.refl _) (argsL := []) (rest := []) (lenOf pd_18 rfl) rfl (Nat.le_refl _) (hb' d18_1) (fun _ _ => ⟨rfl, e0, (by decide : 0 + 0 ≤ _), (by decide : 0 + 0 ≤ _)⟩)
    dsimp only [Pt.U, Pt.locs, Pt.cells, Pt.slots] at X2 l2 y2 z2 st2 hQ2
    subst l2 y2 z2
    obtain ⟨rfl, Nq2, eh2⟩ := hQ2
    have N2 := Fr.app N0 Nq2
    have cn3 := fun (t : State) (kt : SF p e below T2 (mkF m 8 #[vr a1, vi 0, vi 200, vi (Nat.toInt32 es.length), .unset] [.int (Nat.toInt32 es.length), .int 200, .int 0]) t) => cn1 t (by
      refine st2.trans ?_
      refine XS.istoreN X2.here hx rfl (hb' d18_4) rfl (l' := #[vr a1, vi 0, vi 200, vi (Nat.toInt32 es.length), .unset]) rfl ?_
      refine XS.iloadN X2.here hx rfl (hb' d18_5) rfl ?_
      refine XS.iloadN X2.here hx rfl (hb' d18_6) rfl ?_
      exact XS.iloadN X2.here hx rfl (hb' d18_7) rfl kt)
    obtain ⟨_, _, ⟨T4, L4, k4, n4⟩, -, X4, ⟨Lc4, hQ4, l4, y4, z4⟩, st4⟩ := Jvm.LawKit.callS X2 hx (y := y15') hown (mvT hZ (wq hw 96 rfl)) (mvT hZ (wq hw 97 rfl)) (mvT hZ (wq hw 3 rfl)) (mvT hZ (wq hw 98 rfl)) (by decide) (backOf (W := 0) (rm19 l Z a0 hw [] es.length co vf h0 n0 O0 (by omega) (by omega) SWh) hZ (wq hw 98 rfl) (wq hw 3 rfl) (by decide) (by decide)) (g := (mkF m 8 #[vr a1, vi 0, vi 200, vi (Nat.toInt32 es.length), .unset] [.int (Nat.toInt32 es.length), .int 200, .int 0])) rfl (by rw [hml]; rfl) (argsL := [(.int (0 : Int32)), (.int (200 : Int32)), (.int (Nat.toInt32 es.length))]) (rest := []) (lenOf pd_19 rfl) rfl (Nat.le_refl _) (hb' d18_8) (fun _ _ => ⟨rfl, eh2, (by decide : 0 + 0 ≤ _), (by decide : 0 + 0 ≤ _)⟩)
    dsimp only [Pt.U, Pt.locs, Pt.cells, Pt.slots] at X4 l4 y4 z4 st4 hQ4
    subst l4 y4 z4
    obtain ⟨rfl, Nq4, eh4⟩ := hQ4
    have N4 := Fr.app N2 Nq4
    have cn5 := fun (t : State) (kt : SF p e below T4 (mkF m 12 #[vr a1, vi 0, vi 200, vi (Nat.toInt32 es.length), .unset] [.int 0]) t) => cn3 t (by
      refine st4 _ ?_
      exact XS.iloadN X4.here hx rfl (hb' d18_11) rfl kt)
    have cn6 := fun (t : State) (kt : SF p e below T4 (mkF m 17 #[vr a1, vi 0, vi 200, vi (Nat.toInt32 es.length), .unset] [.int (Nat.toInt32 es.length), .int 200]) t) => cn5 t (by
      refine XS.ifNo X4.here hx rfl (hb' d18_12) rfl ((if0 _ _).trans (teq (by decide : (0 : Int32) = (0 : Int32))).2) ?_
      refine XS.iloadN X4.here hx rfl (hb' d18_15) rfl ?_
      exact XS.iloadN X4.here hx rfl (hb' d18_16) rfl kt)
    have cn7 := fun (t : State) (kt : SF p e below T4 (mkF m 28 #[vr a1, vi 0, vi 200, vi (Nat.toInt32 es.length), vi 200] [.ref a1]) t) => cn6 t (by
      refine XS.icmpYes X4.here hx rfl (pc0 := 17) (pc' := 22) rfl (hb' d18_17) rfl (feq (fun q => absurd ((own_eqn (i := 200) (by decide) (by omega)).mp q) (by omega))).2 (by decide) (by decide) ?_
      refine XS.iloadN X4.here hx rfl (hb' d18_22) rfl ?_
      refine XS.iloadN X4.here hx rfl (hb' d18_23) rfl ?_
      refine XS.isub X4.here hx rfl (hb' d18_24) rfl ?_
      refine XS.istore X4.here hx rfl (hb' d18_25) rfl (l' := #[vr a1, vi 0, vi 200, vi (Nat.toInt32 es.length), vi 200]) rfl ?_
      exact XS.aloadN X4.here hx rfl (hb' d18_27) rfl rfl kt)
    obtain ⟨cq8, kq8, q8a, q8b, q8c⟩ := isOf hZ eh4 E_a1
    obtain ⟨_, _, ⟨T8, L8, k8, n8⟩, -, X8, ⟨Lc8, hQ8, l8, y8, z8⟩, st8⟩ := X4.virtualBack hx (y := y11') (z := y11') hown (mvT hZ (wq hw 104 rfl)) (mvT hZ (wq hw 105 rfl)) (notFace_of_selects (args := #[]) (mvT hZ (wq hw 107 rfl))) (mvT hZ (wq hw 107 rfl)) (mvT hZ (wq hw 106 rfl)) (by decide) (backOf (W := 0) (rm21_0 l Z a0 hw [] a1 co vf h0 n0 O0 Fc SWh) hZ (wq hw 108 rfl) (wq hw 3 rfl) (by decide) (by decide)) q8a q8c (g := (mkF m 28 #[vr a1, vi 0, vi 200, vi (Nat.toInt32 es.length), vi 200] [.ref a1])) rfl (by rw [hml]; rfl) (Steps.refl _) (argsL := []) (rest := []) (lenOf pd_20 rfl) rfl (Nat.le_refl _) (hb' d18_28) (fun _ _ => ⟨rfl, eh4, (by decide : 0 + 0 ≤ _), (by decide : 0 + 0 ≤ _)⟩)
    dsimp only [Pt.U, Pt.locs, Pt.cells, Pt.slots] at X8 l8 y8 z8 st8 hQ8
    subst l8 y8 z8
    obtain ⟨rfl, Nq8, eh8⟩ := hQ8
    have N8 := Fr.app N4 Nq8
    have cn9 := fun (t : State) (kt : SF p e below T8 (mkF m 31 #[vr a1, vi 0, vi 200, vi (Nat.toInt32 es.length), vi 200] [.int 1]) t) => cn7 t (by
      exact st8.trans kt)
    have cn10 := fun (t : State) (kt : SF p e below T8 (mkF m 35 #[vr a1, vi 0, vi 200, vi (Nat.toInt32 es.length), vi 200] [.ref a1]) t) => cn9 t (by
      refine XS.ifNo X8.here hx rfl (hb' d18_31) rfl ((if0 _ _).trans (feq (by decide : ¬ ((1 : Int32) = (0 : Int32)))).1) ?_
      exact XS.aloadN X8.here hx rfl (hb' d18_34) rfl rfl kt)
    obtain ⟨T11, X11, e11, st11⟩ := getF X8 hx hZ hown (host := "") (Or.inl (wq hw 20 rfl)) Via.refl eh8 Fv (g := (mkF m 35 #[vr a1, vi 0, vi 200, vi (Nat.toInt32 es.length), vi 200] [.ref a1])) rfl rfl (hb' d18_35)
    have cn12 := fun (t : State) (kt : SF p e below T11 (mkF m 41 #[vr a1, vi 0, vi 200, vi (Nat.toInt32 es.length), vi 200] [.int 200, .int 0, .ref b]) t) => cn10 t (by
      refine st11 _ ?_
      refine XS.iloadN X11.here hx rfl (hb' d18_38) rfl ?_
      exact XS.iload X11.here hx rfl (hb' d18_39) rfl kt)
    obtain ⟨_, _, ⟨T13, L13, k13, n13⟩, -, X13, ⟨Lc13, hQ13, l13, y13, z13⟩, st13⟩ := Jvm.LawKit.callS X11 hx (y := y26') hown (mvT hZ (wq hw 259 rfl)) (mvT hZ (wq hw 260 rfl)) (mvT hZ (wq hw 213 rfl)) (mvT hZ (wq hw 261 rfl)) (by decide) (backOf (W := 0) (rm55 l Z a0 hw [] b k es cs f h0 n0 O0 h200 hm hpre A_b hP) hZ (wq hw 261 rfl) (wq hw 213 rfl) (by decide) (by decide)) (g := (mkF m 41 #[vr a1, vi 0, vi 200, vi (Nat.toInt32 es.length), vi 200] [.int 200, .int 0, .ref b])) rfl (by rw [hml]; rfl) (argsL := [(.ref b), (.int (0 : Int32)), (.int (200 : Int32))]) (rest := []) (lenOf pd_21 rfl) rfl (Nat.le_refl _) (hb' d18_41) (fun _ _ => ⟨rfl, e11, (by decide : 0 + 2 ≤ _), (by decide : 0 + 410 ≤ _)⟩)
    dsimp only [Pt.U, Pt.locs, Pt.cells, Pt.slots] at X13 l13 y13 z13 st13 hQ13
    subst l13 y13 z13
    obtain ⟨r13x, b13x, kq13, f13, cd13, rfl, Nq13, Kq13, szq13, szb13, SS13⟩ := hQ13
    have N13 := Fr.app N8 Nq13
    have sz_r13x : h0.size ≤ r13x := Nat.le_trans (Keep.refl h0 []).1 szq13
    have sz_b13x : h0.size ≤ b13x := Nat.le_trans (Keep.refl h0 []).1 szb13
    have ne_a1_r13x : a1 ≠ r13x := Nat.ne_of_lt (Nat.lt_of_lt_of_le E_a1.lt szq13)
    have ne_a1_b13x : a1 ≠ b13x := Nat.ne_of_lt (Nat.lt_of_lt_of_le E_a1.lt szb13)
    have ne_b_r13x : b ≠ r13x := Nat.ne_of_lt (Nat.lt_of_lt_of_le A_b.lt szq13)
    have ne_b_b13x : b ≠ b13x := Nat.ne_of_lt (Nat.lt_of_lt_of_le A_b.lt szb13)
    have K13 := Kq13
    have E_a1_e13 := E_a1.keep K13
    have Fv_e13 := Fv.keep K13 nin0
    have Fc_e13 := Fc.keep K13 nin0
    have A_b_e13 := A_b.keep K13 nin0
    have O13 := O0.keep K13 all0
    have KK13 : Keep h0 T13.heap [] := (Keep.refl h0 []).trans K13 all0
    have cn14 := fun (t : State) (kt : SF p e below T13 (mkF m 57 #[vr a1, vi 0, vi 200, vi (Nat.toInt32 es.length), vi 200] [.ref r13x]) t) => cn12 t (by
      refine st13 _ ?_
      exact XS.goto X13.here hx rfl (pc0 := 44) (pc' := 57) rfl (hb' d18_44) (by decide) (by decide) kt)
    obtain ⟨frs, hr, hrun, hended, hW, hsame⟩ := X13.leave (v := some (.ref r13x)) (fun h => by rw [Bd.returns] at h; cases h)
    refine ⟨_, _, cn14 _ ?_, hrun, hended, _, _, rfl, ?_, ⟨_, rfl⟩, hW, hsame.mono (by decide) (by decide)⟩
    · jvm_step X13.here [X13.here.top, hx, (hb' d18_57), X13.method', Bd.returns, Value.isRef, FieldType.isReference]
      first | (intro acts; rw [hr _ acts rfl rfl rfl]) | rw [hr _ _ rfl rfl rfl]
      exact Steps.refl _
    · show QSU Z cs h0 n0 _ T13.heap _
      exact ⟨r13x, b13x, kq13, f13, cd13, rfl, N13, KK13, sz_r13x, sz_b13x, SS13⟩
  · have hmc := hm
    have cn15 := fun (t : State) (kt : SF p e below s₁ (mkF m 1 #[vr a1, vi 0, vi 200, .unset, .unset] [.ref a1]) t) => pre0 t (by
      exact XS.aloadN X0.here hx rfl (hb' d18_0) rfl rfl kt)
    obtain ⟨cq16, kq16, q16a, q16b, q16c⟩ := isOf hZ e0 E_a1
    obtain ⟨_, _, ⟨T16, L16, k16, n16⟩, -, X16, ⟨Lc16, hQ16, l16, y16, z16⟩, st16⟩ := X0.virtualBack hx (y := y13') (z := y13') hown (mvT hZ (wq hw 95 rfl)) (mvT hZ (wq hw 27 rfl)) (notFace_of_selects (args := #[]) (mvT hZ (wq hw 29 rfl))) (mvT hZ (wq hw 29 rfl)) (mvT hZ (wq hw 28 rfl)) (by decide) (backOf (W := 0) (rm5 l Z a0 hw [] a1 b es k f 1 co vf h0 n0 O0 hm Sh0 SWh) hZ (wq hw 30 rfl) (wq hw 3 rfl) (by decide) (by decide)) q16a q16c (g := (mkF m 1 #[vr a1, vi 0, vi 200, .unset, .unset] [.ref a1])) rfl (by rw [hml]; rfl) (Steps.refl _) (argsL := []) (rest := []) (lenOf pd_18 rfl) rfl (Nat.le_refl _) (hb' d18_1) (fun _ _ => ⟨rfl, e0, (by decide : 0 + 0 ≤ _), (by decide : 0 + 0 ≤ _)⟩)
    dsimp only [Pt.U, Pt.locs, Pt.cells, Pt.slots] at X16 l16 y16 z16 st16 hQ16
    subst l16 y16 z16
    obtain ⟨rfl, Nq16, eh16⟩ := hQ16
    have N16 := Fr.app N0 Nq16
    have cn17 := fun (t : State) (kt : SF p e below T16 (mkF m 8 #[vr a1, vi 0, vi 200, vi (Nat.toInt32 es.length), .unset] [.int (Nat.toInt32 es.length), .int 200, .int 0]) t) => cn15 t (by
      refine st16.trans ?_
      refine XS.istoreN X16.here hx rfl (hb' d18_4) rfl (l' := #[vr a1, vi 0, vi 200, vi (Nat.toInt32 es.length), .unset]) rfl ?_
      refine XS.iloadN X16.here hx rfl (hb' d18_5) rfl ?_
      refine XS.iloadN X16.here hx rfl (hb' d18_6) rfl ?_
      exact XS.iloadN X16.here hx rfl (hb' d18_7) rfl kt)
    obtain ⟨_, _, ⟨T18, L18, k18, n18⟩, -, X18, ⟨Lc18, hQ18, l18, y18, z18⟩, st18⟩ := Jvm.LawKit.callS X16 hx (y := y15') hown (mvT hZ (wq hw 96 rfl)) (mvT hZ (wq hw 97 rfl)) (mvT hZ (wq hw 3 rfl)) (mvT hZ (wq hw 98 rfl)) (by decide) (backOf (W := 0) (rm19 l Z a0 hw [] es.length co vf h0 n0 O0 (by omega) (by omega) SWh) hZ (wq hw 98 rfl) (wq hw 3 rfl) (by decide) (by decide)) (g := (mkF m 8 #[vr a1, vi 0, vi 200, vi (Nat.toInt32 es.length), .unset] [.int (Nat.toInt32 es.length), .int 200, .int 0])) rfl (by rw [hml]; rfl) (argsL := [(.int (0 : Int32)), (.int (200 : Int32)), (.int (Nat.toInt32 es.length))]) (rest := []) (lenOf pd_19 rfl) rfl (Nat.le_refl _) (hb' d18_8) (fun _ _ => ⟨rfl, eh16, (by decide : 0 + 0 ≤ _), (by decide : 0 + 0 ≤ _)⟩)
    dsimp only [Pt.U, Pt.locs, Pt.cells, Pt.slots] at X18 l18 y18 z18 st18 hQ18
    subst l18 y18 z18
    obtain ⟨rfl, Nq18, eh18⟩ := hQ18
    have N18 := Fr.app N16 Nq18
    have cn19 := fun (t : State) (kt : SF p e below T18 (mkF m 12 #[vr a1, vi 0, vi 200, vi (Nat.toInt32 es.length), .unset] [.int 0]) t) => cn17 t (by
      refine st18 _ ?_
      exact XS.iloadN X18.here hx rfl (hb' d18_11) rfl kt)
    have cn20 := fun (t : State) (kt : SF p e below T18 (mkF m 17 #[vr a1, vi 0, vi 200, vi (Nat.toInt32 es.length), .unset] [.int (Nat.toInt32 es.length), .int 200]) t) => cn19 t (by
      refine XS.ifNo X18.here hx rfl (hb' d18_12) rfl ((if0 _ _).trans (teq (by decide : (0 : Int32) = (0 : Int32))).2) ?_
      refine XS.iloadN X18.here hx rfl (hb' d18_15) rfl ?_
      exact XS.iloadN X18.here hx rfl (hb' d18_16) rfl kt)
    have cn21 := fun (t : State) (kt : SF p e below T18 (mkF m 28 #[vr a1, vi 0, vi 200, vi (Nat.toInt32 es.length), vi 200] [.ref a1]) t) => cn20 t (by
      refine XS.icmpYes X18.here hx rfl (pc0 := 17) (pc' := 22) rfl (hb' d18_17) rfl (feq (fun q => absurd ((own_eqn (i := 200) (by decide) (by omega)).mp q) (by omega))).2 (by decide) (by decide) ?_
      refine XS.iloadN X18.here hx rfl (hb' d18_22) rfl ?_
      refine XS.iloadN X18.here hx rfl (hb' d18_23) rfl ?_
      refine XS.isub X18.here hx rfl (hb' d18_24) rfl ?_
      refine XS.istore X18.here hx rfl (hb' d18_25) rfl (l' := #[vr a1, vi 0, vi 200, vi (Nat.toInt32 es.length), vi 200]) rfl ?_
      exact XS.aloadN X18.here hx rfl (hb' d18_27) rfl rfl kt)
    obtain ⟨cq22, kq22, q22a, q22b, q22c⟩ := isOf hZ eh18 E_a1
    obtain ⟨_, _, ⟨T22, L22, k22, n22⟩, -, X22, ⟨Lc22, hQ22, l22, y22, z22⟩, st22⟩ := X18.virtualBack hx (y := y11') (z := y11') hown (mvT hZ (wq hw 104 rfl)) (mvT hZ (wq hw 105 rfl)) (notFace_of_selects (args := #[]) (mvT hZ (wq hw 107 rfl))) (mvT hZ (wq hw 107 rfl)) (mvT hZ (wq hw 106 rfl)) (by decide) (backOf (W := 0) (rm21_1 l Z a0 hw [] a1 co vf h0 n0 O0 Fc SWh) hZ (wq hw 108 rfl) (wq hw 3 rfl) (by decide) (by decide)) q22a q22c (g := (mkF m 28 #[vr a1, vi 0, vi 200, vi (Nat.toInt32 es.length), vi 200] [.ref a1])) rfl (by rw [hml]; rfl) (Steps.refl _) (argsL := []) (rest := []) (lenOf pd_20 rfl) rfl (Nat.le_refl _) (hb' d18_28) (fun _ _ => ⟨rfl, eh18, (by decide : 0 + 0 ≤ _), (by decide : 0 + 0 ≤ _)⟩)
    dsimp only [Pt.U, Pt.locs, Pt.cells, Pt.slots] at X22 l22 y22 z22 st22 hQ22
    subst l22 y22 z22
    obtain ⟨rfl, Nq22, eh22⟩ := hQ22
    have N22 := Fr.app N18 Nq22
    have cn23 := fun (t : State) (kt : SF p e below T22 (mkF m 31 #[vr a1, vi 0, vi 200, vi (Nat.toInt32 es.length), vi 200] [.int 0]) t) => cn21 t (by
      exact st22.trans kt)
    have cn24 := fun (t : State) (kt : SF p e below T22 (mkF m 48 #[vr a1, vi 0, vi 200, vi (Nat.toInt32 es.length), vi 200] [.ref a1]) t) => cn23 t (by
      refine XS.ifYes X22.here hx rfl (pc0 := 31) (pc' := 47) rfl (hb' d18_31) rfl ((if0 _ _).trans (teq (by decide : (0 : Int32) = (0 : Int32))).1) (by decide) (by decide) ?_
      exact XS.aloadN X22.here hx rfl (hb' d18_47) rfl rfl kt)
    obtain ⟨T25, X25, e25, st25⟩ := getF X22 hx hZ hown (host := "") (Or.inl (wq hw 20 rfl)) Via.refl eh22 Fv (g := (mkF m 48 #[vr a1, vi 0, vi 200, vi (Nat.toInt32 es.length), vi 200] [.ref a1])) rfl rfl (hb' d18_48)
    have cn26 := fun (t : State) (kt : SF p e below T25 (mkF m 54 #[vr a1, vi 0, vi 200, vi (Nat.toInt32 es.length), vi 200] [.int 200, .int 0, .ref b]) t) => cn24 t (by
      refine st25 _ ?_
      refine XS.iloadN X25.here hx rfl (hb' d18_51) rfl ?_
      exact XS.iload X25.here hx rfl (hb' d18_52) rfl kt)
    obtain ⟨_, _, ⟨T27, L27, k27, n27⟩, -, X27, ⟨Lc27, hQ27, l27, y27, z27⟩, st27⟩ := Jvm.LawKit.callS X25 hx (y := y29') hown (mvT hZ (wq hw 109 rfl)) (mvT hZ (wq hw 110 rfl)) (mvT hZ (wq hw 45 rfl)) (mvT hZ (wq hw 111 rfl)) (by decide) (backOf (W := 0) (rm22 l Z a0 hw [] b k es cs f co vf h0 n0 O0 h200 hm hpre hu hud A_b hP.1 SWh) hZ (wq hw 111 rfl) (wq hw 45 rfl) (by decide) (by decide)) (g := (mkF m 54 #[vr a1, vi 0, vi 200, vi (Nat.toInt32 es.length), vi 200] [.int 200, .int 0, .ref b])) rfl (by rw [hml]; rfl) (argsL := [(.ref b), (.int (0 : Int32)), (.int (200 : Int32))]) (rest := []) (lenOf pd_21 rfl) rfl (Nat.le_refl _) (hb' d18_54) (fun _ _ => ⟨rfl, e25, (by decide : 0 + 3 ≤ _), (by decide : 0 + 610 ≤ _)⟩)
    dsimp only [Pt.U, Pt.locs, Pt.cells, Pt.slots] at X27 l27 y27 z27 st27 hQ27
    subst l27 y27 z27
    obtain ⟨r27x, b27x, kq27, f27, cd27, rfl, Nq27, Kq27, szq27, szb27, SS27⟩ := hQ27
    have N27 := Fr.app N22 Nq27
    have sz_r27x : h0.size ≤ r27x := Nat.le_trans (Keep.refl h0 []).1 szq27
    have sz_b27x : h0.size ≤ b27x := Nat.le_trans (Keep.refl h0 []).1 szb27
    have ne_a1_r27x : a1 ≠ r27x := Nat.ne_of_lt (Nat.lt_of_lt_of_le E_a1.lt szq27)
    have ne_a1_b27x : a1 ≠ b27x := Nat.ne_of_lt (Nat.lt_of_lt_of_le E_a1.lt szb27)
    have ne_b_r27x : b ≠ r27x := Nat.ne_of_lt (Nat.lt_of_lt_of_le A_b.lt szq27)
    have ne_b_b27x : b ≠ b27x := Nat.ne_of_lt (Nat.lt_of_lt_of_le A_b.lt szb27)
    have K27 := Kq27
    have E_a1_e27 := E_a1.keep K27
    have Fv_e27 := Fv.keep K27 nin0
    have Fc_e27 := Fc.keep K27 nin0
    have A_b_e27 := A_b.keep K27 nin0
    have O27 := O0.keep K27 all0
    have KK27 : Keep h0 T27.heap [] := (Keep.refl h0 []).trans K27 all0
    have cn28 := fun (t : State) (kt : SF p e below T27 (mkF m 57 #[vr a1, vi 0, vi 200, vi (Nat.toInt32 es.length), vi 200] [.ref r27x]) t) => cn26 t (by
      exact st27 _ kt)
    obtain ⟨frs, hr, hrun, hended, hW, hsame⟩ := X27.leave (v := some (.ref r27x)) (fun h => by rw [Bd.returns] at h; cases h)
    refine ⟨_, _, cn28 _ ?_, hrun, hended, _, _, rfl, ?_, ⟨_, rfl⟩, hW, hsame.mono (by decide) (by decide)⟩
    · jvm_step X27.here [X27.here.top, hx, (hb' d18_57), X27.method', Bd.returns, Value.isRef, FieldType.isReference]
      first | (intro acts; rw [hr _ acts rfl rfl rfl]) | rw [hr _ _ rfl rfl rfl]
      exact Steps.refl _
    · show QSU Z cs h0 n0 _ T27.heap _
      exact ⟨r27x, b27x, kq27, f27, cd27, rfl, N27, KK27, sz_r27x, sz_b27x, SS27⟩

theorem d17_0 : DC c31' 0 (.aload_n 0) 1 := by decide +kernel
theorem d17_1 : DC c31' 1 (.invokespecial 3) 3 := by decide +kernel
theorem d17_4 : DC c31' 4 (.getstatic 18) 3 := by decide +kernel
theorem d17_7 : DC c31' 7 (.ifCond .eq 18) 3 := by decide +kernel
theorem d17_10 : DC c31' 10 (.aload_n 0) 1 := by decide +kernel
theorem d17_11 : DC c31' 11 (.iload_n 1) 1 := by decide +kernel
theorem d17_12 : DC c31' 12 (.newarray .byte) 2 := by decide +kernel
theorem d17_14 : DC c31' 14 (.putfield 15) 3 := by decide +kernel
theorem d17_17 : DC c31' 17 (.aload_n 0) 1 := by decide +kernel
theorem d17_18 : DC c31' 18 (.iconst 0) 1 := by decide +kernel
theorem d17_19 : DC c31' 19 (.putfield 22) 3 := by decide +kernel
theorem d17_22 : DC c31' 22 (.goto 16) 3 := by decide +kernel
theorem d17_38 : DC c31' 38 (.return_) 1 := by decide +kernel
theorem pn_java_lang_AbstractStringBuilder : plainName "java/lang/AbstractStringBuilder" = true := by first | (simp [plainName, overriddenIn]; done) | decide +kernel
theorem ef_17 (m : MethodId) (x0 : Addr) (x1 : Int32) : entryFrame m #[(.ref x0), (.int x1)] 2 = mkF m 0 #[.val (.ref x0), .val (.int x1)] [] := by first | (simp [entryFrame, mkF, argsToLocals, Value.category]; done) | rfl
theorem rm17 (l : Launch) (Z : State) (a0 : Array Value) (hw : HW a0 Z) (ws : List Jvm.Cond) (sb : Addr) (co : Int32) (vf : Value) (h0 : Heap) (n0 : Nat) (O0 : Old Z n0 h0) (g_sb : n0 ≤ sb) (E_sb : Exa Z h0 sb "java/lang/StringBuilder") (Fsbv : Fld Z h0 sb "java/lang/AbstractStringBuilder" "value" "[B" .null) (Fsbc : Fld Z h0 sb "java/lang/AbstractStringBuilder" "coder" "B" (.int (0 : Int32))) (Fsbn : Fld Z h0 sb "java/lang/AbstractStringBuilder" "count" "I" (.int (0 : Int32))) (Fsbm : Fld Z h0 sb "java/lang/AbstractStringBuilder" "maybeLatin1" "Z" (.int (0 : Int32))) (SWh : SW Z co vf) :
    MT l y31' c31' 2 none ws ({ frames := 1, cells := 1, slots := 16, locals := 12 } : Room) #[(.ref sb), (.int (16 : Int32))] Z h0 (QSB Z sb 0 0 16 (fun _ => True) none h0 n0) := by
  refine MetFree.of_bodySF (plainFor_of_name pn_java_lang_AbstractStringBuilder) hisR ?_
  intro p e s m args below meth kode s₁ Bd hml0 hP hK
  obtain ⟨rfl, hZ, hh⟩ := hP
  have hx := Bd.exec
  have hby := Bd.bytes
  have hb' := @hb _ _ hby
  have hml : kode.maxLocals = 2 := hml0
  have hown : s.vm.findClass "java/lang/AbstractStringBuilder" = some m.cls := findClass_of_methodNamed Bd.named
  have X0 : Stand p l e ({ frames := 1, cells := 1, slots := 16, locals := 12 } : Room) s m #[(.ref sb), (.int (16 : Int32))] below meth kode s₁ [] 0 0 := Stand.of_body Bd
  have e0 : s₁.heap = h0 := by rw [← hh, Bd.state]; rfl
  have N0 := Fr.nil n0
  have pre0 : ∀ t, SF p e below s₁ (mkF m 0 #[vr sb, vi 16] []) t → SF p e below s₁ (entryFrame m #[(.ref sb), (.int (16 : Int32))] 2) t := fun t k => castTop (ef_17 m sb (16 : Int32)) k
  have SWx := SWh
  obtain ⟨S_CS, hcs, S_AD, S_HI, S_LO, S_SI, hcat_vf⟩ := SWx
  have cn1 := fun (t : State) (kt : SF p e below s₁ (mkF m 1 #[vr sb, vi 16] [.ref sb]) t) => pre0 t (by
    exact XS.aloadN X0.here hx rfl (hb' d17_0) rfl rfl kt)
  obtain ⟨T2, X2, e2, st2⟩ := initO X0 hx hZ hown (wq hw 84 rfl) (wq hw 12 rfl) (wq hw 13 rfl) e0 (g := (mkF m 1 #[vr sb, vi 16] [.ref sb])) rfl (by rw [hml]; rfl) rfl (hb' d17_1) (by decide) (W := 0) (Nat.le_refl _) (by decide)
  have cn3 := fun (t : State) (kt : SF p e below T2 (mkF m 4 #[vr sb, vi 16] []) t) => cn1 t (by
    exact st2 _ kt)
  obtain ⟨T4, X4, e4, st4⟩ := getS2 X2 hx hZ hown (host := "") (Or.inl (wq hw 85 rfl)) Via.refl e2 (S_CS.ext O0.2) (g := (mkF m 4 #[vr sb, vi 16] [])) rfl (hb' d17_4)
  have cn5 := fun (t : State) (kt : SF p e below T4 (mkF m 7 #[vr sb, vi 16] [.int co]) t) => cn3 t (by
    exact st4 _ kt)
  have cn6 := fun (t : State) (kt : SF p e below T4 (mkF m 12 #[vr sb, vi 16] [.int 16, .ref sb]) t) => cn5 t (by
    refine XS.ifNo X4.here hx rfl (hb' d17_7) rfl ((if0 _ _).trans (feq hcs).1) ?_
    refine XS.aloadN X4.here hx rfl (hb' d17_10) rfl rfl ?_
    exact XS.iloadN X4.here hx rfl (hb' d17_11) rfl kt)
  obtain ⟨T7, h7, k7, X7, e7, E7, A7, st7⟩ := newP X4 hx hZ (wq hw 15 rfl) e4 (g := (mkF m 12 #[vr sb, vi 16] [.int 16, .ref sb])) rfl (hb' d17_12) rfl (by decide) (cap := 16) (by decide) (by decide) (by decide) (by decide)
  obtain ⟨b7, g7⟩ : ∃ z, z = h0.size := ⟨_, rfl⟩
  rw [← g7] at A7 st7
  have ne_sb_b7 : sb ≠ b7 := Nat.ne_of_lt (Nat.lt_of_lt_of_le E_sb.lt (Nat.le_of_eq g7.symm))
  have sz_b7 : h0.size ≤ b7 := Nat.le_trans (Keep.refl h0 [sb]).1 (Nat.le_of_eq g7.symm)
  have g_b7 : n0 ≤ b7 := Nat.le_trans (O0.1 ▸ O0.2.1) sz_b7
  have E_sb_e7 := E_sb.ext E7
  have Fsbv_e7 := Fsbv.ext E7
  have Fsbc_e7 := Fsbc.ext E7
  have Fsbn_e7 := Fsbn.ext E7
  have Fsbm_e7 := Fsbm.ext E7
  have O7 := O0.ext E7
  have K7 : Keep h0 h7 [sb] := (Keep.refl h0 [sb]).ext E7
  have AF7 : AF Z h7 b7 k7 .byte 16 (fun _ => defaultValue .byte) := AF.new A7 (by decide)
  have cn8 := fun (t : State) (kt : SF p e below T7 (mkF m 14 #[vr sb, vi 16] [.ref b7, .ref sb]) t) => cn6 t (by
    exact st7 _ kt)
  obtain ⟨T9, h9, X9, e9, W9, st9⟩ := putF X7 hx hZ hown (host := "") (Or.inl (wq hw 86 rfl)) Via.refl e7 Fsbv_e7 E_sb_e7 (Or.inl (wq hw 87 rfl)) (wq hw 73 rfl) (ty := (.array .byte)) (by decide) rfl rfl (g := (mkF m 14 #[vr sb, vi 16] [.ref b7, .ref sb])) rfl rfl (hb' d17_14)
  have E_sb_e9 := E_sb_e7.wr W9
  have Fsbc_e9 := Fsbc_e7.other W9 (Or.inr (slot_ne (Or.inl (wq hw 89 rfl)) (Or.inl (wq hw 87 rfl)) (by decide) (t := .byte) (t' := (.array .byte)) (by decide) (by decide)))
  have Fsbn_e9 := Fsbn_e7.other W9 (Or.inr (slot_ne (Or.inl (wq hw 166 rfl)) (Or.inl (wq hw 87 rfl)) (by decide) (t := .int) (t' := (.array .byte)) (by decide) (by decide)))
  have Fsbm_e9 := Fsbm_e7.other W9 (Or.inr (slot_ne (Or.inl (wq hw 253 rfl)) (Or.inl (wq hw 87 rfl)) (by decide) (t := .boolean) (t' := (.array .byte)) (by decide) (by decide)))
  have AF7_e9 := AF7.other W9 (Ne.symm ne_sb_b7)
  have N9 := Fr.snoc X9 N0 g_sb
  have O9 := O7.wr W9 g_sb
  have K9 : Keep h0 h9 [sb] := K7.wr W9 (Or.inl (List.mem_of_getElem? (i := 0) rfl))
  have Fvalue_9 := Fsbv_e7.same W9
  have cn10 := fun (t : State) (kt : SF p e below T9 (mkF m 19 #[vr sb, vi 16] [.int 0, .ref sb]) t) => cn8 t (by
    refine st9 _ ?_
    refine XS.aloadN X9.here hx rfl (hb' d17_17) rfl rfl ?_
    exact XS.iconst X9.here hx rfl (hb' d17_18) kt)
  obtain ⟨T11, h11, X11, e11, W11, st11⟩ := putFN X9 hx hZ hown (wq hw 88 rfl) Via.refl e9 Fsbc_e9 E_sb_e9 (Or.inl (wq hw 89 rfl)) (wq hw 73 rfl) (ty := .byte) (v' := (.int (0 : Int32))) (by decide) rfl rfl (g := (mkF m 19 #[vr sb, vi 16] [.int 0, .ref sb])) rfl rfl (hb' d17_19)
  have E_sb_e11 := E_sb_e9.wr W11
  have Fvalue_9_e11 := Fvalue_9.other W11 (Or.inr (slot_ne (Or.inl (wq hw 87 rfl)) (Or.inl (wq hw 89 rfl)) (by decide) (t := (.array .byte)) (t' := .byte) (by decide) (by decide)))
  have Fsbn_e11 := Fsbn_e9.other W11 (Or.inr (slot_ne (Or.inl (wq hw 166 rfl)) (Or.inl (wq hw 89 rfl)) (by decide) (t := .int) (t' := .byte) (by decide) (by decide)))
  have Fsbm_e11 := Fsbm_e9.other W11 (Or.inr (slot_ne (Or.inl (wq hw 253 rfl)) (Or.inl (wq hw 89 rfl)) (by decide) (t := .boolean) (t' := .byte) (by decide) (by decide)))
  have AF7_e11 := AF7_e9.other W11 (Ne.symm ne_sb_b7)
  have N11 := Fr.snoc X11 N9 g_sb
  have O11 := O9.wr W11 g_sb
  have K11 : Keep h0 h11 [sb] := K9.wr W11 (Or.inl (List.mem_of_getElem? (i := 0) rfl))
  have Fcoder_11 := Fsbc_e9.same W11
  have cn12 := fun (t : State) (kt : SF p e below T11 (mkF m 38 #[vr sb, vi 16] []) t) => cn10 t (by
    refine st11 _ ?_
    exact XS.goto X11.here hx rfl (pc0 := 22) (pc' := 38) rfl (hb' d17_22) (by decide) (by decide) kt)
  obtain ⟨frs, hr, hrun, hended, hW, hsame⟩ := X11.leave (v := none) (fun _ => rfl)
  refine ⟨_, _, cn12 _ ?_, hrun, hended, _, _, rfl, ?_, ⟨_, rfl⟩, hW, hsame.mono (by decide) (by decide)⟩
  · exact X11.returnOut hx Bd.returns (hb' d17_38) hr
  · show QSB Z sb 0 0 16 (fun _ => True) none h0 n0 _ T11.heap _
    rw [e11]
    exact ⟨b7, _, _, rfl, N11, K11, sz_b7, ⟨E_sb_e11, Fvalue_9_e11, Fcoder_11, Fsbn_e11, Fsbm_e11⟩, AF7_e11, (own_fb0 16), trivial⟩

theorem d16_0 : DC c32' 0 (.aload_n 0) 1 := by decide +kernel
theorem d16_1 : DC c32' 1 (.bipush 16) 2 := by decide +kernel
theorem d16_3 : DC c32' 3 (.invokespecial 1) 3 := by decide +kernel
theorem d16_6 : DC c32' 6 (.return_) 1 := by decide +kernel
theorem pd_22 : parseMethodDescriptor "(I)V" = some ⟨[.int], none⟩ := by decide +kernel
theorem pn_java_lang_StringBuilder : plainName "java/lang/StringBuilder" = true := by first | (simp [plainName, overriddenIn]; done) | decide +kernel
theorem ef_16 (m : MethodId) (x0 : Addr) : entryFrame m #[(.ref x0)] 1 = mkF m 0 #[.val (.ref x0)] [] := by first | (simp [entryFrame, mkF, argsToLocals, Value.category]; done) | rfl
theorem rm16 (l : Launch) (Z : State) (a0 : Array Value) (hw : HW a0 Z) (ws : List Jvm.Cond) (sb : Addr) (co : Int32) (vf : Value) (h0 : Heap) (n0 : Nat) (O0 : Old Z n0 h0) (g_sb : n0 ≤ sb) (E_sb : Exa Z h0 sb "java/lang/StringBuilder") (Fsbv : Fld Z h0 sb "java/lang/AbstractStringBuilder" "value" "[B" .null) (Fsbc : Fld Z h0 sb "java/lang/AbstractStringBuilder" "coder" "B" (.int (0 : Int32))) (Fsbn : Fld Z h0 sb "java/lang/AbstractStringBuilder" "count" "I" (.int (0 : Int32))) (Fsbm : Fld Z h0 sb "java/lang/AbstractStringBuilder" "maybeLatin1" "Z" (.int (0 : Int32))) (SWh : SW Z co vf) :
    MT l y32' c32' 1 none ws ({ frames := 2, cells := 1, slots := 16, locals := 25 } : Room) #[(.ref sb)] Z h0 (QSB Z sb 0 0 16 (fun _ => True) none h0 n0) := by
  refine MetFree.of_bodySF (plainFor_of_name pn_java_lang_StringBuilder) hisR ?_
  intro p e s m args below meth kode s₁ Bd hml0 hP hK
  obtain ⟨rfl, hZ, hh⟩ := hP
  have hx := Bd.exec
  have hby := Bd.bytes
  have hb' := @hb _ _ hby
  have hml : kode.maxLocals = 1 := hml0
  have hown : s.vm.findClass "java/lang/StringBuilder" = some m.cls := findClass_of_methodNamed Bd.named
  have X0 : Stand p l e ({ frames := 2, cells := 1, slots := 16, locals := 25 } : Room) s m #[(.ref sb)] below meth kode s₁ [] 0 0 := Stand.of_body Bd
  have e0 : s₁.heap = h0 := by rw [← hh, Bd.state]; rfl
  have N0 := Fr.nil n0
  have pre0 : ∀ t, SF p e below s₁ (mkF m 0 #[vr sb] []) t → SF p e below s₁ (entryFrame m #[(.ref sb)] 1) t := fun t k => castTop (ef_16 m sb) k
  have SWx := SWh
  obtain ⟨S_CS, hcs, S_AD, S_HI, S_LO, S_SI, hcat_vf⟩ := SWx
  have cn1 := fun (t : State) (kt : SF p e below s₁ (mkF m 3 #[vr sb] [.int 16, .ref sb]) t) => pre0 t (by
    refine XS.aloadN X0.here hx rfl (hb' d16_0) rfl rfl ?_
    exact XS.bipush X0.here hx rfl (hb' d16_1) kt)
  obtain ⟨_, _, ⟨T2, L2, k2, n2⟩, -, X2, ⟨Lc2, hQ2, l2, y2, z2⟩, st2⟩ := X0.specialBack hx (y := y31') rfl hown (mvT hZ (wq hw 78 rfl)) (mvT hZ (wq hw 79 rfl)) (mvT hZ (wq hw 83 rfl)) (by decide) (backOf (W := 0) (rm17 l Z a0 hw [] sb co vf h0 n0 O0 g_sb E_sb Fsbv Fsbc Fsbn Fsbm SWh) hZ (wq hw 83 rfl) (wq hw 82 rfl) (by decide) (by decide)) (g := (mkF m 3 #[vr sb] [.int 16, .ref sb])) rfl (by rw [hml]; rfl) (Steps.refl _) (a := sb) (argsL := [(.int (16 : Int32))]) (rest := []) (lenOf pd_22 rfl) rfl (Nat.le_refl _) (hb' d16_3) (fun _ _ => ⟨rfl, e0, (by decide : 0 + 1 ≤ _), (by decide : 0 + 16 ≤ _)⟩)
  dsimp only [Pt.U, Pt.locs, Pt.cells, Pt.slots] at X2 l2 y2 z2 st2 hQ2
  subst l2 y2 z2
  obtain ⟨r2x, kq2, f2, rfl, Nq2, Kq2, szq2, ⟨E_sb2, Fsbv2, Fsbc2, Fsbn2, Fsbm2⟩, Aq2, hfb2, hB2⟩ := hQ2
  have N2 := Fr.app N0 Nq2
  have sz_r2x : h0.size ≤ r2x := Nat.le_trans (Keep.refl h0 [sb]).1 szq2
  have g_r2x : n0 ≤ r2x := Nat.le_trans (O0.1 ▸ O0.2.1) sz_r2x
  have ne_sb_r2x : sb ≠ r2x := Nat.ne_of_lt (Nat.lt_of_lt_of_le E_sb.lt szq2)
  have K2 := Kq2
  have E_sb_e2 := E_sb.keep K2
  have O2 := O0.keep K2 (allS g_sb all0)
  have KK2 : Keep h0 T2.heap [sb] := (Keep.refl h0 [sb]).trans K2 (allS (Or.inl (List.mem_of_getElem? (i := 0) rfl)) all0)
  have cn3 := fun (t : State) (kt : SF p e below T2 (mkF m 6 #[vr sb] []) t) => cn1 t (by
    exact st2.trans kt)
  obtain ⟨frs, hr, hrun, hended, hW, hsame⟩ := X2.leave (v := none) (fun _ => rfl)
  refine ⟨_, _, cn3 _ ?_, hrun, hended, _, _, rfl, ?_, ⟨_, rfl⟩, hW, hsame.mono (by decide) (by decide)⟩
  · exact X2.returnOut hx Bd.returns (hb' d16_6) hr
  · show QSB Z sb 0 0 16 (fun _ => True) none h0 n0 _ T2.heap _
    exact ⟨r2x, _, _, rfl, N2, KK2, sz_r2x, ⟨E_sb2, Fsbv2, Fsbc2, Fsbn2, Fsbm2⟩, Aq2, hfb2, trivial⟩

theorem d38_0 : DC c33' 0 (.iload_n 0) 1 := by decide +kernel
theorem d38_1 : DC c33' 1 (.iload_n 1) 1 := by decide +kernel
theorem d38_2 : DC c33' 2 (.iload_n 2) 1 := by decide +kernel
theorem d38_3 : DC c33' 3 (.invokestatic 194) 3 := by decide +kernel
theorem d38_6 : DC c33' 6 (.iadd) 1 := by decide +kernel
theorem d38_7 : DC c33' 7 (.istore_n 3) 1 := by decide +kernel
theorem d38_8 : DC c33' 8 (.iconst 0) 1 := by decide +kernel
theorem d38_9 : DC c33' 9 (.iload_n 3) 1 := by decide +kernel
theorem d38_10 : DC c33' 10 (.if_icmp .ge 11) 3 := by decide +kernel
theorem d38_13 : DC c33' 13 (.iload_n 3) 1 := by decide +kernel
theorem d38_14 : DC c33' 14 (.ldc 200) 2 := by decide +kernel
theorem d38_16 : DC c33' 16 (.if_icmp .gt 5) 3 := by decide +kernel
theorem d38_19 : DC c33' 19 (.iload_n 3) 1 := by decide +kernel
theorem d38_20 : DC c33' 20 (.ireturn) 1 := by decide +kernel
theorem pn_jdk_internal_util_ArraysSupport : plainName "jdk/internal/util/ArraysSupport" = true := by first | (simp [plainName, overriddenIn]; done) | decide +kernel
theorem ef_38_0 (m : MethodId) (x0 : Int32) (x1 : Int32) (x2 : Int32) : entryFrame m #[(.int x0), (.int x1), (.int x2)] 4 = mkF m 0 #[.val (.int x0), .val (.int x1), .val (.int x2), .unset] [] := by first | (simp [entryFrame, mkF, argsToLocals, Value.category]; done) | rfl
theorem rm38_0 (l : Launch) (Z : State) (a0 : Array Value) (hw : HW a0 Z) (ws : List Jvm.Cond)  (h0 : Heap) (n0 : Nat) (O0 : Old Z n0 h0)  :
    MT l y33' c33' 4 (some .int) ws ({ frames := 1, cells := 0, slots := 0, locals := 14 } : Room) #[(.int (16 : Int32)), (.int (184 : Int32)), (.int (18 : Int32))] Z h0 (QI 200 h0 n0) := by
  refine MetFree.of_bodySF (plainFor_of_name pn_jdk_internal_util_ArraysSupport) hisR ?_
  intro p e s m args below meth kode s₁ Bd hml0 hP hK
  obtain ⟨rfl, hZ, hh⟩ := hP
  have hx := Bd.exec
  have hby := Bd.bytes
  have hb' := @hb _ _ hby
  have hml : kode.maxLocals = 4 := hml0
  have hown : s.vm.findClass "jdk/internal/util/ArraysSupport" = some m.cls := findClass_of_methodNamed Bd.named
  have X0 : Stand p l e ({ frames := 1, cells := 0, slots := 0, locals := 14 } : Room) s m #[(.int (16 : Int32)), (.int (184 : Int32)), (.int (18 : Int32))] below meth kode s₁ [] 0 0 := Stand.of_body Bd
  have e0 : s₁.heap = h0 := by rw [← hh, Bd.state]; rfl
  have N0 := Fr.nil n0
  have pre0 : ∀ t, SF p e below s₁ (mkF m 0 #[vi 16, vi 184, vi 18, .unset] []) t → SF p e below s₁ (entryFrame m #[(.int (16 : Int32)), (.int (184 : Int32)), (.int (18 : Int32))] 4) t := fun t k => castTop (ef_38_0 m (16 : Int32) (184 : Int32) (18 : Int32)) k
  have cn1 := fun (t : State) (kt : SF p e below s₁ (mkF m 3 #[vi 16, vi 184, vi 18, .unset] [.int 18, .int 184, .int 16]) t) => pre0 t (by
    refine XS.iloadN X0.here hx rfl (hb' d38_0) rfl ?_
    refine XS.iloadN X0.here hx rfl (hb' d38_1) rfl ?_
    exact XS.iloadN X0.here hx rfl (hb' d38_2) rfl kt)
  obtain ⟨_, _, ⟨T2, L2, k2, n2⟩, -, X2, ⟨Lc2, hQ2, l2, y2, z2⟩, st2⟩ := Jvm.LawKit.callS X0 hx (y := y20') hown (mvT hZ (wq hw 181 rfl)) (mvT hZ (wq hw 182 rfl)) (mvT hZ (wq hw 143 rfl)) (mvT hZ (wq hw 183 rfl)) (by decide) (backOf (W := 1) (rm39 l Z a0 hw [] (184 : Int32) (18 : Int32) h0 n0 O0) hZ (wq hw 183 rfl) (wq hw 143 rfl) (by decide) (by decide)) (g := (mkF m 3 #[vi 16, vi 184, vi 18, .unset] [.int 18, .int 184, .int 16])) rfl (by rw [hml]; rfl) (argsL := [(.int (184 : Int32)), (.int (18 : Int32))]) (rest := [(.int (16 : Int32))]) (lenOf pd_13 rfl) rfl (Nat.le_refl _) (hb' d38_3) (fun _ _ => ⟨rfl, e0, (by decide : 0 + 0 ≤ _), (by decide : 0 + 0 ≤ _)⟩)
  dsimp only [Pt.U, Pt.locs, Pt.cells, Pt.slots] at X2 l2 y2 z2 st2 hQ2
  subst l2 y2 z2
  obtain ⟨rfl, Nq2, eh2⟩ := hQ2
  have N2 := Fr.app N0 Nq2
  have cn3 := fun (t : State) (kt : SF p e below T2 (mkF m 6 #[vi 16, vi 184, vi 18, .unset] [.int (own_max (184 : Int32) (18 : Int32)), .int 16]) t) => cn1 t (by
    exact st2 _ kt)
  have cn4 : ∀ t, SF p e below T2 (mkF m 6 #[vi 16, vi 184, vi 18, .unset] [.int 184, .int 16]) t → SF p e below s₁ (entryFrame m #[(.int (16 : Int32)), (.int (184 : Int32)), (.int (18 : Int32))] 4) t := by have q := cn3; rw [(id (by decide) : (own_max (184 : Int32) (18 : Int32)) = (184 : Int32))] at q; exact q
  have cn5 := fun (t : State) (kt : SF p e below T2 (mkF m 10 #[vi 16, vi 184, vi 18, vi 200] [.int 200, .int 0]) t) => cn4 t (by
    refine XS.iadd X2.here hx rfl (hb' d38_6) rfl ?_
    refine XS.istoreN X2.here hx rfl (hb' d38_7) rfl (l' := #[vi 16, vi 184, vi 18, vi 200]) rfl ?_
    refine XS.iconst X2.here hx rfl (hb' d38_8) ?_
    exact XS.iloadN X2.here hx rfl (hb' d38_9) rfl kt)
  have cn6 := fun (t : State) (kt : SF p e below T2 (mkF m 16 #[vi 16, vi 184, vi 18, vi 200] [.int 2147483639, .int 200]) t) => cn5 t (by
    refine XS.icmpNo X2.here hx rfl (hb' d38_10) rfl (tlt (by decide : (0 : Int32) < (200 : Int32))).2.1 ?_
    refine XS.iloadN X2.here hx rfl (hb' d38_13) rfl ?_
    exact X2.ldcInt hx hown (mvT hZ (wq hw 184 rfl)) (g := (mkF m 14 #[vi 16, vi 184, vi 18, vi 200] [.int 200])) rfl (hb' d38_14) _ kt)
  have cn7 := fun (t : State) (kt : SF p e below T2 (mkF m 20 #[vi 16, vi 184, vi 18, vi 200] [.int 200]) t) => cn6 t (by
    refine XS.icmpNo X2.here hx rfl (hb' d38_16) rfl (flt (by decide : ¬ ((2147483639 : Int32) < (200 : Int32)))).2.2.1 ?_
    exact XS.iloadN X2.here hx rfl (hb' d38_19) rfl kt)
  obtain ⟨frs, hr, hrun, hended, hW, hsame⟩ := X2.leave (v := some (.int (200 : Int32))) (fun h => by rw [Bd.returns] at h; cases h)
  refine ⟨_, _, cn7 _ ?_, hrun, hended, _, _, rfl, ?_, ⟨_, rfl⟩, hW, hsame.mono (by decide) (by decide)⟩
  · exact retI X2 hx Bd.returns (hb' d38_20) hr
  · show QI 200 h0 n0 _ T2.heap _
    rw [eh2]
    exact ⟨rfl, N2, rfl⟩

theorem ef_38_1 (m : MethodId) (x0 : Int32) (x1 : Int32) (x2 : Int32) : entryFrame m #[(.int x0), (.int x1), (.int x2)] 4 = mkF m 0 #[.val (.int x0), .val (.int x1), .val (.int x2), .unset] [] := by first | (simp [entryFrame, mkF, argsToLocals, Value.category]; done) | rfl
theorem rm38_1 (l : Launch) (Z : State) (a0 : Array Value) (hw : HW a0 Z) (ws : List Jvm.Cond)  (h0 : Heap) (n0 : Nat) (O0 : Old Z n0 h0)  :
    MT l y33' c33' 4 (some .int) ws ({ frames := 1, cells := 0, slots := 0, locals := 14 } : Room) #[(.int (200 : Int32)), (.int (3 : Int32)), (.int (202 : Int32))] Z h0 (QI 402 h0 n0) := by
  refine MetFree.of_bodySF (plainFor_of_name pn_jdk_internal_util_ArraysSupport) hisR ?_
  intro p e s m args below meth kode s₁ Bd hml0 hP hK
  obtain ⟨rfl, hZ, hh⟩ := hP
  have hx := Bd.exec
  have hby := Bd.bytes
  have hb' := @hb _ _ hby
  have hml : kode.maxLocals = 4 := hml0
  have hown : s.vm.findClass "jdk/internal/util/ArraysSupport" = some m.cls := findClass_of_methodNamed Bd.named
  have X0 : Stand p l e ({ frames := 1, cells := 0, slots := 0, locals := 14 } : Room) s m #[(.int (200 : Int32)), (.int (3 : Int32)), (.int (202 : Int32))] below meth kode s₁ [] 0 0 := Stand.of_body Bd
  have e0 : s₁.heap = h0 := by rw [← hh, Bd.state]; rfl
  have N0 := Fr.nil n0
  have pre0 : ∀ t, SF p e below s₁ (mkF m 0 #[vi 200, vi 3, vi 202, .unset] []) t → SF p e below s₁ (entryFrame m #[(.int (200 : Int32)), (.int (3 : Int32)), (.int (202 : Int32))] 4) t := fun t k => castTop (ef_38_1 m (200 : Int32) (3 : Int32) (202 : Int32)) k
  have cn1 := fun (t : State) (kt : SF p e below s₁ (mkF m 3 #[vi 200, vi 3, vi 202, .unset] [.int 202, .int 3, .int 200]) t) => pre0 t (by
    refine XS.iloadN X0.here hx rfl (hb' d38_0) rfl ?_
    refine XS.iloadN X0.here hx rfl (hb' d38_1) rfl ?_
    exact XS.iloadN X0.here hx rfl (hb' d38_2) rfl kt)
  obtain ⟨_, _, ⟨T2, L2, k2, n2⟩, -, X2, ⟨Lc2, hQ2, l2, y2, z2⟩, st2⟩ := Jvm.LawKit.callS X0 hx (y := y20') hown (mvT hZ (wq hw 181 rfl)) (mvT hZ (wq hw 182 rfl)) (mvT hZ (wq hw 143 rfl)) (mvT hZ (wq hw 183 rfl)) (by decide) (backOf (W := 1) (rm39 l Z a0 hw [] (3 : Int32) (202 : Int32) h0 n0 O0) hZ (wq hw 183 rfl) (wq hw 143 rfl) (by decide) (by decide)) (g := (mkF m 3 #[vi 200, vi 3, vi 202, .unset] [.int 202, .int 3, .int 200])) rfl (by rw [hml]; rfl) (argsL := [(.int (3 : Int32)), (.int (202 : Int32))]) (rest := [(.int (200 : Int32))]) (lenOf pd_13 rfl) rfl (Nat.le_refl _) (hb' d38_3) (fun _ _ => ⟨rfl, e0, (by decide : 0 + 0 ≤ _), (by decide : 0 + 0 ≤ _)⟩)
  dsimp only [Pt.U, Pt.locs, Pt.cells, Pt.slots] at X2 l2 y2 z2 st2 hQ2
  subst l2 y2 z2
  obtain ⟨rfl, Nq2, eh2⟩ := hQ2
  have N2 := Fr.app N0 Nq2
  have cn3 := fun (t : State) (kt : SF p e below T2 (mkF m 6 #[vi 200, vi 3, vi 202, .unset] [.int (own_max (3 : Int32) (202 : Int32)), .int 200]) t) => cn1 t (by
    exact st2 _ kt)
  have cn4 : ∀ t, SF p e below T2 (mkF m 6 #[vi 200, vi 3, vi 202, .unset] [.int 202, .int 200]) t → SF p e below s₁ (entryFrame m #[(.int (200 : Int32)), (.int (3 : Int32)), (.int (202 : Int32))] 4) t := by have q := cn3; rw [(id (by decide) : (own_max (3 : Int32) (202 : Int32)) = (202 : Int32))] at q; exact q
  have cn5 := fun (t : State) (kt : SF p e below T2 (mkF m 10 #[vi 200, vi 3, vi 202, vi 402] [.int 402, .int 0]) t) => cn4 t (by
    refine XS.iadd X2.here hx rfl (hb' d38_6) rfl ?_
    refine XS.istoreN X2.here hx rfl (hb' d38_7) rfl (l' := #[vi 200, vi 3, vi 202, vi 402]) rfl ?_
    refine XS.iconst X2.here hx rfl (hb' d38_8) ?_
    exact XS.iloadN X2.here hx rfl (hb' d38_9) rfl kt)
  have cn6 := fun (t : State) (kt : SF p e below T2 (mkF m 16 #[vi 200, vi 3, vi 202, vi 402] [.int 2147483639, .int 402]) t) => cn5 t (by
    refine XS.icmpNo X2.here hx rfl (hb' d38_10) rfl (tlt (by decide : (0 : Int32) < (402 : Int32))).2.1 ?_
    refine XS.iloadN X2.here hx rfl (hb' d38_13) rfl ?_
    exact X2.ldcInt hx hown (mvT hZ (wq hw 184 rfl)) (g := (mkF m 14 #[vi 200, vi 3, vi 202, vi 402] [.int 402])) rfl (hb' d38_14) _ kt)
  have cn7 := fun (t : State) (kt : SF p e below T2 (mkF m 20 #[vi 200, vi 3, vi 202, vi 402] [.int 402]) t) => cn6 t (by
    refine XS.icmpNo X2.here hx rfl (hb' d38_16) rfl (flt (by decide : ¬ ((2147483639 : Int32) < (402 : Int32)))).2.2.1 ?_
    exact XS.iloadN X2.here hx rfl (hb' d38_19) rfl kt)
  obtain ⟨frs, hr, hrun, hended, hW, hsame⟩ := X2.leave (v := some (.int (402 : Int32))) (fun h => by rw [Bd.returns] at h; cases h)
  refine ⟨_, _, cn7 _ ?_, hrun, hended, _, _, rfl, ?_, ⟨_, rfl⟩, hW, hsame.mono (by decide) (by decide)⟩
  · exact retI X2 hx Bd.returns (hb' d38_20) hr
  · show QI 402 h0 n0 _ T2.heap _
    rw [eh2]
    exact ⟨rfl, N2, rfl⟩

theorem ef_38_2 (m : MethodId) (x0 : Int32) (x1 : Int32) (x2 : Int32) : entryFrame m #[(.int x0), (.int x1), (.int x2)] 4 = mkF m 0 #[.val (.int x0), .val (.int x1), .val (.int x2), .unset] [] := by first | (simp [entryFrame, mkF, argsToLocals, Value.category]; done) | rfl
theorem rm38_2 (l : Launch) (Z : State) (a0 : Array Value) (hw : HW a0 Z) (ws : List Jvm.Cond)  (h0 : Heap) (n0 : Nat) (O0 : Old Z n0 h0)  :
    MT l y33' c33' 4 (some .int) ws ({ frames := 1, cells := 0, slots := 0, locals := 14 } : Room) #[(.int (400 : Int32)), (.int (6 : Int32)), (.int (404 : Int32))] Z h0 (QI 804 h0 n0) := by
  refine MetFree.of_bodySF (plainFor_of_name pn_jdk_internal_util_ArraysSupport) hisR ?_
  intro p e s m args below meth kode s₁ Bd hml0 hP hK
  obtain ⟨rfl, hZ, hh⟩ := hP
  have hx := Bd.exec
  have hby := Bd.bytes
  have hb' := @hb _ _ hby
  have hml : kode.maxLocals = 4 := hml0
  have hown : s.vm.findClass "jdk/internal/util/ArraysSupport" = some m.cls := findClass_of_methodNamed Bd.named
  have X0 : Stand p l e ({ frames := 1, cells := 0, slots := 0, locals := 14 } : Room) s m #[(.int (400 : Int32)), (.int (6 : Int32)), (.int (404 : Int32))] below meth kode s₁ [] 0 0 := Stand.of_body Bd
  have e0 : s₁.heap = h0 := by rw [← hh, Bd.state]; rfl
  have N0 := Fr.nil n0
  have pre0 : ∀ t, SF p e below s₁ (mkF m 0 #[vi 400, vi 6, vi 404, .unset] []) t → SF p e below s₁ (entryFrame m #[(.int (400 : Int32)), (.int (6 : Int32)), (.int (404 : Int32))] 4) t := fun t k => castTop (ef_38_2 m (400 : Int32) (6 : Int32) (404 : Int32)) k
  have cn1 := fun (t : State) (kt : SF p e below s₁ (mkF m 3 #[vi 400, vi 6, vi 404, .unset] [.int 404, .int 6, .int 400]) t) => pre0 t (by
    refine XS.iloadN X0.here hx rfl (hb' d38_0) rfl ?_
    refine XS.iloadN X0.here hx rfl (hb' d38_1) rfl ?_
    exact XS.iloadN X0.here hx rfl (hb' d38_2) rfl kt)
  obtain ⟨_, _, ⟨T2, L2, k2, n2⟩, -, X2, ⟨Lc2, hQ2, l2, y2, z2⟩, st2⟩ := Jvm.LawKit.callS X0 hx (y := y20') hown (mvT hZ (wq hw 181 rfl)) (mvT hZ (wq hw 182 rfl)) (mvT hZ (wq hw 143 rfl)) (mvT hZ (wq hw 183 rfl)) (by decide) (backOf (W := 1) (rm39 l Z a0 hw [] (6 : Int32) (404 : Int32) h0 n0 O0) hZ (wq hw 183 rfl) (wq hw 143 rfl) (by decide) (by decide)) (g := (mkF m 3 #[vi 400, vi 6, vi 404, .unset] [.int 404, .int 6, .int 400])) rfl (by rw [hml]; rfl) (argsL := [(.int (6 : Int32)), (.int (404 : Int32))]) (rest := [(.int (400 : Int32))]) (lenOf pd_13 rfl) rfl (Nat.le_refl _) (hb' d38_3) (fun _ _ => ⟨rfl, e0, (by decide : 0 + 0 ≤ _), (by decide : 0 + 0 ≤ _)⟩)
  dsimp only [Pt.U, Pt.locs, Pt.cells, Pt.slots] at X2 l2 y2 z2 st2 hQ2
  subst l2 y2 z2
  obtain ⟨rfl, Nq2, eh2⟩ := hQ2
  have N2 := Fr.app N0 Nq2
  have cn3 := fun (t : State) (kt : SF p e below T2 (mkF m 6 #[vi 400, vi 6, vi 404, .unset] [.int (own_max (6 : Int32) (404 : Int32)), .int 400]) t) => cn1 t (by
    exact st2 _ kt)
  have cn4 : ∀ t, SF p e below T2 (mkF m 6 #[vi 400, vi 6, vi 404, .unset] [.int 404, .int 400]) t → SF p e below s₁ (entryFrame m #[(.int (400 : Int32)), (.int (6 : Int32)), (.int (404 : Int32))] 4) t := by have q := cn3; rw [(id (by decide) : (own_max (6 : Int32) (404 : Int32)) = (404 : Int32))] at q; exact q
  have cn5 := fun (t : State) (kt : SF p e below T2 (mkF m 10 #[vi 400, vi 6, vi 404, vi 804] [.int 804, .int 0]) t) => cn4 t (by
    refine XS.iadd X2.here hx rfl (hb' d38_6) rfl ?_
    refine XS.istoreN X2.here hx rfl (hb' d38_7) rfl (l' := #[vi 400, vi 6, vi 404, vi 804]) rfl ?_
    refine XS.iconst X2.here hx rfl (hb' d38_8) ?_
    exact XS.iloadN X2.here hx rfl (hb' d38_9) rfl kt)
  have cn6 := fun (t : State) (kt : SF p e below T2 (mkF m 16 #[vi 400, vi 6, vi 404, vi 804] [.int 2147483639, .int 804]) t) => cn5 t (by
    refine XS.icmpNo X2.here hx rfl (hb' d38_10) rfl (tlt (by decide : (0 : Int32) < (804 : Int32))).2.1 ?_
    refine XS.iloadN X2.here hx rfl (hb' d38_13) rfl ?_
    exact X2.ldcInt hx hown (mvT hZ (wq hw 184 rfl)) (g := (mkF m 14 #[vi 400, vi 6, vi 404, vi 804] [.int 804])) rfl (hb' d38_14) _ kt)
  have cn7 := fun (t : State) (kt : SF p e below T2 (mkF m 20 #[vi 400, vi 6, vi 404, vi 804] [.int 804]) t) => cn6 t (by
    refine XS.icmpNo X2.here hx rfl (hb' d38_16) rfl (flt (by decide : ¬ ((2147483639 : Int32) < (804 : Int32)))).2.2.1 ?_
    exact XS.iloadN X2.here hx rfl (hb' d38_19) rfl kt)
  obtain ⟨frs, hr, hrun, hended, hW, hsame⟩ := X2.leave (v := some (.int (804 : Int32))) (fun h => by rw [Bd.returns] at h; cases h)
  refine ⟨_, _, cn7 _ ?_, hrun, hended, _, _, rfl, ?_, ⟨_, rfl⟩, hW, hsame.mono (by decide) (by decide)⟩
  · exact retI X2 hx Bd.returns (hb' d38_20) hr
  · show QI 804 h0 n0 _ T2.heap _
    rw [eh2]
    exact ⟨rfl, N2, rfl⟩

theorem d37_0 : DC c34' 0 (.aload_n 0) 1 := by decide +kernel
theorem d37_1 : DC c34' 1 (.getfield 15) 3 := by decide +kernel
theorem d37_4 : DC c34' 4 (.arraylength) 1 := by decide +kernel
theorem d37_5 : DC c34' 5 (.istore_n 2) 1 := by decide +kernel
theorem d37_6 : DC c34' 6 (.iload_n 1) 1 := by decide +kernel
theorem d37_7 : DC c34' 7 (.aload_n 0) 1 := by decide +kernel
theorem d37_8 : DC c34' 8 (.getfield 22) 3 := by decide +kernel
theorem d37_11 : DC c34' 11 (.ishl) 1 := by decide +kernel
theorem d37_12 : DC c34' 12 (.istore_n 3) 1 := by decide +kernel
theorem d37_13 : DC c34' 13 (.iload_n 3) 1 := by decide +kernel
theorem d37_14 : DC c34' 14 (.iload_n 2) 1 := by decide +kernel
theorem d37_15 : DC c34' 15 (.isub) 1 := by decide +kernel
theorem d37_16 : DC c34' 16 (.istore 4) 2 := by decide +kernel
theorem d37_18 : DC c34' 18 (.iload_n 2) 1 := by decide +kernel
theorem d37_19 : DC c34' 19 (.iload 4) 2 := by decide +kernel
theorem d37_21 : DC c34' 21 (.iload_n 2) 1 := by decide +kernel
theorem d37_22 : DC c34' 22 (.iconst 2) 1 := by decide +kernel
theorem d37_23 : DC c34' 23 (.aload_n 0) 1 := by decide +kernel
theorem d37_24 : DC c34' 24 (.getfield 22) 3 := by decide +kernel
theorem d37_27 : DC c34' 27 (.ishl) 1 := by decide +kernel
theorem d37_28 : DC c34' 28 (.iadd) 1 := by decide +kernel
theorem d37_29 : DC c34' 29 (.invokestatic 114) 3 := by decide +kernel
theorem d37_32 : DC c34' 32 (.istore 5) 2 := by decide +kernel
theorem d37_34 : DC c34' 34 (.iload 5) 2 := by decide +kernel
theorem d37_36 : DC c34' 36 (.ldc 39) 2 := by decide +kernel
theorem d37_38 : DC c34' 38 (.if_icmp .ne 13) 3 := by decide +kernel
theorem d37_51 : DC c34' 51 (.iload 5) 2 := by decide +kernel
theorem d37_53 : DC c34' 53 (.aload_n 0) 1 := by decide +kernel
theorem d37_54 : DC c34' 54 (.getfield 22) 3 := by decide +kernel
theorem d37_57 : DC c34' 57 (.ishr) 1 := by decide +kernel
theorem d37_58 : DC c34' 58 (.ireturn) 1 := by decide +kernel
theorem ef_37_0 (m : MethodId) (x0 : Addr) (x1 : Int32) : entryFrame m #[(.ref x0), (.int x1)] 6 = mkF m 0 #[.val (.ref x0), .val (.int x1), .unset, .unset, .unset, .unset] [] := by first | (simp [entryFrame, mkF, argsToLocals, Value.category]; done) | rfl
theorem rm37_0 (l : Launch) (Z : State) (a0 : Array Value) (hw : HW a0 Z) (ws : List Jvm.Cond) (sb vb : Addr) (k : ClassId) (f : Nat → Value) (h0 : Heap) (n0 : Nat) (O0 : Old Z n0 h0) (g_sb : n0 ≤ sb) (Bh : SBF Z h0 sb vb 0 0) (A_vb : AF Z h0 vb k .byte 16 f) (hfb : own_fb 16 f) :
    MT l y34' c34' 6 (some .int) ws ({ frames := 2, cells := 0, slots := 0, locals := 29 } : Room) #[(.ref sb), (.int (200 : Int32))] Z h0 (QI 200 h0 n0) := by
  refine MetFree.of_bodySF (plainFor_of_name pn_java_lang_AbstractStringBuilder) hisR ?_
  intro p e s m args below meth kode s₁ Bd hml0 hP hK
  obtain ⟨rfl, hZ, hh⟩ := hP
  have hx := Bd.exec
  have hby := Bd.bytes
  have hb' := @hb _ _ hby
  have hml : kode.maxLocals = 6 := hml0
  have hown : s.vm.findClass "java/lang/AbstractStringBuilder" = some m.cls := findClass_of_methodNamed Bd.named
  have X0 : Stand p l e ({ frames := 2, cells := 0, slots := 0, locals := 29 } : Room) s m #[(.ref sb), (.int (200 : Int32))] below meth kode s₁ [] 0 0 := Stand.of_body Bd
  have e0 : s₁.heap = h0 := by rw [← hh, Bd.state]; rfl
  have N0 := Fr.nil n0
  have pre0 : ∀ t, SF p e below s₁ (mkF m 0 #[vr sb, vi 200, .unset, .unset, .unset, .unset] []) t → SF p e below s₁ (entryFrame m #[(.ref sb), (.int (200 : Int32))] 6) t := fun t k => castTop (ef_37_0 m sb (200 : Int32)) k
  have Bx := Bh
  obtain ⟨E_sb, Fsbv, Fsbc, Fsbn, Fsbm⟩ := Bx
  have cn1 := fun (t : State) (kt : SF p e below s₁ (mkF m 1 #[vr sb, vi 200, .unset, .unset, .unset, .unset] [.ref sb]) t) => pre0 t (by
    exact XS.aloadN X0.here hx rfl (hb' d37_0) rfl rfl kt)
  obtain ⟨T2, X2, e2, st2⟩ := getF X0 hx hZ hown (host := "") (Or.inl (wq hw 86 rfl)) Via.refl e0 Fsbv (g := (mkF m 1 #[vr sb, vi 200, .unset, .unset, .unset, .unset] [.ref sb])) rfl rfl (hb' d37_1)
  have cn3 := fun (t : State) (kt : SF p e below T2 (mkF m 4 #[vr sb, vi 200, .unset, .unset, .unset, .unset] [.ref vb]) t) => cn1 t (by
    exact st2 _ kt)
  have AFx4 := A_vb
  obtain ⟨cl4, Ar4, q4, S4, H4⟩ := AFx4
  have cn5 := fun (t : State) (kt : SF p e below T2 (mkF m 5 #[vr sb, vi 200, .unset, .unset, .unset, .unset] [.int (Nat.toInt32 16)]) t) => cn3 t (by
    refine X2.arraylength hx (by rw [e2]; exact Ar4.1) (State.isArrayOf_alike hZ.alike Ar4.2.1) (g := (mkF m 4 #[vr sb, vi 200, .unset, .unset, .unset, .unset] [.ref vb])) rfl rfl (hb' d37_4) _ ?_
    rw [S4]
    exact kt)
  have cn6 : ∀ t, SF p e below T2 (mkF m 5 #[vr sb, vi 200, .unset, .unset, .unset, .unset] [.int 16]) t → SF p e below s₁ (entryFrame m #[(.ref sb), (.int (200 : Int32))] 6) t := by have q := cn5; rw [(id (rfl) : (Nat.toInt32 16) = (16 : Int32))] at q; exact q
  have cn7 := fun (t : State) (kt : SF p e below T2 (mkF m 8 #[vr sb, vi 200, vi 16, .unset, .unset, .unset] [.ref sb, .int 200]) t) => cn6 t (by
    refine XS.istoreN X2.here hx rfl (hb' d37_5) rfl (l' := #[vr sb, vi 200, vi 16, .unset, .unset, .unset]) rfl ?_
    refine XS.iloadN X2.here hx rfl (hb' d37_6) rfl ?_
    exact XS.aloadN X2.here hx rfl (hb' d37_7) rfl rfl kt)
  obtain ⟨T8, X8, e8, st8⟩ := getF X2 hx hZ hown (host := "") (Or.inl (wq hw 88 rfl)) Via.refl e2 Fsbc (g := (mkF m 8 #[vr sb, vi 200, vi 16, .unset, .unset, .unset] [.ref sb, .int 200])) rfl rfl (hb' d37_8)
  have cn9 := fun (t : State) (kt : SF p e below T8 (mkF m 24 #[vr sb, vi 200, vi 16, vi 200, vi 184, .unset] [.ref sb, .int 2, .int 16, .int 184, .int 16]) t) => cn7 t (by
    refine st8 _ ?_
    refine XS.ishl X8.here hx rfl (hb' d37_11) rfl ?_
    refine XS.istoreN X8.here hx rfl (hb' d37_12) rfl (l' := #[vr sb, vi 200, vi 16, vi 200, .unset, .unset]) rfl ?_
    refine XS.iloadN X8.here hx rfl (hb' d37_13) rfl ?_
    refine XS.iloadN X8.here hx rfl (hb' d37_14) rfl ?_
    refine XS.isub X8.here hx rfl (hb' d37_15) rfl ?_
    refine XS.istore X8.here hx rfl (hb' d37_16) rfl (l' := #[vr sb, vi 200, vi 16, vi 200, vi 184, .unset]) rfl ?_
    refine XS.iloadN X8.here hx rfl (hb' d37_18) rfl ?_
    refine XS.iload X8.here hx rfl (hb' d37_19) rfl ?_
    refine XS.iloadN X8.here hx rfl (hb' d37_21) rfl ?_
    refine XS.iconst X8.here hx rfl (hb' d37_22) ?_
    exact XS.aloadN X8.here hx rfl (hb' d37_23) rfl rfl kt)
  obtain ⟨T10, X10, e10, st10⟩ := getF X8 hx hZ hown (host := "") (Or.inl (wq hw 88 rfl)) Via.refl e8 Fsbc (g := (mkF m 24 #[vr sb, vi 200, vi 16, vi 200, vi 184, .unset] [.ref sb, .int 2, .int 16, .int 184, .int 16])) rfl rfl (hb' d37_24)
  have cn11 := fun (t : State) (kt : SF p e below T10 (mkF m 29 #[vr sb, vi 200, vi 16, vi 200, vi 184, .unset] [.int 18, .int 184, .int 16]) t) => cn9 t (by
    refine st10 _ ?_
    refine XS.ishl X10.here hx rfl (hb' d37_27) rfl ?_
    exact XS.iadd X10.here hx rfl (hb' d37_28) rfl kt)
  obtain ⟨_, _, ⟨T12, L12, k12, n12⟩, -, X12, ⟨Lc12, hQ12, l12, y12, z12⟩, st12⟩ := Jvm.LawKit.callS X10 hx (y := y33') hown (mvT hZ (wq hw 177 rfl)) (mvT hZ (wq hw 178 rfl)) (mvT hZ (wq hw 179 rfl)) (mvT hZ (wq hw 180 rfl)) (by decide) (backOf (W := 0) (rm38_0 l Z a0 hw [] h0 n0 O0) hZ (wq hw 180 rfl) (wq hw 179 rfl) (by decide) (by decide)) (g := (mkF m 29 #[vr sb, vi 200, vi 16, vi 200, vi 184, .unset] [.int 18, .int 184, .int 16])) rfl (by rw [hml]; rfl) (argsL := [(.int (16 : Int32)), (.int (184 : Int32)), (.int (18 : Int32))]) (rest := []) (lenOf pd_11 rfl) rfl (Nat.le_refl _) (hb' d37_29) (fun _ _ => ⟨rfl, e10, (by decide : 0 + 0 ≤ _), (by decide : 0 + 0 ≤ _)⟩)
  dsimp only [Pt.U, Pt.locs, Pt.cells, Pt.slots] at X12 l12 y12 z12 st12 hQ12
  subst l12 y12 z12
  obtain ⟨rfl, Nq12, eh12⟩ := hQ12
  have N12 := Fr.app N0 Nq12
  have cn13 := fun (t : State) (kt : SF p e below T12 (mkF m 38 #[vr sb, vi 200, vi 16, vi 200, vi 184, vi 200] [.int 2147483647, .int 200]) t) => cn11 t (by
    refine st12 _ ?_
    refine XS.istore X12.here hx rfl (hb' d37_32) rfl (l' := #[vr sb, vi 200, vi 16, vi 200, vi 184, vi 200]) rfl ?_
    refine XS.iload X12.here hx rfl (hb' d37_34) rfl ?_
    exact X12.ldcInt hx hown (mvT hZ (wq hw 185 rfl)) (g := (mkF m 36 #[vr sb, vi 200, vi 16, vi 200, vi 184, vi 200] [.int 200])) rfl (hb' d37_36) _ kt)
  have cn14 := fun (t : State) (kt : SF p e below T12 (mkF m 54 #[vr sb, vi 200, vi 16, vi 200, vi 184, vi 200] [.ref sb, .int 200]) t) => cn13 t (by
    refine XS.icmpYes X12.here hx rfl (pc0 := 38) (pc' := 51) rfl (hb' d37_38) rfl (feq (by decide : ¬ ((200 : Int32) = (2147483647 : Int32)))).2 (by decide) (by decide) ?_
    refine XS.iload X12.here hx rfl (hb' d37_51) rfl ?_
    exact XS.aloadN X12.here hx rfl (hb' d37_53) rfl rfl kt)
  obtain ⟨T15, X15, e15, st15⟩ := getF X12 hx hZ hown (host := "") (Or.inl (wq hw 88 rfl)) Via.refl eh12 Fsbc (g := (mkF m 54 #[vr sb, vi 200, vi 16, vi 200, vi 184, vi 200] [.ref sb, .int 200])) rfl rfl (hb' d37_54)
  have cn16 := fun (t : State) (kt : SF p e below T15 (mkF m 58 #[vr sb, vi 200, vi 16, vi 200, vi 184, vi 200] [.int 200]) t) => cn14 t (by
    refine st15 _ ?_
    exact XS.ishr X15.here hx rfl (hb' d37_57) rfl kt)
  obtain ⟨frs, hr, hrun, hended, hW, hsame⟩ := X15.leave (v := some (.int (200 : Int32))) (fun h => by rw [Bd.returns] at h; cases h)
  refine ⟨_, _, cn16 _ ?_, hrun, hended, _, _, rfl, ?_, ⟨_, rfl⟩, hW, hsame.mono (by decide) (by decide)⟩
  · exact retI X15 hx Bd.returns (hb' d37_58) hr
  · show QI 200 h0 n0 _ T15.heap _
    rw [e15]
    exact ⟨rfl, N12, rfl⟩

theorem ef_37_1 (m : MethodId) (x0 : Addr) (x1 : Int32) : entryFrame m #[(.ref x0), (.int x1)] 6 = mkF m 0 #[.val (.ref x0), .val (.int x1), .unset, .unset, .unset, .unset] [] := by first | (simp [entryFrame, mkF, argsToLocals, Value.category]; done) | rfl
theorem rm37_1 (l : Launch) (Z : State) (a0 : Array Value) (hw : HW a0 Z) (ws : List Jvm.Cond) (sb vb : Addr) (k : ClassId) (f : Nat → Value) (h0 : Heap) (n0 : Nat) (O0 : Old Z n0 h0) (g_sb : n0 ≤ sb) (Bh : SBF Z h0 sb vb 0 200) (A_vb : AF Z h0 vb k .byte 200 f) (hfb : own_fb 200 f) :
    MT l y34' c34' 6 (some .int) ws ({ frames := 2, cells := 0, slots := 0, locals := 29 } : Room) #[(.ref sb), (.int (203 : Int32))] Z h0 (QI 402 h0 n0) := by
  refine MetFree.of_bodySF (plainFor_of_name pn_java_lang_AbstractStringBuilder) hisR ?_
  intro p e s m args below meth kode s₁ Bd hml0 hP hK
  obtain ⟨rfl, hZ, hh⟩ := hP
  have hx := Bd.exec
  have hby := Bd.bytes
  have hb' := @hb _ _ hby
  have hml : kode.maxLocals = 6 := hml0
  have hown : s.vm.findClass "java/lang/AbstractStringBuilder" = some m.cls := findClass_of_methodNamed Bd.named
  have X0 : Stand p l e ({ frames := 2, cells := 0, slots := 0, locals := 29 } : Room) s m #[(.ref sb), (.int (203 : Int32))] below meth kode s₁ [] 0 0 := Stand.of_body Bd
  have e0 : s₁.heap = h0 := by rw [← hh, Bd.state]; rfl
  have N0 := Fr.nil n0
  have pre0 : ∀ t, SF p e below s₁ (mkF m 0 #[vr sb, vi 203, .unset, .unset, .unset, .unset] []) t → SF p e below s₁ (entryFrame m #[(.ref sb), (.int (203 : Int32))] 6) t := fun t k => castTop (ef_37_1 m sb (203 : Int32)) k
  have Bx := Bh
  obtain ⟨E_sb, Fsbv, Fsbc, Fsbn, Fsbm⟩ := Bx
  have cn1 := fun (t : State) (kt : SF p e below s₁ (mkF m 1 #[vr sb, vi 203, .unset, .unset, .unset, .unset] [.ref sb]) t) => pre0 t (by
    exact XS.aloadN X0.here hx rfl (hb' d37_0) rfl rfl kt)
  obtain ⟨T2, X2, e2, st2⟩ := getF X0 hx hZ hown (host := "") (Or.inl (wq hw 86 rfl)) Via.refl e0 Fsbv (g := (mkF m 1 #[vr sb, vi 203, .unset, .unset, .unset, .unset] [.ref sb])) rfl rfl (hb' d37_1)
  have cn3 := fun (t : State) (kt : SF p e below T2 (mkF m 4 #[vr sb, vi 203, .unset, .unset, .unset, .unset] [.ref vb]) t) => cn1 t (by
    exact st2 _ kt)
  have AFx4 := A_vb
  obtain ⟨cl4, Ar4, q4, S4, H4⟩ := AFx4
  have cn5 := fun (t : State) (kt : SF p e below T2 (mkF m 5 #[vr sb, vi 203, .unset, .unset, .unset, .unset] [.int (Nat.toInt32 200)]) t) => cn3 t (by
    refine X2.arraylength hx (by rw [e2]; exact Ar4.1) (State.isArrayOf_alike hZ.alike Ar4.2.1) (g := (mkF m 4 #[vr sb, vi 203, .unset, .unset, .unset, .unset] [.ref vb])) rfl rfl (hb' d37_4) _ ?_
    rw [S4]
    exact kt)
  have cn6 : ∀ t, SF p e below T2 (mkF m 5 #[vr sb, vi 203, .unset, .unset, .unset, .unset] [.int 200]) t → SF p e below s₁ (entryFrame m #[(.ref sb), (.int (203 : Int32))] 6) t := by have q := cn5; rw [(id (rfl) : (Nat.toInt32 200) = (200 : Int32))] at q; exact q
  have cn7 := fun (t : State) (kt : SF p e below T2 (mkF m 8 #[vr sb, vi 203, vi 200, .unset, .unset, .unset] [.ref sb, .int 203]) t) => cn6 t (by
    refine XS.istoreN X2.here hx rfl (hb' d37_5) rfl (l' := #[vr sb, vi 203, vi 200, .unset, .unset, .unset]) rfl ?_
    refine XS.iloadN X2.here hx rfl (hb' d37_6) rfl ?_
    exact XS.aloadN X2.here hx rfl (hb' d37_7) rfl rfl kt)
  obtain ⟨T8, X8, e8, st8⟩ := getF X2 hx hZ hown (host := "") (Or.inl (wq hw 88 rfl)) Via.refl e2 Fsbc (g := (mkF m 8 #[vr sb, vi 203, vi 200, .unset, .unset, .unset] [.ref sb, .int 203])) rfl rfl (hb' d37_8)
  have cn9 := fun (t : State) (kt : SF p e below T8 (mkF m 24 #[vr sb, vi 203, vi 200, vi 203, vi 3, .unset] [.ref sb, .int 2, .int 200, .int 3, .int 200]) t) => cn7 t (by
    refine st8 _ ?_
    refine XS.ishl X8.here hx rfl (hb' d37_11) rfl ?_
    refine XS.istoreN X8.here hx rfl (hb' d37_12) rfl (l' := #[vr sb, vi 203, vi 200, vi 203, .unset, .unset]) rfl ?_
    refine XS.iloadN X8.here hx rfl (hb' d37_13) rfl ?_
    refine XS.iloadN X8.here hx rfl (hb' d37_14) rfl ?_
    refine XS.isub X8.here hx rfl (hb' d37_15) rfl ?_
    refine XS.istore X8.here hx rfl (hb' d37_16) rfl (l' := #[vr sb, vi 203, vi 200, vi 203, vi 3, .unset]) rfl ?_
    refine XS.iloadN X8.here hx rfl (hb' d37_18) rfl ?_
    refine XS.iload X8.here hx rfl (hb' d37_19) rfl ?_
    refine XS.iloadN X8.here hx rfl (hb' d37_21) rfl ?_
    refine XS.iconst X8.here hx rfl (hb' d37_22) ?_
    exact XS.aloadN X8.here hx rfl (hb' d37_23) rfl rfl kt)
  obtain ⟨T10, X10, e10, st10⟩ := getF X8 hx hZ hown (host := "") (Or.inl (wq hw 88 rfl)) Via.refl e8 Fsbc (g := (mkF m 24 #[vr sb, vi 203, vi 200, vi 203, vi 3, .unset] [.ref sb, .int 2, .int 200, .int 3, .int 200])) rfl rfl (hb' d37_24)
  have cn11 := fun (t : State) (kt : SF p e below T10 (mkF m 29 #[vr sb, vi 203, vi 200, vi 203, vi 3, .unset] [.int 202, .int 3, .int 200]) t) => cn9 t (by
    refine st10 _ ?_
    refine XS.ishl X10.here hx rfl (hb' d37_27) rfl ?_
    exact XS.iadd X10.here hx rfl (hb' d37_28) rfl kt)
  obtain ⟨_, _, ⟨T12, L12, k12, n12⟩, -, X12, ⟨Lc12, hQ12, l12, y12, z12⟩, st12⟩ := Jvm.LawKit.callS X10 hx (y := y33') hown (mvT hZ (wq hw 177 rfl)) (mvT hZ (wq hw 178 rfl)) (mvT hZ (wq hw 179 rfl)) (mvT hZ (wq hw 180 rfl)) (by decide) (backOf (W := 0) (rm38_1 l Z a0 hw [] h0 n0 O0) hZ (wq hw 180 rfl) (wq hw 179 rfl) (by decide) (by decide)) (g := (mkF m 29 #[vr sb, vi 203, vi 200, vi 203, vi 3, .unset] [.int 202, .int 3, .int 200])) rfl (by rw [hml]; rfl) (argsL := [(.int (200 : Int32)), (.int (3 : Int32)), (.int (202 : Int32))]) (rest := []) (lenOf pd_11 rfl) rfl (Nat.le_refl _) (hb' d37_29) (fun _ _ => ⟨rfl, e10, (by decide : 0 + 0 ≤ _), (by decide : 0 + 0 ≤ _)⟩)
  dsimp only [Pt.U, Pt.locs, Pt.cells, Pt.slots] at X12 l12 y12 z12 st12 hQ12
  subst l12 y12 z12
  obtain ⟨rfl, Nq12, eh12⟩ := hQ12
  have N12 := Fr.app N0 Nq12
  have cn13 := fun (t : State) (kt : SF p e below T12 (mkF m 38 #[vr sb, vi 203, vi 200, vi 203, vi 3, vi 402] [.int 2147483647, .int 402]) t) => cn11 t (by
    refine st12 _ ?_
    refine XS.istore X12.here hx rfl (hb' d37_32) rfl (l' := #[vr sb, vi 203, vi 200, vi 203, vi 3, vi 402]) rfl ?_
    refine XS.iload X12.here hx rfl (hb' d37_34) rfl ?_
    exact X12.ldcInt hx hown (mvT hZ (wq hw 185 rfl)) (g := (mkF m 36 #[vr sb, vi 203, vi 200, vi 203, vi 3, vi 402] [.int 402])) rfl (hb' d37_36) _ kt)
  have cn14 := fun (t : State) (kt : SF p e below T12 (mkF m 54 #[vr sb, vi 203, vi 200, vi 203, vi 3, vi 402] [.ref sb, .int 402]) t) => cn13 t (by
    refine XS.icmpYes X12.here hx rfl (pc0 := 38) (pc' := 51) rfl (hb' d37_38) rfl (feq (by decide : ¬ ((402 : Int32) = (2147483647 : Int32)))).2 (by decide) (by decide) ?_
    refine XS.iload X12.here hx rfl (hb' d37_51) rfl ?_
    exact XS.aloadN X12.here hx rfl (hb' d37_53) rfl rfl kt)
  obtain ⟨T15, X15, e15, st15⟩ := getF X12 hx hZ hown (host := "") (Or.inl (wq hw 88 rfl)) Via.refl eh12 Fsbc (g := (mkF m 54 #[vr sb, vi 203, vi 200, vi 203, vi 3, vi 402] [.ref sb, .int 402])) rfl rfl (hb' d37_54)
  have cn16 := fun (t : State) (kt : SF p e below T15 (mkF m 58 #[vr sb, vi 203, vi 200, vi 203, vi 3, vi 402] [.int 402]) t) => cn14 t (by
    refine st15 _ ?_
    exact XS.ishr X15.here hx rfl (hb' d37_57) rfl kt)
  obtain ⟨frs, hr, hrun, hended, hW, hsame⟩ := X15.leave (v := some (.int (402 : Int32))) (fun h => by rw [Bd.returns] at h; cases h)
  refine ⟨_, _, cn16 _ ?_, hrun, hended, _, _, rfl, ?_, ⟨_, rfl⟩, hW, hsame.mono (by decide) (by decide)⟩
  · exact retI X15 hx Bd.returns (hb' d37_58) hr
  · show QI 402 h0 n0 _ T15.heap _
    rw [e15]
    exact ⟨rfl, N12, rfl⟩

theorem ef_37_2 (m : MethodId) (x0 : Addr) (x1 : Int32) : entryFrame m #[(.ref x0), (.int x1)] 6 = mkF m 0 #[.val (.ref x0), .val (.int x1), .unset, .unset, .unset, .unset] [] := by first | (simp [entryFrame, mkF, argsToLocals, Value.category]; done) | rfl
theorem rm37_2 (l : Launch) (Z : State) (a0 : Array Value) (hw : HW a0 Z) (ws : List Jvm.Cond) (sb vb : Addr) (k : ClassId) (f : Nat → Value) (h0 : Heap) (n0 : Nat) (O0 : Old Z n0 h0) (g_sb : n0 ≤ sb) (Bh : SBF Z h0 sb vb 1 200) (A_vb : AF Z h0 vb k .byte 400 f) (hfb : own_fb 400 f) :
    MT l y34' c34' 6 (some .int) ws ({ frames := 2, cells := 0, slots := 0, locals := 29 } : Room) #[(.ref sb), (.int (203 : Int32))] Z h0 (QI 402 h0 n0) := by
  refine MetFree.of_bodySF (plainFor_of_name pn_java_lang_AbstractStringBuilder) hisR ?_
  intro p e s m args below meth kode s₁ Bd hml0 hP hK
  obtain ⟨rfl, hZ, hh⟩ := hP
  have hx := Bd.exec
  have hby := Bd.bytes
  have hb' := @hb _ _ hby
  have hml : kode.maxLocals = 6 := hml0
  have hown : s.vm.findClass "java/lang/AbstractStringBuilder" = some m.cls := findClass_of_methodNamed Bd.named
  have X0 : Stand p l e ({ frames := 2, cells := 0, slots := 0, locals := 29 } : Room) s m #[(.ref sb), (.int (203 : Int32))] below meth kode s₁ [] 0 0 := Stand.of_body Bd
  have e0 : s₁.heap = h0 := by rw [← hh, Bd.state]; rfl
  have N0 := Fr.nil n0
  have pre0 : ∀ t, SF p e below s₁ (mkF m 0 #[vr sb, vi 203, .unset, .unset, .unset, .unset] []) t → SF p e below s₁ (entryFrame m #[(.ref sb), (.int (203 : Int32))] 6) t := fun t k => castTop (ef_37_2 m sb (203 : Int32)) k
  have Bx := Bh
  obtain ⟨E_sb, Fsbv, Fsbc, Fsbn, Fsbm⟩ := Bx
  have cn1 := fun (t : State) (kt : SF p e below s₁ (mkF m 1 #[vr sb, vi 203, .unset, .unset, .unset, .unset] [.ref sb]) t) => pre0 t (by
    exact XS.aloadN X0.here hx rfl (hb' d37_0) rfl rfl kt)
  obtain ⟨T2, X2, e2, st2⟩ := getF X0 hx hZ hown (host := "") (Or.inl (wq hw 86 rfl)) Via.refl e0 Fsbv (g := (mkF m 1 #[vr sb, vi 203, .unset, .unset, .unset, .unset] [.ref sb])) rfl rfl (hb' d37_1)
  have cn3 := fun (t : State) (kt : SF p e below T2 (mkF m 4 #[vr sb, vi 203, .unset, .unset, .unset, .unset] [.ref vb]) t) => cn1 t (by
    exact st2 _ kt)
  have AFx4 := A_vb
  obtain ⟨cl4, Ar4, q4, S4, H4⟩ := AFx4
  have cn5 := fun (t : State) (kt : SF p e below T2 (mkF m 5 #[vr sb, vi 203, .unset, .unset, .unset, .unset] [.int (Nat.toInt32 400)]) t) => cn3 t (by
    refine X2.arraylength hx (by rw [e2]; exact Ar4.1) (State.isArrayOf_alike hZ.alike Ar4.2.1) (g := (mkF m 4 #[vr sb, vi 203, .unset, .unset, .unset, .unset] [.ref vb])) rfl rfl (hb' d37_4) _ ?_
    rw [S4]
    exact kt)
  have cn6 : ∀ t, SF p e below T2 (mkF m 5 #[vr sb, vi 203, .unset, .unset, .unset, .unset] [.int 400]) t → SF p e below s₁ (entryFrame m #[(.ref sb), (.int (203 : Int32))] 6) t := by have q := cn5; rw [(id (rfl) : (Nat.toInt32 400) = (400 : Int32))] at q; exact q
  have cn7 := fun (t : State) (kt : SF p e below T2 (mkF m 8 #[vr sb, vi 203, vi 400, .unset, .unset, .unset] [.ref sb, .int 203]) t) => cn6 t (by
    refine XS.istoreN X2.here hx rfl (hb' d37_5) rfl (l' := #[vr sb, vi 203, vi 400, .unset, .unset, .unset]) rfl ?_
    refine XS.iloadN X2.here hx rfl (hb' d37_6) rfl ?_
    exact XS.aloadN X2.here hx rfl (hb' d37_7) rfl rfl kt)
  obtain ⟨T8, X8, e8, st8⟩ := getF X2 hx hZ hown (host := "") (Or.inl (wq hw 88 rfl)) Via.refl e2 Fsbc (g := (mkF m 8 #[vr sb, vi 203, vi 400, .unset, .unset, .unset] [.ref sb, .int 203])) rfl rfl (hb' d37_8)
  have cn9 := fun (t : State) (kt : SF p e below T8 (mkF m 24 #[vr sb, vi 203, vi 400, vi 406, vi 6, .unset] [.ref sb, .int 2, .int 400, .int 6, .int 400]) t) => cn7 t (by
    refine st8 _ ?_
    refine XS.ishl X8.here hx rfl (hb' d37_11) rfl ?_
    refine XS.istoreN X8.here hx rfl (hb' d37_12) rfl (l' := #[vr sb, vi 203, vi 400, vi 406, .unset, .unset]) rfl ?_
    refine XS.iloadN X8.here hx rfl (hb' d37_13) rfl ?_
    refine XS.iloadN X8.here hx rfl (hb' d37_14) rfl ?_
    refine XS.isub X8.here hx rfl (hb' d37_15) rfl ?_
    refine XS.istore X8.here hx rfl (hb' d37_16) rfl (l' := #[vr sb, vi 203, vi 400, vi 406, vi 6, .unset]) rfl ?_
    refine XS.iloadN X8.here hx rfl (hb' d37_18) rfl ?_
    refine XS.iload X8.here hx rfl (hb' d37_19) rfl ?_
    refine XS.iloadN X8.here hx rfl (hb' d37_21) rfl ?_
    refine XS.iconst X8.here hx rfl (hb' d37_22) ?_
    exact XS.aloadN X8.here hx rfl (hb' d37_23) rfl rfl kt)
  obtain ⟨T10, X10, e10, st10⟩ := getF X8 hx hZ hown (host := "") (Or.inl (wq hw 88 rfl)) Via.refl e8 Fsbc (g := (mkF m 24 #[vr sb, vi 203, vi 400, vi 406, vi 6, .unset] [.ref sb, .int 2, .int 400, .int 6, .int 400])) rfl rfl (hb' d37_24)
  have cn11 := fun (t : State) (kt : SF p e below T10 (mkF m 29 #[vr sb, vi 203, vi 400, vi 406, vi 6, .unset] [.int 404, .int 6, .int 400]) t) => cn9 t (by
    refine st10 _ ?_
    refine XS.ishl X10.here hx rfl (hb' d37_27) rfl ?_
    exact XS.iadd X10.here hx rfl (hb' d37_28) rfl kt)
  obtain ⟨_, _, ⟨T12, L12, k12, n12⟩, -, X12, ⟨Lc12, hQ12, l12, y12, z12⟩, st12⟩ := Jvm.LawKit.callS X10 hx (y := y33') hown (mvT hZ (wq hw 177 rfl)) (mvT hZ (wq hw 178 rfl)) (mvT hZ (wq hw 179 rfl)) (mvT hZ (wq hw 180 rfl)) (by decide) (backOf (W := 0) (rm38_2 l Z a0 hw [] h0 n0 O0) hZ (wq hw 180 rfl) (wq hw 179 rfl) (by decide) (by decide)) (g := (mkF m 29 #[vr sb, vi 203, vi 400, vi 406, vi 6, .unset] [.int 404, .int 6, .int 400])) rfl (by rw [hml]; rfl) (argsL := [(.int (400 : Int32)), (.int (6 : Int32)), (.int (404 : Int32))]) (rest := []) (lenOf pd_11 rfl) rfl (Nat.le_refl _) (hb' d37_29) (fun _ _ => ⟨rfl, e10, (by decide : 0 + 0 ≤ _), (by decide : 0 + 0 ≤ _)⟩)
  dsimp only [Pt.U, Pt.locs, Pt.cells, Pt.slots] at X12 l12 y12 z12 st12 hQ12
  subst l12 y12 z12
  obtain ⟨rfl, Nq12, eh12⟩ := hQ12
  have N12 := Fr.app N0 Nq12
  have cn13 := fun (t : State) (kt : SF p e below T12 (mkF m 38 #[vr sb, vi 203, vi 400, vi 406, vi 6, vi 804] [.int 2147483647, .int 804]) t) => cn11 t (by
    refine st12 _ ?_
    refine XS.istore X12.here hx rfl (hb' d37_32) rfl (l' := #[vr sb, vi 203, vi 400, vi 406, vi 6, vi 804]) rfl ?_
    refine XS.iload X12.here hx rfl (hb' d37_34) rfl ?_
    exact X12.ldcInt hx hown (mvT hZ (wq hw 185 rfl)) (g := (mkF m 36 #[vr sb, vi 203, vi 400, vi 406, vi 6, vi 804] [.int 804])) rfl (hb' d37_36) _ kt)
  have cn14 := fun (t : State) (kt : SF p e below T12 (mkF m 54 #[vr sb, vi 203, vi 400, vi 406, vi 6, vi 804] [.ref sb, .int 804]) t) => cn13 t (by
    refine XS.icmpYes X12.here hx rfl (pc0 := 38) (pc' := 51) rfl (hb' d37_38) rfl (feq (by decide : ¬ ((804 : Int32) = (2147483647 : Int32)))).2 (by decide) (by decide) ?_
    refine XS.iload X12.here hx rfl (hb' d37_51) rfl ?_
    exact XS.aloadN X12.here hx rfl (hb' d37_53) rfl rfl kt)
  obtain ⟨T15, X15, e15, st15⟩ := getF X12 hx hZ hown (host := "") (Or.inl (wq hw 88 rfl)) Via.refl eh12 Fsbc (g := (mkF m 54 #[vr sb, vi 203, vi 400, vi 406, vi 6, vi 804] [.ref sb, .int 804])) rfl rfl (hb' d37_54)
  have cn16 := fun (t : State) (kt : SF p e below T15 (mkF m 58 #[vr sb, vi 203, vi 400, vi 406, vi 6, vi 804] [.int 402]) t) => cn14 t (by
    refine st15 _ ?_
    exact XS.ishr X15.here hx rfl (hb' d37_57) rfl kt)
  obtain ⟨frs, hr, hrun, hended, hW, hsame⟩ := X15.leave (v := some (.int (402 : Int32))) (fun h => by rw [Bd.returns] at h; cases h)
  refine ⟨_, _, cn16 _ ?_, hrun, hended, _, _, rfl, ?_, ⟨_, rfl⟩, hW, hsame.mono (by decide) (by decide)⟩
  · exact retI X15 hx Bd.returns (hb' d37_58) hr
  · show QI 402 h0 n0 _ T15.heap _
    rw [e15]
    exact ⟨rfl, N12, rfl⟩

theorem d36_0 : DC c35' 0 (.aload_n 0) 1 := by decide +kernel
theorem d36_1 : DC c35' 1 (.getfield 15) 3 := by decide +kernel
theorem d36_4 : DC c35' 4 (.arraylength) 1 := by decide +kernel
theorem d36_5 : DC c35' 5 (.aload_n 0) 1 := by decide +kernel
theorem d36_6 : DC c35' 6 (.getfield 22) 3 := by decide +kernel
theorem d36_9 : DC c35' 9 (.ishr) 1 := by decide +kernel
theorem d36_10 : DC c35' 10 (.istore_n 2) 1 := by decide +kernel
theorem d36_11 : DC c35' 11 (.iload_n 1) 1 := by decide +kernel
theorem d36_12 : DC c35' 12 (.iload_n 2) 1 := by decide +kernel
theorem d36_13 : DC c35' 13 (.isub) 1 := by decide +kernel
theorem d36_14 : DC c35' 14 (.ifCond .le 24) 3 := by decide +kernel
theorem d36_17 : DC c35' 17 (.aload_n 0) 1 := by decide +kernel
theorem d36_18 : DC c35' 18 (.aload_n 0) 1 := by decide +kernel
theorem d36_19 : DC c35' 19 (.getfield 15) 3 := by decide +kernel
theorem d36_22 : DC c35' 22 (.aload_n 0) 1 := by decide +kernel
theorem d36_23 : DC c35' 23 (.iload_n 1) 1 := by decide +kernel
theorem d36_24 : DC c35' 24 (.invokevirtual 104) 3 := by decide +kernel
theorem d36_27 : DC c35' 27 (.aload_n 0) 1 := by decide +kernel
theorem d36_28 : DC c35' 28 (.getfield 22) 3 := by decide +kernel
theorem d36_31 : DC c35' 31 (.ishl) 1 := by decide +kernel
theorem d36_32 : DC c35' 32 (.invokestatic 108) 3 := by decide +kernel
theorem d36_35 : DC c35' 35 (.putfield 15) 3 := by decide +kernel
theorem d36_38 : DC c35' 38 (.return_) 1 := by decide +kernel
theorem pd_23 : parseMethodDescriptor "([BI)[B" = some ⟨[(.array .byte), .int], some (.array .byte)⟩ := by decide +kernel
theorem ef_36_0 (m : MethodId) (x0 : Addr) (x1 : Int32) : entryFrame m #[(.ref x0), (.int x1)] 3 = mkF m 0 #[.val (.ref x0), .val (.int x1), .unset] [] := by first | (simp [entryFrame, mkF, argsToLocals, Value.category]; done) | rfl
theorem rm36_0 (l : Launch) (Z : State) (a0 : Array Value) (hw : HW a0 Z) (ws : List Jvm.Cond) (sb vb : Addr) (k : ClassId) (f : Nat → Value) (h0 : Heap) (n0 : Nat) (O0 : Old Z n0 h0) (g_sb : n0 ≤ sb) (Bh : SBF Z h0 sb vb 0 0) (A_vb : AF Z h0 vb k .byte 16 f) (hfb : own_fb 16 f) :
    MT l y35' c35' 3 none ws ({ frames := 3, cells := 1, slots := 804, locals := 55 } : Room) #[(.ref sb), (.int (200 : Int32))] Z h0 (QSB Z sb 0 0 200 (fun f' => ∀ j, j < 16 → f' j = f j) none h0 n0) := by
  refine MetFree.of_bodySF (plainFor_of_name pn_java_lang_AbstractStringBuilder) hisR ?_
  intro p e s m args below meth kode s₁ Bd hml0 hP hK
  obtain ⟨rfl, hZ, hh⟩ := hP
  have hx := Bd.exec
  have hby := Bd.bytes
  have hb' := @hb _ _ hby
  have hml : kode.maxLocals = 3 := hml0
  have hown : s.vm.findClass "java/lang/AbstractStringBuilder" = some m.cls := findClass_of_methodNamed Bd.named
  have X0 : Stand p l e ({ frames := 3, cells := 1, slots := 804, locals := 55 } : Room) s m #[(.ref sb), (.int (200 : Int32))] below meth kode s₁ [] 0 0 := Stand.of_body Bd
  have e0 : s₁.heap = h0 := by rw [← hh, Bd.state]; rfl
  have N0 := Fr.nil n0
  have pre0 : ∀ t, SF p e below s₁ (mkF m 0 #[vr sb, vi 200, .unset] []) t → SF p e below s₁ (entryFrame m #[(.ref sb), (.int (200 : Int32))] 3) t := fun t k => castTop (ef_36_0 m sb (200 : Int32)) k
  have Bx := Bh
  obtain ⟨E_sb, Fsbv, Fsbc, Fsbn, Fsbm⟩ := Bx
  have cn1 := fun (t : State) (kt : SF p e below s₁ (mkF m 1 #[vr sb, vi 200, .unset] [.ref sb]) t) => pre0 t (by
    exact XS.aloadN X0.here hx rfl (hb' d36_0) rfl rfl kt)
  obtain ⟨T2, X2, e2, st2⟩ := getF X0 hx hZ hown (host := "") (Or.inl (wq hw 86 rfl)) Via.refl e0 Fsbv (g := (mkF m 1 #[vr sb, vi 200, .unset] [.ref sb])) rfl rfl (hb' d36_1)
  have cn3 := fun (t : State) (kt : SF p e below T2 (mkF m 4 #[vr sb, vi 200, .unset] [.ref vb]) t) => cn1 t (by
    exact st2 _ kt)
  have AFx4 := A_vb
  obtain ⟨cl4, Ar4, q4, S4, H4⟩ := AFx4
  have cn5 := fun (t : State) (kt : SF p e below T2 (mkF m 5 #[vr sb, vi 200, .unset] [.int (Nat.toInt32 16)]) t) => cn3 t (by
    refine X2.arraylength hx (by rw [e2]; exact Ar4.1) (State.isArrayOf_alike hZ.alike Ar4.2.1) (g := (mkF m 4 #[vr sb, vi 200, .unset] [.ref vb])) rfl rfl (hb' d36_4) _ ?_
    rw [S4]
    exact kt)
  have cn6 : ∀ t, SF p e below T2 (mkF m 5 #[vr sb, vi 200, .unset] [.int 16]) t → SF p e below s₁ (entryFrame m #[(.ref sb), (.int (200 : Int32))] 3) t := by have q := cn5; rw [(id (rfl) : (Nat.toInt32 16) = (16 : Int32))] at q; exact q
  have cn7 := fun (t : State) (kt : SF p e below T2 (mkF m 6 #[vr sb, vi 200, .unset] [.ref sb, .int 16]) t) => cn6 t (by
    exact XS.aloadN X2.here hx rfl (hb' d36_5) rfl rfl kt)
  obtain ⟨T8, X8, e8, st8⟩ := getF X2 hx hZ hown (host := "") (Or.inl (wq hw 88 rfl)) Via.refl e2 Fsbc (g := (mkF m 6 #[vr sb, vi 200, .unset] [.ref sb, .int 16])) rfl rfl (hb' d36_6)
  have cn9 := fun (t : State) (kt : SF p e below T8 (mkF m 14 #[vr sb, vi 200, vi 16] [.int 184]) t) => cn7 t (by
    refine st8 _ ?_
    refine XS.ishr X8.here hx rfl (hb' d36_9) rfl ?_
    refine XS.istoreN X8.here hx rfl (hb' d36_10) rfl (l' := #[vr sb, vi 200, vi 16]) rfl ?_
    refine XS.iloadN X8.here hx rfl (hb' d36_11) rfl ?_
    refine XS.iloadN X8.here hx rfl (hb' d36_12) rfl ?_
    exact XS.isub X8.here hx rfl (hb' d36_13) rfl kt)
  have cn10 := fun (t : State) (kt : SF p e below T8 (mkF m 19 #[vr sb, vi 200, vi 16] [.ref sb, .ref sb]) t) => cn9 t (by
    refine XS.ifNo X8.here hx rfl (hb' d36_14) rfl ((if0 _ _).trans (tlt (by decide : (0 : Int32) < (184 : Int32))).2.2.2) ?_
    refine XS.aloadN X8.here hx rfl (hb' d36_17) rfl rfl ?_
    exact XS.aloadN X8.here hx rfl (hb' d36_18) rfl rfl kt)
  obtain ⟨T11, X11, e11, st11⟩ := getF X8 hx hZ hown (host := "") (Or.inl (wq hw 86 rfl)) Via.refl e8 Fsbv (g := (mkF m 19 #[vr sb, vi 200, vi 16] [.ref sb, .ref sb])) rfl rfl (hb' d36_19)
  have cn12 := fun (t : State) (kt : SF p e below T11 (mkF m 24 #[vr sb, vi 200, vi 16] [.int 200, .ref sb, .ref vb, .ref sb]) t) => cn10 t (by
    refine st11 _ ?_
    refine XS.aloadN X11.here hx rfl (hb' d36_22) rfl rfl ?_
    exact XS.iloadN X11.here hx rfl (hb' d36_23) rfl kt)
  obtain ⟨cq13, q13, q13'⟩ := E_sb.cell
  obtain ⟨_, _, ⟨T13, L13, k13, n13⟩, -, X13, ⟨Lc13, hQ13, l13, y13, z13⟩, st13⟩ := X11.privateBack hx (y := y34') hown (mvT hZ (wq hw 172 rfl)) (mvT hZ (wq hw 173 rfl)) (own_selq (y := y34') hZ (wq hw 175 rfl) (wq hw 174 rfl) (wq hw 173 rfl) (by decide)) (Cond.privateMethod_at (mvP hZ (wq hw 174 rfl) (args := #[]))) (mvT hZ (wq hw 176 rfl)) (by decide) (backOf (W := 2) (rm37_0 l Z a0 hw [] sb vb k f h0 n0 O0 g_sb ⟨E_sb, Fsbv, Fsbc, Fsbn, Fsbm⟩ A_vb hfb) hZ (wq hw 176 rfl) (wq hw 82 rfl) (by decide) (by decide)) (g := (mkF m 24 #[vr sb, vi 200, vi 16] [.int 200, .ref sb, .ref vb, .ref sb])) rfl (by rw [hml]; rfl) (Steps.refl _) (a := sb) (by rw [e11]; exact q13) q13' (argsL := [(.int (200 : Int32))]) (rest := [(.ref vb), (.ref sb)]) (lenOf pd_0 rfl) rfl (Nat.le_refl _) (hb' d36_24) (fun _ _ => ⟨rfl, e11, (by decide : 0 + 0 ≤ _), (by decide : 0 + 0 ≤ _)⟩)
  dsimp only [Pt.U, Pt.locs, Pt.cells, Pt.slots] at X13 l13 y13 z13 st13 hQ13
  subst l13 y13 z13
  obtain ⟨rfl, Nq13, eh13⟩ := hQ13
  have N13 := Fr.app N0 Nq13
  have cn14 := fun (t : State) (kt : SF p e below T13 (mkF m 28 #[vr sb, vi 200, vi 16] [.ref sb, .int 200, .ref vb, .ref sb]) t) => cn12 t (by
    refine st13.trans ?_
    exact XS.aloadN X13.here hx rfl (hb' d36_27) rfl rfl kt)
  obtain ⟨T15, X15, e15, st15⟩ := getF X13 hx hZ hown (host := "") (Or.inl (wq hw 88 rfl)) Via.refl eh13 Fsbc (g := (mkF m 28 #[vr sb, vi 200, vi 16] [.ref sb, .int 200, .ref vb, .ref sb])) rfl rfl (hb' d36_28)
  have cn16 := fun (t : State) (kt : SF p e below T15 (mkF m 32 #[vr sb, vi 200, vi 16] [.int 200, .ref vb, .ref sb]) t) => cn14 t (by
    refine st15 _ ?_
    exact XS.ishl X15.here hx rfl (hb' d36_31) rfl kt)
  obtain ⟨_, _, ⟨T17, L17, k17, n17⟩, -, X17, ⟨Lc17, hQ17, l17, y17, z17⟩, st17⟩ := Jvm.LawKit.callS X15 hx (y := y24') hown (mvT hZ (wq hw 186 rfl)) (mvT hZ (wq hw 187 rfl)) (mvT hZ (wq hw 133 rfl)) (mvT hZ (wq hw 188 rfl)) (by decide) (backOf (W := 1) (rm40 l Z a0 hw [] vb k 16 200 f h0 n0 O0 (by omega) (by omega) (by omega) A_vb hfb) hZ (wq hw 188 rfl) (wq hw 133 rfl) (by decide) (by decide)) (g := (mkF m 32 #[vr sb, vi 200, vi 16] [.int 200, .ref vb, .ref sb])) rfl (by rw [hml]; rfl) (argsL := [(.ref vb), (.int (200 : Int32))]) (rest := [(.ref sb)]) (lenOf pd_23 rfl) rfl (Nat.le_refl _) (hb' d36_32) (fun _ _ => ⟨rfl, e15, (by decide : 0 + 1 ≤ _), (by decide : 0 + 804 ≤ _)⟩)
  dsimp only [Pt.U, Pt.locs, Pt.cells, Pt.slots] at X17 l17 y17 z17 st17 hQ17
  subst l17 y17 z17
  obtain ⟨r17x, kq17, f17, rfl, Nq17, Kq17, szq17, Aq17, hcp17, hfb17⟩ := hQ17
  have N17 := Fr.app N13 Nq17
  have ne_sb_r17x : sb ≠ r17x := Nat.ne_of_lt (Nat.lt_of_lt_of_le E_sb.lt szq17)
  have ne_vb_r17x : vb ≠ r17x := Nat.ne_of_lt (Nat.lt_of_lt_of_le A_vb.lt szq17)
  have sz_r17x : h0.size ≤ r17x := Nat.le_trans (Keep.refl h0 [sb]).1 szq17
  have g_r17x : n0 ≤ r17x := Nat.le_trans (O0.1 ▸ O0.2.1) sz_r17x
  have K17 := Kq17
  have E_sb_e17 := E_sb.keep K17
  have Fsbv_e17 := Fsbv.keep K17 nin0
  have Fsbc_e17 := Fsbc.keep K17 nin0
  have Fsbn_e17 := Fsbn.keep K17 nin0
  have Fsbm_e17 := Fsbm.keep K17 nin0
  have A_vb_e17 := A_vb.keep K17 nin0
  have O17 := O0.keep K17 all0
  have KK17 : Keep h0 T17.heap [sb] := (Keep.refl h0 [sb]).trans K17 all0
  have cn18 := fun (t : State) (kt : SF p e below T17 (mkF m 35 #[vr sb, vi 200, vi 16] [.ref r17x, .ref sb]) t) => cn16 t (by
    exact st17 _ kt)
  obtain ⟨T19, h19, X19, e19, W19, st19⟩ := putF X17 hx hZ hown (host := "") (Or.inl (wq hw 86 rfl)) Via.refl rfl Fsbv_e17 E_sb_e17 (Or.inl (wq hw 87 rfl)) (wq hw 73 rfl) (ty := (.array .byte)) (by decide) rfl rfl (g := (mkF m 35 #[vr sb, vi 200, vi 16] [.ref r17x, .ref sb])) rfl rfl (hb' d36_35)
  have E_sb_e19 := E_sb_e17.wr W19
  have Fsbc_e19 := Fsbc_e17.other W19 (Or.inr (slot_ne (Or.inl (wq hw 89 rfl)) (Or.inl (wq hw 87 rfl)) (by decide) (t := .byte) (t' := (.array .byte)) (by decide) (by decide)))
  have Fsbn_e19 := Fsbn_e17.other W19 (Or.inr (slot_ne (Or.inl (wq hw 166 rfl)) (Or.inl (wq hw 87 rfl)) (by decide) (t := .int) (t' := (.array .byte)) (by decide) (by decide)))
  have Fsbm_e19 := Fsbm_e17.other W19 (Or.inr (slot_ne (Or.inl (wq hw 253 rfl)) (Or.inl (wq hw 87 rfl)) (by decide) (t := .boolean) (t' := (.array .byte)) (by decide) (by decide)))
  have A_vb_e19 := A_vb_e17.other W19 (Ne.symm (own_neA E_sb_e17 A_vb_e17 (wq hw 73 rfl)))
  have Aq17_e19 := Aq17.other W19 (Ne.symm ne_sb_r17x)
  have N19 := Fr.snoc X19 N17 g_sb
  have O19 := O17.wr W19 g_sb
  have K19 : Keep h0 h19 [sb] := KK17.wr W19 (Or.inl (List.mem_of_getElem? (i := 0) rfl))
  have Fvalue_19 := Fsbv_e17.same W19
  have cn20 := fun (t : State) (kt : SF p e below T19 (mkF m 38 #[vr sb, vi 200, vi 16] []) t) => cn18 t (by
    exact st19 _ kt)
  obtain ⟨frs, hr, hrun, hended, hW, hsame⟩ := X19.leave (v := none) (fun _ => rfl)
  refine ⟨_, _, cn20 _ ?_, hrun, hended, _, _, rfl, ?_, ⟨_, rfl⟩, hW, hsame.mono (by decide) (by decide)⟩
  · exact X19.returnOut hx Bd.returns (hb' d36_38) hr
  · show QSB Z sb 0 0 200 (fun f' => ∀ j, j < 16 → f' j = f j) none h0 n0 _ T19.heap _
    rw [e19]
    exact ⟨r17x, _, _, rfl, N19, K19, sz_r17x, ⟨E_sb_e19, Fvalue_19, Fsbc_e19, Fsbn_e19, Fsbm_e19⟩, Aq17_e19, hfb17, hcp17⟩

theorem ef_36_1 (m : MethodId) (x0 : Addr) (x1 : Int32) : entryFrame m #[(.ref x0), (.int x1)] 3 = mkF m 0 #[.val (.ref x0), .val (.int x1), .unset] [] := by first | (simp [entryFrame, mkF, argsToLocals, Value.category]; done) | rfl
theorem rm36_1 (l : Launch) (Z : State) (a0 : Array Value) (hw : HW a0 Z) (ws : List Jvm.Cond) (sb vb : Addr) (k : ClassId) (f : Nat → Value) (h0 : Heap) (n0 : Nat) (O0 : Old Z n0 h0) (g_sb : n0 ≤ sb) (Bh : SBF Z h0 sb vb 0 200) (A_vb : AF Z h0 vb k .byte 200 f) (hfb : own_fb 200 f) :
    MT l y35' c35' 3 none ws ({ frames := 3, cells := 1, slots := 804, locals := 55 } : Room) #[(.ref sb), (.int (203 : Int32))] Z h0 (QSB Z sb 0 200 402 (fun f' => ∀ j, j < 200 → f' j = f j) none h0 n0) := by
  refine MetFree.of_bodySF (plainFor_of_name pn_java_lang_AbstractStringBuilder) hisR ?_
  intro p e s m args below meth kode s₁ Bd hml0 hP hK
  obtain ⟨rfl, hZ, hh⟩ := hP
  have hx := Bd.exec
  have hby := Bd.bytes
  have hb' := @hb _ _ hby
  have hml : kode.maxLocals = 3 := hml0
  have hown : s.vm.findClass "java/lang/AbstractStringBuilder" = some m.cls := findClass_of_methodNamed Bd.named
  have X0 : Stand p l e ({ frames := 3, cells := 1, slots := 804, locals := 55 } : Room) s m #[(.ref sb), (.int (203 : Int32))] below meth kode s₁ [] 0 0 := Stand.of_body Bd
  have e0 : s₁.heap = h0 := by rw [← hh, Bd.state]; rfl
  have N0 := Fr.nil n0
  have pre0 : ∀ t, SF p e below s₁ (mkF m 0 #[vr sb, vi 203, .unset] []) t → SF p e below s₁ (entryFrame m #[(.ref sb), (.int (203 : Int32))] 3) t := fun t k => castTop (ef_36_1 m sb (203 : Int32)) k
  have Bx := Bh
  obtain ⟨E_sb, Fsbv, Fsbc, Fsbn, Fsbm⟩ := Bx
  have cn1 := fun (t : State) (kt : SF p e below s₁ (mkF m 1 #[vr sb, vi 203, .unset] [.ref sb]) t) => pre0 t (by
    exact XS.aloadN X0.here hx rfl (hb' d36_0) rfl rfl kt)
  obtain ⟨T2, X2, e2, st2⟩ := getF X0 hx hZ hown (host := "") (Or.inl (wq hw 86 rfl)) Via.refl e0 Fsbv (g := (mkF m 1 #[vr sb, vi 203, .unset] [.ref sb])) rfl rfl (hb' d36_1)
  have cn3 := fun (t : State) (kt : SF p e below T2 (mkF m 4 #[vr sb, vi 203, .unset] [.ref vb]) t) => cn1 t (by
    exact st2 _ kt)
  have AFx4 := A_vb
  obtain ⟨cl4, Ar4, q4, S4, H4⟩ := AFx4
  have cn5 := fun (t : State) (kt : SF p e below T2 (mkF m 5 #[vr sb, vi 203, .unset] [.int (Nat.toInt32 200)]) t) => cn3 t (by
    refine X2.arraylength hx (by rw [e2]; exact Ar4.1) (State.isArrayOf_alike hZ.alike Ar4.2.1) (g := (mkF m 4 #[vr sb, vi 203, .unset] [.ref vb])) rfl rfl (hb' d36_4) _ ?_
    rw [S4]
    exact kt)
  have cn6 : ∀ t, SF p e below T2 (mkF m 5 #[vr sb, vi 203, .unset] [.int 200]) t → SF p e below s₁ (entryFrame m #[(.ref sb), (.int (203 : Int32))] 3) t := by have q := cn5; rw [(id (rfl) : (Nat.toInt32 200) = (200 : Int32))] at q; exact q
  have cn7 := fun (t : State) (kt : SF p e below T2 (mkF m 6 #[vr sb, vi 203, .unset] [.ref sb, .int 200]) t) => cn6 t (by
    exact XS.aloadN X2.here hx rfl (hb' d36_5) rfl rfl kt)
  obtain ⟨T8, X8, e8, st8⟩ := getF X2 hx hZ hown (host := "") (Or.inl (wq hw 88 rfl)) Via.refl e2 Fsbc (g := (mkF m 6 #[vr sb, vi 203, .unset] [.ref sb, .int 200])) rfl rfl (hb' d36_6)
  have cn9 := fun (t : State) (kt : SF p e below T8 (mkF m 14 #[vr sb, vi 203, vi 200] [.int 3]) t) => cn7 t (by
    refine st8 _ ?_
    refine XS.ishr X8.here hx rfl (hb' d36_9) rfl ?_
    refine XS.istoreN X8.here hx rfl (hb' d36_10) rfl (l' := #[vr sb, vi 203, vi 200]) rfl ?_
    refine XS.iloadN X8.here hx rfl (hb' d36_11) rfl ?_
    refine XS.iloadN X8.here hx rfl (hb' d36_12) rfl ?_
    exact XS.isub X8.here hx rfl (hb' d36_13) rfl kt)
  have cn10 := fun (t : State) (kt : SF p e below T8 (mkF m 19 #[vr sb, vi 203, vi 200] [.ref sb, .ref sb]) t) => cn9 t (by
    refine XS.ifNo X8.here hx rfl (hb' d36_14) rfl ((if0 _ _).trans (tlt (by decide : (0 : Int32) < (3 : Int32))).2.2.2) ?_
    refine XS.aloadN X8.here hx rfl (hb' d36_17) rfl rfl ?_
    exact XS.aloadN X8.here hx rfl (hb' d36_18) rfl rfl kt)
  obtain ⟨T11, X11, e11, st11⟩ := getF X8 hx hZ hown (host := "") (Or.inl (wq hw 86 rfl)) Via.refl e8 Fsbv (g := (mkF m 19 #[vr sb, vi 203, vi 200] [.ref sb, .ref sb])) rfl rfl (hb' d36_19)
  have cn12 := fun (t : State) (kt : SF p e below T11 (mkF m 24 #[vr sb, vi 203, vi 200] [.int 203, .ref sb, .ref vb, .ref sb]) t) => cn10 t (by
    refine st11 _ ?_
    refine XS.aloadN X11.here hx rfl (hb' d36_22) rfl rfl ?_
    exact XS.iloadN X11.here hx rfl (hb' d36_23) rfl kt)
  obtain ⟨cq13, q13, q13'⟩ := E_sb.cell
  obtain ⟨_, _, ⟨T13, L13, k13, n13⟩, -, X13, ⟨Lc13, hQ13, l13, y13, z13⟩, st13⟩ := X11.privateBack hx (y := y34') hown (mvT hZ (wq hw 172 rfl)) (mvT hZ (wq hw 173 rfl)) (own_selq (y := y34') hZ (wq hw 175 rfl) (wq hw 174 rfl) (wq hw 173 rfl) (by decide)) (Cond.privateMethod_at (mvP hZ (wq hw 174 rfl) (args := #[]))) (mvT hZ (wq hw 176 rfl)) (by decide) (backOf (W := 2) (rm37_1 l Z a0 hw [] sb vb k f h0 n0 O0 g_sb ⟨E_sb, Fsbv, Fsbc, Fsbn, Fsbm⟩ A_vb hfb) hZ (wq hw 176 rfl) (wq hw 82 rfl) (by decide) (by decide)) (g := (mkF m 24 #[vr sb, vi 203, vi 200] [.int 203, .ref sb, .ref vb, .ref sb])) rfl (by rw [hml]; rfl) (Steps.refl _) (a := sb) (by rw [e11]; exact q13) q13' (argsL := [(.int (203 : Int32))]) (rest := [(.ref vb), (.ref sb)]) (lenOf pd_0 rfl) rfl (Nat.le_refl _) (hb' d36_24) (fun _ _ => ⟨rfl, e11, (by decide : 0 + 0 ≤ _), (by decide : 0 + 0 ≤ _)⟩)
  dsimp only [Pt.U, Pt.locs, Pt.cells, Pt.slots] at X13 l13 y13 z13 st13 hQ13
  subst l13 y13 z13
  obtain ⟨rfl, Nq13, eh13⟩ := hQ13
  have N13 := Fr.app N0 Nq13
  have cn14 := fun (t : State) (kt : SF p e below T13 (mkF m 28 #[vr sb, vi 203, vi 200] [.ref sb, .int 402, .ref vb, .ref sb]) t) => cn12 t (by
    refine st13.trans ?_
    exact XS.aloadN X13.here hx rfl (hb' d36_27) rfl rfl kt)
  obtain ⟨T15, X15, e15, st15⟩ := getF X13 hx hZ hown (host := "") (Or.inl (wq hw 88 rfl)) Via.refl eh13 Fsbc (g := (mkF m 28 #[vr sb, vi 203, vi 200] [.ref sb, .int 402, .ref vb, .ref sb])) rfl rfl (hb' d36_28)
  have cn16 := fun (t : State) (kt : SF p e below T15 (mkF m 32 #[vr sb, vi 203, vi 200] [.int 402, .ref vb, .ref sb]) t) => cn14 t (by
    refine st15 _ ?_
    exact XS.ishl X15.here hx rfl (hb' d36_31) rfl kt)
  obtain ⟨_, _, ⟨T17, L17, k17, n17⟩, -, X17, ⟨Lc17, hQ17, l17, y17, z17⟩, st17⟩ := Jvm.LawKit.callS X15 hx (y := y24') hown (mvT hZ (wq hw 186 rfl)) (mvT hZ (wq hw 187 rfl)) (mvT hZ (wq hw 133 rfl)) (mvT hZ (wq hw 188 rfl)) (by decide) (backOf (W := 1) (rm40 l Z a0 hw [] vb k 200 402 f h0 n0 O0 (by omega) (by omega) (by omega) A_vb hfb) hZ (wq hw 188 rfl) (wq hw 133 rfl) (by decide) (by decide)) (g := (mkF m 32 #[vr sb, vi 203, vi 200] [.int 402, .ref vb, .ref sb])) rfl (by rw [hml]; rfl) (argsL := [(.ref vb), (.int (402 : Int32))]) (rest := [(.ref sb)]) (lenOf pd_23 rfl) rfl (Nat.le_refl _) (hb' d36_32) (fun _ _ => ⟨rfl, e15, (by decide : 0 + 1 ≤ _), (by decide : 0 + 804 ≤ _)⟩)
  dsimp only [Pt.U, Pt.locs, Pt.cells, Pt.slots] at X17 l17 y17 z17 st17 hQ17
  subst l17 y17 z17
  obtain ⟨r17x, kq17, f17, rfl, Nq17, Kq17, szq17, Aq17, hcp17, hfb17⟩ := hQ17
  have N17 := Fr.app N13 Nq17
  have ne_sb_r17x : sb ≠ r17x := Nat.ne_of_lt (Nat.lt_of_lt_of_le E_sb.lt szq17)
  have ne_vb_r17x : vb ≠ r17x := Nat.ne_of_lt (Nat.lt_of_lt_of_le A_vb.lt szq17)
  have sz_r17x : h0.size ≤ r17x := Nat.le_trans (Keep.refl h0 [sb]).1 szq17
  have g_r17x : n0 ≤ r17x := Nat.le_trans (O0.1 ▸ O0.2.1) sz_r17x
  have K17 := Kq17
  have E_sb_e17 := E_sb.keep K17
  have Fsbv_e17 := Fsbv.keep K17 nin0
  have Fsbc_e17 := Fsbc.keep K17 nin0
  have Fsbn_e17 := Fsbn.keep K17 nin0
  have Fsbm_e17 := Fsbm.keep K17 nin0
  have A_vb_e17 := A_vb.keep K17 nin0
  have O17 := O0.keep K17 all0
  have KK17 : Keep h0 T17.heap [sb] := (Keep.refl h0 [sb]).trans K17 all0
  have cn18 := fun (t : State) (kt : SF p e below T17 (mkF m 35 #[vr sb, vi 203, vi 200] [.ref r17x, .ref sb]) t) => cn16 t (by
    exact st17 _ kt)
  obtain ⟨T19, h19, X19, e19, W19, st19⟩ := putF X17 hx hZ hown (host := "") (Or.inl (wq hw 86 rfl)) Via.refl rfl Fsbv_e17 E_sb_e17 (Or.inl (wq hw 87 rfl)) (wq hw 73 rfl) (ty := (.array .byte)) (by decide) rfl rfl (g := (mkF m 35 #[vr sb, vi 203, vi 200] [.ref r17x, .ref sb])) rfl rfl (hb' d36_35)
  have E_sb_e19 := E_sb_e17.wr W19
  have Fsbc_e19 := Fsbc_e17.other W19 (Or.inr (slot_ne (Or.inl (wq hw 89 rfl)) (Or.inl (wq hw 87 rfl)) (by decide) (t := .byte) (t' := (.array .byte)) (by decide) (by decide)))
  have Fsbn_e19 := Fsbn_e17.other W19 (Or.inr (slot_ne (Or.inl (wq hw 166 rfl)) (Or.inl (wq hw 87 rfl)) (by decide) (t := .int) (t' := (.array .byte)) (by decide) (by decide)))
  have Fsbm_e19 := Fsbm_e17.other W19 (Or.inr (slot_ne (Or.inl (wq hw 253 rfl)) (Or.inl (wq hw 87 rfl)) (by decide) (t := .boolean) (t' := (.array .byte)) (by decide) (by decide)))
  have A_vb_e19 := A_vb_e17.other W19 (Ne.symm (own_neA E_sb_e17 A_vb_e17 (wq hw 73 rfl)))
  have Aq17_e19 := Aq17.other W19 (Ne.symm ne_sb_r17x)
  have N19 := Fr.snoc X19 N17 g_sb
  have O19 := O17.wr W19 g_sb
  have K19 : Keep h0 h19 [sb] := KK17.wr W19 (Or.inl (List.mem_of_getElem? (i := 0) rfl))
  have Fvalue_19 := Fsbv_e17.same W19
  have cn20 := fun (t : State) (kt : SF p e below T19 (mkF m 38 #[vr sb, vi 203, vi 200] []) t) => cn18 t (by
    exact st19 _ kt)
  obtain ⟨frs, hr, hrun, hended, hW, hsame⟩ := X19.leave (v := none) (fun _ => rfl)
  refine ⟨_, _, cn20 _ ?_, hrun, hended, _, _, rfl, ?_, ⟨_, rfl⟩, hW, hsame.mono (by decide) (by decide)⟩
  · exact X19.returnOut hx Bd.returns (hb' d36_38) hr
  · show QSB Z sb 0 200 402 (fun f' => ∀ j, j < 200 → f' j = f j) none h0 n0 _ T19.heap _
    rw [e19]
    exact ⟨r17x, _, _, rfl, N19, K19, sz_r17x, ⟨E_sb_e19, Fvalue_19, Fsbc_e19, Fsbn_e19, Fsbm_e19⟩, Aq17_e19, hfb17, hcp17⟩

theorem ef_36_2 (m : MethodId) (x0 : Addr) (x1 : Int32) : entryFrame m #[(.ref x0), (.int x1)] 3 = mkF m 0 #[.val (.ref x0), .val (.int x1), .unset] [] := by first | (simp [entryFrame, mkF, argsToLocals, Value.category]; done) | rfl
theorem rm36_2 (l : Launch) (Z : State) (a0 : Array Value) (hw : HW a0 Z) (ws : List Jvm.Cond) (sb vb : Addr) (k : ClassId) (f : Nat → Value) (h0 : Heap) (n0 : Nat) (O0 : Old Z n0 h0) (g_sb : n0 ≤ sb) (Bh : SBF Z h0 sb vb 1 200) (A_vb : AF Z h0 vb k .byte 400 f) (hfb : own_fb 400 f) :
    MT l y35' c35' 3 none ws ({ frames := 3, cells := 1, slots := 804, locals := 55 } : Room) #[(.ref sb), (.int (203 : Int32))] Z h0 (QSB Z sb 1 200 804 (fun f' => ∀ j, j < 400 → f' j = f j) none h0 n0) := by
  refine MetFree.of_bodySF (plainFor_of_name pn_java_lang_AbstractStringBuilder) hisR ?_
  intro p e s m args below meth kode s₁ Bd hml0 hP hK
  obtain ⟨rfl, hZ, hh⟩ := hP
  have hx := Bd.exec
  have hby := Bd.bytes
  have hb' := @hb _ _ hby
  have hml : kode.maxLocals = 3 := hml0
  have hown : s.vm.findClass "java/lang/AbstractStringBuilder" = some m.cls := findClass_of_methodNamed Bd.named
  have X0 : Stand p l e ({ frames := 3, cells := 1, slots := 804, locals := 55 } : Room) s m #[(.ref sb), (.int (203 : Int32))] below meth kode s₁ [] 0 0 := Stand.of_body Bd
  have e0 : s₁.heap = h0 := by rw [← hh, Bd.state]; rfl
  have N0 := Fr.nil n0
  have pre0 : ∀ t, SF p e below s₁ (mkF m 0 #[vr sb, vi 203, .unset] []) t → SF p e below s₁ (entryFrame m #[(.ref sb), (.int (203 : Int32))] 3) t := fun t k => castTop (ef_36_2 m sb (203 : Int32)) k
  have Bx := Bh
  obtain ⟨E_sb, Fsbv, Fsbc, Fsbn, Fsbm⟩ := Bx
  have cn1 := fun (t : State) (kt : SF p e below s₁ (mkF m 1 #[vr sb, vi 203, .unset] [.ref sb]) t) => pre0 t (by
    exact XS.aloadN X0.here hx rfl (hb' d36_0) rfl rfl kt)
  obtain ⟨T2, X2, e2, st2⟩ := getF X0 hx hZ hown (host := "") (Or.inl (wq hw 86 rfl)) Via.refl e0 Fsbv (g := (mkF m 1 #[vr sb, vi 203, .unset] [.ref sb])) rfl rfl (hb' d36_1)
  have cn3 := fun (t : State) (kt : SF p e below T2 (mkF m 4 #[vr sb, vi 203, .unset] [.ref vb]) t) => cn1 t (by
    exact st2 _ kt)
  have AFx4 := A_vb
  obtain ⟨cl4, Ar4, q4, S4, H4⟩ := AFx4
  have cn5 := fun (t : State) (kt : SF p e below T2 (mkF m 5 #[vr sb, vi 203, .unset] [.int (Nat.toInt32 400)]) t) => cn3 t (by
    refine X2.arraylength hx (by rw [e2]; exact Ar4.1) (State.isArrayOf_alike hZ.alike Ar4.2.1) (g := (mkF m 4 #[vr sb, vi 203, .unset] [.ref vb])) rfl rfl (hb' d36_4) _ ?_
    rw [S4]
    exact kt)
  have cn6 : ∀ t, SF p e below T2 (mkF m 5 #[vr sb, vi 203, .unset] [.int 400]) t → SF p e below s₁ (entryFrame m #[(.ref sb), (.int (203 : Int32))] 3) t := by have q := cn5; rw [(id (rfl) : (Nat.toInt32 400) = (400 : Int32))] at q; exact q
  have cn7 := fun (t : State) (kt : SF p e below T2 (mkF m 6 #[vr sb, vi 203, .unset] [.ref sb, .int 400]) t) => cn6 t (by
    exact XS.aloadN X2.here hx rfl (hb' d36_5) rfl rfl kt)
  obtain ⟨T8, X8, e8, st8⟩ := getF X2 hx hZ hown (host := "") (Or.inl (wq hw 88 rfl)) Via.refl e2 Fsbc (g := (mkF m 6 #[vr sb, vi 203, .unset] [.ref sb, .int 400])) rfl rfl (hb' d36_6)
  have cn9 := fun (t : State) (kt : SF p e below T8 (mkF m 14 #[vr sb, vi 203, vi 200] [.int 3]) t) => cn7 t (by
    refine st8 _ ?_
    refine XS.ishr X8.here hx rfl (hb' d36_9) rfl ?_
    refine XS.istoreN X8.here hx rfl (hb' d36_10) rfl (l' := #[vr sb, vi 203, vi 200]) rfl ?_
    refine XS.iloadN X8.here hx rfl (hb' d36_11) rfl ?_
    refine XS.iloadN X8.here hx rfl (hb' d36_12) rfl ?_
    exact XS.isub X8.here hx rfl (hb' d36_13) rfl kt)
  have cn10 := fun (t : State) (kt : SF p e below T8 (mkF m 19 #[vr sb, vi 203, vi 200] [.ref sb, .ref sb]) t) => cn9 t (by
    refine XS.ifNo X8.here hx rfl (hb' d36_14) rfl ((if0 _ _).trans (tlt (by decide : (0 : Int32) < (3 : Int32))).2.2.2) ?_
    refine XS.aloadN X8.here hx rfl (hb' d36_17) rfl rfl ?_
    exact XS.aloadN X8.here hx rfl (hb' d36_18) rfl rfl kt)
  obtain ⟨T11, X11, e11, st11⟩ := getF X8 hx hZ hown (host := "") (Or.inl (wq hw 86 rfl)) Via.refl e8 Fsbv (g := (mkF m 19 #[vr sb, vi 203, vi 200] [.ref sb, .ref sb])) rfl rfl (hb' d36_19)
  have cn12 := fun (t : State) (kt : SF p e below T11 (mkF m 24 #[vr sb, vi 203, vi 200] [.int 203, .ref sb, .ref vb, .ref sb]) t) => cn10 t (by
    refine st11 _ ?_
    refine XS.aloadN X11.here hx rfl (hb' d36_22) rfl rfl ?_
    exact XS.iloadN X11.here hx rfl (hb' d36_23) rfl kt)
  obtain ⟨cq13, q13, q13'⟩ := E_sb.cell
  obtain ⟨_, _, ⟨T13, L13, k13, n13⟩, -, X13, ⟨Lc13, hQ13, l13, y13, z13⟩, st13⟩ := X11.privateBack hx (y := y34') hown (mvT hZ (wq hw 172 rfl)) (mvT hZ (wq hw 173 rfl)) (own_selq (y := y34') hZ (wq hw 175 rfl) (wq hw 174 rfl) (wq hw 173 rfl) (by decide)) (Cond.privateMethod_at (mvP hZ (wq hw 174 rfl) (args := #[]))) (mvT hZ (wq hw 176 rfl)) (by decide) (backOf (W := 2) (rm37_2 l Z a0 hw [] sb vb k f h0 n0 O0 g_sb ⟨E_sb, Fsbv, Fsbc, Fsbn, Fsbm⟩ A_vb hfb) hZ (wq hw 176 rfl) (wq hw 82 rfl) (by decide) (by decide)) (g := (mkF m 24 #[vr sb, vi 203, vi 200] [.int 203, .ref sb, .ref vb, .ref sb])) rfl (by rw [hml]; rfl) (Steps.refl _) (a := sb) (by rw [e11]; exact q13) q13' (argsL := [(.int (203 : Int32))]) (rest := [(.ref vb), (.ref sb)]) (lenOf pd_0 rfl) rfl (Nat.le_refl _) (hb' d36_24) (fun _ _ => ⟨rfl, e11, (by decide : 0 + 0 ≤ _), (by decide : 0 + 0 ≤ _)⟩)
  dsimp only [Pt.U, Pt.locs, Pt.cells, Pt.slots] at X13 l13 y13 z13 st13 hQ13
  subst l13 y13 z13
  obtain ⟨rfl, Nq13, eh13⟩ := hQ13
  have N13 := Fr.app N0 Nq13
  have cn14 := fun (t : State) (kt : SF p e below T13 (mkF m 28 #[vr sb, vi 203, vi 200] [.ref sb, .int 402, .ref vb, .ref sb]) t) => cn12 t (by
    refine st13.trans ?_
    exact XS.aloadN X13.here hx rfl (hb' d36_27) rfl rfl kt)
  obtain ⟨T15, X15, e15, st15⟩ := getF X13 hx hZ hown (host := "") (Or.inl (wq hw 88 rfl)) Via.refl eh13 Fsbc (g := (mkF m 28 #[vr sb, vi 203, vi 200] [.ref sb, .int 402, .ref vb, .ref sb])) rfl rfl (hb' d36_28)
  have cn16 := fun (t : State) (kt : SF p e below T15 (mkF m 32 #[vr sb, vi 203, vi 200] [.int 804, .ref vb, .ref sb]) t) => cn14 t (by
    refine st15 _ ?_
    exact XS.ishl X15.here hx rfl (hb' d36_31) rfl kt)
  obtain ⟨_, _, ⟨T17, L17, k17, n17⟩, -, X17, ⟨Lc17, hQ17, l17, y17, z17⟩, st17⟩ := Jvm.LawKit.callS X15 hx (y := y24') hown (mvT hZ (wq hw 186 rfl)) (mvT hZ (wq hw 187 rfl)) (mvT hZ (wq hw 133 rfl)) (mvT hZ (wq hw 188 rfl)) (by decide) (backOf (W := 1) (rm40 l Z a0 hw [] vb k 400 804 f h0 n0 O0 (by omega) (by omega) (by omega) A_vb hfb) hZ (wq hw 188 rfl) (wq hw 133 rfl) (by decide) (by decide)) (g := (mkF m 32 #[vr sb, vi 203, vi 200] [.int 804, .ref vb, .ref sb])) rfl (by rw [hml]; rfl) (argsL := [(.ref vb), (.int (804 : Int32))]) (rest := [(.ref sb)]) (lenOf pd_23 rfl) rfl (Nat.le_refl _) (hb' d36_32) (fun _ _ => ⟨rfl, e15, (by decide : 0 + 1 ≤ _), (by decide : 0 + 804 ≤ _)⟩)
  dsimp only [Pt.U, Pt.locs, Pt.cells, Pt.slots] at X17 l17 y17 z17 st17 hQ17
  subst l17 y17 z17
  obtain ⟨r17x, kq17, f17, rfl, Nq17, Kq17, szq17, Aq17, hcp17, hfb17⟩ := hQ17
  have N17 := Fr.app N13 Nq17
  have ne_sb_r17x : sb ≠ r17x := Nat.ne_of_lt (Nat.lt_of_lt_of_le E_sb.lt szq17)
  have ne_vb_r17x : vb ≠ r17x := Nat.ne_of_lt (Nat.lt_of_lt_of_le A_vb.lt szq17)
  have sz_r17x : h0.size ≤ r17x := Nat.le_trans (Keep.refl h0 [sb]).1 szq17
  have g_r17x : n0 ≤ r17x := Nat.le_trans (O0.1 ▸ O0.2.1) sz_r17x
  have K17 := Kq17
  have E_sb_e17 := E_sb.keep K17
  have Fsbv_e17 := Fsbv.keep K17 nin0
  have Fsbc_e17 := Fsbc.keep K17 nin0
  have Fsbn_e17 := Fsbn.keep K17 nin0
  have Fsbm_e17 := Fsbm.keep K17 nin0
  have A_vb_e17 := A_vb.keep K17 nin0
  have O17 := O0.keep K17 all0
  have KK17 : Keep h0 T17.heap [sb] := (Keep.refl h0 [sb]).trans K17 all0
  have cn18 := fun (t : State) (kt : SF p e below T17 (mkF m 35 #[vr sb, vi 203, vi 200] [.ref r17x, .ref sb]) t) => cn16 t (by
    exact st17 _ kt)
  obtain ⟨T19, h19, X19, e19, W19, st19⟩ := putF X17 hx hZ hown (host := "") (Or.inl (wq hw 86 rfl)) Via.refl rfl Fsbv_e17 E_sb_e17 (Or.inl (wq hw 87 rfl)) (wq hw 73 rfl) (ty := (.array .byte)) (by decide) rfl rfl (g := (mkF m 35 #[vr sb, vi 203, vi 200] [.ref r17x, .ref sb])) rfl rfl (hb' d36_35)
  have E_sb_e19 := E_sb_e17.wr W19
  have Fsbc_e19 := Fsbc_e17.other W19 (Or.inr (slot_ne (Or.inl (wq hw 89 rfl)) (Or.inl (wq hw 87 rfl)) (by decide) (t := .byte) (t' := (.array .byte)) (by decide) (by decide)))
  have Fsbn_e19 := Fsbn_e17.other W19 (Or.inr (slot_ne (Or.inl (wq hw 166 rfl)) (Or.inl (wq hw 87 rfl)) (by decide) (t := .int) (t' := (.array .byte)) (by decide) (by decide)))
  have Fsbm_e19 := Fsbm_e17.other W19 (Or.inr (slot_ne (Or.inl (wq hw 253 rfl)) (Or.inl (wq hw 87 rfl)) (by decide) (t := .boolean) (t' := (.array .byte)) (by decide) (by decide)))
  have A_vb_e19 := A_vb_e17.other W19 (Ne.symm (own_neA E_sb_e17 A_vb_e17 (wq hw 73 rfl)))
  have Aq17_e19 := Aq17.other W19 (Ne.symm ne_sb_r17x)
  have N19 := Fr.snoc X19 N17 g_sb
  have O19 := O17.wr W19 g_sb
  have K19 : Keep h0 h19 [sb] := KK17.wr W19 (Or.inl (List.mem_of_getElem? (i := 0) rfl))
  have Fvalue_19 := Fsbv_e17.same W19
  have cn20 := fun (t : State) (kt : SF p e below T19 (mkF m 38 #[vr sb, vi 203, vi 200] []) t) => cn18 t (by
    exact st19 _ kt)
  obtain ⟨frs, hr, hrun, hended, hW, hsame⟩ := X19.leave (v := none) (fun _ => rfl)
  refine ⟨_, _, cn20 _ ?_, hrun, hended, _, _, rfl, ?_, ⟨_, rfl⟩, hW, hsame.mono (by decide) (by decide)⟩
  · exact X19.returnOut hx Bd.returns (hb' d36_38) hr
  · show QSB Z sb 1 200 804 (fun f' => ∀ j, j < 400 → f' j = f j) none h0 n0 _ T19.heap _
    rw [e19]
    exact ⟨r17x, _, _, rfl, N19, K19, sz_r17x, ⟨E_sb_e19, Fvalue_19, Fsbc_e19, Fsbn_e19, Fsbm_e19⟩, Aq17_e19, hfb17, hcp17⟩

theorem d44_0 : DC c36' 0 (.getstatic 18) 3 := by decide +kernel
theorem d44_3 : DC c36' 3 (.ifCond .eq 14) 3 := by decide +kernel
theorem d44_6 : DC c36' 6 (.aload_n 0) 1 := by decide +kernel
theorem d44_7 : DC c36' 7 (.getfield 22) 3 := by decide +kernel
theorem d44_10 : DC c36' 10 (.ifCond .ne 7) 3 := by decide +kernel
theorem d44_13 : DC c36' 13 (.iconst 1) 1 := by decide +kernel
theorem d44_14 : DC c36' 14 (.goto 4) 3 := by decide +kernel
theorem d44_18 : DC c36' 18 (.ireturn) 1 := by decide +kernel
theorem ef_44_0 (m : MethodId) (x0 : Addr) : entryFrame m #[(.ref x0)] 1 = mkF m 0 #[.val (.ref x0)] [] := by first | (simp [entryFrame, mkF, argsToLocals, Value.category]; done) | rfl
theorem rm44_0 (l : Launch) (Z : State) (a0 : Array Value) (hw : HW a0 Z) (ws : List Jvm.Cond) (sb : Addr) (co : Int32) (vf : Value) (h0 : Heap) (n0 : Nat) (O0 : Old Z n0 h0) (Fc : Fld Z h0 sb "java/lang/AbstractStringBuilder" "coder" "B" (.int (0 : Int32))) (SWh : SW Z co vf) :
    MT l y36' c36' 1 (some .boolean) ws ({ frames := 0, cells := 0, slots := 0, locals := 0 } : Room) #[(.ref sb)] Z h0 (QI 1 h0 n0) := by
  refine MetFree.of_bodySF (plainFor_of_name pn_java_lang_AbstractStringBuilder) hisR ?_
  intro p e s m args below meth kode s₁ Bd hml0 hP hK
  obtain ⟨rfl, hZ, hh⟩ := hP
  have hx := Bd.exec
  have hby := Bd.bytes
  have hb' := @hb _ _ hby
  have hml : kode.maxLocals = 1 := hml0
  have hown : s.vm.findClass "java/lang/AbstractStringBuilder" = some m.cls := findClass_of_methodNamed Bd.named
  have X0 : Stand p l e ({ frames := 0, cells := 0, slots := 0, locals := 0 } : Room) s m #[(.ref sb)] below meth kode s₁ [] 0 0 := Stand.of_body Bd
  have e0 : s₁.heap = h0 := by rw [← hh, Bd.state]; rfl
  have N0 := Fr.nil n0
  have pre0 : ∀ t, SF p e below s₁ (mkF m 0 #[vr sb] []) t → SF p e below s₁ (entryFrame m #[(.ref sb)] 1) t := fun t k => castTop (ef_44_0 m sb) k
  have SWx := SWh
  obtain ⟨S_CS, hcs, S_AD, S_HI, S_LO, S_SI, hcat_vf⟩ := SWx
  obtain ⟨T1, X1, e1, st1⟩ := getS2 X0 hx hZ hown (host := "") (Or.inl (wq hw 85 rfl)) Via.refl e0 (S_CS.ext O0.2) (g := (mkF m 0 #[vr sb] [])) rfl (hb' d44_0)
  have cn2 := fun (t : State) (kt : SF p e below T1 (mkF m 3 #[vr sb] [.int co]) t) => pre0 t (by
    exact st1 _ kt)
  have cn3 := fun (t : State) (kt : SF p e below T1 (mkF m 7 #[vr sb] [.ref sb]) t) => cn2 t (by
    refine XS.ifNo X1.here hx rfl (hb' d44_3) rfl ((if0 _ _).trans (feq hcs).1) ?_
    exact XS.aloadN X1.here hx rfl (hb' d44_6) rfl rfl kt)
  obtain ⟨T4, X4, e4, st4⟩ := getF X1 hx hZ hown (host := "") (Or.inl (wq hw 88 rfl)) Via.refl e1 Fc (g := (mkF m 7 #[vr sb] [.ref sb])) rfl rfl (hb' d44_7)
  have cn5 := fun (t : State) (kt : SF p e below T4 (mkF m 10 #[vr sb] [.int 0]) t) => cn3 t (by
    exact st4 _ kt)
  have cn6 := fun (t : State) (kt : SF p e below T4 (mkF m 18 #[vr sb] [.int 1]) t) => cn5 t (by
    refine XS.ifNo X4.here hx rfl (hb' d44_10) rfl ((if0 _ _).trans (teq (by decide : (0 : Int32) = (0 : Int32))).2) ?_
    refine XS.iconst X4.here hx rfl (hb' d44_13) ?_
    exact XS.goto X4.here hx rfl (pc0 := 14) (pc' := 18) rfl (hb' d44_14) (by decide) (by decide) kt)
  obtain ⟨frs, hr, hrun, hended, hW, hsame⟩ := X4.leave (v := some (.int (1 : Int32))) (fun h => by rw [Bd.returns] at h; cases h)
  refine ⟨_, _, cn6 _ ?_, hrun, hended, _, _, rfl, ?_, ⟨_, rfl⟩, hW, hsame.mono (by decide) (by decide)⟩
  · exact retN X4 hx (t := .boolean) Bd.returns (by simp) (hb' d44_18) hr
  · show QI 1 h0 n0 _ T4.heap _
    rw [e4]
    exact ⟨rfl, N0, rfl⟩

theorem d44_17 : DC c36' 17 (.iconst 0) 1 := by decide +kernel
theorem ef_44_1 (m : MethodId) (x0 : Addr) : entryFrame m #[(.ref x0)] 1 = mkF m 0 #[.val (.ref x0)] [] := by first | (simp [entryFrame, mkF, argsToLocals, Value.category]; done) | rfl
theorem rm44_1 (l : Launch) (Z : State) (a0 : Array Value) (hw : HW a0 Z) (ws : List Jvm.Cond) (sb : Addr) (co : Int32) (vf : Value) (h0 : Heap) (n0 : Nat) (O0 : Old Z n0 h0) (Fc : Fld Z h0 sb "java/lang/AbstractStringBuilder" "coder" "B" (.int (1 : Int32))) (SWh : SW Z co vf) :
    MT l y36' c36' 1 (some .boolean) ws ({ frames := 0, cells := 0, slots := 0, locals := 0 } : Room) #[(.ref sb)] Z h0 (QI 0 h0 n0) := by
  refine MetFree.of_bodySF (plainFor_of_name pn_java_lang_AbstractStringBuilder) hisR ?_
  intro p e s m args below meth kode s₁ Bd hml0 hP hK
  obtain ⟨rfl, hZ, hh⟩ := hP
  have hx := Bd.exec
  have hby := Bd.bytes
  have hb' := @hb _ _ hby
  have hml : kode.maxLocals = 1 := hml0
  have hown : s.vm.findClass "java/lang/AbstractStringBuilder" = some m.cls := findClass_of_methodNamed Bd.named
  have X0 : Stand p l e ({ frames := 0, cells := 0, slots := 0, locals := 0 } : Room) s m #[(.ref sb)] below meth kode s₁ [] 0 0 := Stand.of_body Bd
  have e0 : s₁.heap = h0 := by rw [← hh, Bd.state]; rfl
  have N0 := Fr.nil n0
  have pre0 : ∀ t, SF p e below s₁ (mkF m 0 #[vr sb] []) t → SF p e below s₁ (entryFrame m #[(.ref sb)] 1) t := fun t k => castTop (ef_44_1 m sb) k
  have SWx := SWh
  obtain ⟨S_CS, hcs, S_AD, S_HI, S_LO, S_SI, hcat_vf⟩ := SWx
  obtain ⟨T1, X1, e1, st1⟩ := getS2 X0 hx hZ hown (host := "") (Or.inl (wq hw 85 rfl)) Via.refl e0 (S_CS.ext O0.2) (g := (mkF m 0 #[vr sb] [])) rfl (hb' d44_0)
  have cn2 := fun (t : State) (kt : SF p e below T1 (mkF m 3 #[vr sb] [.int co]) t) => pre0 t (by
    exact st1 _ kt)
  have cn3 := fun (t : State) (kt : SF p e below T1 (mkF m 7 #[vr sb] [.ref sb]) t) => cn2 t (by
    refine XS.ifNo X1.here hx rfl (hb' d44_3) rfl ((if0 _ _).trans (feq hcs).1) ?_
    exact XS.aloadN X1.here hx rfl (hb' d44_6) rfl rfl kt)
  obtain ⟨T4, X4, e4, st4⟩ := getF X1 hx hZ hown (host := "") (Or.inl (wq hw 88 rfl)) Via.refl e1 Fc (g := (mkF m 7 #[vr sb] [.ref sb])) rfl rfl (hb' d44_7)
  have cn5 := fun (t : State) (kt : SF p e below T4 (mkF m 10 #[vr sb] [.int 1]) t) => cn3 t (by
    exact st4 _ kt)
  have cn6 := fun (t : State) (kt : SF p e below T4 (mkF m 18 #[vr sb] [.int 0]) t) => cn5 t (by
    refine XS.ifYes X4.here hx rfl (pc0 := 10) (pc' := 17) rfl (hb' d44_10) rfl ((if0 _ _).trans (feq (by decide : ¬ ((1 : Int32) = (0 : Int32)))).2) (by decide) (by decide) ?_
    exact XS.iconst X4.here hx rfl (hb' d44_17) kt)
  obtain ⟨frs, hr, hrun, hended, hW, hsame⟩ := X4.leave (v := some (.int (0 : Int32))) (fun h => by rw [Bd.returns] at h; cases h)
  refine ⟨_, _, cn6 _ ?_, hrun, hended, _, _, rfl, ?_, ⟨_, rfl⟩, hW, hsame.mono (by decide) (by decide)⟩
  · exact retN X4 hx (t := .boolean) Bd.returns (by simp) (hb' d44_18) hr
  · show QI 0 h0 n0 _ T4.heap _
    rw [e4]
    exact ⟨rfl, N0, rfl⟩

theorem d46_0 : DC c37' 0 (.iload_n 3) 1 := by decide +kernel
theorem d46_1 : DC c37' 1 (.iload 4) 2 := by decide +kernel
theorem d46_3 : DC c37' 3 (.aload_n 2) 1 := by decide +kernel
theorem d46_4 : DC c37' 4 (.invokestatic 173) 3 := by decide +kernel
theorem d46_7 : DC c37' 7 (.iconst 0) 1 := by decide +kernel
theorem d46_8 : DC c37' 8 (.istore 5) 2 := by decide +kernel
theorem d46_10 : DC c37' 10 (.iload 5) 2 := by decide +kernel
theorem d46_12 : DC c37' 12 (.iload 4) 2 := by decide +kernel
theorem d46_14 : DC c37' 14 (.if_icmp .ge 27) 3 := by decide +kernel
theorem d46_17 : DC c37' 17 (.aload_n 2) 1 := by decide +kernel
theorem d46_18 : DC c37' 18 (.iload_n 3) 1 := by decide +kernel
theorem d46_19 : DC c37' 19 (.iinc 3 1) 3 := by decide +kernel
theorem d46_22 : DC c37' 22 (.aload_n 0) 1 := by decide +kernel
theorem d46_23 : DC c37' 23 (.iload_n 1) 1 := by decide +kernel
theorem d46_24 : DC c37' 24 (.iinc 1 1) 3 := by decide +kernel
theorem d46_27 : DC c37' 27 (.baload) 1 := by decide +kernel
theorem d46_28 : DC c37' 28 (.sipush 255) 3 := by decide +kernel
theorem d46_31 : DC c37' 31 (.iand) 1 := by decide +kernel
theorem d46_32 : DC c37' 32 (.invokestatic 111) 3 := by decide +kernel
theorem d46_35 : DC c37' 35 (.iinc 5 1) 3 := by decide +kernel
theorem d46_38 : DC c37' 38 (.goto (-28)) 3 := by decide +kernel
theorem d46_41 : DC c37' 41 (.return_) 1 := by decide +kernel
theorem ef_46 (m : MethodId) (x0 : Addr) (x1 : Int32) (x2 : Addr) (x3 : Int32) (x4 : Int32) : entryFrame m #[(.ref x0), (.int x1), (.ref x2), (.int x3), (.int x4)] 6 = mkF m 0 #[.val (.ref x0), .val (.int x1), .val (.ref x2), .val (.int x3), .val (.int x4), .unset] [] := by first | (simp [entryFrame, mkF, argsToLocals, Value.category]; done) | rfl
theorem rm46 (l : Launch) (Z : State) (a0 : Array Value) (hw : HW a0 Z) (ws : List Jvm.Cond) (sa da : Addr) (k kd : ClassId) (n mq o c : Nat) (xs : List Int32) (f g : Nat → Value) (co : Int32) (vf : Value) (h0 : Heap) (n0 : Nat) (O0 : Old Z n0 h0) (g_da : n0 ≤ da) (nesd : sa ≠ da) (hoc : o + c ≤ mq) (hm : mq ≤ 402) (hcn : c ≤ n) (hn : n ≤ 804) (hxs : ∀ j, j < c → f j = .int (xs.getD j 0).toInt8.toInt32 ∧ 0 ≤ (xs.getD j 0).toInt ∧ (xs.getD j 0).toInt ≤ 255) (A_sa : AF Z h0 sa k .byte n f) (A_da : AF Z h0 da kd .byte (2 * mq) g) (hfb : own_fb (2 * mq) g) (SWh : SW Z co vf) :
    MT l y37' c37' 6 none ws ({ frames := 3, cells := 0, slots := 0, locals := 43 } : Room) #[(.ref sa), (.int (0 : Int32)), (.ref da), (.int (Nat.toInt32 o)), (.int (Nat.toInt32 c))] Z h0 (QDA Z da kd (2 * mq) (fun f' => (∀ j, j < c → f' (2 * (o + j)) = .int (own_b0 (xs.getD j 0)) ∧ f' (2 * (o + j) + 1) = .int (own_b1 (xs.getD j 0))) ∧ ∀ q, q < 2 * o → f' q = g q) h0 n0) := by
  refine MetFree.of_bodySF (plainFor_of_name pn_java_lang_StringUTF16) hisR ?_
  intro p e s m args below meth kode s₁ Bd hml0 hP hK
  obtain ⟨rfl, hZ, hh⟩ := hP
  have hx := Bd.exec
  have hby := Bd.bytes
  have hb' := @hb _ _ hby
  have hml : kode.maxLocals = 6 := hml0
  have hown : s.vm.findClass "java/lang/StringUTF16" = some m.cls := findClass_of_methodNamed Bd.named
  have X0 : Stand p l e ({ frames := 3, cells := 0, slots := 0, locals := 43 } : Room) s m #[(.ref sa), (.int (0 : Int32)), (.ref da), (.int (Nat.toInt32 o)), (.int (Nat.toInt32 c))] below meth kode s₁ [] 0 0 := Stand.of_body Bd
  have e0 : s₁.heap = h0 := by rw [← hh, Bd.state]; rfl
  have N0 := Fr.nil n0
  have pre0 : ∀ t, SF p e below s₁ (mkF m 0 #[vr sa, vi 0, vr da, vi (Nat.toInt32 o), vi (Nat.toInt32 c), .unset] []) t → SF p e below s₁ (entryFrame m #[(.ref sa), (.int (0 : Int32)), (.ref da), (.int (Nat.toInt32 o)), (.int (Nat.toInt32 c))] 6) t := fun t k => castTop (ef_46 m sa (0 : Int32) da (Nat.toInt32 o) (Nat.toInt32 c)) k
  have SWx := SWh
  obtain ⟨S_CS, hcs, S_AD, S_HI, S_LO, S_SI, hcat_vf⟩ := SWx
  have cn1 := fun (t : State) (kt : SF p e below s₁ (mkF m 4 #[vr sa, vi 0, vr da, vi (Nat.toInt32 o), vi (Nat.toInt32 c), .unset] [.ref da, .int (Nat.toInt32 c), .int (Nat.toInt32 o)]) t) => pre0 t (by
    refine XS.iloadN X0.here hx rfl (hb' d46_0) rfl ?_
    refine XS.iload X0.here hx rfl (hb' d46_1) rfl ?_
    exact XS.aloadN X0.here hx rfl (hb' d46_3) rfl rfl kt)
  obtain ⟨_, _, ⟨T2, L2, k2, n2⟩, -, X2, ⟨Lc2, hQ2, l2, y2, z2⟩, st2⟩ := Jvm.LawKit.callS X0 hx (y := y18') hown (mvT hZ (wq hw 119 rfl)) (mvT hZ (wq hw 120 rfl)) (mvT hZ (wq hw 45 rfl)) (mvT hZ (wq hw 121 rfl)) (by decide) (backOf (W := 0) (rm25 l Z a0 hw [] da kd o c mq g co vf h0 n0 O0 (by omega) (by omega) A_da SWh) hZ (wq hw 121 rfl) (wq hw 45 rfl) (by decide) (by decide)) (g := (mkF m 4 #[vr sa, vi 0, vr da, vi (Nat.toInt32 o), vi (Nat.toInt32 c), .unset] [.ref da, .int (Nat.toInt32 c), .int (Nat.toInt32 o)])) rfl (by rw [hml]; rfl) (argsL := [(.int (Nat.toInt32 o)), (.int (Nat.toInt32 c)), (.ref da)]) (rest := []) (lenOf pd_16 rfl) rfl (Nat.le_refl _) (hb' d46_4) (fun _ _ => ⟨rfl, e0, (by decide : 0 + 0 ≤ _), (by decide : 0 + 0 ≤ _)⟩)
  dsimp only [Pt.U, Pt.locs, Pt.cells, Pt.slots] at X2 l2 y2 z2 st2 hQ2
  subst l2 y2 z2
  obtain ⟨rfl, Nq2, eh2⟩ := hQ2
  have N2 := Fr.app N0 Nq2
  have cn3 := fun (t : State) (kt : SF p e below T2 (mkF m 10 #[vr sa, vi 0, vr da, vi (Nat.toInt32 o), vi (Nat.toInt32 c), vi 0] []) t) => cn1 t (by
    refine st2 _ ?_
    refine XS.iconst X2.here hx rfl (hb' d46_7) ?_
    exact XS.istore X2.here hx rfl (hb' d46_8) rfl (l' := #[vr sa, vi 0, vr da, vi (Nat.toInt32 o), vi (Nat.toInt32 c), vi 0]) rfl kt)
  refine own_loop (A := fun kk => ∃ (TJ : State) (hJ : Heap) (lJ : List Loc) (i : Nat) (fr : Nat → Value), Stand p l e ({ frames := 3, cells := 0, slots := 0, locals := 43 } : Room) s m #[(.ref sa), (.int (0 : Int32)), (.ref da), (.int (Nat.toInt32 o)), (.int (Nat.toInt32 c))] below meth kode TJ lJ 0 0 ∧ TJ.heap = hJ ∧ Fr n0 lJ ∧ Old Z n0 hJ ∧ Keep h0 hJ [da] ∧ (i + kk = c) ∧ (AF Z hJ sa k .byte n f) ∧ (AF Z hJ da kd .byte (2 * mq) fr) ∧ ((∀ j, j < i → fr (2 * (o + j)) = .int (own_b0 (xs.getD j 0)) ∧ fr (2 * (o + j) + 1) = .int (own_b1 (xs.getD j 0))) ∧ ∀ q, q < 2 * o → fr q = g q) ∧ (own_fb (2 * mq) fr) ∧ ∀ t, SF p e below TJ (mkF m 10 #[vr sa, vi (Nat.toInt32 i), vr da, vi (Nat.toInt32 (o + i)), vi (Nat.toInt32 c), vi (Nat.toInt32 i)] []) t → SF p e below s₁ (entryFrame m #[(.ref sa), (.int (0 : Int32)), (.ref da), (.int (Nat.toInt32 o)), (.int (Nat.toInt32 c))] 6) t) ?_ ?_ (c) ?_
  · intro kk4 IH4
    rintro ⟨TJ5, hJ5, lJ5, i, fr, XJ5, eJ5, NJ5, OJ5, KJ5, hik, As, Ad, hfr, hfi, kJ_5⟩
    have hil : i < c := by omega
    have cn6 := fun (t : State) (kt : SF p e below TJ5 (mkF m 14 #[vr sa, vi (Nat.toInt32 i), vr da, vi (Nat.toInt32 (o + i)), vi (Nat.toInt32 c), vi (Nat.toInt32 i)] [.int (Nat.toInt32 c), .int (Nat.toInt32 i)]) t) => kJ_5 t (by
      refine XS.iload XJ5.here hx rfl (hb' d46_10) rfl ?_
      exact XS.iload XJ5.here hx rfl (hb' d46_12) rfl kt)
    have cn7 := fun (t : State) (kt : SF p e below TJ5 (mkF m 27 #[vr sa, vi ((Nat.toInt32 i) + (1 : Int32)), vr da, vi ((Nat.toInt32 (o + i)) + (1 : Int32)), vi (Nat.toInt32 c), vi (Nat.toInt32 i)] [.int (Nat.toInt32 i), .ref sa, .int (Nat.toInt32 (o + i)), .ref da]) t) => cn6 t (by
      refine XS.icmpNo XJ5.here hx rfl (hb' d46_14) rfl (tlt ((own_lt (by omega) (by omega)).mpr hil)).2.1 ?_
      refine XS.aloadN XJ5.here hx rfl (hb' d46_17) rfl rfl ?_
      refine XS.iloadN XJ5.here hx rfl (hb' d46_18) rfl ?_
      refine XS.iinc XJ5.here hx rfl (hb' d46_19) rfl (l' := #[vr sa, vi (Nat.toInt32 i), vr da, vi ((Nat.toInt32 (o + i)) + (1 : Int32)), vi (Nat.toInt32 c), vi (Nat.toInt32 i)]) rfl ?_
      refine XS.aloadN XJ5.here hx rfl (hb' d46_22) rfl rfl ?_
      refine XS.iloadN XJ5.here hx rfl (hb' d46_23) rfl ?_
      exact XS.iinc XJ5.here hx rfl (hb' d46_24) rfl (l' := #[vr sa, vi ((Nat.toInt32 i) + (1 : Int32)), vr da, vi ((Nat.toInt32 (o + i)) + (1 : Int32)), vi (Nat.toInt32 c), vi (Nat.toInt32 i)]) rfl kt)
    have AFx8 := As
    obtain ⟨cl8, Ar8, q8, S8, H8⟩ := AFx8
    have hin8 : ¬ ((Nat.toInt32 i) < 0 ∨ cl8.slots.size ≤ ((Nat.toInt32 i)).toNatClampNeg) := AF.inb S8 (own_ix (by omega)) (by omega)
    have hat8 : cl8.slots[((Nat.toInt32 i)).toNatClampNeg]? = some (.int ((xs.getD i 0).toInt8.toInt32)) := AF.at H8 (own_ix (by omega)) (by omega) (hxs i hil).1
    have cn9 := fun (t : State) (kt : SF p e below TJ5 (mkF m 32 #[vr sa, vi ((Nat.toInt32 i) + (1 : Int32)), vr da, vi ((Nat.toInt32 (o + i)) + (1 : Int32)), vi (Nat.toInt32 c), vi (Nat.toInt32 i)] [.int (((xs.getD i 0).toInt8.toInt32) &&& (255 : Int32)), .int (Nat.toInt32 (o + i)), .ref da]) t) => cn7 t (by
      refine XJ5.baloadBytes hx (j := (Nat.toInt32 i)) (v := (.int ((xs.getD i 0).toInt8.toInt32))) (by rw [eJ5]; exact Ar8.1) (State.isArrayOf_alike hZ.alike Ar8.2.1) Ar8.2.2 hin8 hat8 (g := (mkF m 27 #[vr sa, vi ((Nat.toInt32 i) + (1 : Int32)), vr da, vi ((Nat.toInt32 (o + i)) + (1 : Int32)), vi (Nat.toInt32 c), vi (Nat.toInt32 i)] [.int (Nat.toInt32 i), .ref sa, .int (Nat.toInt32 (o + i)), .ref da])) rfl rfl (hb' d46_27) _ ?_
      refine XS.sipush XJ5.here hx rfl (hb' d46_28) ?_
      exact XS.iand XJ5.here hx rfl (hb' d46_31) rfl kt)
    have cn10 : ∀ t, SF p e below TJ5 (mkF m 32 #[vr sa, vi ((Nat.toInt32 i) + (1 : Int32)), vr da, vi ((Nat.toInt32 (o + i)) + (1 : Int32)), vi (Nat.toInt32 c), vi (Nat.toInt32 i)] [.int (xs.getD i 0), .int (Nat.toInt32 (o + i)), .ref da]) t → SF p e below s₁ (entryFrame m #[(.ref sa), (.int (0 : Int32)), (.ref da), (.int (Nat.toInt32 o)), (.int (Nat.toInt32 c))] 6) t := by have q := cn9; rw [(id (own_a255 (hxs i hil).2.1 (hxs i hil).2.2) : (((xs.getD i 0).toInt8.toInt32) &&& (255 : Int32)) = (xs.getD i 0))] at q; exact q
    obtain ⟨_, _, ⟨T11, L11, k11, n11⟩, -, X11, ⟨Lc11, hQ11, l11, y11, z11⟩, st11⟩ := Jvm.LawKit.callS XJ5 hx (y := y2') hown (mvT hZ (wq hw 63 rfl)) (mvT hZ (wq hw 64 rfl)) (mvT hZ (wq hw 45 rfl)) (mvT hZ (wq hw 65 rfl)) (by decide) (backOf (W := 0) (rm14 l Z a0 hw [] da kd (2 * mq) (o + i) fr (xs.getD i 0) co vf hJ5 n0 OJ5 g_da (by omega) (by omega) Ad SWh) hZ (wq hw 65 rfl) (wq hw 45 rfl) (by decide) (by decide)) (g := (mkF m 32 #[vr sa, vi ((Nat.toInt32 i) + (1 : Int32)), vr da, vi ((Nat.toInt32 (o + i)) + (1 : Int32)), vi (Nat.toInt32 c), vi (Nat.toInt32 i)] [.int (xs.getD i 0), .int (Nat.toInt32 (o + i)), .ref da])) rfl (by rw [hml]; rfl) (argsL := [(.ref da), (.int (Nat.toInt32 (o + i))), (.int (xs.getD i 0))]) (rest := []) (lenOf pd_2 rfl) rfl (Nat.le_refl _) (hb' d46_32) (fun _ _ => ⟨rfl, eJ5, (by decide : 0 + 0 ≤ _), (by decide : 0 + 0 ≤ _)⟩)
    dsimp only [Pt.U, Pt.locs, Pt.cells, Pt.slots] at X11 l11 y11 z11 st11 hQ11
    subst l11 y11 z11
    obtain ⟨rfl, Nq11, Kq11, Aq11⟩ := hQ11
    have N11 := Fr.app NJ5 Nq11
    have K11 := Kq11
    have As_e11 := As.keep K11 (ninS nesd nin0)
    have O11 := OJ5.keep K11 (allS g_da all0)
    have KK11 : Keep h0 T11.heap [da] := KJ5.trans K11 (allS (Or.inl (List.mem_of_getElem? (i := 0) rfl)) all0)
    have cn12 := fun (t : State) (kt : SF p e below T11 (mkF m 38 #[vr sa, vi ((Nat.toInt32 i) + (1 : Int32)), vr da, vi ((Nat.toInt32 (o + i)) + (1 : Int32)), vi (Nat.toInt32 c), vi ((Nat.toInt32 i) + (1 : Int32))] []) t) => cn10 t (by
      refine st11 _ ?_
      exact XS.iinc X11.here hx rfl (hb' d46_35) rfl (l' := #[vr sa, vi ((Nat.toInt32 i) + (1 : Int32)), vr da, vi ((Nat.toInt32 (o + i)) + (1 : Int32)), vi (Nat.toInt32 c), vi ((Nat.toInt32 i) + (1 : Int32))]) rfl kt)
    have cn13 : ∀ t, SF p e below T11 (mkF m 38 #[vr sa, vi (Nat.toInt32 (i + 1)), vr da, vi ((Nat.toInt32 (o + i)) + (1 : Int32)), vi (Nat.toInt32 c), vi (Nat.toInt32 (i + 1))] []) t → SF p e below s₁ (entryFrame m #[(.ref sa), (.int (0 : Int32)), (.ref da), (.int (Nat.toInt32 o)), (.int (Nat.toInt32 c))] 6) t := by have q := cn12; rw [(id (own_inc (by omega)) : ((Nat.toInt32 i) + (1 : Int32)) = (Nat.toInt32 (i + 1)))] at q; exact q
    have cn14 : ∀ t, SF p e below T11 (mkF m 38 #[vr sa, vi (Nat.toInt32 (i + 1)), vr da, vi (Nat.toInt32 (o + (i + 1))), vi (Nat.toInt32 c), vi (Nat.toInt32 (i + 1))] []) t → SF p e below s₁ (entryFrame m #[(.ref sa), (.int (0 : Int32)), (.ref da), (.int (Nat.toInt32 o)), (.int (Nat.toInt32 c))] 6) t := by have q := cn13; rw [(id (own_inc (by omega)) : ((Nat.toInt32 (o + i)) + (1 : Int32)) = (Nat.toInt32 (o + (i + 1))))] at q; exact q
    have cn15 := fun (t : State) (kt : SF p e below T11 (mkF m 10 #[vr sa, vi (Nat.toInt32 (i + 1)), vr da, vi (Nat.toInt32 (o + (i + 1))), vi (Nat.toInt32 c), vi (Nat.toInt32 (i + 1))] []) t) => cn14 t (by
      exact XS.goto X11.here hx rfl (pc0 := 38) (pc' := 10) rfl (hb' d46_38) (by decide) (by decide) kt)
    exact IH4 ⟨T11, T11.heap, _, i + 1, (own_upd (own_upd fr (2 * (o + i)) (.int (own_b0 (xs.getD i 0)))) (2 * (o + i) + 1) (.int (own_b1 (xs.getD i 0)))), own_up X11 (by decide) (by decide), rfl, N11, O11, KK11, (by omega), As_e11, Aq11, own_Istep hfr, own_fb_up (own_fb_up hfi), cn15⟩
  · rintro ⟨TJ16, hJ16, lJ16, i, fr, XJ16, eJ16, NJ16, OJ16, KJ16, hik, As, Ad, hfr, hfi, kJ_16⟩
    obtain rfl : c = i := by omega
    have cn17 := fun (t : State) (kt : SF p e below TJ16 (mkF m 14 #[vr sa, vi (Nat.toInt32 c), vr da, vi (Nat.toInt32 (o + c)), vi (Nat.toInt32 c), vi (Nat.toInt32 c)] [.int (Nat.toInt32 c), .int (Nat.toInt32 c)]) t) => kJ_16 t (by
      refine XS.iload XJ16.here hx rfl (hb' d46_10) rfl ?_
      exact XS.iload XJ16.here hx rfl (hb' d46_12) rfl kt)
    have cn18 := fun (t : State) (kt : SF p e below TJ16 (mkF m 41 #[vr sa, vi (Nat.toInt32 c), vr da, vi (Nat.toInt32 (o + c)), vi (Nat.toInt32 c), vi (Nat.toInt32 c)] []) t) => cn17 t (by
      exact XS.icmpYes XJ16.here hx rfl (pc0 := 14) (pc' := 41) rfl (hb' d46_14) rfl (flt (fun q => Nat.lt_irrefl _ ((own_lt (by omega) (by omega)).mp q))).2.1 (by decide) (by decide) kt)
    obtain ⟨frs, hr, hrun, hended, hW, hsame⟩ := XJ16.leave (v := none) (fun _ => rfl)
    refine ⟨_, _, cn18 _ ?_, hrun, hended, _, _, rfl, ?_, ⟨_, rfl⟩, hW, hsame.mono (by decide) (by decide)⟩
    · exact XJ16.returnOut hx Bd.returns (hb' d46_41) hr
    · show QDA Z da kd (2 * mq) (fun f' => (∀ j, j < c → f' (2 * (o + j)) = .int (own_b0 (xs.getD j 0)) ∧ f' (2 * (o + j) + 1) = .int (own_b1 (xs.getD j 0))) ∧ ∀ q, q < 2 * o → f' q = g q) h0 n0 _ TJ16.heap _
      rw [eJ16]
      exact ⟨fr, rfl, NJ16, KJ16, Ad, hfi, hfr⟩
  · exact ⟨T2, h0, _, 0, g, own_up X2 (by decide) (by decide), eh2, N2, O0, (Keep.refl h0 [da]), (Nat.zero_add _), A_sa, A_da, ⟨fun j hj => absurd hj (Nat.not_lt_zero j), fun q _ => rfl⟩, hfb, cn3⟩

theorem d45_0 : DC c38' 0 (.aload_n 0) 1 := by decide +kernel
theorem d45_1 : DC c38' 1 (.iload_n 1) 1 := by decide +kernel
theorem d45_2 : DC c38' 2 (.aload_n 2) 1 := by decide +kernel
theorem d45_3 : DC c38' 3 (.iload_n 3) 1 := by decide +kernel
theorem d45_4 : DC c38' 4 (.iload 4) 2 := by decide +kernel
theorem d45_6 : DC c38' 6 (.invokestatic 240) 3 := by decide +kernel
theorem d45_9 : DC c38' 9 (.return_) 1 := by decide +kernel
theorem pd_24 : parseMethodDescriptor "([BI[BII)V" = some ⟨[(.array .byte), .int, (.array .byte), .int, .int], none⟩ := by decide +kernel
theorem ef_45 (m : MethodId) (x0 : Addr) (x1 : Int32) (x2 : Addr) (x3 : Int32) (x4 : Int32) : entryFrame m #[(.ref x0), (.int x1), (.ref x2), (.int x3), (.int x4)] 5 = mkF m 0 #[.val (.ref x0), .val (.int x1), .val (.ref x2), .val (.int x3), .val (.int x4)] [] := by first | (simp [entryFrame, mkF, argsToLocals, Value.category]; done) | rfl
theorem rm45 (l : Launch) (Z : State) (a0 : Array Value) (hw : HW a0 Z) (ws : List Jvm.Cond) (sa da : Addr) (k kd : ClassId) (n mq o c : Nat) (xs : List Int32) (f g : Nat → Value) (co : Int32) (vf : Value) (h0 : Heap) (n0 : Nat) (O0 : Old Z n0 h0) (g_da : n0 ≤ da) (nesd : sa ≠ da) (hoc : o + c ≤ mq) (hm : mq ≤ 402) (hcn : c ≤ n) (hn : n ≤ 804) (hxs : ∀ j, j < c → f j = .int (xs.getD j 0).toInt8.toInt32 ∧ 0 ≤ (xs.getD j 0).toInt ∧ (xs.getD j 0).toInt ≤ 255) (A_sa : AF Z h0 sa k .byte n f) (A_da : AF Z h0 da kd .byte (2 * mq) g) (hfb : own_fb (2 * mq) g) (SWh : SW Z co vf) :
    MT l y38' c38' 5 none ws ({ frames := 4, cells := 0, slots := 0, locals := 60 } : Room) #[(.ref sa), (.int (0 : Int32)), (.ref da), (.int (Nat.toInt32 o)), (.int (Nat.toInt32 c))] Z h0 (QDA Z da kd (2 * mq) (fun f' => (∀ j, j < c → f' (2 * (o + j)) = .int (own_b0 (xs.getD j 0)) ∧ f' (2 * (o + j) + 1) = .int (own_b1 (xs.getD j 0))) ∧ ∀ q, q < 2 * o → f' q = g q) h0 n0) := by
  refine MetFree.of_bodySF (plainFor_of_name pn_java_lang_StringLatin1) hisR ?_
  intro p e s m args below meth kode s₁ Bd hml0 hP hK
  obtain ⟨rfl, hZ, hh⟩ := hP
  have hx := Bd.exec
  have hby := Bd.bytes
  have hb' := @hb _ _ hby
  have hml : kode.maxLocals = 5 := hml0
  have hown : s.vm.findClass "java/lang/StringLatin1" = some m.cls := findClass_of_methodNamed Bd.named
  have X0 : Stand p l e ({ frames := 4, cells := 0, slots := 0, locals := 60 } : Room) s m #[(.ref sa), (.int (0 : Int32)), (.ref da), (.int (Nat.toInt32 o)), (.int (Nat.toInt32 c))] below meth kode s₁ [] 0 0 := Stand.of_body Bd
  have e0 : s₁.heap = h0 := by rw [← hh, Bd.state]; rfl
  have N0 := Fr.nil n0
  have pre0 : ∀ t, SF p e below s₁ (mkF m 0 #[vr sa, vi 0, vr da, vi (Nat.toInt32 o), vi (Nat.toInt32 c)] []) t → SF p e below s₁ (entryFrame m #[(.ref sa), (.int (0 : Int32)), (.ref da), (.int (Nat.toInt32 o)), (.int (Nat.toInt32 c))] 5) t := fun t k => castTop (ef_45 m sa (0 : Int32) da (Nat.toInt32 o) (Nat.toInt32 c)) k
  have SWx := SWh
  obtain ⟨S_CS, hcs, S_AD, S_HI, S_LO, S_SI, hcat_vf⟩ := SWx
  have cn1 := fun (t : State) (kt : SF p e below s₁ (mkF m 6 #[vr sa, vi 0, vr da, vi (Nat.toInt32 o), vi (Nat.toInt32 c)] [.int (Nat.toInt32 c), .int (Nat.toInt32 o), .ref da, .int 0, .ref sa]) t) => pre0 t (by
    refine XS.aloadN X0.here hx rfl (hb' d45_0) rfl rfl ?_
    refine XS.iloadN X0.here hx rfl (hb' d45_1) rfl ?_
    refine XS.aloadN X0.here hx rfl (hb' d45_2) rfl rfl ?_
    refine XS.iloadN X0.here hx rfl (hb' d45_3) rfl ?_
    exact XS.iload X0.here hx rfl (hb' d45_4) rfl kt)
  obtain ⟨_, _, ⟨T2, L2, k2, n2⟩, -, X2, ⟨Lc2, hQ2, l2, y2, z2⟩, st2⟩ := Jvm.LawKit.callS X0 hx (y := y37') hown (mvT hZ (wq hw 215 rfl)) (mvT hZ (wq hw 216 rfl)) (mvT hZ (wq hw 45 rfl)) (mvT hZ (wq hw 217 rfl)) (by decide) (backOf (W := 0) (rm46 l Z a0 hw [] sa da k kd n mq o c xs f g co vf h0 n0 O0 g_da nesd (by omega) (by omega) (by omega) (by omega) hxs A_sa A_da hfb SWh) hZ (wq hw 217 rfl) (wq hw 45 rfl) (by decide) (by decide)) (g := (mkF m 6 #[vr sa, vi 0, vr da, vi (Nat.toInt32 o), vi (Nat.toInt32 c)] [.int (Nat.toInt32 c), .int (Nat.toInt32 o), .ref da, .int 0, .ref sa])) rfl (by rw [hml]; rfl) (argsL := [(.ref sa), (.int (0 : Int32)), (.ref da), (.int (Nat.toInt32 o)), (.int (Nat.toInt32 c))]) (rest := []) (lenOf pd_24 rfl) rfl (Nat.le_refl _) (hb' d45_6) (fun _ _ => ⟨rfl, e0, (by decide : 0 + 0 ≤ _), (by decide : 0 + 0 ≤ _)⟩)
  dsimp only [Pt.U, Pt.locs, Pt.cells, Pt.slots] at X2 l2 y2 z2 st2 hQ2
  subst l2 y2 z2
  obtain ⟨f2, rfl, Nq2, Kq2, Aq2, hfb2, hI2⟩ := hQ2
  have N2 := Fr.app N0 Nq2
  have K2 := Kq2
  have A_sa_e2 := A_sa.keep K2 (ninS nesd nin0)
  have O2 := O0.keep K2 (allS g_da all0)
  have KK2 : Keep h0 T2.heap [da] := (Keep.refl h0 [da]).trans K2 (allS (Or.inl (List.mem_of_getElem? (i := 0) rfl)) all0)
  have cn3 := fun (t : State) (kt : SF p e below T2 (mkF m 9 #[vr sa, vi 0, vr da, vi (Nat.toInt32 o), vi (Nat.toInt32 c)] []) t) => cn1 t (by
    exact st2 _ kt)
  obtain ⟨frs, hr, hrun, hended, hW, hsame⟩ := X2.leave (v := none) (fun _ => rfl)
  refine ⟨_, _, cn3 _ ?_, hrun, hended, _, _, rfl, ?_, ⟨_, rfl⟩, hW, hsame.mono (by decide) (by decide)⟩
  · exact X2.returnOut hx Bd.returns (hb' d45_9) hr
  · show QDA Z da kd (2 * mq) (fun f' => (∀ j, j < c → f' (2 * (o + j)) = .int (own_b0 (xs.getD j 0)) ∧ f' (2 * (o + j) + 1) = .int (own_b1 (xs.getD j 0))) ∧ ∀ q, q < 2 * o → f' q = g q) h0 n0 _ T2.heap _
    exact ⟨_, rfl, N2, KK2, Aq2, hfb2, hI2⟩

theorem d43_0 : DC c39' 0 (.aload_n 0) 1 := by decide +kernel
theorem d43_1 : DC c39' 1 (.invokevirtual 83) 3 := by decide +kernel
theorem d43_4 : DC c39' 4 (.ifCond .ne 4) 3 := by decide +kernel
theorem d43_7 : DC c39' 7 (.return_) 1 := by decide +kernel
theorem ef_43_1 (m : MethodId) (x0 : Addr) : entryFrame m #[(.ref x0)] 2 = mkF m 0 #[.val (.ref x0), .unset] [] := by first | (simp [entryFrame, mkF, argsToLocals, Value.category]; done) | rfl
theorem rm43_1 (l : Launch) (Z : State) (a0 : Array Value) (hw : HW a0 Z) (ws : List Jvm.Cond) (sb : Addr) (co : Int32) (vf : Value) (h0 : Heap) (n0 : Nat) (O0 : Old Z n0 h0) (E_sb : Exa Z h0 sb "java/lang/StringBuilder") (Fc : Fld Z h0 sb "java/lang/AbstractStringBuilder" "coder" "B" (.int (1 : Int32))) (SWh : SW Z co vf) :
    MT l y39' c39' 2 none ws ({ frames := 1, cells := 0, slots := 0, locals := 12 } : Room) #[(.ref sb)] Z h0 (QN h0 n0) := by
  refine MetFree.of_bodySF (plainFor_of_name pn_java_lang_AbstractStringBuilder) hisR ?_
  intro p e s m args below meth kode s₁ Bd hml0 hP hK
  obtain ⟨rfl, hZ, hh⟩ := hP
  have hx := Bd.exec
  have hby := Bd.bytes
  have hb' := @hb _ _ hby
  have hml : kode.maxLocals = 2 := hml0
  have hown : s.vm.findClass "java/lang/AbstractStringBuilder" = some m.cls := findClass_of_methodNamed Bd.named
  have X0 : Stand p l e ({ frames := 1, cells := 0, slots := 0, locals := 12 } : Room) s m #[(.ref sb)] below meth kode s₁ [] 0 0 := Stand.of_body Bd
  have e0 : s₁.heap = h0 := by rw [← hh, Bd.state]; rfl
  have N0 := Fr.nil n0
  have pre0 : ∀ t, SF p e below s₁ (mkF m 0 #[vr sb, .unset] []) t → SF p e below s₁ (entryFrame m #[(.ref sb)] 2) t := fun t k => castTop (ef_43_1 m sb) k
  have SWx := SWh
  obtain ⟨S_CS, hcs, S_AD, S_HI, S_LO, S_SI, hcat_vf⟩ := SWx
  have cn1 := fun (t : State) (kt : SF p e below s₁ (mkF m 1 #[vr sb, .unset] [.ref sb]) t) => pre0 t (by
    exact XS.aloadN X0.here hx rfl (hb' d43_0) rfl rfl kt)
  obtain ⟨cq2, kq2, q2a, q2b, q2c⟩ := isOf hZ e0 E_sb
  obtain ⟨_, _, ⟨T2, L2, k2, n2⟩, -, X2, ⟨Lc2, hQ2, l2, y2, z2⟩, st2⟩ := X0.virtualBack hx (y := y36') (z := y36') hown (mvT hZ (wq hw 205 rfl)) (mvT hZ (wq hw 206 rfl)) (notFace_of_selects (args := #[]) (mvT hZ (wq hw 208 rfl))) (mvT hZ (wq hw 208 rfl)) (mvT hZ (wq hw 207 rfl)) (by decide) (backOf (W := 0) (rm44_1 l Z a0 hw [] sb co vf h0 n0 O0 Fc SWh) hZ (wq hw 209 rfl) (wq hw 82 rfl) (by decide) (by decide)) q2a q2c (g := (mkF m 1 #[vr sb, .unset] [.ref sb])) rfl (by rw [hml]; rfl) (Steps.refl _) (argsL := []) (rest := []) (lenOf pd_20 rfl) rfl (Nat.le_refl _) (hb' d43_1) (fun _ _ => ⟨rfl, e0, (by decide : 0 + 0 ≤ _), (by decide : 0 + 0 ≤ _)⟩)
  dsimp only [Pt.U, Pt.locs, Pt.cells, Pt.slots] at X2 l2 y2 z2 st2 hQ2
  subst l2 y2 z2
  obtain ⟨rfl, Nq2, eh2⟩ := hQ2
  have N2 := Fr.app N0 Nq2
  have cn3 := fun (t : State) (kt : SF p e below T2 (mkF m 4 #[vr sb, .unset] [.int 0]) t) => cn1 t (by
    exact st2.trans kt)
  have cn4 := fun (t : State) (kt : SF p e below T2 (mkF m 7 #[vr sb, .unset] []) t) => cn3 t (by
    exact XS.ifNo X2.here hx rfl (hb' d43_4) rfl ((if0 _ _).trans (teq (by decide : (0 : Int32) = (0 : Int32))).2) kt)
  obtain ⟨frs, hr, hrun, hended, hW, hsame⟩ := X2.leave (v := none) (fun _ => rfl)
  refine ⟨_, _, cn4 _ ?_, hrun, hended, _, _, rfl, ?_, ⟨_, rfl⟩, hW, hsame.mono (by decide) (by decide)⟩
  · exact X2.returnOut hx Bd.returns (hb' d43_7) hr
  · show QN h0 n0 _ T2.heap _
    rw [eh2]
    exact ⟨rfl, N2, rfl⟩

theorem d43_8 : DC c39' 8 (.aload_n 0) 1 := by decide +kernel
theorem d43_9 : DC c39' 9 (.getfield 15) 3 := by decide +kernel
theorem d43_12 : DC c39' 12 (.arraylength) 1 := by decide +kernel
theorem d43_13 : DC c39' 13 (.invokestatic 26) 3 := by decide +kernel
theorem d43_16 : DC c39' 16 (.astore_n 1) 1 := by decide +kernel
theorem d43_17 : DC c39' 17 (.aload_n 0) 1 := by decide +kernel
theorem d43_18 : DC c39' 18 (.getfield 15) 3 := by decide +kernel
theorem d43_21 : DC c39' 21 (.iconst 0) 1 := by decide +kernel
theorem d43_22 : DC c39' 22 (.aload_n 1) 1 := by decide +kernel
theorem d43_23 : DC c39' 23 (.iconst 0) 1 := by decide +kernel
theorem d43_24 : DC c39' 24 (.aload_n 0) 1 := by decide +kernel
theorem d43_25 : DC c39' 25 (.getfield 79) 3 := by decide +kernel
theorem d43_28 : DC c39' 28 (.invokestatic 125) 3 := by decide +kernel
theorem d43_31 : DC c39' 31 (.aload_n 0) 1 := by decide +kernel
theorem d43_32 : DC c39' 32 (.aload_n 1) 1 := by decide +kernel
theorem d43_33 : DC c39' 33 (.putfield 15) 3 := by decide +kernel
theorem d43_36 : DC c39' 36 (.aload_n 0) 1 := by decide +kernel
theorem d43_37 : DC c39' 37 (.iconst 1) 1 := by decide +kernel
theorem d43_38 : DC c39' 38 (.putfield 22) 3 := by decide +kernel
theorem d43_41 : DC c39' 41 (.return_) 1 := by decide +kernel
theorem ef_43_0 (m : MethodId) (x0 : Addr) : entryFrame m #[(.ref x0)] 2 = mkF m 0 #[.val (.ref x0), .unset] [] := by first | (simp [entryFrame, mkF, argsToLocals, Value.category]; done) | rfl
theorem rm43_0 (l : Launch) (Z : State) (a0 : Array Value) (hw : HW a0 Z) (ws : List Jvm.Cond) (sb vb : Addr) (k : ClassId) (f : Nat → Value) (co : Int32) (vf : Value) (h0 : Heap) (n0 : Nat) (O0 : Old Z n0 h0) (g_sb : n0 ≤ sb) (Bh : SBF Z h0 sb vb 0 0) (A_vb : AF Z h0 vb k .byte 200 f) (hfb : own_fb 200 f) (SWh : SW Z co vf) :
    MT l y39' c39' 2 none ws ({ frames := 5, cells := 1, slots := 804, locals := 76 } : Room) #[(.ref sb)] Z h0 (QSB Z sb 1 0 400 (fun _ => True) none h0 n0) := by
  refine MetFree.of_bodySF (plainFor_of_name pn_java_lang_AbstractStringBuilder) hisR ?_
  intro p e s m args below meth kode s₁ Bd hml0 hP hK
  obtain ⟨rfl, hZ, hh⟩ := hP
  have hx := Bd.exec
  have hby := Bd.bytes
  have hb' := @hb _ _ hby
  have hml : kode.maxLocals = 2 := hml0
  have hown : s.vm.findClass "java/lang/AbstractStringBuilder" = some m.cls := findClass_of_methodNamed Bd.named
  have X0 : Stand p l e ({ frames := 5, cells := 1, slots := 804, locals := 76 } : Room) s m #[(.ref sb)] below meth kode s₁ [] 0 0 := Stand.of_body Bd
  have e0 : s₁.heap = h0 := by rw [← hh, Bd.state]; rfl
  have N0 := Fr.nil n0
  have pre0 : ∀ t, SF p e below s₁ (mkF m 0 #[vr sb, .unset] []) t → SF p e below s₁ (entryFrame m #[(.ref sb)] 2) t := fun t k => castTop (ef_43_0 m sb) k
  have SWx := SWh
  obtain ⟨S_CS, hcs, S_AD, S_HI, S_LO, S_SI, hcat_vf⟩ := SWx
  have Bx := Bh
  obtain ⟨E_sb, Fsbv, Fsbc, Fsbn, Fsbm⟩ := Bx
  have hn : 200 ≤ 402 := by decide
  have cn1 := fun (t : State) (kt : SF p e below s₁ (mkF m 1 #[vr sb, .unset] [.ref sb]) t) => pre0 t (by
    exact XS.aloadN X0.here hx rfl (hb' d43_0) rfl rfl kt)
  obtain ⟨cq2, kq2, q2a, q2b, q2c⟩ := isOf hZ e0 E_sb
  obtain ⟨_, _, ⟨T2, L2, k2, n2⟩, -, X2, ⟨Lc2, hQ2, l2, y2, z2⟩, st2⟩ := X0.virtualBack hx (y := y36') (z := y36') hown (mvT hZ (wq hw 205 rfl)) (mvT hZ (wq hw 206 rfl)) (notFace_of_selects (args := #[]) (mvT hZ (wq hw 208 rfl))) (mvT hZ (wq hw 208 rfl)) (mvT hZ (wq hw 207 rfl)) (by decide) (backOf (W := 0) (rm44_0 l Z a0 hw [] sb co vf h0 n0 O0 Fsbc SWh) hZ (wq hw 209 rfl) (wq hw 82 rfl) (by decide) (by decide)) q2a q2c (g := (mkF m 1 #[vr sb, .unset] [.ref sb])) rfl (by rw [hml]; rfl) (Steps.refl _) (argsL := []) (rest := []) (lenOf pd_20 rfl) rfl (Nat.le_refl _) (hb' d43_1) (fun _ _ => ⟨rfl, e0, (by decide : 0 + 0 ≤ _), (by decide : 0 + 0 ≤ _)⟩)
  dsimp only [Pt.U, Pt.locs, Pt.cells, Pt.slots] at X2 l2 y2 z2 st2 hQ2
  subst l2 y2 z2
  obtain ⟨rfl, Nq2, eh2⟩ := hQ2
  have N2 := Fr.app N0 Nq2
  have cn3 := fun (t : State) (kt : SF p e below T2 (mkF m 4 #[vr sb, .unset] [.int 1]) t) => cn1 t (by
    exact st2.trans kt)
  have cn4 := fun (t : State) (kt : SF p e below T2 (mkF m 9 #[vr sb, .unset] [.ref sb]) t) => cn3 t (by
    refine XS.ifYes X2.here hx rfl (pc0 := 4) (pc' := 8) rfl (hb' d43_4) rfl ((if0 _ _).trans (feq (by decide : ¬ ((1 : Int32) = (0 : Int32)))).2) (by decide) (by decide) ?_
    exact XS.aloadN X2.here hx rfl (hb' d43_8) rfl rfl kt)
  obtain ⟨T5, X5, e5, st5⟩ := getF X2 hx hZ hown (host := "") (Or.inl (wq hw 86 rfl)) Via.refl eh2 Fsbv (g := (mkF m 9 #[vr sb, .unset] [.ref sb])) rfl rfl (hb' d43_9)
  have cn6 := fun (t : State) (kt : SF p e below T5 (mkF m 12 #[vr sb, .unset] [.ref vb]) t) => cn4 t (by
    exact st5 _ kt)
  have AFx7 := A_vb
  obtain ⟨cl7, Ar7, q7, S7, H7⟩ := AFx7
  have cn8 := fun (t : State) (kt : SF p e below T5 (mkF m 13 #[vr sb, .unset] [.int (Nat.toInt32 200)]) t) => cn6 t (by
    refine X5.arraylength hx (by rw [e5]; exact Ar7.1) (State.isArrayOf_alike hZ.alike Ar7.2.1) (g := (mkF m 12 #[vr sb, .unset] [.ref vb])) rfl rfl (hb' d43_12) _ ?_
    rw [S7]
    exact kt)
  have cn9 : ∀ t, SF p e below T5 (mkF m 13 #[vr sb, .unset] [.int 200]) t → SF p e below s₁ (entryFrame m #[(.ref sb)] 2) t := by have q := cn8; rw [(id (rfl) : (Nat.toInt32 200) = (200 : Int32))] at q; exact q
  obtain ⟨_, _, ⟨T10, L10, k10, n10⟩, -, X10, ⟨Lc10, hQ10, l10, y10, z10⟩, st10⟩ := Jvm.LawKit.callS X5 hx (y := y1') hown (mvT hZ (wq hw 210 rfl)) (mvT hZ (wq hw 57 rfl)) (mvT hZ (wq hw 45 rfl)) (mvT hZ (wq hw 58 rfl)) (by decide) (backOf (W := 0) (rm12 l Z a0 hw [] 200 h0 n0 O0 hn) hZ (wq hw 58 rfl) (wq hw 45 rfl) (by decide) (by decide)) (g := (mkF m 13 #[vr sb, .unset] [.int 200])) rfl (by rw [hml]; rfl) (argsL := [(.int (200 : Int32))]) (rest := []) (lenOf pd_1 rfl) rfl (Nat.le_refl _) (hb' d43_13) (fun _ _ => ⟨rfl, e5, (by decide : 0 + 1 ≤ _), (by decide : 0 + 804 ≤ _)⟩)
  dsimp only [Pt.U, Pt.locs, Pt.cells, Pt.slots] at X10 l10 y10 z10 st10 hQ10
  subst l10 y10 z10
  obtain ⟨r10x, kq10, f10, rfl, Nq10, Kq10, szq10, Aq10, hz10⟩ := hQ10
  have N10 := Fr.app N2 Nq10
  have ne_sb_r10x : sb ≠ r10x := Nat.ne_of_lt (Nat.lt_of_lt_of_le E_sb.lt szq10)
  have ne_vb_r10x : vb ≠ r10x := Nat.ne_of_lt (Nat.lt_of_lt_of_le A_vb.lt szq10)
  have sz_r10x : h0.size ≤ r10x := Nat.le_trans (Keep.refl h0 [sb]).1 szq10
  have g_r10x : n0 ≤ r10x := Nat.le_trans (O0.1 ▸ O0.2.1) sz_r10x
  have K10 := Kq10
  have E_sb_e10 := E_sb.keep K10
  have Fsbv_e10 := Fsbv.keep K10 nin0
  have Fsbc_e10 := Fsbc.keep K10 nin0
  have Fsbn_e10 := Fsbn.keep K10 nin0
  have Fsbm_e10 := Fsbm.keep K10 nin0
  have A_vb_e10 := A_vb.keep K10 nin0
  have O10 := O0.keep K10 all0
  have KK10 : Keep h0 T10.heap [sb] := (Keep.refl h0 [sb]).trans K10 all0
  have cn11 := fun (t : State) (kt : SF p e below T10 (mkF m 18 #[vr sb, vr r10x] [.ref sb]) t) => cn9 t (by
    refine st10 _ ?_
    refine XS.astoreN X10.here hx rfl (hb' d43_16) rfl rfl (l' := #[vr sb, vr r10x]) rfl ?_
    exact XS.aloadN X10.here hx rfl (hb' d43_17) rfl rfl kt)
  obtain ⟨T12, X12, e12, st12⟩ := getF X10 hx hZ hown (host := "") (Or.inl (wq hw 86 rfl)) Via.refl rfl Fsbv_e10 (g := (mkF m 18 #[vr sb, vr r10x] [.ref sb])) rfl rfl (hb' d43_18)
  have cn13 := fun (t : State) (kt : SF p e below T12 (mkF m 25 #[vr sb, vr r10x] [.ref sb, .int 0, .ref r10x, .int 0, .ref vb]) t) => cn11 t (by
    refine st12 _ ?_
    refine XS.iconst X12.here hx rfl (hb' d43_21) ?_
    refine XS.aloadN X12.here hx rfl (hb' d43_22) rfl rfl ?_
    refine XS.iconst X12.here hx rfl (hb' d43_23) ?_
    exact XS.aloadN X12.here hx rfl (hb' d43_24) rfl rfl kt)
  obtain ⟨T14, X14, e14, st14⟩ := getF X12 hx hZ hown (host := "") (Or.inl (wq hw 165 rfl)) Via.refl e12 Fsbn_e10 (g := (mkF m 25 #[vr sb, vr r10x] [.ref sb, .int 0, .ref r10x, .int 0, .ref vb])) rfl rfl (hb' d43_25)
  have cn15 := fun (t : State) (kt : SF p e below T14 (mkF m 28 #[vr sb, vr r10x] [.int 0, .int 0, .ref r10x, .int 0, .ref vb]) t) => cn13 t (by
    exact st14 _ kt)
  obtain ⟨_, _, ⟨T16, L16, k16, n16⟩, -, X16, ⟨Lc16, hQ16, l16, y16, z16⟩, st16⟩ := Jvm.LawKit.callS X14 hx (y := y38') hown (mvT hZ (wq hw 211 rfl)) (mvT hZ (wq hw 212 rfl)) (mvT hZ (wq hw 213 rfl)) (mvT hZ (wq hw 214 rfl)) (by decide) (backOf (W := 0) (rm45 l Z a0 hw [] vb r10x k kq10 200 200 0 0 ([] : List Int32) f f10 co vf T10.heap n0 O10 g_r10x ne_vb_r10x (by omega) (by omega) (by omega) (by omega) (fun j hj => absurd hj (Nat.not_lt_zero j)) A_vb_e10 Aq10 (fun j _ => by rw [hz10 j]; rfl) SWh) hZ (wq hw 214 rfl) (wq hw 213 rfl) (by decide) (by decide)) (g := (mkF m 28 #[vr sb, vr r10x] [.int 0, .int 0, .ref r10x, .int 0, .ref vb])) rfl (by rw [hml]; rfl) (argsL := [(.ref vb), (.int (0 : Int32)), (.ref r10x), (.int (0 : Int32)), (.int (0 : Int32))]) (rest := []) (lenOf pd_24 rfl) rfl (Nat.le_refl _) (hb' d43_28) (fun _ _ => ⟨rfl, e14, (by decide : 1 + 0 ≤ _), (by decide : 804 + 0 ≤ _)⟩)
  dsimp only [Pt.U, Pt.locs, Pt.cells, Pt.slots] at X16 l16 y16 z16 st16 hQ16
  subst l16 y16 z16
  obtain ⟨f16, rfl, Nq16, Kq16, Aq16, hfb16, hI16⟩ := hQ16
  have N16 := Fr.app N10 Nq16
  have K16 := Kq16
  have E_sb_e16 := E_sb_e10.keep K16
  have Fsbv_e16 := Fsbv_e10.keep K16 (ninS ne_sb_r10x nin0)
  have Fsbc_e16 := Fsbc_e10.keep K16 (ninS ne_sb_r10x nin0)
  have Fsbn_e16 := Fsbn_e10.keep K16 (ninS ne_sb_r10x nin0)
  have Fsbm_e16 := Fsbm_e10.keep K16 (ninS ne_sb_r10x nin0)
  have A_vb_e16 := A_vb_e10.keep K16 (ninS ne_vb_r10x nin0)
  have O16 := O10.keep K16 (allS g_r10x all0)
  have KK16 : Keep h0 T16.heap [sb] := KK10.trans K16 (allS (Or.inr sz_r10x) all0)
  have cn17 := fun (t : State) (kt : SF p e below T16 (mkF m 33 #[vr sb, vr r10x] [.ref r10x, .ref sb]) t) => cn15 t (by
    refine st16 _ ?_
    refine XS.aloadN X16.here hx rfl (hb' d43_31) rfl rfl ?_
    exact XS.aloadN X16.here hx rfl (hb' d43_32) rfl rfl kt)
  obtain ⟨T18, h18, X18, e18, W18, st18⟩ := putF X16 hx hZ hown (host := "") (Or.inl (wq hw 86 rfl)) Via.refl rfl Fsbv_e16 E_sb_e16 (Or.inl (wq hw 87 rfl)) (wq hw 73 rfl) (ty := (.array .byte)) (by decide) rfl rfl (g := (mkF m 33 #[vr sb, vr r10x] [.ref r10x, .ref sb])) rfl rfl (hb' d43_33)
  have E_sb_e18 := E_sb_e16.wr W18
  have Fsbc_e18 := Fsbc_e16.other W18 (Or.inr (slot_ne (Or.inl (wq hw 89 rfl)) (Or.inl (wq hw 87 rfl)) (by decide) (t := .byte) (t' := (.array .byte)) (by decide) (by decide)))
  have Fsbn_e18 := Fsbn_e16.other W18 (Or.inr (slot_ne (Or.inl (wq hw 166 rfl)) (Or.inl (wq hw 87 rfl)) (by decide) (t := .int) (t' := (.array .byte)) (by decide) (by decide)))
  have Fsbm_e18 := Fsbm_e16.other W18 (Or.inr (slot_ne (Or.inl (wq hw 253 rfl)) (Or.inl (wq hw 87 rfl)) (by decide) (t := .boolean) (t' := (.array .byte)) (by decide) (by decide)))
  have A_vb_e18 := A_vb_e16.other W18 (Ne.symm (own_neA E_sb_e16 A_vb_e16 (wq hw 73 rfl)))
  have Aq16_e18 := Aq16.other W18 (Ne.symm ne_sb_r10x)
  have N18 := Fr.snoc X18 N16 g_sb
  have O18 := O16.wr W18 g_sb
  have K18 : Keep h0 h18 [sb] := KK16.wr W18 (Or.inl (List.mem_of_getElem? (i := 0) rfl))
  have Fvalue_18 := Fsbv_e16.same W18
  have cn19 := fun (t : State) (kt : SF p e below T18 (mkF m 38 #[vr sb, vr r10x] [.int 1, .ref sb]) t) => cn17 t (by
    refine st18 _ ?_
    refine XS.aloadN X18.here hx rfl (hb' d43_36) rfl rfl ?_
    exact XS.iconst X18.here hx rfl (hb' d43_37) kt)
  obtain ⟨T20, h20, X20, e20, W20, st20⟩ := putFN X18 hx hZ hown (wq hw 88 rfl) Via.refl e18 Fsbc_e18 E_sb_e18 (Or.inl (wq hw 89 rfl)) (wq hw 73 rfl) (ty := .byte) (v' := (.int (1 : Int32))) (by decide) rfl rfl (g := (mkF m 38 #[vr sb, vr r10x] [.int 1, .ref sb])) rfl rfl (hb' d43_38)
  have E_sb_e20 := E_sb_e18.wr W20
  have Fvalue_18_e20 := Fvalue_18.other W20 (Or.inr (slot_ne (Or.inl (wq hw 87 rfl)) (Or.inl (wq hw 89 rfl)) (by decide) (t := (.array .byte)) (t' := .byte) (by decide) (by decide)))
  have Fsbn_e20 := Fsbn_e18.other W20 (Or.inr (slot_ne (Or.inl (wq hw 166 rfl)) (Or.inl (wq hw 89 rfl)) (by decide) (t := .int) (t' := .byte) (by decide) (by decide)))
  have Fsbm_e20 := Fsbm_e18.other W20 (Or.inr (slot_ne (Or.inl (wq hw 253 rfl)) (Or.inl (wq hw 89 rfl)) (by decide) (t := .boolean) (t' := .byte) (by decide) (by decide)))
  have A_vb_e20 := A_vb_e18.other W20 (Ne.symm (own_neA E_sb_e18 A_vb_e18 (wq hw 73 rfl)))
  have Aq16_e20 := Aq16_e18.other W20 (Ne.symm ne_sb_r10x)
  have N20 := Fr.snoc X20 N18 g_sb
  have O20 := O18.wr W20 g_sb
  have K20 : Keep h0 h20 [sb] := K18.wr W20 (Or.inl (List.mem_of_getElem? (i := 0) rfl))
  have Fcoder_20 := Fsbc_e18.same W20
  have cn21 := fun (t : State) (kt : SF p e below T20 (mkF m 41 #[vr sb, vr r10x] []) t) => cn19 t (by
    exact st20 _ kt)
  obtain ⟨frs, hr, hrun, hended, hW, hsame⟩ := X20.leave (v := none) (fun _ => rfl)
  refine ⟨_, _, cn21 _ ?_, hrun, hended, _, _, rfl, ?_, ⟨_, rfl⟩, hW, hsame.mono (by decide) (by decide)⟩
  · exact X20.returnOut hx Bd.returns (hb' d43_41) hr
  · show QSB Z sb 1 0 400 (fun _ => True) none h0 n0 _ T20.heap _
    rw [e20]
    exact ⟨r10x, _, _, rfl, N20, K20, sz_r10x, ⟨E_sb_e20, Fvalue_18_e20, Fcoder_20, Fsbn_e20, Fsbm_e20⟩, Aq16_e20, hfb16, trivial⟩

theorem ef_5_200 (m : MethodId) (x0 : Addr) : entryFrame m #[(.ref x0)] 1 = mkF m 0 #[.val (.ref x0)] [] := by first | (simp [entryFrame, mkF, argsToLocals, Value.category]; done) | rfl
theorem rm5_200 (l : Launch) (Z : State) (a0 : Array Value) (hw : HW a0 Z) (ws : List Jvm.Cond) (str vs : Addr) (ks : ClassId) (fs : Nat → Value) (co : Int32) (vf : Value) (h0 : Heap) (n0 : Nat) (O0 : Old Z n0 h0) (E_str : Exa Z h0 str "java/lang/String") (Fstv : Fld Z h0 str "java/lang/String" "value" "[B" (.ref vs)) (Fstc : Fld Z h0 str "java/lang/String" "coder" "B" (.int (0 : Int32))) (A_vs : AF Z h0 vs ks .byte 200 fs) (hfs : own_fb 200 fs) (SWh : SW Z co vf) :
    MT l y13' c13' 1 (some .int) ws ({ frames := 1, cells := 0, slots := 0, locals := 13 } : Room) #[(.ref str)] Z h0 (QI 200 h0 n0) := by
  refine MetFree.of_bodySF (plainFor_of_name pn_java_lang_String) hisR ?_
  intro p e s m args below meth kode s₁ Bd hml0 hP hK
  obtain ⟨rfl, hZ, hh⟩ := hP
  have hx := Bd.exec
  have hby := Bd.bytes
  have hb' := @hb _ _ hby
  have hml : kode.maxLocals = 1 := hml0
  have hown : s.vm.findClass "java/lang/String" = some m.cls := findClass_of_methodNamed Bd.named
  have X0 : Stand p l e ({ frames := 1, cells := 0, slots := 0, locals := 13 } : Room) s m #[(.ref str)] below meth kode s₁ [] 0 0 := Stand.of_body Bd
  have e0 : s₁.heap = h0 := by rw [← hh, Bd.state]; rfl
  have N0 := Fr.nil n0
  have pre0 : ∀ t, SF p e below s₁ (mkF m 0 #[vr str] []) t → SF p e below s₁ (entryFrame m #[(.ref str)] 1) t := fun t k => castTop (ef_5_200 m str) k
  have SWx := SWh
  obtain ⟨S_CS, hcs, S_AD, S_HI, S_LO, S_SI, hcat_vf⟩ := SWx
  have cn1 := fun (t : State) (kt : SF p e below s₁ (mkF m 1 #[vr str] [.ref str]) t) => pre0 t (by
    exact XS.aloadN X0.here hx rfl (hb' d5_0) rfl rfl kt)
  obtain ⟨T2, X2, e2, st2⟩ := getF X0 hx hZ hown (host := "") (Or.inl (wq hw 20 rfl)) Via.refl e0 Fstv (g := (mkF m 1 #[vr str] [.ref str])) rfl rfl (hb' d5_1)
  have cn3 := fun (t : State) (kt : SF p e below T2 (mkF m 4 #[vr str] [.ref vs]) t) => cn1 t (by
    exact st2 _ kt)
  have AFx4 := A_vs
  obtain ⟨cl4, Ar4, q4, S4, H4⟩ := AFx4
  have cn5 := fun (t : State) (kt : SF p e below T2 (mkF m 5 #[vr str] [.int (Nat.toInt32 200)]) t) => cn3 t (by
    refine X2.arraylength hx (by rw [e2]; exact Ar4.1) (State.isArrayOf_alike hZ.alike Ar4.2.1) (g := (mkF m 4 #[vr str] [.ref vs])) rfl rfl (hb' d5_4) _ ?_
    rw [S4]
    exact kt)
  have cn6 : ∀ t, SF p e below T2 (mkF m 5 #[vr str] [.int 200]) t → SF p e below s₁ (entryFrame m #[(.ref str)] 1) t := by have q := cn5; rw [(id (rfl) : (Nat.toInt32 200) = (200 : Int32))] at q; exact q
  have cn7 := fun (t : State) (kt : SF p e below T2 (mkF m 6 #[vr str] [.ref str, .int 200]) t) => cn6 t (by
    exact XS.aloadN X2.here hx rfl (hb' d5_5) rfl rfl kt)
  obtain ⟨cq8, kq8, q8a, q8b, q8c⟩ := isOf hZ e2 E_str
  obtain ⟨_, _, ⟨T8, L8, k8, n8⟩, -, X8, ⟨Lc8, hQ8, l8, y8, z8⟩, st8⟩ := X2.virtualBack hx (y := y12') (z := y12') hown (mvT hZ (wq hw 31 rfl)) (mvT hZ (wq hw 32 rfl)) (notFace_of_selects (args := #[]) (mvT hZ (wq hw 34 rfl))) (mvT hZ (wq hw 34 rfl)) (mvT hZ (wq hw 33 rfl)) (by decide) (backOf (W := 1) (rm6_0 l Z a0 hw [] str co vf h0 n0 O0 Fstc SWh) hZ (wq hw 35 rfl) (wq hw 3 rfl) (by decide) (by decide)) q8a q8c (g := (mkF m 6 #[vr str] [.ref str, .int 200])) rfl (by rw [hml]; rfl) (Steps.refl _) (argsL := []) (rest := [(.int (200 : Int32))]) (lenOf pd_8 rfl) rfl (Nat.le_refl _) (hb' d5_6) (fun _ _ => ⟨rfl, e2, (by decide : 0 + 0 ≤ _), (by decide : 0 + 0 ≤ _)⟩)
  dsimp only [Pt.U, Pt.locs, Pt.cells, Pt.slots] at X8 l8 y8 z8 st8 hQ8
  subst l8 y8 z8
  obtain ⟨rfl, Nq8, eh8⟩ := hQ8
  have N8 := Fr.app N0 Nq8
  have cn9 := fun (t : State) (kt : SF p e below T8 (mkF m 10 #[vr str] [.int 200]) t) => cn7 t (by
    refine st8.trans ?_
    exact XS.ishr X8.here hx rfl (hb' d5_9) rfl kt)
  obtain ⟨frs, hr, hrun, hended, hW, hsame⟩ := X8.leave (v := some (.int (200 : Int32))) (fun h => by rw [Bd.returns] at h; cases h)
  refine ⟨_, _, cn9 _ ?_, hrun, hended, _, _, rfl, ?_, ⟨_, rfl⟩, hW, hsame.mono (by decide) (by decide)⟩
  · exact retI X8 hx Bd.returns (hb' d5_10) hr
  · show QI 200 h0 n0 _ T8.heap _
    rw [eh8]
    exact ⟨rfl, N8, rfl⟩

theorem ef_5_400 (m : MethodId) (x0 : Addr) : entryFrame m #[(.ref x0)] 1 = mkF m 0 #[.val (.ref x0)] [] := by first | (simp [entryFrame, mkF, argsToLocals, Value.category]; done) | rfl
theorem rm5_400 (l : Launch) (Z : State) (a0 : Array Value) (hw : HW a0 Z) (ws : List Jvm.Cond) (str vs : Addr) (ks : ClassId) (fs : Nat → Value) (co : Int32) (vf : Value) (h0 : Heap) (n0 : Nat) (O0 : Old Z n0 h0) (E_str : Exa Z h0 str "java/lang/String") (Fstv : Fld Z h0 str "java/lang/String" "value" "[B" (.ref vs)) (Fstc : Fld Z h0 str "java/lang/String" "coder" "B" (.int (1 : Int32))) (A_vs : AF Z h0 vs ks .byte 400 fs) (hfs : own_fb 400 fs) (SWh : SW Z co vf) :
    MT l y13' c13' 1 (some .int) ws ({ frames := 1, cells := 0, slots := 0, locals := 13 } : Room) #[(.ref str)] Z h0 (QI 200 h0 n0) := by
  refine MetFree.of_bodySF (plainFor_of_name pn_java_lang_String) hisR ?_
  intro p e s m args below meth kode s₁ Bd hml0 hP hK
  obtain ⟨rfl, hZ, hh⟩ := hP
  have hx := Bd.exec
  have hby := Bd.bytes
  have hb' := @hb _ _ hby
  have hml : kode.maxLocals = 1 := hml0
  have hown : s.vm.findClass "java/lang/String" = some m.cls := findClass_of_methodNamed Bd.named
  have X0 : Stand p l e ({ frames := 1, cells := 0, slots := 0, locals := 13 } : Room) s m #[(.ref str)] below meth kode s₁ [] 0 0 := Stand.of_body Bd
  have e0 : s₁.heap = h0 := by rw [← hh, Bd.state]; rfl
  have N0 := Fr.nil n0
  have pre0 : ∀ t, SF p e below s₁ (mkF m 0 #[vr str] []) t → SF p e below s₁ (entryFrame m #[(.ref str)] 1) t := fun t k => castTop (ef_5_400 m str) k
  have SWx := SWh
  obtain ⟨S_CS, hcs, S_AD, S_HI, S_LO, S_SI, hcat_vf⟩ := SWx
  have cn1 := fun (t : State) (kt : SF p e below s₁ (mkF m 1 #[vr str] [.ref str]) t) => pre0 t (by
    exact XS.aloadN X0.here hx rfl (hb' d5_0) rfl rfl kt)
  obtain ⟨T2, X2, e2, st2⟩ := getF X0 hx hZ hown (host := "") (Or.inl (wq hw 20 rfl)) Via.refl e0 Fstv (g := (mkF m 1 #[vr str] [.ref str])) rfl rfl (hb' d5_1)
  have cn3 := fun (t : State) (kt : SF p e below T2 (mkF m 4 #[vr str] [.ref vs]) t) => cn1 t (by
    exact st2 _ kt)
  have AFx4 := A_vs
  obtain ⟨cl4, Ar4, q4, S4, H4⟩ := AFx4
  have cn5 := fun (t : State) (kt : SF p e below T2 (mkF m 5 #[vr str] [.int (Nat.toInt32 400)]) t) => cn3 t (by
    refine X2.arraylength hx (by rw [e2]; exact Ar4.1) (State.isArrayOf_alike hZ.alike Ar4.2.1) (g := (mkF m 4 #[vr str] [.ref vs])) rfl rfl (hb' d5_4) _ ?_
    rw [S4]
    exact kt)
  have cn6 : ∀ t, SF p e below T2 (mkF m 5 #[vr str] [.int 400]) t → SF p e below s₁ (entryFrame m #[(.ref str)] 1) t := by have q := cn5; rw [(id (rfl) : (Nat.toInt32 400) = (400 : Int32))] at q; exact q
  have cn7 := fun (t : State) (kt : SF p e below T2 (mkF m 6 #[vr str] [.ref str, .int 400]) t) => cn6 t (by
    exact XS.aloadN X2.here hx rfl (hb' d5_5) rfl rfl kt)
  obtain ⟨cq8, kq8, q8a, q8b, q8c⟩ := isOf hZ e2 E_str
  obtain ⟨_, _, ⟨T8, L8, k8, n8⟩, -, X8, ⟨Lc8, hQ8, l8, y8, z8⟩, st8⟩ := X2.virtualBack hx (y := y12') (z := y12') hown (mvT hZ (wq hw 31 rfl)) (mvT hZ (wq hw 32 rfl)) (notFace_of_selects (args := #[]) (mvT hZ (wq hw 34 rfl))) (mvT hZ (wq hw 34 rfl)) (mvT hZ (wq hw 33 rfl)) (by decide) (backOf (W := 1) (rm6_1 l Z a0 hw [] str co vf h0 n0 O0 Fstc SWh) hZ (wq hw 35 rfl) (wq hw 3 rfl) (by decide) (by decide)) q8a q8c (g := (mkF m 6 #[vr str] [.ref str, .int 400])) rfl (by rw [hml]; rfl) (Steps.refl _) (argsL := []) (rest := [(.int (400 : Int32))]) (lenOf pd_8 rfl) rfl (Nat.le_refl _) (hb' d5_6) (fun _ _ => ⟨rfl, e2, (by decide : 0 + 0 ≤ _), (by decide : 0 + 0 ≤ _)⟩)
  dsimp only [Pt.U, Pt.locs, Pt.cells, Pt.slots] at X8 l8 y8 z8 st8 hQ8
  subst l8 y8 z8
  obtain ⟨rfl, Nq8, eh8⟩ := hQ8
  have N8 := Fr.app N0 Nq8
  have cn9 := fun (t : State) (kt : SF p e below T8 (mkF m 10 #[vr str] [.int 200]) t) => cn7 t (by
    refine st8.trans ?_
    exact XS.ishr X8.here hx rfl (hb' d5_9) rfl kt)
  obtain ⟨frs, hr, hrun, hended, hW, hsame⟩ := X8.leave (v := some (.int (200 : Int32))) (fun h => by rw [Bd.returns] at h; cases h)
  refine ⟨_, _, cn9 _ ?_, hrun, hended, _, _, rfl, ?_, ⟨_, rfl⟩, hW, hsame.mono (by decide) (by decide)⟩
  · exact retI X8 hx Bd.returns (hb' d5_10) hr
  · show QI 200 h0 n0 _ T8.heap _
    rw [eh8]
    exact ⟨rfl, N8, rfl⟩

theorem ef_5_3 (m : MethodId) (x0 : Addr) : entryFrame m #[(.ref x0)] 1 = mkF m 0 #[.val (.ref x0)] [] := by first | (simp [entryFrame, mkF, argsToLocals, Value.category]; done) | rfl
theorem rm5_3 (l : Launch) (Z : State) (a0 : Array Value) (hw : HW a0 Z) (ws : List Jvm.Cond) (str vs : Addr) (ks : ClassId) (fs : Nat → Value) (co : Int32) (vf : Value) (h0 : Heap) (n0 : Nat) (O0 : Old Z n0 h0) (E_str : Exa Z h0 str "java/lang/String") (Fstv : Fld Z h0 str "java/lang/String" "value" "[B" (.ref vs)) (Fstc : Fld Z h0 str "java/lang/String" "coder" "B" (.int (0 : Int32))) (A_vs : AF Z h0 vs ks .byte 3 fs) (hfs : own_fb 3 fs) (SWh : SW Z co vf) :
    MT l y13' c13' 1 (some .int) ws ({ frames := 1, cells := 0, slots := 0, locals := 13 } : Room) #[(.ref str)] Z h0 (QI 3 h0 n0) := by
  refine MetFree.of_bodySF (plainFor_of_name pn_java_lang_String) hisR ?_
  intro p e s m args below meth kode s₁ Bd hml0 hP hK
  obtain ⟨rfl, hZ, hh⟩ := hP
  have hx := Bd.exec
  have hby := Bd.bytes
  have hb' := @hb _ _ hby
  have hml : kode.maxLocals = 1 := hml0
  have hown : s.vm.findClass "java/lang/String" = some m.cls := findClass_of_methodNamed Bd.named
  have X0 : Stand p l e ({ frames := 1, cells := 0, slots := 0, locals := 13 } : Room) s m #[(.ref str)] below meth kode s₁ [] 0 0 := Stand.of_body Bd
  have e0 : s₁.heap = h0 := by rw [← hh, Bd.state]; rfl
  have N0 := Fr.nil n0
  have pre0 : ∀ t, SF p e below s₁ (mkF m 0 #[vr str] []) t → SF p e below s₁ (entryFrame m #[(.ref str)] 1) t := fun t k => castTop (ef_5_3 m str) k
  have SWx := SWh
  obtain ⟨S_CS, hcs, S_AD, S_HI, S_LO, S_SI, hcat_vf⟩ := SWx
  have cn1 := fun (t : State) (kt : SF p e below s₁ (mkF m 1 #[vr str] [.ref str]) t) => pre0 t (by
    exact XS.aloadN X0.here hx rfl (hb' d5_0) rfl rfl kt)
  obtain ⟨T2, X2, e2, st2⟩ := getF X0 hx hZ hown (host := "") (Or.inl (wq hw 20 rfl)) Via.refl e0 Fstv (g := (mkF m 1 #[vr str] [.ref str])) rfl rfl (hb' d5_1)
  have cn3 := fun (t : State) (kt : SF p e below T2 (mkF m 4 #[vr str] [.ref vs]) t) => cn1 t (by
    exact st2 _ kt)
  have AFx4 := A_vs
  obtain ⟨cl4, Ar4, q4, S4, H4⟩ := AFx4
  have cn5 := fun (t : State) (kt : SF p e below T2 (mkF m 5 #[vr str] [.int (Nat.toInt32 3)]) t) => cn3 t (by
    refine X2.arraylength hx (by rw [e2]; exact Ar4.1) (State.isArrayOf_alike hZ.alike Ar4.2.1) (g := (mkF m 4 #[vr str] [.ref vs])) rfl rfl (hb' d5_4) _ ?_
    rw [S4]
    exact kt)
  have cn6 : ∀ t, SF p e below T2 (mkF m 5 #[vr str] [.int 3]) t → SF p e below s₁ (entryFrame m #[(.ref str)] 1) t := by have q := cn5; rw [(id (rfl) : (Nat.toInt32 3) = (3 : Int32))] at q; exact q
  have cn7 := fun (t : State) (kt : SF p e below T2 (mkF m 6 #[vr str] [.ref str, .int 3]) t) => cn6 t (by
    exact XS.aloadN X2.here hx rfl (hb' d5_5) rfl rfl kt)
  obtain ⟨cq8, kq8, q8a, q8b, q8c⟩ := isOf hZ e2 E_str
  obtain ⟨_, _, ⟨T8, L8, k8, n8⟩, -, X8, ⟨Lc8, hQ8, l8, y8, z8⟩, st8⟩ := X2.virtualBack hx (y := y12') (z := y12') hown (mvT hZ (wq hw 31 rfl)) (mvT hZ (wq hw 32 rfl)) (notFace_of_selects (args := #[]) (mvT hZ (wq hw 34 rfl))) (mvT hZ (wq hw 34 rfl)) (mvT hZ (wq hw 33 rfl)) (by decide) (backOf (W := 1) (rm6_0 l Z a0 hw [] str co vf h0 n0 O0 Fstc SWh) hZ (wq hw 35 rfl) (wq hw 3 rfl) (by decide) (by decide)) q8a q8c (g := (mkF m 6 #[vr str] [.ref str, .int 3])) rfl (by rw [hml]; rfl) (Steps.refl _) (argsL := []) (rest := [(.int (3 : Int32))]) (lenOf pd_8 rfl) rfl (Nat.le_refl _) (hb' d5_6) (fun _ _ => ⟨rfl, e2, (by decide : 0 + 0 ≤ _), (by decide : 0 + 0 ≤ _)⟩)
  dsimp only [Pt.U, Pt.locs, Pt.cells, Pt.slots] at X8 l8 y8 z8 st8 hQ8
  subst l8 y8 z8
  obtain ⟨rfl, Nq8, eh8⟩ := hQ8
  have N8 := Fr.app N0 Nq8
  have cn9 := fun (t : State) (kt : SF p e below T8 (mkF m 10 #[vr str] [.int 3]) t) => cn7 t (by
    refine st8.trans ?_
    exact XS.ishr X8.here hx rfl (hb' d5_9) rfl kt)
  obtain ⟨frs, hr, hrun, hended, hW, hsame⟩ := X8.leave (v := some (.int (3 : Int32))) (fun h => by rw [Bd.returns] at h; cases h)
  refine ⟨_, _, cn9 _ ?_, hrun, hended, _, _, rfl, ?_, ⟨_, rfl⟩, hW, hsame.mono (by decide) (by decide)⟩
  · exact retI X8 hx Bd.returns (hb' d5_10) hr
  · show QI 3 h0 n0 _ T8.heap _
    rw [eh8]
    exact ⟨rfl, N8, rfl⟩

theorem d42_0 : DC c40' 0 (.getstatic 18) 3 := by decide +kernel
theorem d42_3 : DC c40' 3 (.ifCond .eq 18) 3 := by decide +kernel
theorem d42_6 : DC c40' 6 (.aload_n 0) 1 := by decide +kernel
theorem d42_7 : DC c40' 7 (.getfield 22) 3 := by decide +kernel
theorem d42_10 : DC c40' 10 (.aload_n 1) 1 := by decide +kernel
theorem d42_11 : DC c40' 11 (.invokevirtual 40) 3 := by decide +kernel
theorem d42_14 : DC c40' 14 (.if_icmp .eq 7) 3 := by decide +kernel
theorem d42_21 : DC c40' 21 (.return_) 1 := by decide +kernel
theorem ef_42_00 (m : MethodId) (x0 : Addr) (x1 : Addr) : entryFrame m #[(.ref x0), (.ref x1)] 2 = mkF m 0 #[.val (.ref x0), .val (.ref x1)] [] := by first | (simp [entryFrame, mkF, argsToLocals, Value.category]; done) | rfl
theorem rm42_00 (l : Launch) (Z : State) (a0 : Array Value) (hw : HW a0 Z) (ws : List Jvm.Cond) (sb str : Addr) (co : Int32) (vf : Value) (h0 : Heap) (n0 : Nat) (O0 : Old Z n0 h0) (E_sb : Exa Z h0 sb "java/lang/StringBuilder") (Fsbc : Fld Z h0 sb "java/lang/AbstractStringBuilder" "coder" "B" (.int (0 : Int32))) (E_str : Exa Z h0 str "java/lang/String") (Fstc : Fld Z h0 str "java/lang/String" "coder" "B" (.int (0 : Int32))) (SWh : SW Z co vf) :
    MT l y40' c40' 2 none ws ({ frames := 1, cells := 0, slots := 0, locals := 13 } : Room) #[(.ref sb), (.ref str)] Z h0 (QN h0 n0) := by
  refine MetFree.of_bodySF (plainFor_of_name pn_java_lang_AbstractStringBuilder) hisR ?_
  intro p e s m args below meth kode s₁ Bd hml0 hP hK
  obtain ⟨rfl, hZ, hh⟩ := hP
  have hx := Bd.exec
  have hby := Bd.bytes
  have hb' := @hb _ _ hby
  have hml : kode.maxLocals = 2 := hml0
  have hown : s.vm.findClass "java/lang/AbstractStringBuilder" = some m.cls := findClass_of_methodNamed Bd.named
  have X0 : Stand p l e ({ frames := 1, cells := 0, slots := 0, locals := 13 } : Room) s m #[(.ref sb), (.ref str)] below meth kode s₁ [] 0 0 := Stand.of_body Bd
  have e0 : s₁.heap = h0 := by rw [← hh, Bd.state]; rfl
  have N0 := Fr.nil n0
  have pre0 : ∀ t, SF p e below s₁ (mkF m 0 #[vr sb, vr str] []) t → SF p e below s₁ (entryFrame m #[(.ref sb), (.ref str)] 2) t := fun t k => castTop (ef_42_00 m sb str) k
  have SWx := SWh
  obtain ⟨S_CS, hcs, S_AD, S_HI, S_LO, S_SI, hcat_vf⟩ := SWx
  obtain ⟨T1, X1, e1, st1⟩ := getS2 X0 hx hZ hown (host := "") (Or.inl (wq hw 85 rfl)) Via.refl e0 (S_CS.ext O0.2) (g := (mkF m 0 #[vr sb, vr str] [])) rfl (hb' d42_0)
  have cn2 := fun (t : State) (kt : SF p e below T1 (mkF m 3 #[vr sb, vr str] [.int co]) t) => pre0 t (by
    exact st1 _ kt)
  have cn3 := fun (t : State) (kt : SF p e below T1 (mkF m 7 #[vr sb, vr str] [.ref sb]) t) => cn2 t (by
    refine XS.ifNo X1.here hx rfl (hb' d42_3) rfl ((if0 _ _).trans (feq hcs).1) ?_
    exact XS.aloadN X1.here hx rfl (hb' d42_6) rfl rfl kt)
  obtain ⟨T4, X4, e4, st4⟩ := getF X1 hx hZ hown (host := "") (Or.inl (wq hw 88 rfl)) Via.refl e1 Fsbc (g := (mkF m 7 #[vr sb, vr str] [.ref sb])) rfl rfl (hb' d42_7)
  have cn5 := fun (t : State) (kt : SF p e below T4 (mkF m 11 #[vr sb, vr str] [.ref str, .int 0]) t) => cn3 t (by
    refine st4 _ ?_
    exact XS.aloadN X4.here hx rfl (hb' d42_10) rfl rfl kt)
  obtain ⟨cq6, kq6, q6a, q6b, q6c⟩ := isOf hZ e4 E_str
  obtain ⟨_, _, ⟨T6, L6, k6, n6⟩, -, X6, ⟨Lc6, hQ6, l6, y6, z6⟩, st6⟩ := X4.virtualBack hx (y := y12') (z := y12') hown (mvT hZ (wq hw 199 rfl)) (mvT hZ (wq hw 32 rfl)) (notFace_of_selects (args := #[]) (mvT hZ (wq hw 34 rfl))) (mvT hZ (wq hw 34 rfl)) (mvT hZ (wq hw 33 rfl)) (by decide) (backOf (W := 1) (rm6_0 l Z a0 hw [] str co vf h0 n0 O0 Fstc SWh) hZ (wq hw 35 rfl) (wq hw 3 rfl) (by decide) (by decide)) q6a q6c (g := (mkF m 11 #[vr sb, vr str] [.ref str, .int 0])) rfl (by rw [hml]; rfl) (Steps.refl _) (argsL := []) (rest := [(.int (0 : Int32))]) (lenOf pd_8 rfl) rfl (Nat.le_refl _) (hb' d42_11) (fun _ _ => ⟨rfl, e4, (by decide : 0 + 0 ≤ _), (by decide : 0 + 0 ≤ _)⟩)
  dsimp only [Pt.U, Pt.locs, Pt.cells, Pt.slots] at X6 l6 y6 z6 st6 hQ6
  subst l6 y6 z6
  obtain ⟨rfl, Nq6, eh6⟩ := hQ6
  have N6 := Fr.app N0 Nq6
  have cn7 := fun (t : State) (kt : SF p e below T6 (mkF m 14 #[vr sb, vr str] [.int 0, .int 0]) t) => cn5 t (by
    exact st6.trans kt)
  have cn8 := fun (t : State) (kt : SF p e below T6 (mkF m 21 #[vr sb, vr str] []) t) => cn7 t (by
    exact XS.icmpYes X6.here hx rfl (pc0 := 14) (pc' := 21) rfl (hb' d42_14) rfl (teq (by decide : (0 : Int32) = (0 : Int32))).1 (by decide) (by decide) kt)
  obtain ⟨frs, hr, hrun, hended, hW, hsame⟩ := X6.leave (v := none) (fun _ => rfl)
  refine ⟨_, _, cn8 _ ?_, hrun, hended, _, _, rfl, ?_, ⟨_, rfl⟩, hW, hsame.mono (by decide) (by decide)⟩
  · exact X6.returnOut hx Bd.returns (hb' d42_21) hr
  · show QN h0 n0 _ T6.heap _
    rw [eh6]
    exact ⟨rfl, N6, rfl⟩

theorem d42_17 : DC c40' 17 (.aload_n 0) 1 := by decide +kernel
theorem d42_18 : DC c40' 18 (.invokevirtual 195) 3 := by decide +kernel
theorem pd_25 : parseMethodDescriptor "()V" = some ⟨[], none⟩ := by decide +kernel
theorem ef_42_10 (m : MethodId) (x0 : Addr) (x1 : Addr) : entryFrame m #[(.ref x0), (.ref x1)] 2 = mkF m 0 #[.val (.ref x0), .val (.ref x1)] [] := by first | (simp [entryFrame, mkF, argsToLocals, Value.category]; done) | rfl
theorem rm42_10 (l : Launch) (Z : State) (a0 : Array Value) (hw : HW a0 Z) (ws : List Jvm.Cond) (sb str : Addr) (co : Int32) (vf : Value) (h0 : Heap) (n0 : Nat) (O0 : Old Z n0 h0) (E_sb : Exa Z h0 sb "java/lang/StringBuilder") (Fsbc : Fld Z h0 sb "java/lang/AbstractStringBuilder" "coder" "B" (.int (1 : Int32))) (E_str : Exa Z h0 str "java/lang/String") (Fstc : Fld Z h0 str "java/lang/String" "coder" "B" (.int (0 : Int32))) (SWh : SW Z co vf) :
    MT l y40' c40' 2 none ws ({ frames := 2, cells := 0, slots := 0, locals := 25 } : Room) #[(.ref sb), (.ref str)] Z h0 (QN h0 n0) := by
  refine MetFree.of_bodySF (plainFor_of_name pn_java_lang_AbstractStringBuilder) hisR ?_
  intro p e s m args below meth kode s₁ Bd hml0 hP hK
  obtain ⟨rfl, hZ, hh⟩ := hP
  have hx := Bd.exec
  have hby := Bd.bytes
  have hb' := @hb _ _ hby
  have hml : kode.maxLocals = 2 := hml0
  have hown : s.vm.findClass "java/lang/AbstractStringBuilder" = some m.cls := findClass_of_methodNamed Bd.named
  have X0 : Stand p l e ({ frames := 2, cells := 0, slots := 0, locals := 25 } : Room) s m #[(.ref sb), (.ref str)] below meth kode s₁ [] 0 0 := Stand.of_body Bd
  have e0 : s₁.heap = h0 := by rw [← hh, Bd.state]; rfl
  have N0 := Fr.nil n0
  have pre0 : ∀ t, SF p e below s₁ (mkF m 0 #[vr sb, vr str] []) t → SF p e below s₁ (entryFrame m #[(.ref sb), (.ref str)] 2) t := fun t k => castTop (ef_42_10 m sb str) k
  have SWx := SWh
  obtain ⟨S_CS, hcs, S_AD, S_HI, S_LO, S_SI, hcat_vf⟩ := SWx
  obtain ⟨T1, X1, e1, st1⟩ := getS2 X0 hx hZ hown (host := "") (Or.inl (wq hw 85 rfl)) Via.refl e0 (S_CS.ext O0.2) (g := (mkF m 0 #[vr sb, vr str] [])) rfl (hb' d42_0)
  have cn2 := fun (t : State) (kt : SF p e below T1 (mkF m 3 #[vr sb, vr str] [.int co]) t) => pre0 t (by
    exact st1 _ kt)
  have cn3 := fun (t : State) (kt : SF p e below T1 (mkF m 7 #[vr sb, vr str] [.ref sb]) t) => cn2 t (by
    refine XS.ifNo X1.here hx rfl (hb' d42_3) rfl ((if0 _ _).trans (feq hcs).1) ?_
    exact XS.aloadN X1.here hx rfl (hb' d42_6) rfl rfl kt)
  obtain ⟨T4, X4, e4, st4⟩ := getF X1 hx hZ hown (host := "") (Or.inl (wq hw 88 rfl)) Via.refl e1 Fsbc (g := (mkF m 7 #[vr sb, vr str] [.ref sb])) rfl rfl (hb' d42_7)
  have cn5 := fun (t : State) (kt : SF p e below T4 (mkF m 11 #[vr sb, vr str] [.ref str, .int 1]) t) => cn3 t (by
    refine st4 _ ?_
    exact XS.aloadN X4.here hx rfl (hb' d42_10) rfl rfl kt)
  obtain ⟨cq6, kq6, q6a, q6b, q6c⟩ := isOf hZ e4 E_str
  obtain ⟨_, _, ⟨T6, L6, k6, n6⟩, -, X6, ⟨Lc6, hQ6, l6, y6, z6⟩, st6⟩ := X4.virtualBack hx (y := y12') (z := y12') hown (mvT hZ (wq hw 199 rfl)) (mvT hZ (wq hw 32 rfl)) (notFace_of_selects (args := #[]) (mvT hZ (wq hw 34 rfl))) (mvT hZ (wq hw 34 rfl)) (mvT hZ (wq hw 33 rfl)) (by decide) (backOf (W := 1) (rm6_0 l Z a0 hw [] str co vf h0 n0 O0 Fstc SWh) hZ (wq hw 35 rfl) (wq hw 3 rfl) (by decide) (by decide)) q6a q6c (g := (mkF m 11 #[vr sb, vr str] [.ref str, .int 1])) rfl (by rw [hml]; rfl) (Steps.refl _) (argsL := []) (rest := [(.int (1 : Int32))]) (lenOf pd_8 rfl) rfl (Nat.le_refl _) (hb' d42_11) (fun _ _ => ⟨rfl, e4, (by decide : 0 + 0 ≤ _), (by decide : 0 + 0 ≤ _)⟩)
  dsimp only [Pt.U, Pt.locs, Pt.cells, Pt.slots] at X6 l6 y6 z6 st6 hQ6
  subst l6 y6 z6
  obtain ⟨rfl, Nq6, eh6⟩ := hQ6
  have N6 := Fr.app N0 Nq6
  have cn7 := fun (t : State) (kt : SF p e below T6 (mkF m 14 #[vr sb, vr str] [.int 0, .int 1]) t) => cn5 t (by
    exact st6.trans kt)
  have cn8 := fun (t : State) (kt : SF p e below T6 (mkF m 18 #[vr sb, vr str] [.ref sb]) t) => cn7 t (by
    refine XS.icmpNo X6.here hx rfl (hb' d42_14) rfl (feq (by decide : ¬ ((1 : Int32) = (0 : Int32)))).1 ?_
    exact XS.aloadN X6.here hx rfl (hb' d42_17) rfl rfl kt)
  obtain ⟨cq9, q9, q9'⟩ := E_sb.cell
  obtain ⟨_, _, ⟨T9, L9, k9, n9⟩, -, X9, ⟨Lc9, hQ9, l9, y9, z9⟩, st9⟩ := X6.privateBack hx (y := y39') hown (mvT hZ (wq hw 200 rfl)) (mvT hZ (wq hw 201 rfl)) (own_selq (y := y39') hZ (wq hw 203 rfl) (wq hw 202 rfl) (wq hw 201 rfl) (by decide)) (Cond.privateMethod_at (mvP hZ (wq hw 202 rfl) (args := #[]))) (mvT hZ (wq hw 204 rfl)) (by decide) (backOf (W := 0) (rm43_1 l Z a0 hw [] sb co vf h0 n0 O0 E_sb Fsbc SWh) hZ (wq hw 204 rfl) (wq hw 82 rfl) (by decide) (by decide)) (g := (mkF m 18 #[vr sb, vr str] [.ref sb])) rfl (by rw [hml]; rfl) (Steps.refl _) (a := sb) (by rw [eh6]; exact q9) q9' (argsL := []) (rest := []) (lenOf pd_25 rfl) rfl (Nat.le_refl _) (hb' d42_18) (fun _ _ => ⟨rfl, eh6, (by decide : 0 + 0 ≤ _), (by decide : 0 + 0 ≤ _)⟩)
  dsimp only [Pt.U, Pt.locs, Pt.cells, Pt.slots] at X9 l9 y9 z9 st9 hQ9
  subst l9 y9 z9
  obtain ⟨rfl, Nq9, eh9⟩ := hQ9
  have N9 := Fr.app N6 Nq9
  have cn10 := fun (t : State) (kt : SF p e below T9 (mkF m 21 #[vr sb, vr str] []) t) => cn8 t (by
    exact st9.trans kt)
  obtain ⟨frs, hr, hrun, hended, hW, hsame⟩ := X9.leave (v := none) (fun _ => rfl)
  refine ⟨_, _, cn10 _ ?_, hrun, hended, _, _, rfl, ?_, ⟨_, rfl⟩, hW, hsame.mono (by decide) (by decide)⟩
  · exact X9.returnOut hx Bd.returns (hb' d42_21) hr
  · show QN h0 n0 _ T9.heap _
    rw [eh9]
    exact ⟨rfl, N9, rfl⟩

theorem ef_42_01 (m : MethodId) (x0 : Addr) (x1 : Addr) : entryFrame m #[(.ref x0), (.ref x1)] 2 = mkF m 0 #[.val (.ref x0), .val (.ref x1)] [] := by first | (simp [entryFrame, mkF, argsToLocals, Value.category]; done) | rfl
theorem rm42_01 (l : Launch) (Z : State) (a0 : Array Value) (hw : HW a0 Z) (ws : List Jvm.Cond) (sb vb : Addr) (k : ClassId) (f : Nat → Value) (str : Addr) (co : Int32) (vf : Value) (h0 : Heap) (n0 : Nat) (O0 : Old Z n0 h0) (g_sb : n0 ≤ sb) (Bh : SBF Z h0 sb vb 0 0) (A_vb : AF Z h0 vb k .byte 200 f) (hfb : own_fb 200 f) (E_str : Exa Z h0 str "java/lang/String") (Fstc : Fld Z h0 str "java/lang/String" "coder" "B" (.int (1 : Int32))) (SWh : SW Z co vf) :
    MT l y40' c40' 2 none ws ({ frames := 6, cells := 1, slots := 804, locals := 89 } : Room) #[(.ref sb), (.ref str)] Z h0 (QSB Z sb 1 0 400 (fun _ => True) none h0 n0) := by
  refine MetFree.of_bodySF (plainFor_of_name pn_java_lang_AbstractStringBuilder) hisR ?_
  intro p e s m args below meth kode s₁ Bd hml0 hP hK
  obtain ⟨rfl, hZ, hh⟩ := hP
  have hx := Bd.exec
  have hby := Bd.bytes
  have hb' := @hb _ _ hby
  have hml : kode.maxLocals = 2 := hml0
  have hown : s.vm.findClass "java/lang/AbstractStringBuilder" = some m.cls := findClass_of_methodNamed Bd.named
  have X0 : Stand p l e ({ frames := 6, cells := 1, slots := 804, locals := 89 } : Room) s m #[(.ref sb), (.ref str)] below meth kode s₁ [] 0 0 := Stand.of_body Bd
  have e0 : s₁.heap = h0 := by rw [← hh, Bd.state]; rfl
  have N0 := Fr.nil n0
  have pre0 : ∀ t, SF p e below s₁ (mkF m 0 #[vr sb, vr str] []) t → SF p e below s₁ (entryFrame m #[(.ref sb), (.ref str)] 2) t := fun t k => castTop (ef_42_01 m sb str) k
  have SWx := SWh
  obtain ⟨S_CS, hcs, S_AD, S_HI, S_LO, S_SI, hcat_vf⟩ := SWx
  have Bx := Bh
  obtain ⟨E_sb, Fsbv, Fsbc, Fsbn, Fsbm⟩ := Bx
  obtain ⟨T1, X1, e1, st1⟩ := getS2 X0 hx hZ hown (host := "") (Or.inl (wq hw 85 rfl)) Via.refl e0 (S_CS.ext O0.2) (g := (mkF m 0 #[vr sb, vr str] [])) rfl (hb' d42_0)
  have cn2 := fun (t : State) (kt : SF p e below T1 (mkF m 3 #[vr sb, vr str] [.int co]) t) => pre0 t (by
    exact st1 _ kt)
  have cn3 := fun (t : State) (kt : SF p e below T1 (mkF m 7 #[vr sb, vr str] [.ref sb]) t) => cn2 t (by
    refine XS.ifNo X1.here hx rfl (hb' d42_3) rfl ((if0 _ _).trans (feq hcs).1) ?_
    exact XS.aloadN X1.here hx rfl (hb' d42_6) rfl rfl kt)
  obtain ⟨T4, X4, e4, st4⟩ := getF X1 hx hZ hown (host := "") (Or.inl (wq hw 88 rfl)) Via.refl e1 Fsbc (g := (mkF m 7 #[vr sb, vr str] [.ref sb])) rfl rfl (hb' d42_7)
  have cn5 := fun (t : State) (kt : SF p e below T4 (mkF m 11 #[vr sb, vr str] [.ref str, .int 0]) t) => cn3 t (by
    refine st4 _ ?_
    exact XS.aloadN X4.here hx rfl (hb' d42_10) rfl rfl kt)
  obtain ⟨cq6, kq6, q6a, q6b, q6c⟩ := isOf hZ e4 E_str
  obtain ⟨_, _, ⟨T6, L6, k6, n6⟩, -, X6, ⟨Lc6, hQ6, l6, y6, z6⟩, st6⟩ := X4.virtualBack hx (y := y12') (z := y12') hown (mvT hZ (wq hw 199 rfl)) (mvT hZ (wq hw 32 rfl)) (notFace_of_selects (args := #[]) (mvT hZ (wq hw 34 rfl))) (mvT hZ (wq hw 34 rfl)) (mvT hZ (wq hw 33 rfl)) (by decide) (backOf (W := 1) (rm6_1 l Z a0 hw [] str co vf h0 n0 O0 Fstc SWh) hZ (wq hw 35 rfl) (wq hw 3 rfl) (by decide) (by decide)) q6a q6c (g := (mkF m 11 #[vr sb, vr str] [.ref str, .int 0])) rfl (by rw [hml]; rfl) (Steps.refl _) (argsL := []) (rest := [(.int (0 : Int32))]) (lenOf pd_8 rfl) rfl (Nat.le_refl _) (hb' d42_11) (fun _ _ => ⟨rfl, e4, (by decide : 0 + 0 ≤ _), (by decide : 0 + 0 ≤ _)⟩)
  dsimp only [Pt.U, Pt.locs, Pt.cells, Pt.slots] at X6 l6 y6 z6 st6 hQ6
  subst l6 y6 z6
  obtain ⟨rfl, Nq6, eh6⟩ := hQ6
  have N6 := Fr.app N0 Nq6
  have cn7 := fun (t : State) (kt : SF p e below T6 (mkF m 14 #[vr sb, vr str] [.int 1, .int 0]) t) => cn5 t (by
    exact st6.trans kt)
  have cn8 := fun (t : State) (kt : SF p e below T6 (mkF m 18 #[vr sb, vr str] [.ref sb]) t) => cn7 t (by
    refine XS.icmpNo X6.here hx rfl (hb' d42_14) rfl (feq (by decide : ¬ ((0 : Int32) = (1 : Int32)))).1 ?_
    exact XS.aloadN X6.here hx rfl (hb' d42_17) rfl rfl kt)
  obtain ⟨cq9, q9, q9'⟩ := E_sb.cell
  obtain ⟨_, _, ⟨T9, L9, k9, n9⟩, -, X9, ⟨Lc9, hQ9, l9, y9, z9⟩, st9⟩ := X6.privateBack hx (y := y39') hown (mvT hZ (wq hw 200 rfl)) (mvT hZ (wq hw 201 rfl)) (own_selq (y := y39') hZ (wq hw 203 rfl) (wq hw 202 rfl) (wq hw 201 rfl) (by decide)) (Cond.privateMethod_at (mvP hZ (wq hw 202 rfl) (args := #[]))) (mvT hZ (wq hw 204 rfl)) (by decide) (backOf (W := 0) (rm43_0 l Z a0 hw [] sb vb k f co vf h0 n0 O0 g_sb ⟨E_sb, Fsbv, Fsbc, Fsbn, Fsbm⟩ A_vb hfb SWh) hZ (wq hw 204 rfl) (wq hw 82 rfl) (by decide) (by decide)) (g := (mkF m 18 #[vr sb, vr str] [.ref sb])) rfl (by rw [hml]; rfl) (Steps.refl _) (a := sb) (by rw [eh6]; exact q9) q9' (argsL := []) (rest := []) (lenOf pd_25 rfl) rfl (Nat.le_refl _) (hb' d42_18) (fun _ _ => ⟨rfl, eh6, (by decide : 0 + 1 ≤ _), (by decide : 0 + 804 ≤ _)⟩)
  dsimp only [Pt.U, Pt.locs, Pt.cells, Pt.slots] at X9 l9 y9 z9 st9 hQ9
  subst l9 y9 z9
  obtain ⟨r9x, kq9, f9, rfl, Nq9, Kq9, szq9, ⟨E_sb9, Fsbv9, Fsbc9, Fsbn9, Fsbm9⟩, Aq9, hfb9, hB9⟩ := hQ9
  have N9 := Fr.app N6 Nq9
  have sz_r9x : h0.size ≤ r9x := Nat.le_trans (Keep.refl h0 [sb]).1 szq9
  have g_r9x : n0 ≤ r9x := Nat.le_trans (O0.1 ▸ O0.2.1) sz_r9x
  have ne_sb_r9x : sb ≠ r9x := Nat.ne_of_lt (Nat.lt_of_lt_of_le E_sb.lt szq9)
  have ne_vb_r9x : vb ≠ r9x := Nat.ne_of_lt (Nat.lt_of_lt_of_le A_vb.lt szq9)
  have ne_str_r9x : str ≠ r9x := Nat.ne_of_lt (Nat.lt_of_lt_of_le E_str.lt szq9)
  have K9 := Kq9
  have E_sb_e9 := E_sb.keep K9
  have A_vb_e9 := A_vb.keep K9 (ninS (Ne.symm (own_neA E_sb A_vb (wq hw 73 rfl))) nin0)
  have E_str_e9 := E_str.keep K9
  have Fstc_e9 := Fstc.keep K9 (ninS (Exa.ne E_str E_sb (by decide)) nin0)
  have O9 := O0.keep K9 (allS g_sb all0)
  have KK9 : Keep h0 T9.heap [sb] := (Keep.refl h0 [sb]).trans K9 (allS (Or.inl (List.mem_of_getElem? (i := 0) rfl)) all0)
  have cn10 := fun (t : State) (kt : SF p e below T9 (mkF m 21 #[vr sb, vr str] []) t) => cn8 t (by
    exact st9.trans kt)
  obtain ⟨frs, hr, hrun, hended, hW, hsame⟩ := X9.leave (v := none) (fun _ => rfl)
  refine ⟨_, _, cn10 _ ?_, hrun, hended, _, _, rfl, ?_, ⟨_, rfl⟩, hW, hsame.mono (by decide) (by decide)⟩
  · exact X9.returnOut hx Bd.returns (hb' d42_21) hr
  · show QSB Z sb 1 0 400 (fun _ => True) none h0 n0 _ T9.heap _
    exact ⟨r9x, _, _, rfl, N9, KK9, sz_r9x, ⟨E_sb9, Fsbv9, Fsbc9, Fsbn9, Fsbm9⟩, Aq9, hfb9, trivial⟩

theorem own_cp_at {f g : Nat → Value} {d n j : Nat} (h : j < n) : own_cp f g 0 d n (d + j) = f j := by
  rw [own_cp_in (by omega) (by omega)]
  congr 1
  omega
def own_dots (f : Nat → Value) : Prop := ∀ j, j < 3 → f j = .int 46
theorem own_d46 {f : Nat → Value} (h : own_dots f) : ∀ j, j < 3 → f j = .int (([46, 46, 46] : List Int32).getD j 0).toInt8.toInt32 ∧ 0 ≤ (([46, 46, 46] : List Int32).getD j 0).toInt ∧ (([46, 46, 46] : List Int32).getD j 0).toInt ≤ 255 := fun j hj => by
  rw [h j hj]
  match j, hj with
  | 0, _ => decide
  | 1, _ => decide
  | 2, _ => decide

theorem d47_0 : DC c41' 0 (.aload_n 0) 1 := by decide +kernel
theorem d47_1 : DC c41' 1 (.invokevirtual 335) 3 := by decide +kernel
theorem d47_4 : DC c41' 4 (.iload_n 3) 1 := by decide +kernel
theorem d47_5 : DC c41' 5 (.if_icmp .ne 23) 3 := by decide +kernel
theorem d47_8 : DC c41' 8 (.aload_n 0) 1 := by decide +kernel
theorem d47_9 : DC c41' 9 (.getfield 9) 3 := by decide +kernel
theorem d47_12 : DC c41' 12 (.iconst 0) 1 := by decide +kernel
theorem d47_13 : DC c41' 13 (.aload_n 1) 1 := by decide +kernel
theorem d47_14 : DC c41' 14 (.iload_n 2) 1 := by decide +kernel
theorem d47_15 : DC c41' 15 (.iload_n 3) 1 := by decide +kernel
theorem d47_16 : DC c41' 16 (.ishl) 1 := by decide +kernel
theorem d47_17 : DC c41' 17 (.aload_n 0) 1 := by decide +kernel
theorem d47_18 : DC c41' 18 (.getfield 9) 3 := by decide +kernel
theorem d47_21 : DC c41' 21 (.arraylength) 1 := by decide +kernel
theorem d47_22 : DC c41' 22 (.invokestatic 212) 3 := by decide +kernel
theorem d47_25 : DC c41' 25 (.goto 18) 3 := by decide +kernel
theorem d47_43 : DC c41' 43 (.return_) 1 := by decide +kernel
theorem ef_47_0 (m : MethodId) (x0 : Addr) (x1 : Addr) (x2 : Int32) (x3 : Int32) : entryFrame m #[(.ref x0), (.ref x1), (.int x2), (.int x3)] 4 = mkF m 0 #[.val (.ref x0), .val (.ref x1), .val (.int x2), .val (.int x3)] [] := by first | (simp [entryFrame, mkF, argsToLocals, Value.category]; done) | rfl
theorem rm47_0 (l : Launch) (Z : State) (a0 : Array Value) (hw : HW a0 Z) (ws : List Jvm.Cond) (str vs : Addr) (ks : ClassId) (fs : Nat → Value) (da : Addr) (kd : ClassId) (g : Nat → Value) (co : Int32) (vf : Value) (h0 : Heap) (n0 : Nat) (O0 : Old Z n0 h0) (E_str : Exa Z h0 str "java/lang/String") (Fstv : Fld Z h0 str "java/lang/String" "value" "[B" (.ref vs)) (Fstc : Fld Z h0 str "java/lang/String" "coder" "B" (.int (0 : Int32))) (A_vs : AF Z h0 vs ks .byte 200 fs) (hfs : own_fb 200 fs) (g_da : n0 ≤ da) (nesd : vs ≠ da) (A_da : AF Z h0 da kd .byte 200 g) (hfd : own_fb 200 g) (SWh : SW Z co vf) :
    MT l y41' c41' 4 none ws ({ frames := 1, cells := 0, slots := 0, locals := 40 } : Room) #[(.ref str), (.ref da), (.int (0 : Int32)), (.int (0 : Int32))] Z h0 (QDA Z da kd 200 (fun f' => (∀ j, j < 200 → f' (0 + j) = fs j) ∧ ∀ q, q < 0 → f' q = g q) h0 n0) := by
  refine MetFree.of_bodySF (plainFor_of_name pn_java_lang_String) hisR ?_
  intro p e s m args below meth kode s₁ Bd hml0 hP hK
  obtain ⟨rfl, hZ, hh⟩ := hP
  have hx := Bd.exec
  have hby := Bd.bytes
  have hb' := @hb _ _ hby
  have hml : kode.maxLocals = 4 := hml0
  have hown : s.vm.findClass "java/lang/String" = some m.cls := findClass_of_methodNamed Bd.named
  have X0 : Stand p l e ({ frames := 1, cells := 0, slots := 0, locals := 40 } : Room) s m #[(.ref str), (.ref da), (.int (0 : Int32)), (.int (0 : Int32))] below meth kode s₁ [] 0 0 := Stand.of_body Bd
  have e0 : s₁.heap = h0 := by rw [← hh, Bd.state]; rfl
  have N0 := Fr.nil n0
  have pre0 : ∀ t, SF p e below s₁ (mkF m 0 #[vr str, vr da, vi 0, vi 0] []) t → SF p e below s₁ (entryFrame m #[(.ref str), (.ref da), (.int (0 : Int32)), (.int (0 : Int32))] 4) t := fun t k => castTop (ef_47_0 m str da (0 : Int32) (0 : Int32)) k
  have SWx := SWh
  obtain ⟨S_CS, hcs, S_AD, S_HI, S_LO, S_SI, hcat_vf⟩ := SWx
  have cn1 := fun (t : State) (kt : SF p e below s₁ (mkF m 1 #[vr str, vr da, vi 0, vi 0] [.ref str]) t) => pre0 t (by
    exact XS.aloadN X0.here hx rfl (hb' d47_0) rfl rfl kt)
  obtain ⟨cq2, kq2, q2a, q2b, q2c⟩ := isOf hZ e0 E_str
  obtain ⟨_, _, ⟨T2, L2, k2, n2⟩, -, X2, ⟨Lc2, hQ2, l2, y2, z2⟩, st2⟩ := X0.virtualBack hx (y := y12') (z := y12') hown (mvT hZ (wq hw 31 rfl)) (mvT hZ (wq hw 32 rfl)) (notFace_of_selects (args := #[]) (mvT hZ (wq hw 34 rfl))) (mvT hZ (wq hw 34 rfl)) (mvT hZ (wq hw 33 rfl)) (by decide) (backOf (W := 0) (rm6_0 l Z a0 hw [] str co vf h0 n0 O0 Fstc SWh) hZ (wq hw 35 rfl) (wq hw 3 rfl) (by decide) (by decide)) q2a q2c (g := (mkF m 1 #[vr str, vr da, vi 0, vi 0] [.ref str])) rfl (by rw [hml]; rfl) (Steps.refl _) (argsL := []) (rest := []) (lenOf pd_8 rfl) rfl (Nat.le_refl _) (hb' d47_1) (fun _ _ => ⟨rfl, e0, (by decide : 0 + 0 ≤ _), (by decide : 0 + 0 ≤ _)⟩)
  dsimp only [Pt.U, Pt.locs, Pt.cells, Pt.slots] at X2 l2 y2 z2 st2 hQ2
  subst l2 y2 z2
  obtain ⟨rfl, Nq2, eh2⟩ := hQ2
  have N2 := Fr.app N0 Nq2
  have cn3 := fun (t : State) (kt : SF p e below T2 (mkF m 5 #[vr str, vr da, vi 0, vi 0] [.int 0, .int 0]) t) => cn1 t (by
    refine st2.trans ?_
    exact XS.iloadN X2.here hx rfl (hb' d47_4) rfl kt)
  have cn4 := fun (t : State) (kt : SF p e below T2 (mkF m 9 #[vr str, vr da, vi 0, vi 0] [.ref str]) t) => cn3 t (by
    refine XS.icmpNo X2.here hx rfl (hb' d47_5) rfl (teq (by decide : (0 : Int32) = (0 : Int32))).2 ?_
    exact XS.aloadN X2.here hx rfl (hb' d47_8) rfl rfl kt)
  obtain ⟨T5, X5, e5, st5⟩ := getF X2 hx hZ hown (host := "") (Or.inl (wq hw 20 rfl)) Via.refl eh2 Fstv (g := (mkF m 9 #[vr str, vr da, vi 0, vi 0] [.ref str])) rfl rfl (hb' d47_9)
  have cn6 := fun (t : State) (kt : SF p e below T5 (mkF m 18 #[vr str, vr da, vi 0, vi 0] [.ref str, .int 0, .ref da, .int 0, .ref vs]) t) => cn4 t (by
    refine st5 _ ?_
    refine XS.iconst X5.here hx rfl (hb' d47_12) ?_
    refine XS.aloadN X5.here hx rfl (hb' d47_13) rfl rfl ?_
    refine XS.iloadN X5.here hx rfl (hb' d47_14) rfl ?_
    refine XS.iloadN X5.here hx rfl (hb' d47_15) rfl ?_
    refine XS.ishl X5.here hx rfl (hb' d47_16) rfl ?_
    exact XS.aloadN X5.here hx rfl (hb' d47_17) rfl rfl kt)
  obtain ⟨T7, X7, e7, st7⟩ := getF X5 hx hZ hown (host := "") (Or.inl (wq hw 20 rfl)) Via.refl e5 Fstv (g := (mkF m 18 #[vr str, vr da, vi 0, vi 0] [.ref str, .int 0, .ref da, .int 0, .ref vs])) rfl rfl (hb' d47_18)
  have cn8 := fun (t : State) (kt : SF p e below T7 (mkF m 21 #[vr str, vr da, vi 0, vi 0] [.ref vs, .int 0, .ref da, .int 0, .ref vs]) t) => cn6 t (by
    exact st7 _ kt)
  have AFx9 := A_vs
  obtain ⟨cl9, Ar9, q9, S9, H9⟩ := AFx9
  have cn10 := fun (t : State) (kt : SF p e below T7 (mkF m 22 #[vr str, vr da, vi 0, vi 0] [.int (Nat.toInt32 200), .int 0, .ref da, .int 0, .ref vs]) t) => cn8 t (by
    refine X7.arraylength hx (by rw [e7]; exact Ar9.1) (State.isArrayOf_alike hZ.alike Ar9.2.1) (g := (mkF m 21 #[vr str, vr da, vi 0, vi 0] [.ref vs, .int 0, .ref da, .int 0, .ref vs])) rfl rfl (hb' d47_21) _ ?_
    rw [S9]
    exact kt)
  have hs11 : ¬ (0 : Int32) < 0 ∧ ((0 : Int32)).toNatClampNeg = 0 := own_ix (i := 0) (by omega)
  have hd11 : ¬ (0 : Int32) < 0 ∧ ((0 : Int32)).toNatClampNeg = 0 := own_ix (i := 0) (by omega)
  have hn11 : ¬ (Nat.toInt32 200) < 0 ∧ ((Nat.toInt32 200)).toNatClampNeg = 200 := own_ix (i := 200) (by omega)
  have ha11 := own_ix (i := 200) (by omega)
  have hb11 := own_ix (i := 200) (by omega)
  have VS11 := own_arv (d := .int 0) A_vs hfs (by omega)
  have VD11 := own_arv (d := .int 0) A_da hfd (by omega)
  obtain ⟨T11, h11, L11, X11, e11, N11, Kq11, VR11, st11⟩ := cpA X7 hx hZ hown (wq hw 223 rfl) (wq hw 148 rfl) (wq hw 146 rfl) (wq hw 147 rfl) e7 VS11 VD11 (Or.inl ⟨rfl, rfl⟩) hs11.1 hd11.1 hn11.1 (by simp only [hs11.2, hn11.2, ha11.2]; omega) (by simp only [hd11.2, hn11.2, hb11.2]; omega) rfl (by simp only [hd11.2, hn11.2, List.length_map, List.length_range]; omega) N2 g_da (g := (mkF m 22 #[vr str, vr da, vi 0, vi 0] [.int (Nat.toInt32 200), .int 0, .ref da, .int 0, .ref vs])) rfl (by rw [hml]; rfl) rfl (hb' d47_22) (by decide) (W := 0) (Nat.le_refl _) (by decide)
  have K11 := Kq11
  have E_str_e11 := E_str.keep K11
  have Fstv_e11 := Fstv.keep K11 (ninS (own_neA E_str A_da (wq hw 2 rfl)) nin0)
  have Fstc_e11 := Fstc.keep K11 (ninS (own_neA E_str A_da (wq hw 2 rfl)) nin0)
  have A_vs_e11 := A_vs.keep K11 (ninS nesd nin0)
  have O11 := O0.keep K11 (allS g_da all0)
  have KK11 : Keep h0 h11 [da] := (Keep.refl h0 [da]).trans K11 (allS (Or.inl (List.mem_of_getElem? (i := 0) rfl)) all0)
  have AF11 : AF Z h11 da kd .byte 200 (own_cp fs g 0 0 200) := (AF.of_arv VR11 hb11.2).congr (fun q hq => by simp only [hd11.2, hn11.2, hs11.2]; exact own_cpL (by omega) (by omega) hq)
  have cn12 := fun (t : State) (kt : SF p e below T11 (mkF m 43 #[vr str, vr da, vi 0, vi 0] []) t) => cn10 t (by
    refine st11 _ ?_
    exact XS.goto X11.here hx rfl (pc0 := 25) (pc' := 43) rfl (hb' d47_25) (by decide) (by decide) kt)
  obtain ⟨frs, hr, hrun, hended, hW, hsame⟩ := X11.leave (v := none) (fun _ => rfl)
  refine ⟨_, _, cn12 _ ?_, hrun, hended, _, _, rfl, ?_, ⟨_, rfl⟩, hW, hsame.mono (by decide) (by decide)⟩
  · exact X11.returnOut hx Bd.returns (hb' d47_43) hr
  · show QDA Z da kd 200 (fun f' => (∀ j, j < 200 → f' (0 + j) = fs j) ∧ ∀ q, q < 0 → f' q = g q) h0 n0 _ T11.heap _
    rw [e11]
    exact ⟨_, rfl, N11, KK11, AF11, own_fb_cp hfs hfd (by omega), fun j hj => own_cp_at hj, fun q hq => own_cp_lo hq⟩

theorem ef_47_1 (m : MethodId) (x0 : Addr) (x1 : Addr) (x2 : Int32) (x3 : Int32) : entryFrame m #[(.ref x0), (.ref x1), (.int x2), (.int x3)] 4 = mkF m 0 #[.val (.ref x0), .val (.ref x1), .val (.int x2), .val (.int x3)] [] := by first | (simp [entryFrame, mkF, argsToLocals, Value.category]; done) | rfl
theorem rm47_1 (l : Launch) (Z : State) (a0 : Array Value) (hw : HW a0 Z) (ws : List Jvm.Cond) (str vs : Addr) (ks : ClassId) (fs : Nat → Value) (da : Addr) (kd : ClassId) (g : Nat → Value) (co : Int32) (vf : Value) (h0 : Heap) (n0 : Nat) (O0 : Old Z n0 h0) (E_str : Exa Z h0 str "java/lang/String") (Fstv : Fld Z h0 str "java/lang/String" "value" "[B" (.ref vs)) (Fstc : Fld Z h0 str "java/lang/String" "coder" "B" (.int (1 : Int32))) (A_vs : AF Z h0 vs ks .byte 400 fs) (hfs : own_fb 400 fs) (g_da : n0 ≤ da) (nesd : vs ≠ da) (A_da : AF Z h0 da kd .byte 400 g) (hfd : own_fb 400 g) (SWh : SW Z co vf) :
    MT l y41' c41' 4 none ws ({ frames := 1, cells := 0, slots := 0, locals := 40 } : Room) #[(.ref str), (.ref da), (.int (0 : Int32)), (.int (1 : Int32))] Z h0 (QDA Z da kd 400 (fun f' => (∀ j, j < 400 → f' (0 + j) = fs j) ∧ ∀ q, q < 0 → f' q = g q) h0 n0) := by
  refine MetFree.of_bodySF (plainFor_of_name pn_java_lang_String) hisR ?_
  intro p e s m args below meth kode s₁ Bd hml0 hP hK
  obtain ⟨rfl, hZ, hh⟩ := hP
  have hx := Bd.exec
  have hby := Bd.bytes
  have hb' := @hb _ _ hby
  have hml : kode.maxLocals = 4 := hml0
  have hown : s.vm.findClass "java/lang/String" = some m.cls := findClass_of_methodNamed Bd.named
  have X0 : Stand p l e ({ frames := 1, cells := 0, slots := 0, locals := 40 } : Room) s m #[(.ref str), (.ref da), (.int (0 : Int32)), (.int (1 : Int32))] below meth kode s₁ [] 0 0 := Stand.of_body Bd
  have e0 : s₁.heap = h0 := by rw [← hh, Bd.state]; rfl
  have N0 := Fr.nil n0
  have pre0 : ∀ t, SF p e below s₁ (mkF m 0 #[vr str, vr da, vi 0, vi 1] []) t → SF p e below s₁ (entryFrame m #[(.ref str), (.ref da), (.int (0 : Int32)), (.int (1 : Int32))] 4) t := fun t k => castTop (ef_47_1 m str da (0 : Int32) (1 : Int32)) k
  have SWx := SWh
  obtain ⟨S_CS, hcs, S_AD, S_HI, S_LO, S_SI, hcat_vf⟩ := SWx
  have cn1 := fun (t : State) (kt : SF p e below s₁ (mkF m 1 #[vr str, vr da, vi 0, vi 1] [.ref str]) t) => pre0 t (by
    exact XS.aloadN X0.here hx rfl (hb' d47_0) rfl rfl kt)
  obtain ⟨cq2, kq2, q2a, q2b, q2c⟩ := isOf hZ e0 E_str
  obtain ⟨_, _, ⟨T2, L2, k2, n2⟩, -, X2, ⟨Lc2, hQ2, l2, y2, z2⟩, st2⟩ := X0.virtualBack hx (y := y12') (z := y12') hown (mvT hZ (wq hw 31 rfl)) (mvT hZ (wq hw 32 rfl)) (notFace_of_selects (args := #[]) (mvT hZ (wq hw 34 rfl))) (mvT hZ (wq hw 34 rfl)) (mvT hZ (wq hw 33 rfl)) (by decide) (backOf (W := 0) (rm6_1 l Z a0 hw [] str co vf h0 n0 O0 Fstc SWh) hZ (wq hw 35 rfl) (wq hw 3 rfl) (by decide) (by decide)) q2a q2c (g := (mkF m 1 #[vr str, vr da, vi 0, vi 1] [.ref str])) rfl (by rw [hml]; rfl) (Steps.refl _) (argsL := []) (rest := []) (lenOf pd_8 rfl) rfl (Nat.le_refl _) (hb' d47_1) (fun _ _ => ⟨rfl, e0, (by decide : 0 + 0 ≤ _), (by decide : 0 + 0 ≤ _)⟩)
  dsimp only [Pt.U, Pt.locs, Pt.cells, Pt.slots] at X2 l2 y2 z2 st2 hQ2
  subst l2 y2 z2
  obtain ⟨rfl, Nq2, eh2⟩ := hQ2
  have N2 := Fr.app N0 Nq2
  have cn3 := fun (t : State) (kt : SF p e below T2 (mkF m 5 #[vr str, vr da, vi 0, vi 1] [.int 1, .int 1]) t) => cn1 t (by
    refine st2.trans ?_
    exact XS.iloadN X2.here hx rfl (hb' d47_4) rfl kt)
  have cn4 := fun (t : State) (kt : SF p e below T2 (mkF m 9 #[vr str, vr da, vi 0, vi 1] [.ref str]) t) => cn3 t (by
    refine XS.icmpNo X2.here hx rfl (hb' d47_5) rfl (teq (by decide : (1 : Int32) = (1 : Int32))).2 ?_
    exact XS.aloadN X2.here hx rfl (hb' d47_8) rfl rfl kt)
  obtain ⟨T5, X5, e5, st5⟩ := getF X2 hx hZ hown (host := "") (Or.inl (wq hw 20 rfl)) Via.refl eh2 Fstv (g := (mkF m 9 #[vr str, vr da, vi 0, vi 1] [.ref str])) rfl rfl (hb' d47_9)
  have cn6 := fun (t : State) (kt : SF p e below T5 (mkF m 18 #[vr str, vr da, vi 0, vi 1] [.ref str, .int 0, .ref da, .int 0, .ref vs]) t) => cn4 t (by
    refine st5 _ ?_
    refine XS.iconst X5.here hx rfl (hb' d47_12) ?_
    refine XS.aloadN X5.here hx rfl (hb' d47_13) rfl rfl ?_
    refine XS.iloadN X5.here hx rfl (hb' d47_14) rfl ?_
    refine XS.iloadN X5.here hx rfl (hb' d47_15) rfl ?_
    refine XS.ishl X5.here hx rfl (hb' d47_16) rfl ?_
    exact XS.aloadN X5.here hx rfl (hb' d47_17) rfl rfl kt)
  obtain ⟨T7, X7, e7, st7⟩ := getF X5 hx hZ hown (host := "") (Or.inl (wq hw 20 rfl)) Via.refl e5 Fstv (g := (mkF m 18 #[vr str, vr da, vi 0, vi 1] [.ref str, .int 0, .ref da, .int 0, .ref vs])) rfl rfl (hb' d47_18)
  have cn8 := fun (t : State) (kt : SF p e below T7 (mkF m 21 #[vr str, vr da, vi 0, vi 1] [.ref vs, .int 0, .ref da, .int 0, .ref vs]) t) => cn6 t (by
    exact st7 _ kt)
  have AFx9 := A_vs
  obtain ⟨cl9, Ar9, q9, S9, H9⟩ := AFx9
  have cn10 := fun (t : State) (kt : SF p e below T7 (mkF m 22 #[vr str, vr da, vi 0, vi 1] [.int (Nat.toInt32 400), .int 0, .ref da, .int 0, .ref vs]) t) => cn8 t (by
    refine X7.arraylength hx (by rw [e7]; exact Ar9.1) (State.isArrayOf_alike hZ.alike Ar9.2.1) (g := (mkF m 21 #[vr str, vr da, vi 0, vi 1] [.ref vs, .int 0, .ref da, .int 0, .ref vs])) rfl rfl (hb' d47_21) _ ?_
    rw [S9]
    exact kt)
  have hs11 : ¬ (0 : Int32) < 0 ∧ ((0 : Int32)).toNatClampNeg = 0 := own_ix (i := 0) (by omega)
  have hd11 : ¬ (0 : Int32) < 0 ∧ ((0 : Int32)).toNatClampNeg = 0 := own_ix (i := 0) (by omega)
  have hn11 : ¬ (Nat.toInt32 400) < 0 ∧ ((Nat.toInt32 400)).toNatClampNeg = 400 := own_ix (i := 400) (by omega)
  have ha11 := own_ix (i := 400) (by omega)
  have hb11 := own_ix (i := 400) (by omega)
  have VS11 := own_arv (d := .int 0) A_vs hfs (by omega)
  have VD11 := own_arv (d := .int 0) A_da hfd (by omega)
  obtain ⟨T11, h11, L11, X11, e11, N11, Kq11, VR11, st11⟩ := cpA X7 hx hZ hown (wq hw 223 rfl) (wq hw 148 rfl) (wq hw 146 rfl) (wq hw 147 rfl) e7 VS11 VD11 (Or.inl ⟨rfl, rfl⟩) hs11.1 hd11.1 hn11.1 (by simp only [hs11.2, hn11.2, ha11.2]; omega) (by simp only [hd11.2, hn11.2, hb11.2]; omega) rfl (by simp only [hd11.2, hn11.2, List.length_map, List.length_range]; omega) N2 g_da (g := (mkF m 22 #[vr str, vr da, vi 0, vi 1] [.int (Nat.toInt32 400), .int 0, .ref da, .int 0, .ref vs])) rfl (by rw [hml]; rfl) rfl (hb' d47_22) (by decide) (W := 0) (Nat.le_refl _) (by decide)
  have K11 := Kq11
  have E_str_e11 := E_str.keep K11
  have Fstv_e11 := Fstv.keep K11 (ninS (own_neA E_str A_da (wq hw 2 rfl)) nin0)
  have Fstc_e11 := Fstc.keep K11 (ninS (own_neA E_str A_da (wq hw 2 rfl)) nin0)
  have A_vs_e11 := A_vs.keep K11 (ninS nesd nin0)
  have O11 := O0.keep K11 (allS g_da all0)
  have KK11 : Keep h0 h11 [da] := (Keep.refl h0 [da]).trans K11 (allS (Or.inl (List.mem_of_getElem? (i := 0) rfl)) all0)
  have AF11 : AF Z h11 da kd .byte 400 (own_cp fs g 0 0 400) := (AF.of_arv VR11 hb11.2).congr (fun q hq => by simp only [hd11.2, hn11.2, hs11.2]; exact own_cpL (by omega) (by omega) hq)
  have cn12 := fun (t : State) (kt : SF p e below T11 (mkF m 43 #[vr str, vr da, vi 0, vi 1] []) t) => cn10 t (by
    refine st11 _ ?_
    exact XS.goto X11.here hx rfl (pc0 := 25) (pc' := 43) rfl (hb' d47_25) (by decide) (by decide) kt)
  obtain ⟨frs, hr, hrun, hended, hW, hsame⟩ := X11.leave (v := none) (fun _ => rfl)
  refine ⟨_, _, cn12 _ ?_, hrun, hended, _, _, rfl, ?_, ⟨_, rfl⟩, hW, hsame.mono (by decide) (by decide)⟩
  · exact X11.returnOut hx Bd.returns (hb' d47_43) hr
  · show QDA Z da kd 400 (fun f' => (∀ j, j < 400 → f' (0 + j) = fs j) ∧ ∀ q, q < 0 → f' q = g q) h0 n0 _ T11.heap _
    rw [e11]
    exact ⟨_, rfl, N11, KK11, AF11, own_fb_cp hfs hfd (by omega), fun j hj => own_cp_at hj, fun q hq => own_cp_lo hq⟩

theorem ef_47_2 (m : MethodId) (x0 : Addr) (x1 : Addr) (x2 : Int32) (x3 : Int32) : entryFrame m #[(.ref x0), (.ref x1), (.int x2), (.int x3)] 4 = mkF m 0 #[.val (.ref x0), .val (.ref x1), .val (.int x2), .val (.int x3)] [] := by first | (simp [entryFrame, mkF, argsToLocals, Value.category]; done) | rfl
theorem rm47_2 (l : Launch) (Z : State) (a0 : Array Value) (hw : HW a0 Z) (ws : List Jvm.Cond) (str vs : Addr) (ks : ClassId) (fs : Nat → Value) (da : Addr) (kd : ClassId) (g : Nat → Value) (co : Int32) (vf : Value) (h0 : Heap) (n0 : Nat) (O0 : Old Z n0 h0) (E_str : Exa Z h0 str "java/lang/String") (Fstv : Fld Z h0 str "java/lang/String" "value" "[B" (.ref vs)) (Fstc : Fld Z h0 str "java/lang/String" "coder" "B" (.int (0 : Int32))) (A_vs : AF Z h0 vs ks .byte 3 fs) (hfs : own_fb 3 fs) (g_da : n0 ≤ da) (nesd : vs ≠ da) (A_da : AF Z h0 da kd .byte 402 g) (hfd : own_fb 402 g) (hdots : own_dots fs) (SWh : SW Z co vf) :
    MT l y41' c41' 4 none ws ({ frames := 1, cells := 0, slots := 0, locals := 40 } : Room) #[(.ref str), (.ref da), (.int (200 : Int32)), (.int (0 : Int32))] Z h0 (QDA Z da kd 402 (fun f' => (∀ j, j < 3 → f' (200 + j) = fs j) ∧ ∀ q, q < 200 → f' q = g q) h0 n0) := by
  refine MetFree.of_bodySF (plainFor_of_name pn_java_lang_String) hisR ?_
  intro p e s m args below meth kode s₁ Bd hml0 hP hK
  obtain ⟨rfl, hZ, hh⟩ := hP
  have hx := Bd.exec
  have hby := Bd.bytes
  have hb' := @hb _ _ hby
  have hml : kode.maxLocals = 4 := hml0
  have hown : s.vm.findClass "java/lang/String" = some m.cls := findClass_of_methodNamed Bd.named
  have X0 : Stand p l e ({ frames := 1, cells := 0, slots := 0, locals := 40 } : Room) s m #[(.ref str), (.ref da), (.int (200 : Int32)), (.int (0 : Int32))] below meth kode s₁ [] 0 0 := Stand.of_body Bd
  have e0 : s₁.heap = h0 := by rw [← hh, Bd.state]; rfl
  have N0 := Fr.nil n0
  have pre0 : ∀ t, SF p e below s₁ (mkF m 0 #[vr str, vr da, vi 200, vi 0] []) t → SF p e below s₁ (entryFrame m #[(.ref str), (.ref da), (.int (200 : Int32)), (.int (0 : Int32))] 4) t := fun t k => castTop (ef_47_2 m str da (200 : Int32) (0 : Int32)) k
  have SWx := SWh
  obtain ⟨S_CS, hcs, S_AD, S_HI, S_LO, S_SI, hcat_vf⟩ := SWx
  have cn1 := fun (t : State) (kt : SF p e below s₁ (mkF m 1 #[vr str, vr da, vi 200, vi 0] [.ref str]) t) => pre0 t (by
    exact XS.aloadN X0.here hx rfl (hb' d47_0) rfl rfl kt)
  obtain ⟨cq2, kq2, q2a, q2b, q2c⟩ := isOf hZ e0 E_str
  obtain ⟨_, _, ⟨T2, L2, k2, n2⟩, -, X2, ⟨Lc2, hQ2, l2, y2, z2⟩, st2⟩ := X0.virtualBack hx (y := y12') (z := y12') hown (mvT hZ (wq hw 31 rfl)) (mvT hZ (wq hw 32 rfl)) (notFace_of_selects (args := #[]) (mvT hZ (wq hw 34 rfl))) (mvT hZ (wq hw 34 rfl)) (mvT hZ (wq hw 33 rfl)) (by decide) (backOf (W := 0) (rm6_0 l Z a0 hw [] str co vf h0 n0 O0 Fstc SWh) hZ (wq hw 35 rfl) (wq hw 3 rfl) (by decide) (by decide)) q2a q2c (g := (mkF m 1 #[vr str, vr da, vi 200, vi 0] [.ref str])) rfl (by rw [hml]; rfl) (Steps.refl _) (argsL := []) (rest := []) (lenOf pd_8 rfl) rfl (Nat.le_refl _) (hb' d47_1) (fun _ _ => ⟨rfl, e0, (by decide : 0 + 0 ≤ _), (by decide : 0 + 0 ≤ _)⟩)
  dsimp only [Pt.U, Pt.locs, Pt.cells, Pt.slots] at X2 l2 y2 z2 st2 hQ2
  subst l2 y2 z2
  obtain ⟨rfl, Nq2, eh2⟩ := hQ2
  have N2 := Fr.app N0 Nq2
  have cn3 := fun (t : State) (kt : SF p e below T2 (mkF m 5 #[vr str, vr da, vi 200, vi 0] [.int 0, .int 0]) t) => cn1 t (by
    refine st2.trans ?_
    exact XS.iloadN X2.here hx rfl (hb' d47_4) rfl kt)
  have cn4 := fun (t : State) (kt : SF p e below T2 (mkF m 9 #[vr str, vr da, vi 200, vi 0] [.ref str]) t) => cn3 t (by
    refine XS.icmpNo X2.here hx rfl (hb' d47_5) rfl (teq (by decide : (0 : Int32) = (0 : Int32))).2 ?_
    exact XS.aloadN X2.here hx rfl (hb' d47_8) rfl rfl kt)
  obtain ⟨T5, X5, e5, st5⟩ := getF X2 hx hZ hown (host := "") (Or.inl (wq hw 20 rfl)) Via.refl eh2 Fstv (g := (mkF m 9 #[vr str, vr da, vi 200, vi 0] [.ref str])) rfl rfl (hb' d47_9)
  have cn6 := fun (t : State) (kt : SF p e below T5 (mkF m 18 #[vr str, vr da, vi 200, vi 0] [.ref str, .int 200, .ref da, .int 0, .ref vs]) t) => cn4 t (by
    refine st5 _ ?_
    refine XS.iconst X5.here hx rfl (hb' d47_12) ?_
    refine XS.aloadN X5.here hx rfl (hb' d47_13) rfl rfl ?_
    refine XS.iloadN X5.here hx rfl (hb' d47_14) rfl ?_
    refine XS.iloadN X5.here hx rfl (hb' d47_15) rfl ?_
    refine XS.ishl X5.here hx rfl (hb' d47_16) rfl ?_
    exact XS.aloadN X5.here hx rfl (hb' d47_17) rfl rfl kt)
  obtain ⟨T7, X7, e7, st7⟩ := getF X5 hx hZ hown (host := "") (Or.inl (wq hw 20 rfl)) Via.refl e5 Fstv (g := (mkF m 18 #[vr str, vr da, vi 200, vi 0] [.ref str, .int 200, .ref da, .int 0, .ref vs])) rfl rfl (hb' d47_18)
  have cn8 := fun (t : State) (kt : SF p e below T7 (mkF m 21 #[vr str, vr da, vi 200, vi 0] [.ref vs, .int 200, .ref da, .int 0, .ref vs]) t) => cn6 t (by
    exact st7 _ kt)
  have AFx9 := A_vs
  obtain ⟨cl9, Ar9, q9, S9, H9⟩ := AFx9
  have cn10 := fun (t : State) (kt : SF p e below T7 (mkF m 22 #[vr str, vr da, vi 200, vi 0] [.int (Nat.toInt32 3), .int 200, .ref da, .int 0, .ref vs]) t) => cn8 t (by
    refine X7.arraylength hx (by rw [e7]; exact Ar9.1) (State.isArrayOf_alike hZ.alike Ar9.2.1) (g := (mkF m 21 #[vr str, vr da, vi 200, vi 0] [.ref vs, .int 200, .ref da, .int 0, .ref vs])) rfl rfl (hb' d47_21) _ ?_
    rw [S9]
    exact kt)
  have hs11 : ¬ (0 : Int32) < 0 ∧ ((0 : Int32)).toNatClampNeg = 0 := own_ix (i := 0) (by omega)
  have hd11 : ¬ (200 : Int32) < 0 ∧ ((200 : Int32)).toNatClampNeg = 200 := own_ix (i := 200) (by omega)
  have hn11 : ¬ (Nat.toInt32 3) < 0 ∧ ((Nat.toInt32 3)).toNatClampNeg = 3 := own_ix (i := 3) (by omega)
  have ha11 := own_ix (i := 3) (by omega)
  have hb11 := own_ix (i := 402) (by omega)
  have VS11 := own_arv (d := .int 0) A_vs hfs (by omega)
  have VD11 := own_arv (d := .int 0) A_da hfd (by omega)
  obtain ⟨T11, h11, L11, X11, e11, N11, Kq11, VR11, st11⟩ := cpA X7 hx hZ hown (wq hw 223 rfl) (wq hw 148 rfl) (wq hw 146 rfl) (wq hw 147 rfl) e7 VS11 VD11 (Or.inl ⟨rfl, rfl⟩) hs11.1 hd11.1 hn11.1 (by simp only [hs11.2, hn11.2, ha11.2]; omega) (by simp only [hd11.2, hn11.2, hb11.2]; omega) rfl (by simp only [hd11.2, hn11.2, List.length_map, List.length_range]; omega) N2 g_da (g := (mkF m 22 #[vr str, vr da, vi 200, vi 0] [.int (Nat.toInt32 3), .int 200, .ref da, .int 0, .ref vs])) rfl (by rw [hml]; rfl) rfl (hb' d47_22) (by decide) (W := 0) (Nat.le_refl _) (by decide)
  have K11 := Kq11
  have E_str_e11 := E_str.keep K11
  have Fstv_e11 := Fstv.keep K11 (ninS (own_neA E_str A_da (wq hw 2 rfl)) nin0)
  have Fstc_e11 := Fstc.keep K11 (ninS (own_neA E_str A_da (wq hw 2 rfl)) nin0)
  have A_vs_e11 := A_vs.keep K11 (ninS nesd nin0)
  have O11 := O0.keep K11 (allS g_da all0)
  have KK11 : Keep h0 h11 [da] := (Keep.refl h0 [da]).trans K11 (allS (Or.inl (List.mem_of_getElem? (i := 0) rfl)) all0)
  have AF11 : AF Z h11 da kd .byte 402 (own_cp fs g 0 200 3) := (AF.of_arv VR11 hb11.2).congr (fun q hq => by simp only [hd11.2, hn11.2, hs11.2]; exact own_cpL (by omega) (by omega) hq)
  have cn12 := fun (t : State) (kt : SF p e below T11 (mkF m 43 #[vr str, vr da, vi 200, vi 0] []) t) => cn10 t (by
    refine st11 _ ?_
    exact XS.goto X11.here hx rfl (pc0 := 25) (pc' := 43) rfl (hb' d47_25) (by decide) (by decide) kt)
  obtain ⟨frs, hr, hrun, hended, hW, hsame⟩ := X11.leave (v := none) (fun _ => rfl)
  refine ⟨_, _, cn12 _ ?_, hrun, hended, _, _, rfl, ?_, ⟨_, rfl⟩, hW, hsame.mono (by decide) (by decide)⟩
  · exact X11.returnOut hx Bd.returns (hb' d47_43) hr
  · show QDA Z da kd 402 (fun f' => (∀ j, j < 3 → f' (200 + j) = fs j) ∧ ∀ q, q < 200 → f' q = g q) h0 n0 _ T11.heap _
    rw [e11]
    exact ⟨_, rfl, N11, KK11, AF11, own_fb_cp hfs hfd (by omega), fun j hj => own_cp_at hj, fun q hq => own_cp_lo hq⟩

theorem d47_28 : DC c41' 28 (.aload_n 0) 1 := by decide +kernel
theorem d47_29 : DC c41' 29 (.getfield 9) 3 := by decide +kernel
theorem d47_32 : DC c41' 32 (.iconst 0) 1 := by decide +kernel
theorem d47_33 : DC c41' 33 (.aload_n 1) 1 := by decide +kernel
theorem d47_34 : DC c41' 34 (.iload_n 2) 1 := by decide +kernel
theorem d47_35 : DC c41' 35 (.aload_n 0) 1 := by decide +kernel
theorem d47_36 : DC c41' 36 (.getfield 9) 3 := by decide +kernel
theorem d47_39 : DC c41' 39 (.arraylength) 1 := by decide +kernel
theorem d47_40 : DC c41' 40 (.invokestatic 106) 3 := by decide +kernel
theorem ef_47_3 (m : MethodId) (x0 : Addr) (x1 : Addr) (x2 : Int32) (x3 : Int32) : entryFrame m #[(.ref x0), (.ref x1), (.int x2), (.int x3)] 4 = mkF m 0 #[.val (.ref x0), .val (.ref x1), .val (.int x2), .val (.int x3)] [] := by first | (simp [entryFrame, mkF, argsToLocals, Value.category]; done) | rfl
theorem rm47_3 (l : Launch) (Z : State) (a0 : Array Value) (hw : HW a0 Z) (ws : List Jvm.Cond) (str vs : Addr) (ks : ClassId) (fs : Nat → Value) (da : Addr) (kd : ClassId) (g : Nat → Value) (co : Int32) (vf : Value) (h0 : Heap) (n0 : Nat) (O0 : Old Z n0 h0) (E_str : Exa Z h0 str "java/lang/String") (Fstv : Fld Z h0 str "java/lang/String" "value" "[B" (.ref vs)) (Fstc : Fld Z h0 str "java/lang/String" "coder" "B" (.int (0 : Int32))) (A_vs : AF Z h0 vs ks .byte 3 fs) (hfs : own_fb 3 fs) (g_da : n0 ≤ da) (nesd : vs ≠ da) (A_da : AF Z h0 da kd .byte (2 * 402) g) (hfd : own_fb (2 * 402) g) (hdots : own_dots fs) (SWh : SW Z co vf) :
    MT l y41' c41' 4 none ws ({ frames := 5, cells := 0, slots := 0, locals := 76 } : Room) #[(.ref str), (.ref da), (.int (200 : Int32)), (.int (1 : Int32))] Z h0 (QDA Z da kd 804 (fun f' => (∀ j, j < 3 → f' (2 * (200 + j)) = .int (own_b0 (([46, 46, 46] : List Int32).getD j 0)) ∧ f' (2 * (200 + j) + 1) = .int (own_b1 (([46, 46, 46] : List Int32).getD j 0))) ∧ ∀ q, q < 2 * 200 → f' q = g q) h0 n0) := by
  refine MetFree.of_bodySF (plainFor_of_name pn_java_lang_String) hisR ?_
  intro p e s m args below meth kode s₁ Bd hml0 hP hK
  obtain ⟨rfl, hZ, hh⟩ := hP
  have hx := Bd.exec
  have hby := Bd.bytes
  have hb' := @hb _ _ hby
  have hml : kode.maxLocals = 4 := hml0
  have hown : s.vm.findClass "java/lang/String" = some m.cls := findClass_of_methodNamed Bd.named
  have X0 : Stand p l e ({ frames := 5, cells := 0, slots := 0, locals := 76 } : Room) s m #[(.ref str), (.ref da), (.int (200 : Int32)), (.int (1 : Int32))] below meth kode s₁ [] 0 0 := Stand.of_body Bd
  have e0 : s₁.heap = h0 := by rw [← hh, Bd.state]; rfl
  have N0 := Fr.nil n0
  have pre0 : ∀ t, SF p e below s₁ (mkF m 0 #[vr str, vr da, vi 200, vi 1] []) t → SF p e below s₁ (entryFrame m #[(.ref str), (.ref da), (.int (200 : Int32)), (.int (1 : Int32))] 4) t := fun t k => castTop (ef_47_3 m str da (200 : Int32) (1 : Int32)) k
  have SWx := SWh
  obtain ⟨S_CS, hcs, S_AD, S_HI, S_LO, S_SI, hcat_vf⟩ := SWx
  have cn1 := fun (t : State) (kt : SF p e below s₁ (mkF m 1 #[vr str, vr da, vi 200, vi 1] [.ref str]) t) => pre0 t (by
    exact XS.aloadN X0.here hx rfl (hb' d47_0) rfl rfl kt)
  obtain ⟨cq2, kq2, q2a, q2b, q2c⟩ := isOf hZ e0 E_str
  obtain ⟨_, _, ⟨T2, L2, k2, n2⟩, -, X2, ⟨Lc2, hQ2, l2, y2, z2⟩, st2⟩ := X0.virtualBack hx (y := y12') (z := y12') hown (mvT hZ (wq hw 31 rfl)) (mvT hZ (wq hw 32 rfl)) (notFace_of_selects (args := #[]) (mvT hZ (wq hw 34 rfl))) (mvT hZ (wq hw 34 rfl)) (mvT hZ (wq hw 33 rfl)) (by decide) (backOf (W := 0) (rm6_0 l Z a0 hw [] str co vf h0 n0 O0 Fstc SWh) hZ (wq hw 35 rfl) (wq hw 3 rfl) (by decide) (by decide)) q2a q2c (g := (mkF m 1 #[vr str, vr da, vi 200, vi 1] [.ref str])) rfl (by rw [hml]; rfl) (Steps.refl _) (argsL := []) (rest := []) (lenOf pd_8 rfl) rfl (Nat.le_refl _) (hb' d47_1) (fun _ _ => ⟨rfl, e0, (by decide : 0 + 0 ≤ _), (by decide : 0 + 0 ≤ _)⟩)
  dsimp only [Pt.U, Pt.locs, Pt.cells, Pt.slots] at X2 l2 y2 z2 st2 hQ2
  subst l2 y2 z2
  obtain ⟨rfl, Nq2, eh2⟩ := hQ2
  have N2 := Fr.app N0 Nq2
  have cn3 := fun (t : State) (kt : SF p e below T2 (mkF m 5 #[vr str, vr da, vi 200, vi 1] [.int 1, .int 0]) t) => cn1 t (by
    refine st2.trans ?_
    exact XS.iloadN X2.here hx rfl (hb' d47_4) rfl kt)
  have cn4 := fun (t : State) (kt : SF p e below T2 (mkF m 29 #[vr str, vr da, vi 200, vi 1] [.ref str]) t) => cn3 t (by
    refine XS.icmpYes X2.here hx rfl (pc0 := 5) (pc' := 28) rfl (hb' d47_5) rfl (feq (by decide : ¬ ((0 : Int32) = (1 : Int32)))).2 (by decide) (by decide) ?_
    exact XS.aloadN X2.here hx rfl (hb' d47_28) rfl rfl kt)
  obtain ⟨T5, X5, e5, st5⟩ := getF X2 hx hZ hown (host := "") (Or.inl (wq hw 20 rfl)) Via.refl eh2 Fstv (g := (mkF m 29 #[vr str, vr da, vi 200, vi 1] [.ref str])) rfl rfl (hb' d47_29)
  have cn6 := fun (t : State) (kt : SF p e below T5 (mkF m 36 #[vr str, vr da, vi 200, vi 1] [.ref str, .int 200, .ref da, .int 0, .ref vs]) t) => cn4 t (by
    refine st5 _ ?_
    refine XS.iconst X5.here hx rfl (hb' d47_32) ?_
    refine XS.aloadN X5.here hx rfl (hb' d47_33) rfl rfl ?_
    refine XS.iloadN X5.here hx rfl (hb' d47_34) rfl ?_
    exact XS.aloadN X5.here hx rfl (hb' d47_35) rfl rfl kt)
  obtain ⟨T7, X7, e7, st7⟩ := getF X5 hx hZ hown (host := "") (Or.inl (wq hw 20 rfl)) Via.refl e5 Fstv (g := (mkF m 36 #[vr str, vr da, vi 200, vi 1] [.ref str, .int 200, .ref da, .int 0, .ref vs])) rfl rfl (hb' d47_36)
  have cn8 := fun (t : State) (kt : SF p e below T7 (mkF m 39 #[vr str, vr da, vi 200, vi 1] [.ref vs, .int 200, .ref da, .int 0, .ref vs]) t) => cn6 t (by
    exact st7 _ kt)
  have AFx9 := A_vs
  obtain ⟨cl9, Ar9, q9, S9, H9⟩ := AFx9
  have cn10 := fun (t : State) (kt : SF p e below T7 (mkF m 40 #[vr str, vr da, vi 200, vi 1] [.int (Nat.toInt32 3), .int 200, .ref da, .int 0, .ref vs]) t) => cn8 t (by
    refine X7.arraylength hx (by rw [e7]; exact Ar9.1) (State.isArrayOf_alike hZ.alike Ar9.2.1) (g := (mkF m 39 #[vr str, vr da, vi 200, vi 1] [.ref vs, .int 200, .ref da, .int 0, .ref vs])) rfl rfl (hb' d47_39) _ ?_
    rw [S9]
    exact kt)
  have cn11 : ∀ t, SF p e below T7 (mkF m 40 #[vr str, vr da, vi 200, vi 1] [.int 3, .int 200, .ref da, .int 0, .ref vs]) t → SF p e below s₁ (entryFrame m #[(.ref str), (.ref da), (.int (200 : Int32)), (.int (1 : Int32))] 4) t := by have q := cn10; rw [(id (rfl) : (Nat.toInt32 3) = (3 : Int32))] at q; exact q
  obtain ⟨_, _, ⟨T12, L12, k12, n12⟩, -, X12, ⟨Lc12, hQ12, l12, y12, z12⟩, st12⟩ := Jvm.LawKit.callS X7 hx (y := y38') hown (mvT hZ (wq hw 225 rfl)) (mvT hZ (wq hw 212 rfl)) (mvT hZ (wq hw 213 rfl)) (mvT hZ (wq hw 214 rfl)) (by decide) (backOf (W := 0) (rm45 l Z a0 hw [] vs da ks kd 3 402 200 3 ([46, 46, 46] : List Int32) fs g co vf h0 n0 O0 g_da nesd (by omega) (by omega) (by omega) (by omega) (own_d46 hdots) A_vs A_da hfd SWh) hZ (wq hw 214 rfl) (wq hw 213 rfl) (by decide) (by decide)) (g := (mkF m 40 #[vr str, vr da, vi 200, vi 1] [.int 3, .int 200, .ref da, .int 0, .ref vs])) rfl (by rw [hml]; rfl) (argsL := [(.ref vs), (.int (0 : Int32)), (.ref da), (.int (200 : Int32)), (.int (3 : Int32))]) (rest := []) (lenOf pd_24 rfl) rfl (Nat.le_refl _) (hb' d47_40) (fun _ _ => ⟨rfl, e7, (by decide : 0 + 0 ≤ _), (by decide : 0 + 0 ≤ _)⟩)
  dsimp only [Pt.U, Pt.locs, Pt.cells, Pt.slots] at X12 l12 y12 z12 st12 hQ12
  subst l12 y12 z12
  obtain ⟨f12, rfl, Nq12, Kq12, Aq12, hfb12, hI12⟩ := hQ12
  have N12 := Fr.app N2 Nq12
  have K12 := Kq12
  have E_str_e12 := E_str.keep K12
  have Fstv_e12 := Fstv.keep K12 (ninS (own_neA E_str A_da (wq hw 2 rfl)) nin0)
  have Fstc_e12 := Fstc.keep K12 (ninS (own_neA E_str A_da (wq hw 2 rfl)) nin0)
  have A_vs_e12 := A_vs.keep K12 (ninS nesd nin0)
  have O12 := O0.keep K12 (allS g_da all0)
  have KK12 : Keep h0 T12.heap [da] := (Keep.refl h0 [da]).trans K12 (allS (Or.inl (List.mem_of_getElem? (i := 0) rfl)) all0)
  have cn13 := fun (t : State) (kt : SF p e below T12 (mkF m 43 #[vr str, vr da, vi 200, vi 1] []) t) => cn11 t (by
    exact st12 _ kt)
  obtain ⟨frs, hr, hrun, hended, hW, hsame⟩ := X12.leave (v := none) (fun _ => rfl)
  refine ⟨_, _, cn13 _ ?_, hrun, hended, _, _, rfl, ?_, ⟨_, rfl⟩, hW, hsame.mono (by decide) (by decide)⟩
  · exact X12.returnOut hx Bd.returns (hb' d47_43) hr
  · show QDA Z da kd 804 (fun f' => (∀ j, j < 3 → f' (2 * (200 + j)) = .int (own_b0 (([46, 46, 46] : List Int32).getD j 0)) ∧ f' (2 * (200 + j) + 1) = .int (own_b1 (([46, 46, 46] : List Int32).getD j 0))) ∧ ∀ q, q < 2 * 200 → f' q = g q) h0 n0 _ T12.heap _
    exact ⟨_, rfl, N12, KK12, Aq12, hfb12, hI12⟩

theorem d41_0 : DC c42' 0 (.aload_n 0) 1 := by decide +kernel
theorem d41_1 : DC c42' 1 (.aload_n 2) 1 := by decide +kernel
theorem d41_2 : DC c42' 2 (.invokevirtual 397) 3 := by decide +kernel
theorem d41_5 : DC c42' 5 (.aload_n 2) 1 := by decide +kernel
theorem d41_6 : DC c42' 6 (.aload_n 0) 1 := by decide +kernel
theorem d41_7 : DC c42' 7 (.getfield 15) 3 := by decide +kernel
theorem d41_10 : DC c42' 10 (.iload_n 1) 1 := by decide +kernel
theorem d41_11 : DC c42' 11 (.aload_n 0) 1 := by decide +kernel
theorem d41_12 : DC c42' 12 (.getfield 22) 3 := by decide +kernel
theorem d41_15 : DC c42' 15 (.invokevirtual 399) 3 := by decide +kernel
theorem d41_18 : DC c42' 18 (.return_) 1 := by decide +kernel
theorem pd_26 : parseMethodDescriptor "(Ljava/lang/String;)V" = some ⟨[(.object "java/lang/String")], none⟩ := by decide +kernel
theorem pd_27 : parseMethodDescriptor "([BIB)V" = some ⟨[(.array .byte), .int, .byte], none⟩ := by decide +kernel
theorem ef_41_0 (m : MethodId) (x0 : Addr) (x1 : Int32) (x2 : Addr) : entryFrame m #[(.ref x0), (.int x1), (.ref x2)] 3 = mkF m 0 #[.val (.ref x0), .val (.int x1), .val (.ref x2)] [] := by first | (simp [entryFrame, mkF, argsToLocals, Value.category]; done) | rfl
theorem rm41_0 (l : Launch) (Z : State) (a0 : Array Value) (hw : HW a0 Z) (ws : List Jvm.Cond) (sb vb : Addr) (k : ClassId) (g : Nat → Value) (str vs : Addr) (ks : ClassId) (fs : Nat → Value) (co : Int32) (vf : Value) (h0 : Heap) (n0 : Nat) (O0 : Old Z n0 h0) (g_sb : n0 ≤ sb) (g_vb : n0 ≤ vb) (Bh : SBF Z h0 sb vb 0 0) (A_vb : AF Z h0 vb k .byte 200 g) (hfb : own_fb 200 g) (E_str : Exa Z h0 str "java/lang/String") (Fstv : Fld Z h0 str "java/lang/String" "value" "[B" (.ref vs)) (Fstc : Fld Z h0 str "java/lang/String" "coder" "B" (.int (0 : Int32))) (A_vs : AF Z h0 vs ks .byte 200 fs) (hfs : own_fb 200 fs) (nesv : vs ≠ vb) (SWh : SW Z co vf) :
    MT l y42' c42' 3 none ws ({ frames := 2, cells := 0, slots := 0, locals := 55 } : Room) #[(.ref sb), (.int (0 : Int32)), (.ref str)] Z h0 (QDA Z vb k 200 (fun f' => (∀ j, j < 200 → f' (0 + j) = fs j) ∧ ∀ q, q < 0 → f' q = g q) h0 n0) := by
  refine MetFree.of_bodySF (plainFor_of_name pn_java_lang_AbstractStringBuilder) hisR ?_
  intro p e s m args below meth kode s₁ Bd hml0 hP hK
  obtain ⟨rfl, hZ, hh⟩ := hP
  have hx := Bd.exec
  have hby := Bd.bytes
  have hb' := @hb _ _ hby
  have hml : kode.maxLocals = 3 := hml0
  have hown : s.vm.findClass "java/lang/AbstractStringBuilder" = some m.cls := findClass_of_methodNamed Bd.named
  have X0 : Stand p l e ({ frames := 2, cells := 0, slots := 0, locals := 55 } : Room) s m #[(.ref sb), (.int (0 : Int32)), (.ref str)] below meth kode s₁ [] 0 0 := Stand.of_body Bd
  have e0 : s₁.heap = h0 := by rw [← hh, Bd.state]; rfl
  have N0 := Fr.nil n0
  have pre0 : ∀ t, SF p e below s₁ (mkF m 0 #[vr sb, vi 0, vr str] []) t → SF p e below s₁ (entryFrame m #[(.ref sb), (.int (0 : Int32)), (.ref str)] 3) t := fun t k => castTop (ef_41_0 m sb (0 : Int32) str) k
  have SWx := SWh
  obtain ⟨S_CS, hcs, S_AD, S_HI, S_LO, S_SI, hcat_vf⟩ := SWx
  have Bx := Bh
  obtain ⟨E_sb, Fsbv, Fsbc, Fsbn, Fsbm⟩ := Bx
  have cn1 := fun (t : State) (kt : SF p e below s₁ (mkF m 2 #[vr sb, vi 0, vr str] [.ref str, .ref sb]) t) => pre0 t (by
    refine XS.aloadN X0.here hx rfl (hb' d41_0) rfl rfl ?_
    exact XS.aloadN X0.here hx rfl (hb' d41_1) rfl rfl kt)
  obtain ⟨cq2, q2, q2'⟩ := E_sb.cell
  obtain ⟨_, _, ⟨T2, L2, k2, n2⟩, -, X2, ⟨Lc2, hQ2, l2, y2, z2⟩, st2⟩ := X0.privateBack hx (y := y40') hown (mvT hZ (wq hw 194 rfl)) (mvT hZ (wq hw 195 rfl)) (own_selq (y := y40') hZ (wq hw 197 rfl) (wq hw 196 rfl) (wq hw 195 rfl) (by decide)) (Cond.privateMethod_at (mvP hZ (wq hw 196 rfl) (args := #[]))) (mvT hZ (wq hw 198 rfl)) (by decide) (backOf (W := 0) (rm42_00 l Z a0 hw [] sb str co vf h0 n0 O0 E_sb Fsbc E_str Fstc SWh) hZ (wq hw 198 rfl) (wq hw 82 rfl) (by decide) (by decide)) (g := (mkF m 2 #[vr sb, vi 0, vr str] [.ref str, .ref sb])) rfl (by rw [hml]; rfl) (Steps.refl _) (a := sb) (by rw [e0]; exact q2) q2' (argsL := [(.ref str)]) (rest := []) (lenOf pd_26 rfl) rfl (Nat.le_refl _) (hb' d41_2) (fun _ _ => ⟨rfl, e0, (by decide : 0 + 0 ≤ _), (by decide : 0 + 0 ≤ _)⟩)
  dsimp only [Pt.U, Pt.locs, Pt.cells, Pt.slots] at X2 l2 y2 z2 st2 hQ2
  subst l2 y2 z2
  obtain ⟨rfl, Nq2, eh2⟩ := hQ2
  have N2 := Fr.app N0 Nq2
  have cn3 := fun (t : State) (kt : SF p e below T2 (mkF m 7 #[vr sb, vi 0, vr str] [.ref sb, .ref str]) t) => cn1 t (by
    refine st2.trans ?_
    refine XS.aloadN X2.here hx rfl (hb' d41_5) rfl rfl ?_
    exact XS.aloadN X2.here hx rfl (hb' d41_6) rfl rfl kt)
  obtain ⟨T4, X4, e4, st4⟩ := getF X2 hx hZ hown (host := "") (Or.inl (wq hw 86 rfl)) Via.refl eh2 Fsbv (g := (mkF m 7 #[vr sb, vi 0, vr str] [.ref sb, .ref str])) rfl rfl (hb' d41_7)
  have cn5 := fun (t : State) (kt : SF p e below T4 (mkF m 12 #[vr sb, vi 0, vr str] [.ref sb, .int 0, .ref vb, .ref str]) t) => cn3 t (by
    refine st4 _ ?_
    refine XS.iloadN X4.here hx rfl (hb' d41_10) rfl ?_
    exact XS.aloadN X4.here hx rfl (hb' d41_11) rfl rfl kt)
  obtain ⟨T6, X6, e6, st6⟩ := getF X4 hx hZ hown (host := "") (Or.inl (wq hw 88 rfl)) Via.refl e4 Fsbc (g := (mkF m 12 #[vr sb, vi 0, vr str] [.ref sb, .int 0, .ref vb, .ref str])) rfl rfl (hb' d41_12)
  have cn7 := fun (t : State) (kt : SF p e below T6 (mkF m 15 #[vr sb, vi 0, vr str] [.int 0, .int 0, .ref vb, .ref str]) t) => cn5 t (by
    exact st6 _ kt)
  obtain ⟨cq8, kq8, q8a, q8b, q8c⟩ := isOf hZ e6 E_str
  obtain ⟨_, _, ⟨T8, L8, k8, n8⟩, -, X8, ⟨Lc8, hQ8, l8, y8, z8⟩, st8⟩ := X6.virtualBack hx (y := y41') (z := y41') hown (mvT hZ (wq hw 218 rfl)) (mvT hZ (wq hw 219 rfl)) (notFace_of_selects (args := #[]) (mvT hZ (wq hw 221 rfl))) (mvT hZ (wq hw 221 rfl)) (mvT hZ (wq hw 220 rfl)) (by decide) (backOf (W := 0) (rm47_0 l Z a0 hw [] str vs ks fs vb k g co vf h0 n0 O0 E_str Fstv Fstc A_vs hfs g_vb nesv A_vb hfb SWh) hZ (wq hw 222 rfl) (wq hw 3 rfl) (by decide) (by decide)) q8a q8c (g := (mkF m 15 #[vr sb, vi 0, vr str] [.int 0, .int 0, .ref vb, .ref str])) rfl (by rw [hml]; rfl) (Steps.refl _) (argsL := [(.ref vb), (.int (0 : Int32)), (.int (0 : Int32))]) (rest := []) (lenOf pd_27 rfl) rfl (Nat.le_refl _) (hb' d41_15) (fun _ _ => ⟨rfl, e6, (by decide : 0 + 0 ≤ _), (by decide : 0 + 0 ≤ _)⟩)
  dsimp only [Pt.U, Pt.locs, Pt.cells, Pt.slots] at X8 l8 y8 z8 st8 hQ8
  subst l8 y8 z8
  obtain ⟨f8, rfl, Nq8, Kq8, Aq8, hfb8, hG8⟩ := hQ8
  have N8 := Fr.app N2 Nq8
  have K8 := Kq8
  have E_sb_e8 := E_sb.keep K8
  have Fsbv_e8 := Fsbv.keep K8 (ninS (own_neA E_sb A_vb (wq hw 73 rfl)) nin0)
  have Fsbc_e8 := Fsbc.keep K8 (ninS (own_neA E_sb A_vb (wq hw 73 rfl)) nin0)
  have Fsbn_e8 := Fsbn.keep K8 (ninS (own_neA E_sb A_vb (wq hw 73 rfl)) nin0)
  have Fsbm_e8 := Fsbm.keep K8 (ninS (own_neA E_sb A_vb (wq hw 73 rfl)) nin0)
  have E_str_e8 := E_str.keep K8
  have Fstv_e8 := Fstv.keep K8 (ninS (own_neA E_str A_vb (wq hw 2 rfl)) nin0)
  have Fstc_e8 := Fstc.keep K8 (ninS (own_neA E_str A_vb (wq hw 2 rfl)) nin0)
  have A_vs_e8 := A_vs.keep K8 (ninS nesv nin0)
  have O8 := O0.keep K8 (allS g_vb all0)
  have KK8 : Keep h0 T8.heap [vb] := (Keep.refl h0 [vb]).trans K8 (allS (Or.inl (List.mem_of_getElem? (i := 0) rfl)) all0)
  have cn9 := fun (t : State) (kt : SF p e below T8 (mkF m 18 #[vr sb, vi 0, vr str] []) t) => cn7 t (by
    exact st8.trans kt)
  obtain ⟨frs, hr, hrun, hended, hW, hsame⟩ := X8.leave (v := none) (fun _ => rfl)
  refine ⟨_, _, cn9 _ ?_, hrun, hended, _, _, rfl, ?_, ⟨_, rfl⟩, hW, hsame.mono (by decide) (by decide)⟩
  · exact X8.returnOut hx Bd.returns (hb' d41_18) hr
  · show QDA Z vb k 200 (fun f' => (∀ j, j < 200 → f' (0 + j) = fs j) ∧ ∀ q, q < 0 → f' q = g q) h0 n0 _ T8.heap _
    exact ⟨_, rfl, N8, KK8, Aq8, hfb8, hG8⟩

theorem ef_41_1 (m : MethodId) (x0 : Addr) (x1 : Int32) (x2 : Addr) : entryFrame m #[(.ref x0), (.int x1), (.ref x2)] 3 = mkF m 0 #[.val (.ref x0), .val (.int x1), .val (.ref x2)] [] := by first | (simp [entryFrame, mkF, argsToLocals, Value.category]; done) | rfl
theorem rm41_1 (l : Launch) (Z : State) (a0 : Array Value) (hw : HW a0 Z) (ws : List Jvm.Cond) (sb vb : Addr) (k : ClassId) (g : Nat → Value) (str vs : Addr) (ks : ClassId) (fs : Nat → Value) (co : Int32) (vf : Value) (h0 : Heap) (n0 : Nat) (O0 : Old Z n0 h0) (g_sb : n0 ≤ sb) (g_vb : n0 ≤ vb) (Bh : SBF Z h0 sb vb 0 0) (A_vb : AF Z h0 vb k .byte 200 g) (hfb : own_fb 200 g) (E_str : Exa Z h0 str "java/lang/String") (Fstv : Fld Z h0 str "java/lang/String" "value" "[B" (.ref vs)) (Fstc : Fld Z h0 str "java/lang/String" "coder" "B" (.int (1 : Int32))) (A_vs : AF Z h0 vs ks .byte 400 fs) (hfs : own_fb 400 fs) (nesv : vs ≠ vb) (SWh : SW Z co vf) :
    MT l y42' c42' 3 none ws ({ frames := 7, cells := 1, slots := 804, locals := 102 } : Room) #[(.ref sb), (.int (0 : Int32)), (.ref str)] Z h0 (QSB Z sb 1 0 400 (fun f' => ∀ j, j < 400 → f' j = fs j) none h0 n0) := by
  refine MetFree.of_bodySF (plainFor_of_name pn_java_lang_AbstractStringBuilder) hisR ?_
  intro p e s m args below meth kode s₁ Bd hml0 hP hK
  obtain ⟨rfl, hZ, hh⟩ := hP
  have hx := Bd.exec
  have hby := Bd.bytes
  have hb' := @hb _ _ hby
  have hml : kode.maxLocals = 3 := hml0
  have hown : s.vm.findClass "java/lang/AbstractStringBuilder" = some m.cls := findClass_of_methodNamed Bd.named
  have X0 : Stand p l e ({ frames := 7, cells := 1, slots := 804, locals := 102 } : Room) s m #[(.ref sb), (.int (0 : Int32)), (.ref str)] below meth kode s₁ [] 0 0 := Stand.of_body Bd
  have e0 : s₁.heap = h0 := by rw [← hh, Bd.state]; rfl
  have N0 := Fr.nil n0
  have pre0 : ∀ t, SF p e below s₁ (mkF m 0 #[vr sb, vi 0, vr str] []) t → SF p e below s₁ (entryFrame m #[(.ref sb), (.int (0 : Int32)), (.ref str)] 3) t := fun t k => castTop (ef_41_1 m sb (0 : Int32) str) k
  have SWx := SWh
  obtain ⟨S_CS, hcs, S_AD, S_HI, S_LO, S_SI, hcat_vf⟩ := SWx
  have Bx := Bh
  obtain ⟨E_sb, Fsbv, Fsbc, Fsbn, Fsbm⟩ := Bx
  have cn1 := fun (t : State) (kt : SF p e below s₁ (mkF m 2 #[vr sb, vi 0, vr str] [.ref str, .ref sb]) t) => pre0 t (by
    refine XS.aloadN X0.here hx rfl (hb' d41_0) rfl rfl ?_
    exact XS.aloadN X0.here hx rfl (hb' d41_1) rfl rfl kt)
  obtain ⟨cq2, q2, q2'⟩ := E_sb.cell
  obtain ⟨_, _, ⟨T2, L2, k2, n2⟩, -, X2, ⟨Lc2, hQ2, l2, y2, z2⟩, st2⟩ := X0.privateBack hx (y := y40') hown (mvT hZ (wq hw 194 rfl)) (mvT hZ (wq hw 195 rfl)) (own_selq (y := y40') hZ (wq hw 197 rfl) (wq hw 196 rfl) (wq hw 195 rfl) (by decide)) (Cond.privateMethod_at (mvP hZ (wq hw 196 rfl) (args := #[]))) (mvT hZ (wq hw 198 rfl)) (by decide) (backOf (W := 0) (rm42_01 l Z a0 hw [] sb vb k g str co vf h0 n0 O0 g_sb ⟨E_sb, Fsbv, Fsbc, Fsbn, Fsbm⟩ A_vb hfb E_str Fstc SWh) hZ (wq hw 198 rfl) (wq hw 82 rfl) (by decide) (by decide)) (g := (mkF m 2 #[vr sb, vi 0, vr str] [.ref str, .ref sb])) rfl (by rw [hml]; rfl) (Steps.refl _) (a := sb) (by rw [e0]; exact q2) q2' (argsL := [(.ref str)]) (rest := []) (lenOf pd_26 rfl) rfl (Nat.le_refl _) (hb' d41_2) (fun _ _ => ⟨rfl, e0, (by decide : 0 + 1 ≤ _), (by decide : 0 + 804 ≤ _)⟩)
  dsimp only [Pt.U, Pt.locs, Pt.cells, Pt.slots] at X2 l2 y2 z2 st2 hQ2
  subst l2 y2 z2
  obtain ⟨r2x, kq2, f2, rfl, Nq2, Kq2, szq2, ⟨E_sb2, Fsbv2, Fsbc2, Fsbn2, Fsbm2⟩, Aq2, hfb2, hB2⟩ := hQ2
  have N2 := Fr.app N0 Nq2
  have sz_r2x : h0.size ≤ r2x := Nat.le_trans (Keep.refl h0 [sb]).1 szq2
  have g_r2x : n0 ≤ r2x := Nat.le_trans (O0.1 ▸ O0.2.1) sz_r2x
  have ne_sb_r2x : sb ≠ r2x := Nat.ne_of_lt (Nat.lt_of_lt_of_le E_sb.lt szq2)
  have ne_vb_r2x : vb ≠ r2x := Nat.ne_of_lt (Nat.lt_of_lt_of_le A_vb.lt szq2)
  have ne_str_r2x : str ≠ r2x := Nat.ne_of_lt (Nat.lt_of_lt_of_le E_str.lt szq2)
  have ne_vs_r2x : vs ≠ r2x := Nat.ne_of_lt (Nat.lt_of_lt_of_le A_vs.lt szq2)
  have K2 := Kq2
  have E_sb_e2 := E_sb.keep K2
  have A_vb_e2 := A_vb.keep K2 (ninS (Ne.symm (own_neA E_sb A_vb (wq hw 73 rfl))) nin0)
  have E_str_e2 := E_str.keep K2
  have Fstv_e2 := Fstv.keep K2 (ninS (Exa.ne E_str E_sb (by decide)) nin0)
  have Fstc_e2 := Fstc.keep K2 (ninS (Exa.ne E_str E_sb (by decide)) nin0)
  have A_vs_e2 := A_vs.keep K2 (ninS (Ne.symm (own_neA E_sb A_vs (wq hw 73 rfl))) nin0)
  have O2 := O0.keep K2 (allS g_sb all0)
  have KK2 : Keep h0 T2.heap [sb] := (Keep.refl h0 [sb]).trans K2 (allS (Or.inl (List.mem_of_getElem? (i := 0) rfl)) all0)
  have cn3 := fun (t : State) (kt : SF p e below T2 (mkF m 7 #[vr sb, vi 0, vr str] [.ref sb, .ref str]) t) => cn1 t (by
    refine st2.trans ?_
    refine XS.aloadN X2.here hx rfl (hb' d41_5) rfl rfl ?_
    exact XS.aloadN X2.here hx rfl (hb' d41_6) rfl rfl kt)
  obtain ⟨T4, X4, e4, st4⟩ := getF X2 hx hZ hown (host := "") (Or.inl (wq hw 86 rfl)) Via.refl rfl Fsbv2 (g := (mkF m 7 #[vr sb, vi 0, vr str] [.ref sb, .ref str])) rfl rfl (hb' d41_7)
  have cn5 := fun (t : State) (kt : SF p e below T4 (mkF m 12 #[vr sb, vi 0, vr str] [.ref sb, .int 0, .ref r2x, .ref str]) t) => cn3 t (by
    refine st4 _ ?_
    refine XS.iloadN X4.here hx rfl (hb' d41_10) rfl ?_
    exact XS.aloadN X4.here hx rfl (hb' d41_11) rfl rfl kt)
  obtain ⟨T6, X6, e6, st6⟩ := getF X4 hx hZ hown (host := "") (Or.inl (wq hw 88 rfl)) Via.refl e4 Fsbc2 (g := (mkF m 12 #[vr sb, vi 0, vr str] [.ref sb, .int 0, .ref r2x, .ref str])) rfl rfl (hb' d41_12)
  have cn7 := fun (t : State) (kt : SF p e below T6 (mkF m 15 #[vr sb, vi 0, vr str] [.int 1, .int 0, .ref r2x, .ref str]) t) => cn5 t (by
    exact st6 _ kt)
  obtain ⟨cq8, kq8, q8a, q8b, q8c⟩ := isOf hZ e6 E_str_e2
  obtain ⟨_, _, ⟨T8, L8, k8, n8⟩, -, X8, ⟨Lc8, hQ8, l8, y8, z8⟩, st8⟩ := X6.virtualBack hx (y := y41') (z := y41') hown (mvT hZ (wq hw 218 rfl)) (mvT hZ (wq hw 219 rfl)) (notFace_of_selects (args := #[]) (mvT hZ (wq hw 221 rfl))) (mvT hZ (wq hw 221 rfl)) (mvT hZ (wq hw 220 rfl)) (by decide) (backOf (W := 0) (rm47_1 l Z a0 hw [] str vs ks fs r2x kq2 f2 co vf T2.heap n0 O2 E_str_e2 Fstv_e2 Fstc_e2 A_vs_e2 hfs g_r2x ne_vs_r2x Aq2 hfb2 SWh) hZ (wq hw 222 rfl) (wq hw 3 rfl) (by decide) (by decide)) q8a q8c (g := (mkF m 15 #[vr sb, vi 0, vr str] [.int 1, .int 0, .ref r2x, .ref str])) rfl (by rw [hml]; rfl) (Steps.refl _) (argsL := [(.ref r2x), (.int (0 : Int32)), (.int (1 : Int32))]) (rest := []) (lenOf pd_27 rfl) rfl (Nat.le_refl _) (hb' d41_15) (fun _ _ => ⟨rfl, e6, (by decide : 1 + 0 ≤ _), (by decide : 804 + 0 ≤ _)⟩)
  dsimp only [Pt.U, Pt.locs, Pt.cells, Pt.slots] at X8 l8 y8 z8 st8 hQ8
  subst l8 y8 z8
  obtain ⟨f8, rfl, Nq8, Kq8, Aq8, hfb8, hG8⟩ := hQ8
  have N8 := Fr.app N2 Nq8
  have K8 := Kq8
  have E_sb2_e8 := E_sb2.keep K8
  have A_vb_e8 := A_vb_e2.keep K8 (ninS ne_vb_r2x nin0)
  have E_str_e8 := E_str_e2.keep K8
  have Fstv_e8 := Fstv_e2.keep K8 (ninS ne_str_r2x nin0)
  have Fstc_e8 := Fstc_e2.keep K8 (ninS ne_str_r2x nin0)
  have A_vs_e8 := A_vs_e2.keep K8 (ninS ne_vs_r2x nin0)
  have Fsbv2_e8 := Fsbv2.keep K8 (ninS ne_sb_r2x nin0)
  have Fsbc2_e8 := Fsbc2.keep K8 (ninS ne_sb_r2x nin0)
  have Fsbn2_e8 := Fsbn2.keep K8 (ninS ne_sb_r2x nin0)
  have Fsbm2_e8 := Fsbm2.keep K8 (ninS ne_sb_r2x nin0)
  have O8 := O2.keep K8 (allS g_r2x all0)
  have KK8 : Keep h0 T8.heap [sb] := KK2.trans K8 (allS (Or.inr sz_r2x) all0)
  have cn9 := fun (t : State) (kt : SF p e below T8 (mkF m 18 #[vr sb, vi 0, vr str] []) t) => cn7 t (by
    exact st8.trans kt)
  obtain ⟨frs, hr, hrun, hended, hW, hsame⟩ := X8.leave (v := none) (fun _ => rfl)
  refine ⟨_, _, cn9 _ ?_, hrun, hended, _, _, rfl, ?_, ⟨_, rfl⟩, hW, hsame.mono (by decide) (by decide)⟩
  · exact X8.returnOut hx Bd.returns (hb' d41_18) hr
  · show QSB Z sb 1 0 400 (fun f' => ∀ j, j < 400 → f' j = fs j) none h0 n0 _ T8.heap _
    exact ⟨r2x, _, _, rfl, N8, KK8, sz_r2x, ⟨E_sb2_e8, Fsbv2_e8, Fsbc2_e8, Fsbn2_e8, Fsbm2_e8⟩, Aq8, hfb8, fun j hj => by have q := hG8.1 j hj; rwa [Nat.zero_add] at q⟩

theorem ef_41_2 (m : MethodId) (x0 : Addr) (x1 : Int32) (x2 : Addr) : entryFrame m #[(.ref x0), (.int x1), (.ref x2)] 3 = mkF m 0 #[.val (.ref x0), .val (.int x1), .val (.ref x2)] [] := by first | (simp [entryFrame, mkF, argsToLocals, Value.category]; done) | rfl
theorem rm41_2 (l : Launch) (Z : State) (a0 : Array Value) (hw : HW a0 Z) (ws : List Jvm.Cond) (sb vb : Addr) (k : ClassId) (g : Nat → Value) (str vs : Addr) (ks : ClassId) (fs : Nat → Value) (co : Int32) (vf : Value) (h0 : Heap) (n0 : Nat) (O0 : Old Z n0 h0) (g_sb : n0 ≤ sb) (g_vb : n0 ≤ vb) (Bh : SBF Z h0 sb vb 0 200) (A_vb : AF Z h0 vb k .byte 402 g) (hfb : own_fb 402 g) (E_str : Exa Z h0 str "java/lang/String") (Fstv : Fld Z h0 str "java/lang/String" "value" "[B" (.ref vs)) (Fstc : Fld Z h0 str "java/lang/String" "coder" "B" (.int (0 : Int32))) (A_vs : AF Z h0 vs ks .byte 3 fs) (hfs : own_fb 3 fs) (nesv : vs ≠ vb) (hdots : own_dots fs) (SWh : SW Z co vf) :
    MT l y42' c42' 3 none ws ({ frames := 2, cells := 0, slots := 0, locals := 55 } : Room) #[(.ref sb), (.int (200 : Int32)), (.ref str)] Z h0 (QDA Z vb k 402 (fun f' => (∀ j, j < 3 → f' (200 + j) = fs j) ∧ ∀ q, q < 200 → f' q = g q) h0 n0) := by
  refine MetFree.of_bodySF (plainFor_of_name pn_java_lang_AbstractStringBuilder) hisR ?_
  intro p e s m args below meth kode s₁ Bd hml0 hP hK
  obtain ⟨rfl, hZ, hh⟩ := hP
  have hx := Bd.exec
  have hby := Bd.bytes
  have hb' := @hb _ _ hby
  have hml : kode.maxLocals = 3 := hml0
  have hown : s.vm.findClass "java/lang/AbstractStringBuilder" = some m.cls := findClass_of_methodNamed Bd.named
  have X0 : Stand p l e ({ frames := 2, cells := 0, slots := 0, locals := 55 } : Room) s m #[(.ref sb), (.int (200 : Int32)), (.ref str)] below meth kode s₁ [] 0 0 := Stand.of_body Bd
  have e0 : s₁.heap = h0 := by rw [← hh, Bd.state]; rfl
  have N0 := Fr.nil n0
  have pre0 : ∀ t, SF p e below s₁ (mkF m 0 #[vr sb, vi 200, vr str] []) t → SF p e below s₁ (entryFrame m #[(.ref sb), (.int (200 : Int32)), (.ref str)] 3) t := fun t k => castTop (ef_41_2 m sb (200 : Int32) str) k
  have SWx := SWh
  obtain ⟨S_CS, hcs, S_AD, S_HI, S_LO, S_SI, hcat_vf⟩ := SWx
  have Bx := Bh
  obtain ⟨E_sb, Fsbv, Fsbc, Fsbn, Fsbm⟩ := Bx
  have cn1 := fun (t : State) (kt : SF p e below s₁ (mkF m 2 #[vr sb, vi 200, vr str] [.ref str, .ref sb]) t) => pre0 t (by
    refine XS.aloadN X0.here hx rfl (hb' d41_0) rfl rfl ?_
    exact XS.aloadN X0.here hx rfl (hb' d41_1) rfl rfl kt)
  obtain ⟨cq2, q2, q2'⟩ := E_sb.cell
  obtain ⟨_, _, ⟨T2, L2, k2, n2⟩, -, X2, ⟨Lc2, hQ2, l2, y2, z2⟩, st2⟩ := X0.privateBack hx (y := y40') hown (mvT hZ (wq hw 194 rfl)) (mvT hZ (wq hw 195 rfl)) (own_selq (y := y40') hZ (wq hw 197 rfl) (wq hw 196 rfl) (wq hw 195 rfl) (by decide)) (Cond.privateMethod_at (mvP hZ (wq hw 196 rfl) (args := #[]))) (mvT hZ (wq hw 198 rfl)) (by decide) (backOf (W := 0) (rm42_00 l Z a0 hw [] sb str co vf h0 n0 O0 E_sb Fsbc E_str Fstc SWh) hZ (wq hw 198 rfl) (wq hw 82 rfl) (by decide) (by decide)) (g := (mkF m 2 #[vr sb, vi 200, vr str] [.ref str, .ref sb])) rfl (by rw [hml]; rfl) (Steps.refl _) (a := sb) (by rw [e0]; exact q2) q2' (argsL := [(.ref str)]) (rest := []) (lenOf pd_26 rfl) rfl (Nat.le_refl _) (hb' d41_2) (fun _ _ => ⟨rfl, e0, (by decide : 0 + 0 ≤ _), (by decide : 0 + 0 ≤ _)⟩)
  dsimp only [Pt.U, Pt.locs, Pt.cells, Pt.slots] at X2 l2 y2 z2 st2 hQ2
  subst l2 y2 z2
  obtain ⟨rfl, Nq2, eh2⟩ := hQ2
  have N2 := Fr.app N0 Nq2
  have cn3 := fun (t : State) (kt : SF p e below T2 (mkF m 7 #[vr sb, vi 200, vr str] [.ref sb, .ref str]) t) => cn1 t (by
    refine st2.trans ?_
    refine XS.aloadN X2.here hx rfl (hb' d41_5) rfl rfl ?_
    exact XS.aloadN X2.here hx rfl (hb' d41_6) rfl rfl kt)
  obtain ⟨T4, X4, e4, st4⟩ := getF X2 hx hZ hown (host := "") (Or.inl (wq hw 86 rfl)) Via.refl eh2 Fsbv (g := (mkF m 7 #[vr sb, vi 200, vr str] [.ref sb, .ref str])) rfl rfl (hb' d41_7)
  have cn5 := fun (t : State) (kt : SF p e below T4 (mkF m 12 #[vr sb, vi 200, vr str] [.ref sb, .int 200, .ref vb, .ref str]) t) => cn3 t (by
    refine st4 _ ?_
    refine XS.iloadN X4.here hx rfl (hb' d41_10) rfl ?_
    exact XS.aloadN X4.here hx rfl (hb' d41_11) rfl rfl kt)
  obtain ⟨T6, X6, e6, st6⟩ := getF X4 hx hZ hown (host := "") (Or.inl (wq hw 88 rfl)) Via.refl e4 Fsbc (g := (mkF m 12 #[vr sb, vi 200, vr str] [.ref sb, .int 200, .ref vb, .ref str])) rfl rfl (hb' d41_12)
  have cn7 := fun (t : State) (kt : SF p e below T6 (mkF m 15 #[vr sb, vi 200, vr str] [.int 0, .int 200, .ref vb, .ref str]) t) => cn5 t (by
    exact st6 _ kt)
  obtain ⟨cq8, kq8, q8a, q8b, q8c⟩ := isOf hZ e6 E_str
  obtain ⟨_, _, ⟨T8, L8, k8, n8⟩, -, X8, ⟨Lc8, hQ8, l8, y8, z8⟩, st8⟩ := X6.virtualBack hx (y := y41') (z := y41') hown (mvT hZ (wq hw 218 rfl)) (mvT hZ (wq hw 219 rfl)) (notFace_of_selects (args := #[]) (mvT hZ (wq hw 221 rfl))) (mvT hZ (wq hw 221 rfl)) (mvT hZ (wq hw 220 rfl)) (by decide) (backOf (W := 0) (rm47_2 l Z a0 hw [] str vs ks fs vb k g co vf h0 n0 O0 E_str Fstv Fstc A_vs hfs g_vb nesv A_vb hfb hdots SWh) hZ (wq hw 222 rfl) (wq hw 3 rfl) (by decide) (by decide)) q8a q8c (g := (mkF m 15 #[vr sb, vi 200, vr str] [.int 0, .int 200, .ref vb, .ref str])) rfl (by rw [hml]; rfl) (Steps.refl _) (argsL := [(.ref vb), (.int (200 : Int32)), (.int (0 : Int32))]) (rest := []) (lenOf pd_27 rfl) rfl (Nat.le_refl _) (hb' d41_15) (fun _ _ => ⟨rfl, e6, (by decide : 0 + 0 ≤ _), (by decide : 0 + 0 ≤ _)⟩)
  dsimp only [Pt.U, Pt.locs, Pt.cells, Pt.slots] at X8 l8 y8 z8 st8 hQ8
  subst l8 y8 z8
  obtain ⟨f8, rfl, Nq8, Kq8, Aq8, hfb8, hG8⟩ := hQ8
  have N8 := Fr.app N2 Nq8
  have K8 := Kq8
  have E_sb_e8 := E_sb.keep K8
  have Fsbv_e8 := Fsbv.keep K8 (ninS (own_neA E_sb A_vb (wq hw 73 rfl)) nin0)
  have Fsbc_e8 := Fsbc.keep K8 (ninS (own_neA E_sb A_vb (wq hw 73 rfl)) nin0)
  have Fsbn_e8 := Fsbn.keep K8 (ninS (own_neA E_sb A_vb (wq hw 73 rfl)) nin0)
  have Fsbm_e8 := Fsbm.keep K8 (ninS (own_neA E_sb A_vb (wq hw 73 rfl)) nin0)
  have E_str_e8 := E_str.keep K8
  have Fstv_e8 := Fstv.keep K8 (ninS (own_neA E_str A_vb (wq hw 2 rfl)) nin0)
  have Fstc_e8 := Fstc.keep K8 (ninS (own_neA E_str A_vb (wq hw 2 rfl)) nin0)
  have A_vs_e8 := A_vs.keep K8 (ninS nesv nin0)
  have O8 := O0.keep K8 (allS g_vb all0)
  have KK8 : Keep h0 T8.heap [vb] := (Keep.refl h0 [vb]).trans K8 (allS (Or.inl (List.mem_of_getElem? (i := 0) rfl)) all0)
  have cn9 := fun (t : State) (kt : SF p e below T8 (mkF m 18 #[vr sb, vi 200, vr str] []) t) => cn7 t (by
    exact st8.trans kt)
  obtain ⟨frs, hr, hrun, hended, hW, hsame⟩ := X8.leave (v := none) (fun _ => rfl)
  refine ⟨_, _, cn9 _ ?_, hrun, hended, _, _, rfl, ?_, ⟨_, rfl⟩, hW, hsame.mono (by decide) (by decide)⟩
  · exact X8.returnOut hx Bd.returns (hb' d41_18) hr
  · show QDA Z vb k 402 (fun f' => (∀ j, j < 3 → f' (200 + j) = fs j) ∧ ∀ q, q < 200 → f' q = g q) h0 n0 _ T8.heap _
    exact ⟨_, rfl, N8, KK8, Aq8, hfb8, hG8⟩

theorem ef_41_3 (m : MethodId) (x0 : Addr) (x1 : Int32) (x2 : Addr) : entryFrame m #[(.ref x0), (.int x1), (.ref x2)] 3 = mkF m 0 #[.val (.ref x0), .val (.int x1), .val (.ref x2)] [] := by first | (simp [entryFrame, mkF, argsToLocals, Value.category]; done) | rfl
theorem rm41_3 (l : Launch) (Z : State) (a0 : Array Value) (hw : HW a0 Z) (ws : List Jvm.Cond) (sb vb : Addr) (k : ClassId) (g : Nat → Value) (str vs : Addr) (ks : ClassId) (fs : Nat → Value) (co : Int32) (vf : Value) (h0 : Heap) (n0 : Nat) (O0 : Old Z n0 h0) (g_sb : n0 ≤ sb) (g_vb : n0 ≤ vb) (Bh : SBF Z h0 sb vb 1 200) (A_vb : AF Z h0 vb k .byte (2 * 402) g) (hfb : own_fb (2 * 402) g) (E_str : Exa Z h0 str "java/lang/String") (Fstv : Fld Z h0 str "java/lang/String" "value" "[B" (.ref vs)) (Fstc : Fld Z h0 str "java/lang/String" "coder" "B" (.int (0 : Int32))) (A_vs : AF Z h0 vs ks .byte 3 fs) (hfs : own_fb 3 fs) (nesv : vs ≠ vb) (hdots : own_dots fs) (SWh : SW Z co vf) :
    MT l y42' c42' 3 none ws ({ frames := 6, cells := 0, slots := 0, locals := 91 } : Room) #[(.ref sb), (.int (200 : Int32)), (.ref str)] Z h0 (QDA Z vb k 804 (fun f' => (∀ j, j < 3 → f' (2 * (200 + j)) = .int (own_b0 (([46, 46, 46] : List Int32).getD j 0)) ∧ f' (2 * (200 + j) + 1) = .int (own_b1 (([46, 46, 46] : List Int32).getD j 0))) ∧ ∀ q, q < 2 * 200 → f' q = g q) h0 n0) := by
  refine MetFree.of_bodySF (plainFor_of_name pn_java_lang_AbstractStringBuilder) hisR ?_
  intro p e s m args below meth kode s₁ Bd hml0 hP hK
  obtain ⟨rfl, hZ, hh⟩ := hP
  have hx := Bd.exec
  have hby := Bd.bytes
  have hb' := @hb _ _ hby
  have hml : kode.maxLocals = 3 := hml0
  have hown : s.vm.findClass "java/lang/AbstractStringBuilder" = some m.cls := findClass_of_methodNamed Bd.named
  have X0 : Stand p l e ({ frames := 6, cells := 0, slots := 0, locals := 91 } : Room) s m #[(.ref sb), (.int (200 : Int32)), (.ref str)] below meth kode s₁ [] 0 0 := Stand.of_body Bd
  have e0 : s₁.heap = h0 := by rw [← hh, Bd.state]; rfl
  have N0 := Fr.nil n0
  have pre0 : ∀ t, SF p e below s₁ (mkF m 0 #[vr sb, vi 200, vr str] []) t → SF p e below s₁ (entryFrame m #[(.ref sb), (.int (200 : Int32)), (.ref str)] 3) t := fun t k => castTop (ef_41_3 m sb (200 : Int32) str) k
  have SWx := SWh
  obtain ⟨S_CS, hcs, S_AD, S_HI, S_LO, S_SI, hcat_vf⟩ := SWx
  have Bx := Bh
  obtain ⟨E_sb, Fsbv, Fsbc, Fsbn, Fsbm⟩ := Bx
  have cn1 := fun (t : State) (kt : SF p e below s₁ (mkF m 2 #[vr sb, vi 200, vr str] [.ref str, .ref sb]) t) => pre0 t (by
    refine XS.aloadN X0.here hx rfl (hb' d41_0) rfl rfl ?_
    exact XS.aloadN X0.here hx rfl (hb' d41_1) rfl rfl kt)
  obtain ⟨cq2, q2, q2'⟩ := E_sb.cell
  obtain ⟨_, _, ⟨T2, L2, k2, n2⟩, -, X2, ⟨Lc2, hQ2, l2, y2, z2⟩, st2⟩ := X0.privateBack hx (y := y40') hown (mvT hZ (wq hw 194 rfl)) (mvT hZ (wq hw 195 rfl)) (own_selq (y := y40') hZ (wq hw 197 rfl) (wq hw 196 rfl) (wq hw 195 rfl) (by decide)) (Cond.privateMethod_at (mvP hZ (wq hw 196 rfl) (args := #[]))) (mvT hZ (wq hw 198 rfl)) (by decide) (backOf (W := 0) (rm42_10 l Z a0 hw [] sb str co vf h0 n0 O0 E_sb Fsbc E_str Fstc SWh) hZ (wq hw 198 rfl) (wq hw 82 rfl) (by decide) (by decide)) (g := (mkF m 2 #[vr sb, vi 200, vr str] [.ref str, .ref sb])) rfl (by rw [hml]; rfl) (Steps.refl _) (a := sb) (by rw [e0]; exact q2) q2' (argsL := [(.ref str)]) (rest := []) (lenOf pd_26 rfl) rfl (Nat.le_refl _) (hb' d41_2) (fun _ _ => ⟨rfl, e0, (by decide : 0 + 0 ≤ _), (by decide : 0 + 0 ≤ _)⟩)
  dsimp only [Pt.U, Pt.locs, Pt.cells, Pt.slots] at X2 l2 y2 z2 st2 hQ2
  subst l2 y2 z2
  obtain ⟨rfl, Nq2, eh2⟩ := hQ2
  have N2 := Fr.app N0 Nq2
  have cn3 := fun (t : State) (kt : SF p e below T2 (mkF m 7 #[vr sb, vi 200, vr str] [.ref sb, .ref str]) t) => cn1 t (by
    refine st2.trans ?_
    refine XS.aloadN X2.here hx rfl (hb' d41_5) rfl rfl ?_
    exact XS.aloadN X2.here hx rfl (hb' d41_6) rfl rfl kt)
  obtain ⟨T4, X4, e4, st4⟩ := getF X2 hx hZ hown (host := "") (Or.inl (wq hw 86 rfl)) Via.refl eh2 Fsbv (g := (mkF m 7 #[vr sb, vi 200, vr str] [.ref sb, .ref str])) rfl rfl (hb' d41_7)
  have cn5 := fun (t : State) (kt : SF p e below T4 (mkF m 12 #[vr sb, vi 200, vr str] [.ref sb, .int 200, .ref vb, .ref str]) t) => cn3 t (by
    refine st4 _ ?_
    refine XS.iloadN X4.here hx rfl (hb' d41_10) rfl ?_
    exact XS.aloadN X4.here hx rfl (hb' d41_11) rfl rfl kt)
  obtain ⟨T6, X6, e6, st6⟩ := getF X4 hx hZ hown (host := "") (Or.inl (wq hw 88 rfl)) Via.refl e4 Fsbc (g := (mkF m 12 #[vr sb, vi 200, vr str] [.ref sb, .int 200, .ref vb, .ref str])) rfl rfl (hb' d41_12)
  have cn7 := fun (t : State) (kt : SF p e below T6 (mkF m 15 #[vr sb, vi 200, vr str] [.int 1, .int 200, .ref vb, .ref str]) t) => cn5 t (by
    exact st6 _ kt)
  obtain ⟨cq8, kq8, q8a, q8b, q8c⟩ := isOf hZ e6 E_str
  obtain ⟨_, _, ⟨T8, L8, k8, n8⟩, -, X8, ⟨Lc8, hQ8, l8, y8, z8⟩, st8⟩ := X6.virtualBack hx (y := y41') (z := y41') hown (mvT hZ (wq hw 218 rfl)) (mvT hZ (wq hw 219 rfl)) (notFace_of_selects (args := #[]) (mvT hZ (wq hw 221 rfl))) (mvT hZ (wq hw 221 rfl)) (mvT hZ (wq hw 220 rfl)) (by decide) (backOf (W := 0) (rm47_3 l Z a0 hw [] str vs ks fs vb k g co vf h0 n0 O0 E_str Fstv Fstc A_vs hfs g_vb nesv A_vb hfb hdots SWh) hZ (wq hw 222 rfl) (wq hw 3 rfl) (by decide) (by decide)) q8a q8c (g := (mkF m 15 #[vr sb, vi 200, vr str] [.int 1, .int 200, .ref vb, .ref str])) rfl (by rw [hml]; rfl) (Steps.refl _) (argsL := [(.ref vb), (.int (200 : Int32)), (.int (1 : Int32))]) (rest := []) (lenOf pd_27 rfl) rfl (Nat.le_refl _) (hb' d41_15) (fun _ _ => ⟨rfl, e6, (by decide : 0 + 0 ≤ _), (by decide : 0 + 0 ≤ _)⟩)
  dsimp only [Pt.U, Pt.locs, Pt.cells, Pt.slots] at X8 l8 y8 z8 st8 hQ8
  subst l8 y8 z8
  obtain ⟨f8, rfl, Nq8, Kq8, Aq8, hfb8, hG8⟩ := hQ8
  have N8 := Fr.app N2 Nq8
  have K8 := Kq8
  have E_sb_e8 := E_sb.keep K8
  have Fsbv_e8 := Fsbv.keep K8 (ninS (own_neA E_sb A_vb (wq hw 73 rfl)) nin0)
  have Fsbc_e8 := Fsbc.keep K8 (ninS (own_neA E_sb A_vb (wq hw 73 rfl)) nin0)
  have Fsbn_e8 := Fsbn.keep K8 (ninS (own_neA E_sb A_vb (wq hw 73 rfl)) nin0)
  have Fsbm_e8 := Fsbm.keep K8 (ninS (own_neA E_sb A_vb (wq hw 73 rfl)) nin0)
  have E_str_e8 := E_str.keep K8
  have Fstv_e8 := Fstv.keep K8 (ninS (own_neA E_str A_vb (wq hw 2 rfl)) nin0)
  have Fstc_e8 := Fstc.keep K8 (ninS (own_neA E_str A_vb (wq hw 2 rfl)) nin0)
  have A_vs_e8 := A_vs.keep K8 (ninS nesv nin0)
  have O8 := O0.keep K8 (allS g_vb all0)
  have KK8 : Keep h0 T8.heap [vb] := (Keep.refl h0 [vb]).trans K8 (allS (Or.inl (List.mem_of_getElem? (i := 0) rfl)) all0)
  have cn9 := fun (t : State) (kt : SF p e below T8 (mkF m 18 #[vr sb, vi 200, vr str] []) t) => cn7 t (by
    exact st8.trans kt)
  obtain ⟨frs, hr, hrun, hended, hW, hsame⟩ := X8.leave (v := none) (fun _ => rfl)
  refine ⟨_, _, cn9 _ ?_, hrun, hended, _, _, rfl, ?_, ⟨_, rfl⟩, hW, hsame.mono (by decide) (by decide)⟩
  · exact X8.returnOut hx Bd.returns (hb' d41_18) hr
  · show QDA Z vb k 804 (fun f' => (∀ j, j < 3 → f' (2 * (200 + j)) = .int (own_b0 (([46, 46, 46] : List Int32).getD j 0)) ∧ f' (2 * (200 + j) + 1) = .int (own_b1 (([46, 46, 46] : List Int32).getD j 0))) ∧ ∀ q, q < 2 * 200 → f' q = g q) h0 n0 _ T8.heap _
    exact ⟨_, rfl, N8, KK8, Aq8, hfb8, hG8⟩

theorem d35_0 : DC c43' 0 (.aload_n 1) 1 := by decide +kernel
theorem d35_1 : DC c43' 1 (.ifnonnull 8) 3 := by decide +kernel
theorem d35_9 : DC c43' 9 (.aload_n 1) 1 := by decide +kernel
theorem d35_10 : DC c43' 10 (.invokevirtual 32) 3 := by decide +kernel
theorem d35_13 : DC c43' 13 (.istore_n 2) 1 := by decide +kernel
theorem d35_14 : DC c43' 14 (.aload_n 0) 1 := by decide +kernel
theorem d35_15 : DC c43' 15 (.aload_n 0) 1 := by decide +kernel
theorem d35_16 : DC c43' 16 (.getfield 79) 3 := by decide +kernel
theorem d35_19 : DC c43' 19 (.iload_n 2) 1 := by decide +kernel
theorem d35_20 : DC c43' 20 (.iadd) 1 := by decide +kernel
theorem d35_21 : DC c43' 21 (.invokevirtual 100) 3 := by decide +kernel
theorem d35_24 : DC c43' 24 (.aload_n 0) 1 := by decide +kernel
theorem d35_25 : DC c43' 25 (.aload_n 0) 1 := by decide +kernel
theorem d35_26 : DC c43' 26 (.getfield 79) 3 := by decide +kernel
theorem d35_29 : DC c43' 29 (.aload_n 1) 1 := by decide +kernel
theorem d35_30 : DC c43' 30 (.invokevirtual 208) 3 := by decide +kernel
theorem d35_33 : DC c43' 33 (.aload_n 0) 1 := by decide +kernel
theorem d35_34 : DC c43' 34 (.dup) 1 := by decide +kernel
theorem d35_35 : DC c43' 35 (.getfield 79) 3 := by decide +kernel
theorem d35_38 : DC c43' 38 (.iload_n 2) 1 := by decide +kernel
theorem d35_39 : DC c43' 39 (.iadd) 1 := by decide +kernel
theorem d35_40 : DC c43' 40 (.putfield 79) 3 := by decide +kernel
theorem d35_43 : DC c43' 43 (.aload_n 0) 1 := by decide +kernel
theorem d35_44 : DC c43' 44 (.areturn) 1 := by decide +kernel
theorem pd_28 : parseMethodDescriptor "(ILjava/lang/String;)V" = some ⟨[.int, (.object "java/lang/String")], none⟩ := by decide +kernel
theorem ef_35_0 (m : MethodId) (x0 : Addr) (x1 : Addr) : entryFrame m #[(.ref x0), (.ref x1)] 3 = mkF m 0 #[.val (.ref x0), .val (.ref x1), .unset] [] := by first | (simp [entryFrame, mkF, argsToLocals, Value.category]; done) | rfl
theorem rm35_0 (l : Launch) (Z : State) (a0 : Array Value) (hw : HW a0 Z) (ws : List Jvm.Cond) (sb vb : Addr) (k : ClassId) (f : Nat → Value) (str vs : Addr) (ks : ClassId) (fs : Nat → Value) (co : Int32) (vf : Value) (h0 : Heap) (n0 : Nat) (O0 : Old Z n0 h0) (g_sb : n0 ≤ sb) (Bh : SBF Z h0 sb vb 0 0) (A_vb : AF Z h0 vb k .byte 16 f) (hfb : own_fb 16 f) (E_str : Exa Z h0 str "java/lang/String") (Fstv : Fld Z h0 str "java/lang/String" "value" "[B" (.ref vs)) (Fstc : Fld Z h0 str "java/lang/String" "coder" "B" (.int (0 : Int32))) (A_vs : AF Z h0 vs ks .byte 200 fs) (hfs : own_fb 200 fs) (SWh : SW Z co vf) :
    MT l y43' c43' 3 (some (.object "java/lang/AbstractStringBuilder")) ws ({ frames := 4, cells := 1, slots := 804, locals := 69 } : Room) #[(.ref sb), (.ref str)] Z h0 (QSB Z sb 0 200 200 (fun f' => ∀ j, j < 200 → f' j = fs j) (some (.ref sb)) h0 n0) := by
  refine MetFree.of_bodySF (plainFor_of_name pn_java_lang_AbstractStringBuilder) hisR ?_
  intro p e s m args below meth kode s₁ Bd hml0 hP hK
  obtain ⟨rfl, hZ, hh⟩ := hP
  have hx := Bd.exec
  have hby := Bd.bytes
  have hb' := @hb _ _ hby
  have hml : kode.maxLocals = 3 := hml0
  have hown : s.vm.findClass "java/lang/AbstractStringBuilder" = some m.cls := findClass_of_methodNamed Bd.named
  have X0 : Stand p l e ({ frames := 4, cells := 1, slots := 804, locals := 69 } : Room) s m #[(.ref sb), (.ref str)] below meth kode s₁ [] 0 0 := Stand.of_body Bd
  have e0 : s₁.heap = h0 := by rw [← hh, Bd.state]; rfl
  have N0 := Fr.nil n0
  have pre0 : ∀ t, SF p e below s₁ (mkF m 0 #[vr sb, vr str, .unset] []) t → SF p e below s₁ (entryFrame m #[(.ref sb), (.ref str)] 3) t := fun t k => castTop (ef_35_0 m sb str) k
  have SWx := SWh
  obtain ⟨S_CS, hcs, S_AD, S_HI, S_LO, S_SI, hcat_vf⟩ := SWx
  have Bx := Bh
  obtain ⟨E_sb, Fsbv, Fsbc, Fsbn, Fsbm⟩ := Bx
  have cn1 := fun (t : State) (kt : SF p e below s₁ (mkF m 10 #[vr sb, vr str, .unset] [.ref str]) t) => pre0 t (by
    refine XS.aloadN X0.here hx rfl (hb' d35_0) rfl rfl ?_
    refine XS.ifnonnullYes X0.here hx rfl (pc0 := 1) (pc' := 9) rfl (hb' d35_1) rfl (by decide) (by decide) ?_
    exact XS.aloadN X0.here hx rfl (hb' d35_9) rfl rfl kt)
  obtain ⟨cq2, kq2, q2a, q2b, q2c⟩ := isOf hZ e0 E_str
  obtain ⟨_, _, ⟨T2, L2, k2, n2⟩, -, X2, ⟨Lc2, hQ2, l2, y2, z2⟩, st2⟩ := X0.virtualBack hx (y := y13') (z := y13') hown (mvT hZ (wq hw 164 rfl)) (mvT hZ (wq hw 27 rfl)) (notFace_of_selects (args := #[]) (mvT hZ (wq hw 29 rfl))) (mvT hZ (wq hw 29 rfl)) (mvT hZ (wq hw 28 rfl)) (by decide) (backOf (W := 0) (rm5_200 l Z a0 hw [] str vs ks fs co vf h0 n0 O0 E_str Fstv Fstc A_vs hfs SWh) hZ (wq hw 30 rfl) (wq hw 3 rfl) (by decide) (by decide)) q2a q2c (g := (mkF m 10 #[vr sb, vr str, .unset] [.ref str])) rfl (by rw [hml]; rfl) (Steps.refl _) (argsL := []) (rest := []) (lenOf pd_18 rfl) rfl (Nat.le_refl _) (hb' d35_10) (fun _ _ => ⟨rfl, e0, (by decide : 0 + 0 ≤ _), (by decide : 0 + 0 ≤ _)⟩)
  dsimp only [Pt.U, Pt.locs, Pt.cells, Pt.slots] at X2 l2 y2 z2 st2 hQ2
  subst l2 y2 z2
  obtain ⟨rfl, Nq2, eh2⟩ := hQ2
  have N2 := Fr.app N0 Nq2
  have cn3 := fun (t : State) (kt : SF p e below T2 (mkF m 16 #[vr sb, vr str, vi 200] [.ref sb, .ref sb]) t) => cn1 t (by
    refine st2.trans ?_
    refine XS.istoreN X2.here hx rfl (hb' d35_13) rfl (l' := #[vr sb, vr str, vi 200]) rfl ?_
    refine XS.aloadN X2.here hx rfl (hb' d35_14) rfl rfl ?_
    exact XS.aloadN X2.here hx rfl (hb' d35_15) rfl rfl kt)
  obtain ⟨T4, X4, e4, st4⟩ := getF X2 hx hZ hown (host := "") (Or.inl (wq hw 165 rfl)) Via.refl eh2 Fsbn (g := (mkF m 16 #[vr sb, vr str, vi 200] [.ref sb, .ref sb])) rfl rfl (hb' d35_16)
  have cn5 := fun (t : State) (kt : SF p e below T4 (mkF m 21 #[vr sb, vr str, vi 200] [.int 200, .ref sb]) t) => cn3 t (by
    refine st4 _ ?_
    refine XS.iloadN X4.here hx rfl (hb' d35_19) rfl ?_
    exact XS.iadd X4.here hx rfl (hb' d35_20) rfl kt)
  obtain ⟨cq6, q6, q6'⟩ := E_sb.cell
  obtain ⟨_, _, ⟨T6, L6, k6, n6⟩, -, X6, ⟨Lc6, hQ6, l6, y6, z6⟩, st6⟩ := X4.privateBack hx (y := y35') hown (mvT hZ (wq hw 167 rfl)) (mvT hZ (wq hw 168 rfl)) (own_selq (y := y35') hZ (wq hw 170 rfl) (wq hw 169 rfl) (wq hw 168 rfl) (by decide)) (Cond.privateMethod_at (mvP hZ (wq hw 169 rfl) (args := #[]))) (mvT hZ (wq hw 171 rfl)) (by decide) (backOf (W := 0) (rm36_0 l Z a0 hw [] sb vb k f h0 n0 O0 g_sb ⟨E_sb, Fsbv, Fsbc, Fsbn, Fsbm⟩ A_vb hfb) hZ (wq hw 171 rfl) (wq hw 82 rfl) (by decide) (by decide)) (g := (mkF m 21 #[vr sb, vr str, vi 200] [.int 200, .ref sb])) rfl (by rw [hml]; rfl) (Steps.refl _) (a := sb) (by rw [e4]; exact q6) q6' (argsL := [(.int (200 : Int32))]) (rest := []) (lenOf pd_22 rfl) rfl (Nat.le_refl _) (hb' d35_21) (fun _ _ => ⟨rfl, e4, (by decide : 0 + 1 ≤ _), (by decide : 0 + 804 ≤ _)⟩)
  dsimp only [Pt.U, Pt.locs, Pt.cells, Pt.slots] at X6 l6 y6 z6 st6 hQ6
  subst l6 y6 z6
  obtain ⟨r6x, kq6, f6, rfl, Nq6, Kq6, szq6, ⟨E_sb6, Fsbv6, Fsbc6, Fsbn6, Fsbm6⟩, Aq6, hfb6, hB6⟩ := hQ6
  have N6 := Fr.app N2 Nq6
  have sz_r6x : h0.size ≤ r6x := Nat.le_trans (Keep.refl h0 [sb]).1 szq6
  have g_r6x : n0 ≤ r6x := Nat.le_trans (O0.1 ▸ O0.2.1) sz_r6x
  have ne_sb_r6x : sb ≠ r6x := Nat.ne_of_lt (Nat.lt_of_lt_of_le E_sb.lt szq6)
  have ne_vb_r6x : vb ≠ r6x := Nat.ne_of_lt (Nat.lt_of_lt_of_le A_vb.lt szq6)
  have ne_str_r6x : str ≠ r6x := Nat.ne_of_lt (Nat.lt_of_lt_of_le E_str.lt szq6)
  have ne_vs_r6x : vs ≠ r6x := Nat.ne_of_lt (Nat.lt_of_lt_of_le A_vs.lt szq6)
  have K6 := Kq6
  have E_sb_e6 := E_sb.keep K6
  have A_vb_e6 := A_vb.keep K6 (ninS (Ne.symm (own_neA E_sb A_vb (wq hw 73 rfl))) nin0)
  have E_str_e6 := E_str.keep K6
  have Fstv_e6 := Fstv.keep K6 (ninS (Exa.ne E_str E_sb (by decide)) nin0)
  have Fstc_e6 := Fstc.keep K6 (ninS (Exa.ne E_str E_sb (by decide)) nin0)
  have A_vs_e6 := A_vs.keep K6 (ninS (Ne.symm (own_neA E_sb A_vs (wq hw 73 rfl))) nin0)
  have O6 := O0.keep K6 (allS g_sb all0)
  have KK6 : Keep h0 T6.heap [sb] := (Keep.refl h0 [sb]).trans K6 (allS (Or.inl (List.mem_of_getElem? (i := 0) rfl)) all0)
  have cn7 := fun (t : State) (kt : SF p e below T6 (mkF m 26 #[vr sb, vr str, vi 200] [.ref sb, .ref sb]) t) => cn5 t (by
    refine st6.trans ?_
    refine XS.aloadN X6.here hx rfl (hb' d35_24) rfl rfl ?_
    exact XS.aloadN X6.here hx rfl (hb' d35_25) rfl rfl kt)
  obtain ⟨T8, X8, e8, st8⟩ := getF X6 hx hZ hown (host := "") (Or.inl (wq hw 165 rfl)) Via.refl rfl Fsbn6 (g := (mkF m 26 #[vr sb, vr str, vi 200] [.ref sb, .ref sb])) rfl rfl (hb' d35_26)
  have cn9 := fun (t : State) (kt : SF p e below T8 (mkF m 30 #[vr sb, vr str, vi 200] [.ref str, .int 0, .ref sb]) t) => cn7 t (by
    refine st8 _ ?_
    exact XS.aloadN X8.here hx rfl (hb' d35_29) rfl rfl kt)
  obtain ⟨cq10, q10, q10'⟩ := E_sb6.cell
  obtain ⟨_, _, ⟨T10, L10, k10, n10⟩, -, X10, ⟨Lc10, hQ10, l10, y10, z10⟩, st10⟩ := X8.privateBack hx (y := y42') hown (mvT hZ (wq hw 189 rfl)) (mvT hZ (wq hw 190 rfl)) (own_selq (y := y42') hZ (wq hw 192 rfl) (wq hw 191 rfl) (wq hw 190 rfl) (by decide)) (Cond.privateMethod_at (mvP hZ (wq hw 191 rfl) (args := #[]))) (mvT hZ (wq hw 193 rfl)) (by decide) (backOf (W := 0) (rm41_0 l Z a0 hw [] sb r6x kq6 f6 str vs ks fs co vf T6.heap n0 O6 g_sb g_r6x ⟨E_sb6, Fsbv6, Fsbc6, Fsbn6, Fsbm6⟩ Aq6 hfb6 E_str_e6 Fstv_e6 Fstc_e6 A_vs_e6 hfs ne_vs_r6x SWh) hZ (wq hw 193 rfl) (wq hw 82 rfl) (by decide) (by decide)) (g := (mkF m 30 #[vr sb, vr str, vi 200] [.ref str, .int 0, .ref sb])) rfl (by rw [hml]; rfl) (Steps.refl _) (a := sb) (by rw [e8]; exact q10) q10' (argsL := [(.int (0 : Int32)), (.ref str)]) (rest := []) (lenOf pd_28 rfl) rfl (Nat.le_refl _) (hb' d35_30) (fun _ _ => ⟨rfl, e8, (by decide : 1 + 0 ≤ _), (by decide : 804 + 0 ≤ _)⟩)
  dsimp only [Pt.U, Pt.locs, Pt.cells, Pt.slots] at X10 l10 y10 z10 st10 hQ10
  subst l10 y10 z10
  obtain ⟨f10, rfl, Nq10, Kq10, Aq10, hfb10, hG10⟩ := hQ10
  have N10 := Fr.app N6 Nq10
  have K10 := Kq10
  have E_sb6_e10 := E_sb6.keep K10
  have A_vb_e10 := A_vb_e6.keep K10 (ninS ne_vb_r6x nin0)
  have E_str_e10 := E_str_e6.keep K10
  have Fstv_e10 := Fstv_e6.keep K10 (ninS ne_str_r6x nin0)
  have Fstc_e10 := Fstc_e6.keep K10 (ninS ne_str_r6x nin0)
  have A_vs_e10 := A_vs_e6.keep K10 (ninS ne_vs_r6x nin0)
  have Fsbv6_e10 := Fsbv6.keep K10 (ninS ne_sb_r6x nin0)
  have Fsbc6_e10 := Fsbc6.keep K10 (ninS ne_sb_r6x nin0)
  have Fsbn6_e10 := Fsbn6.keep K10 (ninS ne_sb_r6x nin0)
  have Fsbm6_e10 := Fsbm6.keep K10 (ninS ne_sb_r6x nin0)
  have O10 := O6.keep K10 (allS g_r6x all0)
  have KK10 : Keep h0 T10.heap [sb] := KK6.trans K10 (allS (Or.inr sz_r6x) all0)
  have cn11 := fun (t : State) (kt : SF p e below T10 (mkF m 35 #[vr sb, vr str, vi 200] [.ref sb, .ref sb]) t) => cn9 t (by
    refine st10.trans ?_
    refine XS.aloadN X10.here hx rfl (hb' d35_33) rfl rfl ?_
    exact XS.dup X10.here hx rfl (hb' d35_34) rfl rfl kt)
  obtain ⟨T12, X12, e12, st12⟩ := getF X10 hx hZ hown (host := "") (Or.inl (wq hw 165 rfl)) Via.refl rfl Fsbn6_e10 (g := (mkF m 35 #[vr sb, vr str, vi 200] [.ref sb, .ref sb])) rfl rfl (hb' d35_35)
  have cn13 := fun (t : State) (kt : SF p e below T12 (mkF m 40 #[vr sb, vr str, vi 200] [.int 200, .ref sb]) t) => cn11 t (by
    refine st12 _ ?_
    refine XS.iloadN X12.here hx rfl (hb' d35_38) rfl ?_
    exact XS.iadd X12.here hx rfl (hb' d35_39) rfl kt)
  obtain ⟨T14, h14, X14, e14, W14, st14⟩ := putF X12 hx hZ hown (host := "") (Or.inl (wq hw 165 rfl)) Via.refl e12 Fsbn6_e10 E_sb6_e10 (Or.inl (wq hw 166 rfl)) (wq hw 73 rfl) (ty := .int) (by decide) rfl rfl (g := (mkF m 40 #[vr sb, vr str, vi 200] [.int 200, .ref sb])) rfl rfl (hb' d35_40)
  have E_sb6_e14 := E_sb6_e10.wr W14
  have A_vb_e14 := A_vb_e10.other W14 (Ne.symm (own_neA E_sb6_e10 A_vb_e10 (wq hw 73 rfl)))
  have E_str_e14 := E_str_e10.wr W14
  have Fstv_e14 := Fstv_e10.other W14 (Or.inl (Exa.ne E_str_e10 E_sb6_e10 (by decide)))
  have Fstc_e14 := Fstc_e10.other W14 (Or.inl (Exa.ne E_str_e10 E_sb6_e10 (by decide)))
  have A_vs_e14 := A_vs_e10.other W14 (Ne.symm (own_neA E_sb6_e10 A_vs_e10 (wq hw 73 rfl)))
  have Fsbv6_e14 := Fsbv6_e10.other W14 (Or.inr (slot_ne (Or.inl (wq hw 87 rfl)) (Or.inl (wq hw 166 rfl)) (by decide) (t := (.array .byte)) (t' := .int) (by decide) (by decide)))
  have Fsbc6_e14 := Fsbc6_e10.other W14 (Or.inr (slot_ne (Or.inl (wq hw 89 rfl)) (Or.inl (wq hw 166 rfl)) (by decide) (t := .byte) (t' := .int) (by decide) (by decide)))
  have Fsbm6_e14 := Fsbm6_e10.other W14 (Or.inr (slot_ne (Or.inl (wq hw 253 rfl)) (Or.inl (wq hw 166 rfl)) (by decide) (t := .boolean) (t' := .int) (by decide) (by decide)))
  have Aq10_e14 := Aq10.other W14 (Ne.symm ne_sb_r6x)
  have N14 := Fr.snoc X14 N10 g_sb
  have O14 := O10.wr W14 g_sb
  have K14 : Keep h0 h14 [sb] := KK10.wr W14 (Or.inl (List.mem_of_getElem? (i := 0) rfl))
  have Fcount_14 := Fsbn6_e10.same W14
  have cn15 := fun (t : State) (kt : SF p e below T14 (mkF m 44 #[vr sb, vr str, vi 200] [.ref sb]) t) => cn13 t (by
    refine st14 _ ?_
    exact XS.aloadN X14.here hx rfl (hb' d35_43) rfl rfl kt)
  obtain ⟨frs, hr, hrun, hended, hW, hsame⟩ := X14.leave (v := some (.ref sb)) (fun h => by rw [Bd.returns] at h; cases h)
  refine ⟨_, _, cn15 _ ?_, hrun, hended, _, _, rfl, ?_, ⟨_, rfl⟩, hW, hsame.mono (by decide) (by decide)⟩
  · jvm_step X14.here [X14.here.top, hx, (hb' d35_44), X14.method', Bd.returns, Value.isRef, FieldType.isReference]
    first | (intro acts; rw [hr _ acts rfl rfl rfl]) | rw [hr _ _ rfl rfl rfl]
    exact Steps.refl _
  · show QSB Z sb 0 200 200 (fun f' => ∀ j, j < 200 → f' j = fs j) (some (.ref sb)) h0 n0 _ T14.heap _
    rw [e14]
    exact ⟨r6x, _, _, rfl, N14, K14, sz_r6x, ⟨E_sb6_e14, Fsbv6_e14, Fsbc6_e14, Fcount_14, Fsbm6_e14⟩, Aq10_e14, hfb10, fun j hj => by have q := hG10.1 j hj; rwa [Nat.zero_add] at q⟩

theorem ef_35_1 (m : MethodId) (x0 : Addr) (x1 : Addr) : entryFrame m #[(.ref x0), (.ref x1)] 3 = mkF m 0 #[.val (.ref x0), .val (.ref x1), .unset] [] := by first | (simp [entryFrame, mkF, argsToLocals, Value.category]; done) | rfl
theorem rm35_1 (l : Launch) (Z : State) (a0 : Array Value) (hw : HW a0 Z) (ws : List Jvm.Cond) (sb vb : Addr) (k : ClassId) (f : Nat → Value) (str vs : Addr) (ks : ClassId) (fs : Nat → Value) (co : Int32) (vf : Value) (h0 : Heap) (n0 : Nat) (O0 : Old Z n0 h0) (g_sb : n0 ≤ sb) (Bh : SBF Z h0 sb vb 0 0) (A_vb : AF Z h0 vb k .byte 16 f) (hfb : own_fb 16 f) (E_str : Exa Z h0 str "java/lang/String") (Fstv : Fld Z h0 str "java/lang/String" "value" "[B" (.ref vs)) (Fstc : Fld Z h0 str "java/lang/String" "coder" "B" (.int (1 : Int32))) (A_vs : AF Z h0 vs ks .byte 400 fs) (hfs : own_fb 400 fs) (SWh : SW Z co vf) :
    MT l y43' c43' 3 (some (.object "java/lang/AbstractStringBuilder")) ws ({ frames := 8, cells := 2, slots := 1608, locals := 116 } : Room) #[(.ref sb), (.ref str)] Z h0 (QSB Z sb 1 200 400 (fun f' => ∀ j, j < 400 → f' j = fs j) (some (.ref sb)) h0 n0) := by
  refine MetFree.of_bodySF (plainFor_of_name pn_java_lang_AbstractStringBuilder) hisR ?_
  intro p e s m args below meth kode s₁ Bd hml0 hP hK
  obtain ⟨rfl, hZ, hh⟩ := hP
  have hx := Bd.exec
  have hby := Bd.bytes
  have hb' := @hb _ _ hby
  have hml : kode.maxLocals = 3 := hml0
  have hown : s.vm.findClass "java/lang/AbstractStringBuilder" = some m.cls := findClass_of_methodNamed Bd.named
  have X0 : Stand p l e ({ frames := 8, cells := 2, slots := 1608, locals := 116 } : Room) s m #[(.ref sb), (.ref str)] below meth kode s₁ [] 0 0 := Stand.of_body Bd
  have e0 : s₁.heap = h0 := by rw [← hh, Bd.state]; rfl
  have N0 := Fr.nil n0
  have pre0 : ∀ t, SF p e below s₁ (mkF m 0 #[vr sb, vr str, .unset] []) t → SF p e below s₁ (entryFrame m #[(.ref sb), (.ref str)] 3) t := fun t k => castTop (ef_35_1 m sb str) k
  have SWx := SWh
  obtain ⟨S_CS, hcs, S_AD, S_HI, S_LO, S_SI, hcat_vf⟩ := SWx
  have Bx := Bh
  obtain ⟨E_sb, Fsbv, Fsbc, Fsbn, Fsbm⟩ := Bx
  have cn1 := fun (t : State) (kt : SF p e below s₁ (mkF m 10 #[vr sb, vr str, .unset] [.ref str]) t) => pre0 t (by
    refine XS.aloadN X0.here hx rfl (hb' d35_0) rfl rfl ?_
    refine XS.ifnonnullYes X0.here hx rfl (pc0 := 1) (pc' := 9) rfl (hb' d35_1) rfl (by decide) (by decide) ?_
    exact XS.aloadN X0.here hx rfl (hb' d35_9) rfl rfl kt)
  obtain ⟨cq2, kq2, q2a, q2b, q2c⟩ := isOf hZ e0 E_str
  obtain ⟨_, _, ⟨T2, L2, k2, n2⟩, -, X2, ⟨Lc2, hQ2, l2, y2, z2⟩, st2⟩ := X0.virtualBack hx (y := y13') (z := y13') hown (mvT hZ (wq hw 164 rfl)) (mvT hZ (wq hw 27 rfl)) (notFace_of_selects (args := #[]) (mvT hZ (wq hw 29 rfl))) (mvT hZ (wq hw 29 rfl)) (mvT hZ (wq hw 28 rfl)) (by decide) (backOf (W := 0) (rm5_400 l Z a0 hw [] str vs ks fs co vf h0 n0 O0 E_str Fstv Fstc A_vs hfs SWh) hZ (wq hw 30 rfl) (wq hw 3 rfl) (by decide) (by decide)) q2a q2c (g := (mkF m 10 #[vr sb, vr str, .unset] [.ref str])) rfl (by rw [hml]; rfl) (Steps.refl _) (argsL := []) (rest := []) (lenOf pd_18 rfl) rfl (Nat.le_refl _) (hb' d35_10) (fun _ _ => ⟨rfl, e0, (by decide : 0 + 0 ≤ _), (by decide : 0 + 0 ≤ _)⟩)
  dsimp only [Pt.U, Pt.locs, Pt.cells, Pt.slots] at X2 l2 y2 z2 st2 hQ2
  subst l2 y2 z2
  obtain ⟨rfl, Nq2, eh2⟩ := hQ2
  have N2 := Fr.app N0 Nq2
  have cn3 := fun (t : State) (kt : SF p e below T2 (mkF m 16 #[vr sb, vr str, vi 200] [.ref sb, .ref sb]) t) => cn1 t (by
    refine st2.trans ?_
    refine XS.istoreN X2.here hx rfl (hb' d35_13) rfl (l' := #[vr sb, vr str, vi 200]) rfl ?_
    refine XS.aloadN X2.here hx rfl (hb' d35_14) rfl rfl ?_
    exact XS.aloadN X2.here hx rfl (hb' d35_15) rfl rfl kt)
  obtain ⟨T4, X4, e4, st4⟩ := getF X2 hx hZ hown (host := "") (Or.inl (wq hw 165 rfl)) Via.refl eh2 Fsbn (g := (mkF m 16 #[vr sb, vr str, vi 200] [.ref sb, .ref sb])) rfl rfl (hb' d35_16)
  have cn5 := fun (t : State) (kt : SF p e below T4 (mkF m 21 #[vr sb, vr str, vi 200] [.int 200, .ref sb]) t) => cn3 t (by
    refine st4 _ ?_
    refine XS.iloadN X4.here hx rfl (hb' d35_19) rfl ?_
    exact XS.iadd X4.here hx rfl (hb' d35_20) rfl kt)
  obtain ⟨cq6, q6, q6'⟩ := E_sb.cell
  obtain ⟨_, _, ⟨T6, L6, k6, n6⟩, -, X6, ⟨Lc6, hQ6, l6, y6, z6⟩, st6⟩ := X4.privateBack hx (y := y35') hown (mvT hZ (wq hw 167 rfl)) (mvT hZ (wq hw 168 rfl)) (own_selq (y := y35') hZ (wq hw 170 rfl) (wq hw 169 rfl) (wq hw 168 rfl) (by decide)) (Cond.privateMethod_at (mvP hZ (wq hw 169 rfl) (args := #[]))) (mvT hZ (wq hw 171 rfl)) (by decide) (backOf (W := 0) (rm36_0 l Z a0 hw [] sb vb k f h0 n0 O0 g_sb ⟨E_sb, Fsbv, Fsbc, Fsbn, Fsbm⟩ A_vb hfb) hZ (wq hw 171 rfl) (wq hw 82 rfl) (by decide) (by decide)) (g := (mkF m 21 #[vr sb, vr str, vi 200] [.int 200, .ref sb])) rfl (by rw [hml]; rfl) (Steps.refl _) (a := sb) (by rw [e4]; exact q6) q6' (argsL := [(.int (200 : Int32))]) (rest := []) (lenOf pd_22 rfl) rfl (Nat.le_refl _) (hb' d35_21) (fun _ _ => ⟨rfl, e4, (by decide : 0 + 1 ≤ _), (by decide : 0 + 804 ≤ _)⟩)
  dsimp only [Pt.U, Pt.locs, Pt.cells, Pt.slots] at X6 l6 y6 z6 st6 hQ6
  subst l6 y6 z6
  obtain ⟨r6x, kq6, f6, rfl, Nq6, Kq6, szq6, ⟨E_sb6, Fsbv6, Fsbc6, Fsbn6, Fsbm6⟩, Aq6, hfb6, hB6⟩ := hQ6
  have N6 := Fr.app N2 Nq6
  have sz_r6x : h0.size ≤ r6x := Nat.le_trans (Keep.refl h0 [sb]).1 szq6
  have g_r6x : n0 ≤ r6x := Nat.le_trans (O0.1 ▸ O0.2.1) sz_r6x
  have ne_sb_r6x : sb ≠ r6x := Nat.ne_of_lt (Nat.lt_of_lt_of_le E_sb.lt szq6)
  have ne_vb_r6x : vb ≠ r6x := Nat.ne_of_lt (Nat.lt_of_lt_of_le A_vb.lt szq6)
  have ne_str_r6x : str ≠ r6x := Nat.ne_of_lt (Nat.lt_of_lt_of_le E_str.lt szq6)
  have ne_vs_r6x : vs ≠ r6x := Nat.ne_of_lt (Nat.lt_of_lt_of_le A_vs.lt szq6)
  have K6 := Kq6
  have E_sb_e6 := E_sb.keep K6
  have A_vb_e6 := A_vb.keep K6 (ninS (Ne.symm (own_neA E_sb A_vb (wq hw 73 rfl))) nin0)
  have E_str_e6 := E_str.keep K6
  have Fstv_e6 := Fstv.keep K6 (ninS (Exa.ne E_str E_sb (by decide)) nin0)
  have Fstc_e6 := Fstc.keep K6 (ninS (Exa.ne E_str E_sb (by decide)) nin0)
  have A_vs_e6 := A_vs.keep K6 (ninS (Ne.symm (own_neA E_sb A_vs (wq hw 73 rfl))) nin0)
  have O6 := O0.keep K6 (allS g_sb all0)
  have KK6 : Keep h0 T6.heap [sb] := (Keep.refl h0 [sb]).trans K6 (allS (Or.inl (List.mem_of_getElem? (i := 0) rfl)) all0)
  have cn7 := fun (t : State) (kt : SF p e below T6 (mkF m 26 #[vr sb, vr str, vi 200] [.ref sb, .ref sb]) t) => cn5 t (by
    refine st6.trans ?_
    refine XS.aloadN X6.here hx rfl (hb' d35_24) rfl rfl ?_
    exact XS.aloadN X6.here hx rfl (hb' d35_25) rfl rfl kt)
  obtain ⟨T8, X8, e8, st8⟩ := getF X6 hx hZ hown (host := "") (Or.inl (wq hw 165 rfl)) Via.refl rfl Fsbn6 (g := (mkF m 26 #[vr sb, vr str, vi 200] [.ref sb, .ref sb])) rfl rfl (hb' d35_26)
  have cn9 := fun (t : State) (kt : SF p e below T8 (mkF m 30 #[vr sb, vr str, vi 200] [.ref str, .int 0, .ref sb]) t) => cn7 t (by
    refine st8 _ ?_
    exact XS.aloadN X8.here hx rfl (hb' d35_29) rfl rfl kt)
  obtain ⟨cq10, q10, q10'⟩ := E_sb6.cell
  obtain ⟨_, _, ⟨T10, L10, k10, n10⟩, -, X10, ⟨Lc10, hQ10, l10, y10, z10⟩, st10⟩ := X8.privateBack hx (y := y42') hown (mvT hZ (wq hw 189 rfl)) (mvT hZ (wq hw 190 rfl)) (own_selq (y := y42') hZ (wq hw 192 rfl) (wq hw 191 rfl) (wq hw 190 rfl) (by decide)) (Cond.privateMethod_at (mvP hZ (wq hw 191 rfl) (args := #[]))) (mvT hZ (wq hw 193 rfl)) (by decide) (backOf (W := 0) (rm41_1 l Z a0 hw [] sb r6x kq6 f6 str vs ks fs co vf T6.heap n0 O6 g_sb g_r6x ⟨E_sb6, Fsbv6, Fsbc6, Fsbn6, Fsbm6⟩ Aq6 hfb6 E_str_e6 Fstv_e6 Fstc_e6 A_vs_e6 hfs ne_vs_r6x SWh) hZ (wq hw 193 rfl) (wq hw 82 rfl) (by decide) (by decide)) (g := (mkF m 30 #[vr sb, vr str, vi 200] [.ref str, .int 0, .ref sb])) rfl (by rw [hml]; rfl) (Steps.refl _) (a := sb) (by rw [e8]; exact q10) q10' (argsL := [(.int (0 : Int32)), (.ref str)]) (rest := []) (lenOf pd_28 rfl) rfl (Nat.le_refl _) (hb' d35_30) (fun _ _ => ⟨rfl, e8, (by decide : 1 + 1 ≤ _), (by decide : 804 + 804 ≤ _)⟩)
  dsimp only [Pt.U, Pt.locs, Pt.cells, Pt.slots] at X10 l10 y10 z10 st10 hQ10
  subst l10 y10 z10
  obtain ⟨r10x, kq10, f10, rfl, Nq10, Kq10, szq10, ⟨E_sb10, Fsbv10, Fsbc10, Fsbn10, Fsbm10⟩, Aq10, hfb10, hB10⟩ := hQ10
  have N10 := Fr.app N6 Nq10
  have sz_r10x : h0.size ≤ r10x := Nat.le_trans KK6.1 szq10
  have g_r10x : n0 ≤ r10x := Nat.le_trans (O0.1 ▸ O0.2.1) sz_r10x
  have ne_sb_r10x : sb ≠ r10x := Nat.ne_of_lt (Nat.lt_of_lt_of_le E_sb6.lt szq10)
  have ne_vb_r10x : vb ≠ r10x := Nat.ne_of_lt (Nat.lt_of_lt_of_le A_vb_e6.lt szq10)
  have ne_str_r10x : str ≠ r10x := Nat.ne_of_lt (Nat.lt_of_lt_of_le E_str_e6.lt szq10)
  have ne_vs_r10x : vs ≠ r10x := Nat.ne_of_lt (Nat.lt_of_lt_of_le A_vs_e6.lt szq10)
  have ne_r6x_r10x : r6x ≠ r10x := Nat.ne_of_lt (Nat.lt_of_lt_of_le Aq6.lt szq10)
  have K10 := Kq10
  have E_sb6_e10 := E_sb6.keep K10
  have A_vb_e10 := A_vb_e6.keep K10 (ninS (Ne.symm (own_neA E_sb6 A_vb_e6 (wq hw 73 rfl))) nin0)
  have E_str_e10 := E_str_e6.keep K10
  have Fstv_e10 := Fstv_e6.keep K10 (ninS (Exa.ne E_str_e6 E_sb6 (by decide)) nin0)
  have Fstc_e10 := Fstc_e6.keep K10 (ninS (Exa.ne E_str_e6 E_sb6 (by decide)) nin0)
  have A_vs_e10 := A_vs_e6.keep K10 (ninS (Ne.symm (own_neA E_sb6 A_vs_e6 (wq hw 73 rfl))) nin0)
  have Aq6_e10 := Aq6.keep K10 (ninS (Ne.symm ne_sb_r6x) nin0)
  have O10 := O6.keep K10 (allS g_sb all0)
  have KK10 : Keep h0 T10.heap [sb] := KK6.trans K10 (allS (Or.inl (List.mem_of_getElem? (i := 0) rfl)) all0)
  have cn11 := fun (t : State) (kt : SF p e below T10 (mkF m 35 #[vr sb, vr str, vi 200] [.ref sb, .ref sb]) t) => cn9 t (by
    refine st10.trans ?_
    refine XS.aloadN X10.here hx rfl (hb' d35_33) rfl rfl ?_
    exact XS.dup X10.here hx rfl (hb' d35_34) rfl rfl kt)
  obtain ⟨T12, X12, e12, st12⟩ := getF X10 hx hZ hown (host := "") (Or.inl (wq hw 165 rfl)) Via.refl rfl Fsbn10 (g := (mkF m 35 #[vr sb, vr str, vi 200] [.ref sb, .ref sb])) rfl rfl (hb' d35_35)
  have cn13 := fun (t : State) (kt : SF p e below T12 (mkF m 40 #[vr sb, vr str, vi 200] [.int 200, .ref sb]) t) => cn11 t (by
    refine st12 _ ?_
    refine XS.iloadN X12.here hx rfl (hb' d35_38) rfl ?_
    exact XS.iadd X12.here hx rfl (hb' d35_39) rfl kt)
  obtain ⟨T14, h14, X14, e14, W14, st14⟩ := putF X12 hx hZ hown (host := "") (Or.inl (wq hw 165 rfl)) Via.refl e12 Fsbn10 E_sb10 (Or.inl (wq hw 166 rfl)) (wq hw 73 rfl) (ty := .int) (by decide) rfl rfl (g := (mkF m 40 #[vr sb, vr str, vi 200] [.int 200, .ref sb])) rfl rfl (hb' d35_40)
  have E_sb10_e14 := E_sb10.wr W14
  have A_vb_e14 := A_vb_e10.other W14 (Ne.symm (own_neA E_sb10 A_vb_e10 (wq hw 73 rfl)))
  have E_str_e14 := E_str_e10.wr W14
  have Fstv_e14 := Fstv_e10.other W14 (Or.inl (Exa.ne E_str_e10 E_sb10 (by decide)))
  have Fstc_e14 := Fstc_e10.other W14 (Or.inl (Exa.ne E_str_e10 E_sb10 (by decide)))
  have A_vs_e14 := A_vs_e10.other W14 (Ne.symm (own_neA E_sb10 A_vs_e10 (wq hw 73 rfl)))
  have Aq6_e14 := Aq6_e10.other W14 (Ne.symm ne_sb_r6x)
  have Fsbv10_e14 := Fsbv10.other W14 (Or.inr (slot_ne (Or.inl (wq hw 87 rfl)) (Or.inl (wq hw 166 rfl)) (by decide) (t := (.array .byte)) (t' := .int) (by decide) (by decide)))
  have Fsbc10_e14 := Fsbc10.other W14 (Or.inr (slot_ne (Or.inl (wq hw 89 rfl)) (Or.inl (wq hw 166 rfl)) (by decide) (t := .byte) (t' := .int) (by decide) (by decide)))
  have Fsbm10_e14 := Fsbm10.other W14 (Or.inr (slot_ne (Or.inl (wq hw 253 rfl)) (Or.inl (wq hw 166 rfl)) (by decide) (t := .boolean) (t' := .int) (by decide) (by decide)))
  have Aq10_e14 := Aq10.other W14 (Ne.symm ne_sb_r10x)
  have N14 := Fr.snoc X14 N10 g_sb
  have O14 := O10.wr W14 g_sb
  have K14 : Keep h0 h14 [sb] := KK10.wr W14 (Or.inl (List.mem_of_getElem? (i := 0) rfl))
  have Fcount_14 := Fsbn10.same W14
  have cn15 := fun (t : State) (kt : SF p e below T14 (mkF m 44 #[vr sb, vr str, vi 200] [.ref sb]) t) => cn13 t (by
    refine st14 _ ?_
    exact XS.aloadN X14.here hx rfl (hb' d35_43) rfl rfl kt)
  obtain ⟨frs, hr, hrun, hended, hW, hsame⟩ := X14.leave (v := some (.ref sb)) (fun h => by rw [Bd.returns] at h; cases h)
  refine ⟨_, _, cn15 _ ?_, hrun, hended, _, _, rfl, ?_, ⟨_, rfl⟩, hW, hsame.mono (by decide) (by decide)⟩
  · jvm_step X14.here [X14.here.top, hx, (hb' d35_44), X14.method', Bd.returns, Value.isRef, FieldType.isReference]
    first | (intro acts; rw [hr _ acts rfl rfl rfl]) | rw [hr _ _ rfl rfl rfl]
    exact Steps.refl _
  · show QSB Z sb 1 200 400 (fun f' => ∀ j, j < 400 → f' j = fs j) (some (.ref sb)) h0 n0 _ T14.heap _
    rw [e14]
    exact ⟨r10x, _, _, rfl, N14, K14, sz_r10x, ⟨E_sb10_e14, Fsbv10_e14, Fsbc10_e14, Fcount_14, Fsbm10_e14⟩, Aq10_e14, hfb10, hB10⟩

theorem ef_35_2 (m : MethodId) (x0 : Addr) (x1 : Addr) : entryFrame m #[(.ref x0), (.ref x1)] 3 = mkF m 0 #[.val (.ref x0), .val (.ref x1), .unset] [] := by first | (simp [entryFrame, mkF, argsToLocals, Value.category]; done) | rfl
theorem rm35_2 (l : Launch) (Z : State) (a0 : Array Value) (hw : HW a0 Z) (ws : List Jvm.Cond) (sb vb : Addr) (k : ClassId) (f : Nat → Value) (str vs : Addr) (ks : ClassId) (fs : Nat → Value) (co : Int32) (vf : Value) (h0 : Heap) (n0 : Nat) (O0 : Old Z n0 h0) (g_sb : n0 ≤ sb) (Bh : SBF Z h0 sb vb 0 200) (A_vb : AF Z h0 vb k .byte 200 f) (hfb : own_fb 200 f) (E_str : Exa Z h0 str "java/lang/String") (Fstv : Fld Z h0 str "java/lang/String" "value" "[B" (.ref vs)) (Fstc : Fld Z h0 str "java/lang/String" "coder" "B" (.int (0 : Int32))) (A_vs : AF Z h0 vs ks .byte 3 fs) (hfs : own_fb 3 fs) (hdots : own_dots fs) (SWh : SW Z co vf) :
    MT l y43' c43' 3 (some (.object "java/lang/AbstractStringBuilder")) ws ({ frames := 4, cells := 1, slots := 804, locals := 69 } : Room) #[(.ref sb), (.ref str)] Z h0 (QSB Z sb 0 203 402 (fun f' => (∀ j, j < 3 → f' (200 + j) = fs j) ∧ ∀ q, q < 200 → f' q = f q) (some (.ref sb)) h0 n0) := by
  refine MetFree.of_bodySF (plainFor_of_name pn_java_lang_AbstractStringBuilder) hisR ?_
  intro p e s m args below meth kode s₁ Bd hml0 hP hK
  obtain ⟨rfl, hZ, hh⟩ := hP
  have hx := Bd.exec
  have hby := Bd.bytes
  have hb' := @hb _ _ hby
  have hml : kode.maxLocals = 3 := hml0
  have hown : s.vm.findClass "java/lang/AbstractStringBuilder" = some m.cls := findClass_of_methodNamed Bd.named
  have X0 : Stand p l e ({ frames := 4, cells := 1, slots := 804, locals := 69 } : Room) s m #[(.ref sb), (.ref str)] below meth kode s₁ [] 0 0 := Stand.of_body Bd
  have e0 : s₁.heap = h0 := by rw [← hh, Bd.state]; rfl
  have N0 := Fr.nil n0
  have pre0 : ∀ t, SF p e below s₁ (mkF m 0 #[vr sb, vr str, .unset] []) t → SF p e below s₁ (entryFrame m #[(.ref sb), (.ref str)] 3) t := fun t k => castTop (ef_35_2 m sb str) k
  have SWx := SWh
  obtain ⟨S_CS, hcs, S_AD, S_HI, S_LO, S_SI, hcat_vf⟩ := SWx
  have Bx := Bh
  obtain ⟨E_sb, Fsbv, Fsbc, Fsbn, Fsbm⟩ := Bx
  have cn1 := fun (t : State) (kt : SF p e below s₁ (mkF m 10 #[vr sb, vr str, .unset] [.ref str]) t) => pre0 t (by
    refine XS.aloadN X0.here hx rfl (hb' d35_0) rfl rfl ?_
    refine XS.ifnonnullYes X0.here hx rfl (pc0 := 1) (pc' := 9) rfl (hb' d35_1) rfl (by decide) (by decide) ?_
    exact XS.aloadN X0.here hx rfl (hb' d35_9) rfl rfl kt)
  obtain ⟨cq2, kq2, q2a, q2b, q2c⟩ := isOf hZ e0 E_str
  obtain ⟨_, _, ⟨T2, L2, k2, n2⟩, -, X2, ⟨Lc2, hQ2, l2, y2, z2⟩, st2⟩ := X0.virtualBack hx (y := y13') (z := y13') hown (mvT hZ (wq hw 164 rfl)) (mvT hZ (wq hw 27 rfl)) (notFace_of_selects (args := #[]) (mvT hZ (wq hw 29 rfl))) (mvT hZ (wq hw 29 rfl)) (mvT hZ (wq hw 28 rfl)) (by decide) (backOf (W := 0) (rm5_3 l Z a0 hw [] str vs ks fs co vf h0 n0 O0 E_str Fstv Fstc A_vs hfs SWh) hZ (wq hw 30 rfl) (wq hw 3 rfl) (by decide) (by decide)) q2a q2c (g := (mkF m 10 #[vr sb, vr str, .unset] [.ref str])) rfl (by rw [hml]; rfl) (Steps.refl _) (argsL := []) (rest := []) (lenOf pd_18 rfl) rfl (Nat.le_refl _) (hb' d35_10) (fun _ _ => ⟨rfl, e0, (by decide : 0 + 0 ≤ _), (by decide : 0 + 0 ≤ _)⟩)
  dsimp only [Pt.U, Pt.locs, Pt.cells, Pt.slots] at X2 l2 y2 z2 st2 hQ2
  subst l2 y2 z2
  obtain ⟨rfl, Nq2, eh2⟩ := hQ2
  have N2 := Fr.app N0 Nq2
  have cn3 := fun (t : State) (kt : SF p e below T2 (mkF m 16 #[vr sb, vr str, vi 3] [.ref sb, .ref sb]) t) => cn1 t (by
    refine st2.trans ?_
    refine XS.istoreN X2.here hx rfl (hb' d35_13) rfl (l' := #[vr sb, vr str, vi 3]) rfl ?_
    refine XS.aloadN X2.here hx rfl (hb' d35_14) rfl rfl ?_
    exact XS.aloadN X2.here hx rfl (hb' d35_15) rfl rfl kt)
  obtain ⟨T4, X4, e4, st4⟩ := getF X2 hx hZ hown (host := "") (Or.inl (wq hw 165 rfl)) Via.refl eh2 Fsbn (g := (mkF m 16 #[vr sb, vr str, vi 3] [.ref sb, .ref sb])) rfl rfl (hb' d35_16)
  have cn5 := fun (t : State) (kt : SF p e below T4 (mkF m 21 #[vr sb, vr str, vi 3] [.int 203, .ref sb]) t) => cn3 t (by
    refine st4 _ ?_
    refine XS.iloadN X4.here hx rfl (hb' d35_19) rfl ?_
    exact XS.iadd X4.here hx rfl (hb' d35_20) rfl kt)
  obtain ⟨cq6, q6, q6'⟩ := E_sb.cell
  obtain ⟨_, _, ⟨T6, L6, k6, n6⟩, -, X6, ⟨Lc6, hQ6, l6, y6, z6⟩, st6⟩ := X4.privateBack hx (y := y35') hown (mvT hZ (wq hw 167 rfl)) (mvT hZ (wq hw 168 rfl)) (own_selq (y := y35') hZ (wq hw 170 rfl) (wq hw 169 rfl) (wq hw 168 rfl) (by decide)) (Cond.privateMethod_at (mvP hZ (wq hw 169 rfl) (args := #[]))) (mvT hZ (wq hw 171 rfl)) (by decide) (backOf (W := 0) (rm36_1 l Z a0 hw [] sb vb k f h0 n0 O0 g_sb ⟨E_sb, Fsbv, Fsbc, Fsbn, Fsbm⟩ A_vb hfb) hZ (wq hw 171 rfl) (wq hw 82 rfl) (by decide) (by decide)) (g := (mkF m 21 #[vr sb, vr str, vi 3] [.int 203, .ref sb])) rfl (by rw [hml]; rfl) (Steps.refl _) (a := sb) (by rw [e4]; exact q6) q6' (argsL := [(.int (203 : Int32))]) (rest := []) (lenOf pd_22 rfl) rfl (Nat.le_refl _) (hb' d35_21) (fun _ _ => ⟨rfl, e4, (by decide : 0 + 1 ≤ _), (by decide : 0 + 804 ≤ _)⟩)
  dsimp only [Pt.U, Pt.locs, Pt.cells, Pt.slots] at X6 l6 y6 z6 st6 hQ6
  subst l6 y6 z6
  obtain ⟨r6x, kq6, f6, rfl, Nq6, Kq6, szq6, ⟨E_sb6, Fsbv6, Fsbc6, Fsbn6, Fsbm6⟩, Aq6, hfb6, hB6⟩ := hQ6
  have N6 := Fr.app N2 Nq6
  have sz_r6x : h0.size ≤ r6x := Nat.le_trans (Keep.refl h0 [sb]).1 szq6
  have g_r6x : n0 ≤ r6x := Nat.le_trans (O0.1 ▸ O0.2.1) sz_r6x
  have ne_sb_r6x : sb ≠ r6x := Nat.ne_of_lt (Nat.lt_of_lt_of_le E_sb.lt szq6)
  have ne_vb_r6x : vb ≠ r6x := Nat.ne_of_lt (Nat.lt_of_lt_of_le A_vb.lt szq6)
  have ne_str_r6x : str ≠ r6x := Nat.ne_of_lt (Nat.lt_of_lt_of_le E_str.lt szq6)
  have ne_vs_r6x : vs ≠ r6x := Nat.ne_of_lt (Nat.lt_of_lt_of_le A_vs.lt szq6)
  have K6 := Kq6
  have E_sb_e6 := E_sb.keep K6
  have A_vb_e6 := A_vb.keep K6 (ninS (Ne.symm (own_neA E_sb A_vb (wq hw 73 rfl))) nin0)
  have E_str_e6 := E_str.keep K6
  have Fstv_e6 := Fstv.keep K6 (ninS (Exa.ne E_str E_sb (by decide)) nin0)
  have Fstc_e6 := Fstc.keep K6 (ninS (Exa.ne E_str E_sb (by decide)) nin0)
  have A_vs_e6 := A_vs.keep K6 (ninS (Ne.symm (own_neA E_sb A_vs (wq hw 73 rfl))) nin0)
  have O6 := O0.keep K6 (allS g_sb all0)
  have KK6 : Keep h0 T6.heap [sb] := (Keep.refl h0 [sb]).trans K6 (allS (Or.inl (List.mem_of_getElem? (i := 0) rfl)) all0)
  have cn7 := fun (t : State) (kt : SF p e below T6 (mkF m 26 #[vr sb, vr str, vi 3] [.ref sb, .ref sb]) t) => cn5 t (by
    refine st6.trans ?_
    refine XS.aloadN X6.here hx rfl (hb' d35_24) rfl rfl ?_
    exact XS.aloadN X6.here hx rfl (hb' d35_25) rfl rfl kt)
  obtain ⟨T8, X8, e8, st8⟩ := getF X6 hx hZ hown (host := "") (Or.inl (wq hw 165 rfl)) Via.refl rfl Fsbn6 (g := (mkF m 26 #[vr sb, vr str, vi 3] [.ref sb, .ref sb])) rfl rfl (hb' d35_26)
  have cn9 := fun (t : State) (kt : SF p e below T8 (mkF m 30 #[vr sb, vr str, vi 3] [.ref str, .int 200, .ref sb]) t) => cn7 t (by
    refine st8 _ ?_
    exact XS.aloadN X8.here hx rfl (hb' d35_29) rfl rfl kt)
  obtain ⟨cq10, q10, q10'⟩ := E_sb6.cell
  obtain ⟨_, _, ⟨T10, L10, k10, n10⟩, -, X10, ⟨Lc10, hQ10, l10, y10, z10⟩, st10⟩ := X8.privateBack hx (y := y42') hown (mvT hZ (wq hw 189 rfl)) (mvT hZ (wq hw 190 rfl)) (own_selq (y := y42') hZ (wq hw 192 rfl) (wq hw 191 rfl) (wq hw 190 rfl) (by decide)) (Cond.privateMethod_at (mvP hZ (wq hw 191 rfl) (args := #[]))) (mvT hZ (wq hw 193 rfl)) (by decide) (backOf (W := 0) (rm41_2 l Z a0 hw [] sb r6x kq6 f6 str vs ks fs co vf T6.heap n0 O6 g_sb g_r6x ⟨E_sb6, Fsbv6, Fsbc6, Fsbn6, Fsbm6⟩ Aq6 hfb6 E_str_e6 Fstv_e6 Fstc_e6 A_vs_e6 hfs ne_vs_r6x hdots SWh) hZ (wq hw 193 rfl) (wq hw 82 rfl) (by decide) (by decide)) (g := (mkF m 30 #[vr sb, vr str, vi 3] [.ref str, .int 200, .ref sb])) rfl (by rw [hml]; rfl) (Steps.refl _) (a := sb) (by rw [e8]; exact q10) q10' (argsL := [(.int (200 : Int32)), (.ref str)]) (rest := []) (lenOf pd_28 rfl) rfl (Nat.le_refl _) (hb' d35_30) (fun _ _ => ⟨rfl, e8, (by decide : 1 + 0 ≤ _), (by decide : 804 + 0 ≤ _)⟩)
  dsimp only [Pt.U, Pt.locs, Pt.cells, Pt.slots] at X10 l10 y10 z10 st10 hQ10
  subst l10 y10 z10
  obtain ⟨f10, rfl, Nq10, Kq10, Aq10, hfb10, hG10⟩ := hQ10
  have N10 := Fr.app N6 Nq10
  have K10 := Kq10
  have E_sb6_e10 := E_sb6.keep K10
  have A_vb_e10 := A_vb_e6.keep K10 (ninS ne_vb_r6x nin0)
  have E_str_e10 := E_str_e6.keep K10
  have Fstv_e10 := Fstv_e6.keep K10 (ninS ne_str_r6x nin0)
  have Fstc_e10 := Fstc_e6.keep K10 (ninS ne_str_r6x nin0)
  have A_vs_e10 := A_vs_e6.keep K10 (ninS ne_vs_r6x nin0)
  have Fsbv6_e10 := Fsbv6.keep K10 (ninS ne_sb_r6x nin0)
  have Fsbc6_e10 := Fsbc6.keep K10 (ninS ne_sb_r6x nin0)
  have Fsbn6_e10 := Fsbn6.keep K10 (ninS ne_sb_r6x nin0)
  have Fsbm6_e10 := Fsbm6.keep K10 (ninS ne_sb_r6x nin0)
  have O10 := O6.keep K10 (allS g_r6x all0)
  have KK10 : Keep h0 T10.heap [sb] := KK6.trans K10 (allS (Or.inr sz_r6x) all0)
  have cn11 := fun (t : State) (kt : SF p e below T10 (mkF m 35 #[vr sb, vr str, vi 3] [.ref sb, .ref sb]) t) => cn9 t (by
    refine st10.trans ?_
    refine XS.aloadN X10.here hx rfl (hb' d35_33) rfl rfl ?_
    exact XS.dup X10.here hx rfl (hb' d35_34) rfl rfl kt)
  obtain ⟨T12, X12, e12, st12⟩ := getF X10 hx hZ hown (host := "") (Or.inl (wq hw 165 rfl)) Via.refl rfl Fsbn6_e10 (g := (mkF m 35 #[vr sb, vr str, vi 3] [.ref sb, .ref sb])) rfl rfl (hb' d35_35)
  have cn13 := fun (t : State) (kt : SF p e below T12 (mkF m 40 #[vr sb, vr str, vi 3] [.int 203, .ref sb]) t) => cn11 t (by
    refine st12 _ ?_
    refine XS.iloadN X12.here hx rfl (hb' d35_38) rfl ?_
    exact XS.iadd X12.here hx rfl (hb' d35_39) rfl kt)
  obtain ⟨T14, h14, X14, e14, W14, st14⟩ := putF X12 hx hZ hown (host := "") (Or.inl (wq hw 165 rfl)) Via.refl e12 Fsbn6_e10 E_sb6_e10 (Or.inl (wq hw 166 rfl)) (wq hw 73 rfl) (ty := .int) (by decide) rfl rfl (g := (mkF m 40 #[vr sb, vr str, vi 3] [.int 203, .ref sb])) rfl rfl (hb' d35_40)
  have E_sb6_e14 := E_sb6_e10.wr W14
  have A_vb_e14 := A_vb_e10.other W14 (Ne.symm (own_neA E_sb6_e10 A_vb_e10 (wq hw 73 rfl)))
  have E_str_e14 := E_str_e10.wr W14
  have Fstv_e14 := Fstv_e10.other W14 (Or.inl (Exa.ne E_str_e10 E_sb6_e10 (by decide)))
  have Fstc_e14 := Fstc_e10.other W14 (Or.inl (Exa.ne E_str_e10 E_sb6_e10 (by decide)))
  have A_vs_e14 := A_vs_e10.other W14 (Ne.symm (own_neA E_sb6_e10 A_vs_e10 (wq hw 73 rfl)))
  have Fsbv6_e14 := Fsbv6_e10.other W14 (Or.inr (slot_ne (Or.inl (wq hw 87 rfl)) (Or.inl (wq hw 166 rfl)) (by decide) (t := (.array .byte)) (t' := .int) (by decide) (by decide)))
  have Fsbc6_e14 := Fsbc6_e10.other W14 (Or.inr (slot_ne (Or.inl (wq hw 89 rfl)) (Or.inl (wq hw 166 rfl)) (by decide) (t := .byte) (t' := .int) (by decide) (by decide)))
  have Fsbm6_e14 := Fsbm6_e10.other W14 (Or.inr (slot_ne (Or.inl (wq hw 253 rfl)) (Or.inl (wq hw 166 rfl)) (by decide) (t := .boolean) (t' := .int) (by decide) (by decide)))
  have Aq10_e14 := Aq10.other W14 (Ne.symm ne_sb_r6x)
  have N14 := Fr.snoc X14 N10 g_sb
  have O14 := O10.wr W14 g_sb
  have K14 : Keep h0 h14 [sb] := KK10.wr W14 (Or.inl (List.mem_of_getElem? (i := 0) rfl))
  have Fcount_14 := Fsbn6_e10.same W14
  have cn15 := fun (t : State) (kt : SF p e below T14 (mkF m 44 #[vr sb, vr str, vi 3] [.ref sb]) t) => cn13 t (by
    refine st14 _ ?_
    exact XS.aloadN X14.here hx rfl (hb' d35_43) rfl rfl kt)
  obtain ⟨frs, hr, hrun, hended, hW, hsame⟩ := X14.leave (v := some (.ref sb)) (fun h => by rw [Bd.returns] at h; cases h)
  refine ⟨_, _, cn15 _ ?_, hrun, hended, _, _, rfl, ?_, ⟨_, rfl⟩, hW, hsame.mono (by decide) (by decide)⟩
  · jvm_step X14.here [X14.here.top, hx, (hb' d35_44), X14.method', Bd.returns, Value.isRef, FieldType.isReference]
    first | (intro acts; rw [hr _ acts rfl rfl rfl]) | rw [hr _ _ rfl rfl rfl]
    exact Steps.refl _
  · show QSB Z sb 0 203 402 (fun f' => (∀ j, j < 3 → f' (200 + j) = fs j) ∧ ∀ q, q < 200 → f' q = f q) (some (.ref sb)) h0 n0 _ T14.heap _
    rw [e14]
    exact ⟨r6x, _, _, rfl, N14, K14, sz_r6x, ⟨E_sb6_e14, Fsbv6_e14, Fsbc6_e14, Fcount_14, Fsbm6_e14⟩, Aq10_e14, hfb10, ⟨hG10.1, fun q hq => (hG10.2 q hq).trans (hB6 q hq)⟩⟩

theorem ef_35_3 (m : MethodId) (x0 : Addr) (x1 : Addr) : entryFrame m #[(.ref x0), (.ref x1)] 3 = mkF m 0 #[.val (.ref x0), .val (.ref x1), .unset] [] := by first | (simp [entryFrame, mkF, argsToLocals, Value.category]; done) | rfl
theorem rm35_3 (l : Launch) (Z : State) (a0 : Array Value) (hw : HW a0 Z) (ws : List Jvm.Cond) (sb vb : Addr) (k : ClassId) (f : Nat → Value) (str vs : Addr) (ks : ClassId) (fs : Nat → Value) (co : Int32) (vf : Value) (h0 : Heap) (n0 : Nat) (O0 : Old Z n0 h0) (g_sb : n0 ≤ sb) (Bh : SBF Z h0 sb vb 1 200) (A_vb : AF Z h0 vb k .byte 400 f) (hfb : own_fb 400 f) (E_str : Exa Z h0 str "java/lang/String") (Fstv : Fld Z h0 str "java/lang/String" "value" "[B" (.ref vs)) (Fstc : Fld Z h0 str "java/lang/String" "coder" "B" (.int (0 : Int32))) (A_vs : AF Z h0 vs ks .byte 3 fs) (hfs : own_fb 3 fs) (hdots : own_dots fs) (SWh : SW Z co vf) :
    MT l y43' c43' 3 (some (.object "java/lang/AbstractStringBuilder")) ws ({ frames := 7, cells := 1, slots := 804, locals := 105 } : Room) #[(.ref sb), (.ref str)] Z h0 (QSB Z sb 1 203 804 (fun f' => (∀ j, j < 3 → f' (2 * (200 + j)) = .int (own_b0 (([46, 46, 46] : List Int32).getD j 0)) ∧ f' (2 * (200 + j) + 1) = .int (own_b1 (([46, 46, 46] : List Int32).getD j 0))) ∧ ∀ q, q < 400 → f' q = f q) (some (.ref sb)) h0 n0) := by
  refine MetFree.of_bodySF (plainFor_of_name pn_java_lang_AbstractStringBuilder) hisR ?_
  intro p e s m args below meth kode s₁ Bd hml0 hP hK
  obtain ⟨rfl, hZ, hh⟩ := hP
  have hx := Bd.exec
  have hby := Bd.bytes
  have hb' := @hb _ _ hby
  have hml : kode.maxLocals = 3 := hml0
  have hown : s.vm.findClass "java/lang/AbstractStringBuilder" = some m.cls := findClass_of_methodNamed Bd.named
  have X0 : Stand p l e ({ frames := 7, cells := 1, slots := 804, locals := 105 } : Room) s m #[(.ref sb), (.ref str)] below meth kode s₁ [] 0 0 := Stand.of_body Bd
  have e0 : s₁.heap = h0 := by rw [← hh, Bd.state]; rfl
  have N0 := Fr.nil n0
  have pre0 : ∀ t, SF p e below s₁ (mkF m 0 #[vr sb, vr str, .unset] []) t → SF p e below s₁ (entryFrame m #[(.ref sb), (.ref str)] 3) t := fun t k => castTop (ef_35_3 m sb str) k
  have SWx := SWh
  obtain ⟨S_CS, hcs, S_AD, S_HI, S_LO, S_SI, hcat_vf⟩ := SWx
  have Bx := Bh
  obtain ⟨E_sb, Fsbv, Fsbc, Fsbn, Fsbm⟩ := Bx
  have cn1 := fun (t : State) (kt : SF p e below s₁ (mkF m 10 #[vr sb, vr str, .unset] [.ref str]) t) => pre0 t (by
    refine XS.aloadN X0.here hx rfl (hb' d35_0) rfl rfl ?_
    refine XS.ifnonnullYes X0.here hx rfl (pc0 := 1) (pc' := 9) rfl (hb' d35_1) rfl (by decide) (by decide) ?_
    exact XS.aloadN X0.here hx rfl (hb' d35_9) rfl rfl kt)
  obtain ⟨cq2, kq2, q2a, q2b, q2c⟩ := isOf hZ e0 E_str
  obtain ⟨_, _, ⟨T2, L2, k2, n2⟩, -, X2, ⟨Lc2, hQ2, l2, y2, z2⟩, st2⟩ := X0.virtualBack hx (y := y13') (z := y13') hown (mvT hZ (wq hw 164 rfl)) (mvT hZ (wq hw 27 rfl)) (notFace_of_selects (args := #[]) (mvT hZ (wq hw 29 rfl))) (mvT hZ (wq hw 29 rfl)) (mvT hZ (wq hw 28 rfl)) (by decide) (backOf (W := 0) (rm5_3 l Z a0 hw [] str vs ks fs co vf h0 n0 O0 E_str Fstv Fstc A_vs hfs SWh) hZ (wq hw 30 rfl) (wq hw 3 rfl) (by decide) (by decide)) q2a q2c (g := (mkF m 10 #[vr sb, vr str, .unset] [.ref str])) rfl (by rw [hml]; rfl) (Steps.refl _) (argsL := []) (rest := []) (lenOf pd_18 rfl) rfl (Nat.le_refl _) (hb' d35_10) (fun _ _ => ⟨rfl, e0, (by decide : 0 + 0 ≤ _), (by decide : 0 + 0 ≤ _)⟩)
  dsimp only [Pt.U, Pt.locs, Pt.cells, Pt.slots] at X2 l2 y2 z2 st2 hQ2
  subst l2 y2 z2
  obtain ⟨rfl, Nq2, eh2⟩ := hQ2
  have N2 := Fr.app N0 Nq2
  have cn3 := fun (t : State) (kt : SF p e below T2 (mkF m 16 #[vr sb, vr str, vi 3] [.ref sb, .ref sb]) t) => cn1 t (by
    refine st2.trans ?_
    refine XS.istoreN X2.here hx rfl (hb' d35_13) rfl (l' := #[vr sb, vr str, vi 3]) rfl ?_
    refine XS.aloadN X2.here hx rfl (hb' d35_14) rfl rfl ?_
    exact XS.aloadN X2.here hx rfl (hb' d35_15) rfl rfl kt)
  obtain ⟨T4, X4, e4, st4⟩ := getF X2 hx hZ hown (host := "") (Or.inl (wq hw 165 rfl)) Via.refl eh2 Fsbn (g := (mkF m 16 #[vr sb, vr str, vi 3] [.ref sb, .ref sb])) rfl rfl (hb' d35_16)
  have cn5 := fun (t : State) (kt : SF p e below T4 (mkF m 21 #[vr sb, vr str, vi 3] [.int 203, .ref sb]) t) => cn3 t (by
    refine st4 _ ?_
    refine XS.iloadN X4.here hx rfl (hb' d35_19) rfl ?_
    exact XS.iadd X4.here hx rfl (hb' d35_20) rfl kt)
  obtain ⟨cq6, q6, q6'⟩ := E_sb.cell
  obtain ⟨_, _, ⟨T6, L6, k6, n6⟩, -, X6, ⟨Lc6, hQ6, l6, y6, z6⟩, st6⟩ := X4.privateBack hx (y := y35') hown (mvT hZ (wq hw 167 rfl)) (mvT hZ (wq hw 168 rfl)) (own_selq (y := y35') hZ (wq hw 170 rfl) (wq hw 169 rfl) (wq hw 168 rfl) (by decide)) (Cond.privateMethod_at (mvP hZ (wq hw 169 rfl) (args := #[]))) (mvT hZ (wq hw 171 rfl)) (by decide) (backOf (W := 0) (rm36_2 l Z a0 hw [] sb vb k f h0 n0 O0 g_sb ⟨E_sb, Fsbv, Fsbc, Fsbn, Fsbm⟩ A_vb hfb) hZ (wq hw 171 rfl) (wq hw 82 rfl) (by decide) (by decide)) (g := (mkF m 21 #[vr sb, vr str, vi 3] [.int 203, .ref sb])) rfl (by rw [hml]; rfl) (Steps.refl _) (a := sb) (by rw [e4]; exact q6) q6' (argsL := [(.int (203 : Int32))]) (rest := []) (lenOf pd_22 rfl) rfl (Nat.le_refl _) (hb' d35_21) (fun _ _ => ⟨rfl, e4, (by decide : 0 + 1 ≤ _), (by decide : 0 + 804 ≤ _)⟩)
  dsimp only [Pt.U, Pt.locs, Pt.cells, Pt.slots] at X6 l6 y6 z6 st6 hQ6
  subst l6 y6 z6
  obtain ⟨r6x, kq6, f6, rfl, Nq6, Kq6, szq6, ⟨E_sb6, Fsbv6, Fsbc6, Fsbn6, Fsbm6⟩, Aq6, hfb6, hB6⟩ := hQ6
  have N6 := Fr.app N2 Nq6
  have sz_r6x : h0.size ≤ r6x := Nat.le_trans (Keep.refl h0 [sb]).1 szq6
  have g_r6x : n0 ≤ r6x := Nat.le_trans (O0.1 ▸ O0.2.1) sz_r6x
  have ne_sb_r6x : sb ≠ r6x := Nat.ne_of_lt (Nat.lt_of_lt_of_le E_sb.lt szq6)
  have ne_vb_r6x : vb ≠ r6x := Nat.ne_of_lt (Nat.lt_of_lt_of_le A_vb.lt szq6)
  have ne_str_r6x : str ≠ r6x := Nat.ne_of_lt (Nat.lt_of_lt_of_le E_str.lt szq6)
  have ne_vs_r6x : vs ≠ r6x := Nat.ne_of_lt (Nat.lt_of_lt_of_le A_vs.lt szq6)
  have K6 := Kq6
  have E_sb_e6 := E_sb.keep K6
  have A_vb_e6 := A_vb.keep K6 (ninS (Ne.symm (own_neA E_sb A_vb (wq hw 73 rfl))) nin0)
  have E_str_e6 := E_str.keep K6
  have Fstv_e6 := Fstv.keep K6 (ninS (Exa.ne E_str E_sb (by decide)) nin0)
  have Fstc_e6 := Fstc.keep K6 (ninS (Exa.ne E_str E_sb (by decide)) nin0)
  have A_vs_e6 := A_vs.keep K6 (ninS (Ne.symm (own_neA E_sb A_vs (wq hw 73 rfl))) nin0)
  have O6 := O0.keep K6 (allS g_sb all0)
  have KK6 : Keep h0 T6.heap [sb] := (Keep.refl h0 [sb]).trans K6 (allS (Or.inl (List.mem_of_getElem? (i := 0) rfl)) all0)
  have cn7 := fun (t : State) (kt : SF p e below T6 (mkF m 26 #[vr sb, vr str, vi 3] [.ref sb, .ref sb]) t) => cn5 t (by
    refine st6.trans ?_
    refine XS.aloadN X6.here hx rfl (hb' d35_24) rfl rfl ?_
    exact XS.aloadN X6.here hx rfl (hb' d35_25) rfl rfl kt)
  obtain ⟨T8, X8, e8, st8⟩ := getF X6 hx hZ hown (host := "") (Or.inl (wq hw 165 rfl)) Via.refl rfl Fsbn6 (g := (mkF m 26 #[vr sb, vr str, vi 3] [.ref sb, .ref sb])) rfl rfl (hb' d35_26)
  have cn9 := fun (t : State) (kt : SF p e below T8 (mkF m 30 #[vr sb, vr str, vi 3] [.ref str, .int 200, .ref sb]) t) => cn7 t (by
    refine st8 _ ?_
    exact XS.aloadN X8.here hx rfl (hb' d35_29) rfl rfl kt)
  obtain ⟨cq10, q10, q10'⟩ := E_sb6.cell
  obtain ⟨_, _, ⟨T10, L10, k10, n10⟩, -, X10, ⟨Lc10, hQ10, l10, y10, z10⟩, st10⟩ := X8.privateBack hx (y := y42') hown (mvT hZ (wq hw 189 rfl)) (mvT hZ (wq hw 190 rfl)) (own_selq (y := y42') hZ (wq hw 192 rfl) (wq hw 191 rfl) (wq hw 190 rfl) (by decide)) (Cond.privateMethod_at (mvP hZ (wq hw 191 rfl) (args := #[]))) (mvT hZ (wq hw 193 rfl)) (by decide) (backOf (W := 0) (rm41_3 l Z a0 hw [] sb r6x kq6 f6 str vs ks fs co vf T6.heap n0 O6 g_sb g_r6x ⟨E_sb6, Fsbv6, Fsbc6, Fsbn6, Fsbm6⟩ Aq6 hfb6 E_str_e6 Fstv_e6 Fstc_e6 A_vs_e6 hfs ne_vs_r6x hdots SWh) hZ (wq hw 193 rfl) (wq hw 82 rfl) (by decide) (by decide)) (g := (mkF m 30 #[vr sb, vr str, vi 3] [.ref str, .int 200, .ref sb])) rfl (by rw [hml]; rfl) (Steps.refl _) (a := sb) (by rw [e8]; exact q10) q10' (argsL := [(.int (200 : Int32)), (.ref str)]) (rest := []) (lenOf pd_28 rfl) rfl (Nat.le_refl _) (hb' d35_30) (fun _ _ => ⟨rfl, e8, (by decide : 1 + 0 ≤ _), (by decide : 804 + 0 ≤ _)⟩)
  dsimp only [Pt.U, Pt.locs, Pt.cells, Pt.slots] at X10 l10 y10 z10 st10 hQ10
  subst l10 y10 z10
  obtain ⟨f10, rfl, Nq10, Kq10, Aq10, hfb10, hG10⟩ := hQ10
  have N10 := Fr.app N6 Nq10
  have K10 := Kq10
  have E_sb6_e10 := E_sb6.keep K10
  have A_vb_e10 := A_vb_e6.keep K10 (ninS ne_vb_r6x nin0)
  have E_str_e10 := E_str_e6.keep K10
  have Fstv_e10 := Fstv_e6.keep K10 (ninS ne_str_r6x nin0)
  have Fstc_e10 := Fstc_e6.keep K10 (ninS ne_str_r6x nin0)
  have A_vs_e10 := A_vs_e6.keep K10 (ninS ne_vs_r6x nin0)
  have Fsbv6_e10 := Fsbv6.keep K10 (ninS ne_sb_r6x nin0)
  have Fsbc6_e10 := Fsbc6.keep K10 (ninS ne_sb_r6x nin0)
  have Fsbn6_e10 := Fsbn6.keep K10 (ninS ne_sb_r6x nin0)
  have Fsbm6_e10 := Fsbm6.keep K10 (ninS ne_sb_r6x nin0)
  have O10 := O6.keep K10 (allS g_r6x all0)
  have KK10 : Keep h0 T10.heap [sb] := KK6.trans K10 (allS (Or.inr sz_r6x) all0)
  have cn11 := fun (t : State) (kt : SF p e below T10 (mkF m 35 #[vr sb, vr str, vi 3] [.ref sb, .ref sb]) t) => cn9 t (by
    refine st10.trans ?_
    refine XS.aloadN X10.here hx rfl (hb' d35_33) rfl rfl ?_
    exact XS.dup X10.here hx rfl (hb' d35_34) rfl rfl kt)
  obtain ⟨T12, X12, e12, st12⟩ := getF X10 hx hZ hown (host := "") (Or.inl (wq hw 165 rfl)) Via.refl rfl Fsbn6_e10 (g := (mkF m 35 #[vr sb, vr str, vi 3] [.ref sb, .ref sb])) rfl rfl (hb' d35_35)
  have cn13 := fun (t : State) (kt : SF p e below T12 (mkF m 40 #[vr sb, vr str, vi 3] [.int 203, .ref sb]) t) => cn11 t (by
    refine st12 _ ?_
    refine XS.iloadN X12.here hx rfl (hb' d35_38) rfl ?_
    exact XS.iadd X12.here hx rfl (hb' d35_39) rfl kt)
  obtain ⟨T14, h14, X14, e14, W14, st14⟩ := putF X12 hx hZ hown (host := "") (Or.inl (wq hw 165 rfl)) Via.refl e12 Fsbn6_e10 E_sb6_e10 (Or.inl (wq hw 166 rfl)) (wq hw 73 rfl) (ty := .int) (by decide) rfl rfl (g := (mkF m 40 #[vr sb, vr str, vi 3] [.int 203, .ref sb])) rfl rfl (hb' d35_40)
  have E_sb6_e14 := E_sb6_e10.wr W14
  have A_vb_e14 := A_vb_e10.other W14 (Ne.symm (own_neA E_sb6_e10 A_vb_e10 (wq hw 73 rfl)))
  have E_str_e14 := E_str_e10.wr W14
  have Fstv_e14 := Fstv_e10.other W14 (Or.inl (Exa.ne E_str_e10 E_sb6_e10 (by decide)))
  have Fstc_e14 := Fstc_e10.other W14 (Or.inl (Exa.ne E_str_e10 E_sb6_e10 (by decide)))
  have A_vs_e14 := A_vs_e10.other W14 (Ne.symm (own_neA E_sb6_e10 A_vs_e10 (wq hw 73 rfl)))
  have Fsbv6_e14 := Fsbv6_e10.other W14 (Or.inr (slot_ne (Or.inl (wq hw 87 rfl)) (Or.inl (wq hw 166 rfl)) (by decide) (t := (.array .byte)) (t' := .int) (by decide) (by decide)))
  have Fsbc6_e14 := Fsbc6_e10.other W14 (Or.inr (slot_ne (Or.inl (wq hw 89 rfl)) (Or.inl (wq hw 166 rfl)) (by decide) (t := .byte) (t' := .int) (by decide) (by decide)))
  have Fsbm6_e14 := Fsbm6_e10.other W14 (Or.inr (slot_ne (Or.inl (wq hw 253 rfl)) (Or.inl (wq hw 166 rfl)) (by decide) (t := .boolean) (t' := .int) (by decide) (by decide)))
  have Aq10_e14 := Aq10.other W14 (Ne.symm ne_sb_r6x)
  have N14 := Fr.snoc X14 N10 g_sb
  have O14 := O10.wr W14 g_sb
  have K14 : Keep h0 h14 [sb] := KK10.wr W14 (Or.inl (List.mem_of_getElem? (i := 0) rfl))
  have Fcount_14 := Fsbn6_e10.same W14
  have cn15 := fun (t : State) (kt : SF p e below T14 (mkF m 44 #[vr sb, vr str, vi 3] [.ref sb]) t) => cn13 t (by
    refine st14 _ ?_
    exact XS.aloadN X14.here hx rfl (hb' d35_43) rfl rfl kt)
  obtain ⟨frs, hr, hrun, hended, hW, hsame⟩ := X14.leave (v := some (.ref sb)) (fun h => by rw [Bd.returns] at h; cases h)
  refine ⟨_, _, cn15 _ ?_, hrun, hended, _, _, rfl, ?_, ⟨_, rfl⟩, hW, hsame.mono (by decide) (by decide)⟩
  · jvm_step X14.here [X14.here.top, hx, (hb' d35_44), X14.method', Bd.returns, Value.isRef, FieldType.isReference]
    first | (intro acts; rw [hr _ acts rfl rfl rfl]) | rw [hr _ _ rfl rfl rfl]
    exact Steps.refl _
  · show QSB Z sb 1 203 804 (fun f' => (∀ j, j < 3 → f' (2 * (200 + j)) = .int (own_b0 (([46, 46, 46] : List Int32).getD j 0)) ∧ f' (2 * (200 + j) + 1) = .int (own_b1 (([46, 46, 46] : List Int32).getD j 0))) ∧ ∀ q, q < 400 → f' q = f q) (some (.ref sb)) h0 n0 _ T14.heap _
    rw [e14]
    exact ⟨r6x, _, _, rfl, N14, K14, sz_r6x, ⟨E_sb6_e14, Fsbv6_e14, Fsbc6_e14, Fcount_14, Fsbm6_e14⟩, Aq10_e14, hfb10, ⟨hG10.1, fun q hq => (hG10.2 q hq).trans (hB6 q hq)⟩⟩

theorem d34_0 : DC c44' 0 (.aload_n 0) 1 := by decide +kernel
theorem d34_1 : DC c44' 1 (.aload_n 1) 1 := by decide +kernel
theorem d34_2 : DC c44' 2 (.invokespecial 29) 3 := by decide +kernel
theorem d34_5 : DC c44' 5 (.pop) 1 := by decide +kernel
theorem d34_6 : DC c44' 6 (.aload_n 0) 1 := by decide +kernel
theorem d34_7 : DC c44' 7 (.areturn) 1 := by decide +kernel
theorem pd_29 : parseMethodDescriptor "(Ljava/lang/String;)Ljava/lang/AbstractStringBuilder;" = some ⟨[(.object "java/lang/String")], some (.object "java/lang/AbstractStringBuilder")⟩ := by decide +kernel
theorem ef_34_0 (m : MethodId) (x0 : Addr) (x1 : Addr) : entryFrame m #[(.ref x0), (.ref x1)] 2 = mkF m 0 #[.val (.ref x0), .val (.ref x1)] [] := by first | (simp [entryFrame, mkF, argsToLocals, Value.category]; done) | rfl
theorem rm34_0 (l : Launch) (Z : State) (a0 : Array Value) (hw : HW a0 Z) (ws : List Jvm.Cond) (sb vb : Addr) (k : ClassId) (f : Nat → Value) (str vs : Addr) (ks : ClassId) (fs : Nat → Value) (co : Int32) (vf : Value) (h0 : Heap) (n0 : Nat) (O0 : Old Z n0 h0) (g_sb : n0 ≤ sb) (Bh : SBF Z h0 sb vb 0 0) (A_vb : AF Z h0 vb k .byte 16 f) (hfb : own_fb 16 f) (E_str : Exa Z h0 str "java/lang/String") (Fstv : Fld Z h0 str "java/lang/String" "value" "[B" (.ref vs)) (Fstc : Fld Z h0 str "java/lang/String" "coder" "B" (.int (0 : Int32))) (A_vs : AF Z h0 vs ks .byte 200 fs) (hfs : own_fb 200 fs) (SWh : SW Z co vf) :
    MT l y44' c44' 2 (some (.object "java/lang/StringBuilder")) ws ({ frames := 5, cells := 1, slots := 804, locals := 83 } : Room) #[(.ref sb), (.ref str)] Z h0 (QSB Z sb 0 200 200 (fun f' => ∀ j, j < 200 → f' j = fs j) (some (.ref sb)) h0 n0) := by
  refine MetFree.of_bodySF (plainFor_of_name pn_java_lang_StringBuilder) hisR ?_
  intro p e s m args below meth kode s₁ Bd hml0 hP hK
  obtain ⟨rfl, hZ, hh⟩ := hP
  have hx := Bd.exec
  have hby := Bd.bytes
  have hb' := @hb _ _ hby
  have hml : kode.maxLocals = 2 := hml0
  have hown : s.vm.findClass "java/lang/StringBuilder" = some m.cls := findClass_of_methodNamed Bd.named
  have X0 : Stand p l e ({ frames := 5, cells := 1, slots := 804, locals := 83 } : Room) s m #[(.ref sb), (.ref str)] below meth kode s₁ [] 0 0 := Stand.of_body Bd
  have e0 : s₁.heap = h0 := by rw [← hh, Bd.state]; rfl
  have N0 := Fr.nil n0
  have pre0 : ∀ t, SF p e below s₁ (mkF m 0 #[vr sb, vr str] []) t → SF p e below s₁ (entryFrame m #[(.ref sb), (.ref str)] 2) t := fun t k => castTop (ef_34_0 m sb str) k
  have SWx := SWh
  obtain ⟨S_CS, hcs, S_AD, S_HI, S_LO, S_SI, hcat_vf⟩ := SWx
  have Bx := Bh
  obtain ⟨E_sb, Fsbv, Fsbc, Fsbn, Fsbm⟩ := Bx
  have cn1 := fun (t : State) (kt : SF p e below s₁ (mkF m 2 #[vr sb, vr str] [.ref str, .ref sb]) t) => pre0 t (by
    refine XS.aloadN X0.here hx rfl (hb' d34_0) rfl rfl ?_
    exact XS.aloadN X0.here hx rfl (hb' d34_1) rfl rfl kt)
  obtain ⟨_, _, ⟨T2, L2, k2, n2⟩, -, X2, ⟨Lc2, hQ2, l2, y2, z2⟩, st2⟩ := superBack X0 hx hZ (y := y43') hown (wq hw 159 rfl) (own_same (y := y43') (wq hw 160 rfl) (wq hw 170 rfl) rfl (by decide)) (wq hw 160 rfl) (wq hw 161 rfl) (by decide) (backOf (W := 0) (rm35_0 l Z a0 hw [] sb vb k f str vs ks fs co vf h0 n0 O0 g_sb ⟨E_sb, Fsbv, Fsbc, Fsbn, Fsbm⟩ A_vb hfb E_str Fstv Fstc A_vs hfs SWh) hZ (wq hw 163 rfl) (wq hw 82 rfl) (by decide) (by decide)) e0 (Ins.self E_sb) (g := (mkF m 2 #[vr sb, vr str] [.ref str, .ref sb])) rfl (by rw [hml]; rfl) (wq hw 163 rfl) (argsL := [(.ref str)]) (rest := []) (lenOf pd_29 rfl) rfl (Nat.le_refl _) (hb' d34_2) (fun _ _ => ⟨rfl, e0, (by decide : 0 + 1 ≤ _), (by decide : 0 + 804 ≤ _)⟩)
  dsimp only [Pt.U, Pt.locs, Pt.cells, Pt.slots] at X2 l2 y2 z2 st2 hQ2
  subst l2 y2 z2
  obtain ⟨r2x, kq2, f2, rfl, Nq2, Kq2, szq2, ⟨E_sb2, Fsbv2, Fsbc2, Fsbn2, Fsbm2⟩, Aq2, hfb2, hB2⟩ := hQ2
  have N2 := Fr.app N0 Nq2
  have sz_r2x : h0.size ≤ r2x := Nat.le_trans (Keep.refl h0 [sb]).1 szq2
  have g_r2x : n0 ≤ r2x := Nat.le_trans (O0.1 ▸ O0.2.1) sz_r2x
  have ne_sb_r2x : sb ≠ r2x := Nat.ne_of_lt (Nat.lt_of_lt_of_le E_sb.lt szq2)
  have ne_vb_r2x : vb ≠ r2x := Nat.ne_of_lt (Nat.lt_of_lt_of_le A_vb.lt szq2)
  have ne_str_r2x : str ≠ r2x := Nat.ne_of_lt (Nat.lt_of_lt_of_le E_str.lt szq2)
  have ne_vs_r2x : vs ≠ r2x := Nat.ne_of_lt (Nat.lt_of_lt_of_le A_vs.lt szq2)
  have K2 := Kq2
  have E_sb_e2 := E_sb.keep K2
  have A_vb_e2 := A_vb.keep K2 (ninS (Ne.symm (own_neA E_sb A_vb (wq hw 73 rfl))) nin0)
  have E_str_e2 := E_str.keep K2
  have Fstv_e2 := Fstv.keep K2 (ninS (Exa.ne E_str E_sb (by decide)) nin0)
  have Fstc_e2 := Fstc.keep K2 (ninS (Exa.ne E_str E_sb (by decide)) nin0)
  have A_vs_e2 := A_vs.keep K2 (ninS (Ne.symm (own_neA E_sb A_vs (wq hw 73 rfl))) nin0)
  have O2 := O0.keep K2 (allS g_sb all0)
  have KK2 : Keep h0 T2.heap [sb] := (Keep.refl h0 [sb]).trans K2 (allS (Or.inl (List.mem_of_getElem? (i := 0) rfl)) all0)
  have cn3 := fun (t : State) (kt : SF p e below T2 (mkF m 7 #[vr sb, vr str] [.ref sb]) t) => cn1 t (by
    refine st2.trans ?_
    refine XS.pop X2.here hx rfl (hb' d34_5) rfl rfl ?_
    exact XS.aloadN X2.here hx rfl (hb' d34_6) rfl rfl kt)
  obtain ⟨frs, hr, hrun, hended, hW, hsame⟩ := X2.leave (v := some (.ref sb)) (fun h => by rw [Bd.returns] at h; cases h)
  refine ⟨_, _, cn3 _ ?_, hrun, hended, _, _, rfl, ?_, ⟨_, rfl⟩, hW, hsame.mono (by decide) (by decide)⟩
  · jvm_step X2.here [X2.here.top, hx, (hb' d34_7), X2.method', Bd.returns, Value.isRef, FieldType.isReference]
    first | (intro acts; rw [hr _ acts rfl rfl rfl]) | rw [hr _ _ rfl rfl rfl]
    exact Steps.refl _
  · show QSB Z sb 0 200 200 (fun f' => ∀ j, j < 200 → f' j = fs j) (some (.ref sb)) h0 n0 _ T2.heap _
    exact ⟨r2x, _, _, rfl, N2, KK2, sz_r2x, ⟨E_sb2, Fsbv2, Fsbc2, Fsbn2, Fsbm2⟩, Aq2, hfb2, hB2⟩

theorem ef_34_1 (m : MethodId) (x0 : Addr) (x1 : Addr) : entryFrame m #[(.ref x0), (.ref x1)] 2 = mkF m 0 #[.val (.ref x0), .val (.ref x1)] [] := by first | (simp [entryFrame, mkF, argsToLocals, Value.category]; done) | rfl
theorem rm34_1 (l : Launch) (Z : State) (a0 : Array Value) (hw : HW a0 Z) (ws : List Jvm.Cond) (sb vb : Addr) (k : ClassId) (f : Nat → Value) (str vs : Addr) (ks : ClassId) (fs : Nat → Value) (co : Int32) (vf : Value) (h0 : Heap) (n0 : Nat) (O0 : Old Z n0 h0) (g_sb : n0 ≤ sb) (Bh : SBF Z h0 sb vb 0 0) (A_vb : AF Z h0 vb k .byte 16 f) (hfb : own_fb 16 f) (E_str : Exa Z h0 str "java/lang/String") (Fstv : Fld Z h0 str "java/lang/String" "value" "[B" (.ref vs)) (Fstc : Fld Z h0 str "java/lang/String" "coder" "B" (.int (1 : Int32))) (A_vs : AF Z h0 vs ks .byte 400 fs) (hfs : own_fb 400 fs) (SWh : SW Z co vf) :
    MT l y44' c44' 2 (some (.object "java/lang/StringBuilder")) ws ({ frames := 9, cells := 2, slots := 1608, locals := 130 } : Room) #[(.ref sb), (.ref str)] Z h0 (QSB Z sb 1 200 400 (fun f' => ∀ j, j < 400 → f' j = fs j) (some (.ref sb)) h0 n0) := by
  refine MetFree.of_bodySF (plainFor_of_name pn_java_lang_StringBuilder) hisR ?_
  intro p e s m args below meth kode s₁ Bd hml0 hP hK
  obtain ⟨rfl, hZ, hh⟩ := hP
  have hx := Bd.exec
  have hby := Bd.bytes
  have hb' := @hb _ _ hby
  have hml : kode.maxLocals = 2 := hml0
  have hown : s.vm.findClass "java/lang/StringBuilder" = some m.cls := findClass_of_methodNamed Bd.named
  have X0 : Stand p l e ({ frames := 9, cells := 2, slots := 1608, locals := 130 } : Room) s m #[(.ref sb), (.ref str)] below meth kode s₁ [] 0 0 := Stand.of_body Bd
  have e0 : s₁.heap = h0 := by rw [← hh, Bd.state]; rfl
  have N0 := Fr.nil n0
  have pre0 : ∀ t, SF p e below s₁ (mkF m 0 #[vr sb, vr str] []) t → SF p e below s₁ (entryFrame m #[(.ref sb), (.ref str)] 2) t := fun t k => castTop (ef_34_1 m sb str) k
  have SWx := SWh
  obtain ⟨S_CS, hcs, S_AD, S_HI, S_LO, S_SI, hcat_vf⟩ := SWx
  have Bx := Bh
  obtain ⟨E_sb, Fsbv, Fsbc, Fsbn, Fsbm⟩ := Bx
  have cn1 := fun (t : State) (kt : SF p e below s₁ (mkF m 2 #[vr sb, vr str] [.ref str, .ref sb]) t) => pre0 t (by
    refine XS.aloadN X0.here hx rfl (hb' d34_0) rfl rfl ?_
    exact XS.aloadN X0.here hx rfl (hb' d34_1) rfl rfl kt)
  obtain ⟨_, _, ⟨T2, L2, k2, n2⟩, -, X2, ⟨Lc2, hQ2, l2, y2, z2⟩, st2⟩ := superBack X0 hx hZ (y := y43') hown (wq hw 159 rfl) (own_same (y := y43') (wq hw 160 rfl) (wq hw 170 rfl) rfl (by decide)) (wq hw 160 rfl) (wq hw 161 rfl) (by decide) (backOf (W := 0) (rm35_1 l Z a0 hw [] sb vb k f str vs ks fs co vf h0 n0 O0 g_sb ⟨E_sb, Fsbv, Fsbc, Fsbn, Fsbm⟩ A_vb hfb E_str Fstv Fstc A_vs hfs SWh) hZ (wq hw 163 rfl) (wq hw 82 rfl) (by decide) (by decide)) e0 (Ins.self E_sb) (g := (mkF m 2 #[vr sb, vr str] [.ref str, .ref sb])) rfl (by rw [hml]; rfl) (wq hw 163 rfl) (argsL := [(.ref str)]) (rest := []) (lenOf pd_29 rfl) rfl (Nat.le_refl _) (hb' d34_2) (fun _ _ => ⟨rfl, e0, (by decide : 0 + 2 ≤ _), (by decide : 0 + 1608 ≤ _)⟩)
  dsimp only [Pt.U, Pt.locs, Pt.cells, Pt.slots] at X2 l2 y2 z2 st2 hQ2
  subst l2 y2 z2
  obtain ⟨r2x, kq2, f2, rfl, Nq2, Kq2, szq2, ⟨E_sb2, Fsbv2, Fsbc2, Fsbn2, Fsbm2⟩, Aq2, hfb2, hB2⟩ := hQ2
  have N2 := Fr.app N0 Nq2
  have sz_r2x : h0.size ≤ r2x := Nat.le_trans (Keep.refl h0 [sb]).1 szq2
  have g_r2x : n0 ≤ r2x := Nat.le_trans (O0.1 ▸ O0.2.1) sz_r2x
  have ne_sb_r2x : sb ≠ r2x := Nat.ne_of_lt (Nat.lt_of_lt_of_le E_sb.lt szq2)
  have ne_vb_r2x : vb ≠ r2x := Nat.ne_of_lt (Nat.lt_of_lt_of_le A_vb.lt szq2)
  have ne_str_r2x : str ≠ r2x := Nat.ne_of_lt (Nat.lt_of_lt_of_le E_str.lt szq2)
  have ne_vs_r2x : vs ≠ r2x := Nat.ne_of_lt (Nat.lt_of_lt_of_le A_vs.lt szq2)
  have K2 := Kq2
  have E_sb_e2 := E_sb.keep K2
  have A_vb_e2 := A_vb.keep K2 (ninS (Ne.symm (own_neA E_sb A_vb (wq hw 73 rfl))) nin0)
  have E_str_e2 := E_str.keep K2
  have Fstv_e2 := Fstv.keep K2 (ninS (Exa.ne E_str E_sb (by decide)) nin0)
  have Fstc_e2 := Fstc.keep K2 (ninS (Exa.ne E_str E_sb (by decide)) nin0)
  have A_vs_e2 := A_vs.keep K2 (ninS (Ne.symm (own_neA E_sb A_vs (wq hw 73 rfl))) nin0)
  have O2 := O0.keep K2 (allS g_sb all0)
  have KK2 : Keep h0 T2.heap [sb] := (Keep.refl h0 [sb]).trans K2 (allS (Or.inl (List.mem_of_getElem? (i := 0) rfl)) all0)
  have cn3 := fun (t : State) (kt : SF p e below T2 (mkF m 7 #[vr sb, vr str] [.ref sb]) t) => cn1 t (by
    refine st2.trans ?_
    refine XS.pop X2.here hx rfl (hb' d34_5) rfl rfl ?_
    exact XS.aloadN X2.here hx rfl (hb' d34_6) rfl rfl kt)
  obtain ⟨frs, hr, hrun, hended, hW, hsame⟩ := X2.leave (v := some (.ref sb)) (fun h => by rw [Bd.returns] at h; cases h)
  refine ⟨_, _, cn3 _ ?_, hrun, hended, _, _, rfl, ?_, ⟨_, rfl⟩, hW, hsame.mono (by decide) (by decide)⟩
  · jvm_step X2.here [X2.here.top, hx, (hb' d34_7), X2.method', Bd.returns, Value.isRef, FieldType.isReference]
    first | (intro acts; rw [hr _ acts rfl rfl rfl]) | rw [hr _ _ rfl rfl rfl]
    exact Steps.refl _
  · show QSB Z sb 1 200 400 (fun f' => ∀ j, j < 400 → f' j = fs j) (some (.ref sb)) h0 n0 _ T2.heap _
    exact ⟨r2x, _, _, rfl, N2, KK2, sz_r2x, ⟨E_sb2, Fsbv2, Fsbc2, Fsbn2, Fsbm2⟩, Aq2, hfb2, hB2⟩

theorem ef_34_2 (m : MethodId) (x0 : Addr) (x1 : Addr) : entryFrame m #[(.ref x0), (.ref x1)] 2 = mkF m 0 #[.val (.ref x0), .val (.ref x1)] [] := by first | (simp [entryFrame, mkF, argsToLocals, Value.category]; done) | rfl
theorem rm34_2 (l : Launch) (Z : State) (a0 : Array Value) (hw : HW a0 Z) (ws : List Jvm.Cond) (sb vb : Addr) (k : ClassId) (f : Nat → Value) (str vs : Addr) (ks : ClassId) (fs : Nat → Value) (co : Int32) (vf : Value) (h0 : Heap) (n0 : Nat) (O0 : Old Z n0 h0) (g_sb : n0 ≤ sb) (Bh : SBF Z h0 sb vb 0 200) (A_vb : AF Z h0 vb k .byte 200 f) (hfb : own_fb 200 f) (E_str : Exa Z h0 str "java/lang/String") (Fstv : Fld Z h0 str "java/lang/String" "value" "[B" (.ref vs)) (Fstc : Fld Z h0 str "java/lang/String" "coder" "B" (.int (0 : Int32))) (A_vs : AF Z h0 vs ks .byte 3 fs) (hfs : own_fb 3 fs) (hdots : own_dots fs) (SWh : SW Z co vf) :
    MT l y44' c44' 2 (some (.object "java/lang/StringBuilder")) ws ({ frames := 5, cells := 1, slots := 804, locals := 83 } : Room) #[(.ref sb), (.ref str)] Z h0 (QSB Z sb 0 203 402 (fun f' => (∀ j, j < 3 → f' (200 + j) = fs j) ∧ ∀ q, q < 200 → f' q = f q) (some (.ref sb)) h0 n0) := by
  refine MetFree.of_bodySF (plainFor_of_name pn_java_lang_StringBuilder) hisR ?_
  intro p e s m args below meth kode s₁ Bd hml0 hP hK
  obtain ⟨rfl, hZ, hh⟩ := hP
  have hx := Bd.exec
  have hby := Bd.bytes
  have hb' := @hb _ _ hby
  have hml : kode.maxLocals = 2 := hml0
  have hown : s.vm.findClass "java/lang/StringBuilder" = some m.cls := findClass_of_methodNamed Bd.named
  have X0 : Stand p l e ({ frames := 5, cells := 1, slots := 804, locals := 83 } : Room) s m #[(.ref sb), (.ref str)] below meth kode s₁ [] 0 0 := Stand.of_body Bd
  have e0 : s₁.heap = h0 := by rw [← hh, Bd.state]; rfl
  have N0 := Fr.nil n0
  have pre0 : ∀ t, SF p e below s₁ (mkF m 0 #[vr sb, vr str] []) t → SF p e below s₁ (entryFrame m #[(.ref sb), (.ref str)] 2) t := fun t k => castTop (ef_34_2 m sb str) k
  have SWx := SWh
  obtain ⟨S_CS, hcs, S_AD, S_HI, S_LO, S_SI, hcat_vf⟩ := SWx
  have Bx := Bh
  obtain ⟨E_sb, Fsbv, Fsbc, Fsbn, Fsbm⟩ := Bx
  have cn1 := fun (t : State) (kt : SF p e below s₁ (mkF m 2 #[vr sb, vr str] [.ref str, .ref sb]) t) => pre0 t (by
    refine XS.aloadN X0.here hx rfl (hb' d34_0) rfl rfl ?_
    exact XS.aloadN X0.here hx rfl (hb' d34_1) rfl rfl kt)
  obtain ⟨_, _, ⟨T2, L2, k2, n2⟩, -, X2, ⟨Lc2, hQ2, l2, y2, z2⟩, st2⟩ := superBack X0 hx hZ (y := y43') hown (wq hw 159 rfl) (own_same (y := y43') (wq hw 160 rfl) (wq hw 170 rfl) rfl (by decide)) (wq hw 160 rfl) (wq hw 161 rfl) (by decide) (backOf (W := 0) (rm35_2 l Z a0 hw [] sb vb k f str vs ks fs co vf h0 n0 O0 g_sb ⟨E_sb, Fsbv, Fsbc, Fsbn, Fsbm⟩ A_vb hfb E_str Fstv Fstc A_vs hfs hdots SWh) hZ (wq hw 163 rfl) (wq hw 82 rfl) (by decide) (by decide)) e0 (Ins.self E_sb) (g := (mkF m 2 #[vr sb, vr str] [.ref str, .ref sb])) rfl (by rw [hml]; rfl) (wq hw 163 rfl) (argsL := [(.ref str)]) (rest := []) (lenOf pd_29 rfl) rfl (Nat.le_refl _) (hb' d34_2) (fun _ _ => ⟨rfl, e0, (by decide : 0 + 1 ≤ _), (by decide : 0 + 804 ≤ _)⟩)
  dsimp only [Pt.U, Pt.locs, Pt.cells, Pt.slots] at X2 l2 y2 z2 st2 hQ2
  subst l2 y2 z2
  obtain ⟨r2x, kq2, f2, rfl, Nq2, Kq2, szq2, ⟨E_sb2, Fsbv2, Fsbc2, Fsbn2, Fsbm2⟩, Aq2, hfb2, hB2⟩ := hQ2
  have N2 := Fr.app N0 Nq2
  have sz_r2x : h0.size ≤ r2x := Nat.le_trans (Keep.refl h0 [sb]).1 szq2
  have g_r2x : n0 ≤ r2x := Nat.le_trans (O0.1 ▸ O0.2.1) sz_r2x
  have ne_sb_r2x : sb ≠ r2x := Nat.ne_of_lt (Nat.lt_of_lt_of_le E_sb.lt szq2)
  have ne_vb_r2x : vb ≠ r2x := Nat.ne_of_lt (Nat.lt_of_lt_of_le A_vb.lt szq2)
  have ne_str_r2x : str ≠ r2x := Nat.ne_of_lt (Nat.lt_of_lt_of_le E_str.lt szq2)
  have ne_vs_r2x : vs ≠ r2x := Nat.ne_of_lt (Nat.lt_of_lt_of_le A_vs.lt szq2)
  have K2 := Kq2
  have E_sb_e2 := E_sb.keep K2
  have A_vb_e2 := A_vb.keep K2 (ninS (Ne.symm (own_neA E_sb A_vb (wq hw 73 rfl))) nin0)
  have E_str_e2 := E_str.keep K2
  have Fstv_e2 := Fstv.keep K2 (ninS (Exa.ne E_str E_sb (by decide)) nin0)
  have Fstc_e2 := Fstc.keep K2 (ninS (Exa.ne E_str E_sb (by decide)) nin0)
  have A_vs_e2 := A_vs.keep K2 (ninS (Ne.symm (own_neA E_sb A_vs (wq hw 73 rfl))) nin0)
  have O2 := O0.keep K2 (allS g_sb all0)
  have KK2 : Keep h0 T2.heap [sb] := (Keep.refl h0 [sb]).trans K2 (allS (Or.inl (List.mem_of_getElem? (i := 0) rfl)) all0)
  have cn3 := fun (t : State) (kt : SF p e below T2 (mkF m 7 #[vr sb, vr str] [.ref sb]) t) => cn1 t (by
    refine st2.trans ?_
    refine XS.pop X2.here hx rfl (hb' d34_5) rfl rfl ?_
    exact XS.aloadN X2.here hx rfl (hb' d34_6) rfl rfl kt)
  obtain ⟨frs, hr, hrun, hended, hW, hsame⟩ := X2.leave (v := some (.ref sb)) (fun h => by rw [Bd.returns] at h; cases h)
  refine ⟨_, _, cn3 _ ?_, hrun, hended, _, _, rfl, ?_, ⟨_, rfl⟩, hW, hsame.mono (by decide) (by decide)⟩
  · jvm_step X2.here [X2.here.top, hx, (hb' d34_7), X2.method', Bd.returns, Value.isRef, FieldType.isReference]
    first | (intro acts; rw [hr _ acts rfl rfl rfl]) | rw [hr _ _ rfl rfl rfl]
    exact Steps.refl _
  · show QSB Z sb 0 203 402 (fun f' => (∀ j, j < 3 → f' (200 + j) = fs j) ∧ ∀ q, q < 200 → f' q = f q) (some (.ref sb)) h0 n0 _ T2.heap _
    exact ⟨r2x, _, _, rfl, N2, KK2, sz_r2x, ⟨E_sb2, Fsbv2, Fsbc2, Fsbn2, Fsbm2⟩, Aq2, hfb2, hB2⟩

theorem ef_34_3 (m : MethodId) (x0 : Addr) (x1 : Addr) : entryFrame m #[(.ref x0), (.ref x1)] 2 = mkF m 0 #[.val (.ref x0), .val (.ref x1)] [] := by first | (simp [entryFrame, mkF, argsToLocals, Value.category]; done) | rfl
theorem rm34_3 (l : Launch) (Z : State) (a0 : Array Value) (hw : HW a0 Z) (ws : List Jvm.Cond) (sb vb : Addr) (k : ClassId) (f : Nat → Value) (str vs : Addr) (ks : ClassId) (fs : Nat → Value) (co : Int32) (vf : Value) (h0 : Heap) (n0 : Nat) (O0 : Old Z n0 h0) (g_sb : n0 ≤ sb) (Bh : SBF Z h0 sb vb 1 200) (A_vb : AF Z h0 vb k .byte 400 f) (hfb : own_fb 400 f) (E_str : Exa Z h0 str "java/lang/String") (Fstv : Fld Z h0 str "java/lang/String" "value" "[B" (.ref vs)) (Fstc : Fld Z h0 str "java/lang/String" "coder" "B" (.int (0 : Int32))) (A_vs : AF Z h0 vs ks .byte 3 fs) (hfs : own_fb 3 fs) (hdots : own_dots fs) (SWh : SW Z co vf) :
    MT l y44' c44' 2 (some (.object "java/lang/StringBuilder")) ws ({ frames := 8, cells := 1, slots := 804, locals := 119 } : Room) #[(.ref sb), (.ref str)] Z h0 (QSB Z sb 1 203 804 (fun f' => (∀ j, j < 3 → f' (2 * (200 + j)) = .int (own_b0 (([46, 46, 46] : List Int32).getD j 0)) ∧ f' (2 * (200 + j) + 1) = .int (own_b1 (([46, 46, 46] : List Int32).getD j 0))) ∧ ∀ q, q < 400 → f' q = f q) (some (.ref sb)) h0 n0) := by
  refine MetFree.of_bodySF (plainFor_of_name pn_java_lang_StringBuilder) hisR ?_
  intro p e s m args below meth kode s₁ Bd hml0 hP hK
  obtain ⟨rfl, hZ, hh⟩ := hP
  have hx := Bd.exec
  have hby := Bd.bytes
  have hb' := @hb _ _ hby
  have hml : kode.maxLocals = 2 := hml0
  have hown : s.vm.findClass "java/lang/StringBuilder" = some m.cls := findClass_of_methodNamed Bd.named
  have X0 : Stand p l e ({ frames := 8, cells := 1, slots := 804, locals := 119 } : Room) s m #[(.ref sb), (.ref str)] below meth kode s₁ [] 0 0 := Stand.of_body Bd
  have e0 : s₁.heap = h0 := by rw [← hh, Bd.state]; rfl
  have N0 := Fr.nil n0
  have pre0 : ∀ t, SF p e below s₁ (mkF m 0 #[vr sb, vr str] []) t → SF p e below s₁ (entryFrame m #[(.ref sb), (.ref str)] 2) t := fun t k => castTop (ef_34_3 m sb str) k
  have SWx := SWh
  obtain ⟨S_CS, hcs, S_AD, S_HI, S_LO, S_SI, hcat_vf⟩ := SWx
  have Bx := Bh
  obtain ⟨E_sb, Fsbv, Fsbc, Fsbn, Fsbm⟩ := Bx
  have cn1 := fun (t : State) (kt : SF p e below s₁ (mkF m 2 #[vr sb, vr str] [.ref str, .ref sb]) t) => pre0 t (by
    refine XS.aloadN X0.here hx rfl (hb' d34_0) rfl rfl ?_
    exact XS.aloadN X0.here hx rfl (hb' d34_1) rfl rfl kt)
  obtain ⟨_, _, ⟨T2, L2, k2, n2⟩, -, X2, ⟨Lc2, hQ2, l2, y2, z2⟩, st2⟩ := superBack X0 hx hZ (y := y43') hown (wq hw 159 rfl) (own_same (y := y43') (wq hw 160 rfl) (wq hw 170 rfl) rfl (by decide)) (wq hw 160 rfl) (wq hw 161 rfl) (by decide) (backOf (W := 0) (rm35_3 l Z a0 hw [] sb vb k f str vs ks fs co vf h0 n0 O0 g_sb ⟨E_sb, Fsbv, Fsbc, Fsbn, Fsbm⟩ A_vb hfb E_str Fstv Fstc A_vs hfs hdots SWh) hZ (wq hw 163 rfl) (wq hw 82 rfl) (by decide) (by decide)) e0 (Ins.self E_sb) (g := (mkF m 2 #[vr sb, vr str] [.ref str, .ref sb])) rfl (by rw [hml]; rfl) (wq hw 163 rfl) (argsL := [(.ref str)]) (rest := []) (lenOf pd_29 rfl) rfl (Nat.le_refl _) (hb' d34_2) (fun _ _ => ⟨rfl, e0, (by decide : 0 + 1 ≤ _), (by decide : 0 + 804 ≤ _)⟩)
  dsimp only [Pt.U, Pt.locs, Pt.cells, Pt.slots] at X2 l2 y2 z2 st2 hQ2
  subst l2 y2 z2
  obtain ⟨r2x, kq2, f2, rfl, Nq2, Kq2, szq2, ⟨E_sb2, Fsbv2, Fsbc2, Fsbn2, Fsbm2⟩, Aq2, hfb2, hB2⟩ := hQ2
  have N2 := Fr.app N0 Nq2
  have sz_r2x : h0.size ≤ r2x := Nat.le_trans (Keep.refl h0 [sb]).1 szq2
  have g_r2x : n0 ≤ r2x := Nat.le_trans (O0.1 ▸ O0.2.1) sz_r2x
  have ne_sb_r2x : sb ≠ r2x := Nat.ne_of_lt (Nat.lt_of_lt_of_le E_sb.lt szq2)
  have ne_vb_r2x : vb ≠ r2x := Nat.ne_of_lt (Nat.lt_of_lt_of_le A_vb.lt szq2)
  have ne_str_r2x : str ≠ r2x := Nat.ne_of_lt (Nat.lt_of_lt_of_le E_str.lt szq2)
  have ne_vs_r2x : vs ≠ r2x := Nat.ne_of_lt (Nat.lt_of_lt_of_le A_vs.lt szq2)
  have K2 := Kq2
  have E_sb_e2 := E_sb.keep K2
  have A_vb_e2 := A_vb.keep K2 (ninS (Ne.symm (own_neA E_sb A_vb (wq hw 73 rfl))) nin0)
  have E_str_e2 := E_str.keep K2
  have Fstv_e2 := Fstv.keep K2 (ninS (Exa.ne E_str E_sb (by decide)) nin0)
  have Fstc_e2 := Fstc.keep K2 (ninS (Exa.ne E_str E_sb (by decide)) nin0)
  have A_vs_e2 := A_vs.keep K2 (ninS (Ne.symm (own_neA E_sb A_vs (wq hw 73 rfl))) nin0)
  have O2 := O0.keep K2 (allS g_sb all0)
  have KK2 : Keep h0 T2.heap [sb] := (Keep.refl h0 [sb]).trans K2 (allS (Or.inl (List.mem_of_getElem? (i := 0) rfl)) all0)
  have cn3 := fun (t : State) (kt : SF p e below T2 (mkF m 7 #[vr sb, vr str] [.ref sb]) t) => cn1 t (by
    refine st2.trans ?_
    refine XS.pop X2.here hx rfl (hb' d34_5) rfl rfl ?_
    exact XS.aloadN X2.here hx rfl (hb' d34_6) rfl rfl kt)
  obtain ⟨frs, hr, hrun, hended, hW, hsame⟩ := X2.leave (v := some (.ref sb)) (fun h => by rw [Bd.returns] at h; cases h)
  refine ⟨_, _, cn3 _ ?_, hrun, hended, _, _, rfl, ?_, ⟨_, rfl⟩, hW, hsame.mono (by decide) (by decide)⟩
  · jvm_step X2.here [X2.here.top, hx, (hb' d34_7), X2.method', Bd.returns, Value.isRef, FieldType.isReference]
    first | (intro acts; rw [hr _ acts rfl rfl rfl]) | rw [hr _ _ rfl rfl rfl]
    exact Steps.refl _
  · show QSB Z sb 1 203 804 (fun f' => (∀ j, j < 3 → f' (2 * (200 + j)) = .int (own_b0 (([46, 46, 46] : List Int32).getD j 0)) ∧ f' (2 * (200 + j) + 1) = .int (own_b1 (([46, 46, 46] : List Int32).getD j 0))) ∧ ∀ q, q < 400 → f' q = f q) (some (.ref sb)) h0 n0 _ T2.heap _
    exact ⟨r2x, _, _, rfl, N2, KK2, sz_r2x, ⟨E_sb2, Fsbv2, Fsbc2, Fsbn2, Fsbm2⟩, Aq2, hfb2, hB2⟩

theorem d51_0 : DC c45' 0 (.aload_n 0) 1 := by decide +kernel
theorem d51_1 : DC c45' 1 (.getfield 15) 3 := by decide +kernel
theorem d51_4 : DC c45' 4 (.areturn) 1 := by decide +kernel
theorem ef_51 (m : MethodId) (x0 : Addr) : entryFrame m #[(.ref x0)] 1 = mkF m 0 #[.val (.ref x0)] [] := by first | (simp [entryFrame, mkF, argsToLocals, Value.category]; done) | rfl
def QRf (x : Addr) (h0 : Heap) (n0 : Nat) (v : Option Value) (h : Heap) (L : List Loc) : Prop := v = some (.ref x) ∧ Fr n0 L ∧ h = h0
theorem rm51 (l : Launch) (Z : State) (a0 : Array Value) (hw : HW a0 Z) (ws : List Jvm.Cond) (sb vb : Addr) (h0 : Heap) (n0 : Nat) (O0 : Old Z n0 h0) (Fsbv : Fld Z h0 sb "java/lang/AbstractStringBuilder" "value" "[B" (.ref vb)) :
    MT l y45' c45' 1 (some (.array .byte)) ws ({ frames := 0, cells := 0, slots := 0, locals := 0 } : Room) #[(.ref sb)] Z h0 (QRf vb h0 n0) := by
  refine MetFree.of_bodySF (plainFor_of_name pn_java_lang_AbstractStringBuilder) hisR ?_
  intro p e s m args below meth kode s₁ Bd hml0 hP hK
  obtain ⟨rfl, hZ, hh⟩ := hP
  have hx := Bd.exec
  have hby := Bd.bytes
  have hb' := @hb _ _ hby
  have hml : kode.maxLocals = 1 := hml0
  have hown : s.vm.findClass "java/lang/AbstractStringBuilder" = some m.cls := findClass_of_methodNamed Bd.named
  have X0 : Stand p l e ({ frames := 0, cells := 0, slots := 0, locals := 0 } : Room) s m #[(.ref sb)] below meth kode s₁ [] 0 0 := Stand.of_body Bd
  have e0 : s₁.heap = h0 := by rw [← hh, Bd.state]; rfl
  have N0 := Fr.nil n0
  have pre0 : ∀ t, SF p e below s₁ (mkF m 0 #[vr sb] []) t → SF p e below s₁ (entryFrame m #[(.ref sb)] 1) t := fun t k => castTop (ef_51 m sb) k
  have cn1 := fun (t : State) (kt : SF p e below s₁ (mkF m 1 #[vr sb] [.ref sb]) t) => pre0 t (by
    exact XS.aloadN X0.here hx rfl (hb' d51_0) rfl rfl kt)
  obtain ⟨T2, X2, e2, st2⟩ := getF X0 hx hZ hown (host := "") (Or.inl (wq hw 86 rfl)) Via.refl e0 Fsbv (g := (mkF m 1 #[vr sb] [.ref sb])) rfl rfl (hb' d51_1)
  have cn3 := fun (t : State) (kt : SF p e below T2 (mkF m 4 #[vr sb] [.ref vb]) t) => cn1 t (by
    exact st2 _ kt)
  obtain ⟨frs, hr, hrun, hended, hW, hsame⟩ := X2.leave (v := some (.ref vb)) (fun h => by rw [Bd.returns] at h; cases h)
  refine ⟨_, _, cn3 _ ?_, hrun, hended, _, _, rfl, ?_, ⟨_, rfl⟩, hW, hsame.mono (by decide) (by decide)⟩
  · jvm_step X2.here [X2.here.top, hx, (hb' d51_4), X2.method', Bd.returns, Value.isRef, FieldType.isReference]
    first | (intro acts; rw [hr _ acts rfl rfl rfl]) | rw [hr _ _ rfl rfl rfl]
    exact Steps.refl _
  · show QRf vb h0 n0 _ T2.heap _
    rw [e2]
    exact ⟨rfl, N0, rfl⟩

theorem d53_0 : DC c46' 0 (.aload_n 0) 1 := by decide +kernel
theorem d53_1 : DC c46' 1 (.getfield 79) 3 := by decide +kernel
theorem d53_4 : DC c46' 4 (.ireturn) 1 := by decide +kernel
theorem ef_53 (m : MethodId) (x0 : Addr) : entryFrame m #[(.ref x0)] 1 = mkF m 0 #[.val (.ref x0)] [] := by first | (simp [entryFrame, mkF, argsToLocals, Value.category]; done) | rfl
theorem rm53 (l : Launch) (Z : State) (a0 : Array Value) (hw : HW a0 Z) (ws : List Jvm.Cond) (sb : Addr) (h0 : Heap) (n0 : Nat) (O0 : Old Z n0 h0) (E_sb : Exa Z h0 sb "java/lang/StringBuilder") (Fsbn : Fld Z h0 sb "java/lang/AbstractStringBuilder" "count" "I" (.int (203 : Int32))) :
    MT l y46' c46' 1 (some .int) ws ({ frames := 0, cells := 0, slots := 0, locals := 0 } : Room) #[(.ref sb)] Z h0 (QI 203 h0 n0) := by
  refine MetFree.of_bodySF (plainFor_of_name pn_java_lang_AbstractStringBuilder) hisR ?_
  intro p e s m args below meth kode s₁ Bd hml0 hP hK
  obtain ⟨rfl, hZ, hh⟩ := hP
  have hx := Bd.exec
  have hby := Bd.bytes
  have hb' := @hb _ _ hby
  have hml : kode.maxLocals = 1 := hml0
  have hown : s.vm.findClass "java/lang/AbstractStringBuilder" = some m.cls := findClass_of_methodNamed Bd.named
  have X0 : Stand p l e ({ frames := 0, cells := 0, slots := 0, locals := 0 } : Room) s m #[(.ref sb)] below meth kode s₁ [] 0 0 := Stand.of_body Bd
  have e0 : s₁.heap = h0 := by rw [← hh, Bd.state]; rfl
  have N0 := Fr.nil n0
  have pre0 : ∀ t, SF p e below s₁ (mkF m 0 #[vr sb] []) t → SF p e below s₁ (entryFrame m #[(.ref sb)] 1) t := fun t k => castTop (ef_53 m sb) k
  have cn1 := fun (t : State) (kt : SF p e below s₁ (mkF m 1 #[vr sb] [.ref sb]) t) => pre0 t (by
    exact XS.aloadN X0.here hx rfl (hb' d53_0) rfl rfl kt)
  obtain ⟨T2, X2, e2, st2⟩ := getF X0 hx hZ hown (host := "") (Or.inl (wq hw 165 rfl)) Via.refl e0 Fsbn (g := (mkF m 1 #[vr sb] [.ref sb])) rfl rfl (hb' d53_1)
  have cn3 := fun (t : State) (kt : SF p e below T2 (mkF m 4 #[vr sb] [.int 203]) t) => cn1 t (by
    exact st2 _ kt)
  obtain ⟨frs, hr, hrun, hended, hW, hsame⟩ := X2.leave (v := some (.int (203 : Int32))) (fun h => by rw [Bd.returns] at h; cases h)
  refine ⟨_, _, cn3 _ ?_, hrun, hended, _, _, rfl, ?_, ⟨_, rfl⟩, hW, hsame.mono (by decide) (by decide)⟩
  · exact retI X2 hx Bd.returns (hb' d53_4) hr
  · show QI 203 h0 n0 _ T2.heap _
    rw [e2]
    exact ⟨rfl, N0, rfl⟩

theorem d52_0 : DC c47' 0 (.aload_n 0) 1 := by decide +kernel
theorem d52_1 : DC c47' 1 (.invokespecial 343) 3 := by decide +kernel
theorem d52_4 : DC c47' 4 (.ireturn) 1 := by decide +kernel
theorem ef_52 (m : MethodId) (x0 : Addr) : entryFrame m #[(.ref x0)] 1 = mkF m 0 #[.val (.ref x0)] [] := by first | (simp [entryFrame, mkF, argsToLocals, Value.category]; done) | rfl
theorem rm52 (l : Launch) (Z : State) (a0 : Array Value) (hw : HW a0 Z) (ws : List Jvm.Cond) (sb : Addr) (h0 : Heap) (n0 : Nat) (O0 : Old Z n0 h0) (E_sb : Exa Z h0 sb "java/lang/StringBuilder") (Fsbn : Fld Z h0 sb "java/lang/AbstractStringBuilder" "count" "I" (.int (203 : Int32))) :
    MT l y47' c47' 1 (some .int) ws ({ frames := 1, cells := 0, slots := 0, locals := 12 } : Room) #[(.ref sb)] Z h0 (QI 203 h0 n0) := by
  refine MetFree.of_bodySF (plainFor_of_name pn_java_lang_StringBuilder) hisR ?_
  intro p e s m args below meth kode s₁ Bd hml0 hP hK
  obtain ⟨rfl, hZ, hh⟩ := hP
  have hx := Bd.exec
  have hby := Bd.bytes
  have hb' := @hb _ _ hby
  have hml : kode.maxLocals = 1 := hml0
  have hown : s.vm.findClass "java/lang/StringBuilder" = some m.cls := findClass_of_methodNamed Bd.named
  have X0 : Stand p l e ({ frames := 1, cells := 0, slots := 0, locals := 12 } : Room) s m #[(.ref sb)] below meth kode s₁ [] 0 0 := Stand.of_body Bd
  have e0 : s₁.heap = h0 := by rw [← hh, Bd.state]; rfl
  have N0 := Fr.nil n0
  have pre0 : ∀ t, SF p e below s₁ (mkF m 0 #[vr sb] []) t → SF p e below s₁ (entryFrame m #[(.ref sb)] 1) t := fun t k => castTop (ef_52 m sb) k
  have cn1 := fun (t : State) (kt : SF p e below s₁ (mkF m 1 #[vr sb] [.ref sb]) t) => pre0 t (by
    exact XS.aloadN X0.here hx rfl (hb' d52_0) rfl rfl kt)
  obtain ⟨_, _, ⟨T2, L2, k2, n2⟩, -, X2, ⟨Lc2, hQ2, l2, y2, z2⟩, st2⟩ := superBack X0 hx hZ (y := y46') hown (wq hw 249 rfl) (own_same (y := y46') (wq hw 245 rfl) (wq hw 170 rfl) rfl (by decide)) (wq hw 245 rfl) (wq hw 161 rfl) (by decide) (backOf (W := 0) (rm53 l Z a0 hw [] sb h0 n0 O0 E_sb Fsbn) hZ (wq hw 250 rfl) (wq hw 82 rfl) (by decide) (by decide)) e0 (Ins.self E_sb) (g := (mkF m 1 #[vr sb] [.ref sb])) rfl (by rw [hml]; rfl) (wq hw 250 rfl) (argsL := []) (rest := []) (lenOf pd_18 rfl) rfl (Nat.le_refl _) (hb' d52_1) (fun _ _ => ⟨rfl, e0, (by decide : 0 + 0 ≤ _), (by decide : 0 + 0 ≤ _)⟩)
  dsimp only [Pt.U, Pt.locs, Pt.cells, Pt.slots] at X2 l2 y2 z2 st2 hQ2
  subst l2 y2 z2
  obtain ⟨rfl, Nq2, eh2⟩ := hQ2
  have N2 := Fr.app N0 Nq2
  have cn3 := fun (t : State) (kt : SF p e below T2 (mkF m 4 #[vr sb] [.int 203]) t) => cn1 t (by
    exact st2.trans kt)
  obtain ⟨frs, hr, hrun, hended, hW, hsame⟩ := X2.leave (v := some (.int (203 : Int32))) (fun h => by rw [Bd.returns] at h; cases h)
  refine ⟨_, _, cn3 _ ?_, hrun, hended, _, _, rfl, ?_, ⟨_, rfl⟩, hW, hsame.mono (by decide) (by decide)⟩
  · exact retI X2 hx Bd.returns (hb' d52_4) hr
  · show QI 203 h0 n0 _ T2.heap _
    rw [eh2]
    exact ⟨rfl, N2, rfl⟩

def QTS (Z : State) (a1 : Addr) (f : Nat → Value) (cd : Int32) (m : Nat) (h0 : Heap) (n0 : Nat) (v : Option Value) (h : Heap) (L : List Loc) : Prop := ∃ (r : Addr) (k : ClassId) (f' : Nat → Value), v = none ∧ Fr n0 L ∧ Keep h0 h [a1] ∧ h0.size ≤ r ∧ Exa Z h a1 "java/lang/String" ∧ Fld Z h a1 "java/lang/String" "value" "[B" (.ref r) ∧ Fld Z h a1 "java/lang/String" "coder" "B" (.int cd) ∧ AF Z h r k .byte m f' ∧ ∀ j, j < m → f' j = f j
def QTO (Z : State) (f : Nat → Value) (cd : Int32) (m : Nat) (h0 : Heap) (n0 : Nat) (v : Option Value) (h : Heap) (L : List Loc) : Prop := ∃ (a1 r : Addr) (k : ClassId) (f' : Nat → Value), v = some (.ref a1) ∧ Fr n0 L ∧ Keep h0 h [] ∧ h0.size ≤ a1 ∧ h0.size ≤ r ∧ Exa Z h a1 "java/lang/String" ∧ Fld Z h a1 "java/lang/String" "value" "[B" (.ref r) ∧ Fld Z h a1 "java/lang/String" "coder" "B" (.int cd) ∧ AF Z h r k .byte m f' ∧ ∀ j, j < m → f' j = f j

theorem d50_0 : DC c48' 0 (.aload_n 0) 1 := by decide +kernel
theorem d50_1 : DC c48' 1 (.invokespecial 1) 3 := by decide +kernel
theorem d50_4 : DC c48' 4 (.aload_n 1) 1 := by decide +kernel
theorem d50_5 : DC c48' 5 (.invokevirtual 552) 3 := by decide +kernel
theorem d50_8 : DC c48' 8 (.astore_n 3) 1 := by decide +kernel
theorem d50_9 : DC c48' 9 (.aload_n 1) 1 := by decide +kernel
theorem d50_10 : DC c48' 10 (.invokevirtual 549) 3 := by decide +kernel
theorem d50_13 : DC c48' 13 (.istore 4) 2 := by decide +kernel
theorem d50_15 : DC c48' 15 (.aload_n 1) 1 := by decide +kernel
theorem d50_16 : DC c48' 16 (.invokevirtual 1047) 3 := by decide +kernel
theorem d50_19 : DC c48' 19 (.ifCond .eq 22) 3 := by decide +kernel
theorem d50_22 : DC c48' 22 (.aload_n 0) 1 := by decide +kernel
theorem d50_23 : DC c48' 23 (.iconst 0) 1 := by decide +kernel
theorem d50_24 : DC c48' 24 (.putfield 15) 3 := by decide +kernel
theorem d50_27 : DC c48' 27 (.aload_n 0) 1 := by decide +kernel
theorem d50_28 : DC c48' 28 (.aload_n 3) 1 := by decide +kernel
theorem d50_29 : DC c48' 29 (.iconst 0) 1 := by decide +kernel
theorem d50_30 : DC c48' 30 (.iload 4) 2 := by decide +kernel
theorem d50_32 : DC c48' 32 (.invokestatic 54) 3 := by decide +kernel
theorem d50_35 : DC c48' 35 (.putfield 9) 3 := by decide +kernel
theorem d50_38 : DC c48' 38 (.goto 59) 3 := by decide +kernel
theorem d50_97 : DC c48' 97 (.return_) 1 := by decide +kernel
theorem pd_30 : parseMethodDescriptor "()[B" = some ⟨[], some (.array .byte)⟩ := by decide +kernel
theorem ef_50_0 (m : MethodId) (x0 : Addr) (x1 : Addr) : entryFrame m #[(.ref x0), (.ref x1), .null] 5 = mkF m 0 #[.val (.ref x0), .val (.ref x1), .val .null, .unset, .unset] [] := by first | (simp [entryFrame, mkF, argsToLocals, Value.category]; done) | rfl
theorem rm50_0 (l : Launch) (Z : State) (a0 : Array Value) (hw : HW a0 Z) (ws : List Jvm.Cond) (a1 sb vb : Addr) (k : ClassId) (f : Nat → Value) (co : Int32) (vf : Value) (h0 : Heap) (n0 : Nat) (O0 : Old Z n0 h0) (g_a1 : n0 ≤ a1) (E_a1 : Exa Z h0 a1 "java/lang/String") (Fvalue : Fld Z h0 a1 "java/lang/String" "value" "[B" .null) (Fcoder : Fld Z h0 a1 "java/lang/String" "coder" "B" (.int (0 : Int32))) (g_sb : n0 ≤ sb) (Bh : SBF Z h0 sb vb 0 203) (A_vb : AF Z h0 vb k .byte 402 f) (hfb : own_fb 402 f) (SWh : SW Z co vf) :
    MT l y48' c48' 5 none ws ({ frames := 3, cells := 1, slots := 406, locals := 71 } : Room) #[(.ref a1), (.ref sb), .null] Z h0 (QTS Z a1 f 0 203 h0 n0) := by
  refine MetFree.of_bodySF (plainFor_of_name pn_java_lang_String) hisR ?_
  intro p e s m args below meth kode s₁ Bd hml0 hP hK
  obtain ⟨rfl, hZ, hh⟩ := hP
  have hx := Bd.exec
  have hby := Bd.bytes
  have hb' := @hb _ _ hby
  have hml : kode.maxLocals = 5 := hml0
  have hown : s.vm.findClass "java/lang/String" = some m.cls := findClass_of_methodNamed Bd.named
  have hnm := (name_of_methodNamed Bd.named Bd.method).1
  have X0 : Stand p l e ({ frames := 3, cells := 1, slots := 406, locals := 71 } : Room) s m #[(.ref a1), (.ref sb), .null] below meth kode s₁ [] 0 0 := Stand.of_body Bd
  have e0 : s₁.heap = h0 := by rw [← hh, Bd.state]; rfl
  have N0 := Fr.nil n0
  have pre0 : ∀ t, SF p e below s₁ (mkF m 0 #[vr a1, vr sb, .val .null, .unset, .unset] []) t → SF p e below s₁ (entryFrame m #[(.ref a1), (.ref sb), .null] 5) t := fun t k => castTop (ef_50_0 m a1 sb) k
  have SWx := SWh
  obtain ⟨S_CS, hcs, S_AD, S_HI, S_LO, S_SI, hcat_vf⟩ := SWx
  have Bx := Bh
  obtain ⟨E_sb, Fsbv, Fsbc, Fsbn, Fsbm⟩ := Bx
  have cn1 := fun (t : State) (kt : SF p e below s₁ (mkF m 1 #[vr a1, vr sb, .val .null, .unset, .unset] [.ref a1]) t) => pre0 t (by
    exact XS.aloadN X0.here hx rfl (hb' d50_0) rfl rfl kt)
  obtain ⟨T2, X2, e2, st2⟩ := initO X0 hx hZ hown (wq hw 11 rfl) (wq hw 12 rfl) (wq hw 13 rfl) e0 (g := (mkF m 1 #[vr a1, vr sb, .val .null, .unset, .unset] [.ref a1])) rfl (by rw [hml]; rfl) rfl (hb' d50_1) (by decide) (W := 0) (Nat.le_refl _) (by decide)
  have cn3 := fun (t : State) (kt : SF p e below T2 (mkF m 5 #[vr a1, vr sb, .val .null, .unset, .unset] [.ref sb]) t) => cn1 t (by
    refine st2 _ ?_
    exact XS.aloadN X2.here hx rfl (hb' d50_4) rfl rfl kt)
  obtain ⟨cq4, kq4, q4a, q4b, q4c⟩ := isOf hZ e2 E_sb
  obtain ⟨_, _, ⟨T4, L4, k4, n4⟩, -, X4, ⟨Lc4, hQ4, l4, y4, z4⟩, st4⟩ := X2.virtualBack hx (y := y45') (z := y45') hown (mvT hZ (wq hw 238 rfl)) (mvT hZ (wq hw 239 rfl)) (notFace_of_selects (args := #[]) (mvT hZ (wq hw 241 rfl))) (mvT hZ (wq hw 241 rfl)) (mvT hZ (wq hw 240 rfl)) (by decide) (backOf (W := 0) (rm51 l Z a0 hw [] sb vb h0 n0 O0 Fsbv) hZ (wq hw 242 rfl) (wq hw 82 rfl) (by decide) (by decide)) q4a q4c (g := (mkF m 5 #[vr a1, vr sb, .val .null, .unset, .unset] [.ref sb])) rfl (by rw [hml]; rfl) (Steps.refl _) (argsL := []) (rest := []) (lenOf pd_30 rfl) rfl (Nat.le_refl _) (hb' d50_5) (fun _ _ => ⟨rfl, e2, (by decide : 0 + 0 ≤ _), (by decide : 0 + 0 ≤ _)⟩)
  dsimp only [Pt.U, Pt.locs, Pt.cells, Pt.slots] at X4 l4 y4 z4 st4 hQ4
  subst l4 y4 z4
  obtain ⟨rfl, Nq4, eh4⟩ := hQ4
  have N4 := Fr.app N0 Nq4
  have cn5 := fun (t : State) (kt : SF p e below T4 (mkF m 10 #[vr a1, vr sb, .val .null, vr vb, .unset] [.ref sb]) t) => cn3 t (by
    refine st4.trans ?_
    refine XS.astoreN X4.here hx rfl (hb' d50_8) rfl rfl (l' := #[vr a1, vr sb, .val .null, vr vb, .unset]) rfl ?_
    exact XS.aloadN X4.here hx rfl (hb' d50_9) rfl rfl kt)
  obtain ⟨cq6, kq6, q6a, q6b, q6c⟩ := isOf hZ eh4 E_sb
  obtain ⟨_, _, ⟨T6, L6, k6, n6⟩, -, X6, ⟨Lc6, hQ6, l6, y6, z6⟩, st6⟩ := X4.virtualBack hx (y := y46') (z := y47') hown (mvT hZ (wq hw 243 rfl)) (mvT hZ (wq hw 244 rfl)) (own_nf (args := #[]) (z := y35') (mvT hZ (wq hw 170 rfl)) rfl) (mvT hZ (wq hw 246 rfl)) (mvT hZ (wq hw 247 rfl)) (by decide) (backOf (W := 0) (rm52 l Z a0 hw [] sb h0 n0 O0 E_sb Fsbn) hZ (wq hw 248 rfl) (wq hw 74 rfl) (by decide) (by decide)) q6a q6c (g := (mkF m 10 #[vr a1, vr sb, .val .null, vr vb, .unset] [.ref sb])) rfl (by rw [hml]; rfl) (Steps.refl _) (argsL := []) (rest := []) (lenOf pd_18 rfl) rfl (Nat.le_refl _) (hb' d50_10) (fun _ _ => ⟨rfl, eh4, (by decide : 0 + 0 ≤ _), (by decide : 0 + 0 ≤ _)⟩)
  dsimp only [Pt.U, Pt.locs, Pt.cells, Pt.slots] at X6 l6 y6 z6 st6 hQ6
  subst l6 y6 z6
  obtain ⟨rfl, Nq6, eh6⟩ := hQ6
  have N6 := Fr.app N4 Nq6
  have cn7 := fun (t : State) (kt : SF p e below T6 (mkF m 16 #[vr a1, vr sb, .val .null, vr vb, vi 203] [.ref sb]) t) => cn5 t (by
    refine st6.trans ?_
    refine XS.istore X6.here hx rfl (hb' d50_13) rfl (l' := #[vr a1, vr sb, .val .null, vr vb, vi 203]) rfl ?_
    exact XS.aloadN X6.here hx rfl (hb' d50_15) rfl rfl kt)
  obtain ⟨cq8, kq8, q8a, q8b, q8c⟩ := isOf hZ eh6 E_sb
  obtain ⟨_, _, ⟨T8, L8, k8, n8⟩, -, X8, ⟨Lc8, hQ8, l8, y8, z8⟩, st8⟩ := X6.virtualBack hx (y := y36') (z := y36') hown (mvT hZ (wq hw 251 rfl)) (mvT hZ (wq hw 206 rfl)) (notFace_of_selects (args := #[]) (mvT hZ (wq hw 208 rfl))) (mvT hZ (wq hw 208 rfl)) (mvT hZ (wq hw 207 rfl)) (by decide) (backOf (W := 0) (rm44_0 l Z a0 hw [] sb co vf h0 n0 O0 Fsbc SWh) hZ (wq hw 209 rfl) (wq hw 82 rfl) (by decide) (by decide)) q8a q8c (g := (mkF m 16 #[vr a1, vr sb, .val .null, vr vb, vi 203] [.ref sb])) rfl (by rw [hml]; rfl) (Steps.refl _) (argsL := []) (rest := []) (lenOf pd_20 rfl) rfl (Nat.le_refl _) (hb' d50_16) (fun _ _ => ⟨rfl, eh6, (by decide : 0 + 0 ≤ _), (by decide : 0 + 0 ≤ _)⟩)
  dsimp only [Pt.U, Pt.locs, Pt.cells, Pt.slots] at X8 l8 y8 z8 st8 hQ8
  subst l8 y8 z8
  obtain ⟨rfl, Nq8, eh8⟩ := hQ8
  have N8 := Fr.app N6 Nq8
  have cn9 := fun (t : State) (kt : SF p e below T8 (mkF m 19 #[vr a1, vr sb, .val .null, vr vb, vi 203] [.int 1]) t) => cn7 t (by
    exact st8.trans kt)
  have cn10 := fun (t : State) (kt : SF p e below T8 (mkF m 24 #[vr a1, vr sb, .val .null, vr vb, vi 203] [.int 0, .ref a1]) t) => cn9 t (by
    refine XS.ifNo X8.here hx rfl (hb' d50_19) rfl ((if0 _ _).trans (feq (by decide : ¬ ((1 : Int32) = (0 : Int32)))).1) ?_
    refine XS.aloadN X8.here hx rfl (hb' d50_22) rfl rfl ?_
    exact XS.iconst X8.here hx rfl (hb' d50_23) kt)
  obtain ⟨T11, h11, X11, e11, W11, st11⟩ := putFN X8 hx hZ hown (wq hw 21 rfl) Via.refl eh8 Fcoder E_a1 (Or.inr ⟨(wq hw 17 rfl), rfl, hnm⟩) (wq hw 2 rfl) (ty := .byte) (v' := (.int (0 : Int32))) (by decide) rfl rfl (g := (mkF m 24 #[vr a1, vr sb, .val .null, vr vb, vi 203] [.int 0, .ref a1])) rfl rfl (hb' d50_24)
  have E_a1_e11 := E_a1.wr W11
  have Fvalue_e11 := Fvalue.other W11 (Or.inr (slot_ne (Or.inr (wq hw 16 rfl)) (Or.inr (wq hw 17 rfl)) (by decide) (t := (.array .byte)) (t' := .byte) (by decide) (by decide)))
  have E_sb_e11 := E_sb.wr W11
  have Fsbv_e11 := Fsbv.other W11 (Or.inl (Exa.ne E_sb E_a1 (by decide)))
  have Fsbc_e11 := Fsbc.other W11 (Or.inl (Exa.ne E_sb E_a1 (by decide)))
  have Fsbn_e11 := Fsbn.other W11 (Or.inl (Exa.ne E_sb E_a1 (by decide)))
  have Fsbm_e11 := Fsbm.other W11 (Or.inl (Exa.ne E_sb E_a1 (by decide)))
  have A_vb_e11 := A_vb.other W11 (Ne.symm (own_neA E_a1 A_vb (wq hw 2 rfl)))
  have N11 := Fr.snoc X11 N8 g_a1
  have O11 := O0.wr W11 g_a1
  have K11 : Keep h0 h11 [a1] := (Keep.refl h0 [a1]).wr W11 (Or.inl (List.mem_of_getElem? (i := 0) rfl))
  have Fcoder_11 := Fcoder.same W11
  have cn12 := fun (t : State) (kt : SF p e below T11 (mkF m 32 #[vr a1, vr sb, .val .null, vr vb, vi 203] [.int 203, .int 0, .ref vb, .ref a1]) t) => cn10 t (by
    refine st11 _ ?_
    refine XS.aloadN X11.here hx rfl (hb' d50_27) rfl rfl ?_
    refine XS.aloadN X11.here hx rfl (hb' d50_28) rfl rfl ?_
    refine XS.iconst X11.here hx rfl (hb' d50_29) ?_
    exact XS.iload X11.here hx rfl (hb' d50_30) rfl kt)
  obtain ⟨_, _, ⟨T13, L13, k13, n13⟩, -, X13, ⟨Lc13, hQ13, l13, y13, z13⟩, st13⟩ := Jvm.LawKit.callS X11 hx (y := y23') hown (mvT hZ (wq hw 254 rfl)) (mvT hZ (wq hw 132 rfl)) (mvT hZ (wq hw 133 rfl)) (mvT hZ (wq hw 134 rfl)) (by decide) (backOf (W := 1) (rm29 l Z a0 hw [] vb k 402 203 f h11 n0 O11 (by omega) (by omega) (by omega) A_vb_e11 hfb) hZ (wq hw 134 rfl) (wq hw 133 rfl) (by decide) (by decide)) (g := (mkF m 32 #[vr a1, vr sb, .val .null, vr vb, vi 203] [.int 203, .int 0, .ref vb, .ref a1])) rfl (by rw [hml]; rfl) (argsL := [(.ref vb), (.int (0 : Int32)), (.int (203 : Int32))]) (rest := [(.ref a1)]) (lenOf pd_14 rfl) rfl (Nat.le_refl _) (hb' d50_32) (fun _ _ => ⟨rfl, e11, (by decide : 0 + 1 ≤ _), (by decide : 0 + 406 ≤ _)⟩)
  dsimp only [Pt.U, Pt.locs, Pt.cells, Pt.slots] at X13 l13 y13 z13 st13 hQ13
  subst l13 y13 z13
  obtain ⟨r13x, kq13, f13, rfl, Nq13, Kq13, szq13, Aq13, hcp13, hfb13⟩ := hQ13
  have N13 := Fr.app N11 Nq13
  have ne_a1_r13x : a1 ≠ r13x := Nat.ne_of_lt (Nat.lt_of_lt_of_le E_a1_e11.lt szq13)
  have ne_sb_r13x : sb ≠ r13x := Nat.ne_of_lt (Nat.lt_of_lt_of_le E_sb_e11.lt szq13)
  have ne_vb_r13x : vb ≠ r13x := Nat.ne_of_lt (Nat.lt_of_lt_of_le A_vb_e11.lt szq13)
  have sz_r13x : h0.size ≤ r13x := Nat.le_trans K11.1 szq13
  have g_r13x : n0 ≤ r13x := Nat.le_trans (O0.1 ▸ O0.2.1) sz_r13x
  have K13 := Kq13
  have E_a1_e13 := E_a1_e11.keep K13
  have Fvalue_e13 := Fvalue_e11.keep K13 nin0
  have Fcoder_11_e13 := Fcoder_11.keep K13 nin0
  have E_sb_e13 := E_sb_e11.keep K13
  have Fsbv_e13 := Fsbv_e11.keep K13 nin0
  have Fsbc_e13 := Fsbc_e11.keep K13 nin0
  have Fsbn_e13 := Fsbn_e11.keep K13 nin0
  have Fsbm_e13 := Fsbm_e11.keep K13 nin0
  have A_vb_e13 := A_vb_e11.keep K13 nin0
  have O13 := O11.keep K13 all0
  have KK13 : Keep h0 T13.heap [a1] := K11.trans K13 all0
  have cn14 := fun (t : State) (kt : SF p e below T13 (mkF m 35 #[vr a1, vr sb, .val .null, vr vb, vi 203] [.ref r13x, .ref a1]) t) => cn12 t (by
    exact st13 _ kt)
  obtain ⟨T15, h15, X15, e15, W15, st15⟩ := putF X13 hx hZ hown (host := "") (Or.inl (wq hw 20 rfl)) Via.refl rfl Fvalue_e13 E_a1_e13 (Or.inr ⟨(wq hw 16 rfl), rfl, hnm⟩) (wq hw 2 rfl) (ty := (.array .byte)) (by decide) rfl rfl (g := (mkF m 35 #[vr a1, vr sb, .val .null, vr vb, vi 203] [.ref r13x, .ref a1])) rfl rfl (hb' d50_35)
  have E_a1_e15 := E_a1_e13.wr W15
  have Fcoder_11_e15 := Fcoder_11_e13.other W15 (Or.inr (slot_ne (Or.inr (wq hw 17 rfl)) (Or.inr (wq hw 16 rfl)) (by decide) (t := .byte) (t' := (.array .byte)) (by decide) (by decide)))
  have E_sb_e15 := E_sb_e13.wr W15
  have Fsbv_e15 := Fsbv_e13.other W15 (Or.inl (Exa.ne E_sb_e13 E_a1_e13 (by decide)))
  have Fsbc_e15 := Fsbc_e13.other W15 (Or.inl (Exa.ne E_sb_e13 E_a1_e13 (by decide)))
  have Fsbn_e15 := Fsbn_e13.other W15 (Or.inl (Exa.ne E_sb_e13 E_a1_e13 (by decide)))
  have Fsbm_e15 := Fsbm_e13.other W15 (Or.inl (Exa.ne E_sb_e13 E_a1_e13 (by decide)))
  have A_vb_e15 := A_vb_e13.other W15 (Ne.symm (own_neA E_a1_e13 A_vb_e13 (wq hw 2 rfl)))
  have Aq13_e15 := Aq13.other W15 (Ne.symm ne_a1_r13x)
  have N15 := Fr.snoc X15 N13 g_a1
  have O15 := O13.wr W15 g_a1
  have K15 : Keep h0 h15 [a1] := KK13.wr W15 (Or.inl (List.mem_of_getElem? (i := 0) rfl))
  have Fvalue_15 := Fvalue_e13.same W15
  have cn16 := fun (t : State) (kt : SF p e below T15 (mkF m 97 #[vr a1, vr sb, .val .null, vr vb, vi 203] []) t) => cn14 t (by
    refine st15 _ ?_
    exact XS.goto X15.here hx rfl (pc0 := 38) (pc' := 97) rfl (hb' d50_38) (by decide) (by decide) kt)
  obtain ⟨frs, hr, hrun, hended, hW, hsame⟩ := X15.leave (v := none) (fun _ => rfl)
  refine ⟨_, _, cn16 _ ?_, hrun, hended, _, _, rfl, ?_, ⟨_, rfl⟩, hW, hsame.mono (by decide) (by decide)⟩
  · exact X15.returnOut hx Bd.returns (hb' d50_97) hr
  · show QTS Z a1 f 0 203 h0 n0 _ T15.heap _
    rw [e15]
    exact ⟨r13x, _, _, rfl, N15, K15, sz_r13x, E_a1_e15, Fvalue_15, Fcoder_11_e15, Aq13_e15, hcp13⟩

theorem d49_0 : DC c49' 0 (.aload_n 0) 1 := by decide +kernel
theorem d49_1 : DC c49' 1 (.aload_n 1) 1 := by decide +kernel
theorem d49_2 : DC c49' 2 (.aconst_null) 1 := by decide +kernel
theorem d49_3 : DC c49' 3 (.invokespecial 489) 3 := by decide +kernel
theorem d49_6 : DC c49' 6 (.return_) 1 := by decide +kernel
theorem pd_31 : parseMethodDescriptor "(Ljava/lang/AbstractStringBuilder;Ljava/lang/Void;)V" = some ⟨[(.object "java/lang/AbstractStringBuilder"), (.object "java/lang/Void")], none⟩ := by decide +kernel
theorem ef_49_0 (m : MethodId) (x0 : Addr) (x1 : Addr) : entryFrame m #[(.ref x0), (.ref x1)] 2 = mkF m 0 #[.val (.ref x0), .val (.ref x1)] [] := by first | (simp [entryFrame, mkF, argsToLocals, Value.category]; done) | rfl
theorem rm49_0 (l : Launch) (Z : State) (a0 : Array Value) (hw : HW a0 Z) (ws : List Jvm.Cond) (a1 sb vb : Addr) (k : ClassId) (f : Nat → Value) (co : Int32) (vf : Value) (h0 : Heap) (n0 : Nat) (O0 : Old Z n0 h0) (g_a1 : n0 ≤ a1) (E_a1 : Exa Z h0 a1 "java/lang/String") (Fvalue : Fld Z h0 a1 "java/lang/String" "value" "[B" .null) (Fcoder : Fld Z h0 a1 "java/lang/String" "coder" "B" (.int (0 : Int32))) (g_sb : n0 ≤ sb) (Bh : SBF Z h0 sb vb 0 203) (A_vb : AF Z h0 vb k .byte 402 f) (hfb : own_fb 402 f) (SWh : SW Z co vf) :
    MT l y49' c49' 2 none ws ({ frames := 4, cells := 1, slots := 406, locals := 87 } : Room) #[(.ref a1), (.ref sb)] Z h0 (QTS Z a1 f 0 203 h0 n0) := by
  refine MetFree.of_bodySF (plainFor_of_name pn_java_lang_String) hisR ?_
  intro p e s m args below meth kode s₁ Bd hml0 hP hK
  obtain ⟨rfl, hZ, hh⟩ := hP
  have hx := Bd.exec
  have hby := Bd.bytes
  have hb' := @hb _ _ hby
  have hml : kode.maxLocals = 2 := hml0
  have hown : s.vm.findClass "java/lang/String" = some m.cls := findClass_of_methodNamed Bd.named
  have X0 : Stand p l e ({ frames := 4, cells := 1, slots := 406, locals := 87 } : Room) s m #[(.ref a1), (.ref sb)] below meth kode s₁ [] 0 0 := Stand.of_body Bd
  have e0 : s₁.heap = h0 := by rw [← hh, Bd.state]; rfl
  have N0 := Fr.nil n0
  have pre0 : ∀ t, SF p e below s₁ (mkF m 0 #[vr a1, vr sb] []) t → SF p e below s₁ (entryFrame m #[(.ref a1), (.ref sb)] 2) t := fun t k => castTop (ef_49_0 m a1 sb) k
  have SWx := SWh
  obtain ⟨S_CS, hcs, S_AD, S_HI, S_LO, S_SI, hcat_vf⟩ := SWx
  have Bx := Bh
  obtain ⟨E_sb, Fsbv, Fsbc, Fsbn, Fsbm⟩ := Bx
  have cn1 := fun (t : State) (kt : SF p e below s₁ (mkF m 3 #[vr a1, vr sb] [.null, .ref sb, .ref a1]) t) => pre0 t (by
    refine XS.aloadN X0.here hx rfl (hb' d49_0) rfl rfl ?_
    refine XS.aloadN X0.here hx rfl (hb' d49_1) rfl rfl ?_
    exact XS.aconstNull X0.here hx rfl (hb' d49_2) kt)
  obtain ⟨_, _, ⟨T2, L2, k2, n2⟩, -, X2, ⟨Lc2, hQ2, l2, y2, z2⟩, st2⟩ := X0.specialBack hx (y := y48') rfl hown (mvT hZ (wq hw 235 rfl)) (mvT hZ (wq hw 236 rfl)) (mvT hZ (wq hw 237 rfl)) (by decide) (backOf (W := 0) (rm50_0 l Z a0 hw [] a1 sb vb k f co vf h0 n0 O0 g_a1 E_a1 Fvalue Fcoder g_sb ⟨E_sb, Fsbv, Fsbc, Fsbn, Fsbm⟩ A_vb hfb SWh) hZ (wq hw 237 rfl) (wq hw 3 rfl) (by decide) (by decide)) (g := (mkF m 3 #[vr a1, vr sb] [.null, .ref sb, .ref a1])) rfl (by rw [hml]; rfl) (Steps.refl _) (a := a1) (argsL := [(.ref sb), .null]) (rest := []) (lenOf pd_31 rfl) rfl (Nat.le_refl _) (hb' d49_3) (fun _ _ => ⟨rfl, e0, (by decide : 0 + 1 ≤ _), (by decide : 0 + 406 ≤ _)⟩)
  dsimp only [Pt.U, Pt.locs, Pt.cells, Pt.slots] at X2 l2 y2 z2 st2 hQ2
  subst l2 y2 z2
  obtain ⟨r2x, kq2, f2, rfl, Nq2, Kq2, szq2, Ex2, Fv2, Fc2, Aq2, hcp2⟩ := hQ2
  have N2 := Fr.app N0 Nq2
  have sz_r2x : h0.size ≤ r2x := Nat.le_trans (Keep.refl h0 [a1]).1 szq2
  have K2 := Kq2
  have E_a1_e2 := E_a1.keep K2
  have E_sb_e2 := E_sb.keep K2
  have Fsbv_e2 := Fsbv.keep K2 (ninS (Exa.ne E_sb E_a1 (by decide)) nin0)
  have Fsbc_e2 := Fsbc.keep K2 (ninS (Exa.ne E_sb E_a1 (by decide)) nin0)
  have Fsbn_e2 := Fsbn.keep K2 (ninS (Exa.ne E_sb E_a1 (by decide)) nin0)
  have Fsbm_e2 := Fsbm.keep K2 (ninS (Exa.ne E_sb E_a1 (by decide)) nin0)
  have A_vb_e2 := A_vb.keep K2 (ninS (Ne.symm (own_neA E_a1 A_vb (wq hw 2 rfl))) nin0)
  have O2 := O0.keep K2 (allS g_a1 all0)
  have KK2 : Keep h0 T2.heap [a1] := (Keep.refl h0 [a1]).trans K2 (allS (Or.inl (List.mem_of_getElem? (i := 0) rfl)) all0)
  have cn3 := fun (t : State) (kt : SF p e below T2 (mkF m 6 #[vr a1, vr sb] []) t) => cn1 t (by
    exact st2.trans kt)
  obtain ⟨frs, hr, hrun, hended, hW, hsame⟩ := X2.leave (v := none) (fun _ => rfl)
  refine ⟨_, _, cn3 _ ?_, hrun, hended, _, _, rfl, ?_, ⟨_, rfl⟩, hW, hsame.mono (by decide) (by decide)⟩
  · exact X2.returnOut hx Bd.returns (hb' d49_6) hr
  · show QTS Z a1 f 0 203 h0 n0 _ T2.heap _
    exact ⟨r2x, _, _, rfl, N2, KK2, sz_r2x, Ex2, Fv2, Fc2, Aq2, hcp2⟩

theorem d48_0 : DC c50' 0 (.new 18) 3 := by decide +kernel
theorem d48_3 : DC c50' 3 (.dup) 1 := by decide +kernel
theorem d48_4 : DC c50' 4 (.aload_n 0) 1 := by decide +kernel
theorem d48_5 : DC c50' 5 (.invokespecial 137) 3 := by decide +kernel
theorem d48_8 : DC c50' 8 (.areturn) 1 := by decide +kernel
theorem pd_32 : parseMethodDescriptor "(Ljava/lang/StringBuilder;)V" = some ⟨[(.object "java/lang/StringBuilder")], none⟩ := by decide +kernel
theorem ef_48_0 (m : MethodId) (x0 : Addr) : entryFrame m #[(.ref x0)] 1 = mkF m 0 #[.val (.ref x0)] [] := by first | (simp [entryFrame, mkF, argsToLocals, Value.category]; done) | rfl
theorem rm48_0 (l : Launch) (Z : State) (a0 : Array Value) (hw : HW a0 Z) (ws : List Jvm.Cond) (sb vb : Addr) (k : ClassId) (f : Nat → Value) (co : Int32) (vf : Value) (h0 : Heap) (n0 : Nat) (O0 : Old Z n0 h0) (g_sb : n0 ≤ sb) (Bh : SBF Z h0 sb vb 0 203) (A_vb : AF Z h0 vb k .byte 402 f) (hfb : own_fb 402 f) (SWh : SW Z co vf) :
    MT l y50' c50' 1 (some (.object "java/lang/String")) ws ({ frames := 5, cells := 2, slots := 410, locals := 101 } : Room) #[(.ref sb)] Z h0 (QTO Z f 0 203 h0 n0) := by
  refine MetFree.of_bodySF (plainFor_of_name pn_java_lang_StringBuilder) hisR ?_
  intro p e s m args below meth kode s₁ Bd hml0 hP hK
  obtain ⟨rfl, hZ, hh⟩ := hP
  have hx := Bd.exec
  have hby := Bd.bytes
  have hb' := @hb _ _ hby
  have hml : kode.maxLocals = 1 := hml0
  have hown : s.vm.findClass "java/lang/StringBuilder" = some m.cls := findClass_of_methodNamed Bd.named
  have X0 : Stand p l e ({ frames := 5, cells := 2, slots := 410, locals := 101 } : Room) s m #[(.ref sb)] below meth kode s₁ [] 0 0 := Stand.of_body Bd
  have e0 : s₁.heap = h0 := by rw [← hh, Bd.state]; rfl
  have N0 := Fr.nil n0
  have pre0 : ∀ t, SF p e below s₁ (mkF m 0 #[vr sb] []) t → SF p e below s₁ (entryFrame m #[(.ref sb)] 1) t := fun t k => castTop (ef_48_0 m sb) k
  have SWx := SWh
  obtain ⟨S_CS, hcs, S_AD, S_HI, S_LO, S_SI, hcat_vf⟩ := SWx
  have Bx := Bh
  obtain ⟨E_sb, Fsbv, Fsbc, Fsbn, Fsbm⟩ := Bx
  obtain ⟨T1, h1, X1, e1, E1, A1, D1, U1, st1⟩ := newO X0 hx hZ hown (wq hw 231 rfl) (wq hw 2 rfl) (wq hw 3 rfl) e0 (g := (mkF m 0 #[vr sb] [])) rfl (hb' d48_0) (by decide) (by decide)
  obtain ⟨b1, g1⟩ : ∃ z, z = h0.size := ⟨_, rfl⟩
  rw [← g1] at A1 D1 U1 st1
  have ne_sb_b1 : sb ≠ b1 := Nat.ne_of_lt (Nat.lt_of_lt_of_le E_sb.lt (Nat.le_of_eq g1.symm))
  have ne_vb_b1 : vb ≠ b1 := Nat.ne_of_lt (Nat.lt_of_lt_of_le A_vb.lt (Nat.le_of_eq g1.symm))
  have sz_b1 : h0.size ≤ b1 := Nat.le_trans (Keep.refl h0 []).1 (Nat.le_of_eq g1.symm)
  have g_b1 : n0 ≤ b1 := Nat.le_trans (O0.1 ▸ O0.2.1) sz_b1
  have E_sb_e1 := E_sb.ext E1
  have Fsbv_e1 := Fsbv.ext E1
  have Fsbc_e1 := Fsbc.ext E1
  have Fsbn_e1 := Fsbn.ext E1
  have Fsbm_e1 := Fsbm.ext E1
  have A_vb_e1 := A_vb.ext E1
  have O1 := O0.ext E1
  have K1 : Keep h0 h1 [] := (Keep.refl h0 []).ext E1
  have Fvalue_1 : Fld Z h1 b1 "java/lang/String" "value" "[B" .null := D1 (Or.inr (wq hw 16 rfl)) (ty := (.array .byte)) (by decide)
  have Fcoder_1 : Fld Z h1 b1 "java/lang/String" "coder" "B" (.int (0 : Int32)) := D1 (Or.inr (wq hw 17 rfl)) (ty := .byte) (by decide)
  have cn2 := fun (t : State) (kt : SF p e below T1 (mkF m 5 #[vr sb] [.ref sb, .ref b1, .ref b1]) t) => pre0 t (by
    refine st1 _ ?_
    refine XS.dup X1.here hx rfl (hb' d48_3) rfl rfl ?_
    exact XS.aloadN X1.here hx rfl (hb' d48_4) rfl rfl kt)
  obtain ⟨_, _, ⟨T3, L3, k3, n3⟩, -, X3, ⟨Lc3, hQ3, l3, y3, z3⟩, st3⟩ := X1.specialBack hx (y := y49') rfl hown (mvT hZ (wq hw 232 rfl)) (mvT hZ (wq hw 233 rfl)) (mvT hZ (wq hw 234 rfl)) (by decide) (backOf (W := 1) (rm49_0 l Z a0 hw [] b1 sb vb k f co vf h1 n0 O1 g_b1 A1 Fvalue_1 Fcoder_1 g_sb ⟨E_sb_e1, Fsbv_e1, Fsbc_e1, Fsbn_e1, Fsbm_e1⟩ A_vb_e1 hfb SWh) hZ (wq hw 234 rfl) (wq hw 3 rfl) (by decide) (by decide)) (g := (mkF m 5 #[vr sb] [.ref sb, .ref b1, .ref b1])) rfl (by rw [hml]; rfl) (Steps.refl _) (a := b1) (argsL := [(.ref sb)]) (rest := [(.ref b1)]) (lenOf pd_32 rfl) rfl (Nat.le_refl _) (hb' d48_5) (fun _ _ => ⟨rfl, e1, (by decide : 1 + 1 ≤ _), (by decide : 4 + 406 ≤ _)⟩)
  dsimp only [Pt.U, Pt.locs, Pt.cells, Pt.slots] at X3 l3 y3 z3 st3 hQ3
  subst l3 y3 z3
  obtain ⟨r3x, kq3, f3, rfl, Nq3, Kq3, szq3, Ex3, Fv3, Fc3, Aq3, hcp3⟩ := hQ3
  have N3 := Fr.app N0 Nq3
  have sz_r3x : h0.size ≤ r3x := Nat.le_trans K1.1 szq3
  have K3 := Kq3
  have E_sb_e3 := E_sb_e1.keep K3
  have Fsbv_e3 := Fsbv_e1.keep K3 (ninS ne_sb_b1 nin0)
  have Fsbc_e3 := Fsbc_e1.keep K3 (ninS ne_sb_b1 nin0)
  have Fsbn_e3 := Fsbn_e1.keep K3 (ninS ne_sb_b1 nin0)
  have Fsbm_e3 := Fsbm_e1.keep K3 (ninS ne_sb_b1 nin0)
  have A_vb_e3 := A_vb_e1.keep K3 (ninS ne_vb_b1 nin0)
  have A1_e3 := A1.keep K3
  have O3 := O1.keep K3 (allS g_b1 all0)
  have KK3 : Keep h0 T3.heap [] := K1.trans K3 (allS (Or.inr sz_b1) all0)
  have cn4 := fun (t : State) (kt : SF p e below T3 (mkF m 8 #[vr sb] [.ref b1]) t) => cn2 t (by
    exact st3.trans kt)
  obtain ⟨frs, hr, hrun, hended, hW, hsame⟩ := X3.leave (v := some (.ref b1)) (fun h => by rw [Bd.returns] at h; cases h)
  refine ⟨_, _, cn4 _ ?_, hrun, hended, _, _, rfl, ?_, ⟨_, rfl⟩, hW, hsame.mono (by decide) (by decide)⟩
  · jvm_step X3.here [X3.here.top, hx, (hb' d48_8), X3.method', Bd.returns, Value.isRef, FieldType.isReference]
    first | (intro acts; rw [hr _ acts rfl rfl rfl]) | rw [hr _ _ rfl rfl rfl]
    exact Steps.refl _
  · show QTO Z f 0 203 h0 n0 _ T3.heap _
    exact ⟨b1, r3x, _, _, rfl, N3, KK3, sz_b1, sz_r3x, Ex3, Fv3, Fc3, Aq3, hcp3⟩

theorem d50_41 : DC c48' 41 (.getstatic 38) 3 := by decide +kernel
theorem d50_44 : DC c48' 44 (.ifCond .eq 35) 3 := by decide +kernel
theorem d50_47 : DC c48' 47 (.aload_n 1) 1 := by decide +kernel
theorem d50_48 : DC c48' 48 (.getfield 1048) 3 := by decide +kernel
theorem d50_51 : DC c48' 51 (.ifCond .eq 28) 3 := by decide +kernel
theorem d50_79 : DC c48' 79 (.aload_n 0) 1 := by decide +kernel
theorem d50_80 : DC c48' 80 (.iconst 1) 1 := by decide +kernel
theorem d50_81 : DC c48' 81 (.putfield 15) 3 := by decide +kernel
theorem d50_84 : DC c48' 84 (.aload_n 0) 1 := by decide +kernel
theorem d50_85 : DC c48' 85 (.aload_n 3) 1 := by decide +kernel
theorem d50_86 : DC c48' 86 (.iconst 0) 1 := by decide +kernel
theorem d50_87 : DC c48' 87 (.iload 4) 2 := by decide +kernel
theorem d50_89 : DC c48' 89 (.iconst 1) 1 := by decide +kernel
theorem d50_90 : DC c48' 90 (.ishl) 1 := by decide +kernel
theorem d50_91 : DC c48' 91 (.invokestatic 54) 3 := by decide +kernel
theorem d50_94 : DC c48' 94 (.putfield 9) 3 := by decide +kernel
theorem ef_50_1 (m : MethodId) (x0 : Addr) (x1 : Addr) : entryFrame m #[(.ref x0), (.ref x1), .null] 5 = mkF m 0 #[.val (.ref x0), .val (.ref x1), .val .null, .unset, .unset] [] := by first | (simp [entryFrame, mkF, argsToLocals, Value.category]; done) | rfl
theorem rm50_1 (l : Launch) (Z : State) (a0 : Array Value) (hw : HW a0 Z) (ws : List Jvm.Cond) (a1 sb vb : Addr) (k : ClassId) (f : Nat → Value) (co : Int32) (vf : Value) (h0 : Heap) (n0 : Nat) (O0 : Old Z n0 h0) (g_a1 : n0 ≤ a1) (E_a1 : Exa Z h0 a1 "java/lang/String") (Fvalue : Fld Z h0 a1 "java/lang/String" "value" "[B" .null) (Fcoder : Fld Z h0 a1 "java/lang/String" "coder" "B" (.int (0 : Int32))) (g_sb : n0 ≤ sb) (Bh : SBF Z h0 sb vb 1 203) (A_vb : AF Z h0 vb k .byte 804 f) (hfb : own_fb 804 f) (SWh : SW Z co vf) :
    MT l y48' c48' 5 none ws ({ frames := 3, cells := 1, slots := 406, locals := 71 } : Room) #[(.ref a1), (.ref sb), .null] Z h0 (QTS Z a1 f 1 406 h0 n0) := by
  refine MetFree.of_bodySF (plainFor_of_name pn_java_lang_String) hisR ?_
  intro p e s m args below meth kode s₁ Bd hml0 hP hK
  obtain ⟨rfl, hZ, hh⟩ := hP
  have hx := Bd.exec
  have hby := Bd.bytes
  have hb' := @hb _ _ hby
  have hml : kode.maxLocals = 5 := hml0
  have hown : s.vm.findClass "java/lang/String" = some m.cls := findClass_of_methodNamed Bd.named
  have hnm := (name_of_methodNamed Bd.named Bd.method).1
  have X0 : Stand p l e ({ frames := 3, cells := 1, slots := 406, locals := 71 } : Room) s m #[(.ref a1), (.ref sb), .null] below meth kode s₁ [] 0 0 := Stand.of_body Bd
  have e0 : s₁.heap = h0 := by rw [← hh, Bd.state]; rfl
  have N0 := Fr.nil n0
  have pre0 : ∀ t, SF p e below s₁ (mkF m 0 #[vr a1, vr sb, .val .null, .unset, .unset] []) t → SF p e below s₁ (entryFrame m #[(.ref a1), (.ref sb), .null] 5) t := fun t k => castTop (ef_50_1 m a1 sb) k
  have SWx := SWh
  obtain ⟨S_CS, hcs, S_AD, S_HI, S_LO, S_SI, hcat_vf⟩ := SWx
  have Bx := Bh
  obtain ⟨E_sb, Fsbv, Fsbc, Fsbn, Fsbm⟩ := Bx
  have cn1 := fun (t : State) (kt : SF p e below s₁ (mkF m 1 #[vr a1, vr sb, .val .null, .unset, .unset] [.ref a1]) t) => pre0 t (by
    exact XS.aloadN X0.here hx rfl (hb' d50_0) rfl rfl kt)
  obtain ⟨T2, X2, e2, st2⟩ := initO X0 hx hZ hown (wq hw 11 rfl) (wq hw 12 rfl) (wq hw 13 rfl) e0 (g := (mkF m 1 #[vr a1, vr sb, .val .null, .unset, .unset] [.ref a1])) rfl (by rw [hml]; rfl) rfl (hb' d50_1) (by decide) (W := 0) (Nat.le_refl _) (by decide)
  have cn3 := fun (t : State) (kt : SF p e below T2 (mkF m 5 #[vr a1, vr sb, .val .null, .unset, .unset] [.ref sb]) t) => cn1 t (by
    refine st2 _ ?_
    exact XS.aloadN X2.here hx rfl (hb' d50_4) rfl rfl kt)
  obtain ⟨cq4, kq4, q4a, q4b, q4c⟩ := isOf hZ e2 E_sb
  obtain ⟨_, _, ⟨T4, L4, k4, n4⟩, -, X4, ⟨Lc4, hQ4, l4, y4, z4⟩, st4⟩ := X2.virtualBack hx (y := y45') (z := y45') hown (mvT hZ (wq hw 238 rfl)) (mvT hZ (wq hw 239 rfl)) (notFace_of_selects (args := #[]) (mvT hZ (wq hw 241 rfl))) (mvT hZ (wq hw 241 rfl)) (mvT hZ (wq hw 240 rfl)) (by decide) (backOf (W := 0) (rm51 l Z a0 hw [] sb vb h0 n0 O0 Fsbv) hZ (wq hw 242 rfl) (wq hw 82 rfl) (by decide) (by decide)) q4a q4c (g := (mkF m 5 #[vr a1, vr sb, .val .null, .unset, .unset] [.ref sb])) rfl (by rw [hml]; rfl) (Steps.refl _) (argsL := []) (rest := []) (lenOf pd_30 rfl) rfl (Nat.le_refl _) (hb' d50_5) (fun _ _ => ⟨rfl, e2, (by decide : 0 + 0 ≤ _), (by decide : 0 + 0 ≤ _)⟩)
  dsimp only [Pt.U, Pt.locs, Pt.cells, Pt.slots] at X4 l4 y4 z4 st4 hQ4
  subst l4 y4 z4
  obtain ⟨rfl, Nq4, eh4⟩ := hQ4
  have N4 := Fr.app N0 Nq4
  have cn5 := fun (t : State) (kt : SF p e below T4 (mkF m 10 #[vr a1, vr sb, .val .null, vr vb, .unset] [.ref sb]) t) => cn3 t (by
    refine st4.trans ?_
    refine XS.astoreN X4.here hx rfl (hb' d50_8) rfl rfl (l' := #[vr a1, vr sb, .val .null, vr vb, .unset]) rfl ?_
    exact XS.aloadN X4.here hx rfl (hb' d50_9) rfl rfl kt)
  obtain ⟨cq6, kq6, q6a, q6b, q6c⟩ := isOf hZ eh4 E_sb
  obtain ⟨_, _, ⟨T6, L6, k6, n6⟩, -, X6, ⟨Lc6, hQ6, l6, y6, z6⟩, st6⟩ := X4.virtualBack hx (y := y46') (z := y47') hown (mvT hZ (wq hw 243 rfl)) (mvT hZ (wq hw 244 rfl)) (own_nf (args := #[]) (z := y35') (mvT hZ (wq hw 170 rfl)) rfl) (mvT hZ (wq hw 246 rfl)) (mvT hZ (wq hw 247 rfl)) (by decide) (backOf (W := 0) (rm52 l Z a0 hw [] sb h0 n0 O0 E_sb Fsbn) hZ (wq hw 248 rfl) (wq hw 74 rfl) (by decide) (by decide)) q6a q6c (g := (mkF m 10 #[vr a1, vr sb, .val .null, vr vb, .unset] [.ref sb])) rfl (by rw [hml]; rfl) (Steps.refl _) (argsL := []) (rest := []) (lenOf pd_18 rfl) rfl (Nat.le_refl _) (hb' d50_10) (fun _ _ => ⟨rfl, eh4, (by decide : 0 + 0 ≤ _), (by decide : 0 + 0 ≤ _)⟩)
  dsimp only [Pt.U, Pt.locs, Pt.cells, Pt.slots] at X6 l6 y6 z6 st6 hQ6
  subst l6 y6 z6
  obtain ⟨rfl, Nq6, eh6⟩ := hQ6
  have N6 := Fr.app N4 Nq6
  have cn7 := fun (t : State) (kt : SF p e below T6 (mkF m 16 #[vr a1, vr sb, .val .null, vr vb, vi 203] [.ref sb]) t) => cn5 t (by
    refine st6.trans ?_
    refine XS.istore X6.here hx rfl (hb' d50_13) rfl (l' := #[vr a1, vr sb, .val .null, vr vb, vi 203]) rfl ?_
    exact XS.aloadN X6.here hx rfl (hb' d50_15) rfl rfl kt)
  obtain ⟨cq8, kq8, q8a, q8b, q8c⟩ := isOf hZ eh6 E_sb
  obtain ⟨_, _, ⟨T8, L8, k8, n8⟩, -, X8, ⟨Lc8, hQ8, l8, y8, z8⟩, st8⟩ := X6.virtualBack hx (y := y36') (z := y36') hown (mvT hZ (wq hw 251 rfl)) (mvT hZ (wq hw 206 rfl)) (notFace_of_selects (args := #[]) (mvT hZ (wq hw 208 rfl))) (mvT hZ (wq hw 208 rfl)) (mvT hZ (wq hw 207 rfl)) (by decide) (backOf (W := 0) (rm44_1 l Z a0 hw [] sb co vf h0 n0 O0 Fsbc SWh) hZ (wq hw 209 rfl) (wq hw 82 rfl) (by decide) (by decide)) q8a q8c (g := (mkF m 16 #[vr a1, vr sb, .val .null, vr vb, vi 203] [.ref sb])) rfl (by rw [hml]; rfl) (Steps.refl _) (argsL := []) (rest := []) (lenOf pd_20 rfl) rfl (Nat.le_refl _) (hb' d50_16) (fun _ _ => ⟨rfl, eh6, (by decide : 0 + 0 ≤ _), (by decide : 0 + 0 ≤ _)⟩)
  dsimp only [Pt.U, Pt.locs, Pt.cells, Pt.slots] at X8 l8 y8 z8 st8 hQ8
  subst l8 y8 z8
  obtain ⟨rfl, Nq8, eh8⟩ := hQ8
  have N8 := Fr.app N6 Nq8
  have cn9 := fun (t : State) (kt : SF p e below T8 (mkF m 19 #[vr a1, vr sb, .val .null, vr vb, vi 203] [.int 0]) t) => cn7 t (by
    exact st8.trans kt)
  have cn10 := fun (t : State) (kt : SF p e below T8 (mkF m 41 #[vr a1, vr sb, .val .null, vr vb, vi 203] []) t) => cn9 t (by
    exact XS.ifYes X8.here hx rfl (pc0 := 19) (pc' := 41) rfl (hb' d50_19) rfl ((if0 _ _).trans (teq (by decide : (0 : Int32) = (0 : Int32))).1) (by decide) (by decide) kt)
  obtain ⟨T11, X11, e11, st11⟩ := getS2 X8 hx hZ hown (host := "") (Or.inl (wq hw 36 rfl)) Via.refl eh8 (S_CS.ext O0.2) (g := (mkF m 41 #[vr a1, vr sb, .val .null, vr vb, vi 203] [])) rfl (hb' d50_41)
  have cn12 := fun (t : State) (kt : SF p e below T11 (mkF m 44 #[vr a1, vr sb, .val .null, vr vb, vi 203] [.int co]) t) => cn10 t (by
    exact st11 _ kt)
  have cn13 := fun (t : State) (kt : SF p e below T11 (mkF m 48 #[vr a1, vr sb, .val .null, vr vb, vi 203] [.ref sb]) t) => cn12 t (by
    refine XS.ifNo X11.here hx rfl (hb' d50_44) rfl ((if0 _ _).trans (feq hcs).1) ?_
    exact XS.aloadN X11.here hx rfl (hb' d50_47) rfl rfl kt)
  obtain ⟨T14, X14, e14, st14⟩ := getF X11 hx hZ hown (host := "") (Or.inl (wq hw 252 rfl)) Via.refl e11 Fsbm (g := (mkF m 48 #[vr a1, vr sb, .val .null, vr vb, vi 203] [.ref sb])) rfl rfl (hb' d50_48)
  have cn15 := fun (t : State) (kt : SF p e below T14 (mkF m 51 #[vr a1, vr sb, .val .null, vr vb, vi 203] [.int 0]) t) => cn13 t (by
    exact st14 _ kt)
  have cn16 := fun (t : State) (kt : SF p e below T14 (mkF m 81 #[vr a1, vr sb, .val .null, vr vb, vi 203] [.int 1, .ref a1]) t) => cn15 t (by
    refine XS.ifYes X14.here hx rfl (pc0 := 51) (pc' := 79) rfl (hb' d50_51) rfl ((if0 _ _).trans (teq (by decide : (0 : Int32) = (0 : Int32))).1) (by decide) (by decide) ?_
    refine XS.aloadN X14.here hx rfl (hb' d50_79) rfl rfl ?_
    exact XS.iconst X14.here hx rfl (hb' d50_80) kt)
  obtain ⟨T17, h17, X17, e17, W17, st17⟩ := putFN X14 hx hZ hown (wq hw 21 rfl) Via.refl e14 Fcoder E_a1 (Or.inr ⟨(wq hw 17 rfl), rfl, hnm⟩) (wq hw 2 rfl) (ty := .byte) (v' := (.int (1 : Int32))) (by decide) rfl rfl (g := (mkF m 81 #[vr a1, vr sb, .val .null, vr vb, vi 203] [.int 1, .ref a1])) rfl rfl (hb' d50_81)
  have E_a1_e17 := E_a1.wr W17
  have Fvalue_e17 := Fvalue.other W17 (Or.inr (slot_ne (Or.inr (wq hw 16 rfl)) (Or.inr (wq hw 17 rfl)) (by decide) (t := (.array .byte)) (t' := .byte) (by decide) (by decide)))
  have E_sb_e17 := E_sb.wr W17
  have Fsbv_e17 := Fsbv.other W17 (Or.inl (Exa.ne E_sb E_a1 (by decide)))
  have Fsbc_e17 := Fsbc.other W17 (Or.inl (Exa.ne E_sb E_a1 (by decide)))
  have Fsbn_e17 := Fsbn.other W17 (Or.inl (Exa.ne E_sb E_a1 (by decide)))
  have Fsbm_e17 := Fsbm.other W17 (Or.inl (Exa.ne E_sb E_a1 (by decide)))
  have A_vb_e17 := A_vb.other W17 (Ne.symm (own_neA E_a1 A_vb (wq hw 2 rfl)))
  have N17 := Fr.snoc X17 N8 g_a1
  have O17 := O0.wr W17 g_a1
  have K17 : Keep h0 h17 [a1] := (Keep.refl h0 [a1]).wr W17 (Or.inl (List.mem_of_getElem? (i := 0) rfl))
  have Fcoder_17 := Fcoder.same W17
  have cn18 := fun (t : State) (kt : SF p e below T17 (mkF m 91 #[vr a1, vr sb, .val .null, vr vb, vi 203] [.int 406, .int 0, .ref vb, .ref a1]) t) => cn16 t (by
    refine st17 _ ?_
    refine XS.aloadN X17.here hx rfl (hb' d50_84) rfl rfl ?_
    refine XS.aloadN X17.here hx rfl (hb' d50_85) rfl rfl ?_
    refine XS.iconst X17.here hx rfl (hb' d50_86) ?_
    refine XS.iload X17.here hx rfl (hb' d50_87) rfl ?_
    refine XS.iconst X17.here hx rfl (hb' d50_89) ?_
    exact XS.ishl X17.here hx rfl (hb' d50_90) rfl kt)
  obtain ⟨_, _, ⟨T19, L19, k19, n19⟩, -, X19, ⟨Lc19, hQ19, l19, y19, z19⟩, st19⟩ := Jvm.LawKit.callS X17 hx (y := y23') hown (mvT hZ (wq hw 254 rfl)) (mvT hZ (wq hw 132 rfl)) (mvT hZ (wq hw 133 rfl)) (mvT hZ (wq hw 134 rfl)) (by decide) (backOf (W := 1) (rm29 l Z a0 hw [] vb k 804 406 f h17 n0 O17 (by omega) (by omega) (by omega) A_vb_e17 hfb) hZ (wq hw 134 rfl) (wq hw 133 rfl) (by decide) (by decide)) (g := (mkF m 91 #[vr a1, vr sb, .val .null, vr vb, vi 203] [.int 406, .int 0, .ref vb, .ref a1])) rfl (by rw [hml]; rfl) (argsL := [(.ref vb), (.int (0 : Int32)), (.int (406 : Int32))]) (rest := [(.ref a1)]) (lenOf pd_14 rfl) rfl (Nat.le_refl _) (hb' d50_91) (fun _ _ => ⟨rfl, e17, (by decide : 0 + 1 ≤ _), (by decide : 0 + 406 ≤ _)⟩)
  dsimp only [Pt.U, Pt.locs, Pt.cells, Pt.slots] at X19 l19 y19 z19 st19 hQ19
  subst l19 y19 z19
  obtain ⟨r19x, kq19, f19, rfl, Nq19, Kq19, szq19, Aq19, hcp19, hfb19⟩ := hQ19
  have N19 := Fr.app N17 Nq19
  have ne_a1_r19x : a1 ≠ r19x := Nat.ne_of_lt (Nat.lt_of_lt_of_le E_a1_e17.lt szq19)
  have ne_sb_r19x : sb ≠ r19x := Nat.ne_of_lt (Nat.lt_of_lt_of_le E_sb_e17.lt szq19)
  have ne_vb_r19x : vb ≠ r19x := Nat.ne_of_lt (Nat.lt_of_lt_of_le A_vb_e17.lt szq19)
  have sz_r19x : h0.size ≤ r19x := Nat.le_trans K17.1 szq19
  have g_r19x : n0 ≤ r19x := Nat.le_trans (O0.1 ▸ O0.2.1) sz_r19x
  have K19 := Kq19
  have E_a1_e19 := E_a1_e17.keep K19
  have Fvalue_e19 := Fvalue_e17.keep K19 nin0
  have Fcoder_17_e19 := Fcoder_17.keep K19 nin0
  have E_sb_e19 := E_sb_e17.keep K19
  have Fsbv_e19 := Fsbv_e17.keep K19 nin0
  have Fsbc_e19 := Fsbc_e17.keep K19 nin0
  have Fsbn_e19 := Fsbn_e17.keep K19 nin0
  have Fsbm_e19 := Fsbm_e17.keep K19 nin0
  have A_vb_e19 := A_vb_e17.keep K19 nin0
  have O19 := O17.keep K19 all0
  have KK19 : Keep h0 T19.heap [a1] := K17.trans K19 all0
  have cn20 := fun (t : State) (kt : SF p e below T19 (mkF m 94 #[vr a1, vr sb, .val .null, vr vb, vi 203] [.ref r19x, .ref a1]) t) => cn18 t (by
    exact st19 _ kt)
  obtain ⟨T21, h21, X21, e21, W21, st21⟩ := putF X19 hx hZ hown (host := "") (Or.inl (wq hw 20 rfl)) Via.refl rfl Fvalue_e19 E_a1_e19 (Or.inr ⟨(wq hw 16 rfl), rfl, hnm⟩) (wq hw 2 rfl) (ty := (.array .byte)) (by decide) rfl rfl (g := (mkF m 94 #[vr a1, vr sb, .val .null, vr vb, vi 203] [.ref r19x, .ref a1])) rfl rfl (hb' d50_94)
  have E_a1_e21 := E_a1_e19.wr W21
  have Fcoder_17_e21 := Fcoder_17_e19.other W21 (Or.inr (slot_ne (Or.inr (wq hw 17 rfl)) (Or.inr (wq hw 16 rfl)) (by decide) (t := .byte) (t' := (.array .byte)) (by decide) (by decide)))
  have E_sb_e21 := E_sb_e19.wr W21
  have Fsbv_e21 := Fsbv_e19.other W21 (Or.inl (Exa.ne E_sb_e19 E_a1_e19 (by decide)))
  have Fsbc_e21 := Fsbc_e19.other W21 (Or.inl (Exa.ne E_sb_e19 E_a1_e19 (by decide)))
  have Fsbn_e21 := Fsbn_e19.other W21 (Or.inl (Exa.ne E_sb_e19 E_a1_e19 (by decide)))
  have Fsbm_e21 := Fsbm_e19.other W21 (Or.inl (Exa.ne E_sb_e19 E_a1_e19 (by decide)))
  have A_vb_e21 := A_vb_e19.other W21 (Ne.symm (own_neA E_a1_e19 A_vb_e19 (wq hw 2 rfl)))
  have Aq19_e21 := Aq19.other W21 (Ne.symm ne_a1_r19x)
  have N21 := Fr.snoc X21 N19 g_a1
  have O21 := O19.wr W21 g_a1
  have K21 : Keep h0 h21 [a1] := KK19.wr W21 (Or.inl (List.mem_of_getElem? (i := 0) rfl))
  have Fvalue_21 := Fvalue_e19.same W21
  have cn22 := fun (t : State) (kt : SF p e below T21 (mkF m 97 #[vr a1, vr sb, .val .null, vr vb, vi 203] []) t) => cn20 t (by
    exact st21 _ kt)
  obtain ⟨frs, hr, hrun, hended, hW, hsame⟩ := X21.leave (v := none) (fun _ => rfl)
  refine ⟨_, _, cn22 _ ?_, hrun, hended, _, _, rfl, ?_, ⟨_, rfl⟩, hW, hsame.mono (by decide) (by decide)⟩
  · exact X21.returnOut hx Bd.returns (hb' d50_97) hr
  · show QTS Z a1 f 1 406 h0 n0 _ T21.heap _
    rw [e21]
    exact ⟨r19x, _, _, rfl, N21, K21, sz_r19x, E_a1_e21, Fvalue_21, Fcoder_17_e21, Aq19_e21, hcp19⟩

theorem ef_49_1 (m : MethodId) (x0 : Addr) (x1 : Addr) : entryFrame m #[(.ref x0), (.ref x1)] 2 = mkF m 0 #[.val (.ref x0), .val (.ref x1)] [] := by first | (simp [entryFrame, mkF, argsToLocals, Value.category]; done) | rfl
theorem rm49_1 (l : Launch) (Z : State) (a0 : Array Value) (hw : HW a0 Z) (ws : List Jvm.Cond) (a1 sb vb : Addr) (k : ClassId) (f : Nat → Value) (co : Int32) (vf : Value) (h0 : Heap) (n0 : Nat) (O0 : Old Z n0 h0) (g_a1 : n0 ≤ a1) (E_a1 : Exa Z h0 a1 "java/lang/String") (Fvalue : Fld Z h0 a1 "java/lang/String" "value" "[B" .null) (Fcoder : Fld Z h0 a1 "java/lang/String" "coder" "B" (.int (0 : Int32))) (g_sb : n0 ≤ sb) (Bh : SBF Z h0 sb vb 1 203) (A_vb : AF Z h0 vb k .byte 804 f) (hfb : own_fb 804 f) (SWh : SW Z co vf) :
    MT l y49' c49' 2 none ws ({ frames := 4, cells := 1, slots := 406, locals := 87 } : Room) #[(.ref a1), (.ref sb)] Z h0 (QTS Z a1 f 1 406 h0 n0) := by
  refine MetFree.of_bodySF (plainFor_of_name pn_java_lang_String) hisR ?_
  intro p e s m args below meth kode s₁ Bd hml0 hP hK
  obtain ⟨rfl, hZ, hh⟩ := hP
  have hx := Bd.exec
  have hby := Bd.bytes
  have hb' := @hb _ _ hby
  have hml : kode.maxLocals = 2 := hml0
  have hown : s.vm.findClass "java/lang/String" = some m.cls := findClass_of_methodNamed Bd.named
  have X0 : Stand p l e ({ frames := 4, cells := 1, slots := 406, locals := 87 } : Room) s m #[(.ref a1), (.ref sb)] below meth kode s₁ [] 0 0 := Stand.of_body Bd
  have e0 : s₁.heap = h0 := by rw [← hh, Bd.state]; rfl
  have N0 := Fr.nil n0
  have pre0 : ∀ t, SF p e below s₁ (mkF m 0 #[vr a1, vr sb] []) t → SF p e below s₁ (entryFrame m #[(.ref a1), (.ref sb)] 2) t := fun t k => castTop (ef_49_1 m a1 sb) k
  have SWx := SWh
  obtain ⟨S_CS, hcs, S_AD, S_HI, S_LO, S_SI, hcat_vf⟩ := SWx
  have Bx := Bh
  obtain ⟨E_sb, Fsbv, Fsbc, Fsbn, Fsbm⟩ := Bx
  have cn1 := fun (t : State) (kt : SF p e below s₁ (mkF m 3 #[vr a1, vr sb] [.null, .ref sb, .ref a1]) t) => pre0 t (by
    refine XS.aloadN X0.here hx rfl (hb' d49_0) rfl rfl ?_
    refine XS.aloadN X0.here hx rfl (hb' d49_1) rfl rfl ?_
    exact XS.aconstNull X0.here hx rfl (hb' d49_2) kt)
  obtain ⟨_, _, ⟨T2, L2, k2, n2⟩, -, X2, ⟨Lc2, hQ2, l2, y2, z2⟩, st2⟩ := X0.specialBack hx (y := y48') rfl hown (mvT hZ (wq hw 235 rfl)) (mvT hZ (wq hw 236 rfl)) (mvT hZ (wq hw 237 rfl)) (by decide) (backOf (W := 0) (rm50_1 l Z a0 hw [] a1 sb vb k f co vf h0 n0 O0 g_a1 E_a1 Fvalue Fcoder g_sb ⟨E_sb, Fsbv, Fsbc, Fsbn, Fsbm⟩ A_vb hfb SWh) hZ (wq hw 237 rfl) (wq hw 3 rfl) (by decide) (by decide)) (g := (mkF m 3 #[vr a1, vr sb] [.null, .ref sb, .ref a1])) rfl (by rw [hml]; rfl) (Steps.refl _) (a := a1) (argsL := [(.ref sb), .null]) (rest := []) (lenOf pd_31 rfl) rfl (Nat.le_refl _) (hb' d49_3) (fun _ _ => ⟨rfl, e0, (by decide : 0 + 1 ≤ _), (by decide : 0 + 406 ≤ _)⟩)
  dsimp only [Pt.U, Pt.locs, Pt.cells, Pt.slots] at X2 l2 y2 z2 st2 hQ2
  subst l2 y2 z2
  obtain ⟨r2x, kq2, f2, rfl, Nq2, Kq2, szq2, Ex2, Fv2, Fc2, Aq2, hcp2⟩ := hQ2
  have N2 := Fr.app N0 Nq2
  have sz_r2x : h0.size ≤ r2x := Nat.le_trans (Keep.refl h0 [a1]).1 szq2
  have K2 := Kq2
  have E_a1_e2 := E_a1.keep K2
  have E_sb_e2 := E_sb.keep K2
  have Fsbv_e2 := Fsbv.keep K2 (ninS (Exa.ne E_sb E_a1 (by decide)) nin0)
  have Fsbc_e2 := Fsbc.keep K2 (ninS (Exa.ne E_sb E_a1 (by decide)) nin0)
  have Fsbn_e2 := Fsbn.keep K2 (ninS (Exa.ne E_sb E_a1 (by decide)) nin0)
  have Fsbm_e2 := Fsbm.keep K2 (ninS (Exa.ne E_sb E_a1 (by decide)) nin0)
  have A_vb_e2 := A_vb.keep K2 (ninS (Ne.symm (own_neA E_a1 A_vb (wq hw 2 rfl))) nin0)
  have O2 := O0.keep K2 (allS g_a1 all0)
  have KK2 : Keep h0 T2.heap [a1] := (Keep.refl h0 [a1]).trans K2 (allS (Or.inl (List.mem_of_getElem? (i := 0) rfl)) all0)
  have cn3 := fun (t : State) (kt : SF p e below T2 (mkF m 6 #[vr a1, vr sb] []) t) => cn1 t (by
    exact st2.trans kt)
  obtain ⟨frs, hr, hrun, hended, hW, hsame⟩ := X2.leave (v := none) (fun _ => rfl)
  refine ⟨_, _, cn3 _ ?_, hrun, hended, _, _, rfl, ?_, ⟨_, rfl⟩, hW, hsame.mono (by decide) (by decide)⟩
  · exact X2.returnOut hx Bd.returns (hb' d49_6) hr
  · show QTS Z a1 f 1 406 h0 n0 _ T2.heap _
    exact ⟨r2x, _, _, rfl, N2, KK2, sz_r2x, Ex2, Fv2, Fc2, Aq2, hcp2⟩

theorem ef_48_1 (m : MethodId) (x0 : Addr) : entryFrame m #[(.ref x0)] 1 = mkF m 0 #[.val (.ref x0)] [] := by first | (simp [entryFrame, mkF, argsToLocals, Value.category]; done) | rfl
theorem rm48_1 (l : Launch) (Z : State) (a0 : Array Value) (hw : HW a0 Z) (ws : List Jvm.Cond) (sb vb : Addr) (k : ClassId) (f : Nat → Value) (co : Int32) (vf : Value) (h0 : Heap) (n0 : Nat) (O0 : Old Z n0 h0) (g_sb : n0 ≤ sb) (Bh : SBF Z h0 sb vb 1 203) (A_vb : AF Z h0 vb k .byte 804 f) (hfb : own_fb 804 f) (SWh : SW Z co vf) :
    MT l y50' c50' 1 (some (.object "java/lang/String")) ws ({ frames := 5, cells := 2, slots := 410, locals := 101 } : Room) #[(.ref sb)] Z h0 (QTO Z f 1 406 h0 n0) := by
  refine MetFree.of_bodySF (plainFor_of_name pn_java_lang_StringBuilder) hisR ?_
  intro p e s m args below meth kode s₁ Bd hml0 hP hK
  obtain ⟨rfl, hZ, hh⟩ := hP
  have hx := Bd.exec
  have hby := Bd.bytes
  have hb' := @hb _ _ hby
  have hml : kode.maxLocals = 1 := hml0
  have hown : s.vm.findClass "java/lang/StringBuilder" = some m.cls := findClass_of_methodNamed Bd.named
  have X0 : Stand p l e ({ frames := 5, cells := 2, slots := 410, locals := 101 } : Room) s m #[(.ref sb)] below meth kode s₁ [] 0 0 := Stand.of_body Bd
  have e0 : s₁.heap = h0 := by rw [← hh, Bd.state]; rfl
  have N0 := Fr.nil n0
  have pre0 : ∀ t, SF p e below s₁ (mkF m 0 #[vr sb] []) t → SF p e below s₁ (entryFrame m #[(.ref sb)] 1) t := fun t k => castTop (ef_48_1 m sb) k
  have SWx := SWh
  obtain ⟨S_CS, hcs, S_AD, S_HI, S_LO, S_SI, hcat_vf⟩ := SWx
  have Bx := Bh
  obtain ⟨E_sb, Fsbv, Fsbc, Fsbn, Fsbm⟩ := Bx
  obtain ⟨T1, h1, X1, e1, E1, A1, D1, U1, st1⟩ := newO X0 hx hZ hown (wq hw 231 rfl) (wq hw 2 rfl) (wq hw 3 rfl) e0 (g := (mkF m 0 #[vr sb] [])) rfl (hb' d48_0) (by decide) (by decide)
  obtain ⟨b1, g1⟩ : ∃ z, z = h0.size := ⟨_, rfl⟩
  rw [← g1] at A1 D1 U1 st1
  have ne_sb_b1 : sb ≠ b1 := Nat.ne_of_lt (Nat.lt_of_lt_of_le E_sb.lt (Nat.le_of_eq g1.symm))
  have ne_vb_b1 : vb ≠ b1 := Nat.ne_of_lt (Nat.lt_of_lt_of_le A_vb.lt (Nat.le_of_eq g1.symm))
  have sz_b1 : h0.size ≤ b1 := Nat.le_trans (Keep.refl h0 []).1 (Nat.le_of_eq g1.symm)
  have g_b1 : n0 ≤ b1 := Nat.le_trans (O0.1 ▸ O0.2.1) sz_b1
  have E_sb_e1 := E_sb.ext E1
  have Fsbv_e1 := Fsbv.ext E1
  have Fsbc_e1 := Fsbc.ext E1
  have Fsbn_e1 := Fsbn.ext E1
  have Fsbm_e1 := Fsbm.ext E1
  have A_vb_e1 := A_vb.ext E1
  have O1 := O0.ext E1
  have K1 : Keep h0 h1 [] := (Keep.refl h0 []).ext E1
  have Fvalue_1 : Fld Z h1 b1 "java/lang/String" "value" "[B" .null := D1 (Or.inr (wq hw 16 rfl)) (ty := (.array .byte)) (by decide)
  have Fcoder_1 : Fld Z h1 b1 "java/lang/String" "coder" "B" (.int (0 : Int32)) := D1 (Or.inr (wq hw 17 rfl)) (ty := .byte) (by decide)
  have cn2 := fun (t : State) (kt : SF p e below T1 (mkF m 5 #[vr sb] [.ref sb, .ref b1, .ref b1]) t) => pre0 t (by
    refine st1 _ ?_
    refine XS.dup X1.here hx rfl (hb' d48_3) rfl rfl ?_
    exact XS.aloadN X1.here hx rfl (hb' d48_4) rfl rfl kt)
  obtain ⟨_, _, ⟨T3, L3, k3, n3⟩, -, X3, ⟨Lc3, hQ3, l3, y3, z3⟩, st3⟩ := X1.specialBack hx (y := y49') rfl hown (mvT hZ (wq hw 232 rfl)) (mvT hZ (wq hw 233 rfl)) (mvT hZ (wq hw 234 rfl)) (by decide) (backOf (W := 1) (rm49_1 l Z a0 hw [] b1 sb vb k f co vf h1 n0 O1 g_b1 A1 Fvalue_1 Fcoder_1 g_sb ⟨E_sb_e1, Fsbv_e1, Fsbc_e1, Fsbn_e1, Fsbm_e1⟩ A_vb_e1 hfb SWh) hZ (wq hw 234 rfl) (wq hw 3 rfl) (by decide) (by decide)) (g := (mkF m 5 #[vr sb] [.ref sb, .ref b1, .ref b1])) rfl (by rw [hml]; rfl) (Steps.refl _) (a := b1) (argsL := [(.ref sb)]) (rest := [(.ref b1)]) (lenOf pd_32 rfl) rfl (Nat.le_refl _) (hb' d48_5) (fun _ _ => ⟨rfl, e1, (by decide : 1 + 1 ≤ _), (by decide : 4 + 406 ≤ _)⟩)
  dsimp only [Pt.U, Pt.locs, Pt.cells, Pt.slots] at X3 l3 y3 z3 st3 hQ3
  subst l3 y3 z3
  obtain ⟨r3x, kq3, f3, rfl, Nq3, Kq3, szq3, Ex3, Fv3, Fc3, Aq3, hcp3⟩ := hQ3
  have N3 := Fr.app N0 Nq3
  have sz_r3x : h0.size ≤ r3x := Nat.le_trans K1.1 szq3
  have K3 := Kq3
  have E_sb_e3 := E_sb_e1.keep K3
  have Fsbv_e3 := Fsbv_e1.keep K3 (ninS ne_sb_b1 nin0)
  have Fsbc_e3 := Fsbc_e1.keep K3 (ninS ne_sb_b1 nin0)
  have Fsbn_e3 := Fsbn_e1.keep K3 (ninS ne_sb_b1 nin0)
  have Fsbm_e3 := Fsbm_e1.keep K3 (ninS ne_sb_b1 nin0)
  have A_vb_e3 := A_vb_e1.keep K3 (ninS ne_vb_b1 nin0)
  have A1_e3 := A1.keep K3
  have O3 := O1.keep K3 (allS g_b1 all0)
  have KK3 : Keep h0 T3.heap [] := K1.trans K3 (allS (Or.inr sz_b1) all0)
  have cn4 := fun (t : State) (kt : SF p e below T3 (mkF m 8 #[vr sb] [.ref b1]) t) => cn2 t (by
    exact st3.trans kt)
  obtain ⟨frs, hr, hrun, hended, hW, hsame⟩ := X3.leave (v := some (.ref b1)) (fun h => by rw [Bd.returns] at h; cases h)
  refine ⟨_, _, cn4 _ ?_, hrun, hended, _, _, rfl, ?_, ⟨_, rfl⟩, hW, hsame.mono (by decide) (by decide)⟩
  · jvm_step X3.here [X3.here.top, hx, (hb' d48_8), X3.method', Bd.returns, Value.isRef, FieldType.isReference]
    first | (intro acts; rw [hr _ acts rfl rfl rfl]) | rw [hr _ _ rfl rfl rfl]
    exact Steps.refl _
  · show QTO Z f 1 406 h0 n0 _ T3.heap _
    exact ⟨b1, r3x, _, _, rfl, N3, KK3, sz_b1, sz_r3x, Ex3, Fv3, Fc3, Aq3, hcp3⟩

theorem own_UU {cs : List Int32} {f g : Nat → Value} (h : own_U cs f) (h' : own_U cs g) : ∀ j, j < 2 * cs.length → ∃ x : Int32, f j = .int x ∧ g j = .int x := fun j hj => by
  obtain ⟨q1, q2⟩ := h (j / 2) (by omega)
  obtain ⟨r1, r2⟩ := h' (j / 2) (by omega)
  rcases Nat.mod_two_eq_zero_or_one j with e | e
  · rw [show 2 * (j / 2) = j by omega] at q1 r1
    exact ⟨_, q1, r1⟩
  · rw [show 2 * (j / 2) + 1 = j by omega] at q2 r2
    exact ⟨_, q2, r2⟩
theorem own_LL {cs : List Int32} {f g : Nat → Value} (h : own_L cs f) (h' : own_L cs g) : ∀ j, j < cs.length → ∃ x : Int32, f j = .int x ∧ g j = .int x := fun j hj => ⟨_, (h j hj).1, (h' j hj).1⟩
theorem own_LU {cs : List Int32} {f g : Nat → Value} (h : own_L cs f) (h' : own_UC cs g) : False := by
  obtain ⟨i, hi, hg⟩ := h'.2
  have q := (h i hi).2
  rw [Int32.lt_iff_toInt_lt] at hg
  have e : (255 : Int32).toInt = 255 := by decide
  omega

theorem d54_0 : DC c51' 0 (.aload_n 0) 1 := by decide +kernel
theorem d54_1 : DC c51' 1 (.arraylength) 1 := by decide +kernel
theorem d54_2 : DC c51' 2 (.aload_n 1) 1 := by decide +kernel
theorem d54_3 : DC c51' 3 (.arraylength) 1 := by decide +kernel
theorem d54_4 : DC c51' 4 (.if_icmp .ne 30) 3 := by decide +kernel
theorem d54_7 : DC c51' 7 (.iconst 0) 1 := by decide +kernel
theorem d54_8 : DC c51' 8 (.istore_n 2) 1 := by decide +kernel
theorem d54_9 : DC c51' 9 (.iload_n 2) 1 := by decide +kernel
theorem d54_10 : DC c51' 10 (.aload_n 0) 1 := by decide +kernel
theorem d54_11 : DC c51' 11 (.arraylength) 1 := by decide +kernel
theorem d54_12 : DC c51' 12 (.if_icmp .ge 20) 3 := by decide +kernel
theorem d54_15 : DC c51' 15 (.aload_n 0) 1 := by decide +kernel
theorem d54_16 : DC c51' 16 (.iload_n 2) 1 := by decide +kernel
theorem d54_17 : DC c51' 17 (.baload) 1 := by decide +kernel
theorem d54_18 : DC c51' 18 (.aload_n 1) 1 := by decide +kernel
theorem d54_19 : DC c51' 19 (.iload_n 2) 1 := by decide +kernel
theorem d54_20 : DC c51' 20 (.baload) 1 := by decide +kernel
theorem d54_21 : DC c51' 21 (.if_icmp .eq 5) 3 := by decide +kernel
theorem d54_26 : DC c51' 26 (.iinc 2 1) 3 := by decide +kernel
theorem d54_29 : DC c51' 29 (.goto (-20)) 3 := by decide +kernel
theorem d54_32 : DC c51' 32 (.iconst 1) 1 := by decide +kernel
theorem d54_33 : DC c51' 33 (.ireturn) 1 := by decide +kernel
theorem ef_54 (m : MethodId) (x0 : Addr) (x1 : Addr) : entryFrame m #[(.ref x0), (.ref x1)] 3 = mkF m 0 #[.val (.ref x0), .val (.ref x1), .unset] [] := by first | (simp [entryFrame, mkF, argsToLocals, Value.category]; done) | rfl
theorem rm54 (l : Launch) (Z : State) (a0 : Array Value) (hw : HW a0 Z) (ws : List Jvm.Cond) (aa ab : Addr) (k k' : ClassId) (n : Nat) (f g : Nat → Value) (h0 : Heap) (n0 : Nat) (O0 : Old Z n0 h0) (hm : n ≤ 804) (hfg : ∀ j, j < n → ∃ x : Int32, f j = .int x ∧ g j = .int x) (A_a : AF Z h0 aa k .byte n f) (A_b : AF Z h0 ab k' .byte n g) :
    MT l y51' c51' 3 (some .boolean) ws ({ frames := 0, cells := 0, slots := 0, locals := 0 } : Room) #[(.ref aa), (.ref ab)] Z h0 (QI 1 h0 n0) := by
  refine MetFree.of_bodySF (plainFor_of_name pn_java_lang_StringLatin1) hisR ?_
  intro p e s m args below meth kode s₁ Bd hml0 hP hK
  obtain ⟨rfl, hZ, hh⟩ := hP
  have hx := Bd.exec
  have hby := Bd.bytes
  have hb' := @hb _ _ hby
  have hml : kode.maxLocals = 3 := hml0
  have hown : s.vm.findClass "java/lang/StringLatin1" = some m.cls := findClass_of_methodNamed Bd.named
  have X0 : Stand p l e ({ frames := 0, cells := 0, slots := 0, locals := 0 } : Room) s m #[(.ref aa), (.ref ab)] below meth kode s₁ [] 0 0 := Stand.of_body Bd
  have e0 : s₁.heap = h0 := by rw [← hh, Bd.state]; rfl
  have N0 := Fr.nil n0
  have pre0 : ∀ t, SF p e below s₁ (mkF m 0 #[vr aa, vr ab, .unset] []) t → SF p e below s₁ (entryFrame m #[(.ref aa), (.ref ab)] 3) t := fun t k => castTop (ef_54 m aa ab) k
  have cn1 := fun (t : State) (kt : SF p e below s₁ (mkF m 1 #[vr aa, vr ab, .unset] [.ref aa]) t) => pre0 t (by
    exact XS.aloadN X0.here hx rfl (hb' d54_0) rfl rfl kt)
  have AFx2 := A_a
  obtain ⟨cl2, Ar2, q2, S2, H2⟩ := AFx2
  have cn3 := fun (t : State) (kt : SF p e below s₁ (mkF m 3 #[vr aa, vr ab, .unset] [.ref ab, .int (Nat.toInt32 n)]) t) => cn1 t (by
    refine X0.arraylength hx (by rw [e0]; exact Ar2.1) (State.isArrayOf_alike hZ.alike Ar2.2.1) (g := (mkF m 1 #[vr aa, vr ab, .unset] [.ref aa])) rfl rfl (hb' d54_1) _ ?_
    rw [S2]
    exact XS.aloadN X0.here hx rfl (hb' d54_2) rfl rfl kt)
  have AFx4 := A_b
  obtain ⟨cl4, Ar4, q4, S4, H4⟩ := AFx4
  have cn5 := fun (t : State) (kt : SF p e below s₁ (mkF m 4 #[vr aa, vr ab, .unset] [.int (Nat.toInt32 n), .int (Nat.toInt32 n)]) t) => cn3 t (by
    refine X0.arraylength hx (by rw [e0]; exact Ar4.1) (State.isArrayOf_alike hZ.alike Ar4.2.1) (g := (mkF m 3 #[vr aa, vr ab, .unset] [.ref ab, .int (Nat.toInt32 n)])) rfl rfl (hb' d54_3) _ ?_
    rw [S4]
    exact kt)
  have cn6 := fun (t : State) (kt : SF p e below s₁ (mkF m 9 #[vr aa, vr ab, vi 0] []) t) => cn5 t (by
    refine XS.icmpNo X0.here hx rfl (hb' d54_4) rfl (teq (rfl : (Nat.toInt32 n) = (Nat.toInt32 n))).2 ?_
    refine XS.iconst X0.here hx rfl (hb' d54_7) ?_
    exact XS.istoreN X0.here hx rfl (hb' d54_8) rfl (l' := #[vr aa, vr ab, vi 0]) rfl kt)
  refine own_loop (A := fun kk => ∃ (TJ : State) (hJ : Heap) (lJ : List Loc) (i : Nat), Stand p l e ({ frames := 0, cells := 0, slots := 0, locals := 0 } : Room) s m #[(.ref aa), (.ref ab)] below meth kode TJ lJ 0 0 ∧ TJ.heap = hJ ∧ Fr n0 lJ ∧ Old Z n0 hJ ∧ Keep h0 hJ [] ∧ (i + kk = n) ∧ (AF Z hJ aa k .byte n f) ∧ (AF Z hJ ab k' .byte n g) ∧ (hJ = h0) ∧ ∀ t, SF p e below TJ (mkF m 9 #[vr aa, vr ab, vi (Nat.toInt32 i)] []) t → SF p e below s₁ (entryFrame m #[(.ref aa), (.ref ab)] 3) t) ?_ ?_ (n) ?_
  · intro kk7 IH7
    rintro ⟨TJ8, hJ8, lJ8, i, XJ8, eJ8, NJ8, OJ8, KJ8, hik, Aa, Ab, hh0, kJ_8⟩
    have hil : i < n := by omega
    obtain ⟨xq, hxa, hxb⟩ := hfg i hil
    have cn9 := fun (t : State) (kt : SF p e below TJ8 (mkF m 11 #[vr aa, vr ab, vi (Nat.toInt32 i)] [.ref aa, .int (Nat.toInt32 i)]) t) => kJ_8 t (by
      refine XS.iloadN XJ8.here hx rfl (hb' d54_9) rfl ?_
      exact XS.aloadN XJ8.here hx rfl (hb' d54_10) rfl rfl kt)
    have AFx10 := Aa
    obtain ⟨cl10, Ar10, q10, S10, H10⟩ := AFx10
    have cn11 := fun (t : State) (kt : SF p e below TJ8 (mkF m 12 #[vr aa, vr ab, vi (Nat.toInt32 i)] [.int (Nat.toInt32 n), .int (Nat.toInt32 i)]) t) => cn9 t (by
      refine XJ8.arraylength hx (by rw [eJ8]; exact Ar10.1) (State.isArrayOf_alike hZ.alike Ar10.2.1) (g := (mkF m 11 #[vr aa, vr ab, vi (Nat.toInt32 i)] [.ref aa, .int (Nat.toInt32 i)])) rfl rfl (hb' d54_11) _ ?_
      rw [S10]
      exact kt)
    have cn12 := fun (t : State) (kt : SF p e below TJ8 (mkF m 17 #[vr aa, vr ab, vi (Nat.toInt32 i)] [.int (Nat.toInt32 i), .ref aa]) t) => cn11 t (by
      refine XS.icmpNo XJ8.here hx rfl (hb' d54_12) rfl (tlt ((own_lt (by omega) (by omega)).mpr hil)).2.1 ?_
      refine XS.aloadN XJ8.here hx rfl (hb' d54_15) rfl rfl ?_
      exact XS.iloadN XJ8.here hx rfl (hb' d54_16) rfl kt)
    have AFx13 := Aa
    obtain ⟨cl13, Ar13, q13, S13, H13⟩ := AFx13
    have hin13 : ¬ ((Nat.toInt32 i) < 0 ∨ cl13.slots.size ≤ ((Nat.toInt32 i)).toNatClampNeg) := AF.inb S13 (own_ix (by omega)) hil
    have hat13 : cl13.slots[((Nat.toInt32 i)).toNatClampNeg]? = some (.int xq) := AF.at H13 (own_ix (by omega)) hil hxa
    have cn14 := fun (t : State) (kt : SF p e below TJ8 (mkF m 20 #[vr aa, vr ab, vi (Nat.toInt32 i)] [.int (Nat.toInt32 i), .ref ab, .int xq]) t) => cn12 t (by
      refine XJ8.baloadBytes hx (j := (Nat.toInt32 i)) (v := (.int xq)) (by rw [eJ8]; exact Ar13.1) (State.isArrayOf_alike hZ.alike Ar13.2.1) Ar13.2.2 hin13 hat13 (g := (mkF m 17 #[vr aa, vr ab, vi (Nat.toInt32 i)] [.int (Nat.toInt32 i), .ref aa])) rfl rfl (hb' d54_17) _ ?_
      refine XS.aloadN XJ8.here hx rfl (hb' d54_18) rfl rfl ?_
      exact XS.iloadN XJ8.here hx rfl (hb' d54_19) rfl kt)
    have AFx15 := Ab
    obtain ⟨cl15, Ar15, q15, S15, H15⟩ := AFx15
    have hin15 : ¬ ((Nat.toInt32 i) < 0 ∨ cl15.slots.size ≤ ((Nat.toInt32 i)).toNatClampNeg) := AF.inb S15 (own_ix (by omega)) hil
    have hat15 : cl15.slots[((Nat.toInt32 i)).toNatClampNeg]? = some (.int xq) := AF.at H15 (own_ix (by omega)) hil hxb
    have cn16 := fun (t : State) (kt : SF p e below TJ8 (mkF m 21 #[vr aa, vr ab, vi (Nat.toInt32 i)] [.int xq, .int xq]) t) => cn14 t (by
      exact XJ8.baloadBytes hx (j := (Nat.toInt32 i)) (v := (.int xq)) (by rw [eJ8]; exact Ar15.1) (State.isArrayOf_alike hZ.alike Ar15.2.1) Ar15.2.2 hin15 hat15 (g := (mkF m 20 #[vr aa, vr ab, vi (Nat.toInt32 i)] [.int (Nat.toInt32 i), .ref ab, .int xq])) rfl rfl (hb' d54_20) _ kt)
    have cn17 := fun (t : State) (kt : SF p e below TJ8 (mkF m 29 #[vr aa, vr ab, vi ((Nat.toInt32 i) + (1 : Int32))] []) t) => cn16 t (by
      refine XS.icmpYes XJ8.here hx rfl (pc0 := 21) (pc' := 26) rfl (hb' d54_21) rfl (teq (rfl : xq = xq)).1 (by decide) (by decide) ?_
      exact XS.iinc XJ8.here hx rfl (hb' d54_26) rfl (l' := #[vr aa, vr ab, vi ((Nat.toInt32 i) + (1 : Int32))]) rfl kt)
    have cn18 : ∀ t, SF p e below TJ8 (mkF m 29 #[vr aa, vr ab, vi (Nat.toInt32 (i + 1))] []) t → SF p e below s₁ (entryFrame m #[(.ref aa), (.ref ab)] 3) t := by have q := cn17; rw [(id (own_inc (by omega)) : ((Nat.toInt32 i) + (1 : Int32)) = (Nat.toInt32 (i + 1)))] at q; exact q
    have cn19 := fun (t : State) (kt : SF p e below TJ8 (mkF m 9 #[vr aa, vr ab, vi (Nat.toInt32 (i + 1))] []) t) => cn18 t (by
      exact XS.goto XJ8.here hx rfl (pc0 := 29) (pc' := 9) rfl (hb' d54_29) (by decide) (by decide) kt)
    exact IH7 ⟨TJ8, hJ8, _, i + 1, own_up XJ8 (by decide) (by decide), eJ8, NJ8, OJ8, KJ8, (by omega), Aa, Ab, hh0, cn19⟩
  · rintro ⟨TJ20, hJ20, lJ20, i, XJ20, eJ20, NJ20, OJ20, KJ20, hik, Aa, Ab, hh0, kJ_20⟩
    obtain rfl : i = n := by omega
    have cn21 := fun (t : State) (kt : SF p e below TJ20 (mkF m 11 #[vr aa, vr ab, vi (Nat.toInt32 i)] [.ref aa, .int (Nat.toInt32 i)]) t) => kJ_20 t (by
      refine XS.iloadN XJ20.here hx rfl (hb' d54_9) rfl ?_
      exact XS.aloadN XJ20.here hx rfl (hb' d54_10) rfl rfl kt)
    have AFx22 := Aa
    obtain ⟨cl22, Ar22, q22, S22, H22⟩ := AFx22
    have cn23 := fun (t : State) (kt : SF p e below TJ20 (mkF m 12 #[vr aa, vr ab, vi (Nat.toInt32 i)] [.int (Nat.toInt32 i), .int (Nat.toInt32 i)]) t) => cn21 t (by
      refine XJ20.arraylength hx (by rw [eJ20]; exact Ar22.1) (State.isArrayOf_alike hZ.alike Ar22.2.1) (g := (mkF m 11 #[vr aa, vr ab, vi (Nat.toInt32 i)] [.ref aa, .int (Nat.toInt32 i)])) rfl rfl (hb' d54_11) _ ?_
      rw [S22]
      exact kt)
    have cn24 := fun (t : State) (kt : SF p e below TJ20 (mkF m 33 #[vr aa, vr ab, vi (Nat.toInt32 i)] [.int 1]) t) => cn23 t (by
      refine XS.icmpYes XJ20.here hx rfl (pc0 := 12) (pc' := 32) rfl (hb' d54_12) rfl (flt (fun q => Nat.lt_irrefl _ ((own_lt (by omega) (by omega)).mp q))).2.1 (by decide) (by decide) ?_
      exact XS.iconst XJ20.here hx rfl (hb' d54_32) kt)
    obtain ⟨frs, hr, hrun, hended, hW, hsame⟩ := XJ20.leave (v := some (.int (1 : Int32))) (fun h => by rw [Bd.returns] at h; cases h)
    refine ⟨_, _, cn24 _ ?_, hrun, hended, _, _, rfl, ?_, ⟨_, rfl⟩, hW, hsame.mono (by decide) (by decide)⟩
    · exact retN XJ20 hx (t := .boolean) Bd.returns (by simp) (hb' d54_33) hr
    · show QI 1 h0 n0 _ TJ20.heap _
      rw [eJ20]
      exact ⟨rfl, NJ20, hh0⟩
  · exact ⟨s₁, h0, _, 0, own_up X0 (by decide) (by decide), e0, N0, O0, (Keep.refl h0 []), (Nat.zero_add _), A_a, A_b, rfl, cn6⟩

theorem d7_0 : DC c52' 0 (.aload_n 0) 1 := by decide +kernel
theorem d7_1 : DC c52' 1 (.aload_n 1) 1 := by decide +kernel
theorem d7_2 : DC c52' 2 (.if_acmp .ne 5) 3 := by decide +kernel
theorem d7_5 : DC c52' 5 (.iconst 1) 1 := by decide +kernel
theorem d7_6 : DC c52' 6 (.ireturn) 1 := by decide +kernel
theorem ef_7s (m : MethodId) (x0 : Addr) (x1 : Addr) : entryFrame m #[(.ref x0), (.ref x1)] 3 = mkF m 0 #[.val (.ref x0), .val (.ref x1), .unset] [] := by first | (simp [entryFrame, mkF, argsToLocals, Value.category]; done) | rfl
theorem rm7s (l : Launch) (Z : State) (a0 : Array Value) (hw : HW a0 Z) (ws : List Jvm.Cond) (a1 : Addr) (h0 : Heap) (n0 : Nat) (O0 : Old Z n0 h0)  :
    MT l y52' c52' 3 (some .boolean) ws ({ frames := 0, cells := 0, slots := 0, locals := 0 } : Room) #[(.ref a1), (.ref a1)] Z h0 (QI 1 h0 n0) := by
  refine MetFree.of_bodySF (plainFor_of_name pn_java_lang_String) hisR ?_
  intro p e s m args below meth kode s₁ Bd hml0 hP hK
  obtain ⟨rfl, hZ, hh⟩ := hP
  have hx := Bd.exec
  have hby := Bd.bytes
  have hb' := @hb _ _ hby
  have hml : kode.maxLocals = 3 := hml0
  have hown : s.vm.findClass "java/lang/String" = some m.cls := findClass_of_methodNamed Bd.named
  have X0 : Stand p l e ({ frames := 0, cells := 0, slots := 0, locals := 0 } : Room) s m #[(.ref a1), (.ref a1)] below meth kode s₁ [] 0 0 := Stand.of_body Bd
  have e0 : s₁.heap = h0 := by rw [← hh, Bd.state]; rfl
  have N0 := Fr.nil n0
  have pre0 : ∀ t, SF p e below s₁ (mkF m 0 #[vr a1, vr a1, .unset] []) t → SF p e below s₁ (entryFrame m #[(.ref a1), (.ref a1)] 3) t := fun t k => castTop (ef_7s m a1 a1) k
  have cn1 := fun (t : State) (kt : SF p e below s₁ (mkF m 2 #[vr a1, vr a1, .unset] [.ref a1, .ref a1]) t) => pre0 t (by
    refine XS.aloadN X0.here hx rfl (hb' d7_0) rfl rfl ?_
    exact XS.aloadN X0.here hx rfl (hb' d7_1) rfl rfl kt)
  have cn2 := fun (t : State) (kt : SF p e below s₁ (mkF m 6 #[vr a1, vr a1, .unset] [.int 1]) t) => cn1 t (by
    refine Jvm.RoadKit.acmp (g := (mkF m 2 #[vr a1, vr a1, .unset] [.ref a1, .ref a1])) X0 hx rfl rfl rfl (pc0 := 2) (pc' := 5) (same := true) rfl (hb' d7_2) rfl (decide_eq_true rfl) (by decide) (by decide) ?_
    exact XS.iconst X0.here hx rfl (hb' d7_5) kt)
  obtain ⟨frs, hr, hrun, hended, hW, hsame⟩ := X0.leave (v := some (.int (1 : Int32))) (fun h => by rw [Bd.returns] at h; cases h)
  refine ⟨_, _, cn2 _ ?_, hrun, hended, _, _, rfl, ?_, ⟨_, rfl⟩, hW, hsame.mono (by decide) (by decide)⟩
  · exact retN X0 hx (t := .boolean) Bd.returns (by simp) (hb' d7_6) hr
  · show QI 1 h0 n0 _ s₁.heap _
    rw [e0]
    exact ⟨rfl, N0, rfl⟩

theorem d7_7 : DC c52' 7 (.aload_n 1) 1 := by decide +kernel
theorem d7_8 : DC c52' 8 (.instanceof 10) 3 := by decide +kernel
theorem d7_11 : DC c52' 11 (.ifCond .eq 43) 3 := by decide +kernel
theorem d7_14 : DC c52' 14 (.aload_n 1) 1 := by decide +kernel
theorem d7_15 : DC c52' 15 (.checkcast 10) 3 := by decide +kernel
theorem d7_18 : DC c52' 18 (.astore_n 2) 1 := by decide +kernel
theorem d7_19 : DC c52' 19 (.getstatic 38) 3 := by decide +kernel
theorem d7_22 : DC c52' 22 (.ifCond .eq 14) 3 := by decide +kernel
theorem d7_25 : DC c52' 25 (.aload_n 0) 1 := by decide +kernel
theorem d7_26 : DC c52' 26 (.getfield 15) 3 := by decide +kernel
theorem d7_29 : DC c52' 29 (.aload_n 2) 1 := by decide +kernel
theorem d7_30 : DC c52' 30 (.getfield 15) 3 := by decide +kernel
theorem d7_33 : DC c52' 33 (.if_icmp .ne 21) 3 := by decide +kernel
theorem d7_36 : DC c52' 36 (.aload_n 0) 1 := by decide +kernel
theorem d7_37 : DC c52' 37 (.getfield 9) 3 := by decide +kernel
theorem d7_40 : DC c52' 40 (.aload_n 2) 1 := by decide +kernel
theorem d7_41 : DC c52' 41 (.getfield 9) 3 := by decide +kernel
theorem d7_44 : DC c52' 44 (.invokestatic 541) 3 := by decide +kernel
theorem d7_47 : DC c52' 47 (.ifCond .eq 7) 3 := by decide +kernel
theorem d7_50 : DC c52' 50 (.iconst 1) 1 := by decide +kernel
theorem d7_51 : DC c52' 51 (.goto 4) 3 := by decide +kernel
theorem d7_55 : DC c52' 55 (.ireturn) 1 := by decide +kernel
theorem pd_33 : parseMethodDescriptor "([B[B)Z" = some ⟨[(.array .byte), (.array .byte)], some .boolean⟩ := by decide +kernel
theorem ef_7 (m : MethodId) (x0 : Addr) (x1 : Addr) : entryFrame m #[(.ref x0), (.ref x1)] 3 = mkF m 0 #[.val (.ref x0), .val (.ref x1), .unset] [] := by first | (simp [entryFrame, mkF, argsToLocals, Value.category]; done) | rfl
theorem rm7 (l : Launch) (Z : State) (a0 : Array Value) (hw : HW a0 Z) (ws : List Jvm.Cond) (a1 a2 b1 b2 : Addr) (cs : List Int32) (k1 k2 : ClassId) (f1 f2 : Nat → Value) (d1 d2 : Int32) (co : Int32) (vf : Value) (h0 : Heap) (n0 : Nat) (O0 : Old Z n0 h0) (nea : a1 ≠ a2) (hm : cs.length ≤ 402) (S1 : SS Z h0 a1 cs b1 k1 f1 d1) (S2 : SS Z h0 a2 cs b2 k2 f2 d2) (SWh : SW Z co vf) :
    MT l y52' c52' 3 (some .boolean) ws ({ frames := 1, cells := 0, slots := 0, locals := 14 } : Room) #[(.ref a1), (.ref a2)] Z h0 (QI 1 h0 n0) := by
  refine MetFree.of_bodySF (plainFor_of_name pn_java_lang_String) hisR ?_
  intro p e s m args below meth kode s₁ Bd hml0 hP hK
  obtain ⟨rfl, hZ, hh⟩ := hP
  have hx := Bd.exec
  have hby := Bd.bytes
  have hb' := @hb _ _ hby
  have hml : kode.maxLocals = 3 := hml0
  have hown : s.vm.findClass "java/lang/String" = some m.cls := findClass_of_methodNamed Bd.named
  have X0 : Stand p l e ({ frames := 1, cells := 0, slots := 0, locals := 14 } : Room) s m #[(.ref a1), (.ref a2)] below meth kode s₁ [] 0 0 := Stand.of_body Bd
  have e0 : s₁.heap = h0 := by rw [← hh, Bd.state]; rfl
  have N0 := Fr.nil n0
  have pre0 : ∀ t, SF p e below s₁ (mkF m 0 #[vr a1, vr a2, .unset] []) t → SF p e below s₁ (entryFrame m #[(.ref a1), (.ref a2)] 3) t := fun t k => castTop (ef_7 m a1 a2) k
  have SWx := SWh
  obtain ⟨S_CS, hcs, S_AD, S_HI, S_LO, S_SI, hcat_vf⟩ := SWx
  obtain ⟨E1, Fv1, Fc1, c1⟩ := S1
  obtain ⟨E2, Fv2, Fc2, c2⟩ := S2
  rcases c1 with ⟨rfl, A1, P1⟩ | ⟨rfl, A1, P1⟩ <;> rcases c2 with ⟨rfl, A2, P2⟩ | ⟨rfl, A2, P2⟩
  · have hlen := hm
    have cn1 := fun (t : State) (kt : SF p e below s₁ (mkF m 2 #[vr a1, vr a2, .unset] [.ref a2, .ref a1]) t) => pre0 t (by
      refine XS.aloadN X0.here hx rfl (hb' d7_0) rfl rfl ?_
      exact XS.aloadN X0.here hx rfl (hb' d7_1) rfl rfl kt)
    have cn2 := fun (t : State) (kt : SF p e below s₁ (mkF m 8 #[vr a1, vr a2, .unset] [.ref a2]) t) => cn1 t (by
      refine Jvm.RoadKit.acmp (g := (mkF m 2 #[vr a1, vr a2, .unset] [.ref a2, .ref a1])) X0 hx rfl rfl rfl (pc0 := 2) (pc' := 7) (same := false) rfl (hb' d7_2) rfl (decide_eq_false fun q => nea (Value.ref.inj q)) (by decide) (by decide) ?_
      exact XS.aloadN X0.here hx rfl (hb' d7_7) rfl rfl kt)
    obtain ⟨T3, X3, e3, st3⟩ := instY X0 hx hZ hown (wq hw 255 rfl) e0 (Ins.of_exa E2 (wq hw 9 rfl)) (g := (mkF m 8 #[vr a1, vr a2, .unset] [.ref a2])) rfl rfl (hb' d7_8)
    have cn4 := fun (t : State) (kt : SF p e below T3 (mkF m 11 #[vr a1, vr a2, .unset] [.int 1]) t) => cn2 t (by
      exact st3 _ kt)
    have cn5 := fun (t : State) (kt : SF p e below T3 (mkF m 15 #[vr a1, vr a2, .unset] [.ref a2]) t) => cn4 t (by
      refine XS.ifNo X3.here hx rfl (hb' d7_11) rfl ((if0 _ _).trans (feq (by decide : ¬ ((1 : Int32) = (0 : Int32)))).1) ?_
      exact XS.aloadN X3.here hx rfl (hb' d7_14) rfl rfl kt)
    obtain ⟨T6, X6, e6, st6⟩ := castY X3 hx hZ hown (wq hw 255 rfl) e3 (Ins.of_exa E2 (wq hw 9 rfl)) (g := (mkF m 15 #[vr a1, vr a2, .unset] [.ref a2])) rfl rfl (hb' d7_15)
    have cn7 := fun (t : State) (kt : SF p e below T6 (mkF m 19 #[vr a1, vr a2, vr a2] []) t) => cn5 t (by
      refine st6 _ ?_
      exact XS.astoreN X6.here hx rfl (hb' d7_18) rfl rfl (l' := #[vr a1, vr a2, vr a2]) rfl kt)
    obtain ⟨T8, X8, e8, st8⟩ := getS2 X6 hx hZ hown (host := "") (Or.inl (wq hw 36 rfl)) Via.refl e6 (S_CS.ext O0.2) (g := (mkF m 19 #[vr a1, vr a2, vr a2] [])) rfl (hb' d7_19)
    have cn9 := fun (t : State) (kt : SF p e below T8 (mkF m 22 #[vr a1, vr a2, vr a2] [.int co]) t) => cn7 t (by
      exact st8 _ kt)
    have cn10 := fun (t : State) (kt : SF p e below T8 (mkF m 26 #[vr a1, vr a2, vr a2] [.ref a1]) t) => cn9 t (by
      refine XS.ifNo X8.here hx rfl (hb' d7_22) rfl ((if0 _ _).trans (feq hcs).1) ?_
      exact XS.aloadN X8.here hx rfl (hb' d7_25) rfl rfl kt)
    obtain ⟨T11, X11, e11, st11⟩ := getF X8 hx hZ hown (host := "") (Or.inl (wq hw 21 rfl)) Via.refl e8 Fc1 (g := (mkF m 26 #[vr a1, vr a2, vr a2] [.ref a1])) rfl rfl (hb' d7_26)
    have cn12 := fun (t : State) (kt : SF p e below T11 (mkF m 30 #[vr a1, vr a2, vr a2] [.ref a2, .int 0]) t) => cn10 t (by
      refine st11 _ ?_
      exact XS.aloadN X11.here hx rfl (hb' d7_29) rfl rfl kt)
    obtain ⟨T13, X13, e13, st13⟩ := getF X11 hx hZ hown (host := "") (Or.inl (wq hw 21 rfl)) Via.refl e11 Fc2 (g := (mkF m 30 #[vr a1, vr a2, vr a2] [.ref a2, .int 0])) rfl rfl (hb' d7_30)
    have cn14 := fun (t : State) (kt : SF p e below T13 (mkF m 33 #[vr a1, vr a2, vr a2] [.int 0, .int 0]) t) => cn12 t (by
      exact st13 _ kt)
    have cn15 := fun (t : State) (kt : SF p e below T13 (mkF m 37 #[vr a1, vr a2, vr a2] [.ref a1]) t) => cn14 t (by
      refine XS.icmpNo X13.here hx rfl (hb' d7_33) rfl (teq (by decide : (0 : Int32) = (0 : Int32))).2 ?_
      exact XS.aloadN X13.here hx rfl (hb' d7_36) rfl rfl kt)
    obtain ⟨T16, X16, e16, st16⟩ := getF X13 hx hZ hown (host := "") (Or.inl (wq hw 20 rfl)) Via.refl e13 Fv1 (g := (mkF m 37 #[vr a1, vr a2, vr a2] [.ref a1])) rfl rfl (hb' d7_37)
    have cn17 := fun (t : State) (kt : SF p e below T16 (mkF m 41 #[vr a1, vr a2, vr a2] [.ref a2, .ref b1]) t) => cn15 t (by
      refine st16 _ ?_
      exact XS.aloadN X16.here hx rfl (hb' d7_40) rfl rfl kt)
    obtain ⟨T18, X18, e18, st18⟩ := getF X16 hx hZ hown (host := "") (Or.inl (wq hw 20 rfl)) Via.refl e16 Fv2 (g := (mkF m 41 #[vr a1, vr a2, vr a2] [.ref a2, .ref b1])) rfl rfl (hb' d7_41)
    have cn19 := fun (t : State) (kt : SF p e below T18 (mkF m 44 #[vr a1, vr a2, vr a2] [.ref b2, .ref b1]) t) => cn17 t (by
      exact st18 _ kt)
    obtain ⟨_, _, ⟨T20, L20, k20, n20⟩, -, X20, ⟨Lc20, hQ20, l20, y20, z20⟩, st20⟩ := Jvm.LawKit.callS X18 hx (y := y51') hown (mvT hZ (wq hw 256 rfl)) (mvT hZ (wq hw 257 rfl)) (mvT hZ (wq hw 213 rfl)) (mvT hZ (wq hw 258 rfl)) (by decide) (backOf (W := 0) (rm54 l Z a0 hw [] b1 b2 k1 k2 cs.length f1 f2 h0 n0 O0 (by omega) (own_LL P1 P2) A1 A2) hZ (wq hw 258 rfl) (wq hw 213 rfl) (by decide) (by decide)) (g := (mkF m 44 #[vr a1, vr a2, vr a2] [.ref b2, .ref b1])) rfl (by rw [hml]; rfl) (argsL := [(.ref b1), (.ref b2)]) (rest := []) (lenOf pd_33 rfl) rfl (Nat.le_refl _) (hb' d7_44) (fun _ _ => ⟨rfl, e18, (by decide : 0 + 0 ≤ _), (by decide : 0 + 0 ≤ _)⟩)
    dsimp only [Pt.U, Pt.locs, Pt.cells, Pt.slots] at X20 l20 y20 z20 st20 hQ20
    subst l20 y20 z20
    obtain ⟨rfl, Nq20, eh20⟩ := hQ20
    have N20 := Fr.app N0 Nq20
    have cn21 := fun (t : State) (kt : SF p e below T20 (mkF m 47 #[vr a1, vr a2, vr a2] [.int 1]) t) => cn19 t (by
      exact st20 _ kt)
    have cn22 := fun (t : State) (kt : SF p e below T20 (mkF m 55 #[vr a1, vr a2, vr a2] [.int 1]) t) => cn21 t (by
      refine XS.ifNo X20.here hx rfl (hb' d7_47) rfl ((if0 _ _).trans (feq (by decide : ¬ ((1 : Int32) = (0 : Int32)))).1) ?_
      refine XS.iconst X20.here hx rfl (hb' d7_50) ?_
      exact XS.goto X20.here hx rfl (pc0 := 51) (pc' := 55) rfl (hb' d7_51) (by decide) (by decide) kt)
    obtain ⟨frs, hr, hrun, hended, hW, hsame⟩ := X20.leave (v := some (.int (1 : Int32))) (fun h => by rw [Bd.returns] at h; cases h)
    refine ⟨_, _, cn22 _ ?_, hrun, hended, _, _, rfl, ?_, ⟨_, rfl⟩, hW, hsame.mono (by decide) (by decide)⟩
    · exact retN X20 hx (t := .boolean) Bd.returns (by simp) (hb' d7_55) hr
    · show QI 1 h0 n0 _ T20.heap _
      rw [eh20]
      exact ⟨rfl, N20, rfl⟩
  · exact (own_LU P1 P2).elim
  · exact (own_LU P2 P1).elim
  · have hlen := hm
    have cn23 := fun (t : State) (kt : SF p e below s₁ (mkF m 2 #[vr a1, vr a2, .unset] [.ref a2, .ref a1]) t) => pre0 t (by
      refine XS.aloadN X0.here hx rfl (hb' d7_0) rfl rfl ?_
      exact XS.aloadN X0.here hx rfl (hb' d7_1) rfl rfl kt)
    have cn24 := fun (t : State) (kt : SF p e below s₁ (mkF m 8 #[vr a1, vr a2, .unset] [.ref a2]) t) => cn23 t (by
      refine Jvm.RoadKit.acmp (g := (mkF m 2 #[vr a1, vr a2, .unset] [.ref a2, .ref a1])) X0 hx rfl rfl rfl (pc0 := 2) (pc' := 7) (same := false) rfl (hb' d7_2) rfl (decide_eq_false fun q => nea (Value.ref.inj q)) (by decide) (by decide) ?_
      exact XS.aloadN X0.here hx rfl (hb' d7_7) rfl rfl kt)
    obtain ⟨T25, X25, e25, st25⟩ := instY X0 hx hZ hown (wq hw 255 rfl) e0 (Ins.of_exa E2 (wq hw 9 rfl)) (g := (mkF m 8 #[vr a1, vr a2, .unset] [.ref a2])) rfl rfl (hb' d7_8)
    have cn26 := fun (t : State) (kt : SF p e below T25 (mkF m 11 #[vr a1, vr a2, .unset] [.int 1]) t) => cn24 t (by
      exact st25 _ kt)
    have cn27 := fun (t : State) (kt : SF p e below T25 (mkF m 15 #[vr a1, vr a2, .unset] [.ref a2]) t) => cn26 t (by
      refine XS.ifNo X25.here hx rfl (hb' d7_11) rfl ((if0 _ _).trans (feq (by decide : ¬ ((1 : Int32) = (0 : Int32)))).1) ?_
      exact XS.aloadN X25.here hx rfl (hb' d7_14) rfl rfl kt)
    obtain ⟨T28, X28, e28, st28⟩ := castY X25 hx hZ hown (wq hw 255 rfl) e25 (Ins.of_exa E2 (wq hw 9 rfl)) (g := (mkF m 15 #[vr a1, vr a2, .unset] [.ref a2])) rfl rfl (hb' d7_15)
    have cn29 := fun (t : State) (kt : SF p e below T28 (mkF m 19 #[vr a1, vr a2, vr a2] []) t) => cn27 t (by
      refine st28 _ ?_
      exact XS.astoreN X28.here hx rfl (hb' d7_18) rfl rfl (l' := #[vr a1, vr a2, vr a2]) rfl kt)
    obtain ⟨T30, X30, e30, st30⟩ := getS2 X28 hx hZ hown (host := "") (Or.inl (wq hw 36 rfl)) Via.refl e28 (S_CS.ext O0.2) (g := (mkF m 19 #[vr a1, vr a2, vr a2] [])) rfl (hb' d7_19)
    have cn31 := fun (t : State) (kt : SF p e below T30 (mkF m 22 #[vr a1, vr a2, vr a2] [.int co]) t) => cn29 t (by
      exact st30 _ kt)
    have cn32 := fun (t : State) (kt : SF p e below T30 (mkF m 26 #[vr a1, vr a2, vr a2] [.ref a1]) t) => cn31 t (by
      refine XS.ifNo X30.here hx rfl (hb' d7_22) rfl ((if0 _ _).trans (feq hcs).1) ?_
      exact XS.aloadN X30.here hx rfl (hb' d7_25) rfl rfl kt)
    obtain ⟨T33, X33, e33, st33⟩ := getF X30 hx hZ hown (host := "") (Or.inl (wq hw 21 rfl)) Via.refl e30 Fc1 (g := (mkF m 26 #[vr a1, vr a2, vr a2] [.ref a1])) rfl rfl (hb' d7_26)
    have cn34 := fun (t : State) (kt : SF p e below T33 (mkF m 30 #[vr a1, vr a2, vr a2] [.ref a2, .int 1]) t) => cn32 t (by
      refine st33 _ ?_
      exact XS.aloadN X33.here hx rfl (hb' d7_29) rfl rfl kt)
    obtain ⟨T35, X35, e35, st35⟩ := getF X33 hx hZ hown (host := "") (Or.inl (wq hw 21 rfl)) Via.refl e33 Fc2 (g := (mkF m 30 #[vr a1, vr a2, vr a2] [.ref a2, .int 1])) rfl rfl (hb' d7_30)
    have cn36 := fun (t : State) (kt : SF p e below T35 (mkF m 33 #[vr a1, vr a2, vr a2] [.int 1, .int 1]) t) => cn34 t (by
      exact st35 _ kt)
    have cn37 := fun (t : State) (kt : SF p e below T35 (mkF m 37 #[vr a1, vr a2, vr a2] [.ref a1]) t) => cn36 t (by
      refine XS.icmpNo X35.here hx rfl (hb' d7_33) rfl (teq (by decide : (1 : Int32) = (1 : Int32))).2 ?_
      exact XS.aloadN X35.here hx rfl (hb' d7_36) rfl rfl kt)
    obtain ⟨T38, X38, e38, st38⟩ := getF X35 hx hZ hown (host := "") (Or.inl (wq hw 20 rfl)) Via.refl e35 Fv1 (g := (mkF m 37 #[vr a1, vr a2, vr a2] [.ref a1])) rfl rfl (hb' d7_37)
    have cn39 := fun (t : State) (kt : SF p e below T38 (mkF m 41 #[vr a1, vr a2, vr a2] [.ref a2, .ref b1]) t) => cn37 t (by
      refine st38 _ ?_
      exact XS.aloadN X38.here hx rfl (hb' d7_40) rfl rfl kt)
    obtain ⟨T40, X40, e40, st40⟩ := getF X38 hx hZ hown (host := "") (Or.inl (wq hw 20 rfl)) Via.refl e38 Fv2 (g := (mkF m 41 #[vr a1, vr a2, vr a2] [.ref a2, .ref b1])) rfl rfl (hb' d7_41)
    have cn41 := fun (t : State) (kt : SF p e below T40 (mkF m 44 #[vr a1, vr a2, vr a2] [.ref b2, .ref b1]) t) => cn39 t (by
      exact st40 _ kt)
    obtain ⟨_, _, ⟨T42, L42, k42, n42⟩, -, X42, ⟨Lc42, hQ42, l42, y42, z42⟩, st42⟩ := Jvm.LawKit.callS X40 hx (y := y51') hown (mvT hZ (wq hw 256 rfl)) (mvT hZ (wq hw 257 rfl)) (mvT hZ (wq hw 213 rfl)) (mvT hZ (wq hw 258 rfl)) (by decide) (backOf (W := 0) (rm54 l Z a0 hw [] b1 b2 k1 k2 (2 * cs.length) f1 f2 h0 n0 O0 (by omega) (own_UU P1.1 P2.1) A1 A2) hZ (wq hw 258 rfl) (wq hw 213 rfl) (by decide) (by decide)) (g := (mkF m 44 #[vr a1, vr a2, vr a2] [.ref b2, .ref b1])) rfl (by rw [hml]; rfl) (argsL := [(.ref b1), (.ref b2)]) (rest := []) (lenOf pd_33 rfl) rfl (Nat.le_refl _) (hb' d7_44) (fun _ _ => ⟨rfl, e40, (by decide : 0 + 0 ≤ _), (by decide : 0 + 0 ≤ _)⟩)
    dsimp only [Pt.U, Pt.locs, Pt.cells, Pt.slots] at X42 l42 y42 z42 st42 hQ42
    subst l42 y42 z42
    obtain ⟨rfl, Nq42, eh42⟩ := hQ42
    have N42 := Fr.app N0 Nq42
    have cn43 := fun (t : State) (kt : SF p e below T42 (mkF m 47 #[vr a1, vr a2, vr a2] [.int 1]) t) => cn41 t (by
      exact st42 _ kt)
    have cn44 := fun (t : State) (kt : SF p e below T42 (mkF m 55 #[vr a1, vr a2, vr a2] [.int 1]) t) => cn43 t (by
      refine XS.ifNo X42.here hx rfl (hb' d7_47) rfl ((if0 _ _).trans (feq (by decide : ¬ ((1 : Int32) = (0 : Int32)))).1) ?_
      refine XS.iconst X42.here hx rfl (hb' d7_50) ?_
      exact XS.goto X42.here hx rfl (pc0 := 51) (pc' := 55) rfl (hb' d7_51) (by decide) (by decide) kt)
    obtain ⟨frs, hr, hrun, hended, hW, hsame⟩ := X42.leave (v := some (.int (1 : Int32))) (fun h => by rw [Bd.returns] at h; cases h)
    refine ⟨_, _, cn44 _ ?_, hrun, hended, _, _, rfl, ?_, ⟨_, rfl⟩, hW, hsame.mono (by decide) (by decide)⟩
    · exact retN X42 hx (t := .boolean) Bd.returns (by simp) (hb' d7_55) hr
    · show QI 1 h0 n0 _ T42.heap _
      rw [eh42]
      exact ⟨rfl, N42, rfl⟩

theorem d4_0 : DC prog_12_method_17_code 0 (.aload_n 0) 1 := by decide +kernel
theorem d4_1 : DC prog_12_method_17_code 1 (.invokevirtual 306) 3 := by decide +kernel
theorem d4_4 : DC prog_12_method_17_code 4 (.sipush 200) 3 := by decide +kernel
theorem d4_7 : DC prog_12_method_17_code 7 (.if_icmp .gt 7) 3 := by decide +kernel
theorem d4_10 : DC prog_12_method_17_code 10 (.aload_n 0) 1 := by decide +kernel
theorem d4_11 : DC prog_12_method_17_code 11 (.goto 30) 3 := by decide +kernel
theorem d4_41 : DC prog_12_method_17_code 41 (.areturn) 1 := by decide +kernel
theorem pn_com_example_tickcross_tickcross_http_RequestStream : plainName "com/example/tickcross/tickcross/http/RequestStream" = true := by first | (simp [plainName, overriddenIn]; done) | decide +kernel
theorem ef_4s (m : MethodId) (x0 : Addr) : entryFrame m #[(.ref x0)] 1 = mkF m 0 #[.val (.ref x0)] [] := by first | (simp [entryFrame, mkF, argsToLocals, Value.category]; done) | rfl
theorem rm4s (l : Launch) (Z : State) (a0 : Array Value) (hw : HW a0 Z) (ws : List Jvm.Cond) (a1 b : Addr) (es : List Int32) (k : ClassId) (f : Nat → Value) (cd : Int32) (co : Int32) (vf : Value) (h0 : Heap) (n0 : Nat) (O0 : Old Z n0 h0) (hs : es.length ≤ 200) (hm : es.length ≤ 402) (Sh : SS Z h0 a1 es b k f cd) (SWh : SW Z co vf) :
    MT l y53' prog_12_method_17_code 1 (some (.object "java/lang/String")) ws ({ frames := 2, cells := 0, slots := 0, locals := 25 } : Room) #[(.ref a1)] Z h0 (QRf a1 h0 n0) := by
  refine MetFree.of_bodySF (plainFor_of_name pn_com_example_tickcross_tickcross_http_RequestStream) hisR ?_
  intro p e s m args below meth kode s₁ Bd hml0 hP hK
  obtain ⟨rfl, hZ, hh⟩ := hP
  have hx := Bd.exec
  have hby := Bd.bytes
  have hb' := @hb _ _ hby
  have hml : kode.maxLocals = 1 := hml0
  have hown : s.vm.findClass "com/example/tickcross/tickcross/http/RequestStream" = some m.cls := findClass_of_methodNamed Bd.named
  have X0 : Stand p l e ({ frames := 2, cells := 0, slots := 0, locals := 25 } : Room) s m #[(.ref a1)] below meth kode s₁ [] 0 0 := Stand.of_body Bd
  have e0 : s₁.heap = h0 := by rw [← hh, Bd.state]; rfl
  have N0 := Fr.nil n0
  have pre0 : ∀ t, SF p e below s₁ (mkF m 0 #[vr a1] []) t → SF p e below s₁ (entryFrame m #[(.ref a1)] 1) t := fun t k => castTop (ef_4s m a1) k
  have SWx := SWh
  obtain ⟨S_CS, hcs, S_AD, S_HI, S_LO, S_SI, hcat_vf⟩ := SWx
  have Sx := Sh
  obtain ⟨E_a1, Fv, Fc, A_b⟩ := Sx
  have cn1 := fun (t : State) (kt : SF p e below s₁ (mkF m 1 #[vr a1] [.ref a1]) t) => pre0 t (by
    exact XS.aloadN X0.here hx rfl (hb' d4_0) rfl rfl kt)
  obtain ⟨cq2, kq2, q2a, q2b, q2c⟩ := isOf hZ e0 E_a1
  obtain ⟨_, _, ⟨T2, L2, k2, n2⟩, -, X2, ⟨Lc2, hQ2, l2, y2, z2⟩, st2⟩ := X0.virtualBack hx (y := y13') (z := y13') hown (mvT hZ (wq hw 26 rfl)) (mvT hZ (wq hw 27 rfl)) (notFace_of_selects (args := #[]) (mvT hZ (wq hw 29 rfl))) (mvT hZ (wq hw 29 rfl)) (mvT hZ (wq hw 28 rfl)) (by decide) (backOf (W := 0) (rm5 l Z a0 hw [] a1 b es k f cd co vf h0 n0 O0 hm Sh SWh) hZ (wq hw 30 rfl) (wq hw 3 rfl) (by decide) (by decide)) q2a q2c (g := (mkF m 1 #[vr a1] [.ref a1])) rfl (by rw [hml]; rfl) (Steps.refl _) (argsL := []) (rest := []) (lenOf pd_18 rfl) rfl (Nat.le_refl _) (hb' d4_1) (fun _ _ => ⟨rfl, e0, (by decide : 0 + 0 ≤ _), (by decide : 0 + 0 ≤ _)⟩)
  dsimp only [Pt.U, Pt.locs, Pt.cells, Pt.slots] at X2 l2 y2 z2 st2 hQ2
  subst l2 y2 z2
  obtain ⟨rfl, Nq2, eh2⟩ := hQ2
  have N2 := Fr.app N0 Nq2
  have cn3 := fun (t : State) (kt : SF p e below T2 (mkF m 7 #[vr a1] [.int 200, .int (Nat.toInt32 es.length)]) t) => cn1 t (by
    refine st2.trans ?_
    exact XS.sipush X2.here hx rfl (hb' d4_4) kt)
  have cn4 := fun (t : State) (kt : SF p e below T2 (mkF m 41 #[vr a1] [.ref a1]) t) => cn3 t (by
    refine XS.icmpNo X2.here hx rfl (hb' d4_7) rfl (flt (fun q => absurd ((own_lt (i := 200) (by decide) (by omega)).mp q) (by omega))).2.2.1 ?_
    refine XS.aloadN X2.here hx rfl (hb' d4_10) rfl rfl ?_
    exact XS.goto X2.here hx rfl (pc0 := 11) (pc' := 41) rfl (hb' d4_11) (by decide) (by decide) kt)
  obtain ⟨frs, hr, hrun, hended, hW, hsame⟩ := X2.leave (v := some (.ref a1)) (fun h => by rw [Bd.returns] at h; cases h)
  refine ⟨_, _, cn4 _ ?_, hrun, hended, _, _, rfl, ?_, ⟨_, rfl⟩, hW, hsame.mono (by decide) (by decide)⟩
  · jvm_step X2.here [X2.here.top, hx, (hb' d4_41), X2.method', Bd.returns, Value.isRef, FieldType.isReference]
    first | (intro acts; rw [hr _ acts rfl rfl rfl]) | rw [hr _ _ rfl rfl rfl]
    exact Steps.refl _
  · show QRf a1 h0 n0 _ T2.heap _
    rw [eh2]
    exact ⟨rfl, N2, rfl⟩

def own_tl (cs ts : List Int32) : Prop := ts.length = 203 ∧ (∀ j, j < 200 → ts.getD j 0 = cs.getD j 0) ∧ ∀ j, j < 3 → ts.getD (200 + j) 0 = 46
theorem own_e46 : ∀ t, t < 3 → ([46, 46, 46] : List Int32).getD t 0 = 46 := fun t ht => by
  match t, ht with
  | 0, _ => rfl
  | 1, _ => rfl
  | 2, _ => rfl
theorem own_catL {cs ts : List Int32} {fr f1 f2 f3 fd : Nat → Value} (hc : cs.length = 200) (hts : own_tl cs ts) (hL : own_L cs fr) (h1 : ∀ j, j < 200 → f1 j = fr j) (h2 : (∀ j, j < 3 → f2 (200 + j) = fd j) ∧ ∀ q, q < 200 → f2 q = f1 q) (hd : own_dots fd) (h3 : ∀ j, j < 203 → f3 j = f2 j) : own_L ts f3 := fun j hj => by
  have hj' : j < 203 := hts.1 ▸ hj
  rw [h3 j hj']
  by_cases a : j < 200
  · rw [h2.2 j a, h1 j a, hts.2.1 j a]
    exact hL j (by omega)
  · obtain ⟨t, rfl⟩ : ∃ t, j = 200 + t := ⟨j - 200, by omega⟩
    rw [h2.1 t (by omega), hd t (by omega), hts.2.2 t (by omega)]
    exact ⟨rfl, by decide⟩
theorem own_catU {cs ts : List Int32} {fr f1 f2 f3 : Nat → Value} (hc : cs.length = 200) (hts : own_tl cs ts) (hU : own_UC cs fr) (h1 : ∀ j, j < 400 → f1 j = fr j) (h2 : (∀ j, j < 3 → f2 (2 * (200 + j)) = .int (own_b0 (([46, 46, 46] : List Int32).getD j 0)) ∧ f2 (2 * (200 + j) + 1) = .int (own_b1 (([46, 46, 46] : List Int32).getD j 0))) ∧ ∀ q, q < 400 → f2 q = f1 q) (h3 : ∀ j, j < 406 → f3 j = f2 j) : own_UC ts f3 := by
  refine ⟨fun j hj => ?_, ?_⟩
  · have hj' : j < 203 := hts.1 ▸ hj
    rw [h3 (2 * j) (by omega), h3 (2 * j + 1) (by omega)]
    by_cases a : j < 200
    · rw [h2.2 (2 * j) (by omega), h2.2 (2 * j + 1) (by omega), h1 (2 * j) (by omega), h1 (2 * j + 1) (by omega), hts.2.1 j a]
      exact hU.1 j (by omega)
    · obtain ⟨t, rfl⟩ : ∃ t, j = 200 + t := ⟨j - 200, by omega⟩
      have q := h2.1 t (by omega)
      rw [own_e46 t (by omega)] at q
      rw [hts.2.2 t (by omega)]
      exact q
  · obtain ⟨i, hi, hg⟩ := hU.2
    exact ⟨i, by rw [hts.1]; omega, by rw [hts.2.1 i (by omega)]; exact hg⟩

theorem d4_14 : DC prog_12_method_17_code 14 (.new 33) 3 := by decide +kernel
theorem d4_17 : DC prog_12_method_17_code 17 (.dup) 1 := by decide +kernel
theorem d4_18 : DC prog_12_method_17_code 18 (.invokespecial 35) 3 := by decide +kernel
theorem d4_21 : DC prog_12_method_17_code 21 (.aload_n 0) 1 := by decide +kernel
theorem d4_22 : DC prog_12_method_17_code 22 (.iconst 0) 1 := by decide +kernel
theorem d4_23 : DC prog_12_method_17_code 23 (.sipush 200) 3 := by decide +kernel
theorem d4_26 : DC prog_12_method_17_code 26 (.invokevirtual 83) 3 := by decide +kernel
theorem d4_29 : DC prog_12_method_17_code 29 (.invokevirtual 202) 3 := by decide +kernel
theorem d4_32 : DC prog_12_method_17_code 32 (.ldc_w 336) 3 := by decide +kernel
theorem d4_35 : DC prog_12_method_17_code 35 (.invokevirtual 202) 3 := by decide +kernel
theorem d4_38 : DC prog_12_method_17_code 38 (.invokevirtual 171) 3 := by decide +kernel
theorem pd_36 : parseMethodDescriptor "()Ljava/lang/String;" = some ⟨[], some (.object "java/lang/String")⟩ := by decide +kernel
theorem pd_34 : parseMethodDescriptor "(II)Ljava/lang/String;" = some ⟨[.int, .int], some (.object "java/lang/String")⟩ := by decide +kernel
theorem pd_35 : parseMethodDescriptor "(Ljava/lang/String;)Ljava/lang/StringBuilder;" = some ⟨[(.object "java/lang/String")], some (.object "java/lang/StringBuilder")⟩ := by decide +kernel
theorem ef_4 (m : MethodId) (x0 : Addr) : entryFrame m #[(.ref x0)] 1 = mkF m 0 #[.val (.ref x0)] [] := by first | (simp [entryFrame, mkF, argsToLocals, Value.category]; done) | rfl
theorem rm4 (l : Launch) (Z : State) (a0 : Array Value) (hw : HW a0 Z) (ws : List Jvm.Cond) (a1 b : Addr) (es : List Int32) (k : ClassId) (f : Nat → Value) (cd : Int32) (cs ts : List Int32) (co : Int32) (vf : Value) (h0 : Heap) (n0 : Nat) (O0 : Old Z n0 h0) (h200 : 200 < es.length) (hm : es.length ≤ 402) (hpre : own_pre es cs) (hu : own_u es) (hud : own_u cs) (hts : own_tl cs ts) (Sh : SS Z h0 a1 es b k f cd) (SWh : SW Z co vf) :
    MetFree l y53' (head1 (Jvm.Cond.code y53' prog_12_method_17_code 1 (some (.object "java/lang/String")) :: ws) ({ frames := 10, cells := 12, slots := 3468, locals := 143 } : Room)) (fun aQ U => aQ = #[(.ref a1)] ∧ Z.Warmed39 U.vm ∧ U.heap = h0 ∧ CHv Z consts_1 U.vm h0) (fun _ _ _ _ _ => True) (fun _ U o U' => ∃ v L, o = .returned v ∧ QSU Z ts h0 n0 v U'.heap L ∧ ReturnedEndW U o U' L ({ frames := 10, cells := 12, slots := 3468, locals := 143 } : Room).cells ({ frames := 10, cells := 12, slots := 3468, locals := 143 } : Room).slots) := by
  refine MetFree.of_bodySF (plainFor_of_name pn_com_example_tickcross_tickcross_http_RequestStream) hisR ?_
  intro p e s m args below meth kode s₁ Bd hml0 hP hK
  obtain ⟨rfl, hZ, hh, CH⟩ := hP
  have hx := Bd.exec
  have hby := Bd.bytes
  have hb' := @hb _ _ hby
  have hml : kode.maxLocals = 1 := hml0
  have hown : s.vm.findClass "com/example/tickcross/tickcross/http/RequestStream" = some m.cls := findClass_of_methodNamed Bd.named
  have X0 : Stand p l e ({ frames := 10, cells := 12, slots := 3468, locals := 143 } : Room) (s.setVm s.vm) m #[(.ref a1)] below meth kode s₁ [] 0 0 := Stand.of_body Bd
  have e0 : s₁.heap = h0 := by rw [← hh, Bd.state]; rfl
  have N0 := Fr.nil n0
  have pre0 : ∀ t, SF p e below s₁ (mkF m 0 #[vr a1] []) t → SF p e below s₁ (entryFrame m #[(.ref a1)] 1) t := fun t k => castTop (ef_4 m a1) k
  have hS : s.Since s.vm 0 := (State.WarmedH.refl s).since 0
  have hk : 0 ≤ h0.size := Nat.zero_le _
  have wS : ∀ a ∈ Bundle.stringAtoms, a.before a0 Z = true := own_wS hw
  have hEL := own_EW hw
  have SWx := SWh
  obtain ⟨S_CS, hcs, S_AD, S_HI, S_LO, S_SI, hcat_vf⟩ := SWx
  have Sx := Sh
  obtain ⟨E_a1, Fv, Fc, A_b⟩ := Sx
  have cn1 := fun (t : State) (kt : SF p e below s₁ (mkF m 1 #[vr a1] [.ref a1]) t) => pre0 t (by
    exact XS.aloadN X0.here hx rfl (hb' d4_0) rfl rfl kt)
  obtain ⟨cq2, kq2, q2a, q2b, q2c⟩ := isOf hZ e0 E_a1
  obtain ⟨_, _, ⟨T2, L2, k2, n2⟩, -, X2, ⟨Lc2, hQ2, l2, y2, z2⟩, st2⟩ := X0.virtualBack hx (y := y13') (z := y13') hown (mvT hZ (wq hw 26 rfl)) (mvT hZ (wq hw 27 rfl)) (notFace_of_selects (args := #[]) (mvT hZ (wq hw 29 rfl))) (mvT hZ (wq hw 29 rfl)) (mvT hZ (wq hw 28 rfl)) (by decide) (backOf (W := 0) (rm5 l Z a0 hw [] a1 b es k f cd co vf h0 n0 O0 hm Sh SWh) hZ (wq hw 30 rfl) (wq hw 3 rfl) (by decide) (by decide)) q2a q2c (g := (mkF m 1 #[vr a1] [.ref a1])) rfl (by rw [hml]; rfl) (Steps.refl _) (argsL := []) (rest := []) (lenOf pd_18 rfl) rfl (Nat.le_refl _) (hb' d4_1) (fun _ _ => ⟨rfl, e0, (by decide : 0 + 0 ≤ _), (by decide : 0 + 0 ≤ _)⟩)
  dsimp only [Pt.U, Pt.locs, Pt.cells, Pt.slots] at X2 l2 y2 z2 st2 hQ2
  subst l2 y2 z2
  obtain ⟨rfl, Nq2, eh2⟩ := hQ2
  have N2 := Fr.app N0 Nq2
  have cn3 := fun (t : State) (kt : SF p e below T2 (mkF m 7 #[vr a1] [.int 200, .int (Nat.toInt32 es.length)]) t) => cn1 t (by
    refine st2.trans ?_
    exact XS.sipush X2.here hx rfl (hb' d4_4) kt)
  have cn4 := fun (t : State) (kt : SF p e below T2 (mkF m 14 #[vr a1] []) t) => cn3 t (by
    exact XS.icmpYes X2.here hx rfl (pc0 := 7) (pc' := 14) rfl (hb' d4_7) rfl (tlt ((own_lt (i := 200) (by decide) (by omega)).mpr h200)).2.2.1 (by decide) (by decide) kt)
  obtain ⟨T5, h5, X5, e5, E5, A5, D5, U5, st5⟩ := newO X2 hx hZ hown (wq hw 72 rfl) (wq hw 73 rfl) (wq hw 74 rfl) eh2 (g := (mkF m 14 #[vr a1] [])) rfl (hb' d4_14) (by decide) (by decide)
  obtain ⟨b5, g5⟩ : ∃ z, z = h0.size := ⟨_, rfl⟩
  rw [← g5] at A5 D5 U5 st5
  have ne_a1_b5 : a1 ≠ b5 := Nat.ne_of_lt (Nat.lt_of_lt_of_le E_a1.lt (Nat.le_of_eq g5.symm))
  have ne_b_b5 : b ≠ b5 := Nat.ne_of_lt (Nat.lt_of_lt_of_le A_b.lt (Nat.le_of_eq g5.symm))
  have sz_b5 : h0.size ≤ b5 := Nat.le_trans (Keep.refl h0 []).1 (Nat.le_of_eq g5.symm)
  have g_b5 : n0 ≤ b5 := Nat.le_trans (O0.1 ▸ O0.2.1) sz_b5
  have E_a1_e5 := E_a1.ext E5
  have Fv_e5 := Fv.ext E5
  have Fc_e5 := Fc.ext E5
  have A_b_e5 := A_b.ext E5
  have O5 := O0.ext E5
  have K5 : Keep h0 h5 [] := (Keep.refl h0 []).ext E5
  have hk := Nat.le_trans hk E5.1
  have Y_b5 := Safe.ext E5 CH (Safe.new (Nat.le_of_eq g5.symm))
  have CH := CHv.ext E5 CH
  have Fvalue_5 : Fld Z h5 b5 "java/lang/AbstractStringBuilder" "value" "[B" .null := D5 (Or.inl (wq hw 87 rfl)) (ty := (.array .byte)) (by decide)
  have Fcoder_5 : Fld Z h5 b5 "java/lang/AbstractStringBuilder" "coder" "B" (.int (0 : Int32)) := D5 (Or.inl (wq hw 89 rfl)) (ty := .byte) (by decide)
  have Fcount_5 : Fld Z h5 b5 "java/lang/AbstractStringBuilder" "count" "I" (.int (0 : Int32)) := D5 (Or.inl (wq hw 166 rfl)) (ty := .int) (by decide)
  have FmaybeLatin1_5 : Fld Z h5 b5 "java/lang/AbstractStringBuilder" "maybeLatin1" "Z" (.int (0 : Int32)) := D5 (Or.inl (wq hw 253 rfl)) (ty := .boolean) (by decide)
  have cn6 := fun (t : State) (kt : SF p e below T5 (mkF m 18 #[vr a1] [.ref b5, .ref b5]) t) => cn4 t (by
    refine st5 _ ?_
    exact XS.dup X5.here hx rfl (hb' d4_17) rfl rfl kt)
  obtain ⟨_, _, ⟨T7, L7, k7, n7⟩, -, X7, ⟨Lc7, hQ7, l7, y7, z7⟩, st7⟩ := X5.specialBack hx (y := y32') rfl hown (mvT hZ (wq hw 75 rfl)) (mvT hZ (wq hw 76 rfl)) (mvT hZ (wq hw 77 rfl)) (by decide) (backOf (W := 1) (rm16 l Z a0 hw [] b5 co vf h5 n0 O5 g_b5 A5 Fvalue_5 Fcoder_5 Fcount_5 FmaybeLatin1_5 SWh) hZ (wq hw 77 rfl) (wq hw 74 rfl) (by decide) (by decide)) (g := (mkF m 18 #[vr a1] [.ref b5, .ref b5])) rfl (by rw [hml]; rfl) (Steps.refl _) (a := b5) (argsL := []) (rest := [(.ref b5)]) (lenOf pd_25 rfl) rfl (Nat.le_refl _) (hb' d4_18) (fun _ _ => ⟨rfl, e5, (by decide : 1 + 1 ≤ _), (by decide : 4 + 16 ≤ _)⟩)
  dsimp only [Pt.U, Pt.locs, Pt.cells, Pt.slots] at X7 l7 y7 z7 st7 hQ7
  subst l7 y7 z7
  obtain ⟨r7x, kq7, f7, rfl, Nq7, Kq7, szq7, ⟨E_sb7, Fsbv7, Fsbc7, Fsbn7, Fsbm7⟩, Aq7, hfb7, hB7⟩ := hQ7
  have N7 := Fr.app N2 Nq7
  have sz_r7x : h0.size ≤ r7x := Nat.le_trans K5.1 szq7
  have g_r7x : n0 ≤ r7x := Nat.le_trans (O0.1 ▸ O0.2.1) sz_r7x
  have ne_a1_r7x : a1 ≠ r7x := Nat.ne_of_lt (Nat.lt_of_lt_of_le E_a1_e5.lt szq7)
  have ne_b_r7x : b ≠ r7x := Nat.ne_of_lt (Nat.lt_of_lt_of_le A_b_e5.lt szq7)
  have ne_b5_r7x : b5 ≠ r7x := Nat.ne_of_lt (Nat.lt_of_lt_of_le A5.lt szq7)
  have K7 := Kq7
  have E_a1_e7 := E_a1_e5.keep K7
  have Fv_e7 := Fv_e5.keep K7 (ninS ne_a1_b5 nin0)
  have Fc_e7 := Fc_e5.keep K7 (ninS ne_a1_b5 nin0)
  have A_b_e7 := A_b_e5.keep K7 (ninS ne_b_b5 nin0)
  have A5_e7 := A5.keep K7
  have O7 := O5.keep K7 (allS g_b5 all0)
  have KK7 : Keep h0 T7.heap [] := K5.trans K7 (allS (Or.inr sz_b5) all0)
  have hk := Nat.le_trans hk K7.1
  have CH := CHv.keep K7 (sfS (Safe.exa hZ.alike A5 (by decide) (by decide)) sf0) CH
  have cn8 := fun (t : State) (kt : SF p e below T7 (mkF m 26 #[vr a1] [.int 200, .int 0, .ref a1, .ref b5]) t) => cn6 t (by
    refine st7.trans ?_
    refine XS.aloadN X7.here hx rfl (hb' d4_21) rfl rfl ?_
    refine XS.iconst X7.here hx rfl (hb' d4_22) ?_
    exact XS.sipush X7.here hx rfl (hb' d4_23) kt)
  obtain ⟨cq9, kq9, q9a, q9b, q9c⟩ := isOf hZ rfl E_a1_e7
  obtain ⟨_, _, ⟨T9, L9, k9, n9⟩, -, X9, ⟨Lc9, hQ9, l9, y9, z9⟩, st9⟩ := X7.virtualBack hx (y := y30') (z := y30') hown (mvT hZ (wq hw 90 rfl)) (mvT hZ (wq hw 91 rfl)) (notFace_of_selects (args := #[]) (mvT hZ (wq hw 93 rfl))) (mvT hZ (wq hw 93 rfl)) (mvT hZ (wq hw 92 rfl)) (by decide) (backOf (W := 1) (rm18 l Z a0 hw [] a1 b es cs k f cd co vf T7.heap n0 O7 h200 hm hpre hu hud ⟨E_a1_e7, Fv_e7, Fc_e7, A_b_e7⟩ SWh) hZ (wq hw 94 rfl) (wq hw 3 rfl) (by decide) (by decide)) q9a q9c (g := (mkF m 26 #[vr a1] [.int 200, .int 0, .ref a1, .ref b5])) rfl (by rw [hml]; rfl) (Steps.refl _) (argsL := [(.int (0 : Int32)), (.int (200 : Int32))]) (rest := [(.ref b5)]) (lenOf pd_34 rfl) rfl (Nat.le_refl _) (hb' d4_26) (fun _ _ => ⟨rfl, rfl, (by decide : 2 + 3 ≤ _), (by decide : 20 + 610 ≤ _)⟩)
  dsimp only [Pt.U, Pt.locs, Pt.cells, Pt.slots] at X9 l9 y9 z9 st9 hQ9
  subst l9 y9 z9
  obtain ⟨r9x, b9x, kq9, f9, cd9, rfl, Nq9, Kq9, szq9, szb9, SS9⟩ := hQ9
  have N9 := Fr.app N7 Nq9
  have sz_r9x : h0.size ≤ r9x := Nat.le_trans KK7.1 szq9
  have sz_b9x : h0.size ≤ b9x := Nat.le_trans KK7.1 szb9
  have ne_a1_r9x : a1 ≠ r9x := Nat.ne_of_lt (Nat.lt_of_lt_of_le E_a1_e7.lt szq9)
  have ne_a1_b9x : a1 ≠ b9x := Nat.ne_of_lt (Nat.lt_of_lt_of_le E_a1_e7.lt szb9)
  have ne_b_r9x : b ≠ r9x := Nat.ne_of_lt (Nat.lt_of_lt_of_le A_b_e7.lt szq9)
  have ne_b_b9x : b ≠ b9x := Nat.ne_of_lt (Nat.lt_of_lt_of_le A_b_e7.lt szb9)
  have ne_b5_r9x : b5 ≠ r9x := Nat.ne_of_lt (Nat.lt_of_lt_of_le E_sb7.lt szq9)
  have ne_b5_b9x : b5 ≠ b9x := Nat.ne_of_lt (Nat.lt_of_lt_of_le E_sb7.lt szb9)
  have ne_r7x_r9x : r7x ≠ r9x := Nat.ne_of_lt (Nat.lt_of_lt_of_le Aq7.lt szq9)
  have ne_r7x_b9x : r7x ≠ b9x := Nat.ne_of_lt (Nat.lt_of_lt_of_le Aq7.lt szb9)
  have K9 := Kq9
  have E_a1_e9 := E_a1_e7.keep K9
  have Fv_e9 := Fv_e7.keep K9 nin0
  have Fc_e9 := Fc_e7.keep K9 nin0
  have A_b_e9 := A_b_e7.keep K9 nin0
  have E_sb7_e9 := E_sb7.keep K9
  have Fsbv7_e9 := Fsbv7.keep K9 nin0
  have Fsbc7_e9 := Fsbc7.keep K9 nin0
  have Fsbn7_e9 := Fsbn7.keep K9 nin0
  have Fsbm7_e9 := Fsbm7.keep K9 nin0
  have Aq7_e9 := Aq7.keep K9 nin0
  have O9 := O7.keep K9 all0
  have KK9 : Keep h0 T9.heap [] := KK7.trans K9 all0
  have hk := Nat.le_trans hk K9.1
  have CH := CHv.keep K9 sf0 CH
  have cn10 := fun (t : State) (kt : SF p e below T9 (mkF m 29 #[vr a1] [.ref r9x, .ref b5]) t) => cn8 t (by
    exact st9.trans kt)
  obtain ⟨Er, Frv, Frc, ⟨rfl, Ar, hPr⟩ | ⟨rfl, Ar, hPr⟩⟩ := SS9
  · rw [hpre.1] at Ar
    have hfr := own_L_fb hPr
    rw [hpre.1] at hfr
    obtain ⟨cq11, kq11, q11a, q11b, q11c⟩ := isOf hZ rfl E_sb7_e9
    obtain ⟨_, _, ⟨T11, L11, k11, n11⟩, -, X11, ⟨Lc11, hQ11, l11, y11, z11⟩, st11⟩ := X9.virtualBack hx (y := y44') (z := y44') hown (mvT hZ (wq hw 154 rfl)) (mvT hZ (wq hw 155 rfl)) (notFace_of_selects (args := #[]) (mvT hZ (wq hw 157 rfl))) (mvT hZ (wq hw 157 rfl)) (mvT hZ (wq hw 156 rfl)) (by decide) (backOf (W := 0) (rm34_0 l Z a0 hw [] b5 r7x kq7 f7 r9x b9x kq9 f9 co vf T9.heap n0 O9 g_b5 ⟨E_sb7_e9, Fsbv7_e9, Fsbc7_e9, Fsbn7_e9, Fsbm7_e9⟩ Aq7_e9 hfb7 Er Frv Frc Ar hfr SWh) hZ (wq hw 158 rfl) (wq hw 74 rfl) (by decide) (by decide)) q11a q11c (g := (mkF m 29 #[vr a1] [.ref r9x, .ref b5])) rfl (by rw [hml]; rfl) (Steps.refl _) (argsL := [(.ref r9x)]) (rest := []) (lenOf pd_35 rfl) rfl (Nat.le_refl _) (hb' d4_29) (fun _ _ => ⟨rfl, rfl, (by decide : 5 + 1 ≤ _), (by decide : 630 + 804 ≤ _)⟩)
    dsimp only [Pt.U, Pt.locs, Pt.cells, Pt.slots] at X11 l11 y11 z11 st11 hQ11
    subst l11 y11 z11
    obtain ⟨r11x, kq11, f11, rfl, Nq11, Kq11, szq11, ⟨E_sb11, Fsbv11, Fsbc11, Fsbn11, Fsbm11⟩, Aq11, hfb11, hB11⟩ := hQ11
    have N11 := Fr.app N9 Nq11
    have sz_r11x : h0.size ≤ r11x := Nat.le_trans KK9.1 szq11
    have g_r11x : n0 ≤ r11x := Nat.le_trans (O0.1 ▸ O0.2.1) sz_r11x
    have ne_a1_r11x : a1 ≠ r11x := Nat.ne_of_lt (Nat.lt_of_lt_of_le E_a1_e9.lt szq11)
    have ne_b_r11x : b ≠ r11x := Nat.ne_of_lt (Nat.lt_of_lt_of_le A_b_e9.lt szq11)
    have ne_b5_r11x : b5 ≠ r11x := Nat.ne_of_lt (Nat.lt_of_lt_of_le E_sb7_e9.lt szq11)
    have ne_r7x_r11x : r7x ≠ r11x := Nat.ne_of_lt (Nat.lt_of_lt_of_le Aq7_e9.lt szq11)
    have ne_r9x_r11x : r9x ≠ r11x := Nat.ne_of_lt (Nat.lt_of_lt_of_le Er.lt szq11)
    have ne_b9x_r11x : b9x ≠ r11x := Nat.ne_of_lt (Nat.lt_of_lt_of_le Ar.lt szq11)
    have K11 := Kq11
    have E_a1_e11 := E_a1_e9.keep K11
    have Fv_e11 := Fv_e9.keep K11 (ninS ne_a1_b5 nin0)
    have Fc_e11 := Fc_e9.keep K11 (ninS ne_a1_b5 nin0)
    have A_b_e11 := A_b_e9.keep K11 (ninS ne_b_b5 nin0)
    have E_sb7_e11 := E_sb7_e9.keep K11
    have Aq7_e11 := Aq7_e9.keep K11 (ninS (Ne.symm ne_b5_r7x) nin0)
    have Er_e11 := Er.keep K11
    have Frv_e11 := Frv.keep K11 (ninS (Ne.symm ne_b5_r9x) nin0)
    have Frc_e11 := Frc.keep K11 (ninS (Ne.symm ne_b5_r9x) nin0)
    have Ar_e11 := Ar.keep K11 (ninS (Ne.symm ne_b5_b9x) nin0)
    have O11 := O9.keep K11 (allS g_b5 all0)
    have KK11 : Keep h0 T11.heap [] := KK9.trans K11 (allS (Or.inr sz_b5) all0)
    have hk := Nat.le_trans hk K11.1
    have CH := CHv.keep K11 (sfS (Safe.exa hZ.alike E_sb7_e9 (by decide) (by decide)) sf0) CH
    have cn12 := fun (t : State) (kt : SF p e below T11 (mkF m 32 #[vr a1] [.ref b5]) t) => cn10 t (by
      exact st11.trans kt)
    obtain ⟨b13, T13, h13, k113, c13x, kc13, X13, e13, E13, hS, hk, hZ, hown, A13, Fcoder_13, Fvalue_13, V13, st13⟩ := own_ldcW (s := s) X11 hx hZ hown (wq hw 224 rfl) wS rfl hS hk hEL (List.mem_of_getElem? (i := 0) rfl) CH (vs := [(.int (46 : Int32)), (.int (46 : Int32)), (.int (46 : Int32))]) (z := (3 : Int32)) ⟨by decide, rfl⟩ (by decide) rfl (g := (mkF m 32 #[vr a1] [.ref b5])) rfl (hb' d4_32) (n := 12) (by decide) (by decide) (by decide) (by decide)
    have E_a1_e13 := E_a1_e11.ext E13
    have Fv_e13 := Fv_e11.ext E13
    have Fc_e13 := Fc_e11.ext E13
    have A_b_e13 := A_b_e11.ext E13
    have E_sb11_e13 := E_sb11.ext E13
    have Aq7_e13 := Aq7_e11.ext E13
    have Er_e13 := Er_e11.ext E13
    have Frv_e13 := Frv_e11.ext E13
    have Frc_e13 := Frc_e11.ext E13
    have Ar_e13 := Ar_e11.ext E13
    have Fsbv11_e13 := Fsbv11.ext E13
    have Fsbc11_e13 := Fsbc11.ext E13
    have Fsbn11_e13 := Fsbn11.ext E13
    have Fsbm11_e13 := Fsbm11.ext E13
    have Aq11_e13 := Aq11.ext E13
    have O13 := O11.ext E13
    have K13 : Keep h0 h13 [] := KK11.ext E13
    have AFl : AF Z h13 c13x kc13 .byte 3 (fun j => [.int (46 : Int32), .int (46 : Int32), .int (46 : Int32)].getD j (.int (0 : Int32))) := AF.of_arv (n := 3) V13 rfl
    have hdots : own_dots (fun j => [.int (46 : Int32), .int (46 : Int32), .int (46 : Int32)].getD j (.int (0 : Int32))) := fun j hj => by
      match j, hj with
      | 0, _ => rfl
      | 1, _ => rfl
      | 2, _ => rfl
    have hfl : own_fb 3 (fun j => [.int (46 : Int32), .int (46 : Int32), .int (46 : Int32)].getD j (.int (0 : Int32))) := fun j hj => by
      rw [hdots j hj]
      rfl
    have cn14 := fun (t : State) (kt : SF p e below T13 (mkF m 35 #[vr a1] [.ref b13, .ref b5]) t) => cn12 t (by
      exact st13 _ kt)
    obtain ⟨cq15, kq15, q15a, q15b, q15c⟩ := isOf hZ e13 E_sb11_e13
    obtain ⟨_, _, ⟨T15, L15, k15, n15⟩, -, X15, ⟨Lc15, hQ15, l15, y15, z15⟩, st15⟩ := X13.virtualBack hx (y := y44') (z := y44') hown (mvT hZ (wq hw 154 rfl)) (mvT hZ (wq hw 155 rfl)) (notFace_of_selects (args := #[]) (mvT hZ (wq hw 157 rfl))) (mvT hZ (wq hw 157 rfl)) (mvT hZ (wq hw 156 rfl)) (by decide) (backOf (W := 0) (rm34_2 l Z a0 hw [] b5 r11x kq11 f11 b13 c13x kc13 (fun j => [.int (46 : Int32), .int (46 : Int32), .int (46 : Int32)].getD j (.int (0 : Int32))) co vf h13 n0 O13 g_b5 ⟨E_sb11_e13, Fsbv11_e13, Fsbc11_e13, Fsbn11_e13, Fsbm11_e13⟩ Aq11_e13 hfb11 A13 Fvalue_13 Fcoder_13 AFl hfl hdots SWh) hZ (wq hw 158 rfl) (wq hw 74 rfl) (by decide) (by decide)) q15a q15c (g := (mkF m 35 #[vr a1] [.ref b13, .ref b5])) rfl (by rw [hml]; rfl) (Steps.refl _) (argsL := [(.ref b13)]) (rest := []) (lenOf pd_35 rfl) rfl (Nat.le_refl _) (hb' d4_35) (fun _ _ => ⟨rfl, e13, (by decide : 8 + 1 ≤ _), (by decide : 1450 + 804 ≤ _)⟩)
    dsimp only [Pt.U, Pt.locs, Pt.cells, Pt.slots] at X15 l15 y15 z15 st15 hQ15
    subst l15 y15 z15
    obtain ⟨r15x, kq15, f15, rfl, Nq15, Kq15, szq15, ⟨E_sb15, Fsbv15, Fsbc15, Fsbn15, Fsbm15⟩, Aq15, hfb15, hB15⟩ := hQ15
    have N15 := Fr.app N11 Nq15
    have sz_r15x : h0.size ≤ r15x := Nat.le_trans K13.1 szq15
    have g_r15x : n0 ≤ r15x := Nat.le_trans (O0.1 ▸ O0.2.1) sz_r15x
    have ne_a1_r15x : a1 ≠ r15x := Nat.ne_of_lt (Nat.lt_of_lt_of_le E_a1_e13.lt szq15)
    have ne_b_r15x : b ≠ r15x := Nat.ne_of_lt (Nat.lt_of_lt_of_le A_b_e13.lt szq15)
    have ne_b5_r15x : b5 ≠ r15x := Nat.ne_of_lt (Nat.lt_of_lt_of_le E_sb11_e13.lt szq15)
    have ne_r7x_r15x : r7x ≠ r15x := Nat.ne_of_lt (Nat.lt_of_lt_of_le Aq7_e13.lt szq15)
    have ne_r9x_r15x : r9x ≠ r15x := Nat.ne_of_lt (Nat.lt_of_lt_of_le Er_e13.lt szq15)
    have ne_b9x_r15x : b9x ≠ r15x := Nat.ne_of_lt (Nat.lt_of_lt_of_le Ar_e13.lt szq15)
    have ne_r11x_r15x : r11x ≠ r15x := Nat.ne_of_lt (Nat.lt_of_lt_of_le Aq11_e13.lt szq15)
    have ne_b13_r15x : b13 ≠ r15x := Nat.ne_of_lt (Nat.lt_of_lt_of_le A13.lt szq15)
    have ne_c13x_r15x : c13x ≠ r15x := Nat.ne_of_lt (Nat.lt_of_lt_of_le AFl.lt szq15)
    have K15 := Kq15
    have E_a1_e15 := E_a1_e13.keep K15
    have Fv_e15 := Fv_e13.keep K15 (ninS ne_a1_b5 nin0)
    have Fc_e15 := Fc_e13.keep K15 (ninS ne_a1_b5 nin0)
    have A_b_e15 := A_b_e13.keep K15 (ninS ne_b_b5 nin0)
    have E_sb11_e15 := E_sb11_e13.keep K15
    have Aq7_e15 := Aq7_e13.keep K15 (ninS (Ne.symm ne_b5_r7x) nin0)
    have Er_e15 := Er_e13.keep K15
    have Frv_e15 := Frv_e13.keep K15 (ninS (Ne.symm ne_b5_r9x) nin0)
    have Frc_e15 := Frc_e13.keep K15 (ninS (Ne.symm ne_b5_r9x) nin0)
    have Ar_e15 := Ar_e13.keep K15 (ninS (Ne.symm ne_b5_b9x) nin0)
    have Aq11_e15 := Aq11_e13.keep K15 (ninS (Ne.symm ne_b5_r11x) nin0)
    have A13_e15 := A13.keep K15
    have Fcoder_13_e15 := Fcoder_13.keep K15 (ninS (Exa.ne A13 E_sb11_e13 (by decide)) nin0)
    have Fvalue_13_e15 := Fvalue_13.keep K15 (ninS (Exa.ne A13 E_sb11_e13 (by decide)) nin0)
    have AFl_e15 := AFl.keep K15 (ninS (Ne.symm (own_neA E_sb11_e13 AFl (wq hw 73 rfl))) nin0)
    have O15 := O13.keep K15 (allS g_b5 all0)
    have KK15 : Keep h0 T15.heap [] := K13.trans K15 (allS (Or.inr sz_b5) all0)
    have hk := Nat.le_trans hk K15.1
    have cn16 := fun (t : State) (kt : SF p e below T15 (mkF m 38 #[vr a1] [.ref b5]) t) => cn14 t (by
      exact st15.trans kt)
    obtain ⟨cq17, kq17, q17a, q17b, q17c⟩ := isOf hZ rfl E_sb15
    obtain ⟨_, _, ⟨T17, L17, k17, n17⟩, -, X17, ⟨Lc17, hQ17, l17, y17, z17⟩, st17⟩ := X15.virtualBack hx (y := y50') (z := y50') hown (mvT hZ (wq hw 226 rfl)) (mvT hZ (wq hw 227 rfl)) (notFace_of_selects (args := #[]) (mvT hZ (wq hw 229 rfl))) (mvT hZ (wq hw 229 rfl)) (mvT hZ (wq hw 228 rfl)) (by decide) (backOf (W := 0) (rm48_0 l Z a0 hw [] b5 r15x kq15 f15 co vf T15.heap n0 O15 g_b5 ⟨E_sb15, Fsbv15, Fsbc15, Fsbn15, Fsbm15⟩ Aq15 hfb15 SWh) hZ (wq hw 230 rfl) (wq hw 74 rfl) (by decide) (by decide)) q17a q17c (g := (mkF m 38 #[vr a1] [.ref b5])) rfl (by rw [hml]; rfl) (Steps.refl _) (argsL := []) (rest := []) (lenOf pd_36 rfl) rfl (Nat.le_refl _) (hb' d4_38) (fun _ _ => ⟨rfl, rfl, (by decide : 9 + 2 ≤ _), (by decide : 2254 + 410 ≤ _)⟩)
    dsimp only [Pt.U, Pt.locs, Pt.cells, Pt.slots] at X17 l17 y17 z17 st17 hQ17
    subst l17 y17 z17
    obtain ⟨x17x, r17x, kq17, f17, rfl, Nq17, Kq17, szx17, szq17, Ex17, Fv17, Fc17, Aq17, hcp17⟩ := hQ17
    have N17 := Fr.app N15 Nq17
    have sz_x17x : h0.size ≤ x17x := Nat.le_trans KK15.1 szx17
    have sz_r17x : h0.size ≤ r17x := Nat.le_trans KK15.1 szq17
    have K17 := Kq17
    have E_a1_e17 := E_a1_e15.keep K17
    have Fv_e17 := Fv_e15.keep K17 nin0
    have Fc_e17 := Fc_e15.keep K17 nin0
    have A_b_e17 := A_b_e15.keep K17 nin0
    have E_sb15_e17 := E_sb15.keep K17
    have Aq7_e17 := Aq7_e15.keep K17 nin0
    have Er_e17 := Er_e15.keep K17
    have Frv_e17 := Frv_e15.keep K17 nin0
    have Frc_e17 := Frc_e15.keep K17 nin0
    have Ar_e17 := Ar_e15.keep K17 nin0
    have Aq11_e17 := Aq11_e15.keep K17 nin0
    have A13_e17 := A13_e15.keep K17
    have Fcoder_13_e17 := Fcoder_13_e15.keep K17 nin0
    have Fvalue_13_e17 := Fvalue_13_e15.keep K17 nin0
    have AFl_e17 := AFl_e15.keep K17 nin0
    have Fsbv15_e17 := Fsbv15.keep K17 nin0
    have Fsbc15_e17 := Fsbc15.keep K17 nin0
    have Fsbn15_e17 := Fsbn15.keep K17 nin0
    have Fsbm15_e17 := Fsbm15.keep K17 nin0
    have Aq15_e17 := Aq15.keep K17 nin0
    have O17 := O15.keep K17 all0
    have KK17 : Keep h0 T17.heap [] := KK15.trans K17 all0
    have hk := Nat.le_trans hk K17.1
    have cn18 := fun (t : State) (kt : SF p e below T17 (mkF m 41 #[vr a1] [.ref x17x]) t) => cn16 t (by
      exact st17.trans kt)
    obtain ⟨frs, hr, hrun, hended, hRW⟩ := X17.leaveW hS hk (v := some (.ref x17x)) (fun h => by rw [Bd.returns] at h; cases h)
    refine ⟨_, _, cn18 _ ?_, hrun, hended, _, _, rfl, ?_, hRW.1, hRW.2.1, hRW.2.2.1, hRW.2.2.2.mono (by decide) (by decide)⟩
    · jvm_step X17.here [X17.here.top, hx, (hb' d4_41), X17.method', Bd.returns, Value.isRef, FieldType.isReference]
      first | (intro acts; rw [hr _ acts rfl rfl rfl]) | rw [hr _ _ rfl rfl rfl]
      exact Steps.refl _
    · show QSU Z ts h0 n0 _ T17.heap _
      exact ⟨x17x, r17x, _, _, _, rfl, N17, KK17, sz_x17x, sz_r17x, Ex17, Fv17, Fc17, Or.inl ⟨rfl, by rw [hts.1]; exact Aq17, own_catL hpre.1 hts hPr hB11 hB15 hdots hcp17⟩⟩
  · rw [hpre.1] at Ar
    have hfr := own_U_fb hPr.1
    rw [hpre.1] at hfr
    obtain ⟨cq19, kq19, q19a, q19b, q19c⟩ := isOf hZ rfl E_sb7_e9
    obtain ⟨_, _, ⟨T19, L19, k19, n19⟩, -, X19, ⟨Lc19, hQ19, l19, y19, z19⟩, st19⟩ := X9.virtualBack hx (y := y44') (z := y44') hown (mvT hZ (wq hw 154 rfl)) (mvT hZ (wq hw 155 rfl)) (notFace_of_selects (args := #[]) (mvT hZ (wq hw 157 rfl))) (mvT hZ (wq hw 157 rfl)) (mvT hZ (wq hw 156 rfl)) (by decide) (backOf (W := 0) (rm34_1 l Z a0 hw [] b5 r7x kq7 f7 r9x b9x kq9 f9 co vf T9.heap n0 O9 g_b5 ⟨E_sb7_e9, Fsbv7_e9, Fsbc7_e9, Fsbn7_e9, Fsbm7_e9⟩ Aq7_e9 hfb7 Er Frv Frc Ar hfr SWh) hZ (wq hw 158 rfl) (wq hw 74 rfl) (by decide) (by decide)) q19a q19c (g := (mkF m 29 #[vr a1] [.ref r9x, .ref b5])) rfl (by rw [hml]; rfl) (Steps.refl _) (argsL := [(.ref r9x)]) (rest := []) (lenOf pd_35 rfl) rfl (Nat.le_refl _) (hb' d4_29) (fun _ _ => ⟨rfl, rfl, (by decide : 5 + 2 ≤ _), (by decide : 630 + 1608 ≤ _)⟩)
    dsimp only [Pt.U, Pt.locs, Pt.cells, Pt.slots] at X19 l19 y19 z19 st19 hQ19
    subst l19 y19 z19
    obtain ⟨r19x, kq19, f19, rfl, Nq19, Kq19, szq19, ⟨E_sb19, Fsbv19, Fsbc19, Fsbn19, Fsbm19⟩, Aq19, hfb19, hB19⟩ := hQ19
    have N19 := Fr.app N9 Nq19
    have sz_r19x : h0.size ≤ r19x := Nat.le_trans KK9.1 szq19
    have g_r19x : n0 ≤ r19x := Nat.le_trans (O0.1 ▸ O0.2.1) sz_r19x
    have ne_a1_r19x : a1 ≠ r19x := Nat.ne_of_lt (Nat.lt_of_lt_of_le E_a1_e9.lt szq19)
    have ne_b_r19x : b ≠ r19x := Nat.ne_of_lt (Nat.lt_of_lt_of_le A_b_e9.lt szq19)
    have ne_b5_r19x : b5 ≠ r19x := Nat.ne_of_lt (Nat.lt_of_lt_of_le E_sb7_e9.lt szq19)
    have ne_r7x_r19x : r7x ≠ r19x := Nat.ne_of_lt (Nat.lt_of_lt_of_le Aq7_e9.lt szq19)
    have ne_r9x_r19x : r9x ≠ r19x := Nat.ne_of_lt (Nat.lt_of_lt_of_le Er.lt szq19)
    have ne_b9x_r19x : b9x ≠ r19x := Nat.ne_of_lt (Nat.lt_of_lt_of_le Ar.lt szq19)
    have K19 := Kq19
    have E_a1_e19 := E_a1_e9.keep K19
    have Fv_e19 := Fv_e9.keep K19 (ninS ne_a1_b5 nin0)
    have Fc_e19 := Fc_e9.keep K19 (ninS ne_a1_b5 nin0)
    have A_b_e19 := A_b_e9.keep K19 (ninS ne_b_b5 nin0)
    have E_sb7_e19 := E_sb7_e9.keep K19
    have Aq7_e19 := Aq7_e9.keep K19 (ninS (Ne.symm ne_b5_r7x) nin0)
    have Er_e19 := Er.keep K19
    have Frv_e19 := Frv.keep K19 (ninS (Ne.symm ne_b5_r9x) nin0)
    have Frc_e19 := Frc.keep K19 (ninS (Ne.symm ne_b5_r9x) nin0)
    have Ar_e19 := Ar.keep K19 (ninS (Ne.symm ne_b5_b9x) nin0)
    have O19 := O9.keep K19 (allS g_b5 all0)
    have KK19 : Keep h0 T19.heap [] := KK9.trans K19 (allS (Or.inr sz_b5) all0)
    have hk := Nat.le_trans hk K19.1
    have CH := CHv.keep K19 (sfS (Safe.exa hZ.alike E_sb7_e9 (by decide) (by decide)) sf0) CH
    have cn20 := fun (t : State) (kt : SF p e below T19 (mkF m 32 #[vr a1] [.ref b5]) t) => cn10 t (by
      exact st19.trans kt)
    obtain ⟨b21, T21, h21, k121, c21x, kc21, X21, e21, E21, hS, hk, hZ, hown, A21, Fcoder_21, Fvalue_21, V21, st21⟩ := own_ldcW (s := s) X19 hx hZ hown (wq hw 224 rfl) wS rfl hS hk hEL (List.mem_of_getElem? (i := 0) rfl) CH (vs := [(.int (46 : Int32)), (.int (46 : Int32)), (.int (46 : Int32))]) (z := (3 : Int32)) ⟨by decide, rfl⟩ (by decide) rfl (g := (mkF m 32 #[vr a1] [.ref b5])) rfl (hb' d4_32) (n := 12) (by decide) (by decide) (by decide) (by decide)
    have E_a1_e21 := E_a1_e19.ext E21
    have Fv_e21 := Fv_e19.ext E21
    have Fc_e21 := Fc_e19.ext E21
    have A_b_e21 := A_b_e19.ext E21
    have E_sb19_e21 := E_sb19.ext E21
    have Aq7_e21 := Aq7_e19.ext E21
    have Er_e21 := Er_e19.ext E21
    have Frv_e21 := Frv_e19.ext E21
    have Frc_e21 := Frc_e19.ext E21
    have Ar_e21 := Ar_e19.ext E21
    have Fsbv19_e21 := Fsbv19.ext E21
    have Fsbc19_e21 := Fsbc19.ext E21
    have Fsbn19_e21 := Fsbn19.ext E21
    have Fsbm19_e21 := Fsbm19.ext E21
    have Aq19_e21 := Aq19.ext E21
    have O21 := O19.ext E21
    have K21 : Keep h0 h21 [] := KK19.ext E21
    have AFl : AF Z h21 c21x kc21 .byte 3 (fun j => [.int (46 : Int32), .int (46 : Int32), .int (46 : Int32)].getD j (.int (0 : Int32))) := AF.of_arv (n := 3) V21 rfl
    have hdots : own_dots (fun j => [.int (46 : Int32), .int (46 : Int32), .int (46 : Int32)].getD j (.int (0 : Int32))) := fun j hj => by
      match j, hj with
      | 0, _ => rfl
      | 1, _ => rfl
      | 2, _ => rfl
    have hfl : own_fb 3 (fun j => [.int (46 : Int32), .int (46 : Int32), .int (46 : Int32)].getD j (.int (0 : Int32))) := fun j hj => by
      rw [hdots j hj]
      rfl
    have cn22 := fun (t : State) (kt : SF p e below T21 (mkF m 35 #[vr a1] [.ref b21, .ref b5]) t) => cn20 t (by
      exact st21 _ kt)
    obtain ⟨cq23, kq23, q23a, q23b, q23c⟩ := isOf hZ e21 E_sb19_e21
    obtain ⟨_, _, ⟨T23, L23, k23, n23⟩, -, X23, ⟨Lc23, hQ23, l23, y23, z23⟩, st23⟩ := X21.virtualBack hx (y := y44') (z := y44') hown (mvT hZ (wq hw 154 rfl)) (mvT hZ (wq hw 155 rfl)) (notFace_of_selects (args := #[]) (mvT hZ (wq hw 157 rfl))) (mvT hZ (wq hw 157 rfl)) (mvT hZ (wq hw 156 rfl)) (by decide) (backOf (W := 0) (rm34_3 l Z a0 hw [] b5 r19x kq19 f19 b21 c21x kc21 (fun j => [.int (46 : Int32), .int (46 : Int32), .int (46 : Int32)].getD j (.int (0 : Int32))) co vf h21 n0 O21 g_b5 ⟨E_sb19_e21, Fsbv19_e21, Fsbc19_e21, Fsbn19_e21, Fsbm19_e21⟩ Aq19_e21 hfb19 A21 Fvalue_21 Fcoder_21 AFl hfl hdots SWh) hZ (wq hw 158 rfl) (wq hw 74 rfl) (by decide) (by decide)) q23a q23c (g := (mkF m 35 #[vr a1] [.ref b21, .ref b5])) rfl (by rw [hml]; rfl) (Steps.refl _) (argsL := [(.ref b21)]) (rest := []) (lenOf pd_35 rfl) rfl (Nat.le_refl _) (hb' d4_35) (fun _ _ => ⟨rfl, e21, (by decide : 9 + 1 ≤ _), (by decide : 2254 + 804 ≤ _)⟩)
    dsimp only [Pt.U, Pt.locs, Pt.cells, Pt.slots] at X23 l23 y23 z23 st23 hQ23
    subst l23 y23 z23
    obtain ⟨r23x, kq23, f23, rfl, Nq23, Kq23, szq23, ⟨E_sb23, Fsbv23, Fsbc23, Fsbn23, Fsbm23⟩, Aq23, hfb23, hB23⟩ := hQ23
    have N23 := Fr.app N19 Nq23
    have sz_r23x : h0.size ≤ r23x := Nat.le_trans K21.1 szq23
    have g_r23x : n0 ≤ r23x := Nat.le_trans (O0.1 ▸ O0.2.1) sz_r23x
    have ne_a1_r23x : a1 ≠ r23x := Nat.ne_of_lt (Nat.lt_of_lt_of_le E_a1_e21.lt szq23)
    have ne_b_r23x : b ≠ r23x := Nat.ne_of_lt (Nat.lt_of_lt_of_le A_b_e21.lt szq23)
    have ne_b5_r23x : b5 ≠ r23x := Nat.ne_of_lt (Nat.lt_of_lt_of_le E_sb19_e21.lt szq23)
    have ne_r7x_r23x : r7x ≠ r23x := Nat.ne_of_lt (Nat.lt_of_lt_of_le Aq7_e21.lt szq23)
    have ne_r9x_r23x : r9x ≠ r23x := Nat.ne_of_lt (Nat.lt_of_lt_of_le Er_e21.lt szq23)
    have ne_b9x_r23x : b9x ≠ r23x := Nat.ne_of_lt (Nat.lt_of_lt_of_le Ar_e21.lt szq23)
    have ne_r19x_r23x : r19x ≠ r23x := Nat.ne_of_lt (Nat.lt_of_lt_of_le Aq19_e21.lt szq23)
    have ne_b21_r23x : b21 ≠ r23x := Nat.ne_of_lt (Nat.lt_of_lt_of_le A21.lt szq23)
    have ne_c21x_r23x : c21x ≠ r23x := Nat.ne_of_lt (Nat.lt_of_lt_of_le AFl.lt szq23)
    have K23 := Kq23
    have E_a1_e23 := E_a1_e21.keep K23
    have Fv_e23 := Fv_e21.keep K23 (ninS ne_a1_b5 nin0)
    have Fc_e23 := Fc_e21.keep K23 (ninS ne_a1_b5 nin0)
    have A_b_e23 := A_b_e21.keep K23 (ninS ne_b_b5 nin0)
    have E_sb19_e23 := E_sb19_e21.keep K23
    have Aq7_e23 := Aq7_e21.keep K23 (ninS (Ne.symm ne_b5_r7x) nin0)
    have Er_e23 := Er_e21.keep K23
    have Frv_e23 := Frv_e21.keep K23 (ninS (Ne.symm ne_b5_r9x) nin0)
    have Frc_e23 := Frc_e21.keep K23 (ninS (Ne.symm ne_b5_r9x) nin0)
    have Ar_e23 := Ar_e21.keep K23 (ninS (Ne.symm ne_b5_b9x) nin0)
    have Aq19_e23 := Aq19_e21.keep K23 (ninS (Ne.symm ne_b5_r19x) nin0)
    have A21_e23 := A21.keep K23
    have Fcoder_21_e23 := Fcoder_21.keep K23 (ninS (Exa.ne A21 E_sb19_e21 (by decide)) nin0)
    have Fvalue_21_e23 := Fvalue_21.keep K23 (ninS (Exa.ne A21 E_sb19_e21 (by decide)) nin0)
    have AFl_e23 := AFl.keep K23 (ninS (Ne.symm (own_neA E_sb19_e21 AFl (wq hw 73 rfl))) nin0)
    have O23 := O21.keep K23 (allS g_b5 all0)
    have KK23 : Keep h0 T23.heap [] := K21.trans K23 (allS (Or.inr sz_b5) all0)
    have hk := Nat.le_trans hk K23.1
    have cn24 := fun (t : State) (kt : SF p e below T23 (mkF m 38 #[vr a1] [.ref b5]) t) => cn22 t (by
      exact st23.trans kt)
    obtain ⟨cq25, kq25, q25a, q25b, q25c⟩ := isOf hZ rfl E_sb23
    obtain ⟨_, _, ⟨T25, L25, k25, n25⟩, -, X25, ⟨Lc25, hQ25, l25, y25, z25⟩, st25⟩ := X23.virtualBack hx (y := y50') (z := y50') hown (mvT hZ (wq hw 226 rfl)) (mvT hZ (wq hw 227 rfl)) (notFace_of_selects (args := #[]) (mvT hZ (wq hw 229 rfl))) (mvT hZ (wq hw 229 rfl)) (mvT hZ (wq hw 228 rfl)) (by decide) (backOf (W := 0) (rm48_1 l Z a0 hw [] b5 r23x kq23 f23 co vf T23.heap n0 O23 g_b5 ⟨E_sb23, Fsbv23, Fsbc23, Fsbn23, Fsbm23⟩ Aq23 hfb23 SWh) hZ (wq hw 230 rfl) (wq hw 74 rfl) (by decide) (by decide)) q25a q25c (g := (mkF m 38 #[vr a1] [.ref b5])) rfl (by rw [hml]; rfl) (Steps.refl _) (argsL := []) (rest := []) (lenOf pd_36 rfl) rfl (Nat.le_refl _) (hb' d4_38) (fun _ _ => ⟨rfl, rfl, (by decide : 10 + 2 ≤ _), (by decide : 3058 + 410 ≤ _)⟩)
    dsimp only [Pt.U, Pt.locs, Pt.cells, Pt.slots] at X25 l25 y25 z25 st25 hQ25
    subst l25 y25 z25
    obtain ⟨x25x, r25x, kq25, f25, rfl, Nq25, Kq25, szx25, szq25, Ex25, Fv25, Fc25, Aq25, hcp25⟩ := hQ25
    have N25 := Fr.app N23 Nq25
    have sz_x25x : h0.size ≤ x25x := Nat.le_trans KK23.1 szx25
    have sz_r25x : h0.size ≤ r25x := Nat.le_trans KK23.1 szq25
    have K25 := Kq25
    have E_a1_e25 := E_a1_e23.keep K25
    have Fv_e25 := Fv_e23.keep K25 nin0
    have Fc_e25 := Fc_e23.keep K25 nin0
    have A_b_e25 := A_b_e23.keep K25 nin0
    have E_sb23_e25 := E_sb23.keep K25
    have Aq7_e25 := Aq7_e23.keep K25 nin0
    have Er_e25 := Er_e23.keep K25
    have Frv_e25 := Frv_e23.keep K25 nin0
    have Frc_e25 := Frc_e23.keep K25 nin0
    have Ar_e25 := Ar_e23.keep K25 nin0
    have Aq19_e25 := Aq19_e23.keep K25 nin0
    have A21_e25 := A21_e23.keep K25
    have Fcoder_21_e25 := Fcoder_21_e23.keep K25 nin0
    have Fvalue_21_e25 := Fvalue_21_e23.keep K25 nin0
    have AFl_e25 := AFl_e23.keep K25 nin0
    have Fsbv23_e25 := Fsbv23.keep K25 nin0
    have Fsbc23_e25 := Fsbc23.keep K25 nin0
    have Fsbn23_e25 := Fsbn23.keep K25 nin0
    have Fsbm23_e25 := Fsbm23.keep K25 nin0
    have Aq23_e25 := Aq23.keep K25 nin0
    have O25 := O23.keep K25 all0
    have KK25 : Keep h0 T25.heap [] := KK23.trans K25 all0
    have hk := Nat.le_trans hk K25.1
    have cn26 := fun (t : State) (kt : SF p e below T25 (mkF m 41 #[vr a1] [.ref x25x]) t) => cn24 t (by
      exact st25.trans kt)
    obtain ⟨frs, hr, hrun, hended, hRW⟩ := X25.leaveW hS hk (v := some (.ref x25x)) (fun h => by rw [Bd.returns] at h; cases h)
    refine ⟨_, _, cn26 _ ?_, hrun, hended, _, _, rfl, ?_, hRW.1, hRW.2.1, hRW.2.2.1, hRW.2.2.2.mono (by decide) (by decide)⟩
    · jvm_step X25.here [X25.here.top, hx, (hb' d4_41), X25.method', Bd.returns, Value.isRef, FieldType.isReference]
      first | (intro acts; rw [hr _ acts rfl rfl rfl]) | rw [hr _ _ rfl rfl rfl]
      exact Steps.refl _
    · show QSU Z ts h0 n0 _ T25.heap _
      exact ⟨x25x, r25x, _, _, _, rfl, N25, KK25, sz_x25x, sz_r25x, Ex25, Fv25, Fc25, Or.inr ⟨rfl, by rw [hts.1]; exact Aq25, own_catU hpre.1 hts hPr hB19 hB23 hcp25⟩⟩

def own_c16 (c : Int32) : Prop := 0 ≤ c.toInt ∧ c.toInt ≤ 65535
theorem own_chr (x : Int32) : own_c16 (x.toUInt32.toUInt16.toUInt32.toInt32) := by
  have q := c_i2c x
  exact ⟨by omega, by omega⟩
theorem own_nc {c : Int32} (h : own_c16 c) : nar .char c = c := own_nch h.1 h.2
theorem own_n46 : nar .char (46 : Int32) = 46 := own_nch (by decide) (by decide)
def own_isc (f : Nat → Value) : Prop := ∀ j, ∃ x, f j = .int x ∧ own_c16 x
theorem own_isc0 : own_isc (fun _ => defaultValue .char) := fun _ => ⟨0, rfl, by decide, by decide⟩
theorem own_iscU {f : Nat → Value} {i : Nat} {c : Int32} (h : own_isc f) (hc : own_c16 c) : own_isc (own_upd f i (.int c)) := fun j => by
  by_cases e : j = i
  · subst e
    exact ⟨c, own_upd_eq _ _ _, hc⟩
  · rw [own_upd_ne _ _ e]
    exact h j
def own_gi (f : Nat → Value) (j : Nat) : Int32 := match f j with
  | .int x => x
  | _ => 0
theorem own_tget {g : Nat → Int32} {n j : Nat} (h : j < n) : ((List.range n).map g).getD j 0 = g j := by simp [List.getD_eq_getElem?_getD, h]
theorem own_tout {g : Nat → Int32} {n j : Nat} (h : ¬ j < n) : ((List.range n).map g).getD j 0 = 0 := by
  have h' : n ≤ j := by omega
  simp [List.getD_eq_getElem?_getD, h']
theorem own_list {f : Nat → Value} (n : Nat) (h : own_isc f) : ∃ es : List Int32, es.length = n ∧ (∀ j, j < n → f j = .int (es.getD j 0)) ∧ own_u es := by
  have key : ∀ j, f j = .int (own_gi f j) ∧ own_c16 (own_gi f j) := fun j => by
    obtain ⟨x, hx, hc⟩ := h j
    have e : own_gi f j = x := by unfold own_gi; rw [hx]
    rw [e]
    exact ⟨hx, hc⟩
  refine ⟨(List.range n).map (own_gi f), by simp, fun j hj => ?_, fun j => ?_⟩
  · rw [own_tget hj]
    exact (key j).1
  · by_cases hj : j < n
    · rw [own_tget hj]
      exact (key j).2
    · rw [own_tout hj]
      decide
theorem own_tk {es : List Int32} (h : 200 ≤ es.length) : own_pre es (es.take 200) := ⟨by simp; omega, fun j hj => by simp [List.getD_eq_getElem?_getD, List.getElem?_take, hj]⟩
theorem own_tku {es : List Int32} (h : own_u es) : own_u (es.take 200) := fun j => by
  by_cases hj : j < 200
  · have e : (es.take 200).getD j 0 = es.getD j 0 := by simp [List.getD_eq_getElem?_getD, List.getElem?_take, hj]
    rw [e]
    exact h j
  · have e : (es.take 200).getD j 0 = 0 := by simp [List.getD_eq_getElem?_getD, List.getElem?_take, hj]
    rw [e]
    decide
def own_ts (es : List Int32) : List Int32 := (List.range 203).map fun j => if j < 200 then es.getD j 0 else 46
theorem own_tsl (es : List Int32) : (own_ts es).length = 203 := by simp [own_ts]
theorem own_tsg {es : List Int32} {j : Nat} (h : j < 203) : (own_ts es).getD j 0 = if j < 200 then es.getD j 0 else 46 := own_tget h
theorem own_tst {es : List Int32} (h : 200 ≤ es.length) : own_tl (es.take 200) (own_ts es) := ⟨own_tsl es, fun j hj => by rw [own_tsg (by omega), if_pos hj, (own_tk h).2 j hj], fun j hj => by rw [own_tsg (by omega), if_neg (by omega)]⟩
theorem own_tsu {es : List Int32} (h : own_u es) : own_u (own_ts es) := fun j => by
  by_cases hj : j < 203
  · rw [own_tsg hj]
    split
    · exact h j
    · decide
  · rw [show (own_ts es).getD j 0 = 0 from own_tout hj]
    decide
theorem own_fe {es : List Int32} (hmid : ∀ j, 0 < j → j < 199 → es.getD j 0 = 0) : ∀ j, j < 203 → own_upd (own_upd (own_upd (own_upd (own_upd (fun _ => defaultValue .char) 0 (.int (es.getD 0 0))) 199 (.int (es.getD 199 0))) 200 (.int (46 : Int32))) 201 (.int (46 : Int32))) 202 (.int (46 : Int32)) j = .int ((own_ts es).getD j 0) := fun j hj => by
  rw [own_tsg hj]
  have : j = 0 ∨ (0 < j ∧ j < 199) ∨ j = 199 ∨ j = 200 ∨ j = 201 ∨ j = 202 := by omega
  rcases this with rfl | ⟨a, c⟩ | rfl | rfl | rfl | rfl
  · rfl
  · rw [own_upd_ne _ _ (by omega), own_upd_ne _ _ (by omega), own_upd_ne _ _ (by omega), own_upd_ne _ _ (by omega), own_upd_ne _ _ (by omega), if_pos (by omega), hmid j a c]
    rfl
  · rfl
  · rfl
  · rfl
  · rfl

theorem pd_39 : parseMethodDescriptor "(Ljava/lang/Object;)Z" = some ⟨[(.object "java/lang/Object")], some .boolean⟩ := by decide +kernel
theorem pd_38 : parseMethodDescriptor "(Ljava/lang/String;)Ljava/lang/String;" = some ⟨[(.object "java/lang/String")], some (.object "java/lang/String")⟩ := by decide +kernel
theorem pd_37 : parseMethodDescriptor "([C)V" = some ⟨[(.array .char)], none⟩ := by decide +kernel
theorem pn_com_example_tickcross_tickcross_http_RequestStreamQuotedPinLaw : plainName "com/example/tickcross/tickcross/http/RequestStreamQuotedPinLaw" = true := by first | (simp [plainName, overriddenIn]; done) | decide +kernel
theorem ef_0 (m : MethodId) (x0 : Int32) (x1 : Int32) (x2 : Int32) (x3 : Int32) (x4 : Int32) : entryFrame m #[(.int x0), (.int x1), (.int x2), (.int x3), (.int x4)] maxLocals = mkF m 0 #[.val (.int x0), .val (.int x1), .val (.int x2), .val (.int x3), .val (.int x4), .unset, .unset, .unset, .unset, .unset, .unset] [] := by first | (simp [entryFrame, mkF, argsToLocals, Value.category, maxLocals]; done) | rfl
def Q0 (n0 : Nat) (v : Option Value) (h : Heap) (L : List Loc) : Prop := v = some (.int 1) ∧ Fr n0 L
theorem rm0 (l : Launch) (Z : State) (a0 : Array Value) (hw : HW a0 Z) (ws : List Jvm.Cond) (p1 p2 p3 p4 p5 : Int32) (co : Int32) (vf : Value) (h0 : Heap) (n0 : Nat) (O0 : Old Z n0 h0) (SWh : SW Z co vf) :
    MetFree l x (head1 (Jvm.Cond.code x code maxLocals ret :: ws) room_1) (fun aQ U => aQ = #[(.int p1), (.int p2), (.int p3), (.int p4), (.int p5)] ∧ Z.Warmed39 U.vm ∧ U.heap = h0 ∧ CHv Z consts_1 U.vm h0) (fun _ _ _ _ _ => True) (fun _ U o U' => ∃ v L, o = .returned v ∧ Q0 n0 v U'.heap L ∧ ReturnedEndW U o U' L 20 6491) := by
  refine MetFree.of_bodySF (plainFor_of_name pn_com_example_tickcross_tickcross_http_RequestStreamQuotedPinLaw) hisR ?_
  intro p e s m args below meth kode s₁ Bd hml0 hP hK
  obtain ⟨rfl, hZ, hh, CH⟩ := hP
  have hx := Bd.exec
  have hby := Bd.bytes
  have hb' := @hb _ _ hby
  have hml : kode.maxLocals = 11 := hml0
  have hown : s.vm.findClass "com/example/tickcross/tickcross/http/RequestStreamQuotedPinLaw" = some m.cls := findClass_of_methodNamed Bd.named
  have X0 : Stand p l e room_1 (s.setVm s.vm) m #[(.int p1), (.int p2), (.int p3), (.int p4), (.int p5)] below meth kode s₁ [] 0 0 := Stand.of_body Bd
  have e0 : s₁.heap = h0 := by rw [← hh, Bd.state]; rfl
  have N0 := Fr.nil n0
  have pre0 : ∀ t, SF p e below s₁ (mkF m 0 #[vi p1, vi p2, vi p3, vi p4, vi p5, .unset, .unset, .unset, .unset, .unset, .unset] []) t → SF p e below s₁ (entryFrame m #[(.int p1), (.int p2), (.int p3), (.int p4), (.int p5)] maxLocals) t := fun t k => castTop (ef_0 m p1 p2 p3 p4 p5) k
  have hS : s.Since s.vm 0 := (State.WarmedH.refl s).since 0
  have hk : 0 ≤ h0.size := Nat.zero_le _
  have wS : ∀ a ∈ Bundle.stringAtoms, a.before a0 Z = true := own_wS hw
  have hEL := own_EW hw
  have SWx := SWh
  obtain ⟨S_CS, hcs, S_AD, S_HI, S_LO, S_SI, hcat_vf⟩ := SWx
  have cn1 := fun (t : State) (kt : SF p e below s₁ (mkF m 6 #[vi p1, vi p2, vi p3, vi p4, vi p5, vi (p1 &&& (7 : Int32)), .unset, .unset, .unset, .unset, .unset] []) t) => pre0 t (by
    refine XS.iloadN X0.here hx rfl (hb' at_0) rfl ?_
    refine XS.bipush X0.here hx rfl (hb' at_1) ?_
    refine XS.iand X0.here hx rfl (hb' at_3) rfl ?_
    exact XS.istore X0.here hx rfl (hb' at_4) rfl (l' := #[vi p1, vi p2, vi p3, vi p4, vi p5, vi (p1 &&& (7 : Int32)), .unset, .unset, .unset, .unset, .unset]) rfl kt)
  refine cps (A := ∃ (TJ : State) (hJ : Heap) (lJ : List Loc) (vJ : Vm) (kJ : Nat) (bA : Addr) (kA : ClassId) (n : Nat), Stand p l e room_1 (s.setVm vJ) m #[(.int p1), (.int p2), (.int p3), (.int p4), (.int p5)] below meth kode TJ lJ 1 199 ∧ s.Since vJ kJ ∧ kJ ≤ hJ.size ∧ Z.Warmed39 (s.setVm vJ).vm ∧ (s.setVm vJ).vm.findClass "com/example/tickcross/tickcross/http/RequestStreamQuotedPinLaw" = some m.cls ∧ TJ.heap = hJ ∧ Fr n0 lJ ∧ Old Z n0 hJ ∧ Keep h0 hJ [] ∧ (1 ≤ n) ∧ (n ≤ 199) ∧ (n0 ≤ bA) ∧ (h0.size ≤ bA) ∧ (AF Z hJ bA kA .char n (fun _ => defaultValue .char)) ∧ (CHv Z consts_1 vJ hJ) ∧ ∀ t, SF p e below TJ (mkF m 119 #[vi p1, vi p2, vi p3, vi p4, vi p5, vi (p1 &&& (7 : Int32)), vr bA, .unset, .unset, .unset, .unset] []) t → SF p e below s₁ (entryFrame m #[(.int p1), (.int p2), (.int p3), (.int p4), (.int p5)] maxLocals) t) ?_ ?_
  · intro join2
    refine cps (A := ∃ (TJ : State) (hJ : Heap) (lJ : List Loc) (vJ : Vm) (kJ : Nat) (bA : Addr) (kA : ClassId) (n : Nat), Stand p l e room_1 (s.setVm vJ) m #[(.int p1), (.int p2), (.int p3), (.int p4), (.int p5)] below meth kode TJ lJ 1 400 ∧ s.Since vJ kJ ∧ kJ ≤ hJ.size ∧ Z.Warmed39 (s.setVm vJ).vm ∧ (s.setVm vJ).vm.findClass "com/example/tickcross/tickcross/http/RequestStreamQuotedPinLaw" = some m.cls ∧ TJ.heap = hJ ∧ Fr n0 lJ ∧ Old Z n0 hJ ∧ Keep h0 hJ [] ∧ (201 ≤ n) ∧ (n ≤ 400) ∧ (n0 ≤ bA) ∧ (h0.size ≤ bA) ∧ (AF Z hJ bA kA .char n (fun _ => defaultValue .char)) ∧ (CHv Z consts_1 vJ hJ) ∧ ∀ t, SF p e below TJ (mkF m 119 #[vi p1, vi p2, vi p3, vi p4, vi p5, vi (p1 &&& (7 : Int32)), vr bA, .unset, .unset, .unset, .unset] []) t → SF p e below s₁ (entryFrame m #[(.int p1), (.int p2), (.int p3), (.int p4), (.int p5)] maxLocals) t) ?_ ?_
    · intro join3
      have cn4 := fun (t : State) (kt : SF p e below s₁ (mkF m 8 #[vi p1, vi p2, vi p3, vi p4, vi p5, vi (p1 &&& (7 : Int32)), .unset, .unset, .unset, .unset, .unset] [.int (p1 &&& (7 : Int32))]) t) => cn1 t (by
        exact XS.iload X0.here hx rfl (hb' at_6) rfl kt)
      by_cases hc8_5 : (p1 &&& (7 : Int32)) = (0 : Int32)
      · have cn6 := fun (t : State) (kt : SF p e below s₁ (mkF m 12 #[vi p1, vi p2, vi p3, vi p4, vi p5, vi (p1 &&& (7 : Int32)), .unset, .unset, .unset, .unset, .unset] [.int 0]) t) => cn4 t (by
          refine XS.ifNo X0.here hx rfl (hb' at_8) rfl ((if0 _ _).trans (teq hc8_5).2) ?_
          exact XS.iconst X0.here hx rfl (hb' at_11) kt)
        obtain ⟨T7, h7, k7, X7, e7, E7, A7, st7⟩ := newP X0 hx hZ (wq hw 0 rfl) e0 (g := (mkF m 12 #[vi p1, vi p2, vi p3, vi p4, vi p5, vi (p1 &&& (7 : Int32)), .unset, .unset, .unset, .unset, .unset] [.int 0])) rfl (hb' at_12) rfl (by decide) (cap := 0) (by decide) (by decide) (by decide) (by decide)
        obtain ⟨b7, g7⟩ : ∃ z, z = h0.size := ⟨_, rfl⟩
        rw [← g7] at A7 st7
        have sz_b7 : h0.size ≤ b7 := Nat.le_trans (Keep.refl h0 []).1 (Nat.le_of_eq g7.symm)
        have g_b7 : n0 ≤ b7 := Nat.le_trans (O0.1 ▸ O0.2.1) sz_b7
        have O7 := O0.ext E7
        have K7 : Keep h0 h7 [] := (Keep.refl h0 []).ext E7
        have hk := Nat.le_trans hk E7.1
        have Y_b7 := Safe.ext E7 CH (Safe.new (Nat.le_of_eq g7.symm))
        have CH := CHv.ext E7 CH
        have AF7 : AF Z h7 b7 k7 .char 0 (fun _ => defaultValue .char) := AF.new A7 (by decide)
        have cn8 := fun (t : State) (kt : SF p e below T7 (mkF m 119 #[vi p1, vi p2, vi p3, vi p4, vi p5, vi (p1 &&& (7 : Int32)), vr b7, .unset, .unset, .unset, .unset] []) t) => cn6 t (by
          refine st7 _ ?_
          refine XS.astore X7.here hx rfl (hb' at_14) rfl rfl (l' := #[vi p1, vi p2, vi p3, vi p4, vi p5, vi (p1 &&& (7 : Int32)), vr b7, .unset, .unset, .unset, .unset]) rfl ?_
          exact XS.goto X7.here hx rfl (pc0 := 16) (pc' := 119) rfl (hb' at_16) (by decide) (by decide) kt)
        have cn9 := fun (t : State) (kt : SF p e below T7 (mkF m 121 #[vi p1, vi p2, vi p3, vi p4, vi p5, vi (p1 &&& (7 : Int32)), vr b7, .unset, .unset, .unset, .unset] [.ref b7]) t) => cn8 t (by
          exact XS.aload X7.here hx rfl (hb' at_119) rfl rfl kt)
        have AFx10 := AF7
        obtain ⟨cl10, Ar10, q10, S10, H10⟩ := AFx10
        have cn11 := fun (t : State) (kt : SF p e below T7 (mkF m 122 #[vi p1, vi p2, vi p3, vi p4, vi p5, vi (p1 &&& (7 : Int32)), vr b7, .unset, .unset, .unset, .unset] [.int (Nat.toInt32 0)]) t) => cn9 t (by
          refine X7.arraylength hx (by rw [e7]; exact Ar10.1) (State.isArrayOf_alike hZ.alike Ar10.2.1) (g := (mkF m 121 #[vi p1, vi p2, vi p3, vi p4, vi p5, vi (p1 &&& (7 : Int32)), vr b7, .unset, .unset, .unset, .unset] [.ref b7])) rfl rfl (hb' at_121) _ ?_
          rw [S10]
          exact kt)
        have cn12 : ∀ t, SF p e below T7 (mkF m 122 #[vi p1, vi p2, vi p3, vi p4, vi p5, vi (p1 &&& (7 : Int32)), vr b7, .unset, .unset, .unset, .unset] [.int 0]) t → SF p e below s₁ (entryFrame m #[(.int p1), (.int p2), (.int p3), (.int p4), (.int p5)] maxLocals) t := by have q := cn11; rw [(id (rfl) : (Nat.toInt32 0) = (0 : Int32))] at q; exact q
        have cn13 := fun (t : State) (kt : SF p e below T7 (mkF m 126 #[vi p1, vi p2, vi p3, vi p4, vi p5, vi (p1 &&& (7 : Int32)), vr b7, vi 0, .unset, .unset, .unset] [.int 0]) t) => cn12 t (by
          refine XS.istore X7.here hx rfl (hb' at_122) rfl (l' := #[vi p1, vi p2, vi p3, vi p4, vi p5, vi (p1 &&& (7 : Int32)), vr b7, vi 0, .unset, .unset, .unset]) rfl ?_
          exact XS.iload X7.here hx rfl (hb' at_124) rfl kt)
        have cn14 := fun (t : State) (kt : SF p e below T7 (mkF m 155 #[vi p1, vi p2, vi p3, vi p4, vi p5, vi (p1 &&& (7 : Int32)), vr b7, vi 0, .unset, .unset, .unset] [.int 200, .int 0]) t) => cn13 t (by
          refine XS.ifYes X7.here hx rfl (pc0 := 126) (pc' := 150) rfl (hb' at_126) rfl ((if0 _ _).trans (flt (by decide : ¬ ((0 : Int32) < (0 : Int32)))).2.2.2) (by decide) (by decide) ?_
          refine XS.iload X7.here hx rfl (hb' at_150) rfl ?_
          exact XS.sipush X7.here hx rfl (hb' at_152) kt)
        have cn15 := fun (t : State) (kt : SF p e below T7 (mkF m 174 #[vi p1, vi p2, vi p3, vi p4, vi p5, vi (p1 &&& (7 : Int32)), vr b7, vi 0, .unset, .unset, .unset] [.int 201, .int 0]) t) => cn14 t (by
          refine XS.icmpYes X7.here hx rfl (pc0 := 155) (pc' := 169) rfl (hb' at_155) rfl (tlt (by decide : (0 : Int32) < (200 : Int32))).1 (by decide) (by decide) ?_
          refine XS.iload X7.here hx rfl (hb' at_169) rfl ?_
          exact XS.sipush X7.here hx rfl (hb' at_171) kt)
        have cn16 := fun (t : State) (kt : SF p e below T7 (mkF m 189 #[vi p1, vi p2, vi p3, vi p4, vi p5, vi (p1 &&& (7 : Int32)), vr b7, vi 0, .unset, .unset, .unset] []) t) => cn15 t (by
          exact XS.icmpYes X7.here hx rfl (pc0 := 174) (pc' := 189) rfl (hb' at_174) rfl (tlt (by decide : (0 : Int32) < (201 : Int32))).1 (by decide) (by decide) kt)
        obtain ⟨T17, h17, X17, e17, E17, A17, D17, U17, st17⟩ := newO X7 hx hZ hown (wq hw 1 rfl) (wq hw 2 rfl) (wq hw 3 rfl) e7 (g := (mkF m 189 #[vi p1, vi p2, vi p3, vi p4, vi p5, vi (p1 &&& (7 : Int32)), vr b7, vi 0, .unset, .unset, .unset] [])) rfl (hb' at_189) (by decide) (by decide)
        obtain ⟨b17, g17⟩ : ∃ z, z = h7.size := ⟨_, rfl⟩
        rw [← g17] at A17 D17 U17 st17
        have ne_b7_b17 : b7 ≠ b17 := Nat.ne_of_lt (Nat.lt_of_lt_of_le AF7.lt (Nat.le_of_eq g17.symm))
        have sz_b17 : h0.size ≤ b17 := Nat.le_trans K7.1 (Nat.le_of_eq g17.symm)
        have g_b17 : n0 ≤ b17 := Nat.le_trans (O0.1 ▸ O0.2.1) sz_b17
        have AF7_e17 := AF7.ext E17
        have O17 := O7.ext E17
        have K17 : Keep h0 h17 [] := K7.ext E17
        have hk := Nat.le_trans hk E17.1
        have Y_b17 := Safe.ext E17 CH (Safe.new (Nat.le_of_eq g17.symm))
        have CH := CHv.ext E17 CH
        have Fvalue_17 : Fld Z h17 b17 "java/lang/String" "value" "[B" .null := D17 (Or.inr (wq hw 16 rfl)) (ty := (.array .byte)) (by decide)
        have Fcoder_17 : Fld Z h17 b17 "java/lang/String" "coder" "B" (.int (0 : Int32)) := D17 (Or.inr (wq hw 17 rfl)) (ty := .byte) (by decide)
        have cn18 := fun (t : State) (kt : SF p e below T17 (mkF m 195 #[vi p1, vi p2, vi p3, vi p4, vi p5, vi (p1 &&& (7 : Int32)), vr b7, vi 0, .unset, .unset, .unset] [.ref b7, .ref b17, .ref b17]) t) => cn16 t (by
          refine st17 _ ?_
          refine XS.dup X17.here hx rfl (hb' at_192) rfl rfl ?_
          exact XS.aload X17.here hx rfl (hb' at_193) rfl rfl kt)
        obtain ⟨_, _, ⟨T19, L19, k19, n19⟩, -, X19, hSq19, hgr19, ⟨Lc19, hQ19, l19, y19, z19⟩, st19⟩ := X17.specialBackS hx (y := y9') rfl hown (mvT hZ (wq hw 4 rfl)) (mvT hZ (wq hw 5 rfl)) (mvT hZ (wq hw 6 rfl)) (by decide) (own_backC (s := s) (W := 1) (rm3e l Z a0 hw [] b17 b7 k7 (fun _ => defaultValue .char) h17 n0 O17 g_b17 A17 Fvalue_17 Fcoder_17 (Ne.symm ne_b7_b17) AF7_e17) hZ (wq hw 6 rfl) (wq hw 3 rfl) (by decide) (by decide) hEL CH) (g := (mkF m 195 #[vi p1, vi p2, vi p3, vi p4, vi p5, vi (p1 &&& (7 : Int32)), vr b7, vi 0, .unset, .unset, .unset] [.ref b7, .ref b17, .ref b17])) rfl (by rw [hml]; rfl) (Steps.refl _) (a := b17) (argsL := [(.ref b7)]) (rest := [(.ref b17)]) (lenOf pd_37 rfl) rfl (Nat.le_refl _) (hb' at_195) (fun _ _ => ⟨rfl, e17, (by decide : 2 + 2 ≤ _), (by decide : 4 + 4 ≤ _)⟩)
        dsimp only [Pt.U, Pt.locs, Pt.cells, Pt.slots] at X19 hSq19 hgr19 l19 y19 z19 st19 hQ19
        subst l19 y19 z19
        obtain ⟨X19, hS, hZ, hown⟩ := rebS hS (by rw [e17]; exact hk) X19 hSq19 hgr19 hZ hown
        have hk := Nat.le_refl T19.heap.size
        obtain ⟨rfl, Nq19, Kq19, b19x, kb19, fb19, cd19, SS19⟩ := hQ19
        have N19 := Fr.app N0 Nq19
        have K19 := Kq19
        have A17_e19 := A17.keep K19
        have O19 := O17.keep K19 (allS g_b17 all0)
        have KK19 : Keep h0 T19.heap [] := K17.trans K19 (allS (Or.inr sz_b17) all0)
        obtain ⟨Eu19, Fuv19, Fuc19, Au19⟩ := SS19
        have cn20 := fun (t : State) (kt : SF p e below T19 (mkF m 202 #[vi p1, vi p2, vi p3, vi p4, vi p5, vi (p1 &&& (7 : Int32)), vr b7, vi 0, vr b17, .unset, .unset] [.ref b17]) t) => cn18 t (by
          refine st19.trans ?_
          refine XS.astore X19.here hx rfl (hb' at_198) rfl rfl (l' := #[vi p1, vi p2, vi p3, vi p4, vi p5, vi (p1 &&& (7 : Int32)), vr b7, vi 0, vr b17, .unset, .unset]) rfl ?_
          exact XS.aload X19.here hx rfl (hb' at_200) rfl rfl kt)
        obtain ⟨_, _, ⟨T21, L21, k21, n21⟩, -, X21, ⟨Lc21, hQ21, l21, y21, z21⟩, st21⟩ := Jvm.LawKit.callS X19 hx (y := y53') hown (mvT hZ (wq hw 22 rfl)) (mvT hZ (wq hw 23 rfl)) (mvT hZ (wq hw 24 rfl)) (mvT hZ (wq hw 25 rfl)) (by decide) (backOf (W := 0) (rm4s l Z a0 hw [] b17 b19x ([] : List Int32) kb19 fb19 cd19 co vf T19.heap n0 O19 (by decide) (by decide) ⟨Eu19, Fuv19, Fuc19, Au19⟩ SWh) hZ (wq hw 25 rfl) (wq hw 24 rfl) (by decide) (by decide)) (g := (mkF m 202 #[vi p1, vi p2, vi p3, vi p4, vi p5, vi (p1 &&& (7 : Int32)), vr b7, vi 0, vr b17, .unset, .unset] [.ref b17])) rfl (by rw [hml]; rfl) (argsL := [(.ref b17)]) (rest := []) (lenOf pd_38 rfl) rfl (Nat.le_refl _) (hb' at_202) (fun _ _ => ⟨rfl, rfl, (by decide : 4 + 0 ≤ _), (by decide : 8 + 0 ≤ _)⟩)
        dsimp only [Pt.U, Pt.locs, Pt.cells, Pt.slots] at X21 l21 y21 z21 st21 hQ21
        subst l21 y21 z21
        obtain ⟨rfl, Nq21, eh21⟩ := hQ21
        have N21 := Fr.app N19 Nq21
        have cn22 := fun (t : State) (kt : SF p e below T21 (mkF m 212 #[vi p1, vi p2, vi p3, vi p4, vi p5, vi (p1 &&& (7 : Int32)), vr b7, vi 0, vr b17, vr b17, .unset] [.int 200, .int 0]) t) => cn20 t (by
          refine st21 _ ?_
          refine XS.astore X21.here hx rfl (hb' at_205) rfl rfl (l' := #[vi p1, vi p2, vi p3, vi p4, vi p5, vi (p1 &&& (7 : Int32)), vr b7, vi 0, vr b17, vr b17, .unset]) rfl ?_
          refine XS.iload X21.here hx rfl (hb' at_207) rfl ?_
          exact XS.sipush X21.here hx rfl (hb' at_209) kt)
        have cn23 := fun (t : State) (kt : SF p e below T21 (mkF m 219 #[vi p1, vi p2, vi p3, vi p4, vi p5, vi (p1 &&& (7 : Int32)), vr b7, vi 0, vr b17, vr b17, .unset] [.ref b17, .ref b17]) t) => cn22 t (by
          refine XS.icmpNo X21.here hx rfl (hb' at_212) rfl (flt (by decide : ¬ ((200 : Int32) < (0 : Int32)))).2.2.1 ?_
          refine XS.aload X21.here hx rfl (hb' at_215) rfl rfl ?_
          exact XS.aload X21.here hx rfl (hb' at_217) rfl rfl kt)
        obtain ⟨cq24, kq24, q24a, q24b, q24c⟩ := isOf hZ eh21 Eu19
        obtain ⟨_, _, ⟨T24, L24, k24, n24⟩, -, X24, ⟨Lc24, hQ24, l24, y24, z24⟩, st24⟩ := X21.virtualBack hx (y := y52') (z := y52') hown (mvT hZ (wq hw 37 rfl)) (mvT hZ (wq hw 38 rfl)) (notFace_of_selects (args := #[]) (mvT hZ (wq hw 40 rfl))) (mvT hZ (wq hw 40 rfl)) (mvT hZ (wq hw 39 rfl)) (by decide) (backOf (W := 0) (rm7s l Z a0 hw [] b17 T19.heap n0 O19) hZ (wq hw 41 rfl) (wq hw 3 rfl) (by decide) (by decide)) q24a q24c (g := (mkF m 219 #[vi p1, vi p2, vi p3, vi p4, vi p5, vi (p1 &&& (7 : Int32)), vr b7, vi 0, vr b17, vr b17, .unset] [.ref b17, .ref b17])) rfl (by rw [hml]; rfl) (Steps.refl _) (argsL := [(.ref b17)]) (rest := []) (lenOf pd_39 rfl) rfl (Nat.le_refl _) (hb' at_219) (fun _ _ => ⟨rfl, eh21, (by decide : 4 + 0 ≤ _), (by decide : 8 + 0 ≤ _)⟩)
        dsimp only [Pt.U, Pt.locs, Pt.cells, Pt.slots] at X24 l24 y24 z24 st24 hQ24
        subst l24 y24 z24
        obtain ⟨rfl, Nq24, eh24⟩ := hQ24
        have N24 := Fr.app N21 Nq24
        have cn25 := fun (t : State) (kt : SF p e below T24 (mkF m 222 #[vi p1, vi p2, vi p3, vi p4, vi p5, vi (p1 &&& (7 : Int32)), vr b7, vi 0, vr b17, vr b17, .unset] [.int 1]) t) => cn23 t (by
          exact st24.trans kt)
        obtain ⟨frs, hr, hrun, hended, hRW⟩ := X24.leaveW hS (by rw [eh24]; exact hk) (v := some (.int (1 : Int32))) (fun h => by rw [Bd.returns] at h; cases h)
        refine ⟨_, _, cn25 _ ?_, hrun, hended, _, _, rfl, ?_, hRW.1, hRW.2.1, hRW.2.2.1, hRW.2.2.2.mono (by decide) (by decide)⟩
        · exact retN X24 hx (t := .boolean) Bd.returns (by simp) (hb' at_222) hr
        · show Q0 n0 _ T24.heap _
          rw [eh24]
          exact ⟨rfl, N24⟩
      · have cn26 := fun (t : State) (kt : SF p e below s₁ (mkF m 22 #[vi p1, vi p2, vi p3, vi p4, vi p5, vi (p1 &&& (7 : Int32)), .unset, .unset, .unset, .unset, .unset] [.int 1, .int (p1 &&& (7 : Int32))]) t) => cn4 t (by
          refine XS.ifYes X0.here hx rfl (pc0 := 8) (pc' := 19) rfl (hb' at_8) rfl ((if0 _ _).trans (feq hc8_5).2) (by decide) (by decide) ?_
          refine XS.iload X0.here hx rfl (hb' at_19) rfl ?_
          exact XS.iconst X0.here hx rfl (hb' at_21) kt)
        by_cases hc22_27 : (p1 &&& (7 : Int32)) = (1 : Int32)
        · have cn28 := fun (t : State) (kt : SF p e below s₁ (mkF m 26 #[vi p1, vi p2, vi p3, vi p4, vi p5, vi (p1 &&& (7 : Int32)), .unset, .unset, .unset, .unset, .unset] [.int 1]) t) => cn26 t (by
            refine XS.icmpNo X0.here hx rfl (hb' at_22) rfl (teq hc22_27).2 ?_
            exact XS.iconst X0.here hx rfl (hb' at_25) kt)
          obtain ⟨T29, h29, k29, X29, e29, E29, A29, st29⟩ := newP X0 hx hZ (wq hw 0 rfl) e0 (g := (mkF m 26 #[vi p1, vi p2, vi p3, vi p4, vi p5, vi (p1 &&& (7 : Int32)), .unset, .unset, .unset, .unset, .unset] [.int 1])) rfl (hb' at_26) rfl (by decide) (cap := 1) (by decide) (by decide) (by decide) (by decide)
          obtain ⟨b29, g29⟩ : ∃ z, z = h0.size := ⟨_, rfl⟩
          rw [← g29] at A29 st29
          have sz_b29 : h0.size ≤ b29 := Nat.le_trans (Keep.refl h0 []).1 (Nat.le_of_eq g29.symm)
          have g_b29 : n0 ≤ b29 := Nat.le_trans (O0.1 ▸ O0.2.1) sz_b29
          have O29 := O0.ext E29
          have K29 : Keep h0 h29 [] := (Keep.refl h0 []).ext E29
          have hk := Nat.le_trans hk E29.1
          have Y_b29 := Safe.ext E29 CH (Safe.new (Nat.le_of_eq g29.symm))
          have CH := CHv.ext E29 CH
          have AF29 : AF Z h29 b29 k29 .char 1 (fun _ => defaultValue .char) := AF.new A29 (by decide)
          have cn30 := fun (t : State) (kt : SF p e below T29 (mkF m 119 #[vi p1, vi p2, vi p3, vi p4, vi p5, vi (p1 &&& (7 : Int32)), vr b29, .unset, .unset, .unset, .unset] []) t) => cn28 t (by
            refine st29 _ ?_
            refine XS.astore X29.here hx rfl (hb' at_28) rfl rfl (l' := #[vi p1, vi p2, vi p3, vi p4, vi p5, vi (p1 &&& (7 : Int32)), vr b29, .unset, .unset, .unset, .unset]) rfl ?_
            exact XS.goto X29.here hx rfl (pc0 := 30) (pc' := 119) rfl (hb' at_30) (by decide) (by decide) kt)
          exact join2 ⟨T29, h29, _, _, _, b29, k29, 1, own_up X29 (by decide) (by decide), hS, hk, hZ, hown, e29, N0, O29, K29, (by decide), (by decide), g_b29, sz_b29, AF29, CH, cn30⟩
        · have cn31 := fun (t : State) (kt : SF p e below s₁ (mkF m 36 #[vi p1, vi p2, vi p3, vi p4, vi p5, vi (p1 &&& (7 : Int32)), .unset, .unset, .unset, .unset, .unset] [.int 2, .int (p1 &&& (7 : Int32))]) t) => cn26 t (by
            refine XS.icmpYes X0.here hx rfl (pc0 := 22) (pc' := 33) rfl (hb' at_22) rfl (feq hc22_27).2 (by decide) (by decide) ?_
            refine XS.iload X0.here hx rfl (hb' at_33) rfl ?_
            exact XS.iconst X0.here hx rfl (hb' at_35) kt)
          by_cases hc36_32 : (p1 &&& (7 : Int32)) = (2 : Int32)
          · have cn33 := fun (t : State) (kt : SF p e below s₁ (mkF m 40 #[vi p1, vi p2, vi p3, vi p4, vi p5, vi (p1 &&& (7 : Int32)), .unset, .unset, .unset, .unset, .unset] [.int 2]) t) => cn31 t (by
              refine XS.icmpNo X0.here hx rfl (hb' at_36) rfl (teq hc36_32).2 ?_
              exact XS.iconst X0.here hx rfl (hb' at_39) kt)
            obtain ⟨T34, h34, k34, X34, e34, E34, A34, st34⟩ := newP X0 hx hZ (wq hw 0 rfl) e0 (g := (mkF m 40 #[vi p1, vi p2, vi p3, vi p4, vi p5, vi (p1 &&& (7 : Int32)), .unset, .unset, .unset, .unset, .unset] [.int 2])) rfl (hb' at_40) rfl (by decide) (cap := 2) (by decide) (by decide) (by decide) (by decide)
            obtain ⟨b34, g34⟩ : ∃ z, z = h0.size := ⟨_, rfl⟩
            rw [← g34] at A34 st34
            have sz_b34 : h0.size ≤ b34 := Nat.le_trans (Keep.refl h0 []).1 (Nat.le_of_eq g34.symm)
            have g_b34 : n0 ≤ b34 := Nat.le_trans (O0.1 ▸ O0.2.1) sz_b34
            have O34 := O0.ext E34
            have K34 : Keep h0 h34 [] := (Keep.refl h0 []).ext E34
            have hk := Nat.le_trans hk E34.1
            have Y_b34 := Safe.ext E34 CH (Safe.new (Nat.le_of_eq g34.symm))
            have CH := CHv.ext E34 CH
            have AF34 : AF Z h34 b34 k34 .char 2 (fun _ => defaultValue .char) := AF.new A34 (by decide)
            have cn35 := fun (t : State) (kt : SF p e below T34 (mkF m 119 #[vi p1, vi p2, vi p3, vi p4, vi p5, vi (p1 &&& (7 : Int32)), vr b34, .unset, .unset, .unset, .unset] []) t) => cn33 t (by
              refine st34 _ ?_
              refine XS.astore X34.here hx rfl (hb' at_42) rfl rfl (l' := #[vi p1, vi p2, vi p3, vi p4, vi p5, vi (p1 &&& (7 : Int32)), vr b34, .unset, .unset, .unset, .unset]) rfl ?_
              exact XS.goto X34.here hx rfl (pc0 := 44) (pc' := 119) rfl (hb' at_44) (by decide) (by decide) kt)
            exact join2 ⟨T34, h34, _, _, _, b34, k34, 2, own_up X34 (by decide) (by decide), hS, hk, hZ, hown, e34, N0, O34, K34, (by decide), (by decide), g_b34, sz_b34, AF34, CH, cn35⟩
          · have cn36 := fun (t : State) (kt : SF p e below s₁ (mkF m 50 #[vi p1, vi p2, vi p3, vi p4, vi p5, vi (p1 &&& (7 : Int32)), .unset, .unset, .unset, .unset, .unset] [.int 3, .int (p1 &&& (7 : Int32))]) t) => cn31 t (by
              refine XS.icmpYes X0.here hx rfl (pc0 := 36) (pc' := 47) rfl (hb' at_36) rfl (feq hc36_32).2 (by decide) (by decide) ?_
              refine XS.iload X0.here hx rfl (hb' at_47) rfl ?_
              exact XS.iconst X0.here hx rfl (hb' at_49) kt)
            by_cases hc50_37 : (p1 &&& (7 : Int32)) = (3 : Int32)
            · have cn38 := fun (t : State) (kt : SF p e below s₁ (mkF m 56 #[vi p1, vi p2, vi p3, vi p4, vi p5, vi (p1 &&& (7 : Int32)), .unset, .unset, .unset, .unset, .unset] [.int 199]) t) => cn36 t (by
                refine XS.icmpNo X0.here hx rfl (hb' at_50) rfl (teq hc50_37).2 ?_
                exact XS.sipush X0.here hx rfl (hb' at_53) kt)
              obtain ⟨T39, h39, k39, X39, e39, E39, A39, st39⟩ := newP X0 hx hZ (wq hw 0 rfl) e0 (g := (mkF m 56 #[vi p1, vi p2, vi p3, vi p4, vi p5, vi (p1 &&& (7 : Int32)), .unset, .unset, .unset, .unset, .unset] [.int 199])) rfl (hb' at_56) rfl (by decide) (cap := 199) (by decide) (by decide) (by decide) (by decide)
              obtain ⟨b39, g39⟩ : ∃ z, z = h0.size := ⟨_, rfl⟩
              rw [← g39] at A39 st39
              have sz_b39 : h0.size ≤ b39 := Nat.le_trans (Keep.refl h0 []).1 (Nat.le_of_eq g39.symm)
              have g_b39 : n0 ≤ b39 := Nat.le_trans (O0.1 ▸ O0.2.1) sz_b39
              have O39 := O0.ext E39
              have K39 : Keep h0 h39 [] := (Keep.refl h0 []).ext E39
              have hk := Nat.le_trans hk E39.1
              have Y_b39 := Safe.ext E39 CH (Safe.new (Nat.le_of_eq g39.symm))
              have CH := CHv.ext E39 CH
              have AF39 : AF Z h39 b39 k39 .char 199 (fun _ => defaultValue .char) := AF.new A39 (by decide)
              have cn40 := fun (t : State) (kt : SF p e below T39 (mkF m 119 #[vi p1, vi p2, vi p3, vi p4, vi p5, vi (p1 &&& (7 : Int32)), vr b39, .unset, .unset, .unset, .unset] []) t) => cn38 t (by
                refine st39 _ ?_
                refine XS.astore X39.here hx rfl (hb' at_58) rfl rfl (l' := #[vi p1, vi p2, vi p3, vi p4, vi p5, vi (p1 &&& (7 : Int32)), vr b39, .unset, .unset, .unset, .unset]) rfl ?_
                exact XS.goto X39.here hx rfl (pc0 := 60) (pc' := 119) rfl (hb' at_60) (by decide) (by decide) kt)
              exact join2 ⟨T39, h39, _, _, _, b39, k39, 199, own_up X39 (by decide) (by decide), hS, hk, hZ, hown, e39, N0, O39, K39, (by decide), (by decide), g_b39, sz_b39, AF39, CH, cn40⟩
            · have cn41 := fun (t : State) (kt : SF p e below s₁ (mkF m 66 #[vi p1, vi p2, vi p3, vi p4, vi p5, vi (p1 &&& (7 : Int32)), .unset, .unset, .unset, .unset, .unset] [.int 4, .int (p1 &&& (7 : Int32))]) t) => cn36 t (by
                refine XS.icmpYes X0.here hx rfl (pc0 := 50) (pc' := 63) rfl (hb' at_50) rfl (feq hc50_37).2 (by decide) (by decide) ?_
                refine XS.iload X0.here hx rfl (hb' at_63) rfl ?_
                exact XS.iconst X0.here hx rfl (hb' at_65) kt)
              by_cases hc66_42 : (p1 &&& (7 : Int32)) = (4 : Int32)
              · have cn43 := fun (t : State) (kt : SF p e below s₁ (mkF m 72 #[vi p1, vi p2, vi p3, vi p4, vi p5, vi (p1 &&& (7 : Int32)), .unset, .unset, .unset, .unset, .unset] [.int 200]) t) => cn41 t (by
                  refine XS.icmpNo X0.here hx rfl (hb' at_66) rfl (teq hc66_42).2 ?_
                  exact XS.sipush X0.here hx rfl (hb' at_69) kt)
                obtain ⟨T44, h44, k44, X44, e44, E44, A44, st44⟩ := newP X0 hx hZ (wq hw 0 rfl) e0 (g := (mkF m 72 #[vi p1, vi p2, vi p3, vi p4, vi p5, vi (p1 &&& (7 : Int32)), .unset, .unset, .unset, .unset, .unset] [.int 200])) rfl (hb' at_72) rfl (by decide) (cap := 200) (by decide) (by decide) (by decide) (by decide)
                obtain ⟨b44, g44⟩ : ∃ z, z = h0.size := ⟨_, rfl⟩
                rw [← g44] at A44 st44
                have sz_b44 : h0.size ≤ b44 := Nat.le_trans (Keep.refl h0 []).1 (Nat.le_of_eq g44.symm)
                have g_b44 : n0 ≤ b44 := Nat.le_trans (O0.1 ▸ O0.2.1) sz_b44
                have O44 := O0.ext E44
                have K44 : Keep h0 h44 [] := (Keep.refl h0 []).ext E44
                have hk := Nat.le_trans hk E44.1
                have Y_b44 := Safe.ext E44 CH (Safe.new (Nat.le_of_eq g44.symm))
                have CH := CHv.ext E44 CH
                have AF44 : AF Z h44 b44 k44 .char 200 (fun _ => defaultValue .char) := AF.new A44 (by decide)
                have cn45 := fun (t : State) (kt : SF p e below T44 (mkF m 119 #[vi p1, vi p2, vi p3, vi p4, vi p5, vi (p1 &&& (7 : Int32)), vr b44, .unset, .unset, .unset, .unset] []) t) => cn43 t (by
                  refine st44 _ ?_
                  refine XS.astore X44.here hx rfl (hb' at_74) rfl rfl (l' := #[vi p1, vi p2, vi p3, vi p4, vi p5, vi (p1 &&& (7 : Int32)), vr b44, .unset, .unset, .unset, .unset]) rfl ?_
                  exact XS.goto X44.here hx rfl (pc0 := 76) (pc' := 119) rfl (hb' at_76) (by decide) (by decide) kt)
                have cn46 := fun (t : State) (kt : SF p e below T44 (mkF m 121 #[vi p1, vi p2, vi p3, vi p4, vi p5, vi (p1 &&& (7 : Int32)), vr b44, .unset, .unset, .unset, .unset] [.ref b44]) t) => cn45 t (by
                  exact XS.aload X44.here hx rfl (hb' at_119) rfl rfl kt)
                have AFx47 := AF44
                obtain ⟨cl47, Ar47, q47, S47, H47⟩ := AFx47
                have cn48 := fun (t : State) (kt : SF p e below T44 (mkF m 122 #[vi p1, vi p2, vi p3, vi p4, vi p5, vi (p1 &&& (7 : Int32)), vr b44, .unset, .unset, .unset, .unset] [.int (Nat.toInt32 200)]) t) => cn46 t (by
                  refine X44.arraylength hx (by rw [e44]; exact Ar47.1) (State.isArrayOf_alike hZ.alike Ar47.2.1) (g := (mkF m 121 #[vi p1, vi p2, vi p3, vi p4, vi p5, vi (p1 &&& (7 : Int32)), vr b44, .unset, .unset, .unset, .unset] [.ref b44])) rfl rfl (hb' at_121) _ ?_
                  rw [S47]
                  exact kt)
                have cn49 : ∀ t, SF p e below T44 (mkF m 122 #[vi p1, vi p2, vi p3, vi p4, vi p5, vi (p1 &&& (7 : Int32)), vr b44, .unset, .unset, .unset, .unset] [.int 200]) t → SF p e below s₁ (entryFrame m #[(.int p1), (.int p2), (.int p3), (.int p4), (.int p5)] maxLocals) t := by have q := cn48; rw [(id (rfl) : (Nat.toInt32 200) = (200 : Int32))] at q; exact q
                have cn50 := fun (t : State) (kt : SF p e below T44 (mkF m 126 #[vi p1, vi p2, vi p3, vi p4, vi p5, vi (p1 &&& (7 : Int32)), vr b44, vi 200, .unset, .unset, .unset] [.int 200]) t) => cn49 t (by
                  refine XS.istore X44.here hx rfl (hb' at_122) rfl (l' := #[vi p1, vi p2, vi p3, vi p4, vi p5, vi (p1 &&& (7 : Int32)), vr b44, vi 200, .unset, .unset, .unset]) rfl ?_
                  exact XS.iload X44.here hx rfl (hb' at_124) rfl kt)
                have cn51 := fun (t : State) (kt : SF p e below T44 (mkF m 137 #[vi p1, vi p2, vi p3, vi p4, vi p5, vi (p1 &&& (7 : Int32)), vr b44, vi 200, .unset, .unset, .unset] [.int ((p2 &&& (65535 : Int32)).toUInt32.toUInt16.toUInt32.toInt32), .int 0, .ref b44]) t) => cn50 t (by
                  refine XS.ifNo X44.here hx rfl (hb' at_126) rfl ((if0 _ _).trans (tlt (by decide : (0 : Int32) < (200 : Int32))).2.2.2) ?_
                  refine XS.aload X44.here hx rfl (hb' at_129) rfl rfl ?_
                  refine XS.iconst X44.here hx rfl (hb' at_131) ?_
                  refine XS.iloadN X44.here hx rfl (hb' at_132) rfl ?_
                  refine X44.ldcInt hx hown (mvT hZ (wq hw 42 rfl)) (g := (mkF m 133 #[vi p1, vi p2, vi p3, vi p4, vi p5, vi (p1 &&& (7 : Int32)), vr b44, vi 200, .unset, .unset, .unset] [.int p2, .int 0, .ref b44])) rfl (hb' at_133) _ ?_
                  refine XS.iand X44.here hx rfl (hb' at_135) rfl ?_
                  exact XS.i2c X44.here hx rfl (hb' at_136) rfl kt)
                obtain ⟨ca, hca, cn52⟩ : ∃ ca : Int32, (own_c16 ca) ∧ ∀ t, SF p e below T44 (mkF m 137 #[vi p1, vi p2, vi p3, vi p4, vi p5, vi (p1 &&& (7 : Int32)), vr b44, vi 200, .unset, .unset, .unset] [.int ca, .int 0, .ref b44]) t → SF p e below s₁ (entryFrame m #[(.int p1), (.int p2), (.int p3), (.int p4), (.int p5)] maxLocals) t := ⟨((p2 &&& (65535 : Int32)).toUInt32.toUInt16.toUInt32.toInt32), own_chr _, cn51⟩
                have AFx53 := AF44
                obtain ⟨cl53, Ar53, q53, S53, H53⟩ := AFx53
                have hin53 : ¬ ((0 : Int32) < 0 ∨ cl53.slots.size ≤ ((0 : Int32)).toNatClampNeg) := AF.inb S53 (own_ix (i := 0) (by decide)) (by omega)
                obtain ⟨T54, h54, X54, e54, W54, st54⟩ := stC X44 hx hZ e44 Ar53 (j := (0 : Int32)) hin53 (g := (mkF m 137 #[vi p1, vi p2, vi p3, vi p4, vi p5, vi (p1 &&& (7 : Int32)), vr b44, vi 200, .unset, .unset, .unset] [.int ca, .int 0, .ref b44])) rfl rfl (hb' at_137)
                rw [own_nc hca] at W54
                have AF54 : AF Z h54 b44 k44 .char 200 (own_upd (fun _ => defaultValue .char) 0 (.int ca)) := AF.set Ar53 q53 S53 H53 W54 (own_ix (i := 0) (by decide)) (by omega)
                have N54 := Fr.snoc X54 N0 g_b44
                have O54 := O44.wr W54 g_b44
                have hk := Nat.le_trans hk (Nat.le_of_eq W54.size.symm)
                have K54 : Keep h0 h54 [] := K44.wr W54 (Or.inr sz_b44)
                have cn55 := fun (t : State) (kt : SF p e below T54 (mkF m 149 #[vi p1, vi p2, vi p3, vi p4, vi p5, vi (p1 &&& (7 : Int32)), vr b44, vi 200, .unset, .unset, .unset] [.int ((p3 &&& (65535 : Int32)).toUInt32.toUInt16.toUInt32.toInt32), .int 199, .ref b44]) t) => cn52 t (by
                  refine st54 _ ?_
                  refine XS.aload X54.here hx rfl (hb' at_138) rfl rfl ?_
                  refine XS.iload X54.here hx rfl (hb' at_140) rfl ?_
                  refine XS.iconst X54.here hx rfl (hb' at_142) ?_
                  refine XS.isub X54.here hx rfl (hb' at_143) rfl ?_
                  refine XS.iloadN X54.here hx rfl (hb' at_144) rfl ?_
                  refine X54.ldcInt hx hown (mvT hZ (wq hw 42 rfl)) (g := (mkF m 145 #[vi p1, vi p2, vi p3, vi p4, vi p5, vi (p1 &&& (7 : Int32)), vr b44, vi 200, .unset, .unset, .unset] [.int p3, .int 199, .ref b44])) rfl (hb' at_145) _ ?_
                  refine XS.iand X54.here hx rfl (hb' at_147) rfl ?_
                  exact XS.i2c X54.here hx rfl (hb' at_148) rfl kt)
                obtain ⟨cb, hcb, cn56⟩ : ∃ cb : Int32, (own_c16 cb) ∧ ∀ t, SF p e below T54 (mkF m 149 #[vi p1, vi p2, vi p3, vi p4, vi p5, vi (p1 &&& (7 : Int32)), vr b44, vi 200, .unset, .unset, .unset] [.int cb, .int 199, .ref b44]) t → SF p e below s₁ (entryFrame m #[(.int p1), (.int p2), (.int p3), (.int p4), (.int p5)] maxLocals) t := ⟨((p3 &&& (65535 : Int32)).toUInt32.toUInt16.toUInt32.toInt32), own_chr _, cn55⟩
                have AFx57 := AF54
                obtain ⟨cl57, Ar57, q57, S57, H57⟩ := AFx57
                have hin57 : ¬ ((199 : Int32) < 0 ∨ cl57.slots.size ≤ ((199 : Int32)).toNatClampNeg) := AF.inb S57 (own_ix (i := 199) (by decide)) (by omega)
                obtain ⟨T58, h58, X58, e58, W58, st58⟩ := stC X54 hx hZ e54 Ar57 (j := (199 : Int32)) hin57 (g := (mkF m 149 #[vi p1, vi p2, vi p3, vi p4, vi p5, vi (p1 &&& (7 : Int32)), vr b44, vi 200, .unset, .unset, .unset] [.int cb, .int 199, .ref b44])) rfl rfl (hb' at_149)
                rw [own_nc hcb] at W58
                have AF58 : AF Z h58 b44 k44 .char 200 (own_upd (own_upd (fun _ => defaultValue .char) 0 (.int ca)) 199 (.int cb)) := AF.set Ar57 q57 S57 H57 W58 (own_ix (i := 199) (by decide)) (by omega)
                have N58 := Fr.snoc X58 N54 g_b44
                have O58 := O54.wr W58 g_b44
                have hk := Nat.le_trans hk (Nat.le_of_eq W58.size.symm)
                have K58 : Keep h0 h58 [] := K54.wr W58 (Or.inr sz_b44)
                have cn59 := fun (t : State) (kt : SF p e below T58 (mkF m 155 #[vi p1, vi p2, vi p3, vi p4, vi p5, vi (p1 &&& (7 : Int32)), vr b44, vi 200, .unset, .unset, .unset] [.int 200, .int 200]) t) => cn56 t (by
                  refine st58 _ ?_
                  refine XS.iload X58.here hx rfl (hb' at_150) rfl ?_
                  exact XS.sipush X58.here hx rfl (hb' at_152) kt)
                have cn60 := fun (t : State) (kt : SF p e below T58 (mkF m 168 #[vi p1, vi p2, vi p3, vi p4, vi p5, vi (p1 &&& (7 : Int32)), vr b44, vi 200, .unset, .unset, .unset] [.int ((p4 &&& (65535 : Int32)).toUInt32.toUInt16.toUInt32.toInt32), .int 199, .ref b44]) t) => cn59 t (by
                  refine XS.icmpNo X58.here hx rfl (hb' at_155) rfl (flt (by decide : ¬ ((200 : Int32) < (200 : Int32)))).1 ?_
                  refine XS.aload X58.here hx rfl (hb' at_158) rfl rfl ?_
                  refine XS.sipush X58.here hx rfl (hb' at_160) ?_
                  refine XS.iloadN X58.here hx rfl (hb' at_163) rfl ?_
                  refine X58.ldcInt hx hown (mvT hZ (wq hw 42 rfl)) (g := (mkF m 164 #[vi p1, vi p2, vi p3, vi p4, vi p5, vi (p1 &&& (7 : Int32)), vr b44, vi 200, .unset, .unset, .unset] [.int p4, .int 199, .ref b44])) rfl (hb' at_164) _ ?_
                  refine XS.iand X58.here hx rfl (hb' at_166) rfl ?_
                  exact XS.i2c X58.here hx rfl (hb' at_167) rfl kt)
                obtain ⟨cc, hcc, cn61⟩ : ∃ cc : Int32, (own_c16 cc) ∧ ∀ t, SF p e below T58 (mkF m 168 #[vi p1, vi p2, vi p3, vi p4, vi p5, vi (p1 &&& (7 : Int32)), vr b44, vi 200, .unset, .unset, .unset] [.int cc, .int 199, .ref b44]) t → SF p e below s₁ (entryFrame m #[(.int p1), (.int p2), (.int p3), (.int p4), (.int p5)] maxLocals) t := ⟨((p4 &&& (65535 : Int32)).toUInt32.toUInt16.toUInt32.toInt32), own_chr _, cn60⟩
                have AFx62 := AF58
                obtain ⟨cl62, Ar62, q62, S62, H62⟩ := AFx62
                have hin62 : ¬ ((199 : Int32) < 0 ∨ cl62.slots.size ≤ ((199 : Int32)).toNatClampNeg) := AF.inb S62 (own_ix (i := 199) (by decide)) (by omega)
                obtain ⟨T63, h63, X63, e63, W63, st63⟩ := stC X58 hx hZ e58 Ar62 (j := (199 : Int32)) hin62 (g := (mkF m 168 #[vi p1, vi p2, vi p3, vi p4, vi p5, vi (p1 &&& (7 : Int32)), vr b44, vi 200, .unset, .unset, .unset] [.int cc, .int 199, .ref b44])) rfl rfl (hb' at_168)
                rw [own_nc hcc] at W63
                have AF63 : AF Z h63 b44 k44 .char 200 (own_upd (own_upd (own_upd (fun _ => defaultValue .char) 0 (.int ca)) 199 (.int cb)) 199 (.int cc)) := AF.set Ar62 q62 S62 H62 W63 (own_ix (i := 199) (by decide)) (by omega)
                have N63 := Fr.snoc X63 N58 g_b44
                have O63 := O58.wr W63 g_b44
                have hk := Nat.le_trans hk (Nat.le_of_eq W63.size.symm)
                have K63 : Keep h0 h63 [] := K58.wr W63 (Or.inr sz_b44)
                have cn64 := fun (t : State) (kt : SF p e below T63 (mkF m 174 #[vi p1, vi p2, vi p3, vi p4, vi p5, vi (p1 &&& (7 : Int32)), vr b44, vi 200, .unset, .unset, .unset] [.int 201, .int 200]) t) => cn61 t (by
                  refine st63 _ ?_
                  refine XS.iload X63.here hx rfl (hb' at_169) rfl ?_
                  exact XS.sipush X63.here hx rfl (hb' at_171) kt)
                have cn65 := fun (t : State) (kt : SF p e below T63 (mkF m 189 #[vi p1, vi p2, vi p3, vi p4, vi p5, vi (p1 &&& (7 : Int32)), vr b44, vi 200, .unset, .unset, .unset] []) t) => cn64 t (by
                  exact XS.icmpYes X63.here hx rfl (pc0 := 174) (pc' := 189) rfl (hb' at_174) rfl (tlt (by decide : (200 : Int32) < (201 : Int32))).1 (by decide) (by decide) kt)
                obtain ⟨T66, h66, X66, e66, E66, A66, D66, U66, st66⟩ := newO X63 hx hZ hown (wq hw 1 rfl) (wq hw 2 rfl) (wq hw 3 rfl) e63 (g := (mkF m 189 #[vi p1, vi p2, vi p3, vi p4, vi p5, vi (p1 &&& (7 : Int32)), vr b44, vi 200, .unset, .unset, .unset] [])) rfl (hb' at_189) (by decide) (by decide)
                obtain ⟨b66, g66⟩ : ∃ z, z = h63.size := ⟨_, rfl⟩
                rw [← g66] at A66 D66 U66 st66
                have ne_b44_b66 : b44 ≠ b66 := Nat.ne_of_lt (Nat.lt_of_lt_of_le AF63.lt (Nat.le_of_eq g66.symm))
                have sz_b66 : h0.size ≤ b66 := Nat.le_trans K63.1 (Nat.le_of_eq g66.symm)
                have g_b66 : n0 ≤ b66 := Nat.le_trans (O0.1 ▸ O0.2.1) sz_b66
                have AF63_e66 := AF63.ext E66
                have O66 := O63.ext E66
                have K66 : Keep h0 h66 [] := K63.ext E66
                have hk := Nat.le_trans hk E66.1
                have Fvalue_66 : Fld Z h66 b66 "java/lang/String" "value" "[B" .null := D66 (Or.inr (wq hw 16 rfl)) (ty := (.array .byte)) (by decide)
                have Fcoder_66 : Fld Z h66 b66 "java/lang/String" "coder" "B" (.int (0 : Int32)) := D66 (Or.inr (wq hw 17 rfl)) (ty := .byte) (by decide)
                have cn67 := fun (t : State) (kt : SF p e below T66 (mkF m 195 #[vi p1, vi p2, vi p3, vi p4, vi p5, vi (p1 &&& (7 : Int32)), vr b44, vi 200, .unset, .unset, .unset] [.ref b44, .ref b66, .ref b66]) t) => cn65 t (by
                  refine st66 _ ?_
                  refine XS.dup X66.here hx rfl (hb' at_192) rfl rfl ?_
                  exact XS.aload X66.here hx rfl (hb' at_193) rfl rfl kt)
                obtain ⟨es, hel, hef, heu⟩ := own_list 200 (own_iscU (own_iscU (own_iscU own_isc0 hca) hcb) hcc)
                have AFe : AF Z h66 b44 k44 .char es.length (fun j => .int (es.getD j 0)) := by rw [hel]; exact AF63_e66.congr hef
                obtain ⟨_, _, ⟨T68, L68, k68, n68⟩, -, X68, ⟨Lc68, hQ68, l68, y68, z68⟩, st68⟩ := X66.specialBack hx (y := y9') rfl hown (mvT hZ (wq hw 4 rfl)) (mvT hZ (wq hw 5 rfl)) (mvT hZ (wq hw 6 rfl)) (by decide) (backOf (W := 1) (rm3s l Z a0 hw [] b66 b44 k44 es co vf h66 n0 O66 g_b66 A66 Fvalue_66 Fcoder_66 (Ne.symm ne_b44_b66) (by rw [hel]; omega) (by rw [hel]; omega) heu AFe SWh) hZ (wq hw 6 rfl) (wq hw 3 rfl) (by decide) (by decide)) (g := (mkF m 195 #[vi p1, vi p2, vi p3, vi p4, vi p5, vi (p1 &&& (7 : Int32)), vr b44, vi 200, .unset, .unset, .unset] [.ref b44, .ref b66, .ref b66])) rfl (by rw [hml]; rfl) (Steps.refl _) (a := b66) (argsL := [(.ref b44)]) (rest := [(.ref b66)]) (lenOf pd_37 rfl) rfl (Nat.le_refl _) (hb' at_195) (fun _ _ => ⟨rfl, e66, (by decide : 2 + 2 ≤ _), (by decide : 204 + 1206 ≤ _)⟩)
                dsimp only [Pt.U, Pt.locs, Pt.cells, Pt.slots] at X68 l68 y68 z68 st68 hQ68
                subst l68 y68 z68
                obtain ⟨rfl, Nq68, Kq68, b68x, kb68, fb68, cd68, SS68⟩ := hQ68
                have N68 := Fr.app N63 Nq68
                have K68 := Kq68
                have AFe_e68 := AFe.keep K68 (ninS ne_b44_b66 nin0)
                have A66_e68 := A66.keep K68
                have O68 := O66.keep K68 (allS g_b66 all0)
                have KK68 : Keep h0 T68.heap [] := K66.trans K68 (allS (Or.inr sz_b66) all0)
                have hk := Nat.le_trans hk K68.1
                obtain ⟨Eu68, Fuv68, Fuc68, Au68⟩ := SS68
                have cn69 := fun (t : State) (kt : SF p e below T68 (mkF m 202 #[vi p1, vi p2, vi p3, vi p4, vi p5, vi (p1 &&& (7 : Int32)), vr b44, vi 200, vr b66, .unset, .unset] [.ref b66]) t) => cn67 t (by
                  refine st68.trans ?_
                  refine XS.astore X68.here hx rfl (hb' at_198) rfl rfl (l' := #[vi p1, vi p2, vi p3, vi p4, vi p5, vi (p1 &&& (7 : Int32)), vr b44, vi 200, vr b66, .unset, .unset]) rfl ?_
                  exact XS.aload X68.here hx rfl (hb' at_200) rfl rfl kt)
                obtain ⟨_, _, ⟨T70, L70, k70, n70⟩, -, X70, ⟨Lc70, hQ70, l70, y70, z70⟩, st70⟩ := Jvm.LawKit.callS X68 hx (y := y53') hown (mvT hZ (wq hw 22 rfl)) (mvT hZ (wq hw 23 rfl)) (mvT hZ (wq hw 24 rfl)) (mvT hZ (wq hw 25 rfl)) (by decide) (backOf (W := 0) (rm4s l Z a0 hw [] b66 b68x es kb68 fb68 cd68 co vf T68.heap n0 O68 (by rw [hel]; omega) (by rw [hel]; omega) ⟨Eu68, Fuv68, Fuc68, Au68⟩ SWh) hZ (wq hw 25 rfl) (wq hw 24 rfl) (by decide) (by decide)) (g := (mkF m 202 #[vi p1, vi p2, vi p3, vi p4, vi p5, vi (p1 &&& (7 : Int32)), vr b44, vi 200, vr b66, .unset, .unset] [.ref b66])) rfl (by rw [hml]; rfl) (argsL := [(.ref b66)]) (rest := []) (lenOf pd_38 rfl) rfl (Nat.le_refl _) (hb' at_202) (fun _ _ => ⟨rfl, rfl, (by decide : 4 + 0 ≤ _), (by decide : 1410 + 0 ≤ _)⟩)
                dsimp only [Pt.U, Pt.locs, Pt.cells, Pt.slots] at X70 l70 y70 z70 st70 hQ70
                subst l70 y70 z70
                obtain ⟨rfl, Nq70, eh70⟩ := hQ70
                have N70 := Fr.app N68 Nq70
                have cn71 := fun (t : State) (kt : SF p e below T70 (mkF m 212 #[vi p1, vi p2, vi p3, vi p4, vi p5, vi (p1 &&& (7 : Int32)), vr b44, vi 200, vr b66, vr b66, .unset] [.int 200, .int 200]) t) => cn69 t (by
                  refine st70 _ ?_
                  refine XS.astore X70.here hx rfl (hb' at_205) rfl rfl (l' := #[vi p1, vi p2, vi p3, vi p4, vi p5, vi (p1 &&& (7 : Int32)), vr b44, vi 200, vr b66, vr b66, .unset]) rfl ?_
                  refine XS.iload X70.here hx rfl (hb' at_207) rfl ?_
                  exact XS.sipush X70.here hx rfl (hb' at_209) kt)
                have cn72 := fun (t : State) (kt : SF p e below T70 (mkF m 219 #[vi p1, vi p2, vi p3, vi p4, vi p5, vi (p1 &&& (7 : Int32)), vr b44, vi 200, vr b66, vr b66, .unset] [.ref b66, .ref b66]) t) => cn71 t (by
                  refine XS.icmpNo X70.here hx rfl (hb' at_212) rfl (flt (by decide : ¬ ((200 : Int32) < (200 : Int32)))).2.2.1 ?_
                  refine XS.aload X70.here hx rfl (hb' at_215) rfl rfl ?_
                  exact XS.aload X70.here hx rfl (hb' at_217) rfl rfl kt)
                obtain ⟨cq73, kq73, q73a, q73b, q73c⟩ := isOf hZ eh70 Eu68
                obtain ⟨_, _, ⟨T73, L73, k73, n73⟩, -, X73, ⟨Lc73, hQ73, l73, y73, z73⟩, st73⟩ := X70.virtualBack hx (y := y52') (z := y52') hown (mvT hZ (wq hw 37 rfl)) (mvT hZ (wq hw 38 rfl)) (notFace_of_selects (args := #[]) (mvT hZ (wq hw 40 rfl))) (mvT hZ (wq hw 40 rfl)) (mvT hZ (wq hw 39 rfl)) (by decide) (backOf (W := 0) (rm7s l Z a0 hw [] b66 T68.heap n0 O68) hZ (wq hw 41 rfl) (wq hw 3 rfl) (by decide) (by decide)) q73a q73c (g := (mkF m 219 #[vi p1, vi p2, vi p3, vi p4, vi p5, vi (p1 &&& (7 : Int32)), vr b44, vi 200, vr b66, vr b66, .unset] [.ref b66, .ref b66])) rfl (by rw [hml]; rfl) (Steps.refl _) (argsL := [(.ref b66)]) (rest := []) (lenOf pd_39 rfl) rfl (Nat.le_refl _) (hb' at_219) (fun _ _ => ⟨rfl, eh70, (by decide : 4 + 0 ≤ _), (by decide : 1410 + 0 ≤ _)⟩)
                dsimp only [Pt.U, Pt.locs, Pt.cells, Pt.slots] at X73 l73 y73 z73 st73 hQ73
                subst l73 y73 z73
                obtain ⟨rfl, Nq73, eh73⟩ := hQ73
                have N73 := Fr.app N70 Nq73
                have cn74 := fun (t : State) (kt : SF p e below T73 (mkF m 222 #[vi p1, vi p2, vi p3, vi p4, vi p5, vi (p1 &&& (7 : Int32)), vr b44, vi 200, vr b66, vr b66, .unset] [.int 1]) t) => cn72 t (by
                  exact st73.trans kt)
                obtain ⟨frs, hr, hrun, hended, hRW⟩ := X73.leaveW hS (by rw [eh73]; exact hk) (v := some (.int (1 : Int32))) (fun h => by rw [Bd.returns] at h; cases h)
                refine ⟨_, _, cn74 _ ?_, hrun, hended, _, _, rfl, ?_, hRW.1, hRW.2.1, hRW.2.2.1, hRW.2.2.2.mono (by decide) (by decide)⟩
                · exact retN X73 hx (t := .boolean) Bd.returns (by simp) (hb' at_222) hr
                · show Q0 n0 _ T73.heap _
                  rw [eh73]
                  exact ⟨rfl, N73⟩
              · have cn75 := fun (t : State) (kt : SF p e below s₁ (mkF m 82 #[vi p1, vi p2, vi p3, vi p4, vi p5, vi (p1 &&& (7 : Int32)), .unset, .unset, .unset, .unset, .unset] [.int 5, .int (p1 &&& (7 : Int32))]) t) => cn41 t (by
                  refine XS.icmpYes X0.here hx rfl (pc0 := 66) (pc' := 79) rfl (hb' at_66) rfl (feq hc66_42).2 (by decide) (by decide) ?_
                  refine XS.iload X0.here hx rfl (hb' at_79) rfl ?_
                  exact XS.iconst X0.here hx rfl (hb' at_81) kt)
                by_cases hc82_76 : (p1 &&& (7 : Int32)) = (5 : Int32)
                · have cn77 := fun (t : State) (kt : SF p e below s₁ (mkF m 88 #[vi p1, vi p2, vi p3, vi p4, vi p5, vi (p1 &&& (7 : Int32)), .unset, .unset, .unset, .unset, .unset] [.int 201]) t) => cn75 t (by
                    refine XS.icmpNo X0.here hx rfl (hb' at_82) rfl (teq hc82_76).2 ?_
                    exact XS.sipush X0.here hx rfl (hb' at_85) kt)
                  obtain ⟨T78, h78, k78, X78, e78, E78, A78, st78⟩ := newP X0 hx hZ (wq hw 0 rfl) e0 (g := (mkF m 88 #[vi p1, vi p2, vi p3, vi p4, vi p5, vi (p1 &&& (7 : Int32)), .unset, .unset, .unset, .unset, .unset] [.int 201])) rfl (hb' at_88) rfl (by decide) (cap := 201) (by decide) (by decide) (by decide) (by decide)
                  obtain ⟨b78, g78⟩ : ∃ z, z = h0.size := ⟨_, rfl⟩
                  rw [← g78] at A78 st78
                  have sz_b78 : h0.size ≤ b78 := Nat.le_trans (Keep.refl h0 []).1 (Nat.le_of_eq g78.symm)
                  have g_b78 : n0 ≤ b78 := Nat.le_trans (O0.1 ▸ O0.2.1) sz_b78
                  have O78 := O0.ext E78
                  have K78 : Keep h0 h78 [] := (Keep.refl h0 []).ext E78
                  have hk := Nat.le_trans hk E78.1
                  have Y_b78 := Safe.ext E78 CH (Safe.new (Nat.le_of_eq g78.symm))
                  have CH := CHv.ext E78 CH
                  have AF78 : AF Z h78 b78 k78 .char 201 (fun _ => defaultValue .char) := AF.new A78 (by decide)
                  have cn79 := fun (t : State) (kt : SF p e below T78 (mkF m 119 #[vi p1, vi p2, vi p3, vi p4, vi p5, vi (p1 &&& (7 : Int32)), vr b78, .unset, .unset, .unset, .unset] []) t) => cn77 t (by
                    refine st78 _ ?_
                    refine XS.astore X78.here hx rfl (hb' at_90) rfl rfl (l' := #[vi p1, vi p2, vi p3, vi p4, vi p5, vi (p1 &&& (7 : Int32)), vr b78, .unset, .unset, .unset, .unset]) rfl ?_
                    exact XS.goto X78.here hx rfl (pc0 := 92) (pc' := 119) rfl (hb' at_92) (by decide) (by decide) kt)
                  exact join3 ⟨T78, h78, _, _, _, b78, k78, 201, own_up X78 (by decide) (by decide), hS, hk, hZ, hown, e78, N0, O78, K78, (by decide), (by decide), g_b78, sz_b78, AF78, CH, cn79⟩
                · have cn80 := fun (t : State) (kt : SF p e below s₁ (mkF m 99 #[vi p1, vi p2, vi p3, vi p4, vi p5, vi (p1 &&& (7 : Int32)), .unset, .unset, .unset, .unset, .unset] [.int 6, .int (p1 &&& (7 : Int32))]) t) => cn75 t (by
                    refine XS.icmpYes X0.here hx rfl (pc0 := 82) (pc' := 95) rfl (hb' at_82) rfl (feq hc82_76).2 (by decide) (by decide) ?_
                    refine XS.iload X0.here hx rfl (hb' at_95) rfl ?_
                    exact XS.bipush X0.here hx rfl (hb' at_97) kt)
                  by_cases hc99_81 : (p1 &&& (7 : Int32)) = (6 : Int32)
                  · have cn82 := fun (t : State) (kt : SF p e below s₁ (mkF m 105 #[vi p1, vi p2, vi p3, vi p4, vi p5, vi (p1 &&& (7 : Int32)), .unset, .unset, .unset, .unset, .unset] [.int 203]) t) => cn80 t (by
                      refine XS.icmpNo X0.here hx rfl (hb' at_99) rfl (teq hc99_81).2 ?_
                      exact XS.sipush X0.here hx rfl (hb' at_102) kt)
                    obtain ⟨T83, h83, k83, X83, e83, E83, A83, st83⟩ := newP X0 hx hZ (wq hw 0 rfl) e0 (g := (mkF m 105 #[vi p1, vi p2, vi p3, vi p4, vi p5, vi (p1 &&& (7 : Int32)), .unset, .unset, .unset, .unset, .unset] [.int 203])) rfl (hb' at_105) rfl (by decide) (cap := 203) (by decide) (by decide) (by decide) (by decide)
                    obtain ⟨b83, g83⟩ : ∃ z, z = h0.size := ⟨_, rfl⟩
                    rw [← g83] at A83 st83
                    have sz_b83 : h0.size ≤ b83 := Nat.le_trans (Keep.refl h0 []).1 (Nat.le_of_eq g83.symm)
                    have g_b83 : n0 ≤ b83 := Nat.le_trans (O0.1 ▸ O0.2.1) sz_b83
                    have O83 := O0.ext E83
                    have K83 : Keep h0 h83 [] := (Keep.refl h0 []).ext E83
                    have hk := Nat.le_trans hk E83.1
                    have Y_b83 := Safe.ext E83 CH (Safe.new (Nat.le_of_eq g83.symm))
                    have CH := CHv.ext E83 CH
                    have AF83 : AF Z h83 b83 k83 .char 203 (fun _ => defaultValue .char) := AF.new A83 (by decide)
                    have cn84 := fun (t : State) (kt : SF p e below T83 (mkF m 119 #[vi p1, vi p2, vi p3, vi p4, vi p5, vi (p1 &&& (7 : Int32)), vr b83, .unset, .unset, .unset, .unset] []) t) => cn82 t (by
                      refine st83 _ ?_
                      refine XS.astore X83.here hx rfl (hb' at_107) rfl rfl (l' := #[vi p1, vi p2, vi p3, vi p4, vi p5, vi (p1 &&& (7 : Int32)), vr b83, .unset, .unset, .unset, .unset]) rfl ?_
                      exact XS.goto X83.here hx rfl (pc0 := 109) (pc' := 119) rfl (hb' at_109) (by decide) (by decide) kt)
                    exact join3 ⟨T83, h83, _, _, _, b83, k83, 203, own_up X83 (by decide) (by decide), hS, hk, hZ, hown, e83, N0, O83, K83, (by decide), (by decide), g_b83, sz_b83, AF83, CH, cn84⟩
                  · have cn85 := fun (t : State) (kt : SF p e below s₁ (mkF m 115 #[vi p1, vi p2, vi p3, vi p4, vi p5, vi (p1 &&& (7 : Int32)), .unset, .unset, .unset, .unset, .unset] [.int 400]) t) => cn80 t (by
                      refine XS.icmpYes X0.here hx rfl (pc0 := 99) (pc' := 112) rfl (hb' at_99) rfl (feq hc99_81).2 (by decide) (by decide) ?_
                      exact XS.sipush X0.here hx rfl (hb' at_112) kt)
                    obtain ⟨T86, h86, k86, X86, e86, E86, A86, st86⟩ := newP X0 hx hZ (wq hw 0 rfl) e0 (g := (mkF m 115 #[vi p1, vi p2, vi p3, vi p4, vi p5, vi (p1 &&& (7 : Int32)), .unset, .unset, .unset, .unset, .unset] [.int 400])) rfl (hb' at_115) rfl (by decide) (cap := 400) (by decide) (by decide) (by decide) (by decide)
                    obtain ⟨b86, g86⟩ : ∃ z, z = h0.size := ⟨_, rfl⟩
                    rw [← g86] at A86 st86
                    have sz_b86 : h0.size ≤ b86 := Nat.le_trans (Keep.refl h0 []).1 (Nat.le_of_eq g86.symm)
                    have g_b86 : n0 ≤ b86 := Nat.le_trans (O0.1 ▸ O0.2.1) sz_b86
                    have O86 := O0.ext E86
                    have K86 : Keep h0 h86 [] := (Keep.refl h0 []).ext E86
                    have hk := Nat.le_trans hk E86.1
                    have Y_b86 := Safe.ext E86 CH (Safe.new (Nat.le_of_eq g86.symm))
                    have CH := CHv.ext E86 CH
                    have AF86 : AF Z h86 b86 k86 .char 400 (fun _ => defaultValue .char) := AF.new A86 (by decide)
                    have cn87 := fun (t : State) (kt : SF p e below T86 (mkF m 119 #[vi p1, vi p2, vi p3, vi p4, vi p5, vi (p1 &&& (7 : Int32)), vr b86, .unset, .unset, .unset, .unset] []) t) => cn85 t (by
                      refine st86 _ ?_
                      exact XS.astore X86.here hx rfl (hb' at_117) rfl rfl (l' := #[vi p1, vi p2, vi p3, vi p4, vi p5, vi (p1 &&& (7 : Int32)), vr b86, .unset, .unset, .unset, .unset]) rfl kt)
                    exact join3 ⟨T86, h86, _, _, _, b86, k86, 400, own_up X86 (by decide) (by decide), hS, hk, hZ, hown, e86, N0, O86, K86, (by decide), (by decide), g_b86, sz_b86, AF86, CH, cn87⟩
    · rintro ⟨TJ3, hJ3, lJ3, vJ3, kJ3, bA, kA, n, XJ3, hS, hk, hZ, hown, eJ3, NJ3, OJ3, KJ3, hn1, hn2, g_bA, sz_bA, AFj, CH, kJ_3⟩
      have cn88 := fun (t : State) (kt : SF p e below TJ3 (mkF m 121 #[vi p1, vi p2, vi p3, vi p4, vi p5, vi (p1 &&& (7 : Int32)), vr bA, .unset, .unset, .unset, .unset] [.ref bA]) t) => kJ_3 t (by
        exact XS.aload XJ3.here hx rfl (hb' at_119) rfl rfl kt)
      have AFx89 := AFj
      obtain ⟨cl89, Ar89, q89, S89, H89⟩ := AFx89
      have cn90 := fun (t : State) (kt : SF p e below TJ3 (mkF m 126 #[vi p1, vi p2, vi p3, vi p4, vi p5, vi (p1 &&& (7 : Int32)), vr bA, vi (Nat.toInt32 n), .unset, .unset, .unset] [.int (Nat.toInt32 n)]) t) => cn88 t (by
        refine XJ3.arraylength hx (by rw [eJ3]; exact Ar89.1) (State.isArrayOf_alike hZ.alike Ar89.2.1) (g := (mkF m 121 #[vi p1, vi p2, vi p3, vi p4, vi p5, vi (p1 &&& (7 : Int32)), vr bA, .unset, .unset, .unset, .unset] [.ref bA])) rfl rfl (hb' at_121) _ ?_
        rw [S89]
        refine XS.istore XJ3.here hx rfl (hb' at_122) rfl (l' := #[vi p1, vi p2, vi p3, vi p4, vi p5, vi (p1 &&& (7 : Int32)), vr bA, vi (Nat.toInt32 n), .unset, .unset, .unset]) rfl ?_
        exact XS.iload XJ3.here hx rfl (hb' at_124) rfl kt)
      have cn91 := fun (t : State) (kt : SF p e below TJ3 (mkF m 137 #[vi p1, vi p2, vi p3, vi p4, vi p5, vi (p1 &&& (7 : Int32)), vr bA, vi (Nat.toInt32 n), .unset, .unset, .unset] [.int ((p2 &&& (65535 : Int32)).toUInt32.toUInt16.toUInt32.toInt32), .int 0, .ref bA]) t) => cn90 t (by
        refine XS.ifNo XJ3.here hx rfl (hb' at_126) rfl ((if0 _ _).trans (tlt ((own_lt (i := 0) (by decide) (by omega)).mpr (by omega))).2.2.2) ?_
        refine XS.aload XJ3.here hx rfl (hb' at_129) rfl rfl ?_
        refine XS.iconst XJ3.here hx rfl (hb' at_131) ?_
        refine XS.iloadN XJ3.here hx rfl (hb' at_132) rfl ?_
        refine XJ3.ldcInt hx hown (mvT hZ (wq hw 42 rfl)) (g := (mkF m 133 #[vi p1, vi p2, vi p3, vi p4, vi p5, vi (p1 &&& (7 : Int32)), vr bA, vi (Nat.toInt32 n), .unset, .unset, .unset] [.int p2, .int 0, .ref bA])) rfl (hb' at_133) _ ?_
        refine XS.iand XJ3.here hx rfl (hb' at_135) rfl ?_
        exact XS.i2c XJ3.here hx rfl (hb' at_136) rfl kt)
      obtain ⟨ca, hca, cn92⟩ : ∃ ca : Int32, (own_c16 ca) ∧ ∀ t, SF p e below TJ3 (mkF m 137 #[vi p1, vi p2, vi p3, vi p4, vi p5, vi (p1 &&& (7 : Int32)), vr bA, vi (Nat.toInt32 n), .unset, .unset, .unset] [.int ca, .int 0, .ref bA]) t → SF p e below s₁ (entryFrame m #[(.int p1), (.int p2), (.int p3), (.int p4), (.int p5)] maxLocals) t := ⟨((p2 &&& (65535 : Int32)).toUInt32.toUInt16.toUInt32.toInt32), own_chr _, cn91⟩
      have AFx93 := AFj
      obtain ⟨cl93, Ar93, q93, S93, H93⟩ := AFx93
      have hin93 : ¬ ((0 : Int32) < 0 ∨ cl93.slots.size ≤ ((0 : Int32)).toNatClampNeg) := AF.inb S93 (own_ix (i := 0) (by decide)) (by omega)
      obtain ⟨T94, h94, X94, e94, W94, st94⟩ := stC XJ3 hx hZ eJ3 Ar93 (j := (0 : Int32)) hin93 (g := (mkF m 137 #[vi p1, vi p2, vi p3, vi p4, vi p5, vi (p1 &&& (7 : Int32)), vr bA, vi (Nat.toInt32 n), .unset, .unset, .unset] [.int ca, .int 0, .ref bA])) rfl rfl (hb' at_137)
      rw [own_nc hca] at W94
      have AF94 : AF Z h94 bA kA .char n (own_upd (fun _ => defaultValue .char) 0 (.int ca)) := AF.set Ar93 q93 S93 H93 W94 (own_ix (i := 0) (by decide)) (by omega)
      have N94 := Fr.snoc X94 NJ3 g_bA
      have O94 := OJ3.wr W94 g_bA
      have hk := Nat.le_trans hk (Nat.le_of_eq W94.size.symm)
      have CH := CHv.wr W94 (own_sfA hZ.alike AFj (by decide)) CH
      have K94 : Keep h0 h94 [] := KJ3.wr W94 (Or.inr sz_bA)
      have cn95 := fun (t : State) (kt : SF p e below T94 (mkF m 144 #[vi p1, vi p2, vi p3, vi p4, vi p5, vi (p1 &&& (7 : Int32)), vr bA, vi (Nat.toInt32 n), .unset, .unset, .unset] [.int ((Nat.toInt32 n) - (1 : Int32)), .ref bA]) t) => cn92 t (by
        refine st94 _ ?_
        refine XS.aload X94.here hx rfl (hb' at_138) rfl rfl ?_
        refine XS.iload X94.here hx rfl (hb' at_140) rfl ?_
        refine XS.iconst X94.here hx rfl (hb' at_142) ?_
        exact XS.isub X94.here hx rfl (hb' at_143) rfl kt)
      have cn96 : ∀ t, SF p e below T94 (mkF m 144 #[vi p1, vi p2, vi p3, vi p4, vi p5, vi (p1 &&& (7 : Int32)), vr bA, vi (Nat.toInt32 n), .unset, .unset, .unset] [.int (Nat.toInt32 (n - 1)), .ref bA]) t → SF p e below s₁ (entryFrame m #[(.int p1), (.int p2), (.int p3), (.int p4), (.int p5)] maxLocals) t := by have q := cn95; rw [(id (own_subn (i := 1) (by omega) (by omega)) : ((Nat.toInt32 n) - (1 : Int32)) = (Nat.toInt32 (n - 1)))] at q; exact q
      have cn97 := fun (t : State) (kt : SF p e below T94 (mkF m 149 #[vi p1, vi p2, vi p3, vi p4, vi p5, vi (p1 &&& (7 : Int32)), vr bA, vi (Nat.toInt32 n), .unset, .unset, .unset] [.int ((p3 &&& (65535 : Int32)).toUInt32.toUInt16.toUInt32.toInt32), .int (Nat.toInt32 (n - 1)), .ref bA]) t) => cn96 t (by
        refine XS.iloadN X94.here hx rfl (hb' at_144) rfl ?_
        refine X94.ldcInt hx hown (mvT hZ (wq hw 42 rfl)) (g := (mkF m 145 #[vi p1, vi p2, vi p3, vi p4, vi p5, vi (p1 &&& (7 : Int32)), vr bA, vi (Nat.toInt32 n), .unset, .unset, .unset] [.int p3, .int (Nat.toInt32 (n - 1)), .ref bA])) rfl (hb' at_145) _ ?_
        refine XS.iand X94.here hx rfl (hb' at_147) rfl ?_
        exact XS.i2c X94.here hx rfl (hb' at_148) rfl kt)
      obtain ⟨cb, hcb, cn98⟩ : ∃ cb : Int32, (own_c16 cb) ∧ ∀ t, SF p e below T94 (mkF m 149 #[vi p1, vi p2, vi p3, vi p4, vi p5, vi (p1 &&& (7 : Int32)), vr bA, vi (Nat.toInt32 n), .unset, .unset, .unset] [.int cb, .int (Nat.toInt32 (n - 1)), .ref bA]) t → SF p e below s₁ (entryFrame m #[(.int p1), (.int p2), (.int p3), (.int p4), (.int p5)] maxLocals) t := ⟨((p3 &&& (65535 : Int32)).toUInt32.toUInt16.toUInt32.toInt32), own_chr _, cn97⟩
      have AFx99 := AF94
      obtain ⟨cl99, Ar99, q99, S99, H99⟩ := AFx99
      have hin99 : ¬ ((Nat.toInt32 (n - 1)) < 0 ∨ cl99.slots.size ≤ ((Nat.toInt32 (n - 1))).toNatClampNeg) := AF.inb S99 (own_ix (by omega)) (by omega)
      obtain ⟨T100, h100, X100, e100, W100, st100⟩ := stC X94 hx hZ e94 Ar99 (j := (Nat.toInt32 (n - 1))) hin99 (g := (mkF m 149 #[vi p1, vi p2, vi p3, vi p4, vi p5, vi (p1 &&& (7 : Int32)), vr bA, vi (Nat.toInt32 n), .unset, .unset, .unset] [.int cb, .int (Nat.toInt32 (n - 1)), .ref bA])) rfl rfl (hb' at_149)
      rw [own_nc hcb] at W100
      have AF100 : AF Z h100 bA kA .char n (own_upd (own_upd (fun _ => defaultValue .char) 0 (.int ca)) (n - 1) (.int cb)) := AF.set Ar99 q99 S99 H99 W100 (own_ix (by omega)) (by omega)
      have N100 := Fr.snoc X100 N94 g_bA
      have O100 := O94.wr W100 g_bA
      have hk := Nat.le_trans hk (Nat.le_of_eq W100.size.symm)
      have CH := CHv.wr W100 (own_sfA hZ.alike AF94 (by decide)) CH
      have K100 : Keep h0 h100 [] := K94.wr W100 (Or.inr sz_bA)
      have cn101 := fun (t : State) (kt : SF p e below T100 (mkF m 155 #[vi p1, vi p2, vi p3, vi p4, vi p5, vi (p1 &&& (7 : Int32)), vr bA, vi (Nat.toInt32 n), .unset, .unset, .unset] [.int 200, .int (Nat.toInt32 n)]) t) => cn98 t (by
        refine st100 _ ?_
        refine XS.iload X100.here hx rfl (hb' at_150) rfl ?_
        exact XS.sipush X100.here hx rfl (hb' at_152) kt)
      have cn102 := fun (t : State) (kt : SF p e below T100 (mkF m 168 #[vi p1, vi p2, vi p3, vi p4, vi p5, vi (p1 &&& (7 : Int32)), vr bA, vi (Nat.toInt32 n), .unset, .unset, .unset] [.int ((p4 &&& (65535 : Int32)).toUInt32.toUInt16.toUInt32.toInt32), .int 199, .ref bA]) t) => cn101 t (by
        refine XS.icmpNo X100.here hx rfl (hb' at_155) rfl (flt (fun q => absurd ((own_lt (j := 200) (by omega) (by decide)).mp q) (by omega))).1 ?_
        refine XS.aload X100.here hx rfl (hb' at_158) rfl rfl ?_
        refine XS.sipush X100.here hx rfl (hb' at_160) ?_
        refine XS.iloadN X100.here hx rfl (hb' at_163) rfl ?_
        refine X100.ldcInt hx hown (mvT hZ (wq hw 42 rfl)) (g := (mkF m 164 #[vi p1, vi p2, vi p3, vi p4, vi p5, vi (p1 &&& (7 : Int32)), vr bA, vi (Nat.toInt32 n), .unset, .unset, .unset] [.int p4, .int 199, .ref bA])) rfl (hb' at_164) _ ?_
        refine XS.iand X100.here hx rfl (hb' at_166) rfl ?_
        exact XS.i2c X100.here hx rfl (hb' at_167) rfl kt)
      obtain ⟨cc, hcc, cn103⟩ : ∃ cc : Int32, (own_c16 cc) ∧ ∀ t, SF p e below T100 (mkF m 168 #[vi p1, vi p2, vi p3, vi p4, vi p5, vi (p1 &&& (7 : Int32)), vr bA, vi (Nat.toInt32 n), .unset, .unset, .unset] [.int cc, .int 199, .ref bA]) t → SF p e below s₁ (entryFrame m #[(.int p1), (.int p2), (.int p3), (.int p4), (.int p5)] maxLocals) t := ⟨((p4 &&& (65535 : Int32)).toUInt32.toUInt16.toUInt32.toInt32), own_chr _, cn102⟩
      have AFx104 := AF100
      obtain ⟨cl104, Ar104, q104, S104, H104⟩ := AFx104
      have hin104 : ¬ ((199 : Int32) < 0 ∨ cl104.slots.size ≤ ((199 : Int32)).toNatClampNeg) := AF.inb S104 (own_ix (i := 199) (by decide)) (by omega)
      obtain ⟨T105, h105, X105, e105, W105, st105⟩ := stC X100 hx hZ e100 Ar104 (j := (199 : Int32)) hin104 (g := (mkF m 168 #[vi p1, vi p2, vi p3, vi p4, vi p5, vi (p1 &&& (7 : Int32)), vr bA, vi (Nat.toInt32 n), .unset, .unset, .unset] [.int cc, .int 199, .ref bA])) rfl rfl (hb' at_168)
      rw [own_nc hcc] at W105
      have AF105 : AF Z h105 bA kA .char n (own_upd (own_upd (own_upd (fun _ => defaultValue .char) 0 (.int ca)) (n - 1) (.int cb)) 199 (.int cc)) := AF.set Ar104 q104 S104 H104 W105 (own_ix (i := 199) (by decide)) (by omega)
      have N105 := Fr.snoc X105 N100 g_bA
      have O105 := O100.wr W105 g_bA
      have hk := Nat.le_trans hk (Nat.le_of_eq W105.size.symm)
      have CH := CHv.wr W105 (own_sfA hZ.alike AF100 (by decide)) CH
      have K105 : Keep h0 h105 [] := K100.wr W105 (Or.inr sz_bA)
      have cn106 := fun (t : State) (kt : SF p e below T105 (mkF m 174 #[vi p1, vi p2, vi p3, vi p4, vi p5, vi (p1 &&& (7 : Int32)), vr bA, vi (Nat.toInt32 n), .unset, .unset, .unset] [.int 201, .int (Nat.toInt32 n)]) t) => cn103 t (by
        refine st105 _ ?_
        refine XS.iload X105.here hx rfl (hb' at_169) rfl ?_
        exact XS.sipush X105.here hx rfl (hb' at_171) kt)
      have cn107 := fun (t : State) (kt : SF p e below T105 (mkF m 188 #[vi p1, vi p2, vi p3, vi p4, vi p5, vi (p1 &&& (7 : Int32)), vr bA, vi (Nat.toInt32 n), .unset, .unset, .unset] [.int ((p5 &&& (65535 : Int32)).toUInt32.toUInt16.toUInt32.toInt32), .int 200, .ref bA]) t) => cn106 t (by
        refine XS.icmpNo X105.here hx rfl (hb' at_174) rfl (flt (fun q => absurd ((own_lt (j := 201) (by omega) (by decide)).mp q) (by omega))).1 ?_
        refine XS.aload X105.here hx rfl (hb' at_177) rfl rfl ?_
        refine XS.sipush X105.here hx rfl (hb' at_179) ?_
        refine XS.iload X105.here hx rfl (hb' at_182) rfl ?_
        refine X105.ldcInt hx hown (mvT hZ (wq hw 42 rfl)) (g := (mkF m 184 #[vi p1, vi p2, vi p3, vi p4, vi p5, vi (p1 &&& (7 : Int32)), vr bA, vi (Nat.toInt32 n), .unset, .unset, .unset] [.int p5, .int 200, .ref bA])) rfl (hb' at_184) _ ?_
        refine XS.iand X105.here hx rfl (hb' at_186) rfl ?_
        exact XS.i2c X105.here hx rfl (hb' at_187) rfl kt)
      obtain ⟨cd, hcd, cn108⟩ : ∃ cd : Int32, (own_c16 cd) ∧ ∀ t, SF p e below T105 (mkF m 188 #[vi p1, vi p2, vi p3, vi p4, vi p5, vi (p1 &&& (7 : Int32)), vr bA, vi (Nat.toInt32 n), .unset, .unset, .unset] [.int cd, .int 200, .ref bA]) t → SF p e below s₁ (entryFrame m #[(.int p1), (.int p2), (.int p3), (.int p4), (.int p5)] maxLocals) t := ⟨((p5 &&& (65535 : Int32)).toUInt32.toUInt16.toUInt32.toInt32), own_chr _, cn107⟩
      have AFx109 := AF105
      obtain ⟨cl109, Ar109, q109, S109, H109⟩ := AFx109
      have hin109 : ¬ ((200 : Int32) < 0 ∨ cl109.slots.size ≤ ((200 : Int32)).toNatClampNeg) := AF.inb S109 (own_ix (i := 200) (by decide)) (by omega)
      obtain ⟨T110, h110, X110, e110, W110, st110⟩ := stC X105 hx hZ e105 Ar109 (j := (200 : Int32)) hin109 (g := (mkF m 188 #[vi p1, vi p2, vi p3, vi p4, vi p5, vi (p1 &&& (7 : Int32)), vr bA, vi (Nat.toInt32 n), .unset, .unset, .unset] [.int cd, .int 200, .ref bA])) rfl rfl (hb' at_188)
      rw [own_nc hcd] at W110
      have AF110 : AF Z h110 bA kA .char n (own_upd (own_upd (own_upd (own_upd (fun _ => defaultValue .char) 0 (.int ca)) (n - 1) (.int cb)) 199 (.int cc)) 200 (.int cd)) := AF.set Ar109 q109 S109 H109 W110 (own_ix (i := 200) (by decide)) (by omega)
      have N110 := Fr.snoc X110 N105 g_bA
      have O110 := O105.wr W110 g_bA
      have hk := Nat.le_trans hk (Nat.le_of_eq W110.size.symm)
      have CH := CHv.wr W110 (own_sfA hZ.alike AF105 (by decide)) CH
      have K110 : Keep h0 h110 [] := K105.wr W110 (Or.inr sz_bA)
      have cn111 := fun (t : State) (kt : SF p e below T110 (mkF m 189 #[vi p1, vi p2, vi p3, vi p4, vi p5, vi (p1 &&& (7 : Int32)), vr bA, vi (Nat.toInt32 n), .unset, .unset, .unset] []) t) => cn108 t (by
        exact st110 _ kt)
      obtain ⟨T112, h112, X112, e112, E112, A112, D112, U112, st112⟩ := newO X110 hx hZ hown (wq hw 1 rfl) (wq hw 2 rfl) (wq hw 3 rfl) e110 (g := (mkF m 189 #[vi p1, vi p2, vi p3, vi p4, vi p5, vi (p1 &&& (7 : Int32)), vr bA, vi (Nat.toInt32 n), .unset, .unset, .unset] [])) rfl (hb' at_189) (by decide) (by decide)
      obtain ⟨b112, g112⟩ : ∃ z, z = h110.size := ⟨_, rfl⟩
      rw [← g112] at A112 D112 U112 st112
      have ne_bA_b112 : bA ≠ b112 := Nat.ne_of_lt (Nat.lt_of_lt_of_le AF110.lt (Nat.le_of_eq g112.symm))
      have sz_b112 : h0.size ≤ b112 := Nat.le_trans K110.1 (Nat.le_of_eq g112.symm)
      have g_b112 : n0 ≤ b112 := Nat.le_trans (O0.1 ▸ O0.2.1) sz_b112
      have AF110_e112 := AF110.ext E112
      have O112 := O110.ext E112
      have K112 : Keep h0 h112 [] := K110.ext E112
      have hk := Nat.le_trans hk E112.1
      have Y_b112 := Safe.ext E112 CH (Safe.new (Nat.le_of_eq g112.symm))
      have CH := CHv.ext E112 CH
      have Fvalue_112 : Fld Z h112 b112 "java/lang/String" "value" "[B" .null := D112 (Or.inr (wq hw 16 rfl)) (ty := (.array .byte)) (by decide)
      have Fcoder_112 : Fld Z h112 b112 "java/lang/String" "coder" "B" (.int (0 : Int32)) := D112 (Or.inr (wq hw 17 rfl)) (ty := .byte) (by decide)
      have cn113 := fun (t : State) (kt : SF p e below T112 (mkF m 195 #[vi p1, vi p2, vi p3, vi p4, vi p5, vi (p1 &&& (7 : Int32)), vr bA, vi (Nat.toInt32 n), .unset, .unset, .unset] [.ref bA, .ref b112, .ref b112]) t) => cn111 t (by
        refine st112 _ ?_
        refine XS.dup X112.here hx rfl (hb' at_192) rfl rfl ?_
        exact XS.aload X112.here hx rfl (hb' at_193) rfl rfl kt)
      obtain ⟨es, hel, hef, heu⟩ := own_list n (own_iscU (own_iscU (own_iscU (own_iscU own_isc0 hca) hcb) hcc) hcd)
      have AFe : AF Z h112 bA kA .char es.length (fun j => .int (es.getD j 0)) := by rw [hel]; exact AF110_e112.congr hef
      have hmid : ∀ j, 0 < j → j < 199 → es.getD j 0 = 0 := fun j j1 j2 => by
        have q := hef j (by omega)
        rw [own_upd_ne _ _ (by omega), own_upd_ne _ _ (by omega), own_upd_ne _ _ (by omega), own_upd_ne _ _ (by omega)] at q
        exact (Value.int.inj (show Value.int 0 = Value.int _ from q)).symm
      obtain ⟨_, _, ⟨T114, L114, k114, n114⟩, -, X114, ⟨Lc114, hQ114, l114, y114, z114⟩, st114⟩ := X112.specialBack hx (y := y9') rfl hown (mvT hZ (wq hw 4 rfl)) (mvT hZ (wq hw 5 rfl)) (mvT hZ (wq hw 6 rfl)) (by decide) (backOf (W := 1) (rm3s l Z a0 hw [] b112 bA kA es co vf h112 n0 O112 g_b112 A112 Fvalue_112 Fcoder_112 (Ne.symm ne_bA_b112) (by rw [hel]; omega) (by rw [hel]; omega) heu AFe SWh) hZ (wq hw 6 rfl) (wq hw 3 rfl) (by decide) (by decide)) (g := (mkF m 195 #[vi p1, vi p2, vi p3, vi p4, vi p5, vi (p1 &&& (7 : Int32)), vr bA, vi (Nat.toInt32 n), .unset, .unset, .unset] [.ref bA, .ref b112, .ref b112])) rfl (by rw [hml]; rfl) (Steps.refl _) (a := b112) (argsL := [(.ref bA)]) (rest := [(.ref b112)]) (lenOf pd_37 rfl) rfl (Nat.le_refl _) (hb' at_195) (fun _ _ => ⟨rfl, e112, (by decide : 2 + 2 ≤ _), (by decide : 404 + 1206 ≤ _)⟩)
      dsimp only [Pt.U, Pt.locs, Pt.cells, Pt.slots] at X114 l114 y114 z114 st114 hQ114
      subst l114 y114 z114
      obtain ⟨rfl, Nq114, Kq114, b114x, kb114, fb114, cd114, SS114⟩ := hQ114
      have N114 := Fr.app N110 Nq114
      have K114 := Kq114
      have AFe_e114 := AFe.keep K114 (ninS ne_bA_b112 nin0)
      have A112_e114 := A112.keep K114
      have O114 := O112.keep K114 (allS g_b112 all0)
      have KK114 : Keep h0 T114.heap [] := K112.trans K114 (allS (Or.inr sz_b112) all0)
      have hk := Nat.le_trans hk K114.1
      have CH := CHv.keep K114 (sfS Y_b112 sf0) CH
      obtain ⟨Eu114, Fuv114, Fuc114, Au114⟩ := SS114
      have cn115 := fun (t : State) (kt : SF p e below T114 (mkF m 202 #[vi p1, vi p2, vi p3, vi p4, vi p5, vi (p1 &&& (7 : Int32)), vr bA, vi (Nat.toInt32 n), vr b112, .unset, .unset] [.ref b112]) t) => cn113 t (by
        refine st114.trans ?_
        refine XS.astore X114.here hx rfl (hb' at_198) rfl rfl (l' := #[vi p1, vi p2, vi p3, vi p4, vi p5, vi (p1 &&& (7 : Int32)), vr bA, vi (Nat.toInt32 n), vr b112, .unset, .unset]) rfl ?_
        exact XS.aload X114.here hx rfl (hb' at_200) rfl rfl kt)
      have h200 : 200 < es.length := by rw [hel]; omega
      obtain ⟨_, _, ⟨T116, L116, k116, n116⟩, -, X116, hSq116, hgr116, ⟨Lc116, hQ116, l116, y116, z116⟩, st116⟩ := callSS X114 hx (y := y53') hown (mvT hZ (wq hw 22 rfl)) (mvT hZ (wq hw 23 rfl)) (mvT hZ (wq hw 24 rfl)) (mvT hZ (wq hw 25 rfl)) (by decide) (own_backC (s := s) (W := 0) (rm4 l Z a0 hw [] b112 b114x es kb114 fb114 cd114 (es.take 200) (own_ts es) co vf T114.heap n0 O114 h200 (by rw [hel]; omega) (own_tk (Nat.le_of_lt h200)) heu (own_tku heu) (own_tst (Nat.le_of_lt h200)) ⟨Eu114, Fuv114, Fuc114, Au114⟩ SWh) hZ (wq hw 25 rfl) (wq hw 24 rfl) (by decide) (by decide) hEL CH) (g := (mkF m 202 #[vi p1, vi p2, vi p3, vi p4, vi p5, vi (p1 &&& (7 : Int32)), vr bA, vi (Nat.toInt32 n), vr b112, .unset, .unset] [.ref b112])) rfl (by rw [hml]; rfl) (argsL := [(.ref b112)]) (rest := []) (lenOf pd_38 rfl) rfl (Nat.le_refl _) (hb' at_202) (fun _ _ => ⟨rfl, rfl, (by decide : 4 + 12 ≤ _), (by decide : 1610 + 3468 ≤ _)⟩)
      dsimp only [Pt.U, Pt.locs, Pt.cells, Pt.slots] at X116 hSq116 hgr116 l116 y116 z116 st116 hQ116
      subst l116 y116 z116
      obtain ⟨X116, hS, hZ, hown⟩ := rebS hS hk X116 hSq116 hgr116 hZ hown
      have hk := Nat.le_refl T116.heap.size
      obtain ⟨r116x, b116x, kq116, f116, cd116, rfl, Nq116, Kq116, szq116, szb116, SS116⟩ := hQ116
      have N116 := Fr.app N114 Nq116
      have K116 := Kq116
      have AFe_e116 := AFe_e114.keep K116 nin0
      have Eu114_e116 := Eu114.keep K116
      have Fuv114_e116 := Fuv114.keep K116 nin0
      have Fuc114_e116 := Fuc114.keep K116 nin0
      have Au114_e116 := Au114.keep K116 nin0
      have O116 := O114.keep K116 all0
      have KK116 : Keep h0 T116.heap [] := KK114.trans K116 all0
      obtain ⟨Eu116, Fuv116, Fuc116, Au116⟩ := SS116
      have cn117 := fun (t : State) (kt : SF p e below T116 (mkF m 212 #[vi p1, vi p2, vi p3, vi p4, vi p5, vi (p1 &&& (7 : Int32)), vr bA, vi (Nat.toInt32 n), vr b112, vr r116x, .unset] [.int 200, .int (Nat.toInt32 n)]) t) => cn115 t (by
        refine st116.trans ?_
        refine XS.astore X116.here hx rfl (hb' at_205) rfl rfl (l' := #[vi p1, vi p2, vi p3, vi p4, vi p5, vi (p1 &&& (7 : Int32)), vr bA, vi (Nat.toInt32 n), vr b112, vr r116x, .unset]) rfl ?_
        refine XS.iload X116.here hx rfl (hb' at_207) rfl ?_
        exact XS.sipush X116.here hx rfl (hb' at_209) kt)
      have cn118 := fun (t : State) (kt : SF p e below T116 (mkF m 226 #[vi p1, vi p2, vi p3, vi p4, vi p5, vi (p1 &&& (7 : Int32)), vr bA, vi (Nat.toInt32 n), vr b112, vr r116x, .unset] [.int 203]) t) => cn117 t (by
        refine XS.icmpYes X116.here hx rfl (pc0 := 212) (pc' := 223) rfl (hb' at_212) rfl (tlt ((own_lt (i := 200) (by decide) (by omega)).mpr (by omega))).2.2.1 (by decide) (by decide) ?_
        exact XS.sipush X116.here hx rfl (hb' at_223) kt)
      obtain ⟨T119, h119, k119, X119, e119, E119, A119, st119⟩ := newP X116 hx hZ (wq hw 0 rfl) rfl (g := (mkF m 226 #[vi p1, vi p2, vi p3, vi p4, vi p5, vi (p1 &&& (7 : Int32)), vr bA, vi (Nat.toInt32 n), vr b112, vr r116x, .unset] [.int 203])) rfl (hb' at_226) rfl (by decide) (cap := 203) (by decide) (by decide) (by decide) (by decide)
      obtain ⟨b119, g119⟩ : ∃ z, z = T116.heap.size := ⟨_, rfl⟩
      rw [← g119] at A119 st119
      have ne_bA_b119 : bA ≠ b119 := Nat.ne_of_lt (Nat.lt_of_lt_of_le AFe_e116.lt (Nat.le_of_eq g119.symm))
      have ne_b112_b119 : b112 ≠ b119 := Nat.ne_of_lt (Nat.lt_of_lt_of_le Eu114_e116.lt (Nat.le_of_eq g119.symm))
      have ne_b114x_b119 : b114x ≠ b119 := Nat.ne_of_lt (Nat.lt_of_lt_of_le Au114_e116.lt (Nat.le_of_eq g119.symm))
      have ne_r116x_b119 : r116x ≠ b119 := Nat.ne_of_lt (Nat.lt_of_lt_of_le Eu116.lt (Nat.le_of_eq g119.symm))
      have ne_b116x_b119 : b116x ≠ b119 := Nat.ne_of_lt (Nat.lt_of_lt_of_le Au116.lt (Nat.le_of_eq g119.symm))
      have sz_b119 : h0.size ≤ b119 := Nat.le_trans KK116.1 (Nat.le_of_eq g119.symm)
      have g_b119 : n0 ≤ b119 := Nat.le_trans (O0.1 ▸ O0.2.1) sz_b119
      have AFe_e119 := AFe_e116.ext E119
      have Eu114_e119 := Eu114_e116.ext E119
      have Fuv114_e119 := Fuv114_e116.ext E119
      have Fuc114_e119 := Fuc114_e116.ext E119
      have Au114_e119 := Au114_e116.ext E119
      have Eu116_e119 := Eu116.ext E119
      have Fuv116_e119 := Fuv116.ext E119
      have Fuc116_e119 := Fuc116.ext E119
      have Au116_e119 := Au116.ext E119
      have O119 := O116.ext E119
      have K119 : Keep h0 h119 [] := KK116.ext E119
      have hk := Nat.le_trans hk E119.1
      have AF119 : AF Z h119 b119 k119 .char 203 (fun _ => defaultValue .char) := AF.new A119 (by decide)
      have cn120 := fun (t : State) (kt : SF p e below T119 (mkF m 236 #[vi p1, vi p2, vi p3, vi p4, vi p5, vi (p1 &&& (7 : Int32)), vr bA, vi (Nat.toInt32 n), vr b112, vr r116x, vr b119] [.int 0, .ref bA, .int 0, .ref b119]) t) => cn118 t (by
        refine st119 _ ?_
        refine XS.astore X119.here hx rfl (hb' at_228) rfl rfl (l' := #[vi p1, vi p2, vi p3, vi p4, vi p5, vi (p1 &&& (7 : Int32)), vr bA, vi (Nat.toInt32 n), vr b112, vr r116x, vr b119]) rfl ?_
        refine XS.aload X119.here hx rfl (hb' at_230) rfl rfl ?_
        refine XS.iconst X119.here hx rfl (hb' at_232) ?_
        refine XS.aload X119.here hx rfl (hb' at_233) rfl rfl ?_
        exact XS.iconst X119.here hx rfl (hb' at_235) kt)
      have AFx121 := AFe_e119
      obtain ⟨cl121, Ar121, q121, S121, H121⟩ := AFx121
      have hin121 : ¬ ((0 : Int32) < 0 ∨ cl121.slots.size ≤ ((0 : Int32)).toNatClampNeg) := AF.inb S121 (own_ix (i := 0) (by decide)) (by rw [hel]; omega)
      have hat121 : cl121.slots[((0 : Int32)).toNatClampNeg]? = some (.int (es.getD 0 0)) := AF.at H121 (own_ix (i := 0) (by decide)) (by rw [hel]; omega) rfl
      have cn122 := fun (t : State) (kt : SF p e below T119 (mkF m 237 #[vi p1, vi p2, vi p3, vi p4, vi p5, vi (p1 &&& (7 : Int32)), vr bA, vi (Nat.toInt32 n), vr b112, vr r116x, vr b119] [.int (es.getD 0 0), .int 0, .ref b119]) t) => cn120 t (by
        exact X119.caload hx (j := (0 : Int32)) (v := (.int (es.getD 0 0))) (by rw [e119]; exact Ar121.1) (State.isArrayOf_alike hZ.alike Ar121.2.1) Ar121.2.2 hin121 hat121 (g := (mkF m 236 #[vi p1, vi p2, vi p3, vi p4, vi p5, vi (p1 &&& (7 : Int32)), vr bA, vi (Nat.toInt32 n), vr b112, vr r116x, vr b119] [.int 0, .ref bA, .int 0, .ref b119])) rfl rfl (hb' at_236) _ kt)
      have AFx123 := AF119
      obtain ⟨cl123, Ar123, q123, S123, H123⟩ := AFx123
      have hin123 : ¬ ((0 : Int32) < 0 ∨ cl123.slots.size ≤ ((0 : Int32)).toNatClampNeg) := AF.inb S123 (own_ix (i := 0) (by decide)) (by omega)
      obtain ⟨T124, h124, X124, e124, W124, st124⟩ := stC X119 hx hZ e119 Ar123 (j := (0 : Int32)) hin123 (g := (mkF m 237 #[vi p1, vi p2, vi p3, vi p4, vi p5, vi (p1 &&& (7 : Int32)), vr bA, vi (Nat.toInt32 n), vr b112, vr r116x, vr b119] [.int (es.getD 0 0), .int 0, .ref b119])) rfl rfl (hb' at_237)
      rw [own_nch (heu 0).1 (heu 0).2] at W124
      have AFe_e124 := AFe_e119.other W124 ne_bA_b119
      have Eu114_e124 := Eu114_e119.wr W124
      have Fuv114_e124 := Fuv114_e119.other W124 (Or.inl ne_b112_b119)
      have Fuc114_e124 := Fuc114_e119.other W124 (Or.inl ne_b112_b119)
      have Au114_e124 := Au114_e119.other W124 ne_b114x_b119
      have Eu116_e124 := Eu116_e119.wr W124
      have Fuv116_e124 := Fuv116_e119.other W124 (Or.inl ne_r116x_b119)
      have Fuc116_e124 := Fuc116_e119.other W124 (Or.inl ne_r116x_b119)
      have Au116_e124 := Au116_e119.other W124 ne_b116x_b119
      have AF124 : AF Z h124 b119 k119 .char 203 (own_upd (fun _ => defaultValue .char) 0 (.int (es.getD 0 0))) := AF.set Ar123 q123 S123 H123 W124 (own_ix (i := 0) (by decide)) (by omega)
      have N124 := Fr.snoc X124 N116 g_b119
      have O124 := O119.wr W124 g_b119
      have hk := Nat.le_trans hk (Nat.le_of_eq W124.size.symm)
      have K124 : Keep h0 h124 [] := K119.wr W124 (Or.inr sz_b119)
      have cn125 := fun (t : State) (kt : SF p e below T124 (mkF m 248 #[vi p1, vi p2, vi p3, vi p4, vi p5, vi (p1 &&& (7 : Int32)), vr bA, vi (Nat.toInt32 n), vr b112, vr r116x, vr b119] [.int 199, .ref bA, .int 199, .ref b119]) t) => cn122 t (by
        refine st124 _ ?_
        refine XS.aload X124.here hx rfl (hb' at_238) rfl rfl ?_
        refine XS.sipush X124.here hx rfl (hb' at_240) ?_
        refine XS.aload X124.here hx rfl (hb' at_243) rfl rfl ?_
        exact XS.sipush X124.here hx rfl (hb' at_245) kt)
      have AFx126 := AFe_e124
      obtain ⟨cl126, Ar126, q126, S126, H126⟩ := AFx126
      have hin126 : ¬ ((199 : Int32) < 0 ∨ cl126.slots.size ≤ ((199 : Int32)).toNatClampNeg) := AF.inb S126 (own_ix (i := 199) (by decide)) (by rw [hel]; omega)
      have hat126 : cl126.slots[((199 : Int32)).toNatClampNeg]? = some (.int (es.getD 199 0)) := AF.at H126 (own_ix (i := 199) (by decide)) (by rw [hel]; omega) rfl
      have cn127 := fun (t : State) (kt : SF p e below T124 (mkF m 249 #[vi p1, vi p2, vi p3, vi p4, vi p5, vi (p1 &&& (7 : Int32)), vr bA, vi (Nat.toInt32 n), vr b112, vr r116x, vr b119] [.int (es.getD 199 0), .int 199, .ref b119]) t) => cn125 t (by
        exact X124.caload hx (j := (199 : Int32)) (v := (.int (es.getD 199 0))) (by rw [e124]; exact Ar126.1) (State.isArrayOf_alike hZ.alike Ar126.2.1) Ar126.2.2 hin126 hat126 (g := (mkF m 248 #[vi p1, vi p2, vi p3, vi p4, vi p5, vi (p1 &&& (7 : Int32)), vr bA, vi (Nat.toInt32 n), vr b112, vr r116x, vr b119] [.int 199, .ref bA, .int 199, .ref b119])) rfl rfl (hb' at_248) _ kt)
      have AFx128 := AF124
      obtain ⟨cl128, Ar128, q128, S128, H128⟩ := AFx128
      have hin128 : ¬ ((199 : Int32) < 0 ∨ cl128.slots.size ≤ ((199 : Int32)).toNatClampNeg) := AF.inb S128 (own_ix (i := 199) (by decide)) (by omega)
      obtain ⟨T129, h129, X129, e129, W129, st129⟩ := stC X124 hx hZ e124 Ar128 (j := (199 : Int32)) hin128 (g := (mkF m 249 #[vi p1, vi p2, vi p3, vi p4, vi p5, vi (p1 &&& (7 : Int32)), vr bA, vi (Nat.toInt32 n), vr b112, vr r116x, vr b119] [.int (es.getD 199 0), .int 199, .ref b119])) rfl rfl (hb' at_249)
      rw [own_nch (heu 199).1 (heu 199).2] at W129
      have AFe_e129 := AFe_e124.other W129 ne_bA_b119
      have Eu114_e129 := Eu114_e124.wr W129
      have Fuv114_e129 := Fuv114_e124.other W129 (Or.inl ne_b112_b119)
      have Fuc114_e129 := Fuc114_e124.other W129 (Or.inl ne_b112_b119)
      have Au114_e129 := Au114_e124.other W129 ne_b114x_b119
      have Eu116_e129 := Eu116_e124.wr W129
      have Fuv116_e129 := Fuv116_e124.other W129 (Or.inl ne_r116x_b119)
      have Fuc116_e129 := Fuc116_e124.other W129 (Or.inl ne_r116x_b119)
      have Au116_e129 := Au116_e124.other W129 ne_b116x_b119
      have AF129 : AF Z h129 b119 k119 .char 203 (own_upd (own_upd (fun _ => defaultValue .char) 0 (.int (es.getD 0 0))) 199 (.int (es.getD 199 0))) := AF.set Ar128 q128 S128 H128 W129 (own_ix (i := 199) (by decide)) (by omega)
      have N129 := Fr.snoc X129 N124 g_b119
      have O129 := O124.wr W129 g_b119
      have hk := Nat.le_trans hk (Nat.le_of_eq W129.size.symm)
      have K129 : Keep h0 h129 [] := K124.wr W129 (Or.inr sz_b119)
      have cn130 := fun (t : State) (kt : SF p e below T129 (mkF m 257 #[vi p1, vi p2, vi p3, vi p4, vi p5, vi (p1 &&& (7 : Int32)), vr bA, vi (Nat.toInt32 n), vr b112, vr r116x, vr b119] [.int 46, .int 200, .ref b119]) t) => cn127 t (by
        refine st129 _ ?_
        refine XS.aload X129.here hx rfl (hb' at_250) rfl rfl ?_
        refine XS.sipush X129.here hx rfl (hb' at_252) ?_
        exact XS.bipush X129.here hx rfl (hb' at_255) kt)
      have AFx131 := AF129
      obtain ⟨cl131, Ar131, q131, S131, H131⟩ := AFx131
      have hin131 : ¬ ((200 : Int32) < 0 ∨ cl131.slots.size ≤ ((200 : Int32)).toNatClampNeg) := AF.inb S131 (own_ix (i := 200) (by decide)) (by omega)
      obtain ⟨T132, h132, X132, e132, W132, st132⟩ := stC X129 hx hZ e129 Ar131 (j := (200 : Int32)) hin131 (g := (mkF m 257 #[vi p1, vi p2, vi p3, vi p4, vi p5, vi (p1 &&& (7 : Int32)), vr bA, vi (Nat.toInt32 n), vr b112, vr r116x, vr b119] [.int 46, .int 200, .ref b119])) rfl rfl (hb' at_257)
      rw [own_n46] at W132
      have AFe_e132 := AFe_e129.other W132 ne_bA_b119
      have Eu114_e132 := Eu114_e129.wr W132
      have Fuv114_e132 := Fuv114_e129.other W132 (Or.inl ne_b112_b119)
      have Fuc114_e132 := Fuc114_e129.other W132 (Or.inl ne_b112_b119)
      have Au114_e132 := Au114_e129.other W132 ne_b114x_b119
      have Eu116_e132 := Eu116_e129.wr W132
      have Fuv116_e132 := Fuv116_e129.other W132 (Or.inl ne_r116x_b119)
      have Fuc116_e132 := Fuc116_e129.other W132 (Or.inl ne_r116x_b119)
      have Au116_e132 := Au116_e129.other W132 ne_b116x_b119
      have AF132 : AF Z h132 b119 k119 .char 203 (own_upd (own_upd (own_upd (fun _ => defaultValue .char) 0 (.int (es.getD 0 0))) 199 (.int (es.getD 199 0))) 200 (.int (46 : Int32))) := AF.set Ar131 q131 S131 H131 W132 (own_ix (i := 200) (by decide)) (by omega)
      have N132 := Fr.snoc X132 N129 g_b119
      have O132 := O129.wr W132 g_b119
      have hk := Nat.le_trans hk (Nat.le_of_eq W132.size.symm)
      have K132 : Keep h0 h132 [] := K129.wr W132 (Or.inr sz_b119)
      have cn133 := fun (t : State) (kt : SF p e below T132 (mkF m 265 #[vi p1, vi p2, vi p3, vi p4, vi p5, vi (p1 &&& (7 : Int32)), vr bA, vi (Nat.toInt32 n), vr b112, vr r116x, vr b119] [.int 46, .int 201, .ref b119]) t) => cn130 t (by
        refine st132 _ ?_
        refine XS.aload X132.here hx rfl (hb' at_258) rfl rfl ?_
        refine XS.sipush X132.here hx rfl (hb' at_260) ?_
        exact XS.bipush X132.here hx rfl (hb' at_263) kt)
      have AFx134 := AF132
      obtain ⟨cl134, Ar134, q134, S134, H134⟩ := AFx134
      have hin134 : ¬ ((201 : Int32) < 0 ∨ cl134.slots.size ≤ ((201 : Int32)).toNatClampNeg) := AF.inb S134 (own_ix (i := 201) (by decide)) (by omega)
      obtain ⟨T135, h135, X135, e135, W135, st135⟩ := stC X132 hx hZ e132 Ar134 (j := (201 : Int32)) hin134 (g := (mkF m 265 #[vi p1, vi p2, vi p3, vi p4, vi p5, vi (p1 &&& (7 : Int32)), vr bA, vi (Nat.toInt32 n), vr b112, vr r116x, vr b119] [.int 46, .int 201, .ref b119])) rfl rfl (hb' at_265)
      rw [own_n46] at W135
      have AFe_e135 := AFe_e132.other W135 ne_bA_b119
      have Eu114_e135 := Eu114_e132.wr W135
      have Fuv114_e135 := Fuv114_e132.other W135 (Or.inl ne_b112_b119)
      have Fuc114_e135 := Fuc114_e132.other W135 (Or.inl ne_b112_b119)
      have Au114_e135 := Au114_e132.other W135 ne_b114x_b119
      have Eu116_e135 := Eu116_e132.wr W135
      have Fuv116_e135 := Fuv116_e132.other W135 (Or.inl ne_r116x_b119)
      have Fuc116_e135 := Fuc116_e132.other W135 (Or.inl ne_r116x_b119)
      have Au116_e135 := Au116_e132.other W135 ne_b116x_b119
      have AF135 : AF Z h135 b119 k119 .char 203 (own_upd (own_upd (own_upd (own_upd (fun _ => defaultValue .char) 0 (.int (es.getD 0 0))) 199 (.int (es.getD 199 0))) 200 (.int (46 : Int32))) 201 (.int (46 : Int32))) := AF.set Ar134 q134 S134 H134 W135 (own_ix (i := 201) (by decide)) (by omega)
      have N135 := Fr.snoc X135 N132 g_b119
      have O135 := O132.wr W135 g_b119
      have hk := Nat.le_trans hk (Nat.le_of_eq W135.size.symm)
      have K135 : Keep h0 h135 [] := K132.wr W135 (Or.inr sz_b119)
      have cn136 := fun (t : State) (kt : SF p e below T135 (mkF m 273 #[vi p1, vi p2, vi p3, vi p4, vi p5, vi (p1 &&& (7 : Int32)), vr bA, vi (Nat.toInt32 n), vr b112, vr r116x, vr b119] [.int 46, .int 202, .ref b119]) t) => cn133 t (by
        refine st135 _ ?_
        refine XS.aload X135.here hx rfl (hb' at_266) rfl rfl ?_
        refine XS.sipush X135.here hx rfl (hb' at_268) ?_
        exact XS.bipush X135.here hx rfl (hb' at_271) kt)
      have AFx137 := AF135
      obtain ⟨cl137, Ar137, q137, S137, H137⟩ := AFx137
      have hin137 : ¬ ((202 : Int32) < 0 ∨ cl137.slots.size ≤ ((202 : Int32)).toNatClampNeg) := AF.inb S137 (own_ix (i := 202) (by decide)) (by omega)
      obtain ⟨T138, h138, X138, e138, W138, st138⟩ := stC X135 hx hZ e135 Ar137 (j := (202 : Int32)) hin137 (g := (mkF m 273 #[vi p1, vi p2, vi p3, vi p4, vi p5, vi (p1 &&& (7 : Int32)), vr bA, vi (Nat.toInt32 n), vr b112, vr r116x, vr b119] [.int 46, .int 202, .ref b119])) rfl rfl (hb' at_273)
      rw [own_n46] at W138
      have AFe_e138 := AFe_e135.other W138 ne_bA_b119
      have Eu114_e138 := Eu114_e135.wr W138
      have Fuv114_e138 := Fuv114_e135.other W138 (Or.inl ne_b112_b119)
      have Fuc114_e138 := Fuc114_e135.other W138 (Or.inl ne_b112_b119)
      have Au114_e138 := Au114_e135.other W138 ne_b114x_b119
      have Eu116_e138 := Eu116_e135.wr W138
      have Fuv116_e138 := Fuv116_e135.other W138 (Or.inl ne_r116x_b119)
      have Fuc116_e138 := Fuc116_e135.other W138 (Or.inl ne_r116x_b119)
      have Au116_e138 := Au116_e135.other W138 ne_b116x_b119
      have AF138 : AF Z h138 b119 k119 .char 203 (own_upd (own_upd (own_upd (own_upd (own_upd (fun _ => defaultValue .char) 0 (.int (es.getD 0 0))) 199 (.int (es.getD 199 0))) 200 (.int (46 : Int32))) 201 (.int (46 : Int32))) 202 (.int (46 : Int32))) := AF.set Ar137 q137 S137 H137 W138 (own_ix (i := 202) (by decide)) (by omega)
      have N138 := Fr.snoc X138 N135 g_b119
      have O138 := O135.wr W138 g_b119
      have hk := Nat.le_trans hk (Nat.le_of_eq W138.size.symm)
      have K138 : Keep h0 h138 [] := K135.wr W138 (Or.inr sz_b119)
      have cn139 := fun (t : State) (kt : SF p e below T138 (mkF m 276 #[vi p1, vi p2, vi p3, vi p4, vi p5, vi (p1 &&& (7 : Int32)), vr bA, vi (Nat.toInt32 n), vr b112, vr r116x, vr b119] [.ref r116x]) t) => cn136 t (by
        refine st138 _ ?_
        exact XS.aload X138.here hx rfl (hb' at_274) rfl rfl kt)
      obtain ⟨T140, h140, X140, e140, E140, A140, D140, U140, st140⟩ := newO X138 hx hZ hown (wq hw 1 rfl) (wq hw 2 rfl) (wq hw 3 rfl) e138 (g := (mkF m 276 #[vi p1, vi p2, vi p3, vi p4, vi p5, vi (p1 &&& (7 : Int32)), vr bA, vi (Nat.toInt32 n), vr b112, vr r116x, vr b119] [.ref r116x])) rfl (hb' at_276) (by decide) (by decide)
      obtain ⟨b140, g140⟩ : ∃ z, z = h138.size := ⟨_, rfl⟩
      rw [← g140] at A140 D140 U140 st140
      have ne_bA_b140 : bA ≠ b140 := Nat.ne_of_lt (Nat.lt_of_lt_of_le AFe_e138.lt (Nat.le_of_eq g140.symm))
      have ne_b112_b140 : b112 ≠ b140 := Nat.ne_of_lt (Nat.lt_of_lt_of_le Eu114_e138.lt (Nat.le_of_eq g140.symm))
      have ne_b114x_b140 : b114x ≠ b140 := Nat.ne_of_lt (Nat.lt_of_lt_of_le Au114_e138.lt (Nat.le_of_eq g140.symm))
      have ne_r116x_b140 : r116x ≠ b140 := Nat.ne_of_lt (Nat.lt_of_lt_of_le Eu116_e138.lt (Nat.le_of_eq g140.symm))
      have ne_b116x_b140 : b116x ≠ b140 := Nat.ne_of_lt (Nat.lt_of_lt_of_le Au116_e138.lt (Nat.le_of_eq g140.symm))
      have ne_b119_b140 : b119 ≠ b140 := Nat.ne_of_lt (Nat.lt_of_lt_of_le AF138.lt (Nat.le_of_eq g140.symm))
      have sz_b140 : h0.size ≤ b140 := Nat.le_trans K138.1 (Nat.le_of_eq g140.symm)
      have g_b140 : n0 ≤ b140 := Nat.le_trans (O0.1 ▸ O0.2.1) sz_b140
      have AFe_e140 := AFe_e138.ext E140
      have Eu114_e140 := Eu114_e138.ext E140
      have Fuv114_e140 := Fuv114_e138.ext E140
      have Fuc114_e140 := Fuc114_e138.ext E140
      have Au114_e140 := Au114_e138.ext E140
      have Eu116_e140 := Eu116_e138.ext E140
      have Fuv116_e140 := Fuv116_e138.ext E140
      have Fuc116_e140 := Fuc116_e138.ext E140
      have Au116_e140 := Au116_e138.ext E140
      have AF138_e140 := AF138.ext E140
      have O140 := O138.ext E140
      have K140 : Keep h0 h140 [] := K138.ext E140
      have hk := Nat.le_trans hk E140.1
      have Fvalue_140 : Fld Z h140 b140 "java/lang/String" "value" "[B" .null := D140 (Or.inr (wq hw 16 rfl)) (ty := (.array .byte)) (by decide)
      have Fcoder_140 : Fld Z h140 b140 "java/lang/String" "coder" "B" (.int (0 : Int32)) := D140 (Or.inr (wq hw 17 rfl)) (ty := .byte) (by decide)
      have cn141 := fun (t : State) (kt : SF p e below T140 (mkF m 282 #[vi p1, vi p2, vi p3, vi p4, vi p5, vi (p1 &&& (7 : Int32)), vr bA, vi (Nat.toInt32 n), vr b112, vr r116x, vr b119] [.ref b119, .ref b140, .ref b140, .ref r116x]) t) => cn139 t (by
        refine st140 _ ?_
        refine XS.dup X140.here hx rfl (hb' at_279) rfl rfl ?_
        exact XS.aload X140.here hx rfl (hb' at_280) rfl rfl kt)
      have AFt : AF Z h140 b119 k119 .char (own_ts es).length (fun j => .int ((own_ts es).getD j 0)) := by rw [own_tsl]; exact AF138_e140.congr (own_fe hmid)
      obtain ⟨_, _, ⟨T142, L142, k142, n142⟩, -, X142, ⟨Lc142, hQ142, l142, y142, z142⟩, st142⟩ := X140.specialBack hx (y := y9') rfl hown (mvT hZ (wq hw 4 rfl)) (mvT hZ (wq hw 5 rfl)) (mvT hZ (wq hw 6 rfl)) (by decide) (backOf (W := 2) (rm3s l Z a0 hw [] b140 b119 k119 (own_ts es) co vf h140 n0 O140 g_b140 A140 Fvalue_140 Fcoder_140 (Ne.symm ne_b119_b140) (by rw [own_tsl]; decide) (by rw [own_tsl]; decide) (own_tsu heu) AFt SWh) hZ (wq hw 6 rfl) (wq hw 3 rfl) (by decide) (by decide)) (g := (mkF m 282 #[vi p1, vi p2, vi p3, vi p4, vi p5, vi (p1 &&& (7 : Int32)), vr bA, vi (Nat.toInt32 n), vr b112, vr r116x, vr b119] [.ref b119, .ref b140, .ref b140, .ref r116x])) rfl (by rw [hml]; rfl) (Steps.refl _) (a := b140) (argsL := [(.ref b119)]) (rest := [(.ref b140), (.ref r116x)]) (lenOf pd_37 rfl) rfl (Nat.le_refl _) (hb' at_282) (fun _ _ => ⟨rfl, e140, (by decide : 18 + 2 ≤ _), (by decide : 5285 + 1206 ≤ _)⟩)
      dsimp only [Pt.U, Pt.locs, Pt.cells, Pt.slots] at X142 l142 y142 z142 st142 hQ142
      subst l142 y142 z142
      obtain ⟨rfl, Nq142, Kq142, b142x, kb142, fb142, cd142, SS142⟩ := hQ142
      have N142 := Fr.app N138 Nq142
      have K142 := Kq142
      have AFe_e142 := AFe_e140.keep K142 (ninS ne_bA_b140 nin0)
      have Eu114_e142 := Eu114_e140.keep K142
      have Fuv114_e142 := Fuv114_e140.keep K142 (ninS ne_b112_b140 nin0)
      have Fuc114_e142 := Fuc114_e140.keep K142 (ninS ne_b112_b140 nin0)
      have Au114_e142 := Au114_e140.keep K142 (ninS ne_b114x_b140 nin0)
      have Eu116_e142 := Eu116_e140.keep K142
      have Fuv116_e142 := Fuv116_e140.keep K142 (ninS ne_r116x_b140 nin0)
      have Fuc116_e142 := Fuc116_e140.keep K142 (ninS ne_r116x_b140 nin0)
      have Au116_e142 := Au116_e140.keep K142 (ninS ne_b116x_b140 nin0)
      have AFt_e142 := AFt.keep K142 (ninS ne_b119_b140 nin0)
      have A140_e142 := A140.keep K142
      have O142 := O140.keep K142 (allS g_b140 all0)
      have KK142 : Keep h0 T142.heap [] := K140.trans K142 (allS (Or.inr sz_b140) all0)
      have hk := Nat.le_trans hk K142.1
      obtain ⟨Eu142, Fuv142, Fuc142, Au142⟩ := SS142
      have cn143 := fun (t : State) (kt : SF p e below T142 (mkF m 285 #[vi p1, vi p2, vi p3, vi p4, vi p5, vi (p1 &&& (7 : Int32)), vr bA, vi (Nat.toInt32 n), vr b112, vr r116x, vr b119] [.ref b140, .ref r116x]) t) => cn141 t (by
        exact st142.trans kt)
      obtain ⟨cq144, kq144, q144a, q144b, q144c⟩ := isOf hZ rfl Eu116_e142
      obtain ⟨_, _, ⟨T144, L144, k144, n144⟩, -, X144, ⟨Lc144, hQ144, l144, y144, z144⟩, st144⟩ := X142.virtualBack hx (y := y52') (z := y52') hown (mvT hZ (wq hw 37 rfl)) (mvT hZ (wq hw 38 rfl)) (notFace_of_selects (args := #[]) (mvT hZ (wq hw 40 rfl))) (mvT hZ (wq hw 40 rfl)) (mvT hZ (wq hw 39 rfl)) (by decide) (backOf (W := 0) (rm7 l Z a0 hw [] r116x b140 b116x b142x (own_ts es) kq116 kb142 f116 fb142 cd116 cd142 co vf T142.heap n0 O142 ne_r116x_b140 (by rw [own_tsl]; decide) ⟨Eu116_e142, Fuv116_e142, Fuc116_e142, Au116_e142⟩ ⟨Eu142, Fuv142, Fuc142, Au142⟩ SWh) hZ (wq hw 41 rfl) (wq hw 3 rfl) (by decide) (by decide)) q144a q144c (g := (mkF m 285 #[vi p1, vi p2, vi p3, vi p4, vi p5, vi (p1 &&& (7 : Int32)), vr bA, vi (Nat.toInt32 n), vr b112, vr r116x, vr b119] [.ref b140, .ref r116x])) rfl (by rw [hml]; rfl) (Steps.refl _) (argsL := [(.ref b140)]) (rest := []) (lenOf pd_39 rfl) rfl (Nat.le_refl _) (hb' at_285) (fun _ _ => ⟨rfl, rfl, (by decide : 20 + 0 ≤ _), (by decide : 6491 + 0 ≤ _)⟩)
      dsimp only [Pt.U, Pt.locs, Pt.cells, Pt.slots] at X144 l144 y144 z144 st144 hQ144
      subst l144 y144 z144
      obtain ⟨rfl, Nq144, eh144⟩ := hQ144
      have N144 := Fr.app N142 Nq144
      have cn145 := fun (t : State) (kt : SF p e below T144 (mkF m 288 #[vi p1, vi p2, vi p3, vi p4, vi p5, vi (p1 &&& (7 : Int32)), vr bA, vi (Nat.toInt32 n), vr b112, vr r116x, vr b119] [.int 1]) t) => cn143 t (by
        exact st144.trans kt)
      obtain ⟨frs, hr, hrun, hended, hRW⟩ := X144.leaveW hS (by rw [eh144]; exact hk) (v := some (.int (1 : Int32))) (fun h => by rw [Bd.returns] at h; cases h)
      refine ⟨_, _, cn145 _ ?_, hrun, hended, _, _, rfl, ?_, hRW.1, hRW.2.1, hRW.2.2.1, hRW.2.2.2.mono (by decide) (by decide)⟩
      · exact retN X144 hx (t := .boolean) Bd.returns (by simp) (hb' at_288) hr
      · show Q0 n0 _ T144.heap _
        rw [eh144]
        exact ⟨rfl, N144⟩
  · rintro ⟨TJ2, hJ2, lJ2, vJ2, kJ2, bA, kA, n, XJ2, hS, hk, hZ, hown, eJ2, NJ2, OJ2, KJ2, hn1, hn2, g_bA, sz_bA, AFj, CH, kJ_2⟩
    have cn146 := fun (t : State) (kt : SF p e below TJ2 (mkF m 121 #[vi p1, vi p2, vi p3, vi p4, vi p5, vi (p1 &&& (7 : Int32)), vr bA, .unset, .unset, .unset, .unset] [.ref bA]) t) => kJ_2 t (by
      exact XS.aload XJ2.here hx rfl (hb' at_119) rfl rfl kt)
    have AFx147 := AFj
    obtain ⟨cl147, Ar147, q147, S147, H147⟩ := AFx147
    have cn148 := fun (t : State) (kt : SF p e below TJ2 (mkF m 126 #[vi p1, vi p2, vi p3, vi p4, vi p5, vi (p1 &&& (7 : Int32)), vr bA, vi (Nat.toInt32 n), .unset, .unset, .unset] [.int (Nat.toInt32 n)]) t) => cn146 t (by
      refine XJ2.arraylength hx (by rw [eJ2]; exact Ar147.1) (State.isArrayOf_alike hZ.alike Ar147.2.1) (g := (mkF m 121 #[vi p1, vi p2, vi p3, vi p4, vi p5, vi (p1 &&& (7 : Int32)), vr bA, .unset, .unset, .unset, .unset] [.ref bA])) rfl rfl (hb' at_121) _ ?_
      rw [S147]
      refine XS.istore XJ2.here hx rfl (hb' at_122) rfl (l' := #[vi p1, vi p2, vi p3, vi p4, vi p5, vi (p1 &&& (7 : Int32)), vr bA, vi (Nat.toInt32 n), .unset, .unset, .unset]) rfl ?_
      exact XS.iload XJ2.here hx rfl (hb' at_124) rfl kt)
    have cn149 := fun (t : State) (kt : SF p e below TJ2 (mkF m 137 #[vi p1, vi p2, vi p3, vi p4, vi p5, vi (p1 &&& (7 : Int32)), vr bA, vi (Nat.toInt32 n), .unset, .unset, .unset] [.int ((p2 &&& (65535 : Int32)).toUInt32.toUInt16.toUInt32.toInt32), .int 0, .ref bA]) t) => cn148 t (by
      refine XS.ifNo XJ2.here hx rfl (hb' at_126) rfl ((if0 _ _).trans (tlt ((own_lt (i := 0) (by decide) (by omega)).mpr (by omega))).2.2.2) ?_
      refine XS.aload XJ2.here hx rfl (hb' at_129) rfl rfl ?_
      refine XS.iconst XJ2.here hx rfl (hb' at_131) ?_
      refine XS.iloadN XJ2.here hx rfl (hb' at_132) rfl ?_
      refine XJ2.ldcInt hx hown (mvT hZ (wq hw 42 rfl)) (g := (mkF m 133 #[vi p1, vi p2, vi p3, vi p4, vi p5, vi (p1 &&& (7 : Int32)), vr bA, vi (Nat.toInt32 n), .unset, .unset, .unset] [.int p2, .int 0, .ref bA])) rfl (hb' at_133) _ ?_
      refine XS.iand XJ2.here hx rfl (hb' at_135) rfl ?_
      exact XS.i2c XJ2.here hx rfl (hb' at_136) rfl kt)
    obtain ⟨ca, hca, cn150⟩ : ∃ ca : Int32, (own_c16 ca) ∧ ∀ t, SF p e below TJ2 (mkF m 137 #[vi p1, vi p2, vi p3, vi p4, vi p5, vi (p1 &&& (7 : Int32)), vr bA, vi (Nat.toInt32 n), .unset, .unset, .unset] [.int ca, .int 0, .ref bA]) t → SF p e below s₁ (entryFrame m #[(.int p1), (.int p2), (.int p3), (.int p4), (.int p5)] maxLocals) t := ⟨((p2 &&& (65535 : Int32)).toUInt32.toUInt16.toUInt32.toInt32), own_chr _, cn149⟩
    have AFx151 := AFj
    obtain ⟨cl151, Ar151, q151, S151, H151⟩ := AFx151
    have hin151 : ¬ ((0 : Int32) < 0 ∨ cl151.slots.size ≤ ((0 : Int32)).toNatClampNeg) := AF.inb S151 (own_ix (i := 0) (by decide)) (by omega)
    obtain ⟨T152, h152, X152, e152, W152, st152⟩ := stC XJ2 hx hZ eJ2 Ar151 (j := (0 : Int32)) hin151 (g := (mkF m 137 #[vi p1, vi p2, vi p3, vi p4, vi p5, vi (p1 &&& (7 : Int32)), vr bA, vi (Nat.toInt32 n), .unset, .unset, .unset] [.int ca, .int 0, .ref bA])) rfl rfl (hb' at_137)
    rw [own_nc hca] at W152
    have AF152 : AF Z h152 bA kA .char n (own_upd (fun _ => defaultValue .char) 0 (.int ca)) := AF.set Ar151 q151 S151 H151 W152 (own_ix (i := 0) (by decide)) (by omega)
    have N152 := Fr.snoc X152 NJ2 g_bA
    have O152 := OJ2.wr W152 g_bA
    have hk := Nat.le_trans hk (Nat.le_of_eq W152.size.symm)
    have K152 : Keep h0 h152 [] := KJ2.wr W152 (Or.inr sz_bA)
    have cn153 := fun (t : State) (kt : SF p e below T152 (mkF m 144 #[vi p1, vi p2, vi p3, vi p4, vi p5, vi (p1 &&& (7 : Int32)), vr bA, vi (Nat.toInt32 n), .unset, .unset, .unset] [.int ((Nat.toInt32 n) - (1 : Int32)), .ref bA]) t) => cn150 t (by
      refine st152 _ ?_
      refine XS.aload X152.here hx rfl (hb' at_138) rfl rfl ?_
      refine XS.iload X152.here hx rfl (hb' at_140) rfl ?_
      refine XS.iconst X152.here hx rfl (hb' at_142) ?_
      exact XS.isub X152.here hx rfl (hb' at_143) rfl kt)
    have cn154 : ∀ t, SF p e below T152 (mkF m 144 #[vi p1, vi p2, vi p3, vi p4, vi p5, vi (p1 &&& (7 : Int32)), vr bA, vi (Nat.toInt32 n), .unset, .unset, .unset] [.int (Nat.toInt32 (n - 1)), .ref bA]) t → SF p e below s₁ (entryFrame m #[(.int p1), (.int p2), (.int p3), (.int p4), (.int p5)] maxLocals) t := by have q := cn153; rw [(id (own_subn (i := 1) (by omega) (by omega)) : ((Nat.toInt32 n) - (1 : Int32)) = (Nat.toInt32 (n - 1)))] at q; exact q
    have cn155 := fun (t : State) (kt : SF p e below T152 (mkF m 149 #[vi p1, vi p2, vi p3, vi p4, vi p5, vi (p1 &&& (7 : Int32)), vr bA, vi (Nat.toInt32 n), .unset, .unset, .unset] [.int ((p3 &&& (65535 : Int32)).toUInt32.toUInt16.toUInt32.toInt32), .int (Nat.toInt32 (n - 1)), .ref bA]) t) => cn154 t (by
      refine XS.iloadN X152.here hx rfl (hb' at_144) rfl ?_
      refine X152.ldcInt hx hown (mvT hZ (wq hw 42 rfl)) (g := (mkF m 145 #[vi p1, vi p2, vi p3, vi p4, vi p5, vi (p1 &&& (7 : Int32)), vr bA, vi (Nat.toInt32 n), .unset, .unset, .unset] [.int p3, .int (Nat.toInt32 (n - 1)), .ref bA])) rfl (hb' at_145) _ ?_
      refine XS.iand X152.here hx rfl (hb' at_147) rfl ?_
      exact XS.i2c X152.here hx rfl (hb' at_148) rfl kt)
    obtain ⟨cb, hcb, cn156⟩ : ∃ cb : Int32, (own_c16 cb) ∧ ∀ t, SF p e below T152 (mkF m 149 #[vi p1, vi p2, vi p3, vi p4, vi p5, vi (p1 &&& (7 : Int32)), vr bA, vi (Nat.toInt32 n), .unset, .unset, .unset] [.int cb, .int (Nat.toInt32 (n - 1)), .ref bA]) t → SF p e below s₁ (entryFrame m #[(.int p1), (.int p2), (.int p3), (.int p4), (.int p5)] maxLocals) t := ⟨((p3 &&& (65535 : Int32)).toUInt32.toUInt16.toUInt32.toInt32), own_chr _, cn155⟩
    have AFx157 := AF152
    obtain ⟨cl157, Ar157, q157, S157, H157⟩ := AFx157
    have hin157 : ¬ ((Nat.toInt32 (n - 1)) < 0 ∨ cl157.slots.size ≤ ((Nat.toInt32 (n - 1))).toNatClampNeg) := AF.inb S157 (own_ix (by omega)) (by omega)
    obtain ⟨T158, h158, X158, e158, W158, st158⟩ := stC X152 hx hZ e152 Ar157 (j := (Nat.toInt32 (n - 1))) hin157 (g := (mkF m 149 #[vi p1, vi p2, vi p3, vi p4, vi p5, vi (p1 &&& (7 : Int32)), vr bA, vi (Nat.toInt32 n), .unset, .unset, .unset] [.int cb, .int (Nat.toInt32 (n - 1)), .ref bA])) rfl rfl (hb' at_149)
    rw [own_nc hcb] at W158
    have AF158 : AF Z h158 bA kA .char n (own_upd (own_upd (fun _ => defaultValue .char) 0 (.int ca)) (n - 1) (.int cb)) := AF.set Ar157 q157 S157 H157 W158 (own_ix (by omega)) (by omega)
    have N158 := Fr.snoc X158 N152 g_bA
    have O158 := O152.wr W158 g_bA
    have hk := Nat.le_trans hk (Nat.le_of_eq W158.size.symm)
    have K158 : Keep h0 h158 [] := K152.wr W158 (Or.inr sz_bA)
    have cn159 := fun (t : State) (kt : SF p e below T158 (mkF m 155 #[vi p1, vi p2, vi p3, vi p4, vi p5, vi (p1 &&& (7 : Int32)), vr bA, vi (Nat.toInt32 n), .unset, .unset, .unset] [.int 200, .int (Nat.toInt32 n)]) t) => cn156 t (by
      refine st158 _ ?_
      refine XS.iload X158.here hx rfl (hb' at_150) rfl ?_
      exact XS.sipush X158.here hx rfl (hb' at_152) kt)
    have cn160 := fun (t : State) (kt : SF p e below T158 (mkF m 174 #[vi p1, vi p2, vi p3, vi p4, vi p5, vi (p1 &&& (7 : Int32)), vr bA, vi (Nat.toInt32 n), .unset, .unset, .unset] [.int 201, .int (Nat.toInt32 n)]) t) => cn159 t (by
      refine XS.icmpYes X158.here hx rfl (pc0 := 155) (pc' := 169) rfl (hb' at_155) rfl (tlt ((own_lt (j := 200) (by omega) (by decide)).mpr (by omega))).1 (by decide) (by decide) ?_
      refine XS.iload X158.here hx rfl (hb' at_169) rfl ?_
      exact XS.sipush X158.here hx rfl (hb' at_171) kt)
    have cn161 := fun (t : State) (kt : SF p e below T158 (mkF m 189 #[vi p1, vi p2, vi p3, vi p4, vi p5, vi (p1 &&& (7 : Int32)), vr bA, vi (Nat.toInt32 n), .unset, .unset, .unset] []) t) => cn160 t (by
      exact XS.icmpYes X158.here hx rfl (pc0 := 174) (pc' := 189) rfl (hb' at_174) rfl (tlt ((own_lt (j := 201) (by omega) (by decide)).mpr (by omega))).1 (by decide) (by decide) kt)
    obtain ⟨T162, h162, X162, e162, E162, A162, D162, U162, st162⟩ := newO X158 hx hZ hown (wq hw 1 rfl) (wq hw 2 rfl) (wq hw 3 rfl) e158 (g := (mkF m 189 #[vi p1, vi p2, vi p3, vi p4, vi p5, vi (p1 &&& (7 : Int32)), vr bA, vi (Nat.toInt32 n), .unset, .unset, .unset] [])) rfl (hb' at_189) (by decide) (by decide)
    obtain ⟨b162, g162⟩ : ∃ z, z = h158.size := ⟨_, rfl⟩
    rw [← g162] at A162 D162 U162 st162
    have ne_bA_b162 : bA ≠ b162 := Nat.ne_of_lt (Nat.lt_of_lt_of_le AF158.lt (Nat.le_of_eq g162.symm))
    have sz_b162 : h0.size ≤ b162 := Nat.le_trans K158.1 (Nat.le_of_eq g162.symm)
    have g_b162 : n0 ≤ b162 := Nat.le_trans (O0.1 ▸ O0.2.1) sz_b162
    have AF158_e162 := AF158.ext E162
    have O162 := O158.ext E162
    have K162 : Keep h0 h162 [] := K158.ext E162
    have hk := Nat.le_trans hk E162.1
    have Fvalue_162 : Fld Z h162 b162 "java/lang/String" "value" "[B" .null := D162 (Or.inr (wq hw 16 rfl)) (ty := (.array .byte)) (by decide)
    have Fcoder_162 : Fld Z h162 b162 "java/lang/String" "coder" "B" (.int (0 : Int32)) := D162 (Or.inr (wq hw 17 rfl)) (ty := .byte) (by decide)
    have cn163 := fun (t : State) (kt : SF p e below T162 (mkF m 195 #[vi p1, vi p2, vi p3, vi p4, vi p5, vi (p1 &&& (7 : Int32)), vr bA, vi (Nat.toInt32 n), .unset, .unset, .unset] [.ref bA, .ref b162, .ref b162]) t) => cn161 t (by
      refine st162 _ ?_
      refine XS.dup X162.here hx rfl (hb' at_192) rfl rfl ?_
      exact XS.aload X162.here hx rfl (hb' at_193) rfl rfl kt)
    obtain ⟨es, hel, hef, heu⟩ := own_list n (own_iscU (own_iscU own_isc0 hca) hcb)
    have AFe : AF Z h162 bA kA .char es.length (fun j => .int (es.getD j 0)) := by rw [hel]; exact AF158_e162.congr hef
    obtain ⟨_, _, ⟨T164, L164, k164, n164⟩, -, X164, ⟨Lc164, hQ164, l164, y164, z164⟩, st164⟩ := X162.specialBack hx (y := y9') rfl hown (mvT hZ (wq hw 4 rfl)) (mvT hZ (wq hw 5 rfl)) (mvT hZ (wq hw 6 rfl)) (by decide) (backOf (W := 1) (rm3s l Z a0 hw [] b162 bA kA es co vf h162 n0 O162 g_b162 A162 Fvalue_162 Fcoder_162 (Ne.symm ne_bA_b162) (by rw [hel]; omega) (by rw [hel]; omega) heu AFe SWh) hZ (wq hw 6 rfl) (wq hw 3 rfl) (by decide) (by decide)) (g := (mkF m 195 #[vi p1, vi p2, vi p3, vi p4, vi p5, vi (p1 &&& (7 : Int32)), vr bA, vi (Nat.toInt32 n), .unset, .unset, .unset] [.ref bA, .ref b162, .ref b162])) rfl (by rw [hml]; rfl) (Steps.refl _) (a := b162) (argsL := [(.ref bA)]) (rest := [(.ref b162)]) (lenOf pd_37 rfl) rfl (Nat.le_refl _) (hb' at_195) (fun _ _ => ⟨rfl, e162, (by decide : 2 + 2 ≤ _), (by decide : 203 + 1206 ≤ _)⟩)
    dsimp only [Pt.U, Pt.locs, Pt.cells, Pt.slots] at X164 l164 y164 z164 st164 hQ164
    subst l164 y164 z164
    obtain ⟨rfl, Nq164, Kq164, b164x, kb164, fb164, cd164, SS164⟩ := hQ164
    have N164 := Fr.app N158 Nq164
    have K164 := Kq164
    have AFe_e164 := AFe.keep K164 (ninS ne_bA_b162 nin0)
    have A162_e164 := A162.keep K164
    have O164 := O162.keep K164 (allS g_b162 all0)
    have KK164 : Keep h0 T164.heap [] := K162.trans K164 (allS (Or.inr sz_b162) all0)
    have hk := Nat.le_trans hk K164.1
    obtain ⟨Eu164, Fuv164, Fuc164, Au164⟩ := SS164
    have cn165 := fun (t : State) (kt : SF p e below T164 (mkF m 202 #[vi p1, vi p2, vi p3, vi p4, vi p5, vi (p1 &&& (7 : Int32)), vr bA, vi (Nat.toInt32 n), vr b162, .unset, .unset] [.ref b162]) t) => cn163 t (by
      refine st164.trans ?_
      refine XS.astore X164.here hx rfl (hb' at_198) rfl rfl (l' := #[vi p1, vi p2, vi p3, vi p4, vi p5, vi (p1 &&& (7 : Int32)), vr bA, vi (Nat.toInt32 n), vr b162, .unset, .unset]) rfl ?_
      exact XS.aload X164.here hx rfl (hb' at_200) rfl rfl kt)
    obtain ⟨_, _, ⟨T166, L166, k166, n166⟩, -, X166, ⟨Lc166, hQ166, l166, y166, z166⟩, st166⟩ := Jvm.LawKit.callS X164 hx (y := y53') hown (mvT hZ (wq hw 22 rfl)) (mvT hZ (wq hw 23 rfl)) (mvT hZ (wq hw 24 rfl)) (mvT hZ (wq hw 25 rfl)) (by decide) (backOf (W := 0) (rm4s l Z a0 hw [] b162 b164x es kb164 fb164 cd164 co vf T164.heap n0 O164 (by rw [hel]; omega) (by rw [hel]; omega) ⟨Eu164, Fuv164, Fuc164, Au164⟩ SWh) hZ (wq hw 25 rfl) (wq hw 24 rfl) (by decide) (by decide)) (g := (mkF m 202 #[vi p1, vi p2, vi p3, vi p4, vi p5, vi (p1 &&& (7 : Int32)), vr bA, vi (Nat.toInt32 n), vr b162, .unset, .unset] [.ref b162])) rfl (by rw [hml]; rfl) (argsL := [(.ref b162)]) (rest := []) (lenOf pd_38 rfl) rfl (Nat.le_refl _) (hb' at_202) (fun _ _ => ⟨rfl, rfl, (by decide : 4 + 0 ≤ _), (by decide : 1409 + 0 ≤ _)⟩)
    dsimp only [Pt.U, Pt.locs, Pt.cells, Pt.slots] at X166 l166 y166 z166 st166 hQ166
    subst l166 y166 z166
    obtain ⟨rfl, Nq166, eh166⟩ := hQ166
    have N166 := Fr.app N164 Nq166
    have cn167 := fun (t : State) (kt : SF p e below T166 (mkF m 212 #[vi p1, vi p2, vi p3, vi p4, vi p5, vi (p1 &&& (7 : Int32)), vr bA, vi (Nat.toInt32 n), vr b162, vr b162, .unset] [.int 200, .int (Nat.toInt32 n)]) t) => cn165 t (by
      refine st166 _ ?_
      refine XS.astore X166.here hx rfl (hb' at_205) rfl rfl (l' := #[vi p1, vi p2, vi p3, vi p4, vi p5, vi (p1 &&& (7 : Int32)), vr bA, vi (Nat.toInt32 n), vr b162, vr b162, .unset]) rfl ?_
      refine XS.iload X166.here hx rfl (hb' at_207) rfl ?_
      exact XS.sipush X166.here hx rfl (hb' at_209) kt)
    have cn168 := fun (t : State) (kt : SF p e below T166 (mkF m 219 #[vi p1, vi p2, vi p3, vi p4, vi p5, vi (p1 &&& (7 : Int32)), vr bA, vi (Nat.toInt32 n), vr b162, vr b162, .unset] [.ref b162, .ref b162]) t) => cn167 t (by
      refine XS.icmpNo X166.here hx rfl (hb' at_212) rfl (flt (fun q => absurd ((own_lt (i := 200) (by decide) (by omega)).mp q) (by omega))).2.2.1 ?_
      refine XS.aload X166.here hx rfl (hb' at_215) rfl rfl ?_
      exact XS.aload X166.here hx rfl (hb' at_217) rfl rfl kt)
    obtain ⟨cq169, kq169, q169a, q169b, q169c⟩ := isOf hZ eh166 Eu164
    obtain ⟨_, _, ⟨T169, L169, k169, n169⟩, -, X169, ⟨Lc169, hQ169, l169, y169, z169⟩, st169⟩ := X166.virtualBack hx (y := y52') (z := y52') hown (mvT hZ (wq hw 37 rfl)) (mvT hZ (wq hw 38 rfl)) (notFace_of_selects (args := #[]) (mvT hZ (wq hw 40 rfl))) (mvT hZ (wq hw 40 rfl)) (mvT hZ (wq hw 39 rfl)) (by decide) (backOf (W := 0) (rm7s l Z a0 hw [] b162 T164.heap n0 O164) hZ (wq hw 41 rfl) (wq hw 3 rfl) (by decide) (by decide)) q169a q169c (g := (mkF m 219 #[vi p1, vi p2, vi p3, vi p4, vi p5, vi (p1 &&& (7 : Int32)), vr bA, vi (Nat.toInt32 n), vr b162, vr b162, .unset] [.ref b162, .ref b162])) rfl (by rw [hml]; rfl) (Steps.refl _) (argsL := [(.ref b162)]) (rest := []) (lenOf pd_39 rfl) rfl (Nat.le_refl _) (hb' at_219) (fun _ _ => ⟨rfl, eh166, (by decide : 4 + 0 ≤ _), (by decide : 1409 + 0 ≤ _)⟩)
    dsimp only [Pt.U, Pt.locs, Pt.cells, Pt.slots] at X169 l169 y169 z169 st169 hQ169
    subst l169 y169 z169
    obtain ⟨rfl, Nq169, eh169⟩ := hQ169
    have N169 := Fr.app N166 Nq169
    have cn170 := fun (t : State) (kt : SF p e below T169 (mkF m 222 #[vi p1, vi p2, vi p3, vi p4, vi p5, vi (p1 &&& (7 : Int32)), vr bA, vi (Nat.toInt32 n), vr b162, vr b162, .unset] [.int 1]) t) => cn168 t (by
      exact st169.trans kt)
    obtain ⟨frs, hr, hrun, hended, hRW⟩ := X169.leaveW hS (by rw [eh169]; exact hk) (v := some (.int (1 : Int32))) (fun h => by rw [Bd.returns] at h; cases h)
    refine ⟨_, _, cn170 _ ?_, hrun, hended, _, _, rfl, ?_, hRW.1, hRW.2.1, hRW.2.2.1, hRW.2.2.2.mono (by decide) (by decide)⟩
    · exact retN X169 hx (t := .boolean) Bd.returns (by simp) (hb' at_222) hr
    · show Q0 n0 _ T169.heap _
      rw [eh169]
      exact ⟨rfl, N169⟩

theorem comes_1 {Post : Tables → Env → Array Value → State → Outcome → State → Prop} (hpost : ∀ tb e args s v u, (limb_1_1.after args s (.returned v) u = true ∧ limb_1_2.after args s (.returned v) u = true ∧ True) → ReturnedEndW s (.returned v) u (Jvm.fieldLocs frame_1_writes args s ++ Jvm.arrayLocs frame_1_arrays args s ++ Jvm.staticLocs frame_1_statics s) 48 11840 → Post tb e args s (.returned v) u) :
    ArmFor flags0 classFile x code maxLocals ret World_1 tables_1 room_1 Calls_1 rest_1 Pre_1 Post := by
  intro l hfl _ _ p e ha hc hk s m args below hf hA hF happ hP
  obtain ⟨hcalls, hrest, hpre⟩ := hP
  obtain ⟨-, -, -, hnamed, -, -, -, hat⟩ := (Spec.applies_iff hf).mp happ
  obtain ⟨hg, hn⟩ := and_e (Cond.before_iff.mp (show (Jvm.Cond.and given_1 narrow_1).before args s = true from hpre))
  obtain ⟨q1, q2⟩ := and_e hg
  obtain ⟨q3, q4⟩ := and_e q2
  obtain ⟨q5, q6⟩ := and_e q4
  obtain ⟨q7, q8⟩ := and_e q6
  obtain ⟨q9, q10⟩ := and_e q8
  obtain ⟨w0, w1, w2, w3, w4, rfl⟩ : ∃ w0 w1 w2 w3 w4 : Value, args = #[w0, w1, w2, w3, w4] := by
    have hs : args.size = 5 := by simpa [Cond.value, given_1] using q1
    obtain ⟨L⟩ := args
    match L, hs with
    | [w0, w1, w2, w3, w4], _ => exact ⟨w0, w1, w2, w3, w4, rfl⟩
  have hw := fun d (hd : d ∈ tables_1) => atoms_spec (ws := Jvm.Cond.code x code maxLocals ret :: tables_1) hat d (List.mem_cons_of_mem _ hd)
  have hfit : Fit s := fun {y c} hc i hi => by
    obtain ⟨ha, rfl⟩ := Array.getElem?_eq_some_iff.mp hc
    have q := List.all_eq_true.mp ((Array.all_eq_true_iff_forall_mem.mp hF) _ (Array.getElem_mem ha)) i (List.mem_range.mpr hi)
    simpa [Array.getElem?_eq_getElem hi] using q
  obtain ⟨hsets, hown0⟩ := atoms_of _ (rest_1_c_eq ▸ (show rest_1_c.before _ s = true from hrest))
  have hr0 := Cond.before_iff.mp hown0
  obtain ⟨i0, ei0⟩ := is_v q3
  obtain rfl : w0 = (.int i0) := Option.some.inj ei0
  obtain ⟨i1, ei1⟩ := is_v q5
  obtain rfl : w1 = (.int i1) := Option.some.inj ei1
  obtain ⟨i2, ei2⟩ := is_v q7
  obtain rfl : w2 = (.int i2) := Option.some.inj ei2
  obtain ⟨i3, ei3⟩ := is_v q9
  obtain rfl : w3 = (.int i3) := Option.some.inj ei3
  obtain ⟨i4, ei4⟩ := is_v q10
  obtain rfl : w4 = (.int i4) := Option.some.inj ei4
  obtain ⟨co, evc⟩ := is_v (Cond.before_iff.mp (hsets _ (List.mem_of_getElem? (i := 1) rfl)))
  have S_CS := Sta.start evc (Or.inl (hsets _ (List.mem_of_getElem? (i := 0) rfl)))
  have hcs : ¬ co = (0 : Int32) := gotF (Cond.eq_ints evc (Term.int_eval 0)) (not_v (Cond.before_iff.mp (hsets _ (List.mem_of_getElem? (i := 2) rfl))))
  obtain ⟨vf, evf, hvf⟩ := isR_v (Cond.before_iff.mp (hsets _ (List.mem_of_getElem? (i := 8) rfl)))
  have S_SI := Sta.start evf (Or.inl (hsets _ (List.mem_of_getElem? (i := 7) rfl)))
  have hcat_vf : vf.category = 1 := by rcases ref_cases hvf with rfl | ⟨r, rfl⟩ <;> rfl
  have S_AD := Sta.start (eqv_i (Term.int_eval 1) (Cond.before_iff.mp (hsets _ (List.mem_of_getElem? (i := 12) rfl)))) (Or.inl (hsets _ (List.mem_of_getElem? (i := 11) rfl)))
  have S_HI := Sta.start (eqv_i (Term.int_eval 0) (Cond.before_iff.mp (hsets _ (List.mem_of_getElem? (i := 15) rfl)))) (Or.inl (hsets _ (List.mem_of_getElem? (i := 14) rfl)))
  have S_LO := Sta.start (eqv_i (Term.int_eval 8) (Cond.before_iff.mp (hsets _ (List.mem_of_getElem? (i := 18) rfl)))) (Or.inl (hsets _ (List.mem_of_getElem? (i := 17) rfl)))
  have SWh : SW s co vf := ⟨S_CS, hcs, S_AD, S_HI, S_LO, S_SI, hcat_vf⟩
  have CH : CHv s consts_1 s.vm s.heap := CHv.start (own_EW hw) (fun p hp => hcalls.1 p hp) (hsets _ (List.mem_of_getElem? (i := 2) rfl)) (wq hw 15 rfl) (wq hw 2 rfl)
  obtain ⟨n, o, h1, h2, h3, _, L, rfl, ⟨rfl, N⟩, hq⟩ := rm0 l s _ hw tables_1 i0 i1 i2 i3 i4  co vf s.heap s.heap.size (Old.start s)  SWh p e ha hc hk s m _ below hf ((Spec.applies_iff_loose hf).mp happ).1 ⟨rfl, State.Warmed39.refl s, rfl, CH⟩ trivial
  refine ⟨n, _, h1, h2, h3, hpost _ _ _ _ _ _ ⟨Cond.after_iff.mpr rfl, Cond.after_iff.mpr (eq_i res_at (Term.int_eval (1)) rfl), trivial⟩ ⟨hq.1, hq.2.1, hq.2.2.1, (hq.2.2.2.sift fun y hy => Or.inr (N y hy)).mono (by decide) (by decide)⟩⟩
theorem main_1_1 : Claimed_1_1 := comes_1 fun _ _ _ _ _ _ h hF => ⟨h.1, hF⟩
theorem main_1_2 : Claimed_1_2 := comes_1 fun _ _ _ _ _ _ h hF => ⟨h.2.1, hF⟩

end Jvm.Pilot.@@N@@
namespace Jvm.Pilot.@@N@@
open Jvm Jvm.ClassFile Sem Op Lib Jvm.Free Jvm.Stand Jvm.Pilot.@@N@@.Jvm.D
/-! MADE BY PROGRAM (witnessworld.py) out of the Statement's table words and the real class files: 24 classes; the members and pool entries that the words name. The judged class is class 1, her method 1. -/
namespace start1
open Jvm.ClassFile
def u (s : String) : CpInfo := .utf8 (stringToUtf16 s)
/-- a pool by its gaps: so many unusable entries, then the entry; so many at the end -/
def gap : Nat → List CpInfo → List CpInfo
  | 0, r => r
  | n + 1, r => .unusable :: gap n r
def poolList (es : List (Nat × CpInfo)) (last : Nat) : List CpInfo := es.foldr (fun e r => gap e.1 (e.2 :: r)) (gap last [])
def pool (es : List (Nat × CpInfo)) (last : Nat) : Array CpInfo := ⟨poolList es last⟩
def fileOf (pool : Array CpInfo) (this : Nat) (attrs : Array Attribute := #[]) (ms : Array MethodInfo := #[]) (fl : Nat := 33) (sup : Nat := 0) (ifs : Array Nat := #[]) (fds : Array FieldInfo := #[]) : ClassFile where
  minorVersion := 0
  majorVersion := 65
  constantPool := pool
  accessFlags := fl
  thisClass := this
  superClass := sup
  interfaces := ifs
  fields := fds
  methods := ms
  attributes := attrs
def plain (name : String) (sup : Option ClassId) : Class where
  name := name
  kind := .ordinary
  loader := none
  accessFlags := 33
  super := sup
  interfaces := #[]
  cf := none
  fields := #[]
  methods := #[]
  instanceTypes := #[]
  staticTypes := #[]
  resolved := #[]
  callSites := []
  init := .initialized
  statics := none
  mirror := none

def pool0 : Array CpInfo := pool [(5, u "<init>"), (0, u "()V"), (1, .class_ 10), (1, u "java/lang/Object")] 113

def k0c0 : Code := { maxStack := 0, maxLocals := 1, code := object_method_1_code, exceptionTable := #[], attributes := #[] }
def k0m0 : Method := { name := "<init>", desc := "()V", sig := { parameters := [], returnType := none }, accessFlags := 1, code := some k0c0 }
/-- java/lang/Object -/
def k0 : Class := { plain "java/lang/Object" none with
  accessFlags := 33
  interfaces := #[]
  cf := some (fileOf pool0 8 #[] #[{ accessFlags := 1, nameIndex := 5, descriptorIndex := 6, attributes := #[] }] 33 0 #[] #[])
  fields := #[]
  methods := #[k0m0]
  instanceTypes := #[]
  staticTypes := #[]
  resolved := Array.replicate 124 none
  statics := none }

def pool1 : Array CpInfo := pool [(2, .class_ 4), (1, u "java/lang/Object"), (0, u "<init>"), (0, u "()V"), (0, .integer 65535), (0, .class_ 9), (0, u "java/lang/String"), (0, .methodref 8 11), (0, .nameAndType 5 12), (0, u "([C)V"), (0, .methodref 14 15), (0, .class_ 16), (0, .nameAndType 17 18), (0, u "com/example/tickcross/tickcross/http/RequestStream"), (0, u "quoted"), (0, u "(Ljava/lang/String;)Ljava/lang/String;"), (0, .methodref 8 20), (0, .nameAndType 21 22), (0, u "equals"), (0, u "(Ljava/lang/Object;)Z"), (0, .class_ 24), (0, u "com/example/tickcross/tickcross/http/RequestStreamQuotedPinLaw"), (2, u "law"), (0, u "(IIIII)Z")] 5

def k1m0 : Method := { name := "<init>", desc := "()V", sig := { parameters := [], returnType := none }, accessFlags := 1, code := none }
def k1c1 : Code := { maxStack := 4, maxLocals := 11, code := code, exceptionTable := #[], attributes := #[] }
def k1m1 : Method := { name := "law", desc := "(IIIII)Z", sig := { parameters := [.int, .int, .int, .int, .int], returnType := some .boolean }, accessFlags := 9, code := some k1c1 }
/-- com/example/tickcross/tickcross/http/RequestStreamQuotedPinLaw -/
def k1 : Class := { plain "com/example/tickcross/tickcross/http/RequestStreamQuotedPinLaw" (some 0) with
  accessFlags := 49
  interfaces := #[]
  cf := some (fileOf pool1 23 #[] #[{ accessFlags := 1, nameIndex := 5, descriptorIndex := 6, attributes := #[] }, { accessFlags := 9, nameIndex := 27, descriptorIndex := 28, attributes := #[] }] 49 2 #[] #[])
  fields := #[]
  methods := #[k1m0, k1m1]
  instanceTypes := #[]
  staticTypes := #[]
  resolved := Array.replicate 34 none
  statics := none }

def pool2 : Array CpInfo := pool [(1, .class_ 2), (0, u "java/io/Serializable"), (0, .class_ 4), (0, u "java/lang/Object")] 2

/-- java/io/Serializable -/
def k2 : Class := { plain "java/io/Serializable" (some 0) with
  accessFlags := 1537
  interfaces := #[]
  cf := some (fileOf pool2 1 #[] #[] 1537 3 #[] #[])
  fields := #[]
  methods := #[]
  instanceTypes := #[]
  staticTypes := #[]
  resolved := Array.replicate 7 none
  statics := none }

def pool3 : Array CpInfo := pool [(1, .class_ 2), (0, u "java/lang/Comparable"), (0, .class_ 4), (0, u "java/lang/Object")] 7

/-- java/lang/Comparable -/
def k3 : Class := { plain "java/lang/Comparable" (some 0) with
  accessFlags := 1537
  interfaces := #[]
  cf := some (fileOf pool3 1 #[] #[] 1537 3 #[] #[])
  fields := #[]
  methods := #[]
  instanceTypes := #[]
  staticTypes := #[]
  resolved := Array.replicate 12 none
  statics := none }

def pool4 : Array CpInfo := pool [(2, .class_ 4), (1, u "java/lang/CharSequence"), (42, .class_ 48), (0, u "java/lang/CharSequence$1CodePointIterator"), (10, .class_ 60), (0, u "java/lang/CharSequence$1CharIterator"), (5, .class_ 67), (0, u "java/lang/Object")] 63

/-- java/lang/CharSequence -/
def k4 : Class := { plain "java/lang/CharSequence" (some 0) with
  accessFlags := 1537
  interfaces := #[]
  cf := some (fileOf pool4 2 #[.nestMembers #[47, 59]] #[] 1537 66 #[] #[])
  fields := #[]
  methods := #[]
  instanceTypes := #[]
  staticTypes := #[]
  resolved := Array.replicate 131 none
  statics := none }

def pool5 : Array CpInfo := pool [(1, .class_ 2), (0, u "java/lang/constant/Constable"), (0, .class_ 4), (0, u "java/lang/Object")] 6

/-- java/lang/constant/Constable -/
def k5 : Class := { plain "java/lang/constant/Constable" (some 0) with
  accessFlags := 1537
  interfaces := #[]
  cf := some (fileOf pool5 1 #[] #[] 1537 3 #[] #[])
  fields := #[]
  methods := #[]
  instanceTypes := #[]
  staticTypes := #[]
  resolved := Array.replicate 11 none
  statics := none }

def pool6 : Array CpInfo := pool [(1, .class_ 2), (0, u "java/lang/constant/ConstantDesc"), (0, .class_ 4), (0, u "java/lang/Object")] 32

/-- java/lang/constant/ConstantDesc -/
def k6 : Class := { plain "java/lang/constant/ConstantDesc" (some 0) with
  accessFlags := 1537
  interfaces := #[]
  cf := some (fileOf pool6 1 #[] #[] 1537 3 #[] #[])
  fields := #[]
  methods := #[]
  instanceTypes := #[]
  staticTypes := #[]
  resolved := Array.replicate 37 none
  statics := none }

def pool7 : Array CpInfo := pool [(1, .methodref 2 3), (0, .class_ 4), (0, .nameAndType 5 6), (0, u "java/lang/Object"), (0, u "<init>"), (0, u "()V"), (0, .string 8), (0, u ""), (0, .fieldref 10 11), (0, .class_ 12), (0, .nameAndType 13 14), (0, u "java/lang/String"), (0, u "value"), (0, u "[B"), (0, .fieldref 10 16), (0, .nameAndType 17 18), (0, u "coder"), (0, u "B"), (2, u "hash"), (0, u "I"), (2, u "hashIsZero"), (0, u "Z"), (0, .methodref 10 28), (0, .nameAndType 5 29), (0, u "([CIILjava/lang/Void;)V"), (6, u "checkBoundsOffCount"), (0, u "(III)I"), (0, .fieldref 10 39), (0, .nameAndType 40 26), (0, u "COMPACT_STRINGS"), (1, .class_ 44), (1, u "java/lang/StringUTF16"), (0, u "compress"), (1, .methodref 42 48), (0, .nameAndType 49 50), (0, u "coderFromArrayLen"), (0, u "([BI)B"), (3, .methodref 55 56), (0, .class_ 57), (0, .nameAndType 58 59), (0, u "java/util/Arrays"), (0, u "copyOfRange"), (0, u "([BII)[B"), (46, .methodref 107 108), (0, .class_ 109), (0, .nameAndType 110 111), (0, u "java/lang/StringLatin1"), (0, u "inflate"), (0, u "([BI[BII)V"), (30, u "()Z"), (34, .methodref 42 178), (0, .nameAndType 45 179), (0, u "([CII)[B"), (13, .class_ 195), (1, u "java/lang/System"), (15, u "([BB)V"), (0, .methodref 193 213), (0, .nameAndType 214 215), (0, u "arraycopy"), (0, u "(Ljava/lang/Object;ILjava/lang/Object;II)V"), (118, u "()I"), (0, .methodref 10 336), (0, .nameAndType 17 337), (0, u "()B"), (2, u "()[B"), (148, .methodref 10 490), (0, .nameAndType 5 491), (0, u "(Ljava/lang/AbstractStringBuilder;Ljava/lang/Void;)V"), (0, .methodref 10 493), (0, .nameAndType 494 142), (0, u "isLatin1"), (10, .methodref 10 506), (0, .nameAndType 507 334), (0, u "length"), (5, u "checkFromToIndex"), (7, .methodref 10 522), (0, .nameAndType 523 524), (0, u "checkBoundsBeginEnd"), (0, u "(III)V"), (7, u "getBytes"), (8, .methodref 107 542), (0, .nameAndType 543 544), (0, u "equals"), (0, u "([B[B)Z"), (4, .methodref 550 506), (0, .class_ 551), (0, u "java/lang/AbstractStringBuilder"), (0, .methodref 550 553), (0, .nameAndType 554 340), (0, u "getValue"), (18, u "(Ljava/lang/Object;)Z"), (1, .class_ 576), (0, u "java/lang/CharSequence"), (22, u "CASE_INSENSITIVE_ORDER"), (0, u "Ljava/util/Comparator;"), (82, u "substring"), (0, u "(II)Ljava/lang/String;"), (0, .methodref 107 686), (0, .nameAndType 687 688), (0, u "newString"), (0, u "([BII)Ljava/lang/String;"), (0, .methodref 42 686), (131, u "([BIB)V"), (188, u "([C)V"), (36, .methodref 550 493), (0, .fieldref 550 1049), (0, .nameAndType 1050 26), (0, u "maybeLatin1"), (2, .fieldref 1054 1055), (0, .class_ 1056), (0, .nameAndType 1057 1058), (0, u "jdk/internal/util/Preconditions"), (0, u "SIOOBE_FORMATTER"), (0, u "Ljava/util/function/BiFunction;"), (3, .methodref 1054 1063), (0, .nameAndType 513 1064), (0, u "(IIILjava/util/function/BiFunction;)I"), (0, .methodref 1054 1066), (0, .nameAndType 1067 1064), (0, u "checkFromIndexSize"), (33, u "serialPersistentFields"), (0, u "[Ljava/io/ObjectStreamField;"), (0, .class_ 1104), (0, u "java/lang/String$CaseInsensitiveComparator"), (1, .class_ 1107), (0, u "java/io/Serializable"), (0, .class_ 1109), (0, u "java/lang/Comparable"), (0, .class_ 1111), (0, u "java/lang/constant/Constable"), (0, .class_ 1113), (0, u "java/lang/constant/ConstantDesc"), (2, u "serialVersionUID"), (0, u "J"), (3, u "REPL"), (0, u "C"), (2, u "LATIN1"), (1, u "UTF16"), (105, u "(Ljava/lang/StringBuilder;)V")] 217

def k7m0 : Method := { name := "<init>", desc := "()V", sig := { parameters := [], returnType := none }, accessFlags := 1, code := none }
def k7c1 : Code := { maxStack := 5, maxLocals := 2, code := jdk_42_method_3_code, exceptionTable := #[], attributes := #[] }
def k7m1 : Method := { name := "<init>", desc := "([C)V", sig := { parameters := [(.array .char)], returnType := none }, accessFlags := 1, code := some k7c1 }
def k7c2 : Code := { maxStack := 3, maxLocals := 2, code := jdk_42_method_53_code, exceptionTable := #[], attributes := #[] }
def k7m2 : Method := { name := "<init>", desc := "(Ljava/lang/StringBuilder;)V", sig := { parameters := [(.object "java/lang/StringBuilder")], returnType := none }, accessFlags := 1, code := some k7c2 }
def k7c3 : Code := { maxStack := 2, maxLocals := 1, code := jdk_42_method_54_code, exceptionTable := #[], attributes := #[] }
def k7m3 : Method := { name := "length", desc := "()I", sig := { parameters := [], returnType := some .int }, accessFlags := 1, code := some k7c3 }
def k7c4 : Code := { maxStack := 2, maxLocals := 3, code := jdk_42_method_66_code, exceptionTable := #[], attributes := #[] }
def k7m4 : Method := { name := "equals", desc := "(Ljava/lang/Object;)Z", sig := { parameters := [(.object "java/lang/Object")], returnType := some .boolean }, accessFlags := 1, code := some k7c4 }
def k7c5 : Code := { maxStack := 3, maxLocals := 5, code := jdk_42_method_92_code, exceptionTable := #[], attributes := #[] }
def k7m5 : Method := { name := "substring", desc := "(II)Ljava/lang/String;", sig := { parameters := [.int, .int], returnType := some (.object "java/lang/String") }, accessFlags := 1, code := some k7c5 }
def k7c6 : Code := { maxStack := 5, maxLocals := 4, code := jdk_42_method_147_code, exceptionTable := #[], attributes := #[] }
def k7m6 : Method := { name := "getBytes", desc := "([BIB)V", sig := { parameters := [(.array .byte), .int, .byte], returnType := none }, accessFlags := 0, code := some k7c6 }
def k7c7 : Code := { maxStack := 4, maxLocals := 6, code := jdk_42_method_149_code, exceptionTable := #[], attributes := #[] }
def k7m7 : Method := { name := "<init>", desc := "([CIILjava/lang/Void;)V", sig := { parameters := [(.array .char), .int, .int, (.object "java/lang/Void")], returnType := none }, accessFlags := 2, code := some k7c7 }
def k7c8 : Code := { maxStack := 5, maxLocals := 5, code := jdk_42_method_150_code, exceptionTable := #[], attributes := #[] }
def k7m8 : Method := { name := "<init>", desc := "(Ljava/lang/AbstractStringBuilder;Ljava/lang/Void;)V", sig := { parameters := [(.object "java/lang/AbstractStringBuilder"), (.object "java/lang/Void")], returnType := none }, accessFlags := 0, code := some k7c8 }
def k7c9 : Code := { maxStack := 2, maxLocals := 3, code := jdk_42_method_151_code, exceptionTable := #[], attributes := #[] }
def k7m9 : Method := { name := "<init>", desc := "([BB)V", sig := { parameters := [(.array .byte), .byte], returnType := none }, accessFlags := 0, code := some k7c9 }
def k7c10 : Code := { maxStack := 1, maxLocals := 1, code := jdk_42_method_152_code, exceptionTable := #[], attributes := #[] }
def k7m10 : Method := { name := "coder", desc := "()B", sig := { parameters := [], returnType := some .byte }, accessFlags := 0, code := some k7c10 }
def k7c11 : Code := { maxStack := 1, maxLocals := 1, code := jdk_42_method_154_code, exceptionTable := #[], attributes := #[] }
def k7m11 : Method := { name := "isLatin1", desc := "()Z", sig := { parameters := [], returnType := some .boolean }, accessFlags := 0, code := some k7c11 }
def k7c12 : Code := { maxStack := 4, maxLocals := 3, code := jdk_42_method_157_code, exceptionTable := #[], attributes := #[] }
def k7m12 : Method := { name := "checkBoundsOffCount", desc := "(III)I", sig := { parameters := [.int, .int, .int], returnType := some .int }, accessFlags := 8, code := some k7c12 }
def k7c13 : Code := { maxStack := 4, maxLocals := 3, code := jdk_42_method_158_code, exceptionTable := #[], attributes := #[] }
def k7m13 : Method := { name := "checkBoundsBeginEnd", desc := "(III)V", sig := { parameters := [.int, .int, .int], returnType := none }, accessFlags := 8, code := some k7c13 }
/-- java/lang/String -/
def k7 : Class := { plain "java/lang/String" (some 0) with
  accessFlags := 49
  interfaces := #[2, 3, 4, 5, 6]
  cf := some (fileOf pool7 10 #[.nestMembers #[1103]] #[{ accessFlags := 1, nameIndex := 5, descriptorIndex := 6, attributes := #[] }, { accessFlags := 1, nameIndex := 5, descriptorIndex := 1010, attributes := #[] }, { accessFlags := 1, nameIndex := 5, descriptorIndex := 1233, attributes := #[] }, { accessFlags := 1, nameIndex := 507, descriptorIndex := 334, attributes := #[] }, { accessFlags := 1, nameIndex := 543, descriptorIndex := 573, attributes := #[] }, { accessFlags := 1, nameIndex := 683, descriptorIndex := 684, attributes := #[] }, { accessFlags := 0, nameIndex := 532, descriptorIndex := 821, attributes := #[] }, { accessFlags := 2, nameIndex := 5, descriptorIndex := 29, attributes := #[] }, { accessFlags := 0, nameIndex := 5, descriptorIndex := 491, attributes := #[] }, { accessFlags := 0, nameIndex := 5, descriptorIndex := 211, attributes := #[] }, { accessFlags := 0, nameIndex := 17, descriptorIndex := 337, attributes := #[] }, { accessFlags := 0, nameIndex := 494, descriptorIndex := 142, attributes := #[] }, { accessFlags := 8, nameIndex := 36, descriptorIndex := 37, attributes := #[] }, { accessFlags := 8, nameIndex := 523, descriptorIndex := 524, attributes := #[] }] 49 2 #[1106, 1108, 575, 1110, 1112] #[{ accessFlags := 18, nameIndex := 13, descriptorIndex := 14, attributes := #[] }, { accessFlags := 18, nameIndex := 17, descriptorIndex := 18, attributes := #[] }, { accessFlags := 2, nameIndex := 21, descriptorIndex := 22, attributes := #[] }, { accessFlags := 2, nameIndex := 25, descriptorIndex := 26, attributes := #[] }, { accessFlags := 26, nameIndex := 1116, descriptorIndex := 1117, attributes := #[] }, { accessFlags := 24, nameIndex := 40, descriptorIndex := 26, attributes := #[] }, { accessFlags := 26, nameIndex := 1101, descriptorIndex := 1102, attributes := #[] }, { accessFlags := 26, nameIndex := 1121, descriptorIndex := 1122, attributes := #[] }, { accessFlags := 25, nameIndex := 599, descriptorIndex := 600, attributes := #[] }, { accessFlags := 24, nameIndex := 1125, descriptorIndex := 18, attributes := #[] }, { accessFlags := 24, nameIndex := 1127, descriptorIndex := 18, attributes := #[] }])
  fields := #[{ name := "value", type := (.array .byte), accessFlags := 18, slot := 0, constantValue := 0 }, { name := "coder", type := .byte, accessFlags := 18, slot := 1, constantValue := 0 }, { name := "hash", type := .int, accessFlags := 2, slot := 2, constantValue := 0 }, { name := "hashIsZero", type := .boolean, accessFlags := 2, slot := 3, constantValue := 0 }, { name := "serialVersionUID", type := .long, accessFlags := 26, slot := 0, constantValue := 0 }, { name := "COMPACT_STRINGS", type := .boolean, accessFlags := 24, slot := 1, constantValue := 0 }, { name := "serialPersistentFields", type := (.array (.object "java/io/ObjectStreamField")), accessFlags := 26, slot := 2, constantValue := 0 }, { name := "REPL", type := .char, accessFlags := 26, slot := 3, constantValue := 0 }, { name := "CASE_INSENSITIVE_ORDER", type := (.object "java/util/Comparator"), accessFlags := 25, slot := 4, constantValue := 0 }, { name := "LATIN1", type := .byte, accessFlags := 24, slot := 5, constantValue := 0 }, { name := "UTF16", type := .byte, accessFlags := 24, slot := 6, constantValue := 0 }]
  methods := #[k7m0, k7m1, k7m2, k7m3, k7m4, k7m5, k7m6, k7m7, k7m8, k7m9, k7m10, k7m11, k7m12, k7m13]
  instanceTypes := #[(.array .byte), .byte, .int, .boolean]
  staticTypes := #[.long, .boolean, (.array (.object "java/io/ObjectStreamField")), .char, (.object "java/util/Comparator"), .byte, .byte]
  resolved := Array.replicate 1451 none
  statics := some 0 }

def pool8 : Array CpInfo := pool [(2, .class_ 4), (0, .nameAndType 5 6), (0, u "java/lang/Object"), (0, u "<init>"), (0, u "()V"), (1, .class_ 10), (1, u "com/example/tickcross/tickcross/http/RequestStream$Part"), (1, u "Lcom/example/tickcross/tickcross/http/RequestStream$Part;"), (1, .class_ 16), (1, u "com/example/tickcross/tickcross/http/RequestStream"), (0, u "part"), (0, .class_ 19), (0, u "com/example/tickcross/tickcross/http/RequestStream$Head"), (3, u "head"), (0, u "Lcom/example/tickcross/tickcross/http/RequestStream$Head;"), (6, u "budget"), (0, u "Lcom/example/tickcross/tickcross/http/RequestStream$Budget;"), (0, .class_ 34), (0, u "java/lang/StringBuilder"), (0, .methodref 33 3), (2, u "line"), (0, u "Ljava/lang/StringBuilder;"), (13, u "(Ljava/lang/String;)Ljava/lang/String;"), (9, u "()Ljava/lang/String;"), (14, .class_ 80), (1, u "java/lang/String"), (2, .methodref 78 84), (0, .nameAndType 85 86), (0, u "substring"), (0, u "(II)Ljava/lang/String;"), (41, .class_ 129), (0, u "com/example/tickcross/tickcross/http/RequestStream$Unreadable"), (6, u "Ljava/lang/String;"), (22, u "atLineEnd"), (0, u "Z"), (6, .class_ 169), (1, u "com/example/tickcross/tickcross/http/RequestStream$Budget"), (1, .methodref 33 172), (0, .nameAndType 173 63), (0, u "toString"), (4, u "append"), (4, u "()I"), (18, .methodref 33 203), (0, .nameAndType 178 204), (0, u "(Ljava/lang/String;)Ljava/lang/StringBuilder;"), (4, u "left"), (0, u "J"), (35, .class_ 248), (1, u "com/example/tickcross/tickcross/http/RequestStream$Framing"), (57, .methodref 78 307), (0, .nameAndType 308 183), (0, u "length"), (24, u "quoted"), (2, .string 337), (0, u "..."), (10, u "QUERY_HEADER"), (1, u "REFUSAL_HEADER"), (0, u "MAX_HEAD_BYTES"), (0, u "I"), (0, u "MAX_HEADER_FIELDS"), (1, u "MAX_CHUNK_LINE_BYTES"), (1, u "QUOTED_CHARS"), (1, u "MAX_HEX_DIGITS"), (1, u "MAX_DECIMAL_DIGITS"), (1, u "CRLF"), (0, u "TOKEN_MARKS")] 24

def k8m0 : Method := { name := "<init>", desc := "()V", sig := { parameters := [], returnType := none }, accessFlags := 0, code := none }
def k8c1 : Code := { maxStack := 4, maxLocals := 1, code := prog_12_method_17_code, exceptionTable := #[], attributes := #[] }
def k8m1 : Method := { name := "quoted", desc := "(Ljava/lang/String;)Ljava/lang/String;", sig := { parameters := [(.object "java/lang/String")], returnType := some (.object "java/lang/String") }, accessFlags := 8, code := some k8c1 }
/-- com/example/tickcross/tickcross/http/RequestStream -/
def k8 : Class := { plain "com/example/tickcross/tickcross/http/RequestStream" (some 0) with
  accessFlags := 48
  interfaces := #[]
  cf := some (fileOf pool8 14 #[.nestMembers #[128, 167, 246, 18, 8]] #[{ accessFlags := 0, nameIndex := 5, descriptorIndex := 6, attributes := #[] }, { accessFlags := 8, nameIndex := 333, descriptorIndex := 53, attributes := #[] }] 48 2 #[] #[{ accessFlags := 24, nameIndex := 348, descriptorIndex := 136, attributes := #[] }, { accessFlags := 24, nameIndex := 350, descriptorIndex := 136, attributes := #[] }, { accessFlags := 24, nameIndex := 351, descriptorIndex := 352, attributes := #[] }, { accessFlags := 24, nameIndex := 353, descriptorIndex := 352, attributes := #[] }, { accessFlags := 26, nameIndex := 355, descriptorIndex := 352, attributes := #[] }, { accessFlags := 26, nameIndex := 357, descriptorIndex := 352, attributes := #[] }, { accessFlags := 26, nameIndex := 359, descriptorIndex := 352, attributes := #[] }, { accessFlags := 26, nameIndex := 361, descriptorIndex := 352, attributes := #[] }, { accessFlags := 26, nameIndex := 363, descriptorIndex := 136, attributes := #[] }, { accessFlags := 26, nameIndex := 364, descriptorIndex := 136, attributes := #[] }, { accessFlags := 2, nameIndex := 17, descriptorIndex := 12, attributes := #[] }, { accessFlags := 2, nameIndex := 23, descriptorIndex := 24, attributes := #[] }, { accessFlags := 2, nameIndex := 31, descriptorIndex := 32, attributes := #[] }, { accessFlags := 2, nameIndex := 38, descriptorIndex := 39, attributes := #[] }, { accessFlags := 2, nameIndex := 159, descriptorIndex := 160, attributes := #[] }, { accessFlags := 2, nameIndex := 209, descriptorIndex := 210, attributes := #[] }])
  fields := #[{ name := "QUERY_HEADER", type := (.object "java/lang/String"), accessFlags := 24, slot := 0, constantValue := 0 }, { name := "REFUSAL_HEADER", type := (.object "java/lang/String"), accessFlags := 24, slot := 1, constantValue := 0 }, { name := "MAX_HEAD_BYTES", type := .int, accessFlags := 24, slot := 2, constantValue := 0 }, { name := "MAX_HEADER_FIELDS", type := .int, accessFlags := 24, slot := 3, constantValue := 0 }, { name := "MAX_CHUNK_LINE_BYTES", type := .int, accessFlags := 26, slot := 4, constantValue := 0 }, { name := "QUOTED_CHARS", type := .int, accessFlags := 26, slot := 5, constantValue := 0 }, { name := "MAX_HEX_DIGITS", type := .int, accessFlags := 26, slot := 6, constantValue := 0 }, { name := "MAX_DECIMAL_DIGITS", type := .int, accessFlags := 26, slot := 7, constantValue := 0 }, { name := "CRLF", type := (.object "java/lang/String"), accessFlags := 26, slot := 8, constantValue := 0 }, { name := "TOKEN_MARKS", type := (.object "java/lang/String"), accessFlags := 26, slot := 9, constantValue := 0 }, { name := "part", type := (.object "com/example/tickcross/tickcross/http/RequestStream$Part"), accessFlags := 2, slot := 0, constantValue := 0 }, { name := "head", type := (.object "com/example/tickcross/tickcross/http/RequestStream$Head"), accessFlags := 2, slot := 1, constantValue := 0 }, { name := "budget", type := (.object "com/example/tickcross/tickcross/http/RequestStream$Budget"), accessFlags := 2, slot := 2, constantValue := 0 }, { name := "line", type := (.object "java/lang/StringBuilder"), accessFlags := 2, slot := 3, constantValue := 0 }, { name := "atLineEnd", type := .boolean, accessFlags := 2, slot := 4, constantValue := 0 }, { name := "left", type := .long, accessFlags := 2, slot := 5, constantValue := 0 }]
  methods := #[k8m0, k8m1]
  instanceTypes := #[(.object "com/example/tickcross/tickcross/http/RequestStream$Part"), (.object "com/example/tickcross/tickcross/http/RequestStream$Head"), (.object "com/example/tickcross/tickcross/http/RequestStream$Budget"), (.object "java/lang/StringBuilder"), .boolean, .long]
  staticTypes := #[(.object "java/lang/String"), (.object "java/lang/String"), .int, .int, .int, .int, .int, .int, (.object "java/lang/String"), (.object "java/lang/String")]
  resolved := Array.replicate 389 none
  statics := none }

def pool9 : Array CpInfo := pool [(3, .class_ 4), (0, u "java/lang/String"), (1, .class_ 8), (1, u "java/lang/Object"), (0, u "<init>"), (0, u "()V"), (0, .methodref 12 13), (0, .class_ 14), (0, .nameAndType 15 16), (0, u "java/lang/StringUTF16"), (0, u "newBytesLength"), (0, u "(I)I"), (3, .integer 1073741823), (23, .fieldref 12 45), (0, .nameAndType 46 47), (0, u "$assertionsDisabled"), (0, u "Z"), (0, .methodref 12 49), (0, .nameAndType 50 51), (0, u "length"), (0, u "([B)I"), (7, .fieldref 12 60), (0, .nameAndType 61 62), (0, u "HI_BYTE_SHIFT"), (0, u "I"), (0, .fieldref 12 64), (0, .nameAndType 65 62), (0, u "LO_BYTE_SHIFT"), (5, .methodref 12 72), (0, .nameAndType 73 74), (0, u "getChar"), (0, u "([BI)C"), (24, u "(II[B)V"), (7, .methodref 12 108), (0, .nameAndType 109 110), (0, u "newBytesFor"), (0, u "(I)[B"), (0, .methodref 12 112), (0, .nameAndType 113 114), (0, u "putChar"), (0, u "([BII)V"), (0, .methodref 12 116), (0, .nameAndType 117 118), (0, u "compress"), (0, u "([CI[BII)I"), (0, .methodref 12 120), (0, .nameAndType 121 122), (0, u "toBytes"), (0, u "([CII)[B"), (0, .methodref 12 124), (0, .nameAndType 117 125), (0, u "([BI[BII)I"), (0, .methodref 127 128), (0, .class_ 129), (0, .nameAndType 130 131), (0, u "java/util/Arrays"), (0, u "copyOfRange"), (0, u "([BII)[B"), (8, u "inflate"), (0, u "([BI[BII)V"), (31, .methodref 12 174), (0, .nameAndType 175 99), (0, u "checkBoundsOffCount"), (75, .fieldref 3 252), (0, .nameAndType 253 47), (0, u "COMPACT_STRINGS"), (3, .methodref 12 258), (0, .nameAndType 117 131), (0, .methodref 12 260), (0, .nameAndType 261 262), (0, u "coderFromArrayLen"), (0, u "([BI)B"), (0, .methodref 3 264), (0, .nameAndType 9 265), (0, u "([BB)V"), (15, u "(III)I"), (45, u "newString"), (0, u "([BII)Ljava/lang/String;"), (40, .class_ 371), (1, u "java/lang/StringUTF16$LinesSpliterator"), (47, .methodref 3 420), (0, .nameAndType 175 281), (9, u "MAX_LENGTH"), (196, .class_ 628), (0, u "java/lang/StringUTF16$CodePointsSpliterator"), (0, .class_ 630), (0, u "java/lang/StringUTF16$CharsSpliterator")] 4

def k9m0 : Method := { name := "<init>", desc := "()V", sig := { parameters := [], returnType := none }, accessFlags := 0, code := none }
def k9c1 : Code := { maxStack := 1, maxLocals := 1, code := jdk_52_method_2_code, exceptionTable := #[], attributes := #[] }
def k9m1 : Method := { name := "newBytesFor", desc := "(I)[B", sig := { parameters := [.int], returnType := some (.array .byte) }, accessFlags := 9, code := some k9c1 }
def k9c2 : Code := { maxStack := 4, maxLocals := 1, code := jdk_52_method_3_code, exceptionTable := #[], attributes := #[] }
def k9m2 : Method := { name := "newBytesLength", desc := "(I)I", sig := { parameters := [.int], returnType := some .int }, accessFlags := 9, code := some k9c2 }
def k9c3 : Code := { maxStack := 4, maxLocals := 3, code := jdk_52_method_4_code, exceptionTable := #[], attributes := #[] }
def k9m3 : Method := { name := "putChar", desc := "([BII)V", sig := { parameters := [(.array .byte), .int, .int], returnType := none }, accessFlags := 8, code := some k9c3 }
def k9c4 : Code := { maxStack := 3, maxLocals := 2, code := jdk_52_method_5_code, exceptionTable := #[], attributes := #[] }
def k9m4 : Method := { name := "getChar", desc := "([BI)C", sig := { parameters := [(.array .byte), .int], returnType := some .char }, accessFlags := 8, code := some k9c4 }
def k9c5 : Code := { maxStack := 2, maxLocals := 1, code := jdk_52_method_6_code, exceptionTable := #[], attributes := #[] }
def k9m5 : Method := { name := "length", desc := "([B)I", sig := { parameters := [(.array .byte)], returnType := some .int }, accessFlags := 9, code := some k9c5 }
def k9c6 : Code := { maxStack := 4, maxLocals := 5, code := jdk_52_method_14_code, exceptionTable := #[], attributes := #[] }
def k9m6 : Method := { name := "toBytes", desc := "([CII)[B", sig := { parameters := [(.array .char), .int, .int], returnType := some (.array .byte) }, accessFlags := 9, code := some k9c6 }
def k9c7 : Code := { maxStack := 2, maxLocals := 2, code := jdk_52_method_15_code, exceptionTable := #[], attributes := #[] }
def k9m7 : Method := { name := "coderFromArrayLen", desc := "([BI)B", sig := { parameters := [(.array .byte), .int], returnType := some .byte }, accessFlags := 8, code := some k9c7 }
def k9c8 : Code := { maxStack := 5, maxLocals := 6, code := jdk_52_method_16_code, exceptionTable := #[], attributes := #[] }
def k9m8 : Method := { name := "compress", desc := "([CII)[B", sig := { parameters := [(.array .char), .int, .int], returnType := some (.array .byte) }, accessFlags := 9, code := some k9c8 }
def k9c9 : Code := { maxStack := 5, maxLocals := 6, code := jdk_52_method_17_code, exceptionTable := #[], attributes := #[] }
def k9m9 : Method := { name := "compress", desc := "([BII)[B", sig := { parameters := [(.array .byte), .int, .int], returnType := some (.array .byte) }, accessFlags := 9, code := some k9c9 }
def k9c10 : Code := { maxStack := 3, maxLocals := 7, code := jdk_52_method_21_code, exceptionTable := #[], attributes := #[] }
def k9m10 : Method := { name := "compress", desc := "([CI[BII)I", sig := { parameters := [(.array .char), .int, (.array .byte), .int, .int], returnType := some .int }, accessFlags := 9, code := some k9c10 }
def k9c11 : Code := { maxStack := 3, maxLocals := 7, code := jdk_52_method_22_code, exceptionTable := #[], attributes := #[] }
def k9m11 : Method := { name := "compress", desc := "([BI[BII)I", sig := { parameters := [(.array .byte), .int, (.array .byte), .int, .int], returnType := some .int }, accessFlags := 9, code := some k9c11 }
def k9c12 : Code := { maxStack := 6, maxLocals := 5, code := jdk_52_method_69_code, exceptionTable := #[], attributes := #[] }
def k9m12 : Method := { name := "newString", desc := "([BII)Ljava/lang/String;", sig := { parameters := [(.array .byte), .int, .int], returnType := some (.object "java/lang/String") }, accessFlags := 9, code := some k9c12 }
def k9c13 : Code := { maxStack := 4, maxLocals := 6, code := jdk_52_method_86_code, exceptionTable := #[], attributes := #[] }
def k9m13 : Method := { name := "inflate", desc := "([BI[BII)V", sig := { parameters := [(.array .byte), .int, (.array .byte), .int, .int], returnType := none }, accessFlags := 9, code := some k9c13 }
def k9c14 : Code := { maxStack := 3, maxLocals := 3, code := jdk_52_method_94_code, exceptionTable := #[], attributes := #[] }
def k9m14 : Method := { name := "checkBoundsOffCount", desc := "(II[B)V", sig := { parameters := [.int, .int, (.array .byte)], returnType := none }, accessFlags := 9, code := some k9c14 }
/-- java/lang/StringUTF16 -/
def k9 : Class := { plain "java/lang/StringUTF16" (some 0) with
  accessFlags := 48
  interfaces := #[]
  cf := some (fileOf pool9 12 #[.nestMembers #[627, 629, 369]] #[{ accessFlags := 0, nameIndex := 9, descriptorIndex := 10, attributes := #[] }, { accessFlags := 9, nameIndex := 109, descriptorIndex := 110, attributes := #[] }, { accessFlags := 9, nameIndex := 15, descriptorIndex := 16, attributes := #[] }, { accessFlags := 8, nameIndex := 113, descriptorIndex := 114, attributes := #[] }, { accessFlags := 8, nameIndex := 73, descriptorIndex := 74, attributes := #[] }, { accessFlags := 9, nameIndex := 50, descriptorIndex := 51, attributes := #[] }, { accessFlags := 9, nameIndex := 121, descriptorIndex := 122, attributes := #[] }, { accessFlags := 8, nameIndex := 261, descriptorIndex := 262, attributes := #[] }, { accessFlags := 9, nameIndex := 117, descriptorIndex := 122, attributes := #[] }, { accessFlags := 9, nameIndex := 117, descriptorIndex := 131, attributes := #[] }, { accessFlags := 9, nameIndex := 117, descriptorIndex := 118, attributes := #[] }, { accessFlags := 9, nameIndex := 117, descriptorIndex := 125, attributes := #[] }, { accessFlags := 9, nameIndex := 327, descriptorIndex := 328, attributes := #[] }, { accessFlags := 9, nameIndex := 140, descriptorIndex := 141, attributes := #[] }, { accessFlags := 9, nameIndex := 175, descriptorIndex := 99, attributes := #[] }] 48 6 #[] #[{ accessFlags := 26, nameIndex := 61, descriptorIndex := 62, attributes := #[] }, { accessFlags := 26, nameIndex := 65, descriptorIndex := 62, attributes := #[] }, { accessFlags := 24, nameIndex := 430, descriptorIndex := 62, attributes := #[] }, { accessFlags := 4120, nameIndex := 46, descriptorIndex := 47, attributes := #[] }])
  fields := #[{ name := "HI_BYTE_SHIFT", type := .int, accessFlags := 26, slot := 0, constantValue := 0 }, { name := "LO_BYTE_SHIFT", type := .int, accessFlags := 26, slot := 1, constantValue := 0 }, { name := "MAX_LENGTH", type := .int, accessFlags := 24, slot := 2, constantValue := 0 }, { name := "$assertionsDisabled", type := .boolean, accessFlags := 4120, slot := 3, constantValue := 0 }]
  methods := #[k9m0, k9m1, k9m2, k9m3, k9m4, k9m5, k9m6, k9m7, k9m8, k9m9, k9m10, k9m11, k9m12, k9m13, k9m14]
  instanceTypes := #[]
  staticTypes := #[.int, .int, .int, .boolean]
  resolved := Array.replicate 635 none
  statics := some 1 }

def pool10 : Array CpInfo := pool [(1, .class_ 2), (0, u "java/lang/Appendable"), (0, .class_ 4), (0, u "java/lang/Object")] 9

/-- java/lang/Appendable -/
def k10 : Class := { plain "java/lang/Appendable" (some 0) with
  accessFlags := 1537
  interfaces := #[]
  cf := some (fileOf pool10 1 #[] #[] 1537 3 #[] #[])
  fields := #[]
  methods := #[]
  instanceTypes := #[]
  staticTypes := #[]
  resolved := Array.replicate 14 none
  statics := none }

def pool11 : Array CpInfo := pool [(1, .class_ 2), (0, u "java/lang/String"), (0, .methodref 4 5), (0, .class_ 6), (0, .nameAndType 7 8), (0, u "java/lang/Object"), (0, u "<init>"), (0, u "()V"), (1, .class_ 12), (1, u "java/lang/AbstractStringBuilder"), (0, u "EMPTYVALUE"), (0, u "[B"), (0, .fieldref 10 16), (0, .nameAndType 17 14), (0, u "value"), (0, .fieldref 1 19), (0, .nameAndType 20 21), (0, u "COMPACT_STRINGS"), (0, u "Z"), (0, .fieldref 10 23), (0, .nameAndType 24 25), (0, u "coder"), (0, u "B"), (0, .methodref 27 28), (0, .class_ 29), (0, .nameAndType 30 31), (0, u "java/lang/StringUTF16"), (0, u "newBytesFor"), (0, u "(I)[B"), (0, .methodref 1 33), (0, .nameAndType 34 35), (0, u "length"), (0, u "()I"), (3, .integer 2147483647), (0, .methodref 1 41), (0, .nameAndType 24 42), (0, u "()B"), (2, u "append"), (0, u "(Ljava/lang/String;)Ljava/lang/AbstractStringBuilder;"), (1, .class_ 49), (0, u "java/lang/CharSequence"), (19, u "(Ljava/lang/String;)V"), (5, u "maybeLatin1"), (3, .fieldref 10 80), (0, .nameAndType 81 82), (0, u "count"), (0, u "I"), (0, .methodref 10 84), (0, .nameAndType 85 86), (0, u "isLatin1"), (0, u "()Z"), (1, .class_ 90), (1, u "java/lang/StringLatin1"), (9, .methodref 10 101), (0, .nameAndType 102 103), (0, u "ensureCapacityInternal"), (0, u "(I)V"), (0, .methodref 10 105), (0, .nameAndType 106 107), (0, u "newCapacity"), (0, u "(I)I"), (0, .methodref 109 110), (0, .class_ 111), (0, .nameAndType 112 113), (0, u "java/util/Arrays"), (0, u "copyOf"), (0, u "([BI)[B"), (0, .methodref 115 116), (0, .class_ 117), (0, .nameAndType 118 119), (0, u "jdk/internal/util/ArraysSupport"), (0, u "newLength"), (0, u "(III)I"), (5, .methodref 88 126), (0, .nameAndType 127 128), (0, u "inflate"), (0, u "([BI[BII)V"), (66, .methodref 10 196), (0, .nameAndType 127 8), (11, .methodref 10 209), (0, .nameAndType 210 211), (0, u "putStringAt"), (0, u "(ILjava/lang/String;)V"), (5, u "inflateIfNeededFor"), (2, .nameAndType 221 222), (0, u "getBytes"), (0, u "([BIB)V"), (174, .methodref 10 398), (0, .nameAndType 217 69), (0, .methodref 1 220), (3, u "()[B"), (40, .class_ 445), (0, u "java/lang/Appendable"), (106, u "getValue")] 56

def k11m0 : Method := { name := "<init>", desc := "()V", sig := { parameters := [], returnType := none }, accessFlags := 0, code := none }
def k11c1 : Code := { maxStack := 2, maxLocals := 2, code := jdk_68_method_2_code, exceptionTable := #[], attributes := #[] }
def k11m1 : Method := { name := "<init>", desc := "(I)V", sig := { parameters := [.int], returnType := none }, accessFlags := 0, code := some k11c1 }
def k11c2 : Code := { maxStack := 1, maxLocals := 1, code := jdk_68_method_6_code, exceptionTable := #[], attributes := #[] }
def k11m2 : Method := { name := "length", desc := "()I", sig := { parameters := [], returnType := some .int }, accessFlags := 1, code := some k11c2 }
def k11c3 : Code := { maxStack := 4, maxLocals := 3, code := jdk_68_method_9_code, exceptionTable := #[], attributes := #[] }
def k11m3 : Method := { name := "ensureCapacityInternal", desc := "(I)V", sig := { parameters := [.int], returnType := none }, accessFlags := 2, code := some k11c3 }
def k11c4 : Code := { maxStack := 5, maxLocals := 6, code := jdk_68_method_10_code, exceptionTable := #[], attributes := #[] }
def k11m4 : Method := { name := "newCapacity", desc := "(I)I", sig := { parameters := [.int], returnType := some .int }, accessFlags := 2, code := some k11c4 }
def k11c5 : Code := { maxStack := 5, maxLocals := 2, code := jdk_68_method_11_code, exceptionTable := #[], attributes := #[] }
def k11m5 : Method := { name := "inflate", desc := "()V", sig := { parameters := [], returnType := none }, accessFlags := 2, code := some k11c5 }
def k11c6 : Code := { maxStack := 3, maxLocals := 3, code := jdk_68_method_22_code, exceptionTable := #[], attributes := #[] }
def k11m6 : Method := { name := "append", desc := "(Ljava/lang/String;)Ljava/lang/AbstractStringBuilder;", sig := { parameters := [(.object "java/lang/String")], returnType := some (.object "java/lang/AbstractStringBuilder") }, accessFlags := 1, code := some k11c6 }
def k11c7 : Code := { maxStack := 1, maxLocals := 1, code := jdk_68_method_64_code, exceptionTable := #[], attributes := #[] }
def k11m7 : Method := { name := "getValue", desc := "()[B", sig := { parameters := [], returnType := some (.array .byte) }, accessFlags := 16, code := some k11c7 }
def k11c8 : Code := { maxStack := 1, maxLocals := 1, code := jdk_68_method_68_code, exceptionTable := #[], attributes := #[] }
def k11m8 : Method := { name := "isLatin1", desc := "()Z", sig := { parameters := [], returnType := some .boolean }, accessFlags := 16, code := some k11c8 }
def k11c9 : Code := { maxStack := 2, maxLocals := 2, code := jdk_68_method_71_code, exceptionTable := #[], attributes := #[] }
def k11m9 : Method := { name := "inflateIfNeededFor", desc := "(Ljava/lang/String;)V", sig := { parameters := [(.object "java/lang/String")], returnType := none }, accessFlags := 2, code := some k11c9 }
def k11c10 : Code := { maxStack := 4, maxLocals := 3, code := jdk_68_method_73_code, exceptionTable := #[], attributes := #[] }
def k11m10 : Method := { name := "putStringAt", desc := "(ILjava/lang/String;)V", sig := { parameters := [.int, (.object "java/lang/String")], returnType := none }, accessFlags := 2, code := some k11c10 }
/-- java/lang/AbstractStringBuilder -/
def k11 : Class := { plain "java/lang/AbstractStringBuilder" (some 0) with
  accessFlags := 1056
  interfaces := #[10, 4]
  cf := some (fileOf pool11 10 #[] #[{ accessFlags := 0, nameIndex := 7, descriptorIndex := 8, attributes := #[] }, { accessFlags := 0, nameIndex := 7, descriptorIndex := 103, attributes := #[] }, { accessFlags := 1, nameIndex := 34, descriptorIndex := 35, attributes := #[] }, { accessFlags := 2, nameIndex := 102, descriptorIndex := 103, attributes := #[] }, { accessFlags := 2, nameIndex := 106, descriptorIndex := 107, attributes := #[] }, { accessFlags := 2, nameIndex := 127, descriptorIndex := 8, attributes := #[] }, { accessFlags := 1, nameIndex := 45, descriptorIndex := 46, attributes := #[] }, { accessFlags := 16, nameIndex := 552, descriptorIndex := 403, attributes := #[] }, { accessFlags := 16, nameIndex := 85, descriptorIndex := 86, attributes := #[] }, { accessFlags := 2, nameIndex := 217, descriptorIndex := 69, attributes := #[] }, { accessFlags := 2, nameIndex := 210, descriptorIndex := 211, attributes := #[] }] 1056 4 #[444, 48] #[{ accessFlags := 0, nameIndex := 17, descriptorIndex := 14, attributes := #[] }, { accessFlags := 0, nameIndex := 24, descriptorIndex := 25, attributes := #[] }, { accessFlags := 0, nameIndex := 75, descriptorIndex := 21, attributes := #[] }, { accessFlags := 0, nameIndex := 81, descriptorIndex := 82, attributes := #[] }, { accessFlags := 26, nameIndex := 13, descriptorIndex := 14, attributes := #[] }])
  fields := #[{ name := "value", type := (.array .byte), accessFlags := 0, slot := 0, constantValue := 0 }, { name := "coder", type := .byte, accessFlags := 0, slot := 1, constantValue := 0 }, { name := "maybeLatin1", type := .boolean, accessFlags := 0, slot := 2, constantValue := 0 }, { name := "count", type := .int, accessFlags := 0, slot := 3, constantValue := 0 }, { name := "EMPTYVALUE", type := (.array .byte), accessFlags := 26, slot := 0, constantValue := 0 }]
  methods := #[k11m0, k11m1, k11m2, k11m3, k11m4, k11m5, k11m6, k11m7, k11m8, k11m9, k11m10]
  instanceTypes := #[(.array .byte), .byte, .boolean, .int]
  staticTypes := #[(.array .byte)]
  resolved := Array.replicate 609 none
  statics := none }

def pool12 : Array CpInfo := pool [(1, .methodref 2 3), (0, .class_ 4), (0, .nameAndType 5 6), (0, u "java/lang/AbstractStringBuilder"), (0, u "<init>"), (0, u "(I)V"), (11, .class_ 20), (1, u "java/lang/String"), (3, .class_ 26), (1, u "java/lang/StringBuilder"), (0, u "append"), (0, u "(Ljava/lang/String;)Ljava/lang/StringBuilder;"), (0, .methodref 2 30), (0, .nameAndType 27 31), (0, u "(Ljava/lang/String;)Ljava/lang/AbstractStringBuilder;"), (105, .methodref 18 138), (0, .nameAndType 5 139), (0, u "(Ljava/lang/StringBuilder;)V"), (5, u "()V"), (10, u "()I"), (186, .methodref 2 344), (0, .nameAndType 345 156), (0, u "length"), (3, .class_ 350), (0, u "java/lang/Appendable"), (0, .class_ 352), (0, u "java/io/Serializable"), (0, .class_ 354), (0, u "java/lang/Comparable"), (0, .class_ 356), (0, u "java/lang/CharSequence"), (0, u "serialVersionUID"), (0, u "J"), (40, u "toString"), (0, u "()Ljava/lang/String;")] 21

def k12c0 : Code := { maxStack := 2, maxLocals := 1, code := jdk_67_method_1_code, exceptionTable := #[], attributes := #[] }
def k12m0 : Method := { name := "<init>", desc := "()V", sig := { parameters := [], returnType := none }, accessFlags := 1, code := some k12c0 }
def k12c1 : Code := { maxStack := 2, maxLocals := 2, code := jdk_67_method_7_code, exceptionTable := #[], attributes := #[] }
def k12m1 : Method := { name := "append", desc := "(Ljava/lang/String;)Ljava/lang/StringBuilder;", sig := { parameters := [(.object "java/lang/String")], returnType := some (.object "java/lang/StringBuilder") }, accessFlags := 1, code := some k12c1 }
def k12c2 : Code := { maxStack := 3, maxLocals := 1, code := jdk_67_method_42_code, exceptionTable := #[], attributes := #[] }
def k12m2 : Method := { name := "toString", desc := "()Ljava/lang/String;", sig := { parameters := [], returnType := some (.object "java/lang/String") }, accessFlags := 1, code := some k12c2 }
def k12c3 : Code := { maxStack := 1, maxLocals := 1, code := jdk_67_method_93_code, exceptionTable := #[], attributes := #[] }
def k12m3 : Method := { name := "length", desc := "()I", sig := { parameters := [], returnType := some .int }, accessFlags := 4161, code := some k12c3 }
/-- java/lang/StringBuilder -/
def k12 : Class := { plain "java/lang/StringBuilder" (some 11) with
  accessFlags := 49
  interfaces := #[10, 2, 3, 4]
  cf := some (fileOf pool12 24 #[] #[{ accessFlags := 1, nameIndex := 5, descriptorIndex := 145, attributes := #[] }, { accessFlags := 1, nameIndex := 27, descriptorIndex := 28, attributes := #[] }, { accessFlags := 1, nameIndex := 399, descriptorIndex := 400, attributes := #[] }, { accessFlags := 4161, nameIndex := 345, descriptorIndex := 156, attributes := #[] }] 49 2 #[349, 351, 353, 355] #[{ accessFlags := 24, nameIndex := 357, descriptorIndex := 358, attributes := #[] }])
  fields := #[{ name := "serialVersionUID", type := .long, accessFlags := 24, slot := 0, constantValue := 0 }]
  methods := #[k12m0, k12m1, k12m2, k12m3]
  instanceTypes := #[(.array .byte), .byte, .boolean, .int]
  staticTypes := #[.long]
  resolved := Array.replicate 422 none
  statics := none }

def pool13 : Array CpInfo := pool [(2, .class_ 4), (1, u "java/lang/Object"), (0, u "<init>"), (0, u "()V"), (17, .class_ 26), (1, u "jdk/internal/util/Preconditions"), (20, u "checkFromToIndex"), (1, u "checkFromIndexSize"), (5, .class_ 56), (0, u "jdk/internal/util/Preconditions$4"), (57, .class_ 115), (0, u "jdk/internal/util/Preconditions$1"), (7, u "SIOOBE_FORMATTER"), (0, u "Ljava/util/function/BiFunction;"), (0, .class_ 126), (0, u "jdk/internal/util/Preconditions$2"), (3, u "AIOOBE_FORMATTER"), (0, .class_ 132), (0, u "jdk/internal/util/Preconditions$3"), (3, u "IOOBE_FORMATTER"), (46, u "(IIILjava/util/function/BiFunction;)I")] 10

def k13m0 : Method := { name := "<init>", desc := "()V", sig := { parameters := [], returnType := none }, accessFlags := 1, code := none }
def k13c1 : Code := { maxStack := 4, maxLocals := 4, code := jdk_41_method_12_code, exceptionTable := #[], attributes := #[] }
def k13m1 : Method := { name := "checkFromToIndex", desc := "(IIILjava/util/function/BiFunction;)I", sig := { parameters := [.int, .int, .int, (.object "java/util/function/BiFunction")], returnType := some .int }, accessFlags := 9, code := some k13c1 }
def k13c2 : Code := { maxStack := 4, maxLocals := 4, code := jdk_41_method_13_code, exceptionTable := #[], attributes := #[] }
def k13m2 : Method := { name := "checkFromIndexSize", desc := "(IIILjava/util/function/BiFunction;)I", sig := { parameters := [.int, .int, .int, (.object "java/util/function/BiFunction")], returnType := some .int }, accessFlags := 9, code := some k13c2 }
/-- jdk/internal/util/Preconditions -/
def k13 : Class := { plain "jdk/internal/util/Preconditions" (some 0) with
  accessFlags := 33
  interfaces := #[]
  cf := some (fileOf pool13 24 #[.nestMembers #[55, 131, 125, 114]] #[{ accessFlags := 1, nameIndex := 5, descriptorIndex := 6, attributes := #[] }, { accessFlags := 9, nameIndex := 47, descriptorIndex := 183, attributes := #[] }, { accessFlags := 9, nameIndex := 49, descriptorIndex := 183, attributes := #[] }] 33 2 #[] #[{ accessFlags := 25, nameIndex := 123, descriptorIndex := 124, attributes := #[] }, { accessFlags := 25, nameIndex := 130, descriptorIndex := 124, attributes := #[] }, { accessFlags := 25, nameIndex := 136, descriptorIndex := 124, attributes := #[] }])
  fields := #[{ name := "SIOOBE_FORMATTER", type := (.object "java/util/function/BiFunction"), accessFlags := 25, slot := 0, constantValue := 0 }, { name := "AIOOBE_FORMATTER", type := (.object "java/util/function/BiFunction"), accessFlags := 25, slot := 1, constantValue := 0 }, { name := "IOOBE_FORMATTER", type := (.object "java/util/function/BiFunction"), accessFlags := 25, slot := 2, constantValue := 0 }]
  methods := #[k13m0, k13m1, k13m2]
  instanceTypes := #[]
  staticTypes := #[(.object "java/util/function/BiFunction"), (.object "java/util/function/BiFunction"), (.object "java/util/function/BiFunction")]
  resolved := Array.replicate 194 none
  statics := some 2 }

def pool14 : Array CpInfo := pool [(2, .class_ 4), (1, u "java/lang/Object"), (0, u "<init>"), (0, u "()V"), (7, .class_ 16), (1, u "java/util/Arrays"), (57, .class_ 76), (1, u "java/util/Arrays$NaturalOrder"), (36, .class_ 115), (1, u "java/util/Arrays$LegacyMergeSort"), (1, u "Z"), (21, u "copyOfRange"), (10, .methodref 151 152), (0, .class_ 153), (0, .nameAndType 154 155), (0, u "java/lang/System"), (0, u "arraycopy"), (0, u "(Ljava/lang/Object;ILjava/lang/Object;II)V"), (146, u "copyOf"), (1, .methodref 305 306), (0, .class_ 307), (0, .nameAndType 308 309), (0, u "java/lang/Math"), (0, u "min"), (0, u "(II)I"), (29, .methodref 14 340), (0, .nameAndType 341 342), (0, u "copyOfRangeByte"), (0, u "([BII)[B"), (0, .methodref 14 344), (0, .nameAndType 345 346), (0, u "checkLength"), (0, u "(II)V"), (28, .class_ 376), (0, u "java/util/Arrays$ArrayList"), (68, u "$assertionsDisabled"), (269, u "MIN_ARRAY_SORT_GRAN"), (0, u "I"), (2, u "INSERTIONSORT_THRESHOLD"), (149, u "([BI)[B"), (105, .class_ 976), (0, u "java/util/Arrays$ArrayItr")] 52

def k14m0 : Method := { name := "<init>", desc := "()V", sig := { parameters := [], returnType := none }, accessFlags := 2, code := none }
def k14c1 : Code := { maxStack := 6, maxLocals := 3, code := jdk_65_method_121_code, exceptionTable := #[], attributes := #[] }
def k14m1 : Method := { name := "copyOf", desc := "([BI)[B", sig := { parameters := [(.array .byte), .int], returnType := some (.array .byte) }, accessFlags := 9, code := some k14c1 }
def k14c2 : Code := { maxStack := 4, maxLocals := 2, code := jdk_65_method_131_code, exceptionTable := #[], attributes := #[] }
def k14m2 : Method := { name := "checkLength", desc := "(II)V", sig := { parameters := [.int, .int], returnType := none }, accessFlags := 10, code := some k14c2 }
def k14c3 : Code := { maxStack := 3, maxLocals := 3, code := jdk_65_method_132_code, exceptionTable := #[], attributes := #[] }
def k14m3 : Method := { name := "copyOfRange", desc := "([BII)[B", sig := { parameters := [(.array .byte), .int, .int], returnType := some (.array .byte) }, accessFlags := 9, code := some k14c3 }
def k14c4 : Code := { maxStack := 6, maxLocals := 5, code := jdk_65_method_133_code, exceptionTable := #[], attributes := #[] }
def k14m4 : Method := { name := "copyOfRangeByte", desc := "([BII)[B", sig := { parameters := [(.array .byte), .int, .int], returnType := some (.array .byte) }, accessFlags := 10, code := some k14c4 }
/-- java/util/Arrays -/
def k14 : Class := { plain "java/util/Arrays" (some 0) with
  accessFlags := 49
  interfaces := #[]
  cf := some (fileOf pool14 14 #[.nestMembers #[975, 375, 113, 74]] #[{ accessFlags := 2, nameIndex := 5, descriptorIndex := 6, attributes := #[] }, { accessFlags := 9, nameIndex := 302, descriptorIndex := 869, attributes := #[] }, { accessFlags := 10, nameIndex := 345, descriptorIndex := 346, attributes := #[] }, { accessFlags := 9, nameIndex := 139, descriptorIndex := 342, attributes := #[] }, { accessFlags := 10, nameIndex := 341, descriptorIndex := 342, attributes := #[] }] 49 2 #[] #[{ accessFlags := 26, nameIndex := 715, descriptorIndex := 716, attributes := #[] }, { accessFlags := 26, nameIndex := 719, descriptorIndex := 716, attributes := #[] }, { accessFlags := 4120, nameIndex := 445, descriptorIndex := 117, attributes := #[] }])
  fields := #[{ name := "MIN_ARRAY_SORT_GRAN", type := .int, accessFlags := 26, slot := 0, constantValue := 0 }, { name := "INSERTIONSORT_THRESHOLD", type := .int, accessFlags := 26, slot := 1, constantValue := 0 }, { name := "$assertionsDisabled", type := .boolean, accessFlags := 4120, slot := 2, constantValue := 0 }]
  methods := #[k14m0, k14m1, k14m2, k14m3, k14m4]
  instanceTypes := #[]
  staticTypes := #[.int, .int, .boolean]
  resolved := Array.replicate 1029 none
  statics := none }

def pool15 : Array CpInfo := pool [(1, .class_ 2), (0, u "java/lang/Math"), (1, .class_ 6), (1, u "java/lang/Object"), (0, u "<init>"), (0, u "()V"), (89, .class_ 100), (1, u "java/lang/Math$RandomNumberGeneratorHolder"), (71, u "negativeZeroFloatBits"), (0, u "J"), (2, u "negativeZeroDoubleBits"), (21, u "max"), (2, u "min"), (43, u "$assertionsDisabled"), (0, u "Z"), (88, u "(II)I"), (2, u "twoToTheDoubleScaleDown"), (0, u "D"), (4, u "twoToTheDoubleScaleUp"), (9, u "E"), (3, u "PI"), (2, u "TAU"), (2, u "DEGREES_TO_RADIANS"), (0, u "RADIANS_TO_DEGREES")] 94

def k15m0 : Method := { name := "<init>", desc := "()V", sig := { parameters := [], returnType := none }, accessFlags := 2, code := none }
def k15c1 : Code := { maxStack := 2, maxLocals := 2, code := jdk_29_method_65_code, exceptionTable := #[], attributes := #[] }
def k15m1 : Method := { name := "max", desc := "(II)I", sig := { parameters := [.int, .int], returnType := some .int }, accessFlags := 9, code := some k15c1 }
def k15c2 : Code := { maxStack := 2, maxLocals := 2, code := jdk_29_method_69_code, exceptionTable := #[], attributes := #[] }
def k15m2 : Method := { name := "min", desc := "(II)I", sig := { parameters := [.int, .int], returnType := some .int }, accessFlags := 9, code := some k15c2 }
/-- java/lang/Math -/
def k15 : Class := { plain "java/lang/Math" (some 0) with
  accessFlags := 49
  interfaces := #[]
  cf := some (fileOf pool15 1 #[.nestMembers #[98]] #[{ accessFlags := 2, nameIndex := 7, descriptorIndex := 8, attributes := #[] }, { accessFlags := 9, nameIndex := 198, descriptorIndex := 335, attributes := #[] }, { accessFlags := 9, nameIndex := 201, descriptorIndex := 335, attributes := #[] }] 49 4 #[] #[{ accessFlags := 25, nameIndex := 354, descriptorIndex := 339, attributes := #[] }, { accessFlags := 25, nameIndex := 358, descriptorIndex := 339, attributes := #[] }, { accessFlags := 25, nameIndex := 361, descriptorIndex := 339, attributes := #[] }, { accessFlags := 26, nameIndex := 364, descriptorIndex := 339, attributes := #[] }, { accessFlags := 26, nameIndex := 365, descriptorIndex := 339, attributes := #[] }, { accessFlags := 26, nameIndex := 172, descriptorIndex := 173, attributes := #[] }, { accessFlags := 26, nameIndex := 176, descriptorIndex := 173, attributes := #[] }, { accessFlags := 8, nameIndex := 344, descriptorIndex := 339, attributes := #[] }, { accessFlags := 8, nameIndex := 338, descriptorIndex := 339, attributes := #[] }, { accessFlags := 4120, nameIndex := 245, descriptorIndex := 246, attributes := #[] }])
  fields := #[{ name := "E", type := .double, accessFlags := 25, slot := 0, constantValue := 0 }, { name := "PI", type := .double, accessFlags := 25, slot := 1, constantValue := 0 }, { name := "TAU", type := .double, accessFlags := 25, slot := 2, constantValue := 0 }, { name := "DEGREES_TO_RADIANS", type := .double, accessFlags := 26, slot := 3, constantValue := 0 }, { name := "RADIANS_TO_DEGREES", type := .double, accessFlags := 26, slot := 4, constantValue := 0 }, { name := "negativeZeroFloatBits", type := .long, accessFlags := 26, slot := 5, constantValue := 0 }, { name := "negativeZeroDoubleBits", type := .long, accessFlags := 26, slot := 6, constantValue := 0 }, { name := "twoToTheDoubleScaleUp", type := .double, accessFlags := 8, slot := 7, constantValue := 0 }, { name := "twoToTheDoubleScaleDown", type := .double, accessFlags := 8, slot := 8, constantValue := 0 }, { name := "$assertionsDisabled", type := .boolean, accessFlags := 4120, slot := 9, constantValue := 0 }]
  methods := #[k15m0, k15m1, k15m2]
  instanceTypes := #[]
  staticTypes := #[.double, .double, .double, .double, .double, .long, .long, .double, .double, .boolean]
  resolved := Array.replicate 460 none
  statics := none }

def pool16 : Array CpInfo := pool [(2, .class_ 4), (1, u "java/lang/Object"), (0, u "<init>"), (0, u "()V"), (1, .class_ 10), (1, u "java/lang/System"), (0, u "allowSecurityManager"), (0, u "I"), (16, u "cons"), (0, u "Ljava/io/Console;"), (77, .class_ 110), (1, u "java/lang/System$CallersHolder"), (43, u "initialErrStream"), (0, u "Ljava/io/PrintStream;"), (19, u "security"), (0, u "Ljava/lang/SecurityManager;"), (31, .class_ 209), (0, u "java/lang/System$1"), (7, u "props"), (0, u "Ljava/util/Properties;"), (2, u "lineSeparator"), (0, u "Ljava/lang/String;"), (96, .class_ 321), (1, u "java/lang/System$LoggerFinder"), (5, .class_ 328), (0, u "java/lang/System$Logger"), (67, u "err"), (2, u "out"), (91, u "notSupportedJnuEncoding"), (15, u "in"), (17, u "initialIn"), (0, u "Ljava/io/InputStream;"), (35, u "bootLayer"), (0, u "Ljava/lang/ModuleLayer;"), (99, .class_ 664), (0, u "java/lang/System$2"), (9, u "NEVER"), (2, u "MAYBE"), (49, u "arraycopy"), (0, u "(Ljava/lang/Object;ILjava/lang/Object;II)V"), (72, .class_ 802), (0, u "java/lang/System$Logger$Level")] 31

def k16m0 : Method := { name := "<init>", desc := "()V", sig := { parameters := [], returnType := none }, accessFlags := 2, code := none }
def k16m1 : Method := { name := "arraycopy", desc := "(Ljava/lang/Object;ILjava/lang/Object;II)V", sig := { parameters := [(.object "java/lang/Object"), .int, (.object "java/lang/Object"), .int, .int], returnType := none }, accessFlags := 265, code := none }
/-- java/lang/System -/
def k16 : Class := { plain "java/lang/System" (some 0) with
  accessFlags := 49
  interfaces := #[]
  cf := some (fileOf pool16 8 #[.nestMembers #[319, 327, 801, 108, 663, 208]] #[{ accessFlags := 2, nameIndex := 5, descriptorIndex := 6, attributes := #[] }, { accessFlags := 265, nameIndex := 727, descriptorIndex := 728, attributes := #[] }] 49 2 #[] #[{ accessFlags := 25, nameIndex := 507, descriptorIndex := 526, attributes := #[] }, { accessFlags := 25, nameIndex := 399, descriptorIndex := 155, attributes := #[] }, { accessFlags := 25, nameIndex := 396, descriptorIndex := 155, attributes := #[] }, { accessFlags := 10, nameIndex := 525, descriptorIndex := 526, attributes := #[] }, { accessFlags := 26, nameIndex := 674, descriptorIndex := 12, attributes := #[] }, { accessFlags := 26, nameIndex := 677, descriptorIndex := 12, attributes := #[] }, { accessFlags := 10, nameIndex := 11, descriptorIndex := 12, attributes := #[] }, { accessFlags := 74, nameIndex := 175, descriptorIndex := 176, attributes := #[] }, { accessFlags := 10, nameIndex := 491, descriptorIndex := 222, attributes := #[] }, { accessFlags := 74, nameIndex := 29, descriptorIndex := 30, attributes := #[] }, { accessFlags := 74, nameIndex := 154, descriptorIndex := 155, attributes := #[] }, { accessFlags := 10, nameIndex := 217, descriptorIndex := 218, attributes := #[] }, { accessFlags := 10, nameIndex := 221, descriptorIndex := 222, attributes := #[] }, { accessFlags := 8, nameIndex := 562, descriptorIndex := 563, attributes := #[] }])
  fields := #[{ name := "in", type := (.object "java/io/InputStream"), accessFlags := 25, slot := 0, constantValue := 0 }, { name := "out", type := (.object "java/io/PrintStream"), accessFlags := 25, slot := 1, constantValue := 0 }, { name := "err", type := (.object "java/io/PrintStream"), accessFlags := 25, slot := 2, constantValue := 0 }, { name := "initialIn", type := (.object "java/io/InputStream"), accessFlags := 10, slot := 3, constantValue := 0 }, { name := "NEVER", type := .int, accessFlags := 26, slot := 4, constantValue := 0 }, { name := "MAYBE", type := .int, accessFlags := 26, slot := 5, constantValue := 0 }, { name := "allowSecurityManager", type := .int, accessFlags := 10, slot := 6, constantValue := 0 }, { name := "security", type := (.object "java/lang/SecurityManager"), accessFlags := 74, slot := 7, constantValue := 0 }, { name := "notSupportedJnuEncoding", type := (.object "java/lang/String"), accessFlags := 10, slot := 8, constantValue := 0 }, { name := "cons", type := (.object "java/io/Console"), accessFlags := 74, slot := 9, constantValue := 0 }, { name := "initialErrStream", type := (.object "java/io/PrintStream"), accessFlags := 74, slot := 10, constantValue := 0 }, { name := "props", type := (.object "java/util/Properties"), accessFlags := 10, slot := 11, constantValue := 0 }, { name := "lineSeparator", type := (.object "java/lang/String"), accessFlags := 10, slot := 12, constantValue := 0 }, { name := "bootLayer", type := (.object "java/lang/ModuleLayer"), accessFlags := 8, slot := 13, constantValue := 0 }]
  methods := #[k16m0, k16m1]
  instanceTypes := #[]
  staticTypes := #[(.object "java/io/InputStream"), (.object "java/io/PrintStream"), (.object "java/io/PrintStream"), (.object "java/io/InputStream"), .int, .int, .int, (.object "java/lang/SecurityManager"), (.object "java/lang/String"), (.object "java/io/Console"), (.object "java/io/PrintStream"), (.object "java/util/Properties"), (.object "java/lang/String"), (.object "java/lang/ModuleLayer")]
  resolved := Array.replicate 834 none
  statics := none }

def pool17 : Array CpInfo := pool [(9, u "<init>"), (6, .class_ 18), (1, u "java/lang/Object"), (0, u "()V"), (1, .class_ 23), (1, u "jdk/internal/util/ArraysSupport"), (0, u "LOG2_ARRAY_LONG_INDEX_SCALE"), (0, u "I"), (2, u "U"), (0, u "Ljdk/internal/misc/Unsafe;"), (8, u "BIG_ENDIAN"), (0, u "Z"), (8, u "LOG2_BYTE_BIT_SIZE"), (4, u "LOG2_ARRAY_INT_INDEX_SCALE"), (54, u "JLA"), (0, u "Ljdk/internal/access/JavaLangAccess;"), (11, u "LOG2_ARRAY_BOOLEAN_INDEX_SCALE"), (9, u "LOG2_ARRAY_BYTE_INDEX_SCALE"), (5, u "LOG2_ARRAY_CHAR_INDEX_SCALE"), (5, u "LOG2_ARRAY_SHORT_INDEX_SCALE"), (18, u "LOG2_ARRAY_FLOAT_INDEX_SCALE"), (24, u "LOG2_ARRAY_DOUBLE_INDEX_SCALE"), (6, .methodref 195 196), (0, .class_ 197), (0, .nameAndType 198 199), (0, u "java/lang/Math"), (0, u "max"), (0, u "(II)I"), (0, .integer 2147483639), (76, u "T_BOOLEAN"), (2, u "T_CHAR"), (1, u "T_FLOAT"), (1, u "T_DOUBLE"), (1, u "T_BYTE"), (1, u "T_SHORT"), (1, u "T_INT"), (1, u "T_LONG"), (1, u "SOFT_MAX_ARRAY_LENGTH"), (56, u "newLength"), (0, u "(III)I")] 25

def k17m0 : Method := { name := "<init>", desc := "()V", sig := { parameters := [], returnType := none }, accessFlags := 2, code := none }
def k17c1 : Code := { maxStack := 3, maxLocals := 4, code := jdk_48_method_27_code, exceptionTable := #[], attributes := #[] }
def k17m1 : Method := { name := "newLength", desc := "(III)I", sig := { parameters := [.int, .int, .int], returnType := some .int }, accessFlags := 9, code := some k17c1 }
/-- jdk/internal/util/ArraysSupport -/
def k17 : Class := { plain "jdk/internal/util/ArraysSupport" (some 0) with
  accessFlags := 33
  interfaces := #[]
  cf := some (fileOf pool17 21 #[] #[{ accessFlags := 2, nameIndex := 9, descriptorIndex := 19, attributes := #[] }, { accessFlags := 9, nameIndex := 351, descriptorIndex := 352, attributes := #[] }] 33 16 #[] #[{ accessFlags := 24, nameIndex := 28, descriptorIndex := 29, attributes := #[] }, { accessFlags := 26, nameIndex := 38, descriptorIndex := 39, attributes := #[] }, { accessFlags := 25, nameIndex := 121, descriptorIndex := 25, attributes := #[] }, { accessFlags := 25, nameIndex := 131, descriptorIndex := 25, attributes := #[] }, { accessFlags := 25, nameIndex := 137, descriptorIndex := 25, attributes := #[] }, { accessFlags := 25, nameIndex := 143, descriptorIndex := 25, attributes := #[] }, { accessFlags := 25, nameIndex := 53, descriptorIndex := 25, attributes := #[] }, { accessFlags := 25, nameIndex := 24, descriptorIndex := 25, attributes := #[] }, { accessFlags := 25, nameIndex := 162, descriptorIndex := 25, attributes := #[] }, { accessFlags := 25, nameIndex := 187, descriptorIndex := 25, attributes := #[] }, { accessFlags := 26, nameIndex := 48, descriptorIndex := 25, attributes := #[] }, { accessFlags := 25, nameIndex := 277, descriptorIndex := 25, attributes := #[] }, { accessFlags := 25, nameIndex := 280, descriptorIndex := 25, attributes := #[] }, { accessFlags := 25, nameIndex := 282, descriptorIndex := 25, attributes := #[] }, { accessFlags := 25, nameIndex := 284, descriptorIndex := 25, attributes := #[] }, { accessFlags := 25, nameIndex := 286, descriptorIndex := 25, attributes := #[] }, { accessFlags := 25, nameIndex := 288, descriptorIndex := 25, attributes := #[] }, { accessFlags := 25, nameIndex := 290, descriptorIndex := 25, attributes := #[] }, { accessFlags := 25, nameIndex := 292, descriptorIndex := 25, attributes := #[] }, { accessFlags := 26, nameIndex := 108, descriptorIndex := 109, attributes := #[] }, { accessFlags := 25, nameIndex := 294, descriptorIndex := 25, attributes := #[] }])
  fields := #[{ name := "U", type := (.object "jdk/internal/misc/Unsafe"), accessFlags := 24, slot := 0, constantValue := 0 }, { name := "BIG_ENDIAN", type := .boolean, accessFlags := 26, slot := 1, constantValue := 0 }, { name := "LOG2_ARRAY_BOOLEAN_INDEX_SCALE", type := .int, accessFlags := 25, slot := 2, constantValue := 0 }, { name := "LOG2_ARRAY_BYTE_INDEX_SCALE", type := .int, accessFlags := 25, slot := 3, constantValue := 0 }, { name := "LOG2_ARRAY_CHAR_INDEX_SCALE", type := .int, accessFlags := 25, slot := 4, constantValue := 0 }, { name := "LOG2_ARRAY_SHORT_INDEX_SCALE", type := .int, accessFlags := 25, slot := 5, constantValue := 0 }, { name := "LOG2_ARRAY_INT_INDEX_SCALE", type := .int, accessFlags := 25, slot := 6, constantValue := 0 }, { name := "LOG2_ARRAY_LONG_INDEX_SCALE", type := .int, accessFlags := 25, slot := 7, constantValue := 0 }, { name := "LOG2_ARRAY_FLOAT_INDEX_SCALE", type := .int, accessFlags := 25, slot := 8, constantValue := 0 }, { name := "LOG2_ARRAY_DOUBLE_INDEX_SCALE", type := .int, accessFlags := 25, slot := 9, constantValue := 0 }, { name := "LOG2_BYTE_BIT_SIZE", type := .int, accessFlags := 26, slot := 10, constantValue := 0 }, { name := "T_BOOLEAN", type := .int, accessFlags := 25, slot := 11, constantValue := 0 }, { name := "T_CHAR", type := .int, accessFlags := 25, slot := 12, constantValue := 0 }, { name := "T_FLOAT", type := .int, accessFlags := 25, slot := 13, constantValue := 0 }, { name := "T_DOUBLE", type := .int, accessFlags := 25, slot := 14, constantValue := 0 }, { name := "T_BYTE", type := .int, accessFlags := 25, slot := 15, constantValue := 0 }, { name := "T_SHORT", type := .int, accessFlags := 25, slot := 16, constantValue := 0 }, { name := "T_INT", type := .int, accessFlags := 25, slot := 17, constantValue := 0 }, { name := "T_LONG", type := .int, accessFlags := 25, slot := 18, constantValue := 0 }, { name := "JLA", type := (.object "jdk/internal/access/JavaLangAccess"), accessFlags := 26, slot := 19, constantValue := 0 }, { name := "SOFT_MAX_ARRAY_LENGTH", type := .int, accessFlags := 25, slot := 20, constantValue := 0 }]
  methods := #[k17m0, k17m1]
  instanceTypes := #[]
  staticTypes := #[(.object "jdk/internal/misc/Unsafe"), .boolean, .int, .int, .int, .int, .int, .int, .int, .int, .int, .int, .int, .int, .int, .int, .int, .int, .int, (.object "jdk/internal/access/JavaLangAccess"), .int]
  resolved := Array.replicate 378 none
  statics := none }

def pool18 : Array CpInfo := pool [(1, .class_ 2), (0, u "java/lang/String"), (1, .class_ 6), (1, u "java/lang/Object"), (0, u "<init>"), (0, u "()V"), (5, .class_ 16), (1, u "java/lang/StringLatin1"), (0, u "inflate"), (2, .class_ 22), (1, u "java/lang/StringUTF16"), (3, .nameAndType 17 27), (0, u "([BI[BII)V"), (84, .methodref 1 113), (0, .nameAndType 7 114), (0, u "([BB)V"), (6, u "$assertionsDisabled"), (0, u "Z"), (8, .class_ 133), (1, u "java/util/Arrays"), (62, u "newString"), (0, u "([BII)Ljava/lang/String;"), (23, .class_ 223), (1, u "java/lang/StringLatin1$LinesSpliterator"), (8, .methodref 131 233), (0, .nameAndType 234 235), (0, u "copyOfRange"), (0, u "([BII)[B"), (4, .methodref 20 26), (40, u "equals"), (0, u "([B[B)Z"), (107, .class_ 391), (0, u "java/lang/StringLatin1$CharsSpliterator")] 3

def k18m0 : Method := { name := "<init>", desc := "()V", sig := { parameters := [], returnType := none }, accessFlags := 0, code := none }
def k18c1 : Code := { maxStack := 3, maxLocals := 3, code := jdk_43_method_13_code, exceptionTable := #[], attributes := #[] }
def k18m1 : Method := { name := "equals", desc := "([B[B)Z", sig := { parameters := [(.array .byte), (.array .byte)], returnType := some .boolean }, accessFlags := 9, code := some k18c1 }
def k18c2 : Code := { maxStack := 6, maxLocals := 3, code := jdk_43_method_47_code, exceptionTable := #[], attributes := #[] }
def k18m2 : Method := { name := "newString", desc := "([BII)Ljava/lang/String;", sig := { parameters := [(.array .byte), .int, .int], returnType := some (.object "java/lang/String") }, accessFlags := 9, code := some k18c2 }
def k18c3 : Code := { maxStack := 5, maxLocals := 5, code := jdk_43_method_50_code, exceptionTable := #[], attributes := #[] }
def k18m3 : Method := { name := "inflate", desc := "([BI[BII)V", sig := { parameters := [(.array .byte), .int, (.array .byte), .int, .int], returnType := none }, accessFlags := 9, code := some k18c3 }
/-- java/lang/StringLatin1 -/
def k18 : Class := { plain "java/lang/StringLatin1" (some 0) with
  accessFlags := 48
  interfaces := #[]
  cf := some (fileOf pool18 14 #[.nestMembers #[390, 221]] #[{ accessFlags := 0, nameIndex := 7, descriptorIndex := 8, attributes := #[] }, { accessFlags := 9, nameIndex := 281, descriptorIndex := 282, attributes := #[] }, { accessFlags := 9, nameIndex := 196, descriptorIndex := 197, attributes := #[] }, { accessFlags := 9, nameIndex := 17, descriptorIndex := 27, attributes := #[] }] 48 4 #[] #[{ accessFlags := 4120, nameIndex := 121, descriptorIndex := 122, attributes := #[] }])
  fields := #[{ name := "$assertionsDisabled", type := .boolean, accessFlags := 4120, slot := 0, constantValue := 0 }]
  methods := #[k18m0, k18m1, k18m2, k18m3]
  instanceTypes := #[]
  staticTypes := #[.boolean]
  resolved := Array.replicate 395 none
  statics := none }

def pool19 : Array CpInfo := pool [(1, u "java/lang/Cloneable"), (0, .class_ 1), (0, u "java/lang/Object"), (0, .class_ 3)] 3

/-- java/lang/Cloneable -/
def k19 : Class := { plain "java/lang/Cloneable" (some 0) with
  accessFlags := 1537
  interfaces := #[]
  cf := some (fileOf pool19 2 #[] #[] 1537 4 #[] #[])
  fields := #[]
  methods := #[]
  instanceTypes := #[]
  staticTypes := #[]
  resolved := Array.replicate 8 none
  statics := none }

/-- the primitive byte -/
def k20 : Class := { plain "byte" none with kind := .primitive 'B', accessFlags := 0x411 }
/-- [B -/
def k21 : Class := { plain "[B" (some 0) with kind := .array 20 .byte, interfaces := #[19, 2], accessFlags := 1041 }

/-- the primitive char -/
def k22 : Class := { plain "char" none with kind := .primitive 'C', accessFlags := 0x411 }
/-- [C -/
def k23 : Class := { plain "[C" (some 0) with kind := .array 22 .char, interfaces := #[19, 2], accessFlags := 1041 }

def heap : Heap := #[{ cls := 7, slots := #[.long 0, .int 1, .null, .int 0, .null, .int 0, .int 0], vm := .statics 7 },
  { cls := 9, slots := #[.int 0, .int 8, .int 0, .int 1], vm := .statics 9 },
  { cls := 13, slots := #[.null, .null, .null], vm := .statics 13 }]
def classes : Array Class := #[k0, k1, k2, k3, k4, k5, k6, k7, k8, k9, k10, k11, k12, k13, k14, k15, k16, k17, k18, k19, k20, k21, k22, k23]
def interned : List (Array UInt16 × Addr) := []
def slotsUsed : Nat := 14
def theMethod : MethodId := ⟨1, 1⟩
def args0 : Array Value := #[.int 1, .int 2, .int 3, .int 4, .int 5]
def aboutOver (below : List Frame) : State where
  vm := { classes := classes, interned := interned.toArray }
  heap := heap
  slotsUsed := slotsUsed
  threads := #[{ frames := .invoking theMethod args0 :: below }]
def below0 : List Frame := [.native { method := ⟨0, 0⟩, args := #[] }]
def about1 : State := aboutOver below0
def p0 : Program := .bare "" "" ""
def e0 : Env := launch0.env 0 0 0
theorem w_frames : about1.frames = Frame.invoking theMethod args0 :: below0 := rfl
set_option maxRecDepth 65536 in
theorem w_args : argsFit about1.vm theMethod args0 = true := by decide +kernel
set_option maxRecDepth 65536 in
theorem w_heap : heapFits about1 = true := by decide +kernel
set_option maxRecDepth 65536 in
theorem w_runnable : about1.curStatus? = some .runnable := by decide +kernel
set_option maxRecDepth 65536 in
theorem w_alone : about1.alone = true := by decide +kernel
set_option maxRecDepth 65536 in
theorem w_named : about1.methodNamed? x = some theMethod := by decide +kernel
set_option maxRecDepth 65536 in
theorem w_hears : about1.hears theMethod below0 = true := by decide +kernel
set_option maxRecDepth 65536 in
theorem w_ripe : about1.ripe theMethod args0 below0 = true := by decide +kernel
theorem w_running : about1.status = .running := rfl
set_option maxRecDepth 65536 in
theorem w_room : about1.hasRoom e0.platform room_1 = true :=
  launch0.hasRoom_least _ room_1 (by decide +kernel) (by decide +kernel) (by decide +kernel) (by decide +kernel) (by decide +kernel) (by decide +kernel)
theorem allAtoms_all (ts : List Jvm.Cond) (a : Array Jvm.Value) (st : Jvm.State) : (allAtoms ts).before a st = ts.all (fun c => c.before a st) := by
  induction ts with
  | nil => rfl
  | cons c t ih =>
    show (Jvm.Cond.and c (allAtoms t)).before a st = _
    rw [Jvm.Cond.before_and, ih, List.all_cons]
def words1 : List Jvm.Cond := Jvm.Cond.code x code maxLocals ret :: tables_1
/-- a 'code' word, met by the world's own term for the bytes: nothing is compared byte by byte -/
theorem code_word {y : MethodName} {bytes : ByteArray} {mx : Nat} {rt : Option FieldType} {a : Array Value} {s : State} {m : MethodId} {meth : Method} {c : Code} (h1 : s.methodNamed? y = some m) (h2 : s.vm.method? m = some meth) (h3 : meth.code = some c) (h4 : c.code = bytes)
    (h5 : (c.maxLocals == mx && c.exceptionTable.isEmpty && decide (c.maxStack ≤ mostOperands) && decide (meth.sig.returnType = rt) && !meth.locks && decide (parseMethodDescriptor y.desc = some meth.sig)) = true) : (Jvm.Cond.code y bytes mx rt).before a s = true := by
  simp only [Bool.and_eq_true, beq_iff_eq, Bool.not_eq_true', decide_eq_true_eq] at h5
  obtain ⟨⟨⟨⟨⟨g1, g2⟩, g3⟩, g4⟩, g5⟩, g6⟩ := h5
  simp [Cond.before, Cond.holds, Cond.value, h1, h2, h3, h4, g1, g2, g3, g4, g5, g6]
def isCode : Jvm.Cond → Bool
  | .code _ _ _ _ => true
  | _ => false
theorem all_split {L : List Jvm.Cond} {P : Jvm.Cond → Bool} (h1 : L.all (fun c => isCode c || P c) = true) (h2 : ∀ c ∈ L.filter isCode, P c = true) : L.all P = true := by
  refine List.all_eq_true.mpr fun c hc => ?_
  have h := List.all_eq_true.mp h1 c hc
  rcases Bool.eq_false_or_eq_true (isCode c) with hi | hi
  · exact h2 c (List.mem_filter.mpr ⟨hc, hi⟩)
  · simpa [hi] using h
set_option maxRecDepth 65536 in
theorem w_c0 : (Jvm.Cond.code x code maxLocals ret).before args0 about1 = true := code_word (m := ⟨1, 1⟩) (meth := k1m1) (c := k1c1) (by decide +kernel) rfl rfl rfl (by decide +kernel)
set_option maxRecDepth 65536 in
theorem w_c1 : (Jvm.Cond.code ({ cls := "java/lang/String", name := "<init>", desc := "([C)V" } : Jvm.MethodName) jdk_42_method_3_code (2 : Nat) (Option.none : Option Jvm.ClassFile.FieldType)).before args0 about1 = true := code_word (m := ⟨7, 1⟩) (meth := k7m1) (c := k7c1) (by decide +kernel) rfl rfl rfl (by decide +kernel)
set_option maxRecDepth 65536 in
theorem w_c2 : (Jvm.Cond.code ({ cls := "java/lang/String", name := "<init>", desc := "([CIILjava/lang/Void;)V" } : Jvm.MethodName) jdk_42_method_149_code (6 : Nat) (Option.none : Option Jvm.ClassFile.FieldType)).before args0 about1 = true := code_word (m := ⟨7, 7⟩) (meth := k7m7) (c := k7c7) (by decide +kernel) rfl rfl rfl (by decide +kernel)
set_option maxRecDepth 65536 in
theorem w_c3 : (Jvm.Cond.code ({ cls := "java/lang/Object", name := "<init>", desc := "()V" } : Jvm.MethodName) object_method_1_code (1 : Nat) (Option.none : Option Jvm.ClassFile.FieldType)).before args0 about1 = true := code_word (m := ⟨0, 0⟩) (meth := k0m0) (c := k0c0) (by decide +kernel) rfl rfl rfl (by decide +kernel)
set_option maxRecDepth 65536 in
theorem w_c4 : (Jvm.Cond.code ({ cls := "com/example/tickcross/tickcross/http/RequestStream", name := "quoted", desc := "(Ljava/lang/String;)Ljava/lang/String;" } : Jvm.MethodName) prog_12_method_17_code (1 : Nat) (Option.some (Jvm.ClassFile.FieldType.object "java/lang/String"))).before args0 about1 = true := code_word (m := ⟨8, 1⟩) (meth := k8m1) (c := k8c1) (by decide +kernel) rfl rfl rfl (by decide +kernel)
set_option maxRecDepth 65536 in
theorem w_c5 : (Jvm.Cond.code ({ cls := "java/lang/String", name := "length", desc := "()I" } : Jvm.MethodName) jdk_42_method_54_code (1 : Nat) (Option.some Jvm.ClassFile.FieldType.int)).before args0 about1 = true := code_word (m := ⟨7, 3⟩) (meth := k7m3) (c := k7c3) (by decide +kernel) rfl rfl rfl (by decide +kernel)
set_option maxRecDepth 65536 in
theorem w_c6 : (Jvm.Cond.code ({ cls := "java/lang/String", name := "coder", desc := "()B" } : Jvm.MethodName) jdk_42_method_152_code (1 : Nat) (Option.some Jvm.ClassFile.FieldType.byte)).before args0 about1 = true := code_word (m := ⟨7, 10⟩) (meth := k7m10) (c := k7c10) (by decide +kernel) rfl rfl rfl (by decide +kernel)
set_option maxRecDepth 65536 in
theorem w_c7 : (Jvm.Cond.code ({ cls := "java/lang/String", name := "equals", desc := "(Ljava/lang/Object;)Z" } : Jvm.MethodName) jdk_42_method_66_code (3 : Nat) (Option.some Jvm.ClassFile.FieldType.boolean)).before args0 about1 = true := code_word (m := ⟨7, 4⟩) (meth := k7m4) (c := k7c4) (by decide +kernel) rfl rfl rfl (by decide +kernel)
set_option maxRecDepth 65536 in
theorem w_c8 : (Jvm.Cond.code ({ cls := "java/lang/StringUTF16", name := "compress", desc := "([CII)[B" } : Jvm.MethodName) jdk_52_method_16_code (6 : Nat) (Option.some (Jvm.ClassFile.FieldType.array Jvm.ClassFile.FieldType.byte))).before args0 about1 = true := code_word (m := ⟨9, 8⟩) (meth := k9m8) (c := k9c8) (by decide +kernel) rfl rfl rfl (by decide +kernel)
set_option maxRecDepth 65536 in
theorem w_c9 : (Jvm.Cond.code ({ cls := "java/lang/StringUTF16", name := "compress", desc := "([CI[BII)I" } : Jvm.MethodName) jdk_52_method_21_code (7 : Nat) (Option.some Jvm.ClassFile.FieldType.int)).before args0 about1 = true := code_word (m := ⟨9, 10⟩) (meth := k9m10) (c := k9c10) (by decide +kernel) rfl rfl rfl (by decide +kernel)
set_option maxRecDepth 65536 in
theorem w_c10 : (Jvm.Cond.code ({ cls := "java/lang/StringUTF16", name := "coderFromArrayLen", desc := "([BI)B" } : Jvm.MethodName) jdk_52_method_15_code (2 : Nat) (Option.some Jvm.ClassFile.FieldType.byte)).before args0 about1 = true := code_word (m := ⟨9, 7⟩) (meth := k9m7) (c := k9c7) (by decide +kernel) rfl rfl rfl (by decide +kernel)
set_option maxRecDepth 65536 in
theorem w_c11 : (Jvm.Cond.code ({ cls := "java/lang/StringUTF16", name := "toBytes", desc := "([CII)[B" } : Jvm.MethodName) jdk_52_method_14_code (5 : Nat) (Option.some (Jvm.ClassFile.FieldType.array Jvm.ClassFile.FieldType.byte))).before args0 about1 = true := code_word (m := ⟨9, 6⟩) (meth := k9m6) (c := k9c6) (by decide +kernel) rfl rfl rfl (by decide +kernel)
set_option maxRecDepth 65536 in
theorem w_c12 : (Jvm.Cond.code ({ cls := "java/lang/StringUTF16", name := "newBytesFor", desc := "(I)[B" } : Jvm.MethodName) jdk_52_method_2_code (1 : Nat) (Option.some (Jvm.ClassFile.FieldType.array Jvm.ClassFile.FieldType.byte))).before args0 about1 = true := code_word (m := ⟨9, 1⟩) (meth := k9m1) (c := k9c1) (by decide +kernel) rfl rfl rfl (by decide +kernel)
set_option maxRecDepth 65536 in
theorem w_c13 : (Jvm.Cond.code ({ cls := "java/lang/StringUTF16", name := "newBytesLength", desc := "(I)I" } : Jvm.MethodName) jdk_52_method_3_code (1 : Nat) (Option.some Jvm.ClassFile.FieldType.int)).before args0 about1 = true := code_word (m := ⟨9, 2⟩) (meth := k9m2) (c := k9c2) (by decide +kernel) rfl rfl rfl (by decide +kernel)
set_option maxRecDepth 65536 in
theorem w_c14 : (Jvm.Cond.code ({ cls := "java/lang/StringUTF16", name := "putChar", desc := "([BII)V" } : Jvm.MethodName) jdk_52_method_4_code (3 : Nat) (Option.none : Option Jvm.ClassFile.FieldType)).before args0 about1 = true := code_word (m := ⟨9, 3⟩) (meth := k9m3) (c := k9c3) (by decide +kernel) rfl rfl rfl (by decide +kernel)
set_option maxRecDepth 65536 in
theorem w_c15 : (Jvm.Cond.code ({ cls := "java/lang/StringUTF16", name := "getChar", desc := "([BI)C" } : Jvm.MethodName) jdk_52_method_5_code (2 : Nat) (Option.some Jvm.ClassFile.FieldType.char)).before args0 about1 = true := code_word (m := ⟨9, 4⟩) (meth := k9m4) (c := k9c4) (by decide +kernel) rfl rfl rfl (by decide +kernel)
set_option maxRecDepth 65536 in
theorem w_c16 : (Jvm.Cond.code ({ cls := "java/lang/StringBuilder", name := "<init>", desc := "()V" } : Jvm.MethodName) jdk_67_method_1_code (1 : Nat) (Option.none : Option Jvm.ClassFile.FieldType)).before args0 about1 = true := code_word (m := ⟨12, 0⟩) (meth := k12m0) (c := k12c0) (by decide +kernel) rfl rfl rfl (by decide +kernel)
set_option maxRecDepth 65536 in
theorem w_c17 : (Jvm.Cond.code ({ cls := "java/lang/AbstractStringBuilder", name := "<init>", desc := "(I)V" } : Jvm.MethodName) jdk_68_method_2_code (2 : Nat) (Option.none : Option Jvm.ClassFile.FieldType)).before args0 about1 = true := code_word (m := ⟨11, 1⟩) (meth := k11m1) (c := k11c1) (by decide +kernel) rfl rfl rfl (by decide +kernel)
set_option maxRecDepth 65536 in
theorem w_c18 : (Jvm.Cond.code ({ cls := "java/lang/String", name := "substring", desc := "(II)Ljava/lang/String;" } : Jvm.MethodName) jdk_42_method_92_code (5 : Nat) (Option.some (Jvm.ClassFile.FieldType.object "java/lang/String"))).before args0 about1 = true := code_word (m := ⟨7, 5⟩) (meth := k7m5) (c := k7c5) (by decide +kernel) rfl rfl rfl (by decide +kernel)
set_option maxRecDepth 65536 in
theorem w_c19 : (Jvm.Cond.code ({ cls := "java/lang/String", name := "checkBoundsBeginEnd", desc := "(III)V" } : Jvm.MethodName) jdk_42_method_158_code (3 : Nat) (Option.none : Option Jvm.ClassFile.FieldType)).before args0 about1 = true := code_word (m := ⟨7, 13⟩) (meth := k7m13) (c := k7c13) (by decide +kernel) rfl rfl rfl (by decide +kernel)
set_option maxRecDepth 65536 in
theorem w_c20 : (Jvm.Cond.code ({ cls := "jdk/internal/util/Preconditions", name := "checkFromToIndex", desc := "(IIILjava/util/function/BiFunction;)I" } : Jvm.MethodName) jdk_41_method_12_code (4 : Nat) (Option.some Jvm.ClassFile.FieldType.int)).before args0 about1 = true := code_word (m := ⟨13, 1⟩) (meth := k13m1) (c := k13c1) (by decide +kernel) rfl rfl rfl (by decide +kernel)
set_option maxRecDepth 65536 in
theorem w_c21 : (Jvm.Cond.code ({ cls := "java/lang/String", name := "isLatin1", desc := "()Z" } : Jvm.MethodName) jdk_42_method_154_code (1 : Nat) (Option.some Jvm.ClassFile.FieldType.boolean)).before args0 about1 = true := code_word (m := ⟨7, 11⟩) (meth := k7m11) (c := k7c11) (by decide +kernel) rfl rfl rfl (by decide +kernel)
set_option maxRecDepth 65536 in
theorem w_c22 : (Jvm.Cond.code ({ cls := "java/lang/StringUTF16", name := "newString", desc := "([BII)Ljava/lang/String;" } : Jvm.MethodName) jdk_52_method_69_code (5 : Nat) (Option.some (Jvm.ClassFile.FieldType.object "java/lang/String"))).before args0 about1 = true := code_word (m := ⟨9, 12⟩) (meth := k9m12) (c := k9c12) (by decide +kernel) rfl rfl rfl (by decide +kernel)
set_option maxRecDepth 65536 in
theorem w_c23 : (Jvm.Cond.code ({ cls := "java/lang/StringUTF16", name := "compress", desc := "([BII)[B" } : Jvm.MethodName) jdk_52_method_17_code (6 : Nat) (Option.some (Jvm.ClassFile.FieldType.array Jvm.ClassFile.FieldType.byte))).before args0 about1 = true := code_word (m := ⟨9, 9⟩) (meth := k9m9) (c := k9c9) (by decide +kernel) rfl rfl rfl (by decide +kernel)
set_option maxRecDepth 65536 in
theorem w_c24 : (Jvm.Cond.code ({ cls := "java/lang/StringUTF16", name := "compress", desc := "([BI[BII)I" } : Jvm.MethodName) jdk_52_method_22_code (7 : Nat) (Option.some Jvm.ClassFile.FieldType.int)).before args0 about1 = true := code_word (m := ⟨9, 11⟩) (meth := k9m11) (c := k9c11) (by decide +kernel) rfl rfl rfl (by decide +kernel)
set_option maxRecDepth 65536 in
theorem w_c25 : (Jvm.Cond.code ({ cls := "java/lang/StringUTF16", name := "checkBoundsOffCount", desc := "(II[B)V" } : Jvm.MethodName) jdk_52_method_94_code (3 : Nat) (Option.none : Option Jvm.ClassFile.FieldType)).before args0 about1 = true := code_word (m := ⟨9, 14⟩) (meth := k9m14) (c := k9c14) (by decide +kernel) rfl rfl rfl (by decide +kernel)
set_option maxRecDepth 65536 in
theorem w_c26 : (Jvm.Cond.code ({ cls := "java/lang/StringUTF16", name := "length", desc := "([B)I" } : Jvm.MethodName) jdk_52_method_6_code (1 : Nat) (Option.some Jvm.ClassFile.FieldType.int)).before args0 about1 = true := code_word (m := ⟨9, 5⟩) (meth := k9m5) (c := k9c5) (by decide +kernel) rfl rfl rfl (by decide +kernel)
set_option maxRecDepth 65536 in
theorem w_c27 : (Jvm.Cond.code ({ cls := "java/lang/String", name := "checkBoundsOffCount", desc := "(III)I" } : Jvm.MethodName) jdk_42_method_157_code (3 : Nat) (Option.some Jvm.ClassFile.FieldType.int)).before args0 about1 = true := code_word (m := ⟨7, 12⟩) (meth := k7m12) (c := k7c12) (by decide +kernel) rfl rfl rfl (by decide +kernel)
set_option maxRecDepth 65536 in
theorem w_c28 : (Jvm.Cond.code ({ cls := "jdk/internal/util/Preconditions", name := "checkFromIndexSize", desc := "(IIILjava/util/function/BiFunction;)I" } : Jvm.MethodName) jdk_41_method_13_code (4 : Nat) (Option.some Jvm.ClassFile.FieldType.int)).before args0 about1 = true := code_word (m := ⟨13, 2⟩) (meth := k13m2) (c := k13c2) (by decide +kernel) rfl rfl rfl (by decide +kernel)
set_option maxRecDepth 65536 in
theorem w_c29 : (Jvm.Cond.code ({ cls := "java/util/Arrays", name := "copyOfRange", desc := "([BII)[B" } : Jvm.MethodName) jdk_65_method_132_code (3 : Nat) (Option.some (Jvm.ClassFile.FieldType.array Jvm.ClassFile.FieldType.byte))).before args0 about1 = true := code_word (m := ⟨14, 3⟩) (meth := k14m3) (c := k14c3) (by decide +kernel) rfl rfl rfl (by decide +kernel)
set_option maxRecDepth 65536 in
theorem w_c30 : (Jvm.Cond.code ({ cls := "java/util/Arrays", name := "copyOfRangeByte", desc := "([BII)[B" } : Jvm.MethodName) jdk_65_method_133_code (5 : Nat) (Option.some (Jvm.ClassFile.FieldType.array Jvm.ClassFile.FieldType.byte))).before args0 about1 = true := code_word (m := ⟨14, 4⟩) (meth := k14m4) (c := k14c4) (by decide +kernel) rfl rfl rfl (by decide +kernel)
set_option maxRecDepth 65536 in
theorem w_c31 : (Jvm.Cond.code ({ cls := "java/util/Arrays", name := "checkLength", desc := "(II)V" } : Jvm.MethodName) jdk_65_method_131_code (2 : Nat) (Option.none : Option Jvm.ClassFile.FieldType)).before args0 about1 = true := code_word (m := ⟨14, 2⟩) (meth := k14m2) (c := k14c2) (by decide +kernel) rfl rfl rfl (by decide +kernel)
set_option maxRecDepth 65536 in
theorem w_c32 : (Jvm.Cond.code ({ cls := "java/lang/Math", name := "min", desc := "(II)I" } : Jvm.MethodName) jdk_29_method_69_code (2 : Nat) (Option.some Jvm.ClassFile.FieldType.int)).before args0 about1 = true := code_word (m := ⟨15, 2⟩) (meth := k15m2) (c := k15c2) (by decide +kernel) rfl rfl rfl (by decide +kernel)
set_option maxRecDepth 65536 in
theorem w_c33 : (Jvm.Cond.code ({ cls := "java/lang/String", name := "<init>", desc := "([BB)V" } : Jvm.MethodName) jdk_42_method_151_code (3 : Nat) (Option.none : Option Jvm.ClassFile.FieldType)).before args0 about1 = true := code_word (m := ⟨7, 9⟩) (meth := k7m9) (c := k7c9) (by decide +kernel) rfl rfl rfl (by decide +kernel)
set_option maxRecDepth 65536 in
theorem w_c34 : (Jvm.Cond.code ({ cls := "java/lang/StringBuilder", name := "append", desc := "(Ljava/lang/String;)Ljava/lang/StringBuilder;" } : Jvm.MethodName) jdk_67_method_7_code (2 : Nat) (Option.some (Jvm.ClassFile.FieldType.object "java/lang/StringBuilder"))).before args0 about1 = true := code_word (m := ⟨12, 1⟩) (meth := k12m1) (c := k12c1) (by decide +kernel) rfl rfl rfl (by decide +kernel)
set_option maxRecDepth 65536 in
theorem w_c35 : (Jvm.Cond.code ({ cls := "java/lang/AbstractStringBuilder", name := "append", desc := "(Ljava/lang/String;)Ljava/lang/AbstractStringBuilder;" } : Jvm.MethodName) jdk_68_method_22_code (3 : Nat) (Option.some (Jvm.ClassFile.FieldType.object "java/lang/AbstractStringBuilder"))).before args0 about1 = true := code_word (m := ⟨11, 6⟩) (meth := k11m6) (c := k11c6) (by decide +kernel) rfl rfl rfl (by decide +kernel)
set_option maxRecDepth 65536 in
theorem w_c36 : (Jvm.Cond.code ({ cls := "java/lang/AbstractStringBuilder", name := "ensureCapacityInternal", desc := "(I)V" } : Jvm.MethodName) jdk_68_method_9_code (3 : Nat) (Option.none : Option Jvm.ClassFile.FieldType)).before args0 about1 = true := code_word (m := ⟨11, 3⟩) (meth := k11m3) (c := k11c3) (by decide +kernel) rfl rfl rfl (by decide +kernel)
set_option maxRecDepth 65536 in
theorem w_c37 : (Jvm.Cond.code ({ cls := "java/lang/AbstractStringBuilder", name := "newCapacity", desc := "(I)I" } : Jvm.MethodName) jdk_68_method_10_code (6 : Nat) (Option.some Jvm.ClassFile.FieldType.int)).before args0 about1 = true := code_word (m := ⟨11, 4⟩) (meth := k11m4) (c := k11c4) (by decide +kernel) rfl rfl rfl (by decide +kernel)
set_option maxRecDepth 65536 in
theorem w_c38 : (Jvm.Cond.code ({ cls := "jdk/internal/util/ArraysSupport", name := "newLength", desc := "(III)I" } : Jvm.MethodName) jdk_48_method_27_code (4 : Nat) (Option.some Jvm.ClassFile.FieldType.int)).before args0 about1 = true := code_word (m := ⟨17, 1⟩) (meth := k17m1) (c := k17c1) (by decide +kernel) rfl rfl rfl (by decide +kernel)
set_option maxRecDepth 65536 in
theorem w_c39 : (Jvm.Cond.code ({ cls := "java/lang/Math", name := "max", desc := "(II)I" } : Jvm.MethodName) jdk_29_method_65_code (2 : Nat) (Option.some Jvm.ClassFile.FieldType.int)).before args0 about1 = true := code_word (m := ⟨15, 1⟩) (meth := k15m1) (c := k15c1) (by decide +kernel) rfl rfl rfl (by decide +kernel)
set_option maxRecDepth 65536 in
theorem w_c40 : (Jvm.Cond.code ({ cls := "java/util/Arrays", name := "copyOf", desc := "([BI)[B" } : Jvm.MethodName) jdk_65_method_121_code (3 : Nat) (Option.some (Jvm.ClassFile.FieldType.array Jvm.ClassFile.FieldType.byte))).before args0 about1 = true := code_word (m := ⟨14, 1⟩) (meth := k14m1) (c := k14c1) (by decide +kernel) rfl rfl rfl (by decide +kernel)
set_option maxRecDepth 65536 in
theorem w_c41 : (Jvm.Cond.code ({ cls := "java/lang/AbstractStringBuilder", name := "putStringAt", desc := "(ILjava/lang/String;)V" } : Jvm.MethodName) jdk_68_method_73_code (3 : Nat) (Option.none : Option Jvm.ClassFile.FieldType)).before args0 about1 = true := code_word (m := ⟨11, 10⟩) (meth := k11m10) (c := k11c10) (by decide +kernel) rfl rfl rfl (by decide +kernel)
set_option maxRecDepth 65536 in
theorem w_c42 : (Jvm.Cond.code ({ cls := "java/lang/AbstractStringBuilder", name := "inflateIfNeededFor", desc := "(Ljava/lang/String;)V" } : Jvm.MethodName) jdk_68_method_71_code (2 : Nat) (Option.none : Option Jvm.ClassFile.FieldType)).before args0 about1 = true := code_word (m := ⟨11, 9⟩) (meth := k11m9) (c := k11c9) (by decide +kernel) rfl rfl rfl (by decide +kernel)
set_option maxRecDepth 65536 in
theorem w_c43 : (Jvm.Cond.code ({ cls := "java/lang/AbstractStringBuilder", name := "inflate", desc := "()V" } : Jvm.MethodName) jdk_68_method_11_code (2 : Nat) (Option.none : Option Jvm.ClassFile.FieldType)).before args0 about1 = true := code_word (m := ⟨11, 5⟩) (meth := k11m5) (c := k11c5) (by decide +kernel) rfl rfl rfl (by decide +kernel)
set_option maxRecDepth 65536 in
theorem w_c44 : (Jvm.Cond.code ({ cls := "java/lang/AbstractStringBuilder", name := "isLatin1", desc := "()Z" } : Jvm.MethodName) jdk_68_method_68_code (1 : Nat) (Option.some Jvm.ClassFile.FieldType.boolean)).before args0 about1 = true := code_word (m := ⟨11, 8⟩) (meth := k11m8) (c := k11c8) (by decide +kernel) rfl rfl rfl (by decide +kernel)
set_option maxRecDepth 65536 in
theorem w_c45 : (Jvm.Cond.code ({ cls := "java/lang/StringLatin1", name := "inflate", desc := "([BI[BII)V" } : Jvm.MethodName) jdk_43_method_50_code (5 : Nat) (Option.none : Option Jvm.ClassFile.FieldType)).before args0 about1 = true := code_word (m := ⟨18, 3⟩) (meth := k18m3) (c := k18c3) (by decide +kernel) rfl rfl rfl (by decide +kernel)
set_option maxRecDepth 65536 in
theorem w_c46 : (Jvm.Cond.code ({ cls := "java/lang/StringUTF16", name := "inflate", desc := "([BI[BII)V" } : Jvm.MethodName) jdk_52_method_86_code (6 : Nat) (Option.none : Option Jvm.ClassFile.FieldType)).before args0 about1 = true := code_word (m := ⟨9, 13⟩) (meth := k9m13) (c := k9c13) (by decide +kernel) rfl rfl rfl (by decide +kernel)
set_option maxRecDepth 65536 in
theorem w_c47 : (Jvm.Cond.code ({ cls := "java/lang/String", name := "getBytes", desc := "([BIB)V" } : Jvm.MethodName) jdk_42_method_147_code (4 : Nat) (Option.none : Option Jvm.ClassFile.FieldType)).before args0 about1 = true := code_word (m := ⟨7, 6⟩) (meth := k7m6) (c := k7c6) (by decide +kernel) rfl rfl rfl (by decide +kernel)
set_option maxRecDepth 65536 in
theorem w_c48 : (Jvm.Cond.code ({ cls := "java/lang/StringBuilder", name := "toString", desc := "()Ljava/lang/String;" } : Jvm.MethodName) jdk_67_method_42_code (1 : Nat) (Option.some (Jvm.ClassFile.FieldType.object "java/lang/String"))).before args0 about1 = true := code_word (m := ⟨12, 2⟩) (meth := k12m2) (c := k12c2) (by decide +kernel) rfl rfl rfl (by decide +kernel)
set_option maxRecDepth 65536 in
theorem w_c49 : (Jvm.Cond.code ({ cls := "java/lang/String", name := "<init>", desc := "(Ljava/lang/StringBuilder;)V" } : Jvm.MethodName) jdk_42_method_53_code (2 : Nat) (Option.none : Option Jvm.ClassFile.FieldType)).before args0 about1 = true := code_word (m := ⟨7, 2⟩) (meth := k7m2) (c := k7c2) (by decide +kernel) rfl rfl rfl (by decide +kernel)
set_option maxRecDepth 65536 in
theorem w_c50 : (Jvm.Cond.code ({ cls := "java/lang/String", name := "<init>", desc := "(Ljava/lang/AbstractStringBuilder;Ljava/lang/Void;)V" } : Jvm.MethodName) jdk_42_method_150_code (5 : Nat) (Option.none : Option Jvm.ClassFile.FieldType)).before args0 about1 = true := code_word (m := ⟨7, 8⟩) (meth := k7m8) (c := k7c8) (by decide +kernel) rfl rfl rfl (by decide +kernel)
set_option maxRecDepth 65536 in
theorem w_c51 : (Jvm.Cond.code ({ cls := "java/lang/AbstractStringBuilder", name := "getValue", desc := "()[B" } : Jvm.MethodName) jdk_68_method_64_code (1 : Nat) (Option.some (Jvm.ClassFile.FieldType.array Jvm.ClassFile.FieldType.byte))).before args0 about1 = true := code_word (m := ⟨11, 7⟩) (meth := k11m7) (c := k11c7) (by decide +kernel) rfl rfl rfl (by decide +kernel)
set_option maxRecDepth 65536 in
theorem w_c52 : (Jvm.Cond.code ({ cls := "java/lang/StringBuilder", name := "length", desc := "()I" } : Jvm.MethodName) jdk_67_method_93_code (1 : Nat) (Option.some Jvm.ClassFile.FieldType.int)).before args0 about1 = true := code_word (m := ⟨12, 3⟩) (meth := k12m3) (c := k12c3) (by decide +kernel) rfl rfl rfl (by decide +kernel)
set_option maxRecDepth 65536 in
theorem w_c53 : (Jvm.Cond.code ({ cls := "java/lang/AbstractStringBuilder", name := "length", desc := "()I" } : Jvm.MethodName) jdk_68_method_6_code (1 : Nat) (Option.some Jvm.ClassFile.FieldType.int)).before args0 about1 = true := code_word (m := ⟨11, 2⟩) (meth := k11m2) (c := k11c2) (by decide +kernel) rfl rfl rfl (by decide +kernel)
set_option maxRecDepth 65536 in
theorem w_c54 : (Jvm.Cond.code ({ cls := "java/lang/StringLatin1", name := "equals", desc := "([B[B)Z" } : Jvm.MethodName) jdk_43_method_13_code (3 : Nat) (Option.some Jvm.ClassFile.FieldType.boolean)).before args0 about1 = true := code_word (m := ⟨18, 1⟩) (meth := k18m1) (c := k18c1) (by decide +kernel) rfl rfl rfl (by decide +kernel)
set_option maxRecDepth 65536 in
theorem w_c55 : (Jvm.Cond.code ({ cls := "java/lang/StringLatin1", name := "newString", desc := "([BII)Ljava/lang/String;" } : Jvm.MethodName) jdk_43_method_47_code (3 : Nat) (Option.some (Jvm.ClassFile.FieldType.object "java/lang/String"))).before args0 about1 = true := code_word (m := ⟨18, 2⟩) (meth := k18m2) (c := k18c2) (by decide +kernel) rfl rfl rfl (by decide +kernel)
def codes1 : List Jvm.Cond := [Jvm.Cond.code x code maxLocals ret, Jvm.Cond.code ({ cls := "java/lang/String", name := "<init>", desc := "([C)V" } : Jvm.MethodName) jdk_42_method_3_code (2 : Nat) (Option.none : Option Jvm.ClassFile.FieldType), Jvm.Cond.code ({ cls := "java/lang/String", name := "<init>", desc := "([CIILjava/lang/Void;)V" } : Jvm.MethodName) jdk_42_method_149_code (6 : Nat) (Option.none : Option Jvm.ClassFile.FieldType), Jvm.Cond.code ({ cls := "java/lang/Object", name := "<init>", desc := "()V" } : Jvm.MethodName) object_method_1_code (1 : Nat) (Option.none : Option Jvm.ClassFile.FieldType), Jvm.Cond.code ({ cls := "com/example/tickcross/tickcross/http/RequestStream", name := "quoted", desc := "(Ljava/lang/String;)Ljava/lang/String;" } : Jvm.MethodName) prog_12_method_17_code (1 : Nat) (Option.some (Jvm.ClassFile.FieldType.object "java/lang/String")), Jvm.Cond.code ({ cls := "java/lang/String", name := "length", desc := "()I" } : Jvm.MethodName) jdk_42_method_54_code (1 : Nat) (Option.some Jvm.ClassFile.FieldType.int), Jvm.Cond.code ({ cls := "java/lang/String", name := "coder", desc := "()B" } : Jvm.MethodName) jdk_42_method_152_code (1 : Nat) (Option.some Jvm.ClassFile.FieldType.byte), Jvm.Cond.code ({ cls := "java/lang/String", name := "equals", desc := "(Ljava/lang/Object;)Z" } : Jvm.MethodName) jdk_42_method_66_code (3 : Nat) (Option.some Jvm.ClassFile.FieldType.boolean), Jvm.Cond.code ({ cls := "java/lang/StringUTF16", name := "compress", desc := "([CII)[B" } : Jvm.MethodName) jdk_52_method_16_code (6 : Nat) (Option.some (Jvm.ClassFile.FieldType.array Jvm.ClassFile.FieldType.byte)), Jvm.Cond.code ({ cls := "java/lang/StringUTF16", name := "compress", desc := "([CI[BII)I" } : Jvm.MethodName) jdk_52_method_21_code (7 : Nat) (Option.some Jvm.ClassFile.FieldType.int), Jvm.Cond.code ({ cls := "java/lang/StringUTF16", name := "coderFromArrayLen", desc := "([BI)B" } : Jvm.MethodName) jdk_52_method_15_code (2 : Nat) (Option.some Jvm.ClassFile.FieldType.byte), Jvm.Cond.code ({ cls := "java/lang/StringUTF16", name := "toBytes", desc := "([CII)[B" } : Jvm.MethodName) jdk_52_method_14_code (5 : Nat) (Option.some (Jvm.ClassFile.FieldType.array Jvm.ClassFile.FieldType.byte)), Jvm.Cond.code ({ cls := "java/lang/StringUTF16", name := "newBytesFor", desc := "(I)[B" } : Jvm.MethodName) jdk_52_method_2_code (1 : Nat) (Option.some (Jvm.ClassFile.FieldType.array Jvm.ClassFile.FieldType.byte)), Jvm.Cond.code ({ cls := "java/lang/StringUTF16", name := "newBytesLength", desc := "(I)I" } : Jvm.MethodName) jdk_52_method_3_code (1 : Nat) (Option.some Jvm.ClassFile.FieldType.int), Jvm.Cond.code ({ cls := "java/lang/StringUTF16", name := "putChar", desc := "([BII)V" } : Jvm.MethodName) jdk_52_method_4_code (3 : Nat) (Option.none : Option Jvm.ClassFile.FieldType), Jvm.Cond.code ({ cls := "java/lang/StringUTF16", name := "getChar", desc := "([BI)C" } : Jvm.MethodName) jdk_52_method_5_code (2 : Nat) (Option.some Jvm.ClassFile.FieldType.char), Jvm.Cond.code ({ cls := "java/lang/StringBuilder", name := "<init>", desc := "()V" } : Jvm.MethodName) jdk_67_method_1_code (1 : Nat) (Option.none : Option Jvm.ClassFile.FieldType), Jvm.Cond.code ({ cls := "java/lang/AbstractStringBuilder", name := "<init>", desc := "(I)V" } : Jvm.MethodName) jdk_68_method_2_code (2 : Nat) (Option.none : Option Jvm.ClassFile.FieldType), Jvm.Cond.code ({ cls := "java/lang/String", name := "substring", desc := "(II)Ljava/lang/String;" } : Jvm.MethodName) jdk_42_method_92_code (5 : Nat) (Option.some (Jvm.ClassFile.FieldType.object "java/lang/String")), Jvm.Cond.code ({ cls := "java/lang/String", name := "checkBoundsBeginEnd", desc := "(III)V" } : Jvm.MethodName) jdk_42_method_158_code (3 : Nat) (Option.none : Option Jvm.ClassFile.FieldType), Jvm.Cond.code ({ cls := "jdk/internal/util/Preconditions", name := "checkFromToIndex", desc := "(IIILjava/util/function/BiFunction;)I" } : Jvm.MethodName) jdk_41_method_12_code (4 : Nat) (Option.some Jvm.ClassFile.FieldType.int), Jvm.Cond.code ({ cls := "java/lang/String", name := "isLatin1", desc := "()Z" } : Jvm.MethodName) jdk_42_method_154_code (1 : Nat) (Option.some Jvm.ClassFile.FieldType.boolean), Jvm.Cond.code ({ cls := "java/lang/StringUTF16", name := "newString", desc := "([BII)Ljava/lang/String;" } : Jvm.MethodName) jdk_52_method_69_code (5 : Nat) (Option.some (Jvm.ClassFile.FieldType.object "java/lang/String")), Jvm.Cond.code ({ cls := "java/lang/StringUTF16", name := "compress", desc := "([BII)[B" } : Jvm.MethodName) jdk_52_method_17_code (6 : Nat) (Option.some (Jvm.ClassFile.FieldType.array Jvm.ClassFile.FieldType.byte)), Jvm.Cond.code ({ cls := "java/lang/StringUTF16", name := "compress", desc := "([BI[BII)I" } : Jvm.MethodName) jdk_52_method_22_code (7 : Nat) (Option.some Jvm.ClassFile.FieldType.int), Jvm.Cond.code ({ cls := "java/lang/StringUTF16", name := "checkBoundsOffCount", desc := "(II[B)V" } : Jvm.MethodName) jdk_52_method_94_code (3 : Nat) (Option.none : Option Jvm.ClassFile.FieldType), Jvm.Cond.code ({ cls := "java/lang/StringUTF16", name := "length", desc := "([B)I" } : Jvm.MethodName) jdk_52_method_6_code (1 : Nat) (Option.some Jvm.ClassFile.FieldType.int), Jvm.Cond.code ({ cls := "java/lang/String", name := "checkBoundsOffCount", desc := "(III)I" } : Jvm.MethodName) jdk_42_method_157_code (3 : Nat) (Option.some Jvm.ClassFile.FieldType.int), Jvm.Cond.code ({ cls := "jdk/internal/util/Preconditions", name := "checkFromIndexSize", desc := "(IIILjava/util/function/BiFunction;)I" } : Jvm.MethodName) jdk_41_method_13_code (4 : Nat) (Option.some Jvm.ClassFile.FieldType.int), Jvm.Cond.code ({ cls := "java/util/Arrays", name := "copyOfRange", desc := "([BII)[B" } : Jvm.MethodName) jdk_65_method_132_code (3 : Nat) (Option.some (Jvm.ClassFile.FieldType.array Jvm.ClassFile.FieldType.byte)), Jvm.Cond.code ({ cls := "java/util/Arrays", name := "copyOfRangeByte", desc := "([BII)[B" } : Jvm.MethodName) jdk_65_method_133_code (5 : Nat) (Option.some (Jvm.ClassFile.FieldType.array Jvm.ClassFile.FieldType.byte)), Jvm.Cond.code ({ cls := "java/util/Arrays", name := "checkLength", desc := "(II)V" } : Jvm.MethodName) jdk_65_method_131_code (2 : Nat) (Option.none : Option Jvm.ClassFile.FieldType), Jvm.Cond.code ({ cls := "java/lang/Math", name := "min", desc := "(II)I" } : Jvm.MethodName) jdk_29_method_69_code (2 : Nat) (Option.some Jvm.ClassFile.FieldType.int), Jvm.Cond.code ({ cls := "java/lang/String", name := "<init>", desc := "([BB)V" } : Jvm.MethodName) jdk_42_method_151_code (3 : Nat) (Option.none : Option Jvm.ClassFile.FieldType), Jvm.Cond.code ({ cls := "java/lang/StringBuilder", name := "append", desc := "(Ljava/lang/String;)Ljava/lang/StringBuilder;" } : Jvm.MethodName) jdk_67_method_7_code (2 : Nat) (Option.some (Jvm.ClassFile.FieldType.object "java/lang/StringBuilder")), Jvm.Cond.code ({ cls := "java/lang/AbstractStringBuilder", name := "append", desc := "(Ljava/lang/String;)Ljava/lang/AbstractStringBuilder;" } : Jvm.MethodName) jdk_68_method_22_code (3 : Nat) (Option.some (Jvm.ClassFile.FieldType.object "java/lang/AbstractStringBuilder")), Jvm.Cond.code ({ cls := "java/lang/AbstractStringBuilder", name := "ensureCapacityInternal", desc := "(I)V" } : Jvm.MethodName) jdk_68_method_9_code (3 : Nat) (Option.none : Option Jvm.ClassFile.FieldType), Jvm.Cond.code ({ cls := "java/lang/AbstractStringBuilder", name := "newCapacity", desc := "(I)I" } : Jvm.MethodName) jdk_68_method_10_code (6 : Nat) (Option.some Jvm.ClassFile.FieldType.int), Jvm.Cond.code ({ cls := "jdk/internal/util/ArraysSupport", name := "newLength", desc := "(III)I" } : Jvm.MethodName) jdk_48_method_27_code (4 : Nat) (Option.some Jvm.ClassFile.FieldType.int), Jvm.Cond.code ({ cls := "java/lang/Math", name := "max", desc := "(II)I" } : Jvm.MethodName) jdk_29_method_65_code (2 : Nat) (Option.some Jvm.ClassFile.FieldType.int), Jvm.Cond.code ({ cls := "java/util/Arrays", name := "copyOf", desc := "([BI)[B" } : Jvm.MethodName) jdk_65_method_121_code (3 : Nat) (Option.some (Jvm.ClassFile.FieldType.array Jvm.ClassFile.FieldType.byte)), Jvm.Cond.code ({ cls := "java/lang/AbstractStringBuilder", name := "putStringAt", desc := "(ILjava/lang/String;)V" } : Jvm.MethodName) jdk_68_method_73_code (3 : Nat) (Option.none : Option Jvm.ClassFile.FieldType), Jvm.Cond.code ({ cls := "java/lang/AbstractStringBuilder", name := "inflateIfNeededFor", desc := "(Ljava/lang/String;)V" } : Jvm.MethodName) jdk_68_method_71_code (2 : Nat) (Option.none : Option Jvm.ClassFile.FieldType), Jvm.Cond.code ({ cls := "java/lang/AbstractStringBuilder", name := "inflate", desc := "()V" } : Jvm.MethodName) jdk_68_method_11_code (2 : Nat) (Option.none : Option Jvm.ClassFile.FieldType), Jvm.Cond.code ({ cls := "java/lang/AbstractStringBuilder", name := "isLatin1", desc := "()Z" } : Jvm.MethodName) jdk_68_method_68_code (1 : Nat) (Option.some Jvm.ClassFile.FieldType.boolean), Jvm.Cond.code ({ cls := "java/lang/StringLatin1", name := "inflate", desc := "([BI[BII)V" } : Jvm.MethodName) jdk_43_method_50_code (5 : Nat) (Option.none : Option Jvm.ClassFile.FieldType), Jvm.Cond.code ({ cls := "java/lang/StringUTF16", name := "inflate", desc := "([BI[BII)V" } : Jvm.MethodName) jdk_52_method_86_code (6 : Nat) (Option.none : Option Jvm.ClassFile.FieldType), Jvm.Cond.code ({ cls := "java/lang/String", name := "getBytes", desc := "([BIB)V" } : Jvm.MethodName) jdk_42_method_147_code (4 : Nat) (Option.none : Option Jvm.ClassFile.FieldType), Jvm.Cond.code ({ cls := "java/lang/StringBuilder", name := "toString", desc := "()Ljava/lang/String;" } : Jvm.MethodName) jdk_67_method_42_code (1 : Nat) (Option.some (Jvm.ClassFile.FieldType.object "java/lang/String")), Jvm.Cond.code ({ cls := "java/lang/String", name := "<init>", desc := "(Ljava/lang/StringBuilder;)V" } : Jvm.MethodName) jdk_42_method_53_code (2 : Nat) (Option.none : Option Jvm.ClassFile.FieldType), Jvm.Cond.code ({ cls := "java/lang/String", name := "<init>", desc := "(Ljava/lang/AbstractStringBuilder;Ljava/lang/Void;)V" } : Jvm.MethodName) jdk_42_method_150_code (5 : Nat) (Option.none : Option Jvm.ClassFile.FieldType), Jvm.Cond.code ({ cls := "java/lang/AbstractStringBuilder", name := "getValue", desc := "()[B" } : Jvm.MethodName) jdk_68_method_64_code (1 : Nat) (Option.some (Jvm.ClassFile.FieldType.array Jvm.ClassFile.FieldType.byte)), Jvm.Cond.code ({ cls := "java/lang/StringBuilder", name := "length", desc := "()I" } : Jvm.MethodName) jdk_67_method_93_code (1 : Nat) (Option.some Jvm.ClassFile.FieldType.int), Jvm.Cond.code ({ cls := "java/lang/AbstractStringBuilder", name := "length", desc := "()I" } : Jvm.MethodName) jdk_68_method_6_code (1 : Nat) (Option.some Jvm.ClassFile.FieldType.int), Jvm.Cond.code ({ cls := "java/lang/StringLatin1", name := "equals", desc := "([B[B)Z" } : Jvm.MethodName) jdk_43_method_13_code (3 : Nat) (Option.some Jvm.ClassFile.FieldType.boolean), Jvm.Cond.code ({ cls := "java/lang/StringLatin1", name := "newString", desc := "([BII)Ljava/lang/String;" } : Jvm.MethodName) jdk_43_method_47_code (3 : Nat) (Option.some (Jvm.ClassFile.FieldType.object "java/lang/String"))]
set_option maxRecDepth 65536 in
theorem codes_eq : words1.filter isCode = codes1 := rfl
theorem w_codes : ∀ c ∈ words1.filter isCode, c.before args0 about1 = true := by
  rw [codes_eq]
  intro c hc
  simp only [codes1, List.mem_cons, List.not_mem_nil, or_false] at hc
  rcases hc with rfl | rfl | rfl | rfl | rfl | rfl | rfl | rfl | rfl | rfl | rfl | rfl | rfl | rfl | rfl | rfl | rfl | rfl | rfl | rfl | rfl | rfl | rfl | rfl | rfl | rfl | rfl | rfl | rfl | rfl | rfl | rfl | rfl | rfl | rfl | rfl | rfl | rfl | rfl | rfl | rfl | rfl | rfl | rfl | rfl | rfl | rfl | rfl | rfl | rfl | rfl | rfl | rfl | rfl | rfl | rfl
  · exact w_c0
  · exact w_c1
  · exact w_c2
  · exact w_c3
  · exact w_c4
  · exact w_c5
  · exact w_c6
  · exact w_c7
  · exact w_c8
  · exact w_c9
  · exact w_c10
  · exact w_c11
  · exact w_c12
  · exact w_c13
  · exact w_c14
  · exact w_c15
  · exact w_c16
  · exact w_c17
  · exact w_c18
  · exact w_c19
  · exact w_c20
  · exact w_c21
  · exact w_c22
  · exact w_c23
  · exact w_c24
  · exact w_c25
  · exact w_c26
  · exact w_c27
  · exact w_c28
  · exact w_c29
  · exact w_c30
  · exact w_c31
  · exact w_c32
  · exact w_c33
  · exact w_c34
  · exact w_c35
  · exact w_c36
  · exact w_c37
  · exact w_c38
  · exact w_c39
  · exact w_c40
  · exact w_c41
  · exact w_c42
  · exact w_c43
  · exact w_c44
  · exact w_c45
  · exact w_c46
  · exact w_c47
  · exact w_c48
  · exact w_c49
  · exact w_c50
  · exact w_c51
  · exact w_c52
  · exact w_c53
  · exact w_c54
  · exact w_c55
set_option maxRecDepth 65536 in
theorem w_t1 : (words1.take 24).all (fun c => isCode c || c.before args0 about1) = true := by decide +kernel
set_option maxRecDepth 65536 in
theorem w_t2 : ((words1.drop 24).take 24).all (fun c => isCode c || c.before args0 about1) = true := by decide +kernel
set_option maxRecDepth 65536 in
theorem w_t3 : (((words1.drop 24).drop 24).take 24).all (fun c => isCode c || c.before args0 about1) = true := by decide +kernel
set_option maxRecDepth 65536 in
theorem w_t4 : ((((words1.drop 24).drop 24).drop 24).take 24).all (fun c => isCode c || c.before args0 about1) = true := by decide +kernel
set_option maxRecDepth 65536 in
theorem w_t5 : (((((words1.drop 24).drop 24).drop 24).drop 24).take 24).all (fun c => isCode c || c.before args0 about1) = true := by decide +kernel
set_option maxRecDepth 65536 in
theorem w_t6 : ((((((words1.drop 24).drop 24).drop 24).drop 24).drop 24).take 24).all (fun c => isCode c || c.before args0 about1) = true := by decide +kernel
set_option maxRecDepth 65536 in
theorem w_t7 : (((((((words1.drop 24).drop 24).drop 24).drop 24).drop 24).drop 24).take 24).all (fun c => isCode c || c.before args0 about1) = true := by decide +kernel
set_option maxRecDepth 65536 in
theorem w_t8 : ((((((((words1.drop 24).drop 24).drop 24).drop 24).drop 24).drop 24).drop 24).take 24).all (fun c => isCode c || c.before args0 about1) = true := by decide +kernel
set_option maxRecDepth 65536 in
theorem w_t9 : (((((((((words1.drop 24).drop 24).drop 24).drop 24).drop 24).drop 24).drop 24).drop 24).take 24).all (fun c => isCode c || c.before args0 about1) = true := by decide +kernel
set_option maxRecDepth 65536 in
theorem w_t10 : ((((((((((words1.drop 24).drop 24).drop 24).drop 24).drop 24).drop 24).drop 24).drop 24).drop 24).take 24).all (fun c => isCode c || c.before args0 about1) = true := by decide +kernel
set_option maxRecDepth 65536 in
theorem w_t11 : (((((((((((words1.drop 24).drop 24).drop 24).drop 24).drop 24).drop 24).drop 24).drop 24).drop 24).drop 24).take 24).all (fun c => isCode c || c.before args0 about1) = true := by decide +kernel
set_option maxRecDepth 65536 in
theorem w_t12 : (((((((((((words1.drop 24).drop 24).drop 24).drop 24).drop 24).drop 24).drop 24).drop 24).drop 24).drop 24).drop 24).all (fun c => isCode c || c.before args0 about1) = true := by decide +kernel
theorem w_tables : (allAtoms (Jvm.Cond.code x code maxLocals ret :: tables_1)).before args0 about1 = true := by
  rw [allAtoms_all]
  show words1.all (fun c => c.before args0 about1) = true
  refine all_split ?_ w_codes
  rw [← List.take_append_drop 24 words1, List.all_append, w_t1, ← List.take_append_drop 24 (words1.drop 24), List.all_append, w_t2, ← List.take_append_drop 24 ((words1.drop 24).drop 24), List.all_append, w_t3, ← List.take_append_drop 24 (((words1.drop 24).drop 24).drop 24), List.all_append, w_t4, ← List.take_append_drop 24 ((((words1.drop 24).drop 24).drop 24).drop 24), List.all_append, w_t5, ← List.take_append_drop 24 (((((words1.drop 24).drop 24).drop 24).drop 24).drop 24), List.all_append, w_t6, ← List.take_append_drop 24 ((((((words1.drop 24).drop 24).drop 24).drop 24).drop 24).drop 24), List.all_append, w_t7, ← List.take_append_drop 24 (((((((words1.drop 24).drop 24).drop 24).drop 24).drop 24).drop 24).drop 24), List.all_append, w_t8, ← List.take_append_drop 24 ((((((((words1.drop 24).drop 24).drop 24).drop 24).drop 24).drop 24).drop 24).drop 24), List.all_append, w_t9, ← List.take_append_drop 24 (((((((((words1.drop 24).drop 24).drop 24).drop 24).drop 24).drop 24).drop 24).drop 24).drop 24), List.all_append, w_t10, ← List.take_append_drop 24 ((((((((((words1.drop 24).drop 24).drop 24).drop 24).drop 24).drop 24).drop 24).drop 24).drop 24).drop 24), List.all_append, w_t11, w_t12]
  rfl
set_option maxRecDepth 65536 in
theorem w_rest : rest_1_c.before args0 about1 = true := by decide +kernel
set_option maxRecDepth 65536 in
theorem w_case : (Jvm.Cond.and given_1 narrow_1).before args0 about1 = true := by decide +kernel
set_option maxRecDepth 65536 in
theorem w_consts : constsHeld consts_1 about1 := Jvm.Lit.constsHeldB_iff.mp (by decide +kernel)
theorem w_applies : (headSpec (Jvm.Cond.code x code maxLocals ret :: tables_1) room_1).applies x e0.platform about1 = true :=
  (Spec.applies_iff w_frames).mpr ⟨w_running, w_runnable, w_alone, w_named, w_hears, w_ripe, w_room, w_tables⟩
theorem atStart : AtStart classFile x code maxLocals ret World_1 tables_1 room_1 Calls_1 rest_1 Pre_1 launch0 p0 e0 about1 theMethod args0 below0 :=
  ⟨lists_1, trivial, launch0.admits_env _ _ _, launch0.least_env, fairChoices_fair.cas, fairChoices_fair.clock, w_frames, w_args, w_heap, w_applies, ⟨w_consts, trivial⟩, w_rest, w_case⟩
end start1
theorem witness_1 : WitnessClaimed_1 := ⟨start1.p0, start1.e0, start1.about1, start1.theMethod, start1.args0, start1.below0, start1.atStart⟩
end Jvm.Pilot.@@N@@
