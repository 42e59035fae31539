import JvmDerived
import JvmDerived.Pilot.@@N@@Statement
import JvmDerived.Pilot.@@N@@Code
set_option linter.unusedVariables false
set_option linter.unusedSimpArgs false
namespace Jvm.RoadKit
open Sem ClassFile Op Lib Jvm.Stand Jvm.Free Jvm.LawKit
section New
variable {p : Program} {l : Launch} {e : Env} {R : Room} {s : State} {m : MethodId} {args : Array Value} {below : List Frame} {meth : Method} {c : Code} {T : State} {locs : List Loc} {cells slots : Nat}
theorem retI (X : Stand p l e R s m args below meth c T locs cells slots) (hx : p.tables.exec = Jvm.exec) {pc : Nat} {Ls : Array Slot} {z : Int32} {rest : List Value} (hret : meth.sig.returnType = some .int) (hd : decode c.code pc = .ok (.ireturn, 1)) {fs : List Frame}
    (hl : ∀ (f : JFrame) (acts : List Action), f.method = m → f.locked = none → f.entered = [] → (doReturn e (T.setTop f) acts (some (.int z))).1 = T.setFrames fs) : Steps p.tables e below (T.setTop (mkF m pc Ls (.int z :: rest))) (T.setFrames fs) := by
  have hm' : T.vm.method? m = some meth := X.method'
  have hn : narrow .int (.int z) = .int z := rfl
  show Steps p.tables e below (T.setTop { method := m, pc := pc, locals := Ls, stack := _ :: rest, locked := none }) _
  jvm_step X.here [X.here.top, hx, hd, hm', hret, hn]
  first | (intro acts; rw [hl _ acts rfl rfl rfl]) | rw [hl _ _ rfl rfl rfl]
  exact Steps.refl _
end New
end Jvm.RoadKit
namespace Jvm.Pilot.@@N@@
open Jvm Jvm.ClassFile Sem Op Lib Jvm.Free Jvm.Stand Jvm.LawKit Jvm.RoadKit Bundle Jvm.Pilot.@@N@@.Jvm.D
theorem d5_0 : decode jdk_71_method_1_code 0 = .ok (.aload_n 0, 1) := by decide +kernel
theorem d5_1 : decode jdk_71_method_1_code 1 = .ok (.invokespecial 1, 3) := by decide +kernel
theorem d5_4 : decode jdk_71_method_1_code 4 = .ok (.return_, 1) := by decide +kernel
theorem pn_5 : plainName "java/util/AbstractMap" = true := by first | (simp [plainName, overriddenIn]; done) | decide +kernel
theorem ef_5 (m : MethodId) (x0 : Addr) : entryFrame m #[(.ref x0)] 1 = mkF m 0 #[.val (.ref x0)] [] := by first | (simp [entryFrame, mkF, argsToLocals, Value.category]; done) | rfl
def Q5 (Z : State) (a1 : Addr) (h0 : Heap) (n0 : Nat) (v : Option Value) (h : Heap) (L : List Loc) : Prop := v = none ∧ Fr n0 L ∧ h = h0
set_option maxRecDepth 65536 in
set_option maxHeartbeats 40000000 in
theorem rm5 (l : Launch) (Z : State) (a0 : Array Value) (hw : ∀ d ∈ tables_1, d.before a0 Z = true) (ws : List Jvm.Cond) (a1 : Addr) (h0 : Heap) (n0 : Nat) (Z0 : n0 ≤ h0.size) :
    MetFree l (⟨"java/util/AbstractMap", "<init>", "()V"⟩ : MethodName) (head1 (Jvm.Cond.code (⟨"java/util/AbstractMap", "<init>", "()V"⟩ : MethodName) jdk_71_method_1_code 1 none :: ws) ({ frames := 1, cells := 0, slots := 0, locals := 12 } : Room)) (fun a U => a = #[(.ref a1)] ∧ Z.Warmed39 U.vm ∧ U.heap = h0) (fun _ _ _ _ _ => True) (fun _ U o U' => ∃ v L, o = .returned v ∧ Q5 Z a1 h0 n0 v U'.heap L ∧ FrameEnd U o U' L ({ frames := 1, cells := 0, slots := 0, locals := 12 } : Room).cells ({ frames := 1, cells := 0, slots := 0, locals := 12 } : Room).slots) := by
  refine MetFree.of_bodySF (plainFor_of_name pn_5) hisR ?_
  intro p e s m args below meth c s₁ Bd hml0 hP hK
  obtain ⟨rfl, hZ, hh⟩ := hP
  have hx := Bd.exec
  have hby := Bd.bytes
  have hml : c.maxLocals = 1 := hml0
  have hown : s.vm.findClass "java/util/AbstractMap" = some m.cls := findClass_of_methodNamed Bd.named
  have hnm := (name_of_methodNamed Bd.named Bd.method).1
  have X0 : Stand p l e ({ frames := 1, cells := 0, slots := 0, locals := 12 } : Room) s m #[(.ref a1)] below meth c s₁ [] 0 0 := Stand.of_body Bd
  have e0 : s₁.heap = h0 := by rw [← hh, Bd.state]; rfl
  have N0 := Fr.nil n0
  have pre0 : ∀ t, Steps p.tables e below (s₁.setTop (mkF m 0 #[.val (.ref a1)] [])) t → Steps p.tables e below (s₁.setTop (entryFrame m #[(.ref a1)] 1)) t := fun t k => castTop (ef_5 m a1) k
  -- 3. LAWS
  obtain ⟨T2, X2, e2, st2⟩ := initO X0 hx hZ hown (hw _ (List.mem_of_getElem? (i := 27) rfl)) (hw _ (List.mem_of_getElem? (i := 13) rfl)) (hw _ (List.mem_of_getElem? (i := 14) rfl)) e0 (g := (mkF m 1 #[.val (.ref a1)] [(.ref a1)])) rfl (by rw [hml]; rfl) rfl (hb hby d5_1) (by decide) (W := 0) (by show 2 * 0 + _ ≤ _; exact Nat.le_of_eq rfl) (by decide)
  obtain ⟨fs, hr, hrun, hended, hW, hsame⟩ := X2.leave (v := none) (fun _ => rfl)
  refine ⟨_, _, pre0 _ ?_, hrun, hended, _, _, rfl, ?_, ⟨_, rfl⟩, hW, hsame.mono (by decide) (by decide)⟩
  -- 4. STEPS
  · show Steps p.tables e below (s₁.setTop (mkF m 0 #[.val (.ref a1)] [])) _
    refine XS.aloadN X0.here hx rfl (hb hby d5_0) rfl rfl ?_
    show Steps p.tables e below (s₁.setTop (mkF m 1 #[.val (.ref a1)] [(.ref a1)])) _
    refine st2 _ ?_
    show Steps p.tables e below (T2.setTop (mkF m 4 #[.val (.ref a1)] [])) _
    exact X2.returnOut hx Bd.returns (hb hby d5_4) hr
  · show Q5 Z a1 h0 n0 _ T2.heap _
    rw [e2]
    exact ⟨rfl, N0, rfl⟩
theorem d4_0 : decode jdk_2776_method_8_code 0 = .ok (.aload_n 0, 1) := by decide +kernel
theorem d4_1 : decode jdk_2776_method_8_code 1 = .ok (.invokespecial 67, 3) := by decide +kernel
theorem d4_4 : decode jdk_2776_method_8_code 4 = .ok (.return_, 1) := by decide +kernel
theorem pn_4 : plainName "java/util/concurrent/ConcurrentHashMap" = true := by first | (simp [plainName, overriddenIn]; done) | decide +kernel
theorem pd_4_1 : parseMethodDescriptor "()V" = some ⟨[], none⟩ := by decide +kernel
theorem ef_4 (m : MethodId) (x0 : Addr) : entryFrame m #[(.ref x0)] 1 = mkF m 0 #[.val (.ref x0)] [] := by first | (simp [entryFrame, mkF, argsToLocals, Value.category]; done) | rfl
def Q4 (Z : State) (a1 : Addr) (h0 : Heap) (n0 : Nat) (v : Option Value) (h : Heap) (L : List Loc) : Prop := v = none ∧ Fr n0 L ∧ h = h0
set_option maxRecDepth 65536 in
set_option maxHeartbeats 40000000 in
theorem rm4 (l : Launch) (Z : State) (a0 : Array Value) (hw : ∀ d ∈ tables_1, d.before a0 Z = true) (ws : List Jvm.Cond) (a1 : Addr) (h0 : Heap) (n0 : Nat) (Z0 : n0 ≤ h0.size) :
    MetFree l (⟨"java/util/concurrent/ConcurrentHashMap", "<init>", "()V"⟩ : MethodName) (head1 (Jvm.Cond.code (⟨"java/util/concurrent/ConcurrentHashMap", "<init>", "()V"⟩ : MethodName) jdk_2776_method_8_code 1 none :: ws) ({ frames := 2, cells := 0, slots := 0, locals := 24 } : Room)) (fun a U => a = #[(.ref a1)] ∧ Z.Warmed39 U.vm ∧ U.heap = h0) (fun _ _ _ _ _ => True) (fun _ U o U' => ∃ v L, o = .returned v ∧ Q4 Z a1 h0 n0 v U'.heap L ∧ FrameEnd U o U' L ({ frames := 2, cells := 0, slots := 0, locals := 24 } : Room).cells ({ frames := 2, cells := 0, slots := 0, locals := 24 } : Room).slots) := by
  refine MetFree.of_bodySF (plainFor_of_name pn_4) hisR ?_
  intro p e s m args below meth c s₁ Bd hml0 hP hK
  obtain ⟨rfl, hZ, hh⟩ := hP
  have hx := Bd.exec
  have hby := Bd.bytes
  have hml : c.maxLocals = 1 := hml0
  have hown : s.vm.findClass "java/util/concurrent/ConcurrentHashMap" = some m.cls := findClass_of_methodNamed Bd.named
  have hnm := (name_of_methodNamed Bd.named Bd.method).1
  have X0 : Stand p l e ({ frames := 2, cells := 0, slots := 0, locals := 24 } : Room) s m #[(.ref a1)] below meth c s₁ [] 0 0 := Stand.of_body Bd
  have e0 : s₁.heap = h0 := by rw [← hh, Bd.state]; rfl
  have N0 := Fr.nil n0
  have pre0 : ∀ t, Steps p.tables e below (s₁.setTop (mkF m 0 #[.val (.ref a1)] [])) t → Steps p.tables e below (s₁.setTop (entryFrame m #[(.ref a1)] 1)) t := fun t k => castTop (ef_4 m a1) k
  -- 3. LAWS
  -- pc 1: the constructor of java/util/AbstractMap by its contract rm5
  obtain ⟨_, _, ⟨T2, L2, k2, n2⟩, -, X2, ⟨Lc2, hQ2, l2, y2, z2⟩, st2⟩ := X0.specialBack hx (y := (⟨"java/util/AbstractMap", "<init>", "()V"⟩ : MethodName)) rfl hown (mvT hZ (hw _ (List.mem_of_getElem? (i := 21) rfl))) (mvT hZ (hw _ (List.mem_of_getElem? (i := 22) rfl))) (mvT hZ (hw _ (List.mem_of_getElem? (i := 26) rfl))) (by decide) (backOf (W := 0) (rm5 l Z a0 hw [] a1 h0 n0 Z0) hZ (hw _ (List.mem_of_getElem? (i := 26) rfl)) (hw _ (List.mem_of_getElem? (i := 25) rfl)) (by decide) (by decide)) (g := (mkF m 1 #[.val (.ref a1)] [(.ref a1)])) rfl (by rw [hml]; rfl) (Steps.refl _) (a := a1) (argsL := []) (rest := []) (lenOf pd_4_1 rfl) rfl (by show 2 * 0 + _ ≤ _; exact Nat.le_of_eq rfl) (hb hby d4_1) (fun _ _ => ⟨rfl, e0, (by decide : 0 + 0 ≤ _), (by decide : 0 + 0 ≤ _)⟩)
  dsimp only [Pt.U, Pt.locs, Pt.cells, Pt.slots] at X2 l2 y2 z2 st2 hQ2
  subst l2 y2 z2
  obtain ⟨rfl, N2q, hh2⟩ := hQ2
  have N2 := Fr.app N0 N2q
  obtain ⟨fs, hr, hrun, hended, hW, hsame⟩ := X2.leave (v := none) (fun _ => rfl)
  refine ⟨_, _, pre0 _ ?_, hrun, hended, _, _, rfl, ?_, ⟨_, rfl⟩, hW, hsame.mono (by decide) (by decide)⟩
  -- 4. STEPS
  · show Steps p.tables e below (s₁.setTop (mkF m 0 #[.val (.ref a1)] [])) _
    refine XS.aloadN X0.here hx rfl (hb hby d4_0) rfl rfl ?_
    show Steps p.tables e below (s₁.setTop (mkF m 1 #[.val (.ref a1)] [(.ref a1)])) _
    refine st2.trans ?_
    show Steps p.tables e below (T2.setTop (mkF m 4 #[.val (.ref a1)] [])) _
    exact X2.returnOut hx Bd.returns (hb hby d4_4) hr
  · show Q4 Z a1 h0 n0 _ T2.heap _
    exact ⟨rfl, N2, hh2⟩
theorem d2_0 : decode prog_13_method_1_code 0 = .ok (.aload_n 0, 1) := by decide +kernel
theorem d2_1 : decode prog_13_method_1_code 1 = .ok (.invokespecial 1, 3) := by decide +kernel
theorem d2_4 : decode prog_13_method_1_code 4 = .ok (.aload_n 0, 1) := by decide +kernel
theorem d2_5 : decode prog_13_method_1_code 5 = .ok (.new 7, 3) := by decide +kernel
theorem d2_8 : decode prog_13_method_1_code 8 = .ok (.dup, 1) := by decide +kernel
theorem d2_9 : decode prog_13_method_1_code 9 = .ok (.invokespecial 9, 3) := by decide +kernel
theorem d2_12 : decode prog_13_method_1_code 12 = .ok (.putfield 10, 3) := by decide +kernel
theorem d2_15 : decode prog_13_method_1_code 15 = .ok (.return_, 1) := by decide +kernel
theorem pn_2 : plainName "com/example/latchkey/latchkey/security/MemorySalts" = true := by first | (simp [plainName, overriddenIn]; done) | decide +kernel
theorem pd_2_1 : parseMethodDescriptor "()V" = some ⟨[], none⟩ := by decide +kernel
theorem ef_2 (m : MethodId) (x0 : Addr) : entryFrame m #[(.ref x0)] 1 = mkF m 0 #[.val (.ref x0)] [] := by first | (simp [entryFrame, mkF, argsToLocals, Value.category]; done) | rfl
def Q2 (Z : State) (a1 : Addr) (u_salts_a1 : Value) (h0 : Heap) (n0 : Nat) (v : Option Value) (h : Heap) (L : List Loc) : Prop := v = none ∧ Fr n0 L ∧ Keep h0 h [a1] ∧ Exa Z h a1 "com/example/latchkey/latchkey/security/MemorySalts"
set_option maxRecDepth 65536 in
set_option maxHeartbeats 40000000 in
theorem rm2 (l : Launch) (Z : State) (a0 : Array Value) (hw : ∀ d ∈ tables_1, d.before a0 Z = true) (ws : List Jvm.Cond) (a1 : Addr) (u_salts_a1 : Value) (h0 : Heap) (n0 : Nat) (Z0 : n0 ≤ h0.size) (E_a1 : Exa Z h0 a1 "com/example/latchkey/latchkey/security/MemorySalts") (F_salts_a1 : Fld Z h0 a1 "com/example/latchkey/latchkey/security/MemorySalts" "salts" "Ljava/util/concurrent/ConcurrentMap;" u_salts_a1) (g_a1 : n0 ≤ a1) :
    MetFree l (⟨"com/example/latchkey/latchkey/security/MemorySalts", "<init>", "()V"⟩ : MethodName) (head1 (Jvm.Cond.code (⟨"com/example/latchkey/latchkey/security/MemorySalts", "<init>", "()V"⟩ : MethodName) prog_13_method_1_code 1 none :: ws) ({ frames := 3, cells := 1, slots := 12, locals := 38 } : Room)) (fun a U => a = #[(.ref a1)] ∧ Z.Warmed39 U.vm ∧ U.heap = h0) (fun _ _ _ _ _ => True) (fun _ U o U' => ∃ v L, o = .returned v ∧ Q2 Z a1 u_salts_a1 h0 n0 v U'.heap L ∧ FrameEnd U o U' L ({ frames := 3, cells := 1, slots := 12, locals := 38 } : Room).cells ({ frames := 3, cells := 1, slots := 12, locals := 38 } : Room).slots) := by
  refine MetFree.of_bodySF (plainFor_of_name pn_2) hisR ?_
  intro p e s m args below meth c s₁ Bd hml0 hP hK
  obtain ⟨rfl, hZ, hh⟩ := hP
  have hx := Bd.exec
  have hby := Bd.bytes
  have hml : c.maxLocals = 1 := hml0
  have hown : s.vm.findClass "com/example/latchkey/latchkey/security/MemorySalts" = some m.cls := findClass_of_methodNamed Bd.named
  have hnm := (name_of_methodNamed Bd.named Bd.method).1
  have X0 : Stand p l e ({ frames := 3, cells := 1, slots := 12, locals := 38 } : Room) s m #[(.ref a1)] below meth c s₁ [] 0 0 := Stand.of_body Bd
  have e0 : s₁.heap = h0 := by rw [← hh, Bd.state]; rfl
  have N0 := Fr.nil n0
  have pre0 : ∀ t, Steps p.tables e below (s₁.setTop (mkF m 0 #[.val (.ref a1)] [])) t → Steps p.tables e below (s₁.setTop (entryFrame m #[(.ref a1)] 1)) t := fun t k => castTop (ef_2 m a1) k
  -- 3. LAWS
  obtain ⟨T2, X2, e2, st2⟩ := initO X0 hx hZ hown (hw _ (List.mem_of_getElem? (i := 12) rfl)) (hw _ (List.mem_of_getElem? (i := 13) rfl)) (hw _ (List.mem_of_getElem? (i := 14) rfl)) e0 (g := (mkF m 1 #[.val (.ref a1)] [(.ref a1)])) rfl (by rw [hml]; rfl) rfl (hb hby d2_1) (by decide) (W := 0) (by show 2 * 0 + _ ≤ _; exact Nat.le_of_eq rfl) (by decide)
  obtain ⟨T3, h3, X3, e3, E3, A3, D3, -, st3⟩ := newO X2 hx hZ hown (hw _ (List.mem_of_getElem? (i := 15) rfl)) (hw _ (List.mem_of_getElem? (i := 16) rfl)) (hw _ (List.mem_of_getElem? (i := 17) rfl)) e2 (g := (mkF m 5 #[.val (.ref a1)] [(.ref a1)])) rfl (hb hby d2_5) (by decide) (by decide)
  obtain ⟨b3, g3⟩ : ∃ z, z = h0.size := ⟨_, rfl⟩      -- the fresh object's address
  rw [← g3] at A3 D3 st3      -- A3 : Exa Z h3 b3 "java/util/concurrent/ConcurrentHashMap"; E3 : Ext h0 h3 (carries every older fact: .ext E3)
  have E_b3 := A3
  have g_b3 : n0 ≤ b3 := Nat.le_trans Z0 (Nat.le_of_eq g3.symm)
  have sz_b3 : h0.size ≤ b3 := (Nat.le_trans (Keep.refl h0 [a1]).1 (Nat.le_of_eq g3.symm))
  have K3 : Keep h0 h3 [a1] := (Keep.refl h0 [a1]).ext E3
  -- pc 9: the constructor of java/util/concurrent/ConcurrentHashMap by its contract rm4
  obtain ⟨_, _, ⟨T4, L4, k4, n4⟩, -, X4, ⟨Lc4, hQ4, l4, y4, z4⟩, st4⟩ := X3.specialBack hx (y := (⟨"java/util/concurrent/ConcurrentHashMap", "<init>", "()V"⟩ : MethodName)) rfl hown (mvT hZ (hw _ (List.mem_of_getElem? (i := 18) rfl))) (mvT hZ (hw _ (List.mem_of_getElem? (i := 19) rfl))) (mvT hZ (hw _ (List.mem_of_getElem? (i := 20) rfl))) (by decide) (backOf (W := 2) (rm4 l Z a0 hw [] b3 h3 n0 (Nat.le_trans Z0 K3.1)) hZ (hw _ (List.mem_of_getElem? (i := 20) rfl)) (hw _ (List.mem_of_getElem? (i := 17) rfl)) (by decide) (by decide)) (g := (mkF m 9 #[.val (.ref a1)] [(.ref b3), (.ref b3), (.ref a1)])) rfl (by rw [hml]; rfl) (Steps.refl _) (a := b3) (argsL := []) (rest := [(.ref b3), (.ref a1)]) (lenOf pd_2_1 rfl) rfl (by show 2 * 0 + _ ≤ _; exact Nat.le_of_eq rfl) (hb hby d2_9) (fun _ _ => ⟨rfl, e3, (by decide : 1 + 0 ≤ _), (by decide : 12 + 0 ≤ _)⟩)
  dsimp only [Pt.U, Pt.locs, Pt.cells, Pt.slots] at X4 l4 y4 z4 st4 hQ4
  subst l4 y4 z4
  obtain ⟨rfl, N4q, hh4⟩ := hQ4
  have K4c : Keep h3 T4.heap [] := by rw [hh4]; exact Keep.refl _ _
  have K4h : Keep h0 T4.heap [a1] := by rw [hh4]; exact K3
  have N4 := Fr.app N0 N4q
  obtain ⟨T5, h5, X5, e5, W5, st5⟩ := putF X4 hx hZ hown (host := "") (Or.inl (hw _ (List.mem_of_getElem? (i := 28) rfl))) Via.refl rfl ((F_salts_a1.ext E3).keep K4c nin0) ((E_a1.ext E3).keep K4c) (Or.inr ⟨(hw _ (List.mem_of_getElem? (i := 29) rfl)), rfl, hnm⟩) (hw _ (List.mem_of_getElem? (i := 7) rfl)) (ty := (.object "java/util/concurrent/ConcurrentMap")) (by decide) rfl rfl (g := (mkF m 12 #[.val (.ref a1)] [(.ref b3), (.ref a1)])) rfl rfl (hb hby d2_12)
  have Fw5 := ((F_salts_a1.ext E3).keep K4c nin0).same W5      -- the field now holds (.ref b3)
  have K5 : Keep h0 h5 [a1] := K4h.wr W5 (Or.inl (List.mem_of_getElem? (i := 0) rfl))
  have N5 := Fr.snoc X5 N4 g_a1
  obtain ⟨fs, hr, hrun, hended, hW, hsame⟩ := X5.leave (v := none) (fun _ => rfl)
  refine ⟨_, _, pre0 _ ?_, hrun, hended, _, _, rfl, ?_, ⟨_, rfl⟩, hW, hsame.mono (by decide) (by decide)⟩
  -- 4. STEPS
  · show Steps p.tables e below (s₁.setTop (mkF m 0 #[.val (.ref a1)] [])) _
    refine XS.aloadN X0.here hx rfl (hb hby d2_0) rfl rfl ?_
    show Steps p.tables e below (s₁.setTop (mkF m 1 #[.val (.ref a1)] [(.ref a1)])) _
    refine st2 _ ?_
    show Steps p.tables e below (T2.setTop (mkF m 4 #[.val (.ref a1)] [])) _
    refine XS.aloadN X2.here hx rfl (hb hby d2_4) rfl rfl ?_
    show Steps p.tables e below (T2.setTop (mkF m 5 #[.val (.ref a1)] [(.ref a1)])) _
    refine st3 _ ?_
    show Steps p.tables e below (T3.setTop (mkF m 8 #[.val (.ref a1)] [(.ref b3), (.ref a1)])) _
    refine XS.dup X3.here hx rfl (hb hby d2_8) rfl rfl ?_
    show Steps p.tables e below (T3.setTop (mkF m 9 #[.val (.ref a1)] [(.ref b3), (.ref b3), (.ref a1)])) _
    refine st4.trans ?_
    show Steps p.tables e below (T4.setTop (mkF m 12 #[.val (.ref a1)] [(.ref b3), (.ref a1)])) _
    refine st5 _ ?_
    show Steps p.tables e below (T5.setTop (mkF m 15 #[.val (.ref a1)] [])) _
    exact X5.returnOut hx Bd.returns (hb hby d2_15) hr
  · show Q2 Z a1 u_salts_a1 h0 n0 _ T5.heap _
    rw [e5]
    exact ⟨rfl, N5, K5, ((E_a1.ext E3).keep K4c).wr W5⟩
theorem d6_0 : decode prog_14_method_1_code 0 = .ok (.aload_n 0, 1) := by decide +kernel
theorem d6_1 : decode prog_14_method_1_code 1 = .ok (.invokespecial 1, 3) := by decide +kernel
theorem d6_4 : decode prog_14_method_1_code 4 = .ok (.aload_n 0, 1) := by decide +kernel
theorem d6_5 : decode prog_14_method_1_code 5 = .ok (.aload_n 1, 1) := by decide +kernel
theorem d6_6 : decode prog_14_method_1_code 6 = .ok (.putfield 7, 3) := by decide +kernel
theorem d6_9 : decode prog_14_method_1_code 9 = .ok (.aload_n 0, 1) := by decide +kernel
theorem d6_10 : decode prog_14_method_1_code 10 = .ok (.aload_n 2, 1) := by decide +kernel
theorem d6_11 : decode prog_14_method_1_code 11 = .ok (.putfield 13, 3) := by decide +kernel
theorem d6_14 : decode prog_14_method_1_code 14 = .ok (.return_, 1) := by decide +kernel
theorem pn_6 : plainName "com/example/latchkey/latchkey/security/SaltStores" = true := by first | (simp [plainName, overriddenIn]; done) | decide +kernel
theorem ef_6 (m : MethodId) (x0 : Addr) (x1 : Addr) (x2 : Addr) : entryFrame m #[(.ref x0), (.ref x1), (.ref x2)] 3 = mkF m 0 #[.val (.ref x0), .val (.ref x1), .val (.ref x2)] [] := by first | (simp [entryFrame, mkF, argsToLocals, Value.category]; done) | rfl
def Q6 (Z : State) (a1 : Addr) (a2 : Addr) (a3 : Addr) (u_login_a1 : Value) (u_machine_a1 : Value) (h0 : Heap) (n0 : Nat) (v : Option Value) (h : Heap) (L : List Loc) : Prop := v = none ∧ Fr n0 L ∧ Keep h0 h [a1] ∧ Exa Z h a1 "com/example/latchkey/latchkey/security/SaltStores" ∧ Fld Z h a1 "com/example/latchkey/latchkey/security/SaltStores" "login" "Lcom/example/latchkey/latchkey/security/Salts;" (.ref a2) ∧ Fld Z h a1 "com/example/latchkey/latchkey/security/SaltStores" "machine" "Lcom/example/latchkey/latchkey/security/Salts;" (.ref a3)
set_option maxRecDepth 65536 in
set_option maxHeartbeats 40000000 in
theorem rm6 (l : Launch) (Z : State) (a0 : Array Value) (hw : ∀ d ∈ tables_1, d.before a0 Z = true) (ws : List Jvm.Cond) (a1 : Addr) (a2 : Addr) (a3 : Addr) (u_login_a1 : Value) (u_machine_a1 : Value) (h0 : Heap) (n0 : Nat) (Z0 : n0 ≤ h0.size) (E_a1 : Exa Z h0 a1 "com/example/latchkey/latchkey/security/SaltStores") (F_login_a1 : Fld Z h0 a1 "com/example/latchkey/latchkey/security/SaltStores" "login" "Lcom/example/latchkey/latchkey/security/Salts;" u_login_a1) (g_a1 : n0 ≤ a1) (F_machine_a1 : Fld Z h0 a1 "com/example/latchkey/latchkey/security/SaltStores" "machine" "Lcom/example/latchkey/latchkey/security/Salts;" u_machine_a1) :
    MetFree l (⟨"com/example/latchkey/latchkey/security/SaltStores", "<init>", "(Lcom/example/latchkey/latchkey/security/Salts;Lcom/example/latchkey/latchkey/security/Salts;)V"⟩ : MethodName) (head1 (Jvm.Cond.code (⟨"com/example/latchkey/latchkey/security/SaltStores", "<init>", "(Lcom/example/latchkey/latchkey/security/Salts;Lcom/example/latchkey/latchkey/security/Salts;)V"⟩ : MethodName) prog_14_method_1_code 3 none :: ws) ({ frames := 1, cells := 0, slots := 0, locals := 12 } : Room)) (fun a U => a = #[(.ref a1), (.ref a2), (.ref a3)] ∧ Z.Warmed39 U.vm ∧ U.heap = h0) (fun _ _ _ _ _ => True) (fun _ U o U' => ∃ v L, o = .returned v ∧ Q6 Z a1 a2 a3 u_login_a1 u_machine_a1 h0 n0 v U'.heap L ∧ FrameEnd U o U' L ({ frames := 1, cells := 0, slots := 0, locals := 12 } : Room).cells ({ frames := 1, cells := 0, slots := 0, locals := 12 } : Room).slots) := by
  refine MetFree.of_bodySF (plainFor_of_name pn_6) hisR ?_
  intro p e s m args below meth c s₁ Bd hml0 hP hK
  obtain ⟨rfl, hZ, hh⟩ := hP
  have hx := Bd.exec
  have hby := Bd.bytes
  have hml : c.maxLocals = 3 := hml0
  have hown : s.vm.findClass "com/example/latchkey/latchkey/security/SaltStores" = some m.cls := findClass_of_methodNamed Bd.named
  have hnm := (name_of_methodNamed Bd.named Bd.method).1
  have X0 : Stand p l e ({ frames := 1, cells := 0, slots := 0, locals := 12 } : Room) s m #[(.ref a1), (.ref a2), (.ref a3)] below meth c s₁ [] 0 0 := Stand.of_body Bd
  have e0 : s₁.heap = h0 := by rw [← hh, Bd.state]; rfl
  have N0 := Fr.nil n0
  have pre0 : ∀ t, Steps p.tables e below (s₁.setTop (mkF m 0 #[.val (.ref a1), .val (.ref a2), .val (.ref a3)] [])) t → Steps p.tables e below (s₁.setTop (entryFrame m #[(.ref a1), (.ref a2), (.ref a3)] 3)) t := fun t k => castTop (ef_6 m a1 a2 a3) k
  -- 3. LAWS
  obtain ⟨T4, X4, e4, st4⟩ := initO X0 hx hZ hown (hw _ (List.mem_of_getElem? (i := 33) rfl)) (hw _ (List.mem_of_getElem? (i := 13) rfl)) (hw _ (List.mem_of_getElem? (i := 14) rfl)) e0 (g := (mkF m 1 #[.val (.ref a1), .val (.ref a2), .val (.ref a3)] [(.ref a1)])) rfl (by rw [hml]; rfl) rfl (hb hby d6_1) (by decide) (W := 0) (by show 2 * 0 + _ ≤ _; exact Nat.le_of_eq rfl) (by decide)
  obtain ⟨T5, h5, X5, e5, W5, st5⟩ := putF X4 hx hZ hown (host := "") (Or.inl (hw _ (List.mem_of_getElem? (i := 34) rfl))) Via.refl e4 F_login_a1 E_a1 (Or.inr ⟨(hw _ (List.mem_of_getElem? (i := 35) rfl)), rfl, hnm⟩) (hw _ (List.mem_of_getElem? (i := 5) rfl)) (ty := (.object "com/example/latchkey/latchkey/security/Salts")) (by decide) rfl rfl (g := (mkF m 6 #[.val (.ref a1), .val (.ref a2), .val (.ref a3)] [(.ref a2), (.ref a1)])) rfl rfl (hb hby d6_6)
  have Fw5 := F_login_a1.same W5      -- the field now holds (.ref a2)
  have K5 : Keep h0 h5 [a1] := (Keep.refl h0 [a1]).wr W5 (Or.inl (List.mem_of_getElem? (i := 0) rfl))
  have N5 := Fr.snoc X5 N0 g_a1
  obtain ⟨T6, h6, X6, e6, W6, st6⟩ := putF X5 hx hZ hown (host := "") (Or.inl (hw _ (List.mem_of_getElem? (i := 36) rfl))) Via.refl e5 (F_machine_a1.other W5 (Or.inr (slot_ne (Or.inr (hw _ (List.mem_of_getElem? (i := 37) rfl))) (Or.inr (hw _ (List.mem_of_getElem? (i := 35) rfl))) (by decide) (t := (.object "com/example/latchkey/latchkey/security/Salts")) (t' := (.object "com/example/latchkey/latchkey/security/Salts")) (by decide) (by decide)))) (E_a1.wr W5) (Or.inr ⟨(hw _ (List.mem_of_getElem? (i := 37) rfl)), rfl, hnm⟩) (hw _ (List.mem_of_getElem? (i := 5) rfl)) (ty := (.object "com/example/latchkey/latchkey/security/Salts")) (by decide) rfl rfl (g := (mkF m 11 #[.val (.ref a1), .val (.ref a2), .val (.ref a3)] [(.ref a3), (.ref a1)])) rfl rfl (hb hby d6_11)
  have Fw6 := (F_machine_a1.other W5 (Or.inr (slot_ne (Or.inr (hw _ (List.mem_of_getElem? (i := 37) rfl))) (Or.inr (hw _ (List.mem_of_getElem? (i := 35) rfl))) (by decide) (t := (.object "com/example/latchkey/latchkey/security/Salts")) (t' := (.object "com/example/latchkey/latchkey/security/Salts")) (by decide) (by decide)))).same W6      -- the field now holds (.ref a3)
  have K6 : Keep h0 h6 [a1] := K5.wr W6 (Or.inl (List.mem_of_getElem? (i := 0) rfl))
  have N6 := Fr.snoc X6 N5 g_a1
  obtain ⟨fs, hr, hrun, hended, hW, hsame⟩ := X6.leave (v := none) (fun _ => rfl)
  refine ⟨_, _, pre0 _ ?_, hrun, hended, _, _, rfl, ?_, ⟨_, rfl⟩, hW, hsame.mono (by decide) (by decide)⟩
  -- 4. STEPS
  · show Steps p.tables e below (s₁.setTop (mkF m 0 #[.val (.ref a1), .val (.ref a2), .val (.ref a3)] [])) _
    refine XS.aloadN X0.here hx rfl (hb hby d6_0) rfl rfl ?_
    show Steps p.tables e below (s₁.setTop (mkF m 1 #[.val (.ref a1), .val (.ref a2), .val (.ref a3)] [(.ref a1)])) _
    refine st4 _ ?_
    show Steps p.tables e below (T4.setTop (mkF m 4 #[.val (.ref a1), .val (.ref a2), .val (.ref a3)] [])) _
    refine XS.aloadN X4.here hx rfl (hb hby d6_4) rfl rfl ?_
    show Steps p.tables e below (T4.setTop (mkF m 5 #[.val (.ref a1), .val (.ref a2), .val (.ref a3)] [(.ref a1)])) _
    refine XS.aloadN X4.here hx rfl (hb hby d6_5) rfl rfl ?_
    show Steps p.tables e below (T4.setTop (mkF m 6 #[.val (.ref a1), .val (.ref a2), .val (.ref a3)] [(.ref a2), (.ref a1)])) _
    refine st5 _ ?_
    show Steps p.tables e below (T5.setTop (mkF m 9 #[.val (.ref a1), .val (.ref a2), .val (.ref a3)] [])) _
    refine XS.aloadN X5.here hx rfl (hb hby d6_9) rfl rfl ?_
    show Steps p.tables e below (T5.setTop (mkF m 10 #[.val (.ref a1), .val (.ref a2), .val (.ref a3)] [(.ref a1)])) _
    refine XS.aloadN X5.here hx rfl (hb hby d6_10) rfl rfl ?_
    show Steps p.tables e below (T5.setTop (mkF m 11 #[.val (.ref a1), .val (.ref a2), .val (.ref a3)] [(.ref a3), (.ref a1)])) _
    refine st6 _ ?_
    show Steps p.tables e below (T6.setTop (mkF m 14 #[.val (.ref a1), .val (.ref a2), .val (.ref a3)] [])) _
    exact X6.returnOut hx Bd.returns (hb hby d6_14) hr
  · show Q6 Z a1 a2 a3 u_login_a1 u_machine_a1 h0 n0 _ T6.heap _
    rw [e6]
    exact ⟨rfl, N6, K6, ((E_a1.wr W5).wr W6), (Fw5.other W6 (Or.inr (slot_ne (Or.inr (hw _ (List.mem_of_getElem? (i := 35) rfl))) (Or.inr (hw _ (List.mem_of_getElem? (i := 37) rfl))) (by decide) (t := (.object "com/example/latchkey/latchkey/security/Salts")) (t' := (.object "com/example/latchkey/latchkey/security/Salts")) (by decide) (by decide)))), Fw6⟩
theorem d7_0 : decode prog_14_method_4_code 0 = .ok (.aload_n 0, 1) := by decide +kernel
theorem d7_1 : decode prog_14_method_4_code 1 = .ok (.getfield 7, 3) := by decide +kernel
theorem d7_4 : decode prog_14_method_4_code 4 = .ok (.areturn, 1) := by decide +kernel
theorem pn_7 : plainName "com/example/latchkey/latchkey/security/SaltStores" = true := by first | (simp [plainName, overriddenIn]; done) | decide +kernel
theorem ef_7 (m : MethodId) (x0 : Addr) : entryFrame m #[(.ref x0)] 1 = mkF m 0 #[.val (.ref x0)] [] := by first | (simp [entryFrame, mkF, argsToLocals, Value.category]; done) | rfl
def Q7 (Z : State) (a1 : Addr) (w2 : Addr) (h0 : Heap) (n0 : Nat) (v : Option Value) (h : Heap) (L : List Loc) : Prop := v = some (.ref w2) ∧ Fr n0 L ∧ h = h0
set_option maxRecDepth 65536 in
set_option maxHeartbeats 40000000 in
theorem rm7 (l : Launch) (Z : State) (a0 : Array Value) (hw : ∀ d ∈ tables_1, d.before a0 Z = true) (ws : List Jvm.Cond) (a1 : Addr) (w2 : Addr) (h0 : Heap) (n0 : Nat) (Z0 : n0 ≤ h0.size) (F_login_a1 : Fld Z h0 a1 "com/example/latchkey/latchkey/security/SaltStores" "login" "Lcom/example/latchkey/latchkey/security/Salts;" (.ref w2)) :
    MetFree l (⟨"com/example/latchkey/latchkey/security/SaltStores", "login", "()Lcom/example/latchkey/latchkey/security/Salts;"⟩ : MethodName) (head1 (Jvm.Cond.code (⟨"com/example/latchkey/latchkey/security/SaltStores", "login", "()Lcom/example/latchkey/latchkey/security/Salts;"⟩ : MethodName) prog_14_method_4_code 1 (some (.object "com/example/latchkey/latchkey/security/Salts")) :: ws) ({ frames := 0, cells := 0, slots := 0, locals := 0 } : Room)) (fun a U => a = #[(.ref a1)] ∧ Z.Warmed39 U.vm ∧ U.heap = h0) (fun _ _ _ _ _ => True) (fun _ U o U' => ∃ v L, o = .returned v ∧ Q7 Z a1 w2 h0 n0 v U'.heap L ∧ FrameEnd U o U' L ({ frames := 0, cells := 0, slots := 0, locals := 0 } : Room).cells ({ frames := 0, cells := 0, slots := 0, locals := 0 } : Room).slots) := by
  refine MetFree.of_bodySF (plainFor_of_name pn_7) hisR ?_
  intro p e s m args below meth c s₁ Bd hml0 hP hK
  obtain ⟨rfl, hZ, hh⟩ := hP
  have hx := Bd.exec
  have hby := Bd.bytes
  have hml : c.maxLocals = 1 := hml0
  have hown : s.vm.findClass "com/example/latchkey/latchkey/security/SaltStores" = some m.cls := findClass_of_methodNamed Bd.named
  have hnm := (name_of_methodNamed Bd.named Bd.method).1
  have X0 : Stand p l e ({ frames := 0, cells := 0, slots := 0, locals := 0 } : Room) s m #[(.ref a1)] below meth c s₁ [] 0 0 := Stand.of_body Bd
  have e0 : s₁.heap = h0 := by rw [← hh, Bd.state]; rfl
  have N0 := Fr.nil n0
  have pre0 : ∀ t, Steps p.tables e below (s₁.setTop (mkF m 0 #[.val (.ref a1)] [])) t → Steps p.tables e below (s₁.setTop (entryFrame m #[(.ref a1)] 1)) t := fun t k => castTop (ef_7 m a1) k
  -- 3. LAWS
  obtain ⟨T3, X3, e3, st3⟩ := getF X0 hx hZ hown (host := "") (Or.inl (hw _ (List.mem_of_getElem? (i := 34) rfl))) Via.refl e0 F_login_a1 (g := (mkF m 1 #[.val (.ref a1)] [(.ref a1)])) rfl rfl (hb hby d7_1)
  obtain ⟨fs, hr, hrun, hended, hW, hsame⟩ := X3.leave (v := some (.ref w2)) (fun h => by rw [Bd.returns] at h; cases h)
  refine ⟨_, _, pre0 _ ?_, hrun, hended, _, _, rfl, ?_, ⟨_, rfl⟩, hW, hsame.mono (by decide) (by decide)⟩
  -- 4. STEPS
  · show Steps p.tables e below (s₁.setTop (mkF m 0 #[.val (.ref a1)] [])) _
    refine XS.aloadN X0.here hx rfl (hb hby d7_0) rfl rfl ?_
    show Steps p.tables e below (s₁.setTop (mkF m 1 #[.val (.ref a1)] [(.ref a1)])) _
    refine st3 _ ?_
    show Steps p.tables e below (T3.setTop (mkF m 4 #[.val (.ref a1)] [(.ref w2)])) _
    jvm_step X3.here [X3.here.top, hx, (hb hby d7_4), X3.method', Bd.returns, Value.isRef, FieldType.isReference]
    first | (intro acts; rw [hr _ acts rfl rfl rfl]) | rw [hr _ _ rfl rfl rfl]
    exact Steps.refl _
  · show Q7 Z a1 w2 h0 n0 _ T3.heap _
    rw [e3]
    exact ⟨rfl, N0, rfl⟩
theorem d8_0 : decode prog_14_method_5_code 0 = .ok (.aload_n 0, 1) := by decide +kernel
theorem d8_1 : decode prog_14_method_5_code 1 = .ok (.getfield 13, 3) := by decide +kernel
theorem d8_4 : decode prog_14_method_5_code 4 = .ok (.areturn, 1) := by decide +kernel
theorem pn_8 : plainName "com/example/latchkey/latchkey/security/SaltStores" = true := by first | (simp [plainName, overriddenIn]; done) | decide +kernel
theorem ef_8 (m : MethodId) (x0 : Addr) : entryFrame m #[(.ref x0)] 1 = mkF m 0 #[.val (.ref x0)] [] := by first | (simp [entryFrame, mkF, argsToLocals, Value.category]; done) | rfl
def Q8 (Z : State) (a1 : Addr) (w2 : Addr) (h0 : Heap) (n0 : Nat) (v : Option Value) (h : Heap) (L : List Loc) : Prop := v = some (.ref w2) ∧ Fr n0 L ∧ h = h0
set_option maxRecDepth 65536 in
set_option maxHeartbeats 40000000 in
theorem rm8 (l : Launch) (Z : State) (a0 : Array Value) (hw : ∀ d ∈ tables_1, d.before a0 Z = true) (ws : List Jvm.Cond) (a1 : Addr) (w2 : Addr) (h0 : Heap) (n0 : Nat) (Z0 : n0 ≤ h0.size) (F_machine_a1 : Fld Z h0 a1 "com/example/latchkey/latchkey/security/SaltStores" "machine" "Lcom/example/latchkey/latchkey/security/Salts;" (.ref w2)) :
    MetFree l (⟨"com/example/latchkey/latchkey/security/SaltStores", "machine", "()Lcom/example/latchkey/latchkey/security/Salts;"⟩ : MethodName) (head1 (Jvm.Cond.code (⟨"com/example/latchkey/latchkey/security/SaltStores", "machine", "()Lcom/example/latchkey/latchkey/security/Salts;"⟩ : MethodName) prog_14_method_5_code 1 (some (.object "com/example/latchkey/latchkey/security/Salts")) :: ws) ({ frames := 0, cells := 0, slots := 0, locals := 0 } : Room)) (fun a U => a = #[(.ref a1)] ∧ Z.Warmed39 U.vm ∧ U.heap = h0) (fun _ _ _ _ _ => True) (fun _ U o U' => ∃ v L, o = .returned v ∧ Q8 Z a1 w2 h0 n0 v U'.heap L ∧ FrameEnd U o U' L ({ frames := 0, cells := 0, slots := 0, locals := 0 } : Room).cells ({ frames := 0, cells := 0, slots := 0, locals := 0 } : Room).slots) := by
  refine MetFree.of_bodySF (plainFor_of_name pn_8) hisR ?_
  intro p e s m args below meth c s₁ Bd hml0 hP hK
  obtain ⟨rfl, hZ, hh⟩ := hP
  have hx := Bd.exec
  have hby := Bd.bytes
  have hml : c.maxLocals = 1 := hml0
  have hown : s.vm.findClass "com/example/latchkey/latchkey/security/SaltStores" = some m.cls := findClass_of_methodNamed Bd.named
  have hnm := (name_of_methodNamed Bd.named Bd.method).1
  have X0 : Stand p l e ({ frames := 0, cells := 0, slots := 0, locals := 0 } : Room) s m #[(.ref a1)] below meth c s₁ [] 0 0 := Stand.of_body Bd
  have e0 : s₁.heap = h0 := by rw [← hh, Bd.state]; rfl
  have N0 := Fr.nil n0
  have pre0 : ∀ t, Steps p.tables e below (s₁.setTop (mkF m 0 #[.val (.ref a1)] [])) t → Steps p.tables e below (s₁.setTop (entryFrame m #[(.ref a1)] 1)) t := fun t k => castTop (ef_8 m a1) k
  -- 3. LAWS
  obtain ⟨T3, X3, e3, st3⟩ := getF X0 hx hZ hown (host := "") (Or.inl (hw _ (List.mem_of_getElem? (i := 36) rfl))) Via.refl e0 F_machine_a1 (g := (mkF m 1 #[.val (.ref a1)] [(.ref a1)])) rfl rfl (hb hby d8_1)
  obtain ⟨fs, hr, hrun, hended, hW, hsame⟩ := X3.leave (v := some (.ref w2)) (fun h => by rw [Bd.returns] at h; cases h)
  refine ⟨_, _, pre0 _ ?_, hrun, hended, _, _, rfl, ?_, ⟨_, rfl⟩, hW, hsame.mono (by decide) (by decide)⟩
  -- 4. STEPS
  · show Steps p.tables e below (s₁.setTop (mkF m 0 #[.val (.ref a1)] [])) _
    refine XS.aloadN X0.here hx rfl (hb hby d8_0) rfl rfl ?_
    show Steps p.tables e below (s₁.setTop (mkF m 1 #[.val (.ref a1)] [(.ref a1)])) _
    refine st3 _ ?_
    show Steps p.tables e below (T3.setTop (mkF m 4 #[.val (.ref a1)] [(.ref w2)])) _
    jvm_step X3.here [X3.here.top, hx, (hb hby d8_4), X3.method', Bd.returns, Value.isRef, FieldType.isReference]
    first | (intro acts; rw [hr _ acts rfl rfl rfl]) | rw [hr _ _ rfl rfl rfl]
    exact Steps.refl _
  · show Q8 Z a1 w2 h0 n0 _ T3.heap _
    rw [e3]
    exact ⟨rfl, N0, rfl⟩
theorem d1_0 : decode prog_14_method_2_code 0 = .ok (.new 8, 3) := by decide +kernel
theorem d1_3 : decode prog_14_method_2_code 3 = .ok (.dup, 1) := by decide +kernel
theorem d1_4 : decode prog_14_method_2_code 4 = .ok (.new 16, 3) := by decide +kernel
theorem d1_7 : decode prog_14_method_2_code 7 = .ok (.dup, 1) := by decide +kernel
theorem d1_8 : decode prog_14_method_2_code 8 = .ok (.invokespecial 18, 3) := by decide +kernel
theorem d1_11 : decode prog_14_method_2_code 11 = .ok (.new 16, 3) := by decide +kernel
theorem d1_14 : decode prog_14_method_2_code 14 = .ok (.dup, 1) := by decide +kernel
theorem d1_15 : decode prog_14_method_2_code 15 = .ok (.invokespecial 18, 3) := by decide +kernel
theorem d1_18 : decode prog_14_method_2_code 18 = .ok (.invokespecial 19, 3) := by decide +kernel
theorem d1_21 : decode prog_14_method_2_code 21 = .ok (.areturn, 1) := by decide +kernel
theorem pn_1 : plainName "com/example/latchkey/latchkey/security/SaltStores" = true := by first | (simp [plainName, overriddenIn]; done) | decide +kernel
theorem pd_1_1 : parseMethodDescriptor "()V" = some ⟨[], none⟩ := by decide +kernel
theorem pd_1_2 : parseMethodDescriptor "(Lcom/example/latchkey/latchkey/security/Salts;Lcom/example/latchkey/latchkey/security/Salts;)V" = some ⟨[(.object "com/example/latchkey/latchkey/security/Salts"), (.object "com/example/latchkey/latchkey/security/Salts")], none⟩ := by decide +kernel
theorem ef_1 (m : MethodId)  : entryFrame m #[] 0 = mkF m 0 #[] [] := by first | (simp [entryFrame, mkF, argsToLocals, Value.category]; done) | rfl
def Q1 (Z : State) (h0 : Heap) (n0 : Nat) (v : Option Value) (h : Heap) (L : List Loc) : Prop := ∃ b1 b2 b4 : Addr, v = some (.ref b1) ∧ Fr n0 L ∧ Keep h0 h [] ∧ Exa Z h b1 "com/example/latchkey/latchkey/security/SaltStores" ∧ Exa Z h b2 "com/example/latchkey/latchkey/security/MemorySalts" ∧ Exa Z h b4 "com/example/latchkey/latchkey/security/MemorySalts" ∧ Fld Z h b1 "com/example/latchkey/latchkey/security/SaltStores" "login" "Lcom/example/latchkey/latchkey/security/Salts;" (.ref b2) ∧ Fld Z h b1 "com/example/latchkey/latchkey/security/SaltStores" "machine" "Lcom/example/latchkey/latchkey/security/Salts;" (.ref b4) ∧ h0.size ≤ b2 ∧ h0.size ≤ b4 ∧ b2 ≠ b4
set_option maxRecDepth 65536 in
set_option maxHeartbeats 40000000 in
theorem rm1 (l : Launch) (Z : State) (a0 : Array Value) (hw : ∀ d ∈ tables_1, d.before a0 Z = true) (ws : List Jvm.Cond)  (h0 : Heap) (n0 : Nat) (Z0 : n0 ≤ h0.size) :
    MetFree l (⟨"com/example/latchkey/latchkey/security/SaltStores", "inMemory", "()Lcom/example/latchkey/latchkey/security/SaltStores;"⟩ : MethodName) (head1 (Jvm.Cond.code (⟨"com/example/latchkey/latchkey/security/SaltStores", "inMemory", "()Lcom/example/latchkey/latchkey/security/SaltStores;"⟩ : MethodName) prog_14_method_2_code 0 (some (.object "com/example/latchkey/latchkey/security/SaltStores")) :: ws) ({ frames := 4, cells := 5, slots := 28, locals := 54 } : Room)) (fun a U => a = #[] ∧ Z.Warmed39 U.vm ∧ U.heap = h0) (fun _ _ _ _ _ => True) (fun _ U o U' => ∃ v L, o = .returned v ∧ Q1 Z h0 n0 v U'.heap L ∧ FrameEnd U o U' L ({ frames := 4, cells := 5, slots := 28, locals := 54 } : Room).cells ({ frames := 4, cells := 5, slots := 28, locals := 54 } : Room).slots) := by
  refine MetFree.of_bodySF (plainFor_of_name pn_1) hisR ?_
  intro p e s m args below meth c s₁ Bd hml0 hP hK
  obtain ⟨rfl, hZ, hh⟩ := hP
  have hx := Bd.exec
  have hby := Bd.bytes
  have hml : c.maxLocals = 0 := hml0
  have hown : s.vm.findClass "com/example/latchkey/latchkey/security/SaltStores" = some m.cls := findClass_of_methodNamed Bd.named
  have hnm := (name_of_methodNamed Bd.named Bd.method).1
  have X0 : Stand p l e ({ frames := 4, cells := 5, slots := 28, locals := 54 } : Room) s m #[] below meth c s₁ [] 0 0 := Stand.of_body Bd
  have e0 : s₁.heap = h0 := by rw [← hh, Bd.state]; rfl
  have N0 := Fr.nil n0
  have pre0 : ∀ t, Steps p.tables e below (s₁.setTop (mkF m 0 #[] [])) t → Steps p.tables e below (s₁.setTop (entryFrame m #[] 0)) t := fun t k => castTop (ef_1 m ) k
  -- 3. LAWS
  obtain ⟨T1, h1, X1, e1, E1, A1, D1, -, st1⟩ := newO X0 hx hZ hown (hw _ (List.mem_of_getElem? (i := 4) rfl)) (hw _ (List.mem_of_getElem? (i := 5) rfl)) (hw _ (List.mem_of_getElem? (i := 2) rfl)) e0 (g := (mkF m 0 #[] [])) rfl (hb hby d1_0) (by decide) (by decide)
  obtain ⟨b1, g1⟩ : ∃ z, z = h0.size := ⟨_, rfl⟩      -- the fresh object's address
  rw [← g1] at A1 D1 st1      -- A1 : Exa Z h1 b1 "com/example/latchkey/latchkey/security/SaltStores"; E1 : Ext h0 h1 (carries every older fact: .ext E1)
  have F_login_b1 : Fld Z h1 b1 "com/example/latchkey/latchkey/security/SaltStores" "login" "Lcom/example/latchkey/latchkey/security/Salts;" .null := D1 (Or.inr (hw _ (List.mem_of_getElem? (i := 35) rfl))) (ty := (.object "com/example/latchkey/latchkey/security/Salts")) (by decide)
  have F_machine_b1 : Fld Z h1 b1 "com/example/latchkey/latchkey/security/SaltStores" "machine" "Lcom/example/latchkey/latchkey/security/Salts;" .null := D1 (Or.inr (hw _ (List.mem_of_getElem? (i := 37) rfl))) (ty := (.object "com/example/latchkey/latchkey/security/Salts")) (by decide)
  have E_b1 := A1
  have g_b1 : n0 ≤ b1 := Nat.le_trans Z0 (Nat.le_of_eq g1.symm)
  have sz_b1 : h0.size ≤ b1 := (Nat.le_trans (Keep.refl h0 []).1 (Nat.le_of_eq g1.symm))
  have K1 : Keep h0 h1 [] := (Keep.refl h0 []).ext E1
  obtain ⟨T2, h2, X2, e2, E2, A2, D2, -, st2⟩ := newO X1 hx hZ hown (hw _ (List.mem_of_getElem? (i := 6) rfl)) (hw _ (List.mem_of_getElem? (i := 7) rfl)) (hw _ (List.mem_of_getElem? (i := 8) rfl)) e1 (g := (mkF m 4 #[] [(.ref b1), (.ref b1)])) rfl (hb hby d1_4) (by decide) (by decide)
  obtain ⟨b2, g2⟩ : ∃ z, z = h1.size := ⟨_, rfl⟩      -- the fresh object's address
  rw [← g2] at A2 D2 st2      -- A2 : Exa Z h2 b2 "com/example/latchkey/latchkey/security/MemorySalts"; E2 : Ext h1 h2 (carries every older fact: .ext E2)
  have F_salts_b2 : Fld Z h2 b2 "com/example/latchkey/latchkey/security/MemorySalts" "salts" "Ljava/util/concurrent/ConcurrentMap;" .null := D2 (Or.inr (hw _ (List.mem_of_getElem? (i := 29) rfl))) (ty := (.object "java/util/concurrent/ConcurrentMap")) (by decide)
  have E_b2 := A2
  have g_b2 : n0 ≤ b2 := Nat.le_trans (Nat.le_trans Z0 E1.1) (Nat.le_of_eq g2.symm)
  have sz_b2 : h0.size ≤ b2 := (Nat.le_trans K1.1 (Nat.le_of_eq g2.symm))
  have K2 : Keep h0 h2 [] := K1.ext E2
  -- pc 8: the constructor of com/example/latchkey/latchkey/security/MemorySalts by its contract rm2
  obtain ⟨_, _, ⟨T3, L3, k3, n3⟩, -, X3, ⟨Lc3, hQ3, l3, y3, z3⟩, st3⟩ := X2.specialBack hx (y := (⟨"com/example/latchkey/latchkey/security/MemorySalts", "<init>", "()V"⟩ : MethodName)) rfl hown (mvT hZ (hw _ (List.mem_of_getElem? (i := 9) rfl))) (mvT hZ (hw _ (List.mem_of_getElem? (i := 10) rfl))) (mvT hZ (hw _ (List.mem_of_getElem? (i := 11) rfl))) (by decide) (backOf (W := 3) (rm2 l Z a0 hw [] b2 .null h2 n0 (Nat.le_trans Z0 K2.1) E_b2 F_salts_b2 g_b2) hZ (hw _ (List.mem_of_getElem? (i := 11) rfl)) (hw _ (List.mem_of_getElem? (i := 8) rfl)) (by decide) (by decide)) (g := (mkF m 8 #[] [(.ref b2), (.ref b2), (.ref b1), (.ref b1)])) rfl (by rw [hml]; rfl) (Steps.refl _) (a := b2) (argsL := []) (rest := [(.ref b2), (.ref b1), (.ref b1)]) (lenOf pd_1_1 rfl) rfl (by show 2 * 0 + _ ≤ _; exact Nat.le_of_eq rfl) (hb hby d1_8) (fun _ _ => ⟨rfl, e2, (by decide : 2 + 1 ≤ _), (by decide : 3 + 12 ≤ _)⟩)
  dsimp only [Pt.U, Pt.locs, Pt.cells, Pt.slots] at X3 l3 y3 z3 st3 hQ3
  subst l3 y3 z3
  obtain ⟨rfl, N3q, K3c, E3x⟩ := hQ3
  have K3h : Keep h0 T3.heap [] := K2.trans K3c (allS (Or.inr sz_b2) all0)
  have ne12 : b1 ∉ [b2] := ninS (Nat.ne_of_lt (Nat.lt_of_lt_of_le E_b1.lt (Nat.le_of_eq g2.symm))) nin0
  have N3 := Fr.app N0 N3q
  obtain ⟨T4, h4, X4, e4, E4, A4, D4, -, st4⟩ := newO X3 hx hZ hown (hw _ (List.mem_of_getElem? (i := 6) rfl)) (hw _ (List.mem_of_getElem? (i := 7) rfl)) (hw _ (List.mem_of_getElem? (i := 8) rfl)) rfl (g := (mkF m 11 #[] [(.ref b2), (.ref b1), (.ref b1)])) rfl (hb hby d1_11) (by decide) (by decide)
  obtain ⟨b4, g4⟩ : ∃ z, z = T3.heap.size := ⟨_, rfl⟩      -- the fresh object's address
  rw [← g4] at A4 D4 st4      -- A4 : Exa Z h4 b4 "com/example/latchkey/latchkey/security/MemorySalts"; E4 : Ext T3.heap h4 (carries every older fact: .ext E4)
  have F_salts_b4 : Fld Z h4 b4 "com/example/latchkey/latchkey/security/MemorySalts" "salts" "Ljava/util/concurrent/ConcurrentMap;" .null := D4 (Or.inr (hw _ (List.mem_of_getElem? (i := 29) rfl))) (ty := (.object "java/util/concurrent/ConcurrentMap")) (by decide)
  have E_b4 := A4
  have g_b4 : n0 ≤ b4 := Nat.le_trans (Nat.le_trans (Nat.le_trans (Nat.le_trans Z0 E1.1) E2.1) K3c.1) (Nat.le_of_eq g4.symm)
  have sz_b4 : h0.size ≤ b4 := (Nat.le_trans K3h.1 (Nat.le_of_eq g4.symm))
  have K4 : Keep h0 h4 [] := K3h.ext E4
  -- pc 15: the constructor of com/example/latchkey/latchkey/security/MemorySalts by its contract rm2
  obtain ⟨_, _, ⟨T5, L5, k5, n5⟩, -, X5, ⟨Lc5, hQ5, l5, y5, z5⟩, st5⟩ := X4.specialBack hx (y := (⟨"com/example/latchkey/latchkey/security/MemorySalts", "<init>", "()V"⟩ : MethodName)) rfl hown (mvT hZ (hw _ (List.mem_of_getElem? (i := 9) rfl))) (mvT hZ (hw _ (List.mem_of_getElem? (i := 10) rfl))) (mvT hZ (hw _ (List.mem_of_getElem? (i := 11) rfl))) (by decide) (backOf (W := 4) (rm2 l Z a0 hw [] b4 .null h4 n0 (Nat.le_trans Z0 K4.1) E_b4 F_salts_b4 g_b4) hZ (hw _ (List.mem_of_getElem? (i := 11) rfl)) (hw _ (List.mem_of_getElem? (i := 8) rfl)) (by decide) (by decide)) (g := (mkF m 15 #[] [(.ref b4), (.ref b4), (.ref b2), (.ref b1), (.ref b1)])) rfl (by rw [hml]; rfl) (Steps.refl _) (a := b4) (argsL := []) (rest := [(.ref b4), (.ref b2), (.ref b1), (.ref b1)]) (lenOf pd_1_1 rfl) rfl (by show 2 * 0 + _ ≤ _; exact Nat.le_of_eq rfl) (hb hby d1_15) (fun _ _ => ⟨rfl, e4, (by decide : 4 + 1 ≤ _), (by decide : 16 + 12 ≤ _)⟩)
  dsimp only [Pt.U, Pt.locs, Pt.cells, Pt.slots] at X5 l5 y5 z5 st5 hQ5
  subst l5 y5 z5
  obtain ⟨rfl, N5q, K5c, E5x⟩ := hQ5
  have E1x := (E_b1.ext E2).keep K3c
  have ne14 : b1 ∉ [b4] := ninS (Nat.ne_of_lt (Nat.lt_of_lt_of_le E1x.lt (Nat.le_of_eq g4.symm))) nin0
  have K5h : Keep h0 T5.heap [] := K4.trans K5c (allS (Or.inr sz_b4) all0)
  have ne24 : b2 ≠ b4 := (Nat.ne_of_lt (Nat.lt_of_lt_of_le E3x.lt (Nat.le_of_eq g4.symm)))
  have N5 := Fr.app N3 N5q
  -- pc 18: the constructor of com/example/latchkey/latchkey/security/SaltStores by its contract rm6
  obtain ⟨_, _, ⟨T6, L6, k6, n6⟩, -, X6, ⟨Lc6, hQ6, l6, y6, z6⟩, st6⟩ := X5.specialBack hx (y := (⟨"com/example/latchkey/latchkey/security/SaltStores", "<init>", "(Lcom/example/latchkey/latchkey/security/Salts;Lcom/example/latchkey/latchkey/security/Salts;)V"⟩ : MethodName)) rfl hown (mvT hZ (hw _ (List.mem_of_getElem? (i := 30) rfl))) (mvT hZ (hw _ (List.mem_of_getElem? (i := 31) rfl))) (mvT hZ (hw _ (List.mem_of_getElem? (i := 32) rfl))) (by decide) (backOf (W := 1) (rm6 l Z a0 hw [] b1 b2 b4 .null .null T5.heap n0 (Nat.le_trans Z0 K5h.1) ((E1x.ext E4).keep K5c) ((((F_login_b1.ext E2).keep K3c ne12).ext E4).keep K5c ne14) g_b1 ((((F_machine_b1.ext E2).keep K3c ne12).ext E4).keep K5c ne14)) hZ (hw _ (List.mem_of_getElem? (i := 32) rfl)) (hw _ (List.mem_of_getElem? (i := 2) rfl)) (by decide) (by decide)) (g := (mkF m 18 #[] [(.ref b4), (.ref b2), (.ref b1), (.ref b1)])) rfl (by rw [hml]; rfl) (Steps.refl _) (a := b1) (argsL := [(.ref b2), (.ref b4)]) (rest := [(.ref b1)]) (lenOf pd_1_2 rfl) rfl (by show 2 * 0 + _ ≤ _; exact Nat.le_of_eq rfl) (hb hby d1_18) (fun _ _ => ⟨rfl, rfl, (by decide : 5 + 0 ≤ _), (by decide : 28 + 0 ≤ _)⟩)
  dsimp only [Pt.U, Pt.locs, Pt.cells, Pt.slots] at X6 l6 y6 z6 st6 hQ6
  subst l6 y6 z6
  obtain ⟨rfl, N6q, K6c, E6x, Fl6, Fm6⟩ := hQ6
  have N6 := Fr.app N5 N6q
  obtain ⟨fs, hr, hrun, hended, hW, hsame⟩ := X6.leave (v := some (.ref b1)) (fun h => by rw [Bd.returns] at h; cases h)
  refine ⟨_, _, pre0 _ ?_, hrun, hended, _, _, rfl, ?_, ⟨_, rfl⟩, hW, hsame.mono (by decide) (by decide)⟩
  -- 4. STEPS
  · show Steps p.tables e below (s₁.setTop (mkF m 0 #[] [])) _
    refine st1 _ ?_
    show Steps p.tables e below (T1.setTop (mkF m 3 #[] [(.ref b1)])) _
    refine XS.dup X1.here hx rfl (hb hby d1_3) rfl rfl ?_
    show Steps p.tables e below (T1.setTop (mkF m 4 #[] [(.ref b1), (.ref b1)])) _
    refine st2 _ ?_
    show Steps p.tables e below (T2.setTop (mkF m 7 #[] [(.ref b2), (.ref b1), (.ref b1)])) _
    refine XS.dup X2.here hx rfl (hb hby d1_7) rfl rfl ?_
    show Steps p.tables e below (T2.setTop (mkF m 8 #[] [(.ref b2), (.ref b2), (.ref b1), (.ref b1)])) _
    refine st3.trans ?_
    show Steps p.tables e below (T3.setTop (mkF m 11 #[] [(.ref b2), (.ref b1), (.ref b1)])) _
    refine st4 _ ?_
    show Steps p.tables e below (T4.setTop (mkF m 14 #[] [(.ref b4), (.ref b2), (.ref b1), (.ref b1)])) _
    refine XS.dup X4.here hx rfl (hb hby d1_14) rfl rfl ?_
    show Steps p.tables e below (T4.setTop (mkF m 15 #[] [(.ref b4), (.ref b4), (.ref b2), (.ref b1), (.ref b1)])) _
    refine st5.trans ?_
    show Steps p.tables e below (T5.setTop (mkF m 18 #[] [(.ref b4), (.ref b2), (.ref b1), (.ref b1)])) _
    refine st6.trans ?_
    show Steps p.tables e below (T6.setTop (mkF m 21 #[] [(.ref b1)])) _
    jvm_step X6.here [X6.here.top, hx, (hb hby d1_21), X6.method', Bd.returns, Value.isRef, FieldType.isReference]
    first | (intro acts; rw [hr _ acts rfl rfl rfl]) | rw [hr _ _ rfl rfl rfl]
    exact Steps.refl _
  · show Q1 Z h0 n0 _ T6.heap _
    exact ⟨b1, b2, b4, rfl, N6, K5h.trans K6c (allS (Or.inr sz_b1) all0), E6x, ((E3x.ext E4).keep K5c).keep K6c, E5x.keep K6c, Fl6, Fm6, sz_b2, sz_b4, ne24⟩
theorem pn_0 : plainName "com/example/latchkey/latchkey/security/SaltStoresInMemoryPinLaw" = true := by first | (simp [plainName, overriddenIn]; done) | decide +kernel
theorem pd_0_0 : parseMethodDescriptor "()Lcom/example/latchkey/latchkey/security/SaltStores;" = some ⟨[], some (.object "com/example/latchkey/latchkey/security/SaltStores")⟩ := by decide +kernel
theorem pd_0_3 : parseMethodDescriptor "()Lcom/example/latchkey/latchkey/security/Salts;" = some ⟨[], some (.object "com/example/latchkey/latchkey/security/Salts")⟩ := by decide +kernel
theorem ef_0 (m : MethodId) (x0 : Int32) : entryFrame m #[(.int x0)] maxLocals = mkF m 0 #[.val (.int x0), .unset, .unset, .unset, .unset, .unset, .unset, .unset, .unset, .unset] [] := by first | (simp [entryFrame, mkF, argsToLocals, Value.category, maxLocals]; done) | rfl
def Q0 (Z : State) (p1 : Int32) (h0 : Heap) (n0 : Nat) (v : Option Value) (h : Heap) (L : List Loc) : Prop := v = some (.int (1 : Int32)) ∧ Fr n0 L
set_option maxRecDepth 65536 in
set_option maxHeartbeats 40000000 in
theorem rm0 (l : Launch) (Z : State) (a0 : Array Value) (hw : ∀ d ∈ tables_1, d.before a0 Z = true) (ws : List Jvm.Cond) (p1 : Int32) (h0 : Heap) (n0 : Nat) (Z0 : n0 ≤ h0.size) :
    MetFree l x (head1 (Jvm.Cond.code x code maxLocals ret :: ws) room_1) (fun a U => a = #[(.int p1)] ∧ Z.Warmed39 U.vm ∧ U.heap = h0) (fun _ _ _ _ _ => True) (fun _ U o U' => ∃ v L, o = .returned v ∧ Q0 Z p1 h0 n0 v U'.heap L ∧ FrameEnd U o U' L room_1.cells room_1.slots) := by
  refine MetFree.of_bodySF (plainFor_of_name pn_0) hisR ?_
  intro p e s m args below meth c s₁ Bd hml0 hP hK
  obtain ⟨rfl, hZ, hh⟩ := hP
  have hx := Bd.exec
  have hby := Bd.bytes
  have hml : c.maxLocals = 10 := hml0
  have hown : s.vm.findClass "com/example/latchkey/latchkey/security/SaltStoresInMemoryPinLaw" = some m.cls := findClass_of_methodNamed Bd.named
  have hnm := (name_of_methodNamed Bd.named Bd.method).1
  have X0 : Stand p l e room_1 s m #[(.int p1)] below meth c s₁ [] 0 0 := Stand.of_body Bd
  have e0 : s₁.heap = h0 := by rw [← hh, Bd.state]; rfl
  have N0 := Fr.nil n0
  have pre0 : ∀ t, Steps p.tables e below (s₁.setTop (mkF m 0 #[.val (.int p1), .unset, .unset, .unset, .unset, .unset, .unset, .unset, .unset, .unset] [])) t → Steps p.tables e below (s₁.setTop (entryFrame m #[(.int p1)] maxLocals)) t := fun t k => castTop (ef_0 m p1) k
  -- 3. LAWS
  -- pc 0: com/example/latchkey/latchkey/security/SaltStores.inMemory by its contract rm1
  obtain ⟨_, _, ⟨T2, L2, k2, n2⟩, -, X2, ⟨Lc2, hQ2, l2, y2, z2⟩, st2⟩ := Jvm.LawKit.callS X0 hx (y := (⟨"com/example/latchkey/latchkey/security/SaltStores", "inMemory", "()Lcom/example/latchkey/latchkey/security/SaltStores;"⟩ : MethodName)) hown (mvT hZ (hw _ (List.mem_of_getElem? (i := 0) rfl))) (mvT hZ (hw _ (List.mem_of_getElem? (i := 1) rfl))) (mvT hZ (hw _ (List.mem_of_getElem? (i := 2) rfl))) (mvT hZ (hw _ (List.mem_of_getElem? (i := 3) rfl))) (by decide) (backOf (W := 0) (rm1 l Z a0 hw [] h0 n0 Z0) hZ (hw _ (List.mem_of_getElem? (i := 3) rfl)) (hw _ (List.mem_of_getElem? (i := 2) rfl)) (by decide) (by decide)) (g := (mkF m 0 #[.val (.int p1), .unset, .unset, .unset, .unset, .unset, .unset, .unset, .unset, .unset] [])) rfl (by rw [hml]; rfl) (argsL := []) (rest := []) (lenOf pd_0_0 rfl) rfl (by show 2 * 0 + _ ≤ _; exact Nat.le_of_eq rfl) (hb hby at_0) (fun _ _ => ⟨rfl, e0, (by decide : 0 + 5 ≤ _), (by decide : 0 + 28 ≤ _)⟩)
  dsimp only [Pt.U, Pt.locs, Pt.cells, Pt.slots] at X2 l2 y2 z2 st2 hQ2
  subst l2 y2 z2
  obtain ⟨x1, xl, xm, rfl, N2q, K2c, Ex1, Exl, Exm, Flx, Fmx, s2l, s2m, nx⟩ := hQ2
  have N2 := Fr.app N0 N2q
  -- pc 4: com/example/latchkey/latchkey/security/SaltStores.inMemory by its contract rm1
  obtain ⟨_, _, ⟨T3, L3, k3, n3⟩, -, X3, ⟨Lc3, hQ3, l3, y3, z3⟩, st3⟩ := Jvm.LawKit.callS X2 hx (y := (⟨"com/example/latchkey/latchkey/security/SaltStores", "inMemory", "()Lcom/example/latchkey/latchkey/security/SaltStores;"⟩ : MethodName)) hown (mvT hZ (hw _ (List.mem_of_getElem? (i := 0) rfl))) (mvT hZ (hw _ (List.mem_of_getElem? (i := 1) rfl))) (mvT hZ (hw _ (List.mem_of_getElem? (i := 2) rfl))) (mvT hZ (hw _ (List.mem_of_getElem? (i := 3) rfl))) (by decide) (backOf (W := 0) (rm1 l Z a0 hw [] T2.heap n0 (Nat.le_trans Z0 K2c.1)) hZ (hw _ (List.mem_of_getElem? (i := 3) rfl)) (hw _ (List.mem_of_getElem? (i := 2) rfl)) (by decide) (by decide)) (g := (mkF m 4 #[.val (.int p1), .val (.ref x1), .unset, .unset, .unset, .unset, .unset, .unset, .unset, .unset] [])) rfl (by rw [hml]; rfl) (argsL := []) (rest := []) (lenOf pd_0_0 rfl) rfl (by show 2 * 0 + _ ≤ _; exact Nat.le_of_eq rfl) (hb hby at_4) (fun _ _ => ⟨rfl, rfl, (by decide : 5 + 5 ≤ _), (by decide : 28 + 28 ≤ _)⟩)
  dsimp only [Pt.U, Pt.locs, Pt.cells, Pt.slots] at X3 l3 y3 z3 st3 hQ3
  subst l3 y3 z3
  obtain ⟨y1, yl, ym, rfl, N3q, K3c, Ey1, Eyl, Eym, Fly, Fmy, s3l, s3m, ny⟩ := hQ3
  have Flx3 := Flx.keep K3c nin0
  have Fmx3 := Fmx.keep K3c nin0
  have Z2 := Nat.le_trans Z0 K2c.1
  have Z3 := Nat.le_trans Z2 K3c.1
  have dll : xl ≠ yl := Nat.ne_of_lt (Nat.lt_of_lt_of_le Exl.lt s3l)
  have dlm : xl ≠ ym := Nat.ne_of_lt (Nat.lt_of_lt_of_le Exl.lt s3m)
  have dml : xm ≠ yl := Nat.ne_of_lt (Nat.lt_of_lt_of_le Exm.lt s3l)
  have dmm : xm ≠ ym := Nat.ne_of_lt (Nat.lt_of_lt_of_le Exm.lt s3m)
  have N3 := Fr.app N2 N3q
  -- pc 9: com/example/latchkey/latchkey/security/SaltStores.login by the contract of the body that the receiver's class selects, rm7
  obtain ⟨cq4, kq4, q4a, q4b, q4c⟩ := isOf hZ rfl (Ex1.keep K3c)
  obtain ⟨_, _, ⟨T4, L4, k4, n4⟩, -, X4, ⟨Lc4, hQ4, l4, y4, z4⟩, st4⟩ := X3.virtualBack hx (y := (⟨"com/example/latchkey/latchkey/security/SaltStores", "login", "()Lcom/example/latchkey/latchkey/security/Salts;"⟩ : MethodName)) (z := (⟨"com/example/latchkey/latchkey/security/SaltStores", "login", "()Lcom/example/latchkey/latchkey/security/Salts;"⟩ : MethodName)) hown (mvT hZ (hw _ (List.mem_of_getElem? (i := 38) rfl))) (mvT hZ (hw _ (List.mem_of_getElem? (i := 39) rfl))) (notFace_of_selects (args := #[]) (mvT hZ (hw _ (List.mem_of_getElem? (i := 41) rfl)))) (mvT hZ (hw _ (List.mem_of_getElem? (i := 41) rfl))) (mvT hZ (hw _ (List.mem_of_getElem? (i := 40) rfl))) (by decide) (backOf (W := 0) (rm7 l Z a0 hw [] x1 xl T3.heap n0 Z3 Flx3) hZ (hw _ (List.mem_of_getElem? (i := 42) rfl)) (hw _ (List.mem_of_getElem? (i := 2) rfl)) (by decide) (by decide)) q4a q4c (g := (mkF m 9 #[.val (.int p1), .val (.ref x1), .val (.ref y1), .unset, .unset, .unset, .unset, .unset, .unset, .unset] [(.ref x1)])) rfl (by rw [hml]; rfl) (Steps.refl _) (argsL := []) (rest := []) (lenOf pd_0_3 rfl) rfl (by show 2 * 0 + _ ≤ _; exact Nat.le_of_eq rfl) (hb hby at_9) (fun _ _ => ⟨rfl, rfl, (by decide : 10 + 0 ≤ _), (by decide : 56 + 0 ≤ _)⟩)
  dsimp only [Pt.U, Pt.locs, Pt.cells, Pt.slots] at X4 l4 y4 z4 st4 hQ4
  subst l4 y4 z4
  obtain ⟨rfl, N4q, hh4⟩ := hQ4
  have Kc4 : Keep T3.heap T4.heap [] := by rw [hh4]; exact Keep.refl _ _
  have Z4 := Nat.le_trans Z3 Kc4.1
  have N4 := Fr.app N3 N4q
  -- pc 14: com/example/latchkey/latchkey/security/SaltStores.machine by the contract of the body that the receiver's class selects, rm8
  obtain ⟨cq5, kq5, q5a, q5b, q5c⟩ := isOf hZ rfl ((Ex1.keep K3c).keep Kc4)
  obtain ⟨_, _, ⟨T5, L5, k5, n5⟩, -, X5, ⟨Lc5, hQ5, l5, y5, z5⟩, st5⟩ := X4.virtualBack hx (y := (⟨"com/example/latchkey/latchkey/security/SaltStores", "machine", "()Lcom/example/latchkey/latchkey/security/Salts;"⟩ : MethodName)) (z := (⟨"com/example/latchkey/latchkey/security/SaltStores", "machine", "()Lcom/example/latchkey/latchkey/security/Salts;"⟩ : MethodName)) hown (mvT hZ (hw _ (List.mem_of_getElem? (i := 43) rfl))) (mvT hZ (hw _ (List.mem_of_getElem? (i := 44) rfl))) (notFace_of_selects (args := #[]) (mvT hZ (hw _ (List.mem_of_getElem? (i := 46) rfl)))) (mvT hZ (hw _ (List.mem_of_getElem? (i := 46) rfl))) (mvT hZ (hw _ (List.mem_of_getElem? (i := 45) rfl))) (by decide) (backOf (W := 0) (rm8 l Z a0 hw [] x1 xm T4.heap n0 Z4 (Fmx3.keep Kc4 nin0)) hZ (hw _ (List.mem_of_getElem? (i := 47) rfl)) (hw _ (List.mem_of_getElem? (i := 2) rfl)) (by decide) (by decide)) q5a q5c (g := (mkF m 14 #[.val (.int p1), .val (.ref x1), .val (.ref y1), .val (.ref xl), .unset, .unset, .unset, .unset, .unset, .unset] [(.ref x1)])) rfl (by rw [hml]; rfl) (Steps.refl _) (argsL := []) (rest := []) (lenOf pd_0_3 rfl) rfl (by show 2 * 0 + _ ≤ _; exact Nat.le_of_eq rfl) (hb hby at_14) (fun _ _ => ⟨rfl, rfl, (by decide : 10 + 0 ≤ _), (by decide : 56 + 0 ≤ _)⟩)
  dsimp only [Pt.U, Pt.locs, Pt.cells, Pt.slots] at X5 l5 y5 z5 st5 hQ5
  subst l5 y5 z5
  obtain ⟨rfl, N5q, hh5⟩ := hQ5
  have Kc5 : Keep T4.heap T5.heap [] := by rw [hh5]; exact Keep.refl _ _
  have Z5 := Nat.le_trans Z4 Kc5.1
  have N5 := Fr.app N4 N5q
  -- pc 20: com/example/latchkey/latchkey/security/SaltStores.login by the contract of the body that the receiver's class selects, rm7
  obtain ⟨cq6, kq6, q6a, q6b, q6c⟩ := isOf hZ rfl ((Ey1.keep Kc4).keep Kc5)
  obtain ⟨_, _, ⟨T6, L6, k6, n6⟩, -, X6, ⟨Lc6, hQ6, l6, y6, z6⟩, st6⟩ := X5.virtualBack hx (y := (⟨"com/example/latchkey/latchkey/security/SaltStores", "login", "()Lcom/example/latchkey/latchkey/security/Salts;"⟩ : MethodName)) (z := (⟨"com/example/latchkey/latchkey/security/SaltStores", "login", "()Lcom/example/latchkey/latchkey/security/Salts;"⟩ : MethodName)) hown (mvT hZ (hw _ (List.mem_of_getElem? (i := 38) rfl))) (mvT hZ (hw _ (List.mem_of_getElem? (i := 39) rfl))) (notFace_of_selects (args := #[]) (mvT hZ (hw _ (List.mem_of_getElem? (i := 41) rfl)))) (mvT hZ (hw _ (List.mem_of_getElem? (i := 41) rfl))) (mvT hZ (hw _ (List.mem_of_getElem? (i := 40) rfl))) (by decide) (backOf (W := 0) (rm7 l Z a0 hw [] y1 yl T5.heap n0 Z5 ((Fly.keep Kc4 nin0).keep Kc5 nin0)) hZ (hw _ (List.mem_of_getElem? (i := 42) rfl)) (hw _ (List.mem_of_getElem? (i := 2) rfl)) (by decide) (by decide)) q6a q6c (g := (mkF m 20 #[.val (.int p1), .val (.ref x1), .val (.ref y1), .val (.ref xl), .val (.ref xm), .unset, .unset, .unset, .unset, .unset] [(.ref y1)])) rfl (by rw [hml]; rfl) (Steps.refl _) (argsL := []) (rest := []) (lenOf pd_0_3 rfl) rfl (by show 2 * 0 + _ ≤ _; exact Nat.le_of_eq rfl) (hb hby at_20) (fun _ _ => ⟨rfl, rfl, (by decide : 10 + 0 ≤ _), (by decide : 56 + 0 ≤ _)⟩)
  dsimp only [Pt.U, Pt.locs, Pt.cells, Pt.slots] at X6 l6 y6 z6 st6 hQ6
  subst l6 y6 z6
  obtain ⟨rfl, N6q, hh6⟩ := hQ6
  have Kc6 : Keep T5.heap T6.heap [] := by rw [hh6]; exact Keep.refl _ _
  have Z6 := Nat.le_trans Z5 Kc6.1
  have N6 := Fr.app N5 N6q
  -- pc 26: com/example/latchkey/latchkey/security/SaltStores.machine by the contract of the body that the receiver's class selects, rm8
  obtain ⟨cq7, kq7, q7a, q7b, q7c⟩ := isOf hZ rfl (((Ey1.keep Kc4).keep Kc5).keep Kc6)
  obtain ⟨_, _, ⟨T7, L7, k7, n7⟩, -, X7, ⟨Lc7, hQ7, l7, y7, z7⟩, st7⟩ := X6.virtualBack hx (y := (⟨"com/example/latchkey/latchkey/security/SaltStores", "machine", "()Lcom/example/latchkey/latchkey/security/Salts;"⟩ : MethodName)) (z := (⟨"com/example/latchkey/latchkey/security/SaltStores", "machine", "()Lcom/example/latchkey/latchkey/security/Salts;"⟩ : MethodName)) hown (mvT hZ (hw _ (List.mem_of_getElem? (i := 43) rfl))) (mvT hZ (hw _ (List.mem_of_getElem? (i := 44) rfl))) (notFace_of_selects (args := #[]) (mvT hZ (hw _ (List.mem_of_getElem? (i := 46) rfl)))) (mvT hZ (hw _ (List.mem_of_getElem? (i := 46) rfl))) (mvT hZ (hw _ (List.mem_of_getElem? (i := 45) rfl))) (by decide) (backOf (W := 0) (rm8 l Z a0 hw [] y1 ym T6.heap n0 Z6 (((Fmy.keep Kc4 nin0).keep Kc5 nin0).keep Kc6 nin0)) hZ (hw _ (List.mem_of_getElem? (i := 47) rfl)) (hw _ (List.mem_of_getElem? (i := 2) rfl)) (by decide) (by decide)) q7a q7c (g := (mkF m 26 #[.val (.int p1), .val (.ref x1), .val (.ref y1), .val (.ref xl), .val (.ref xm), .val (.ref yl), .unset, .unset, .unset, .unset] [(.ref y1)])) rfl (by rw [hml]; rfl) (Steps.refl _) (argsL := []) (rest := []) (lenOf pd_0_3 rfl) rfl (by show 2 * 0 + _ ≤ _; exact Nat.le_of_eq rfl) (hb hby at_26) (fun _ _ => ⟨rfl, rfl, (by decide : 10 + 0 ≤ _), (by decide : 56 + 0 ≤ _)⟩)
  dsimp only [Pt.U, Pt.locs, Pt.cells, Pt.slots] at X7 l7 y7 z7 st7 hQ7
  subst l7 y7 z7
  obtain ⟨rfl, N7q, hh7⟩ := hQ7
  have Kc7 : Keep T6.heap T7.heap [] := by rw [hh7]; exact Keep.refl _ _
  have Z7 := Nat.le_trans Z6 Kc7.1
  have N7 := Fr.app N6 N7q
  obtain ⟨T8, X8, e8, st8⟩ := instY X7 hx hZ hown (hw _ (List.mem_of_getElem? (i := 48) rfl)) rfl (Ins.self (((((Exl.keep K3c).keep Kc4).keep Kc5).keep Kc6).keep Kc7)) (g := (mkF m 32 #[.val (.int p1), .val (.ref x1), .val (.ref y1), .val (.ref xl), .val (.ref xm), .val (.ref yl), .val (.ref ym), .unset, .unset, .unset] [(.ref xl)])) rfl rfl (hb hby at_32)
  obtain ⟨T9, X9, e9, st9⟩ := instY X8 hx hZ hown (hw _ (List.mem_of_getElem? (i := 48) rfl)) e8 (Ins.self (((((Exm.keep K3c).keep Kc4).keep Kc5).keep Kc6).keep Kc7)) (g := (mkF m 40 #[.val (.int p1), .val (.ref x1), .val (.ref y1), .val (.ref xl), .val (.ref xm), .val (.ref yl), .val (.ref ym), .unset, .unset, .unset] [(.ref xm)])) rfl rfl (hb hby at_40)
  obtain ⟨T10, X10, e10, st10⟩ := instY X9 hx hZ hown (hw _ (List.mem_of_getElem? (i := 48) rfl)) e9 (Ins.self ((((Eyl.keep Kc4).keep Kc5).keep Kc6).keep Kc7)) (g := (mkF m 48 #[.val (.int p1), .val (.ref x1), .val (.ref y1), .val (.ref xl), .val (.ref xm), .val (.ref yl), .val (.ref ym), .unset, .unset, .unset] [(.ref yl)])) rfl rfl (hb hby at_48)
  obtain ⟨T11, X11, e11, st11⟩ := instY X10 hx hZ hown (hw _ (List.mem_of_getElem? (i := 48) rfl)) e10 (Ins.self ((((Eym.keep Kc4).keep Kc5).keep Kc6).keep Kc7)) (g := (mkF m 56 #[.val (.int p1), .val (.ref x1), .val (.ref y1), .val (.ref xl), .val (.ref xm), .val (.ref yl), .val (.ref ym), .unset, .unset, .unset] [(.ref ym)])) rfl rfl (hb hby at_56)
  -- pc 116: com/example/latchkey/latchkey/security/SaltStores.login by the contract of the body that the receiver's class selects, rm7
  obtain ⟨cq12, kq12, q12a, q12b, q12c⟩ := isOf hZ e11 (((((Ex1.keep K3c).keep Kc4).keep Kc5).keep Kc6).keep Kc7)
  obtain ⟨_, _, ⟨T12, L12, k12, n12⟩, -, X12, ⟨Lc12, hQ12, l12, y12, z12⟩, st12⟩ := X11.virtualBack hx (y := (⟨"com/example/latchkey/latchkey/security/SaltStores", "login", "()Lcom/example/latchkey/latchkey/security/Salts;"⟩ : MethodName)) (z := (⟨"com/example/latchkey/latchkey/security/SaltStores", "login", "()Lcom/example/latchkey/latchkey/security/Salts;"⟩ : MethodName)) hown (mvT hZ (hw _ (List.mem_of_getElem? (i := 38) rfl))) (mvT hZ (hw _ (List.mem_of_getElem? (i := 39) rfl))) (notFace_of_selects (args := #[]) (mvT hZ (hw _ (List.mem_of_getElem? (i := 41) rfl)))) (mvT hZ (hw _ (List.mem_of_getElem? (i := 41) rfl))) (mvT hZ (hw _ (List.mem_of_getElem? (i := 40) rfl))) (by decide) (backOf (W := 0) (rm7 l Z a0 hw [] x1 xl T7.heap n0 Z7 ((((Flx3.keep Kc4 nin0).keep Kc5 nin0).keep Kc6 nin0).keep Kc7 nin0)) hZ (hw _ (List.mem_of_getElem? (i := 42) rfl)) (hw _ (List.mem_of_getElem? (i := 2) rfl)) (by decide) (by decide)) q12a q12c (g := (mkF m 116 #[.val (.int p1), .val (.ref x1), .val (.ref y1), .val (.ref xl), .val (.ref xm), .val (.ref yl), .val (.ref ym), .val (.int (1 : Int32)), .val (.int (1 : Int32)), .unset] [(.ref x1)])) rfl (by rw [hml]; rfl) (Steps.refl _) (argsL := []) (rest := []) (lenOf pd_0_3 rfl) rfl (by show 2 * 0 + _ ≤ _; exact Nat.le_of_eq rfl) (hb hby at_116) (fun _ _ => ⟨rfl, e11, (by decide : 10 + 0 ≤ _), (by decide : 56 + 0 ≤ _)⟩)
  dsimp only [Pt.U, Pt.locs, Pt.cells, Pt.slots] at X12 l12 y12 z12 st12 hQ12
  subst l12 y12 z12
  obtain ⟨rfl, N12q, hh12⟩ := hQ12
  have Kc12 : Keep T7.heap T12.heap [] := by rw [hh12]; exact Keep.refl _ _
  have Z12 := Nat.le_trans Z7 Kc12.1
  have N12 := Fr.app N7 N12q
  -- pc 124: com/example/latchkey/latchkey/security/SaltStores.machine by the contract of the body that the receiver's class selects, rm8
  obtain ⟨cq13, kq13, q13a, q13b, q13c⟩ := isOf hZ rfl ((((((Ex1.keep K3c).keep Kc4).keep Kc5).keep Kc6).keep Kc7).keep Kc12)
  obtain ⟨_, _, ⟨T13, L13, k13, n13⟩, -, X13, ⟨Lc13, hQ13, l13, y13, z13⟩, st13⟩ := X12.virtualBack hx (y := (⟨"com/example/latchkey/latchkey/security/SaltStores", "machine", "()Lcom/example/latchkey/latchkey/security/Salts;"⟩ : MethodName)) (z := (⟨"com/example/latchkey/latchkey/security/SaltStores", "machine", "()Lcom/example/latchkey/latchkey/security/Salts;"⟩ : MethodName)) hown (mvT hZ (hw _ (List.mem_of_getElem? (i := 43) rfl))) (mvT hZ (hw _ (List.mem_of_getElem? (i := 44) rfl))) (notFace_of_selects (args := #[]) (mvT hZ (hw _ (List.mem_of_getElem? (i := 46) rfl)))) (mvT hZ (hw _ (List.mem_of_getElem? (i := 46) rfl))) (mvT hZ (hw _ (List.mem_of_getElem? (i := 45) rfl))) (by decide) (backOf (W := 0) (rm8 l Z a0 hw [] x1 xm T12.heap n0 Z12 (((((Fmx3.keep Kc4 nin0).keep Kc5 nin0).keep Kc6 nin0).keep Kc7 nin0).keep Kc12 nin0)) hZ (hw _ (List.mem_of_getElem? (i := 47) rfl)) (hw _ (List.mem_of_getElem? (i := 2) rfl)) (by decide) (by decide)) q13a q13c (g := (mkF m 124 #[.val (.int p1), .val (.ref x1), .val (.ref y1), .val (.ref xl), .val (.ref xm), .val (.ref yl), .val (.ref ym), .val (.int (1 : Int32)), .val (.int (1 : Int32)), .unset] [(.ref x1)])) rfl (by rw [hml]; rfl) (Steps.refl _) (argsL := []) (rest := []) (lenOf pd_0_3 rfl) rfl (by show 2 * 0 + _ ≤ _; exact Nat.le_of_eq rfl) (hb hby at_124) (fun _ _ => ⟨rfl, rfl, (by decide : 10 + 0 ≤ _), (by decide : 56 + 0 ≤ _)⟩)
  dsimp only [Pt.U, Pt.locs, Pt.cells, Pt.slots] at X13 l13 y13 z13 st13 hQ13
  subst l13 y13 z13
  obtain ⟨rfl, N13q, hh13⟩ := hQ13
  have Kc13 : Keep T12.heap T13.heap [] := by rw [hh13]; exact Keep.refl _ _
  have Z13 := Nat.le_trans Z12 Kc13.1
  have N13 := Fr.app N12 N13q
  obtain ⟨fs, hr, hrun, hended, hW, hsame⟩ := X13.leave (v := some (.int (1 : Int32))) (fun h => by rw [Bd.returns] at h; cases h)
  refine ⟨_, _, pre0 _ ?_, hrun, hended, _, _, rfl, ?_, ⟨_, rfl⟩, hW, hsame.mono (by decide) (by decide)⟩
  -- 4. STEPS
  · show Steps p.tables e below (s₁.setTop (mkF m 0 #[.val (.int p1), .unset, .unset, .unset, .unset, .unset, .unset, .unset, .unset, .unset] [])) _
    refine st2 _ ?_
    show Steps p.tables e below (T2.setTop (mkF m 3 #[.val (.int p1), .unset, .unset, .unset, .unset, .unset, .unset, .unset, .unset, .unset] [(.ref x1)])) _
    refine XS.astoreN X2.here hx rfl (hb hby at_3) rfl rfl (l' := #[.val (.int p1), .val (.ref x1), .unset, .unset, .unset, .unset, .unset, .unset, .unset, .unset]) rfl ?_
    show Steps p.tables e below (T2.setTop (mkF m 4 #[.val (.int p1), .val (.ref x1), .unset, .unset, .unset, .unset, .unset, .unset, .unset, .unset] [])) _
    refine st3 _ ?_
    show Steps p.tables e below (T3.setTop (mkF m 7 #[.val (.int p1), .val (.ref x1), .unset, .unset, .unset, .unset, .unset, .unset, .unset, .unset] [(.ref y1)])) _
    refine XS.astoreN X3.here hx rfl (hb hby at_7) rfl rfl (l' := #[.val (.int p1), .val (.ref x1), .val (.ref y1), .unset, .unset, .unset, .unset, .unset, .unset, .unset]) rfl ?_
    show Steps p.tables e below (T3.setTop (mkF m 8 #[.val (.int p1), .val (.ref x1), .val (.ref y1), .unset, .unset, .unset, .unset, .unset, .unset, .unset] [])) _
    refine XS.aloadN X3.here hx rfl (hb hby at_8) rfl rfl ?_
    show Steps p.tables e below (T3.setTop (mkF m 9 #[.val (.int p1), .val (.ref x1), .val (.ref y1), .unset, .unset, .unset, .unset, .unset, .unset, .unset] [(.ref x1)])) _
    refine st4.trans ?_
    show Steps p.tables e below (T4.setTop (mkF m 12 #[.val (.int p1), .val (.ref x1), .val (.ref y1), .unset, .unset, .unset, .unset, .unset, .unset, .unset] [(.ref xl)])) _
    refine XS.astoreN X4.here hx rfl (hb hby at_12) rfl rfl (l' := #[.val (.int p1), .val (.ref x1), .val (.ref y1), .val (.ref xl), .unset, .unset, .unset, .unset, .unset, .unset]) rfl ?_
    show Steps p.tables e below (T4.setTop (mkF m 13 #[.val (.int p1), .val (.ref x1), .val (.ref y1), .val (.ref xl), .unset, .unset, .unset, .unset, .unset, .unset] [])) _
    refine XS.aloadN X4.here hx rfl (hb hby at_13) rfl rfl ?_
    show Steps p.tables e below (T4.setTop (mkF m 14 #[.val (.int p1), .val (.ref x1), .val (.ref y1), .val (.ref xl), .unset, .unset, .unset, .unset, .unset, .unset] [(.ref x1)])) _
    refine st5.trans ?_
    show Steps p.tables e below (T5.setTop (mkF m 17 #[.val (.int p1), .val (.ref x1), .val (.ref y1), .val (.ref xl), .unset, .unset, .unset, .unset, .unset, .unset] [(.ref xm)])) _
    refine XS.astore X5.here hx rfl (hb hby at_17) rfl rfl (l' := #[.val (.int p1), .val (.ref x1), .val (.ref y1), .val (.ref xl), .val (.ref xm), .unset, .unset, .unset, .unset, .unset]) rfl ?_
    show Steps p.tables e below (T5.setTop (mkF m 19 #[.val (.int p1), .val (.ref x1), .val (.ref y1), .val (.ref xl), .val (.ref xm), .unset, .unset, .unset, .unset, .unset] [])) _
    refine XS.aloadN X5.here hx rfl (hb hby at_19) rfl rfl ?_
    show Steps p.tables e below (T5.setTop (mkF m 20 #[.val (.int p1), .val (.ref x1), .val (.ref y1), .val (.ref xl), .val (.ref xm), .unset, .unset, .unset, .unset, .unset] [(.ref y1)])) _
    refine st6.trans ?_
    show Steps p.tables e below (T6.setTop (mkF m 23 #[.val (.int p1), .val (.ref x1), .val (.ref y1), .val (.ref xl), .val (.ref xm), .unset, .unset, .unset, .unset, .unset] [(.ref yl)])) _
    refine XS.astore X6.here hx rfl (hb hby at_23) rfl rfl (l' := #[.val (.int p1), .val (.ref x1), .val (.ref y1), .val (.ref xl), .val (.ref xm), .val (.ref yl), .unset, .unset, .unset, .unset]) rfl ?_
    show Steps p.tables e below (T6.setTop (mkF m 25 #[.val (.int p1), .val (.ref x1), .val (.ref y1), .val (.ref xl), .val (.ref xm), .val (.ref yl), .unset, .unset, .unset, .unset] [])) _
    refine XS.aloadN X6.here hx rfl (hb hby at_25) rfl rfl ?_
    show Steps p.tables e below (T6.setTop (mkF m 26 #[.val (.int p1), .val (.ref x1), .val (.ref y1), .val (.ref xl), .val (.ref xm), .val (.ref yl), .unset, .unset, .unset, .unset] [(.ref y1)])) _
    refine st7.trans ?_
    show Steps p.tables e below (T7.setTop (mkF m 29 #[.val (.int p1), .val (.ref x1), .val (.ref y1), .val (.ref xl), .val (.ref xm), .val (.ref yl), .unset, .unset, .unset, .unset] [(.ref ym)])) _
    refine XS.astore X7.here hx rfl (hb hby at_29) rfl rfl (l' := #[.val (.int p1), .val (.ref x1), .val (.ref y1), .val (.ref xl), .val (.ref xm), .val (.ref yl), .val (.ref ym), .unset, .unset, .unset]) rfl ?_
    show Steps p.tables e below (T7.setTop (mkF m 31 #[.val (.int p1), .val (.ref x1), .val (.ref y1), .val (.ref xl), .val (.ref xm), .val (.ref yl), .val (.ref ym), .unset, .unset, .unset] [])) _
    refine XS.aloadN X7.here hx rfl (hb hby at_31) rfl rfl ?_
    show Steps p.tables e below (T7.setTop (mkF m 32 #[.val (.int p1), .val (.ref x1), .val (.ref y1), .val (.ref xl), .val (.ref xm), .val (.ref yl), .val (.ref ym), .unset, .unset, .unset] [(.ref xl)])) _
    refine st8 _ ?_
    show Steps p.tables e below (T8.setTop (mkF m 35 #[.val (.int p1), .val (.ref x1), .val (.ref y1), .val (.ref xl), .val (.ref xm), .val (.ref yl), .val (.ref ym), .unset, .unset, .unset] [(.int (1 : Int32))])) _
    have hc35 : ¬ ((1 : Int32) = (0 : Int32)) := by decide
    refine XS.ifNo X8.here hx rfl (hb hby at_35) rfl ((if0 _ _).trans (feq hc35).1) ?_
    show Steps p.tables e below (T8.setTop (mkF m 38 #[.val (.int p1), .val (.ref x1), .val (.ref y1), .val (.ref xl), .val (.ref xm), .val (.ref yl), .val (.ref ym), .unset, .unset, .unset] [])) _
    refine XS.aload X8.here hx rfl (hb hby at_38) rfl rfl ?_
    show Steps p.tables e below (T8.setTop (mkF m 40 #[.val (.int p1), .val (.ref x1), .val (.ref y1), .val (.ref xl), .val (.ref xm), .val (.ref yl), .val (.ref ym), .unset, .unset, .unset] [(.ref xm)])) _
    refine st9 _ ?_
    show Steps p.tables e below (T9.setTop (mkF m 43 #[.val (.int p1), .val (.ref x1), .val (.ref y1), .val (.ref xl), .val (.ref xm), .val (.ref yl), .val (.ref ym), .unset, .unset, .unset] [(.int (1 : Int32))])) _
    have hc43 : ¬ ((1 : Int32) = (0 : Int32)) := by decide
    refine XS.ifNo X9.here hx rfl (hb hby at_43) rfl ((if0 _ _).trans (feq hc43).1) ?_
    show Steps p.tables e below (T9.setTop (mkF m 46 #[.val (.int p1), .val (.ref x1), .val (.ref y1), .val (.ref xl), .val (.ref xm), .val (.ref yl), .val (.ref ym), .unset, .unset, .unset] [])) _
    refine XS.aload X9.here hx rfl (hb hby at_46) rfl rfl ?_
    show Steps p.tables e below (T9.setTop (mkF m 48 #[.val (.int p1), .val (.ref x1), .val (.ref y1), .val (.ref xl), .val (.ref xm), .val (.ref yl), .val (.ref ym), .unset, .unset, .unset] [(.ref yl)])) _
    refine st10 _ ?_
    show Steps p.tables e below (T10.setTop (mkF m 51 #[.val (.int p1), .val (.ref x1), .val (.ref y1), .val (.ref xl), .val (.ref xm), .val (.ref yl), .val (.ref ym), .unset, .unset, .unset] [(.int (1 : Int32))])) _
    have hc51 : ¬ ((1 : Int32) = (0 : Int32)) := by decide
    refine XS.ifNo X10.here hx rfl (hb hby at_51) rfl ((if0 _ _).trans (feq hc51).1) ?_
    show Steps p.tables e below (T10.setTop (mkF m 54 #[.val (.int p1), .val (.ref x1), .val (.ref y1), .val (.ref xl), .val (.ref xm), .val (.ref yl), .val (.ref ym), .unset, .unset, .unset] [])) _
    refine XS.aload X10.here hx rfl (hb hby at_54) rfl rfl ?_
    show Steps p.tables e below (T10.setTop (mkF m 56 #[.val (.int p1), .val (.ref x1), .val (.ref y1), .val (.ref xl), .val (.ref xm), .val (.ref yl), .val (.ref ym), .unset, .unset, .unset] [(.ref ym)])) _
    refine st11 _ ?_
    show Steps p.tables e below (T11.setTop (mkF m 59 #[.val (.int p1), .val (.ref x1), .val (.ref y1), .val (.ref xl), .val (.ref xm), .val (.ref yl), .val (.ref ym), .unset, .unset, .unset] [(.int (1 : Int32))])) _
    have hc59 : ¬ ((1 : Int32) = (0 : Int32)) := by decide
    refine XS.ifNo X11.here hx rfl (hb hby at_59) rfl ((if0 _ _).trans (feq hc59).1) ?_
    show Steps p.tables e below (T11.setTop (mkF m 62 #[.val (.int p1), .val (.ref x1), .val (.ref y1), .val (.ref xl), .val (.ref xm), .val (.ref yl), .val (.ref ym), .unset, .unset, .unset] [])) _
    refine XS.iconst X11.here hx rfl (hb hby at_62) ?_
    show Steps p.tables e below (T11.setTop (mkF m 63 #[.val (.int p1), .val (.ref x1), .val (.ref y1), .val (.ref xl), .val (.ref xm), .val (.ref yl), .val (.ref ym), .unset, .unset, .unset] [(.int (1 : Int32))])) _
    refine XS.goto X11.here hx rfl (pc0 := 63) (pc' := 67) rfl (hb hby at_63) (by decide) (by decide) ?_
    show Steps p.tables e below (T11.setTop (mkF m 67 #[.val (.int p1), .val (.ref x1), .val (.ref y1), .val (.ref xl), .val (.ref xm), .val (.ref yl), .val (.ref ym), .unset, .unset, .unset] [(.int (1 : Int32))])) _
    refine XS.istore X11.here hx rfl (hb hby at_67) rfl (l' := #[.val (.int p1), .val (.ref x1), .val (.ref y1), .val (.ref xl), .val (.ref xm), .val (.ref yl), .val (.ref ym), .val (.int (1 : Int32)), .unset, .unset]) rfl ?_
    show Steps p.tables e below (T11.setTop (mkF m 69 #[.val (.int p1), .val (.ref x1), .val (.ref y1), .val (.ref xl), .val (.ref xm), .val (.ref yl), .val (.ref ym), .val (.int (1 : Int32)), .unset, .unset] [])) _
    refine XS.aloadN X11.here hx rfl (hb hby at_69) rfl rfl ?_
    show Steps p.tables e below (T11.setTop (mkF m 70 #[.val (.int p1), .val (.ref x1), .val (.ref y1), .val (.ref xl), .val (.ref xm), .val (.ref yl), .val (.ref ym), .val (.int (1 : Int32)), .unset, .unset] [(.ref xl)])) _
    refine XS.aload X11.here hx rfl (hb hby at_70) rfl rfl ?_
    show Steps p.tables e below (T11.setTop (mkF m 72 #[.val (.int p1), .val (.ref x1), .val (.ref y1), .val (.ref xl), .val (.ref xm), .val (.ref yl), .val (.ref ym), .val (.int (1 : Int32)), .unset, .unset] [(.ref xm), (.ref xl)])) _
    have ha72 : ¬ (xl = xm) := nx
    refine Jvm.RoadKit.acmp (g := (mkF m 72 #[.val (.int p1), .val (.ref x1), .val (.ref y1), .val (.ref xl), .val (.ref xm), .val (.ref yl), .val (.ref ym), .val (.int (1 : Int32)), .unset, .unset] [(.ref xm), (.ref xl)])) X11 hx rfl rfl rfl (pc0 := 72) (pc' := 75) (same := false) rfl (hb hby at_72) rfl (decide_eq_false fun q => ha72 (Value.ref.inj q)) (by decide) (by decide) ?_
    show Steps p.tables e below (T11.setTop (mkF m 75 #[.val (.int p1), .val (.ref x1), .val (.ref y1), .val (.ref xl), .val (.ref xm), .val (.ref yl), .val (.ref ym), .val (.int (1 : Int32)), .unset, .unset] [])) _
    refine XS.aloadN X11.here hx rfl (hb hby at_75) rfl rfl ?_
    show Steps p.tables e below (T11.setTop (mkF m 76 #[.val (.int p1), .val (.ref x1), .val (.ref y1), .val (.ref xl), .val (.ref xm), .val (.ref yl), .val (.ref ym), .val (.int (1 : Int32)), .unset, .unset] [(.ref xl)])) _
    refine XS.aload X11.here hx rfl (hb hby at_76) rfl rfl ?_
    show Steps p.tables e below (T11.setTop (mkF m 78 #[.val (.int p1), .val (.ref x1), .val (.ref y1), .val (.ref xl), .val (.ref xm), .val (.ref yl), .val (.ref ym), .val (.int (1 : Int32)), .unset, .unset] [(.ref yl), (.ref xl)])) _
    have ha78 : ¬ (xl = yl) := dll
    refine Jvm.RoadKit.acmp (g := (mkF m 78 #[.val (.int p1), .val (.ref x1), .val (.ref y1), .val (.ref xl), .val (.ref xm), .val (.ref yl), .val (.ref ym), .val (.int (1 : Int32)), .unset, .unset] [(.ref yl), (.ref xl)])) X11 hx rfl rfl rfl (pc0 := 78) (pc' := 81) (same := false) rfl (hb hby at_78) rfl (decide_eq_false fun q => ha78 (Value.ref.inj q)) (by decide) (by decide) ?_
    show Steps p.tables e below (T11.setTop (mkF m 81 #[.val (.int p1), .val (.ref x1), .val (.ref y1), .val (.ref xl), .val (.ref xm), .val (.ref yl), .val (.ref ym), .val (.int (1 : Int32)), .unset, .unset] [])) _
    refine XS.aloadN X11.here hx rfl (hb hby at_81) rfl rfl ?_
    show Steps p.tables e below (T11.setTop (mkF m 82 #[.val (.int p1), .val (.ref x1), .val (.ref y1), .val (.ref xl), .val (.ref xm), .val (.ref yl), .val (.ref ym), .val (.int (1 : Int32)), .unset, .unset] [(.ref xl)])) _
    refine XS.aload X11.here hx rfl (hb hby at_82) rfl rfl ?_
    show Steps p.tables e below (T11.setTop (mkF m 84 #[.val (.int p1), .val (.ref x1), .val (.ref y1), .val (.ref xl), .val (.ref xm), .val (.ref yl), .val (.ref ym), .val (.int (1 : Int32)), .unset, .unset] [(.ref ym), (.ref xl)])) _
    have ha84 : ¬ (xl = ym) := dlm
    refine Jvm.RoadKit.acmp (g := (mkF m 84 #[.val (.int p1), .val (.ref x1), .val (.ref y1), .val (.ref xl), .val (.ref xm), .val (.ref yl), .val (.ref ym), .val (.int (1 : Int32)), .unset, .unset] [(.ref ym), (.ref xl)])) X11 hx rfl rfl rfl (pc0 := 84) (pc' := 87) (same := false) rfl (hb hby at_84) rfl (decide_eq_false fun q => ha84 (Value.ref.inj q)) (by decide) (by decide) ?_
    show Steps p.tables e below (T11.setTop (mkF m 87 #[.val (.int p1), .val (.ref x1), .val (.ref y1), .val (.ref xl), .val (.ref xm), .val (.ref yl), .val (.ref ym), .val (.int (1 : Int32)), .unset, .unset] [])) _
    refine XS.aload X11.here hx rfl (hb hby at_87) rfl rfl ?_
    show Steps p.tables e below (T11.setTop (mkF m 89 #[.val (.int p1), .val (.ref x1), .val (.ref y1), .val (.ref xl), .val (.ref xm), .val (.ref yl), .val (.ref ym), .val (.int (1 : Int32)), .unset, .unset] [(.ref xm)])) _
    refine XS.aload X11.here hx rfl (hb hby at_89) rfl rfl ?_
    show Steps p.tables e below (T11.setTop (mkF m 91 #[.val (.int p1), .val (.ref x1), .val (.ref y1), .val (.ref xl), .val (.ref xm), .val (.ref yl), .val (.ref ym), .val (.int (1 : Int32)), .unset, .unset] [(.ref yl), (.ref xm)])) _
    have ha91 : ¬ (xm = yl) := dml
    refine Jvm.RoadKit.acmp (g := (mkF m 91 #[.val (.int p1), .val (.ref x1), .val (.ref y1), .val (.ref xl), .val (.ref xm), .val (.ref yl), .val (.ref ym), .val (.int (1 : Int32)), .unset, .unset] [(.ref yl), (.ref xm)])) X11 hx rfl rfl rfl (pc0 := 91) (pc' := 94) (same := false) rfl (hb hby at_91) rfl (decide_eq_false fun q => ha91 (Value.ref.inj q)) (by decide) (by decide) ?_
    show Steps p.tables e below (T11.setTop (mkF m 94 #[.val (.int p1), .val (.ref x1), .val (.ref y1), .val (.ref xl), .val (.ref xm), .val (.ref yl), .val (.ref ym), .val (.int (1 : Int32)), .unset, .unset] [])) _
    refine XS.aload X11.here hx rfl (hb hby at_94) rfl rfl ?_
    show Steps p.tables e below (T11.setTop (mkF m 96 #[.val (.int p1), .val (.ref x1), .val (.ref y1), .val (.ref xl), .val (.ref xm), .val (.ref yl), .val (.ref ym), .val (.int (1 : Int32)), .unset, .unset] [(.ref xm)])) _
    refine XS.aload X11.here hx rfl (hb hby at_96) rfl rfl ?_
    show Steps p.tables e below (T11.setTop (mkF m 98 #[.val (.int p1), .val (.ref x1), .val (.ref y1), .val (.ref xl), .val (.ref xm), .val (.ref yl), .val (.ref ym), .val (.int (1 : Int32)), .unset, .unset] [(.ref ym), (.ref xm)])) _
    have ha98 : ¬ (xm = ym) := dmm
    refine Jvm.RoadKit.acmp (g := (mkF m 98 #[.val (.int p1), .val (.ref x1), .val (.ref y1), .val (.ref xl), .val (.ref xm), .val (.ref yl), .val (.ref ym), .val (.int (1 : Int32)), .unset, .unset] [(.ref ym), (.ref xm)])) X11 hx rfl rfl rfl (pc0 := 98) (pc' := 101) (same := false) rfl (hb hby at_98) rfl (decide_eq_false fun q => ha98 (Value.ref.inj q)) (by decide) (by decide) ?_
    show Steps p.tables e below (T11.setTop (mkF m 101 #[.val (.int p1), .val (.ref x1), .val (.ref y1), .val (.ref xl), .val (.ref xm), .val (.ref yl), .val (.ref ym), .val (.int (1 : Int32)), .unset, .unset] [])) _
    refine XS.aload X11.here hx rfl (hb hby at_101) rfl rfl ?_
    show Steps p.tables e below (T11.setTop (mkF m 103 #[.val (.int p1), .val (.ref x1), .val (.ref y1), .val (.ref xl), .val (.ref xm), .val (.ref yl), .val (.ref ym), .val (.int (1 : Int32)), .unset, .unset] [(.ref yl)])) _
    refine XS.aload X11.here hx rfl (hb hby at_103) rfl rfl ?_
    show Steps p.tables e below (T11.setTop (mkF m 105 #[.val (.int p1), .val (.ref x1), .val (.ref y1), .val (.ref xl), .val (.ref xm), .val (.ref yl), .val (.ref ym), .val (.int (1 : Int32)), .unset, .unset] [(.ref ym), (.ref yl)])) _
    have ha105 : ¬ (yl = ym) := ny
    refine Jvm.RoadKit.acmp (g := (mkF m 105 #[.val (.int p1), .val (.ref x1), .val (.ref y1), .val (.ref xl), .val (.ref xm), .val (.ref yl), .val (.ref ym), .val (.int (1 : Int32)), .unset, .unset] [(.ref ym), (.ref yl)])) X11 hx rfl rfl rfl (pc0 := 105) (pc' := 108) (same := false) rfl (hb hby at_105) rfl (decide_eq_false fun q => ha105 (Value.ref.inj q)) (by decide) (by decide) ?_
    show Steps p.tables e below (T11.setTop (mkF m 108 #[.val (.int p1), .val (.ref x1), .val (.ref y1), .val (.ref xl), .val (.ref xm), .val (.ref yl), .val (.ref ym), .val (.int (1 : Int32)), .unset, .unset] [])) _
    refine XS.iconst X11.here hx rfl (hb hby at_108) ?_
    show Steps p.tables e below (T11.setTop (mkF m 109 #[.val (.int p1), .val (.ref x1), .val (.ref y1), .val (.ref xl), .val (.ref xm), .val (.ref yl), .val (.ref ym), .val (.int (1 : Int32)), .unset, .unset] [(.int (1 : Int32))])) _
    refine XS.goto X11.here hx rfl (pc0 := 109) (pc' := 113) rfl (hb hby at_109) (by decide) (by decide) ?_
    show Steps p.tables e below (T11.setTop (mkF m 113 #[.val (.int p1), .val (.ref x1), .val (.ref y1), .val (.ref xl), .val (.ref xm), .val (.ref yl), .val (.ref ym), .val (.int (1 : Int32)), .unset, .unset] [(.int (1 : Int32))])) _
    refine XS.istore X11.here hx rfl (hb hby at_113) rfl (l' := #[.val (.int p1), .val (.ref x1), .val (.ref y1), .val (.ref xl), .val (.ref xm), .val (.ref yl), .val (.ref ym), .val (.int (1 : Int32)), .val (.int (1 : Int32)), .unset]) rfl ?_
    show Steps p.tables e below (T11.setTop (mkF m 115 #[.val (.int p1), .val (.ref x1), .val (.ref y1), .val (.ref xl), .val (.ref xm), .val (.ref yl), .val (.ref ym), .val (.int (1 : Int32)), .val (.int (1 : Int32)), .unset] [])) _
    refine XS.aloadN X11.here hx rfl (hb hby at_115) rfl rfl ?_
    show Steps p.tables e below (T11.setTop (mkF m 116 #[.val (.int p1), .val (.ref x1), .val (.ref y1), .val (.ref xl), .val (.ref xm), .val (.ref yl), .val (.ref ym), .val (.int (1 : Int32)), .val (.int (1 : Int32)), .unset] [(.ref x1)])) _
    refine st12.trans ?_
    show Steps p.tables e below (T12.setTop (mkF m 119 #[.val (.int p1), .val (.ref x1), .val (.ref y1), .val (.ref xl), .val (.ref xm), .val (.ref yl), .val (.ref ym), .val (.int (1 : Int32)), .val (.int (1 : Int32)), .unset] [(.ref xl)])) _
    refine XS.aloadN X12.here hx rfl (hb hby at_119) rfl rfl ?_
    show Steps p.tables e below (T12.setTop (mkF m 120 #[.val (.int p1), .val (.ref x1), .val (.ref y1), .val (.ref xl), .val (.ref xm), .val (.ref yl), .val (.ref ym), .val (.int (1 : Int32)), .val (.int (1 : Int32)), .unset] [(.ref xl), (.ref xl)])) _
    refine Jvm.RoadKit.acmp (g := (mkF m 120 #[.val (.int p1), .val (.ref x1), .val (.ref y1), .val (.ref xl), .val (.ref xm), .val (.ref yl), .val (.ref ym), .val (.int (1 : Int32)), .val (.int (1 : Int32)), .unset] [(.ref xl), (.ref xl)])) X12 hx rfl rfl rfl (pc0 := 120) (pc' := 123) (same := true) rfl (hb hby at_120) rfl (decide_eq_true rfl) (by decide) (by decide) ?_
    show Steps p.tables e below (T12.setTop (mkF m 123 #[.val (.int p1), .val (.ref x1), .val (.ref y1), .val (.ref xl), .val (.ref xm), .val (.ref yl), .val (.ref ym), .val (.int (1 : Int32)), .val (.int (1 : Int32)), .unset] [])) _
    refine XS.aloadN X12.here hx rfl (hb hby at_123) rfl rfl ?_
    show Steps p.tables e below (T12.setTop (mkF m 124 #[.val (.int p1), .val (.ref x1), .val (.ref y1), .val (.ref xl), .val (.ref xm), .val (.ref yl), .val (.ref ym), .val (.int (1 : Int32)), .val (.int (1 : Int32)), .unset] [(.ref x1)])) _
    refine st13.trans ?_
    show Steps p.tables e below (T13.setTop (mkF m 127 #[.val (.int p1), .val (.ref x1), .val (.ref y1), .val (.ref xl), .val (.ref xm), .val (.ref yl), .val (.ref ym), .val (.int (1 : Int32)), .val (.int (1 : Int32)), .unset] [(.ref xm)])) _
    refine XS.aload X13.here hx rfl (hb hby at_127) rfl rfl ?_
    show Steps p.tables e below (T13.setTop (mkF m 129 #[.val (.int p1), .val (.ref x1), .val (.ref y1), .val (.ref xl), .val (.ref xm), .val (.ref yl), .val (.ref ym), .val (.int (1 : Int32)), .val (.int (1 : Int32)), .unset] [(.ref xm), (.ref xm)])) _
    refine Jvm.RoadKit.acmp (g := (mkF m 129 #[.val (.int p1), .val (.ref x1), .val (.ref y1), .val (.ref xl), .val (.ref xm), .val (.ref yl), .val (.ref ym), .val (.int (1 : Int32)), .val (.int (1 : Int32)), .unset] [(.ref xm), (.ref xm)])) X13 hx rfl rfl rfl (pc0 := 129) (pc' := 132) (same := true) rfl (hb hby at_129) rfl (decide_eq_true rfl) (by decide) (by decide) ?_
    show Steps p.tables e below (T13.setTop (mkF m 132 #[.val (.int p1), .val (.ref x1), .val (.ref y1), .val (.ref xl), .val (.ref xm), .val (.ref yl), .val (.ref ym), .val (.int (1 : Int32)), .val (.int (1 : Int32)), .unset] [])) _
    refine XS.iconst X13.here hx rfl (hb hby at_132) ?_
    show Steps p.tables e below (T13.setTop (mkF m 133 #[.val (.int p1), .val (.ref x1), .val (.ref y1), .val (.ref xl), .val (.ref xm), .val (.ref yl), .val (.ref ym), .val (.int (1 : Int32)), .val (.int (1 : Int32)), .unset] [(.int (1 : Int32))])) _
    refine XS.goto X13.here hx rfl (pc0 := 133) (pc' := 137) rfl (hb hby at_133) (by decide) (by decide) ?_
    show Steps p.tables e below (T13.setTop (mkF m 137 #[.val (.int p1), .val (.ref x1), .val (.ref y1), .val (.ref xl), .val (.ref xm), .val (.ref yl), .val (.ref ym), .val (.int (1 : Int32)), .val (.int (1 : Int32)), .unset] [(.int (1 : Int32))])) _
    refine XS.istore X13.here hx rfl (hb hby at_137) rfl (l' := #[.val (.int p1), .val (.ref x1), .val (.ref y1), .val (.ref xl), .val (.ref xm), .val (.ref yl), .val (.ref ym), .val (.int (1 : Int32)), .val (.int (1 : Int32)), .val (.int (1 : Int32))]) rfl ?_
    show Steps p.tables e below (T13.setTop (mkF m 139 #[.val (.int p1), .val (.ref x1), .val (.ref y1), .val (.ref xl), .val (.ref xm), .val (.ref yl), .val (.ref ym), .val (.int (1 : Int32)), .val (.int (1 : Int32)), .val (.int (1 : Int32))] [])) _
    refine XS.iload X13.here hx rfl (hb hby at_139) rfl ?_
    show Steps p.tables e below (T13.setTop (mkF m 141 #[.val (.int p1), .val (.ref x1), .val (.ref y1), .val (.ref xl), .val (.ref xm), .val (.ref yl), .val (.ref ym), .val (.int (1 : Int32)), .val (.int (1 : Int32)), .val (.int (1 : Int32))] [(.int (1 : Int32))])) _
    have hc141 : ¬ ((1 : Int32) = (0 : Int32)) := by decide
    refine XS.ifNo X13.here hx rfl (hb hby at_141) rfl ((if0 _ _).trans (feq hc141).1) ?_
    show Steps p.tables e below (T13.setTop (mkF m 144 #[.val (.int p1), .val (.ref x1), .val (.ref y1), .val (.ref xl), .val (.ref xm), .val (.ref yl), .val (.ref ym), .val (.int (1 : Int32)), .val (.int (1 : Int32)), .val (.int (1 : Int32))] [])) _
    refine XS.iload X13.here hx rfl (hb hby at_144) rfl ?_
    show Steps p.tables e below (T13.setTop (mkF m 146 #[.val (.int p1), .val (.ref x1), .val (.ref y1), .val (.ref xl), .val (.ref xm), .val (.ref yl), .val (.ref ym), .val (.int (1 : Int32)), .val (.int (1 : Int32)), .val (.int (1 : Int32))] [(.int (1 : Int32))])) _
    have hc146 : ¬ ((1 : Int32) = (0 : Int32)) := by decide
    refine XS.ifNo X13.here hx rfl (hb hby at_146) rfl ((if0 _ _).trans (feq hc146).1) ?_
    show Steps p.tables e below (T13.setTop (mkF m 149 #[.val (.int p1), .val (.ref x1), .val (.ref y1), .val (.ref xl), .val (.ref xm), .val (.ref yl), .val (.ref ym), .val (.int (1 : Int32)), .val (.int (1 : Int32)), .val (.int (1 : Int32))] [])) _
    refine XS.iload X13.here hx rfl (hb hby at_149) rfl ?_
    show Steps p.tables e below (T13.setTop (mkF m 151 #[.val (.int p1), .val (.ref x1), .val (.ref y1), .val (.ref xl), .val (.ref xm), .val (.ref yl), .val (.ref ym), .val (.int (1 : Int32)), .val (.int (1 : Int32)), .val (.int (1 : Int32))] [(.int (1 : Int32))])) _
    have hc151 : ¬ ((1 : Int32) = (0 : Int32)) := by decide
    refine XS.ifNo X13.here hx rfl (hb hby at_151) rfl ((if0 _ _).trans (feq hc151).1) ?_
    show Steps p.tables e below (T13.setTop (mkF m 154 #[.val (.int p1), .val (.ref x1), .val (.ref y1), .val (.ref xl), .val (.ref xm), .val (.ref yl), .val (.ref ym), .val (.int (1 : Int32)), .val (.int (1 : Int32)), .val (.int (1 : Int32))] [])) _
    refine XS.iconst X13.here hx rfl (hb hby at_154) ?_
    show Steps p.tables e below (T13.setTop (mkF m 155 #[.val (.int p1), .val (.ref x1), .val (.ref y1), .val (.ref xl), .val (.ref xm), .val (.ref yl), .val (.ref ym), .val (.int (1 : Int32)), .val (.int (1 : Int32)), .val (.int (1 : Int32))] [(.int (1 : Int32))])) _
    refine XS.goto X13.here hx rfl (pc0 := 155) (pc' := 159) rfl (hb hby at_155) (by decide) (by decide) ?_
    show Steps p.tables e below (T13.setTop (mkF m 159 #[.val (.int p1), .val (.ref x1), .val (.ref y1), .val (.ref xl), .val (.ref xm), .val (.ref yl), .val (.ref ym), .val (.int (1 : Int32)), .val (.int (1 : Int32)), .val (.int (1 : Int32))] [(.int (1 : Int32))])) _
    exact retN X13 hx (t := .boolean) Bd.returns (by simp) (hb hby at_159) hr
  · show Q0 Z p1 h0 n0 _ T13.heap _
    exact ⟨rfl, N13⟩
-- 5. FROM THE CASE'S WORDS TO rm0, AND THE OWED THEOREMS
set_option maxRecDepth 65536 in
set_option maxHeartbeats 40000000 in
theorem comes_1 {Post : Tables → Env → Array Value → State → Outcome → State → Prop} (hpost : ∀ tb e args s v u, (limb_1_1.after args s (.returned v) u = true ∧ limb_1_2.after args s (.returned v) u = true ∧ True) → FrameEnd s (.returned v) u (Jvm.fieldLocs frame_1_writes args s ++ Jvm.arrayLocs frame_1_arrays args s ++ Jvm.staticLocs frame_1_statics s) 32 192 → Post tb e args s (.returned v) u) :
    ArmFor flags0 classFile x code maxLocals ret World_1 tables_1 room_1 Calls_1 rest_1 Pre_1 Post := by
  intro l hfl _ _ p e ha hc hk s m args below hf hA hF happ hP
  obtain ⟨hcalls, hrest, hpre⟩ := hP
  obtain ⟨-, -, -, hnamed, -, -, -, hat⟩ := (Spec.applies_iff hf).mp happ
  obtain ⟨hg, hn⟩ := and_e (Cond.before_iff.mp (show (Jvm.Cond.and given_1 narrow_1).before args s = true from hpre))
  obtain ⟨g14, g15⟩ := and_e hg
  obtain ⟨w0, rfl⟩ : ∃ w0 : Value, args = #[w0] := by
    have hs : args.size = 1 := by simpa [Cond.value, given_1] using g14
    obtain ⟨L⟩ := args
    match L, hs with
    | [w0], _ => exact ⟨w0, rfl⟩
  have hw := fun d (hd : d ∈ tables_1) => atoms_spec (ws := Jvm.Cond.code x code maxLocals ret :: tables_1) hat d (List.mem_cons_of_mem _ hd)
  have hfit : Fit s := fun {y c} hc i hi => by
    obtain ⟨ha, rfl⟩ := Array.getElem?_eq_some_iff.mp hc
    have q := List.all_eq_true.mp ((Array.all_eq_true_iff_forall_mem.mp hF) _ (Array.getElem_mem ha)) i (List.mem_range.mpr hi)
    simpa [Array.getElem?_eq_getElem hi] using q
  obtain ⟨i0, ei0⟩ := is_v g15
  obtain rfl : w0 = (.int i0) := Option.some.inj ei0
  obtain ⟨n, o, h1, h2, h3, _, L, rfl, ⟨rfl, N⟩, hq⟩ := rm0 l s _ hw tables_1 i0 s.heap s.heap.size (Nat.le_refl _) p e ha hc hk s m _ below hf ((Spec.applies_iff_loose hf).mp happ).1 ⟨rfl, State.Warmed39.refl s, rfl⟩ trivial
  refine ⟨n, _, h1, h2, h3, hpost _ _ _ _ _ _ ⟨Cond.after_iff.mpr rfl, Cond.after_iff.mpr (eq_i res_at (Term.int_eval (1)) rfl), trivial⟩ ⟨hq.1, hq.2.1, (hq.2.2.sift fun y hy => Or.inr (N y hy)).mono (by decide) (by decide)⟩⟩
theorem main_1_1 : Claimed_1_1 := comes_1 fun _ _ _ _ _ _ h hF => ⟨h.1, hF⟩
theorem main_1_2 : Claimed_1_2 := comes_1 fun _ _ _ _ _ _ h hF => ⟨h.2.1, hF⟩
-- 6. THE WITNESS: 'witness <made dir> --arg ..' lays it behind; then: end Jvm.Pilot.@@N@@
end Jvm.Pilot.@@N@@
namespace Jvm.Pilot.@@N@@
open Jvm Jvm.ClassFile Sem Op Lib Jvm.Free Jvm.Stand Jvm.Pilot.@@N@@.Jvm.D
/-! MADE BY PROGRAM (witnessworld.py) out of the Statement's table words and the real class files: 15 classes; the members and pool entries that the words name. The judged class is class 1, her method 1. -/
namespace start1
open Jvm.ClassFile
def u (s : String) : CpInfo := .utf8 (stringToUtf16 s)
/-- a pool by its gaps: so many unusable entries, then the entry; so many at the end -/
def gap : Nat → List CpInfo → List CpInfo
  | 0, r => r
  | n + 1, r => .unusable :: gap n r
def poolList (es : List (Nat × CpInfo)) (last : Nat) : List CpInfo := es.foldr (fun e r => gap e.1 (e.2 :: r)) (gap last [])
def pool (es : List (Nat × CpInfo)) (last : Nat) : Array CpInfo := ⟨poolList es last⟩
def fileOf (pool : Array CpInfo) (this : Nat) (attrs : Array Attribute := #[]) (ms : Array MethodInfo := #[]) (fl : Nat := 33) (sup : Nat := 0) (ifs : Array Nat := #[]) (fds : Array FieldInfo := #[]) : ClassFile where
  minorVersion := 0
  majorVersion := 65
  constantPool := pool
  accessFlags := fl
  thisClass := this
  superClass := sup
  interfaces := ifs
  fields := fds
  methods := ms
  attributes := attrs
def plain (name : String) (sup : Option ClassId) : Class where
  name := name
  kind := .ordinary
  loader := none
  accessFlags := 33
  super := sup
  interfaces := #[]
  cf := none
  fields := #[]
  methods := #[]
  instanceTypes := #[]
  staticTypes := #[]
  resolved := #[]
  callSites := []
  init := .initialized
  statics := none
  mirror := none

def pool0 : Array CpInfo := pool [(5, u "<init>"), (0, u "()V"), (1, .class_ 10), (1, u "java/lang/Object")] 113

def k0c0 : Code := { maxStack := 0, maxLocals := 1, code := object_method_1_code, exceptionTable := #[], attributes := #[] }
def k0m0 : Method := { name := "<init>", desc := "()V", sig := { parameters := [], returnType := none }, accessFlags := 1, code := some k0c0 }
/-- java/lang/Object -/
def k0 : Class := { plain "java/lang/Object" none with
  accessFlags := 33
  interfaces := #[]
  cf := some (fileOf pool0 8 #[] #[{ accessFlags := 1, nameIndex := 5, descriptorIndex := 6, attributes := #[] }] 33 0 #[] #[])
  fields := #[]
  methods := #[k0m0]
  instanceTypes := #[]
  staticTypes := #[]
  resolved := Array.replicate 124 none
  statics := none }

def pool1 : Array CpInfo := pool [(2, .class_ 4), (1, u "java/lang/Object"), (0, u "<init>"), (0, u "()V"), (0, .methodref 8 9), (0, .class_ 10), (0, .nameAndType 11 12), (0, u "com/example/latchkey/latchkey/security/SaltStores"), (0, u "inMemory"), (0, u "()Lcom/example/latchkey/latchkey/security/SaltStores;"), (0, .methodref 8 14), (0, .nameAndType 15 16), (0, u "login"), (0, u "()Lcom/example/latchkey/latchkey/security/Salts;"), (0, .methodref 8 18), (0, .nameAndType 19 16), (0, u "machine"), (0, .class_ 21), (0, u "com/example/latchkey/latchkey/security/MemorySalts"), (0, .class_ 23), (0, u "com/example/latchkey/latchkey/security/SaltStoresInMemoryPinLaw"), (2, u "law"), (0, u "(I)Z")] 5

def k1m0 : Method := { name := "<init>", desc := "()V", sig := { parameters := [], returnType := none }, accessFlags := 1, code := none }
def k1c1 : Code := { maxStack := 2, maxLocals := 10, code := code, exceptionTable := #[], attributes := #[] }
def k1m1 : Method := { name := "law", desc := "(I)Z", sig := { parameters := [.int], returnType := some .boolean }, accessFlags := 9, code := some k1c1 }
/-- com/example/latchkey/latchkey/security/SaltStoresInMemoryPinLaw -/
def k1 : Class := { plain "com/example/latchkey/latchkey/security/SaltStoresInMemoryPinLaw" (some 0) with
  accessFlags := 49
  interfaces := #[]
  cf := some (fileOf pool1 22 #[] #[{ accessFlags := 1, nameIndex := 5, descriptorIndex := 6, attributes := #[] }, { accessFlags := 9, nameIndex := 26, descriptorIndex := 27, attributes := #[] }] 49 2 #[] #[])
  fields := #[]
  methods := #[k1m0, k1m1]
  instanceTypes := #[]
  staticTypes := #[]
  resolved := Array.replicate 33 none
  statics := none }

def pool2 : Array CpInfo := pool [(1, .methodref 2 3), (0, .class_ 4), (0, .nameAndType 5 6), (0, u "java/lang/Object"), (0, u "<init>"), (0, u "()V"), (0, .fieldref 8 9), (0, .class_ 10), (0, .nameAndType 11 12), (0, u "com/example/latchkey/latchkey/security/SaltStores"), (0, u "login"), (0, u "Lcom/example/latchkey/latchkey/security/Salts;"), (0, .fieldref 8 14), (0, .nameAndType 15 12), (0, u "machine"), (0, .class_ 17), (0, u "com/example/latchkey/latchkey/security/MemorySalts"), (0, .methodref 16 3), (0, .methodref 8 20), (0, .nameAndType 5 21), (0, u "(Lcom/example/latchkey/latchkey/security/Salts;Lcom/example/latchkey/latchkey/security/Salts;)V"), (14, u "MACHINE_SALTS_DIRECTORY"), (0, u "Ljava/lang/String;"), (3, u "inMemory"), (0, u "()Lcom/example/latchkey/latchkey/security/SaltStores;"), (2, u "()Lcom/example/latchkey/latchkey/security/Salts;")] 2

def k2c0 : Code := { maxStack := 2, maxLocals := 3, code := prog_14_method_1_code, exceptionTable := #[], attributes := #[] }
def k2m0 : Method := { name := "<init>", desc := "(Lcom/example/latchkey/latchkey/security/Salts;Lcom/example/latchkey/latchkey/security/Salts;)V", sig := { parameters := [(.object "com/example/latchkey/latchkey/security/Salts"), (.object "com/example/latchkey/latchkey/security/Salts")], returnType := none }, accessFlags := 2, code := some k2c0 }
def k2c1 : Code := { maxStack := 5, maxLocals := 0, code := prog_14_method_2_code, exceptionTable := #[], attributes := #[] }
def k2m1 : Method := { name := "inMemory", desc := "()Lcom/example/latchkey/latchkey/security/SaltStores;", sig := { parameters := [], returnType := some (.object "com/example/latchkey/latchkey/security/SaltStores") }, accessFlags := 9, code := some k2c1 }
def k2c2 : Code := { maxStack := 1, maxLocals := 1, code := prog_14_method_4_code, exceptionTable := #[], attributes := #[] }
def k2m2 : Method := { name := "login", desc := "()Lcom/example/latchkey/latchkey/security/Salts;", sig := { parameters := [], returnType := some (.object "com/example/latchkey/latchkey/security/Salts") }, accessFlags := 1, code := some k2c2 }
def k2c3 : Code := { maxStack := 1, maxLocals := 1, code := prog_14_method_5_code, exceptionTable := #[], attributes := #[] }
def k2m3 : Method := { name := "machine", desc := "()Lcom/example/latchkey/latchkey/security/Salts;", sig := { parameters := [], returnType := some (.object "com/example/latchkey/latchkey/security/Salts") }, accessFlags := 1, code := some k2c3 }
/-- com/example/latchkey/latchkey/security/SaltStores -/
def k2 : Class := { plain "com/example/latchkey/latchkey/security/SaltStores" (some 0) with
  accessFlags := 49
  interfaces := #[]
  cf := some (fileOf pool2 8 #[] #[{ accessFlags := 2, nameIndex := 5, descriptorIndex := 21, attributes := #[] }, { accessFlags := 9, nameIndex := 41, descriptorIndex := 42, attributes := #[] }, { accessFlags := 1, nameIndex := 11, descriptorIndex := 45, attributes := #[] }, { accessFlags := 1, nameIndex := 15, descriptorIndex := 45, attributes := #[] }] 49 2 #[] #[{ accessFlags := 26, nameIndex := 36, descriptorIndex := 37, attributes := #[] }, { accessFlags := 18, nameIndex := 11, descriptorIndex := 12, attributes := #[] }, { accessFlags := 18, nameIndex := 15, descriptorIndex := 12, attributes := #[] }])
  fields := #[{ name := "MACHINE_SALTS_DIRECTORY", type := (.object "java/lang/String"), accessFlags := 26, slot := 0, constantValue := 0 }, { name := "login", type := (.object "com/example/latchkey/latchkey/security/Salts"), accessFlags := 18, slot := 0, constantValue := 0 }, { name := "machine", type := (.object "com/example/latchkey/latchkey/security/Salts"), accessFlags := 18, slot := 1, constantValue := 0 }]
  methods := #[k2m0, k2m1, k2m2, k2m3]
  instanceTypes := #[(.object "com/example/latchkey/latchkey/security/Salts"), (.object "com/example/latchkey/latchkey/security/Salts")]
  staticTypes := #[(.object "java/lang/String")]
  resolved := Array.replicate 48 none
  statics := none }

def pool3 : Array CpInfo := pool [(1, .class_ 2), (0, u "com/example/latchkey/latchkey/security/Salts"), (0, .class_ 4), (0, u "java/lang/Object"), (0, u "BYTES"), (0, u "I")] 14

/-- com/example/latchkey/latchkey/security/Salts -/
def k3 : Class := { plain "com/example/latchkey/latchkey/security/Salts" (some 0) with
  accessFlags := 1537
  interfaces := #[]
  cf := some (fileOf pool3 1 #[] #[] 1537 3 #[] #[{ accessFlags := 25, nameIndex := 5, descriptorIndex := 6, attributes := #[] }])
  fields := #[{ name := "BYTES", type := .int, accessFlags := 25, slot := 0, constantValue := 0 }]
  methods := #[]
  instanceTypes := #[]
  staticTypes := #[.int]
  resolved := Array.replicate 21 none
  statics := none }

def pool4 : Array CpInfo := pool [(1, .methodref 2 3), (0, .class_ 4), (0, .nameAndType 5 6), (0, u "java/lang/Object"), (0, u "<init>"), (0, u "()V"), (0, .class_ 8), (0, u "java/util/concurrent/ConcurrentHashMap"), (0, .methodref 7 3), (0, .fieldref 11 12), (0, .class_ 13), (0, .nameAndType 14 15), (0, u "com/example/latchkey/latchkey/security/MemorySalts"), (0, u "salts"), (0, u "Ljava/util/concurrent/ConcurrentMap;"), (28, .class_ 45), (0, u "com/example/latchkey/latchkey/security/Salts")] 33

def k4c0 : Code := { maxStack := 3, maxLocals := 1, code := prog_13_method_1_code, exceptionTable := #[], attributes := #[] }
def k4m0 : Method := { name := "<init>", desc := "()V", sig := { parameters := [], returnType := none }, accessFlags := 1, code := some k4c0 }
/-- com/example/latchkey/latchkey/security/MemorySalts -/
def k4 : Class := { plain "com/example/latchkey/latchkey/security/MemorySalts" (some 0) with
  accessFlags := 49
  interfaces := #[3]
  cf := some (fileOf pool4 11 #[] #[{ accessFlags := 1, nameIndex := 5, descriptorIndex := 6, attributes := #[] }] 49 2 #[44] #[{ accessFlags := 18, nameIndex := 14, descriptorIndex := 15, attributes := #[] }])
  fields := #[{ name := "salts", type := (.object "java/util/concurrent/ConcurrentMap"), accessFlags := 18, slot := 0, constantValue := 0 }]
  methods := #[k4m0]
  instanceTypes := #[(.object "java/util/concurrent/ConcurrentMap")]
  staticTypes := #[]
  resolved := Array.replicate 79 none
  statics := none }

def pool5 : Array CpInfo := pool [(2, .class_ 4), (1, u "java/util/Map"), (31, .class_ 37), (0, u "java/util/Map$Entry"), (55, .class_ 94), (0, u "java/lang/Object")] 168

/-- java/util/Map -/
def k5 : Class := { plain "java/util/Map" (some 0) with
  accessFlags := 1537
  interfaces := #[]
  cf := some (fileOf pool5 2 #[.nestMembers #[36]] #[] 1537 93 #[] #[])
  fields := #[]
  methods := #[]
  instanceTypes := #[]
  staticTypes := #[]
  resolved := Array.replicate 263 none
  statics := none }

def pool6 : Array CpInfo := pool [(1, .methodref 2 3), (0, .class_ 4), (0, .nameAndType 5 6), (0, u "java/lang/Object"), (0, u "<init>"), (0, u "()V"), (1, .class_ 10), (1, u "java/util/AbstractMap"), (42, .class_ 54), (0, u "java/util/Map"), (9, u "keySet"), (0, u "Ljava/util/Set;"), (0, .class_ 67), (0, u "java/util/AbstractMap$1"), (5, u "values"), (0, u "Ljava/util/Collection;"), (0, .class_ 76), (0, u "java/util/AbstractMap$2"), (104, .class_ 182), (0, u "java/util/AbstractMap$ViewCollection"), (0, .class_ 184), (0, u "java/util/AbstractMap$SimpleImmutableEntry"), (0, .class_ 186), (0, u "java/util/AbstractMap$SimpleEntry"), (0, .class_ 188), (0, u "java/util/AbstractMap$2$1"), (0, .class_ 190), (0, u "java/util/AbstractMap$1$1")] 5

def k6c0 : Code := { maxStack := 1, maxLocals := 1, code := jdk_71_method_1_code, exceptionTable := #[], attributes := #[] }
def k6m0 : Method := { name := "<init>", desc := "()V", sig := { parameters := [], returnType := none }, accessFlags := 4, code := some k6c0 }
/-- java/util/AbstractMap -/
def k6 : Class := { plain "java/util/AbstractMap" (some 0) with
  accessFlags := 1057
  interfaces := #[5]
  cf := some (fileOf pool6 8 #[.nestMembers #[181, 183, 185, 75, 187, 66, 189]] #[{ accessFlags := 4, nameIndex := 5, descriptorIndex := 6, attributes := #[] }] 1057 2 #[53] #[{ accessFlags := 128, nameIndex := 64, descriptorIndex := 65, attributes := #[] }, { accessFlags := 128, nameIndex := 73, descriptorIndex := 74, attributes := #[] }])
  fields := #[{ name := "keySet", type := (.object "java/util/Set"), accessFlags := 128, slot := 0, constantValue := 0 }, { name := "values", type := (.object "java/util/Collection"), accessFlags := 128, slot := 1, constantValue := 0 }]
  methods := #[k6m0]
  instanceTypes := #[(.object "java/util/Set"), (.object "java/util/Collection")]
  staticTypes := #[]
  resolved := Array.replicate 196 none
  statics := none }

def pool7 : Array CpInfo := pool [(2, .class_ 4), (1, u "java/util/concurrent/ConcurrentMap"), (71, .class_ 77), (0, u "java/lang/Object"), (0, .class_ 79), (0, u "java/util/Map")] 77

/-- java/util/concurrent/ConcurrentMap -/
def k7 : Class := { plain "java/util/concurrent/ConcurrentMap" (some 0) with
  accessFlags := 1537
  interfaces := #[5]
  cf := some (fileOf pool7 2 #[] #[] 1537 76 #[78] #[])
  fields := #[]
  methods := #[]
  instanceTypes := #[]
  staticTypes := #[]
  resolved := Array.replicate 157 none
  statics := none }

def pool8 : Array CpInfo := pool [(1, .class_ 2), (0, u "java/io/Serializable"), (0, .class_ 4), (0, u "java/lang/Object")] 2

/-- java/io/Serializable -/
def k8 : Class := { plain "java/io/Serializable" (some 0) with
  accessFlags := 1537
  interfaces := #[]
  cf := some (fileOf pool8 1 #[] #[] 1537 3 #[] #[])
  fields := #[]
  methods := #[]
  instanceTypes := #[]
  staticTypes := #[]
  resolved := Array.replicate 7 none
  statics := none }

def pool9 : Array CpInfo := pool [(3, .class_ 4), (0, u "java/util/concurrent/ConcurrentHashMap"), (37, u "U"), (0, u "Ljdk/internal/misc/Unsafe;"), (2, u "ASHIFT"), (0, u "I"), (2, u "ABASE"), (6, .class_ 58), (0, u "java/util/concurrent/ConcurrentHashMap$Node"), (8, .methodref 68 69), (0, .class_ 70), (0, .nameAndType 71 72), (0, u "java/util/AbstractMap"), (0, u "<init>"), (0, u "()V"), (6, u "sizeCtl"), (27, u "table"), (0, u "[Ljava/util/concurrent/ConcurrentHashMap$Node;"), (33, .class_ 143), (0, u "java/util/concurrent/ConcurrentHashMap$Traverser"), (26, .class_ 171), (0, u "java/util/concurrent/ConcurrentHashMap$TreeBin"), (4, .class_ 177), (0, u "java/util/concurrent/ConcurrentHashMap$ReservationNode"), (26, u "entrySet"), (37, .class_ 244), (1, u "java/util/concurrent/ConcurrentHashMap$TreeNode"), (18, u "keySet"), (0, u "Ljava/util/concurrent/ConcurrentHashMap$KeySetView;"), (0, .class_ 266), (0, u "java/util/concurrent/ConcurrentHashMap$KeySetView"), (5, u "values"), (0, u "Ljava/util/concurrent/ConcurrentHashMap$ValuesView;"), (0, .class_ 275), (0, u "java/util/concurrent/ConcurrentHashMap$ValuesView"), (5, u "Ljava/util/concurrent/ConcurrentHashMap$EntrySetView;"), (0, .class_ 283), (0, u "java/util/concurrent/ConcurrentHashMap$EntrySetView"), (18, .class_ 303), (0, u "java/util/concurrent/ConcurrentHashMap$Segment"), (54, u "baseCount"), (0, u "J"), (29, .class_ 390), (0, u "java/util/concurrent/ConcurrentHashMap$KeyIterator"), (3, .class_ 395), (0, u "java/util/concurrent/ConcurrentHashMap$ValueIterator"), (18, u "SIZECTL"), (6, u "counterCells"), (0, u "[Ljava/util/concurrent/ConcurrentHashMap$CounterCell;"), (2, u "BASECOUNT"), (11, u "CELLVALUE"), (1, .class_ 441), (1, u "java/util/concurrent/ConcurrentHashMap$CounterCell"), (11, u "nextTable"), (2, u "transferIndex"), (4, .class_ 462), (0, u "java/util/concurrent/ConcurrentHashMap$ForwardingNode"), (4, u "NCPU"), (7, u "TRANSFERINDEX"), (5, u "cellsBusy"), (5, u "CELLSBUSY"), (19, .class_ 508), (0, u "java/util/concurrent/ConcurrentHashMap$ForEachMappingTask"), (10, .class_ 520), (0, u "java/util/concurrent/ConcurrentHashMap$ForEachTransformedMappingTask"), (4, .class_ 526), (0, u "java/util/concurrent/ConcurrentHashMap$SearchMappingsTask"), (7, .class_ 535), (0, u "java/util/concurrent/ConcurrentHashMap$MapReduceMappingsTask"), (4, .class_ 541), (0, u "java/util/concurrent/ConcurrentHashMap$MapReduceMappingsToDoubleTask"), (10, .class_ 553), (0, u "java/util/concurrent/ConcurrentHashMap$MapReduceMappingsToLongTask"), (7, .class_ 562), (0, u "java/util/concurrent/ConcurrentHashMap$MapReduceMappingsToIntTask"), (7, .class_ 571), (0, u "java/util/concurrent/ConcurrentHashMap$ForEachKeyTask"), (4, .class_ 577), (0, u "java/util/concurrent/ConcurrentHashMap$ForEachTransformedKeyTask"), (4, .class_ 583), (0, u "java/util/concurrent/ConcurrentHashMap$SearchKeysTask"), (4, .class_ 589), (0, u "java/util/concurrent/ConcurrentHashMap$ReduceKeysTask"), (4, .class_ 595), (0, u "java/util/concurrent/ConcurrentHashMap$MapReduceKeysTask"), (4, .class_ 601), (0, u "java/util/concurrent/ConcurrentHashMap$MapReduceKeysToDoubleTask"), (4, .class_ 607), (0, u "java/util/concurrent/ConcurrentHashMap$MapReduceKeysToLongTask"), (4, .class_ 613), (0, u "java/util/concurrent/ConcurrentHashMap$MapReduceKeysToIntTask"), (4, .class_ 619), (0, u "java/util/concurrent/ConcurrentHashMap$ForEachValueTask"), (2, .class_ 623), (0, u "java/util/concurrent/ConcurrentHashMap$ForEachTransformedValueTask"), (2, .class_ 627), (0, u "java/util/concurrent/ConcurrentHashMap$SearchValuesTask"), (2, .class_ 631), (0, u "java/util/concurrent/ConcurrentHashMap$ReduceValuesTask"), (4, .class_ 637), (0, u "java/util/concurrent/ConcurrentHashMap$MapReduceValuesTask"), (4, .class_ 643), (0, u "java/util/concurrent/ConcurrentHashMap$MapReduceValuesToDoubleTask"), (4, .class_ 649), (0, u "java/util/concurrent/ConcurrentHashMap$MapReduceValuesToLongTask"), (4, .class_ 655), (0, u "java/util/concurrent/ConcurrentHashMap$MapReduceValuesToIntTask"), (4, .class_ 661), (0, u "java/util/concurrent/ConcurrentHashMap$ForEachEntryTask"), (2, .class_ 665), (0, u "java/util/concurrent/ConcurrentHashMap$ForEachTransformedEntryTask"), (2, .class_ 669), (0, u "java/util/concurrent/ConcurrentHashMap$SearchEntriesTask"), (2, .class_ 673), (0, u "java/util/concurrent/ConcurrentHashMap$ReduceEntriesTask"), (4, .class_ 679), (0, u "java/util/concurrent/ConcurrentHashMap$MapReduceEntriesTask"), (4, .class_ 685), (0, u "java/util/concurrent/ConcurrentHashMap$MapReduceEntriesToDoubleTask"), (4, .class_ 691), (0, u "java/util/concurrent/ConcurrentHashMap$MapReduceEntriesToLongTask"), (4, .class_ 697), (0, u "java/util/concurrent/ConcurrentHashMap$MapReduceEntriesToIntTask"), (29, u "serialPersistentFields"), (0, u "[Ljava/io/ObjectStreamField;"), (28, .class_ 758), (0, u "java/util/concurrent/ConcurrentMap"), (0, .class_ 760), (0, u "java/io/Serializable"), (0, u "serialVersionUID"), (3, u "MAXIMUM_CAPACITY"), (0, u "DEFAULT_CAPACITY"), (1, u "MAX_ARRAY_SIZE"), (1, u "DEFAULT_CONCURRENCY_LEVEL"), (0, u "LOAD_FACTOR"), (0, u "F"), (0, u "TREEIFY_THRESHOLD"), (1, u "UNTREEIFY_THRESHOLD"), (1, u "MIN_TREEIFY_CAPACITY"), (1, u "MIN_TRANSFER_STRIDE"), (0, u "RESIZE_STAMP_BITS"), (0, u "MAX_RESIZERS"), (0, u "RESIZE_STAMP_SHIFT"), (0, u "MOVED"), (1, u "TREEBIN"), (1, u "RESERVED"), (1, u "HASH_BITS"), (345, .class_ 1136), (0, u "java/util/concurrent/ConcurrentHashMap$BulkTask"), (0, .class_ 1138), (0, u "java/util/concurrent/ConcurrentHashMap$CollectionView"), (0, .class_ 1140), (0, u "java/util/concurrent/ConcurrentHashMap$EntrySpliterator"), (0, .class_ 1142), (0, u "java/util/concurrent/ConcurrentHashMap$ValueSpliterator"), (0, .class_ 1144), (0, u "java/util/concurrent/ConcurrentHashMap$KeySpliterator"), (0, .class_ 1146), (0, u "java/util/concurrent/ConcurrentHashMap$MapEntry"), (0, .class_ 1148), (0, u "java/util/concurrent/ConcurrentHashMap$EntryIterator"), (0, .class_ 1150), (0, u "java/util/concurrent/ConcurrentHashMap$BaseIterator"), (0, .class_ 1152), (0, u "java/util/concurrent/ConcurrentHashMap$TableStack")] 57

def k9c0 : Code := { maxStack := 1, maxLocals := 1, code := jdk_2776_method_8_code, exceptionTable := #[], attributes := #[] }
def k9m0 : Method := { name := "<init>", desc := "()V", sig := { parameters := [], returnType := none }, accessFlags := 1, code := some k9c0 }
/-- java/util/concurrent/ConcurrentHashMap -/
def k9 : Class := { plain "java/util/concurrent/ConcurrentHashMap" (some 6) with
  accessFlags := 33
  interfaces := #[7, 8]
  cf := some (fileOf pool9 3 #[.nestMembers #[561, 696, 654, 612, 552, 690, 648, 606, 540, 684, 642, 600, 534, 678, 636, 594, 672, 630, 588, 525, 668, 626, 582, 519, 664, 622, 576, 507, 660, 618, 570, 1135, 282, 274, 265, 1137, 1139, 1141, 1143, 1145, 1147, 394, 389, 1149, 142, 1151, 170, 242, 439, 176, 461, 302, 57]] #[{ accessFlags := 1, nameIndex := 71, descriptorIndex := 72, attributes := #[] }] 33 68 #[757, 759] #[{ accessFlags := 26, nameIndex := 761, descriptorIndex := 359, attributes := #[] }, { accessFlags := 26, nameIndex := 765, descriptorIndex := 47, attributes := #[] }, { accessFlags := 26, nameIndex := 766, descriptorIndex := 47, attributes := #[] }, { accessFlags := 24, nameIndex := 768, descriptorIndex := 47, attributes := #[] }, { accessFlags := 26, nameIndex := 770, descriptorIndex := 47, attributes := #[] }, { accessFlags := 26, nameIndex := 771, descriptorIndex := 772, attributes := #[] }, { accessFlags := 24, nameIndex := 773, descriptorIndex := 47, attributes := #[] }, { accessFlags := 24, nameIndex := 775, descriptorIndex := 47, attributes := #[] }, { accessFlags := 24, nameIndex := 777, descriptorIndex := 47, attributes := #[] }, { accessFlags := 26, nameIndex := 779, descriptorIndex := 47, attributes := #[] }, { accessFlags := 26, nameIndex := 780, descriptorIndex := 47, attributes := #[] }, { accessFlags := 26, nameIndex := 781, descriptorIndex := 47, attributes := #[] }, { accessFlags := 26, nameIndex := 782, descriptorIndex := 47, attributes := #[] }, { accessFlags := 24, nameIndex := 783, descriptorIndex := 47, attributes := #[] }, { accessFlags := 24, nameIndex := 785, descriptorIndex := 47, attributes := #[] }, { accessFlags := 24, nameIndex := 787, descriptorIndex := 47, attributes := #[] }, { accessFlags := 24, nameIndex := 789, descriptorIndex := 47, attributes := #[] }, { accessFlags := 24, nameIndex := 467, descriptorIndex := 47, attributes := #[] }, { accessFlags := 26, nameIndex := 727, descriptorIndex := 728, attributes := #[] }, { accessFlags := 192, nameIndex := 107, descriptorIndex := 108, attributes := #[] }, { accessFlags := 194, nameIndex := 453, descriptorIndex := 108, attributes := #[] }, { accessFlags := 194, nameIndex := 358, descriptorIndex := 359, attributes := #[] }, { accessFlags := 194, nameIndex := 79, descriptorIndex := 47, attributes := #[] }, { accessFlags := 194, nameIndex := 456, descriptorIndex := 47, attributes := #[] }, { accessFlags := 194, nameIndex := 481, descriptorIndex := 47, attributes := #[] }, { accessFlags := 194, nameIndex := 421, descriptorIndex := 422, attributes := #[] }, { accessFlags := 130, nameIndex := 263, descriptorIndex := 264, attributes := #[] }, { accessFlags := 130, nameIndex := 272, descriptorIndex := 273, attributes := #[] }, { accessFlags := 130, nameIndex := 204, descriptorIndex := 281, attributes := #[] }, { accessFlags := 26, nameIndex := 42, descriptorIndex := 43, attributes := #[] }, { accessFlags := 26, nameIndex := 414, descriptorIndex := 359, attributes := #[] }, { accessFlags := 26, nameIndex := 475, descriptorIndex := 359, attributes := #[] }, { accessFlags := 26, nameIndex := 425, descriptorIndex := 359, attributes := #[] }, { accessFlags := 26, nameIndex := 487, descriptorIndex := 359, attributes := #[] }, { accessFlags := 26, nameIndex := 437, descriptorIndex := 359, attributes := #[] }, { accessFlags := 26, nameIndex := 50, descriptorIndex := 47, attributes := #[] }, { accessFlags := 26, nameIndex := 46, descriptorIndex := 47, attributes := #[] }])
  fields := #[{ name := "serialVersionUID", type := .long, accessFlags := 26, slot := 0, constantValue := 0 }, { name := "MAXIMUM_CAPACITY", type := .int, accessFlags := 26, slot := 1, constantValue := 0 }, { name := "DEFAULT_CAPACITY", type := .int, accessFlags := 26, slot := 2, constantValue := 0 }, { name := "MAX_ARRAY_SIZE", type := .int, accessFlags := 24, slot := 3, constantValue := 0 }, { name := "DEFAULT_CONCURRENCY_LEVEL", type := .int, accessFlags := 26, slot := 4, constantValue := 0 }, { name := "LOAD_FACTOR", type := .float, accessFlags := 26, slot := 5, constantValue := 0 }, { name := "TREEIFY_THRESHOLD", type := .int, accessFlags := 24, slot := 6, constantValue := 0 }, { name := "UNTREEIFY_THRESHOLD", type := .int, accessFlags := 24, slot := 7, constantValue := 0 }, { name := "MIN_TREEIFY_CAPACITY", type := .int, accessFlags := 24, slot := 8, constantValue := 0 }, { name := "MIN_TRANSFER_STRIDE", type := .int, accessFlags := 26, slot := 9, constantValue := 0 }, { name := "RESIZE_STAMP_BITS", type := .int, accessFlags := 26, slot := 10, constantValue := 0 }, { name := "MAX_RESIZERS", type := .int, accessFlags := 26, slot := 11, constantValue := 0 }, { name := "RESIZE_STAMP_SHIFT", type := .int, accessFlags := 26, slot := 12, constantValue := 0 }, { name := "MOVED", type := .int, accessFlags := 24, slot := 13, constantValue := 0 }, { name := "TREEBIN", type := .int, accessFlags := 24, slot := 14, constantValue := 0 }, { name := "RESERVED", type := .int, accessFlags := 24, slot := 15, constantValue := 0 }, { name := "HASH_BITS", type := .int, accessFlags := 24, slot := 16, constantValue := 0 }, { name := "NCPU", type := .int, accessFlags := 24, slot := 17, constantValue := 0 }, { name := "serialPersistentFields", type := (.array (.object "java/io/ObjectStreamField")), accessFlags := 26, slot := 18, constantValue := 0 }, { name := "table", type := (.array (.object "java/util/concurrent/ConcurrentHashMap$Node")), accessFlags := 192, slot := 2, constantValue := 0 }, { name := "nextTable", type := (.array (.object "java/util/concurrent/ConcurrentHashMap$Node")), accessFlags := 194, slot := 3, constantValue := 0 }, { name := "baseCount", type := .long, accessFlags := 194, slot := 4, constantValue := 0 }, { name := "sizeCtl", type := .int, accessFlags := 194, slot := 5, constantValue := 0 }, { name := "transferIndex", type := .int, accessFlags := 194, slot := 6, constantValue := 0 }, { name := "cellsBusy", type := .int, accessFlags := 194, slot := 7, constantValue := 0 }, { name := "counterCells", type := (.array (.object "java/util/concurrent/ConcurrentHashMap$CounterCell")), accessFlags := 194, slot := 8, constantValue := 0 }, { name := "keySet", type := (.object "java/util/concurrent/ConcurrentHashMap$KeySetView"), accessFlags := 130, slot := 9, constantValue := 0 }, { name := "values", type := (.object "java/util/concurrent/ConcurrentHashMap$ValuesView"), accessFlags := 130, slot := 10, constantValue := 0 }, { name := "entrySet", type := (.object "java/util/concurrent/ConcurrentHashMap$EntrySetView"), accessFlags := 130, slot := 11, constantValue := 0 }, { name := "U", type := (.object "jdk/internal/misc/Unsafe"), accessFlags := 26, slot := 19, constantValue := 0 }, { name := "SIZECTL", type := .long, accessFlags := 26, slot := 20, constantValue := 0 }, { name := "TRANSFERINDEX", type := .long, accessFlags := 26, slot := 21, constantValue := 0 }, { name := "BASECOUNT", type := .long, accessFlags := 26, slot := 22, constantValue := 0 }, { name := "CELLSBUSY", type := .long, accessFlags := 26, slot := 23, constantValue := 0 }, { name := "CELLVALUE", type := .long, accessFlags := 26, slot := 24, constantValue := 0 }, { name := "ABASE", type := .int, accessFlags := 26, slot := 25, constantValue := 0 }, { name := "ASHIFT", type := .int, accessFlags := 26, slot := 26, constantValue := 0 }]
  methods := #[k9m0]
  instanceTypes := #[(.object "java/util/Set"), (.object "java/util/Collection"), (.array (.object "java/util/concurrent/ConcurrentHashMap$Node")), (.array (.object "java/util/concurrent/ConcurrentHashMap$Node")), .long, .int, .int, .int, (.array (.object "java/util/concurrent/ConcurrentHashMap$CounterCell")), (.object "java/util/concurrent/ConcurrentHashMap$KeySetView"), (.object "java/util/concurrent/ConcurrentHashMap$ValuesView"), (.object "java/util/concurrent/ConcurrentHashMap$EntrySetView")]
  staticTypes := #[.long, .int, .int, .int, .int, .float, .int, .int, .int, .int, .int, .int, .int, .int, .int, .int, .int, .int, (.array (.object "java/io/ObjectStreamField")), (.object "jdk/internal/misc/Unsafe"), .long, .long, .long, .long, .long, .int, .int]
  resolved := Array.replicate 1210 none
  statics := none }

def pool10 : Array CpInfo := pool [(1, u "java/lang/Cloneable"), (0, .class_ 1), (0, u "java/lang/Object"), (0, .class_ 3)] 3

/-- java/lang/Cloneable -/
def k10 : Class := { plain "java/lang/Cloneable" (some 0) with
  accessFlags := 1537
  interfaces := #[]
  cf := some (fileOf pool10 2 #[] #[] 1537 4 #[] #[])
  fields := #[]
  methods := #[]
  instanceTypes := #[]
  staticTypes := #[]
  resolved := Array.replicate 8 none
  statics := none }

/-- the primitive byte -/
def k11 : Class := { plain "byte" none with kind := .primitive 'B', accessFlags := 0x411 }
/-- [B -/
def k12 : Class := { plain "[B" (some 0) with kind := .array 11 .byte, interfaces := #[10, 8], accessFlags := 1041 }

/-- the primitive int -/
def k13 : Class := { plain "int" none with kind := .primitive 'I', accessFlags := 0x411 }
/-- [I -/
def k14 : Class := { plain "[I" (some 0) with kind := .array 13 .int, interfaces := #[10, 8], accessFlags := 1041 }

def heap : Heap := #[]
def classes : Array Class := #[k0, k1, k2, k3, k4, k5, k6, k7, k8, k9, k10, k11, k12, k13, k14]
def interned : List (Array UInt16 × Addr) := []
def slotsUsed : Nat := 0
def theMethod : MethodId := ⟨1, 1⟩
def args0 : Array Value := #[.int 5]
def aboutOver (below : List Frame) : State where
  vm := { classes := classes, interned := interned.toArray }
  heap := heap
  slotsUsed := slotsUsed
  threads := #[{ frames := .invoking theMethod args0 :: below }]
def below0 : List Frame := [.native { method := ⟨0, 0⟩, args := #[] }]
def about1 : State := aboutOver below0
def p0 : Program := .bare "" "" ""
def e0 : Env := launch0.env 0 0 0
theorem w_frames : about1.frames = Frame.invoking theMethod args0 :: below0 := rfl
set_option maxRecDepth 65536 in
theorem w_args : argsFit about1.vm theMethod args0 = true := by decide +kernel
set_option maxRecDepth 65536 in
theorem w_heap : heapFits about1 = true := by decide +kernel
set_option maxRecDepth 65536 in
theorem w_runnable : about1.curStatus? = some .runnable := by decide +kernel
set_option maxRecDepth 65536 in
theorem w_alone : about1.alone = true := by decide +kernel
set_option maxRecDepth 65536 in
theorem w_named : about1.methodNamed? x = some theMethod := by decide +kernel
set_option maxRecDepth 65536 in
theorem w_hears : about1.hears theMethod below0 = true := by decide +kernel
set_option maxRecDepth 65536 in
theorem w_ripe : about1.ripe theMethod args0 below0 = true := by decide +kernel
theorem w_running : about1.status = .running := rfl
set_option maxRecDepth 65536 in
theorem w_room : about1.hasRoom e0.platform room_1 = true :=
  launch0.hasRoom_least _ room_1 (by decide +kernel) (by decide +kernel) (by decide +kernel) (by decide +kernel) (by decide +kernel) (by decide +kernel)
theorem allAtoms_all (ts : List Jvm.Cond) (a : Array Jvm.Value) (st : Jvm.State) : (allAtoms ts).before a st = ts.all (fun c => c.before a st) := by
  induction ts with
  | nil => rfl
  | cons c t ih =>
    show (Jvm.Cond.and c (allAtoms t)).before a st = _
    rw [Jvm.Cond.before_and, ih, List.all_cons]
def words1 : List Jvm.Cond := Jvm.Cond.code x code maxLocals ret :: tables_1
/-- a 'code' word, met by the world's own term for the bytes: nothing is compared byte by byte -/
theorem code_word {y : MethodName} {bytes : ByteArray} {mx : Nat} {rt : Option FieldType} {a : Array Value} {s : State} {m : MethodId} {meth : Method} {c : Code} (h1 : s.methodNamed? y = some m) (h2 : s.vm.method? m = some meth) (h3 : meth.code = some c) (h4 : c.code = bytes)
    (h5 : (c.maxLocals == mx && c.exceptionTable.isEmpty && decide (c.maxStack ≤ mostOperands) && decide (meth.sig.returnType = rt) && !meth.locks && decide (parseMethodDescriptor y.desc = some meth.sig)) = true) : (Jvm.Cond.code y bytes mx rt).before a s = true := by
  simp only [Bool.and_eq_true, beq_iff_eq, Bool.not_eq_true', decide_eq_true_eq] at h5
  obtain ⟨⟨⟨⟨⟨g1, g2⟩, g3⟩, g4⟩, g5⟩, g6⟩ := h5
  simp [Cond.before, Cond.holds, Cond.value, h1, h2, h3, h4, g1, g2, g3, g4, g5, g6]
def isCode : Jvm.Cond → Bool
  | .code _ _ _ _ => true
  | _ => false
theorem all_split {L : List Jvm.Cond} {P : Jvm.Cond → Bool} (h1 : L.all (fun c => isCode c || P c) = true) (h2 : ∀ c ∈ L.filter isCode, P c = true) : L.all P = true := by
  refine List.all_eq_true.mpr fun c hc => ?_
  have h := List.all_eq_true.mp h1 c hc
  rcases Bool.eq_false_or_eq_true (isCode c) with hi | hi
  · exact h2 c (List.mem_filter.mpr ⟨hc, hi⟩)
  · simpa [hi] using h
set_option maxRecDepth 65536 in
theorem w_c0 : (Jvm.Cond.code x code maxLocals ret).before args0 about1 = true := code_word (m := ⟨1, 1⟩) (meth := k1m1) (c := k1c1) (by decide +kernel) rfl rfl rfl (by decide +kernel)
set_option maxRecDepth 65536 in
theorem w_c1 : (Jvm.Cond.code ({ cls := "com/example/latchkey/latchkey/security/SaltStores", name := "inMemory", desc := "()Lcom/example/latchkey/latchkey/security/SaltStores;" } : Jvm.MethodName) prog_14_method_2_code (0 : Nat) (Option.some (Jvm.ClassFile.FieldType.object "com/example/latchkey/latchkey/security/SaltStores"))).before args0 about1 = true := code_word (m := ⟨2, 1⟩) (meth := k2m1) (c := k2c1) (by decide +kernel) rfl rfl rfl (by decide +kernel)
set_option maxRecDepth 65536 in
theorem w_c2 : (Jvm.Cond.code ({ cls := "com/example/latchkey/latchkey/security/MemorySalts", name := "<init>", desc := "()V" } : Jvm.MethodName) prog_13_method_1_code (1 : Nat) (Option.none : Option Jvm.ClassFile.FieldType)).before args0 about1 = true := code_word (m := ⟨4, 0⟩) (meth := k4m0) (c := k4c0) (by decide +kernel) rfl rfl rfl (by decide +kernel)
set_option maxRecDepth 65536 in
theorem w_c3 : (Jvm.Cond.code ({ cls := "java/lang/Object", name := "<init>", desc := "()V" } : Jvm.MethodName) object_method_1_code (1 : Nat) (Option.none : Option Jvm.ClassFile.FieldType)).before args0 about1 = true := code_word (m := ⟨0, 0⟩) (meth := k0m0) (c := k0c0) (by decide +kernel) rfl rfl rfl (by decide +kernel)
set_option maxRecDepth 65536 in
theorem w_c4 : (Jvm.Cond.code ({ cls := "java/util/concurrent/ConcurrentHashMap", name := "<init>", desc := "()V" } : Jvm.MethodName) jdk_2776_method_8_code (1 : Nat) (Option.none : Option Jvm.ClassFile.FieldType)).before args0 about1 = true := code_word (m := ⟨9, 0⟩) (meth := k9m0) (c := k9c0) (by decide +kernel) rfl rfl rfl (by decide +kernel)
set_option maxRecDepth 65536 in
theorem w_c5 : (Jvm.Cond.code ({ cls := "java/util/AbstractMap", name := "<init>", desc := "()V" } : Jvm.MethodName) jdk_71_method_1_code (1 : Nat) (Option.none : Option Jvm.ClassFile.FieldType)).before args0 about1 = true := code_word (m := ⟨6, 0⟩) (meth := k6m0) (c := k6c0) (by decide +kernel) rfl rfl rfl (by decide +kernel)
set_option maxRecDepth 65536 in
theorem w_c6 : (Jvm.Cond.code ({ cls := "com/example/latchkey/latchkey/security/SaltStores", name := "<init>", desc := "(Lcom/example/latchkey/latchkey/security/Salts;Lcom/example/latchkey/latchkey/security/Salts;)V" } : Jvm.MethodName) prog_14_method_1_code (3 : Nat) (Option.none : Option Jvm.ClassFile.FieldType)).before args0 about1 = true := code_word (m := ⟨2, 0⟩) (meth := k2m0) (c := k2c0) (by decide +kernel) rfl rfl rfl (by decide +kernel)
set_option maxRecDepth 65536 in
theorem w_c7 : (Jvm.Cond.code ({ cls := "com/example/latchkey/latchkey/security/SaltStores", name := "login", desc := "()Lcom/example/latchkey/latchkey/security/Salts;" } : Jvm.MethodName) prog_14_method_4_code (1 : Nat) (Option.some (Jvm.ClassFile.FieldType.object "com/example/latchkey/latchkey/security/Salts"))).before args0 about1 = true := code_word (m := ⟨2, 2⟩) (meth := k2m2) (c := k2c2) (by decide +kernel) rfl rfl rfl (by decide +kernel)
set_option maxRecDepth 65536 in
theorem w_c8 : (Jvm.Cond.code ({ cls := "com/example/latchkey/latchkey/security/SaltStores", name := "machine", desc := "()Lcom/example/latchkey/latchkey/security/Salts;" } : Jvm.MethodName) prog_14_method_5_code (1 : Nat) (Option.some (Jvm.ClassFile.FieldType.object "com/example/latchkey/latchkey/security/Salts"))).before args0 about1 = true := code_word (m := ⟨2, 3⟩) (meth := k2m3) (c := k2c3) (by decide +kernel) rfl rfl rfl (by decide +kernel)
def codes1 : List Jvm.Cond := [Jvm.Cond.code x code maxLocals ret, Jvm.Cond.code ({ cls := "com/example/latchkey/latchkey/security/SaltStores", name := "inMemory", desc := "()Lcom/example/latchkey/latchkey/security/SaltStores;" } : Jvm.MethodName) prog_14_method_2_code (0 : Nat) (Option.some (Jvm.ClassFile.FieldType.object "com/example/latchkey/latchkey/security/SaltStores")), Jvm.Cond.code ({ cls := "com/example/latchkey/latchkey/security/MemorySalts", name := "<init>", desc := "()V" } : Jvm.MethodName) prog_13_method_1_code (1 : Nat) (Option.none : Option Jvm.ClassFile.FieldType), Jvm.Cond.code ({ cls := "java/lang/Object", name := "<init>", desc := "()V" } : Jvm.MethodName) object_method_1_code (1 : Nat) (Option.none : Option Jvm.ClassFile.FieldType), Jvm.Cond.code ({ cls := "java/util/concurrent/ConcurrentHashMap", name := "<init>", desc := "()V" } : Jvm.MethodName) jdk_2776_method_8_code (1 : Nat) (Option.none : Option Jvm.ClassFile.FieldType), Jvm.Cond.code ({ cls := "java/util/AbstractMap", name := "<init>", desc := "()V" } : Jvm.MethodName) jdk_71_method_1_code (1 : Nat) (Option.none : Option Jvm.ClassFile.FieldType), Jvm.Cond.code ({ cls := "com/example/latchkey/latchkey/security/SaltStores", name := "<init>", desc := "(Lcom/example/latchkey/latchkey/security/Salts;Lcom/example/latchkey/latchkey/security/Salts;)V" } : Jvm.MethodName) prog_14_method_1_code (3 : Nat) (Option.none : Option Jvm.ClassFile.FieldType), Jvm.Cond.code ({ cls := "com/example/latchkey/latchkey/security/SaltStores", name := "login", desc := "()Lcom/example/latchkey/latchkey/security/Salts;" } : Jvm.MethodName) prog_14_method_4_code (1 : Nat) (Option.some (Jvm.ClassFile.FieldType.object "com/example/latchkey/latchkey/security/Salts")), Jvm.Cond.code ({ cls := "com/example/latchkey/latchkey/security/SaltStores", name := "machine", desc := "()Lcom/example/latchkey/latchkey/security/Salts;" } : Jvm.MethodName) prog_14_method_5_code (1 : Nat) (Option.some (Jvm.ClassFile.FieldType.object "com/example/latchkey/latchkey/security/Salts"))]
set_option maxRecDepth 65536 in
theorem codes_eq : words1.filter isCode = codes1 := rfl
theorem w_codes : ∀ c ∈ words1.filter isCode, c.before args0 about1 = true := by
  rw [codes_eq]
  intro c hc
  simp only [codes1, List.mem_cons, List.not_mem_nil, or_false] at hc
  rcases hc with rfl | rfl | rfl | rfl | rfl | rfl | rfl | rfl | rfl
  · exact w_c0
  · exact w_c1
  · exact w_c2
  · exact w_c3
  · exact w_c4
  · exact w_c5
  · exact w_c6
  · exact w_c7
  · exact w_c8
set_option maxRecDepth 65536 in
theorem w_t1 : (words1.take 24).all (fun c => isCode c || c.before args0 about1) = true := by decide +kernel
set_option maxRecDepth 65536 in
theorem w_t2 : ((words1.drop 24).take 24).all (fun c => isCode c || c.before args0 about1) = true := by decide +kernel
set_option maxRecDepth 65536 in
theorem w_t3 : ((words1.drop 24).drop 24).all (fun c => isCode c || c.before args0 about1) = true := by decide +kernel
theorem w_tables : (allAtoms (Jvm.Cond.code x code maxLocals ret :: tables_1)).before args0 about1 = true := by
  rw [allAtoms_all]
  show words1.all (fun c => c.before args0 about1) = true
  refine all_split ?_ w_codes
  rw [← List.take_append_drop 24 words1, List.all_append, w_t1, ← List.take_append_drop 24 (words1.drop 24), List.all_append, w_t2, w_t3]
  rfl
set_option maxRecDepth 65536 in
theorem w_case : (Jvm.Cond.and given_1 narrow_1).before args0 about1 = true := by decide +kernel
theorem w_applies : (headSpec (Jvm.Cond.code x code maxLocals ret :: tables_1) room_1).applies x e0.platform about1 = true :=
  (Spec.applies_iff w_frames).mpr ⟨w_running, w_runnable, w_alone, w_named, w_hears, w_ripe, w_room, w_tables⟩
theorem atStart : AtStart classFile x code maxLocals ret World_1 tables_1 room_1 Calls_1 rest_1 Pre_1 launch0 p0 e0 about1 theMethod args0 below0 :=
  ⟨lists_1, trivial, launch0.admits_env _ _ _, launch0.least_env, fairChoices_fair.cas, fairChoices_fair.clock, w_frames, w_args, w_heap, w_applies, trivial, trivial, w_case⟩
end start1
theorem witness_1 : WitnessClaimed_1 := ⟨start1.p0, start1.e0, start1.about1, start1.theMethod, start1.args0, start1.below0, start1.atStart⟩
end Jvm.Pilot.@@N@@
