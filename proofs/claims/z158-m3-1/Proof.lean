import JvmDerived
import JvmDerived.Pilot.@@N@@Statement
import JvmDerived.Pilot.@@N@@Code
set_option linter.unusedVariables false
set_option linter.unusedSimpArgs false
namespace Jvm.RoadKit
open Sem ClassFile Op Lib Jvm.Stand Jvm.Free Jvm.LawKit
section New
variable {p : Program} {l : Launch} {e : Env} {R : Room} {s : State} {m : MethodId} {args : Array Value} {below : List Frame} {meth : Method} {c : Code} {T : State} {locs : List Loc} {cells slots : Nat}
theorem retI (X : Stand p l e R s m args below meth c T locs cells slots) (hx : p.tables.exec = Jvm.exec) {pc : Nat} {Ls : Array Slot} {z : Int32} {rest : List Value} (hret : meth.sig.returnType = some .int) (hd : decode c.code pc = .ok (.ireturn, 1)) {fs : List Frame}
    (hl : ∀ (f : JFrame) (acts : List Action), f.method = m → f.locked = none → f.entered = [] → (doReturn e (T.setTop f) acts (some (.int z))).1 = T.setFrames fs) : Steps p.tables e below (T.setTop (mkF m pc Ls (.int z :: rest))) (T.setFrames fs) := by
  have hm' : T.vm.method? m = some meth := X.method'
  have hn : narrow .int (.int z) = .int z := rfl
  show Steps p.tables e below (T.setTop { method := m, pc := pc, locals := Ls, stack := _ :: rest, locked := none }) _
  jvm_step X.here [X.here.top, hx, hd, hm', hret, hn]
  first | (intro acts; rw [hl _ acts rfl rfl rfl]) | rw [hl _ _ rfl rfl rfl]
  exact Steps.refl _
end New
end Jvm.RoadKit
namespace Jvm.Pilot.@@N@@
open Jvm Jvm.ClassFile Sem Op Lib Jvm.Free Jvm.Stand Jvm.LawKit Jvm.RoadKit Bundle Jvm.Pilot.@@N@@.Jvm.D
/-- what holds answers: f, s the room's two numbers, tf, ts the taken's -/
def own_h (f s tf ts : Int32) : Int32 := if f < tf then 0 else if ts = 0 then 1 else if s < ts then 0 else 1
theorem own_d (f t : Int32) : lcmpW (f.toInt64 - t.toInt64) (0 : Int64) < (0 : Int32) ↔ f < t := by
  rw [lw_lt, Int64.lt_iff_toInt_lt, Int32.lt_iff_toInt_lt]
  have h1 := c_lsub f.toInt64 t.toInt64
  have h2 := c_i2l f
  have h3 := rng32 f
  have k2 := c_i2l t
  have k3 := rng32 t
  have h4 := rng64 (f.toInt64 - t.toInt64)
  have h6 : (0 : Int64).toInt = 0 := rfl
  omega
theorem d2_0 : decode jdk_30_method_1_code 0 = .ok (.aload_n 0, 1) := by decide +kernel
theorem d2_1 : decode jdk_30_method_1_code 1 = .ok (.invokespecial 1, 3) := by decide +kernel
theorem d2_4 : decode jdk_30_method_1_code 4 = .ok (.return_, 1) := by decide +kernel
theorem pn_2 : plainName "java/lang/Record" = true := by first | (simp [plainName, overriddenIn]; done) | decide +kernel
theorem ef_2 (m : MethodId) (x0 : Addr) : entryFrame m #[(.ref x0)] 1 = mkF m 0 #[.val (.ref x0)] [] := by first | (simp [entryFrame, mkF, argsToLocals, Value.category]; done) | rfl
def Q2 (Z : State) (a1 : Addr) (h0 : Heap) (n0 : Nat) (v : Option Value) (h : Heap) (L : List Loc) : Prop := v = none ∧ Fr n0 L ∧ h = h0
set_option maxRecDepth 65536 in
set_option maxHeartbeats 40000000 in
theorem rm2 (l : Launch) (Z : State) (a0 : Array Value) (hw : ∀ d ∈ tables_1, d.before a0 Z = true) (ws : List Jvm.Cond) (a1 : Addr) (h0 : Heap) (n0 : Nat) (Z0 : n0 ≤ h0.size) :
    MetFree l (⟨"java/lang/Record", "<init>", "()V"⟩ : MethodName) (head1 (Jvm.Cond.code (⟨"java/lang/Record", "<init>", "()V"⟩ : MethodName) jdk_30_method_1_code 1 none :: ws) ({ frames := 1, cells := 0, slots := 0, locals := 12 } : Room)) (fun a U => a = #[(.ref a1)] ∧ Z.Warmed39 U.vm ∧ U.heap = h0) (fun _ _ _ _ _ => True) (fun _ U o U' => ∃ v L, o = .returned v ∧ Q2 Z a1 h0 n0 v U'.heap L ∧ FrameEnd U o U' L ({ frames := 1, cells := 0, slots := 0, locals := 12 } : Room).cells ({ frames := 1, cells := 0, slots := 0, locals := 12 } : Room).slots) := by
  refine MetFree.of_bodySF (plainFor_of_name pn_2) hisR ?_
  intro p e s m args below meth c s₁ Bd hml0 hP hK
  obtain ⟨rfl, hZ, hh⟩ := hP
  have hx := Bd.exec
  have hby := Bd.bytes
  have hml : c.maxLocals = 1 := hml0
  have hown : s.vm.findClass "java/lang/Record" = some m.cls := findClass_of_methodNamed Bd.named
  have hnm := (name_of_methodNamed Bd.named Bd.method).1
  have X0 : Stand p l e ({ frames := 1, cells := 0, slots := 0, locals := 12 } : Room) s m #[(.ref a1)] below meth c s₁ [] 0 0 := Stand.of_body Bd
  have e0 : s₁.heap = h0 := by rw [← hh, Bd.state]; rfl
  have N0 := Fr.nil n0
  have pre0 : ∀ t, Steps p.tables e below (s₁.setTop (mkF m 0 #[.val (.ref a1)] [])) t → Steps p.tables e below (s₁.setTop (entryFrame m #[(.ref a1)] 1)) t := fun t k => castTop (ef_2 m a1) k
  -- 3. LAWS
  obtain ⟨T2, X2, e2, st2⟩ := initO X0 hx hZ hown (hw _ (List.mem_of_getElem? (i := 11) rfl)) (hw _ (List.mem_of_getElem? (i := 12) rfl)) (hw _ (List.mem_of_getElem? (i := 13) rfl)) e0 (g := (mkF m 1 #[.val (.ref a1)] [(.ref a1)])) rfl (by rw [hml]; rfl) rfl (hb hby d2_1) (by decide) (W := 0) (by show 2 * 0 + _ ≤ _; exact Nat.le_of_eq rfl) (by decide)
  obtain ⟨fs, hr, hrun, hended, hW, hsame⟩ := X2.leave (v := none) (fun _ => rfl)
  refine ⟨_, _, pre0 _ ?_, hrun, hended, _, _, rfl, ?_, ⟨_, rfl⟩, hW, hsame.mono (by decide) (by decide)⟩
  -- 4. STEPS
  · show Steps p.tables e below (s₁.setTop (mkF m 0 #[.val (.ref a1)] [])) _
    refine XS.aloadN X0.here hx rfl (hb hby d2_0) rfl rfl ?_
    show Steps p.tables e below (s₁.setTop (mkF m 1 #[.val (.ref a1)] [(.ref a1)])) _
    refine st2 _ ?_
    show Steps p.tables e below (T2.setTop (mkF m 4 #[.val (.ref a1)] [])) _
    exact X2.returnOut hx Bd.returns (hb hby d2_4) hr
  · show Q2 Z a1 h0 n0 _ T2.heap _
    rw [e2]
    exact ⟨rfl, N0, rfl⟩
theorem d1_0 : decode prog_62_method_1_code 0 = .ok (.aload_n 0, 1) := by decide +kernel
theorem d1_1 : decode prog_62_method_1_code 1 = .ok (.invokespecial 1, 3) := by decide +kernel
theorem d1_4 : decode prog_62_method_1_code 4 = .ok (.aload_n 0, 1) := by decide +kernel
theorem d1_5 : decode prog_62_method_1_code 5 = .ok (.iload_n 1, 1) := by decide +kernel
theorem d1_6 : decode prog_62_method_1_code 6 = .ok (.putfield 7, 3) := by decide +kernel
theorem d1_9 : decode prog_62_method_1_code 9 = .ok (.aload_n 0, 1) := by decide +kernel
theorem d1_10 : decode prog_62_method_1_code 10 = .ok (.iload_n 2, 1) := by decide +kernel
theorem d1_11 : decode prog_62_method_1_code 11 = .ok (.putfield 13, 3) := by decide +kernel
theorem d1_14 : decode prog_62_method_1_code 14 = .ok (.return_, 1) := by decide +kernel
theorem pn_1 : plainName "com/example/offpeak/offpeak/flow/Room" = true := by first | (simp [plainName, overriddenIn]; done) | decide +kernel
theorem pd_1_1 : parseMethodDescriptor "()V" = some ⟨[], none⟩ := by decide +kernel
theorem ef_1 (m : MethodId) (x0 : Addr) (x1 : Int32) (x2 : Int32) : entryFrame m #[(.ref x0), (.int x1), (.int x2)] 3 = mkF m 0 #[.val (.ref x0), .val (.int x1), .val (.int x2)] [] := by first | (simp [entryFrame, mkF, argsToLocals, Value.category]; done) | rfl
def Q1 (Z : State) (a1 : Addr) (p2 : Int32) (p3 : Int32) (u_free_a1 : Value) (u_spare_a1 : Value) (h0 : Heap) (n0 : Nat) (v : Option Value) (h : Heap) (L : List Loc) : Prop := v = none ∧ Fr n0 L ∧ Keep h0 h [a1] ∧ Exa Z h a1 "com/example/offpeak/offpeak/flow/Room" ∧ Fld Z h a1 "com/example/offpeak/offpeak/flow/Room" "free" "I" (.int p2) ∧ Fld Z h a1 "com/example/offpeak/offpeak/flow/Room" "spare" "I" (.int p3)
set_option maxRecDepth 65536 in
set_option maxHeartbeats 40000000 in
theorem rm1 (l : Launch) (Z : State) (a0 : Array Value) (hw : ∀ d ∈ tables_1, d.before a0 Z = true) (ws : List Jvm.Cond) (a1 : Addr) (p2 : Int32) (p3 : Int32) (u_free_a1 : Value) (u_spare_a1 : Value) (h0 : Heap) (n0 : Nat) (Z0 : n0 ≤ h0.size) (E_a1 : Exa Z h0 a1 "com/example/offpeak/offpeak/flow/Room") (F_free_a1 : Fld Z h0 a1 "com/example/offpeak/offpeak/flow/Room" "free" "I" u_free_a1) (g_a1 : n0 ≤ a1) (F_spare_a1 : Fld Z h0 a1 "com/example/offpeak/offpeak/flow/Room" "spare" "I" u_spare_a1) :
    MetFree l (⟨"com/example/offpeak/offpeak/flow/Room", "<init>", "(II)V"⟩ : MethodName) (head1 (Jvm.Cond.code (⟨"com/example/offpeak/offpeak/flow/Room", "<init>", "(II)V"⟩ : MethodName) prog_62_method_1_code 3 none :: ws) ({ frames := 2, cells := 0, slots := 0, locals := 24 } : Room)) (fun a U => a = #[(.ref a1), (.int p2), (.int p3)] ∧ Z.Warmed39 U.vm ∧ U.heap = h0) (fun _ _ _ _ _ => True) (fun _ U o U' => ∃ v L, o = .returned v ∧ Q1 Z a1 p2 p3 u_free_a1 u_spare_a1 h0 n0 v U'.heap L ∧ FrameEnd U o U' L ({ frames := 2, cells := 0, slots := 0, locals := 24 } : Room).cells ({ frames := 2, cells := 0, slots := 0, locals := 24 } : Room).slots) := by
  refine MetFree.of_bodySF (plainFor_of_name pn_1) hisR ?_
  intro p e s m args below meth c s₁ Bd hml0 hP hK
  obtain ⟨rfl, hZ, hh⟩ := hP
  have hx := Bd.exec
  have hby := Bd.bytes
  have hml : c.maxLocals = 3 := hml0
  have hown : s.vm.findClass "com/example/offpeak/offpeak/flow/Room" = some m.cls := findClass_of_methodNamed Bd.named
  have hnm := (name_of_methodNamed Bd.named Bd.method).1
  have X0 : Stand p l e ({ frames := 2, cells := 0, slots := 0, locals := 24 } : Room) s m #[(.ref a1), (.int p2), (.int p3)] below meth c s₁ [] 0 0 := Stand.of_body Bd
  have e0 : s₁.heap = h0 := by rw [← hh, Bd.state]; rfl
  have N0 := Fr.nil n0
  have pre0 : ∀ t, Steps p.tables e below (s₁.setTop (mkF m 0 #[.val (.ref a1), .val (.int p2), .val (.int p3)] [])) t → Steps p.tables e below (s₁.setTop (entryFrame m #[(.ref a1), (.int p2), (.int p3)] 3)) t := fun t k => castTop (ef_1 m a1 p2 p3) k
  -- 3. LAWS
  -- pc 1: the constructor of java/lang/Record by its contract rm2
  obtain ⟨_, _, ⟨T4, L4, k4, n4⟩, -, X4, ⟨Lc4, hQ4, l4, y4, z4⟩, st4⟩ := X0.specialBack hx (y := (⟨"java/lang/Record", "<init>", "()V"⟩ : MethodName)) rfl hown (mvT hZ (hw _ (List.mem_of_getElem? (i := 6) rfl))) (mvT hZ (hw _ (List.mem_of_getElem? (i := 7) rfl))) (mvT hZ (hw _ (List.mem_of_getElem? (i := 10) rfl))) (by decide) (backOf (W := 0) (rm2 l Z a0 hw [] a1 h0 n0 Z0) hZ (hw _ (List.mem_of_getElem? (i := 10) rfl)) (hw _ (List.mem_of_getElem? (i := 9) rfl)) (by decide) (by decide)) (g := (mkF m 1 #[.val (.ref a1), .val (.int p2), .val (.int p3)] [(.ref a1)])) rfl (by rw [hml]; rfl) (Steps.refl _) (a := a1) (argsL := []) (rest := []) (lenOf pd_1_1 rfl) rfl (by show 2 * 0 + _ ≤ _; exact Nat.le_of_eq rfl) (hb hby d1_1) (fun _ _ => ⟨rfl, e0, (by decide : 0 + 0 ≤ _), (by decide : 0 + 0 ≤ _)⟩)
  dsimp only [Pt.U, Pt.locs, Pt.cells, Pt.slots] at X4 l4 y4 z4 st4 hQ4
  subst l4 y4 z4
  obtain ⟨rfl, N4q, hh4⟩ := hQ4
  have K4 : Keep h0 T4.heap [] := by rw [hh4]; exact Keep.refl _ _
  have K4' : Keep h0 T4.heap [a1] := by rw [hh4]; exact Keep.refl _ _
  have N4 := Fr.app N0 N4q
  obtain ⟨T5, h5, X5, e5, W5, st5⟩ := putF X4 hx hZ hown (host := "") (Or.inl (hw _ (List.mem_of_getElem? (i := 14) rfl))) Via.refl rfl (F_free_a1.keep K4 nin0) (E_a1.keep K4) (Or.inr ⟨(hw _ (List.mem_of_getElem? (i := 15) rfl)), rfl, hnm⟩) (hw _ (List.mem_of_getElem? (i := 1) rfl)) (ty := .int) (by decide) rfl rfl (g := (mkF m 6 #[.val (.ref a1), .val (.int p2), .val (.int p3)] [(.int p2), (.ref a1)])) rfl rfl (hb hby d1_6)
  have Fw5 := (F_free_a1.keep K4 nin0).same W5      -- the field now holds (.int p2)
  have K5 : Keep h0 h5 [a1] := K4'.wr W5 (Or.inl (List.mem_of_getElem? (i := 0) rfl))
  have N5 := Fr.snoc X5 N4 g_a1
  obtain ⟨T6, h6, X6, e6, W6, st6⟩ := putF X5 hx hZ hown (host := "") (Or.inl (hw _ (List.mem_of_getElem? (i := 16) rfl))) Via.refl e5 ((F_spare_a1.keep K4 nin0).other W5 (Or.inr (slot_ne (Or.inr (hw _ (List.mem_of_getElem? (i := 17) rfl))) (Or.inr (hw _ (List.mem_of_getElem? (i := 15) rfl))) (by decide) (t := .int) (t' := .int) (by decide) (by decide)))) ((E_a1.keep K4).wr W5) (Or.inr ⟨(hw _ (List.mem_of_getElem? (i := 17) rfl)), rfl, hnm⟩) (hw _ (List.mem_of_getElem? (i := 1) rfl)) (ty := .int) (by decide) rfl rfl (g := (mkF m 11 #[.val (.ref a1), .val (.int p2), .val (.int p3)] [(.int p3), (.ref a1)])) rfl rfl (hb hby d1_11)
  have Fw6 := ((F_spare_a1.keep K4 nin0).other W5 (Or.inr (slot_ne (Or.inr (hw _ (List.mem_of_getElem? (i := 17) rfl))) (Or.inr (hw _ (List.mem_of_getElem? (i := 15) rfl))) (by decide) (t := .int) (t' := .int) (by decide) (by decide)))).same W6      -- the field now holds (.int p3)
  have K6 : Keep h0 h6 [a1] := K5.wr W6 (Or.inl (List.mem_of_getElem? (i := 0) rfl))
  have N6 := Fr.snoc X6 N5 g_a1
  obtain ⟨fs, hr, hrun, hended, hW, hsame⟩ := X6.leave (v := none) (fun _ => rfl)
  refine ⟨_, _, pre0 _ ?_, hrun, hended, _, _, rfl, ?_, ⟨_, rfl⟩, hW, hsame.mono (by decide) (by decide)⟩
  -- 4. STEPS
  · show Steps p.tables e below (s₁.setTop (mkF m 0 #[.val (.ref a1), .val (.int p2), .val (.int p3)] [])) _
    refine XS.aloadN X0.here hx rfl (hb hby d1_0) rfl rfl ?_
    show Steps p.tables e below (s₁.setTop (mkF m 1 #[.val (.ref a1), .val (.int p2), .val (.int p3)] [(.ref a1)])) _
    refine st4.trans ?_
    show Steps p.tables e below (T4.setTop (mkF m 4 #[.val (.ref a1), .val (.int p2), .val (.int p3)] [])) _
    refine XS.aloadN X4.here hx rfl (hb hby d1_4) rfl rfl ?_
    show Steps p.tables e below (T4.setTop (mkF m 5 #[.val (.ref a1), .val (.int p2), .val (.int p3)] [(.ref a1)])) _
    refine XS.iloadN X4.here hx rfl (hb hby d1_5) rfl ?_
    show Steps p.tables e below (T4.setTop (mkF m 6 #[.val (.ref a1), .val (.int p2), .val (.int p3)] [(.int p2), (.ref a1)])) _
    refine st5 _ ?_
    show Steps p.tables e below (T5.setTop (mkF m 9 #[.val (.ref a1), .val (.int p2), .val (.int p3)] [])) _
    refine XS.aloadN X5.here hx rfl (hb hby d1_9) rfl rfl ?_
    show Steps p.tables e below (T5.setTop (mkF m 10 #[.val (.ref a1), .val (.int p2), .val (.int p3)] [(.ref a1)])) _
    refine XS.iloadN X5.here hx rfl (hb hby d1_10) rfl ?_
    show Steps p.tables e below (T5.setTop (mkF m 11 #[.val (.ref a1), .val (.int p2), .val (.int p3)] [(.int p3), (.ref a1)])) _
    refine st6 _ ?_
    show Steps p.tables e below (T6.setTop (mkF m 14 #[.val (.ref a1), .val (.int p2), .val (.int p3)] [])) _
    exact X6.returnOut hx Bd.returns (hb hby d1_14) hr
  · show Q1 Z a1 p2 p3 u_free_a1 u_spare_a1 h0 n0 _ T6.heap _
    rw [e6]
    exact ⟨rfl, N6, K6, ((E_a1.keep K4).wr W5).wr W6, Fw5.other W6 (Or.inr (slot_ne (Or.inr (hw _ (List.mem_of_getElem? (i := 15) rfl))) (Or.inr (hw _ (List.mem_of_getElem? (i := 17) rfl))) (by decide) (t := .int) (t' := .int) (by decide) (by decide))), Fw6⟩
theorem d4_0 : decode prog_62_method_2_code 0 = .ok (.aload_n 1, 1) := by decide +kernel
theorem d4_1 : decode prog_62_method_2_code 1 = .ok (.getfield 7, 3) := by decide +kernel
theorem d4_4 : decode prog_62_method_2_code 4 = .ok (.aload_n 0, 1) := by decide +kernel
theorem d4_5 : decode prog_62_method_2_code 5 = .ok (.getfield 7, 3) := by decide +kernel
theorem d4_8 : decode prog_62_method_2_code 8 = .ok (.if_icmp .gt 25, 3) := by decide +kernel
theorem d4_11 : decode prog_62_method_2_code 11 = .ok (.aload_n 1, 1) := by decide +kernel
theorem d4_12 : decode prog_62_method_2_code 12 = .ok (.getfield 13, 3) := by decide +kernel
theorem d4_15 : decode prog_62_method_2_code 15 = .ok (.ifCond .eq 14, 3) := by decide +kernel
theorem d4_18 : decode prog_62_method_2_code 18 = .ok (.aload_n 1, 1) := by decide +kernel
theorem d4_19 : decode prog_62_method_2_code 19 = .ok (.getfield 13, 3) := by decide +kernel
theorem d4_22 : decode prog_62_method_2_code 22 = .ok (.aload_n 0, 1) := by decide +kernel
theorem d4_23 : decode prog_62_method_2_code 23 = .ok (.getfield 13, 3) := by decide +kernel
theorem d4_26 : decode prog_62_method_2_code 26 = .ok (.if_icmp .gt 7, 3) := by decide +kernel
theorem d4_29 : decode prog_62_method_2_code 29 = .ok (.iconst 1, 1) := by decide +kernel
theorem d4_30 : decode prog_62_method_2_code 30 = .ok (.goto 4, 3) := by decide +kernel
theorem d4_34 : decode prog_62_method_2_code 34 = .ok (.ireturn, 1) := by decide +kernel
theorem pn_4 : plainName "com/example/offpeak/offpeak/flow/Room" = true := by first | (simp [plainName, overriddenIn]; done) | decide +kernel
theorem ef_4 (m : MethodId) (x0 : Addr) (x1 : Addr) : entryFrame m #[(.ref x0), (.ref x1)] 2 = mkF m 0 #[.val (.ref x0), .val (.ref x1)] [] := by first | (simp [entryFrame, mkF, argsToLocals, Value.category]; done) | rfl
def Q4 (Z : State) (r : Int32) (h0 : Heap) (n0 : Nat) (v : Option Value) (h : Heap) (L : List Loc) : Prop := v = some (.int r) ∧ Fr n0 L ∧ h = h0
set_option maxRecDepth 65536 in
set_option maxHeartbeats 40000000 in
theorem rm4a (l : Launch) (Z : State) (a0 : Array Value) (hw : ∀ d ∈ tables_1, d.before a0 Z = true) (ws : List Jvm.Cond) (a1 : Addr) (a2 : Addr) (w3 : Int32) (w5 : Int32) (w7 : Int32) (w10 : Int32) (h0 : Heap) (n0 : Nat) (Z0 : n0 ≤ h0.size) (F_free_a2 : Fld Z h0 a2 "com/example/offpeak/offpeak/flow/Room" "free" "I" (.int w3)) (F_free_a1 : Fld Z h0 a1 "com/example/offpeak/offpeak/flow/Room" "free" "I" (.int w5)) (F_spare_a2 : Fld Z h0 a2 "com/example/offpeak/offpeak/flow/Room" "spare" "I" (.int w7)) (F_spare_a1 : Fld Z h0 a1 "com/example/offpeak/offpeak/flow/Room" "spare" "I" (.int w10)) (hc8 : ¬ (w5 < w3)) (hc15 : ¬ (w7 = (0 : Int32))) (hc26 : ¬ (w10 < w7)) :
    MetFree l (⟨"com/example/offpeak/offpeak/flow/Room", "holds", "(Lcom/example/offpeak/offpeak/flow/Room;)Z"⟩ : MethodName) (head1 (Jvm.Cond.code (⟨"com/example/offpeak/offpeak/flow/Room", "holds", "(Lcom/example/offpeak/offpeak/flow/Room;)Z"⟩ : MethodName) prog_62_method_2_code 2 (some .boolean) :: ws) ({ frames := 0, cells := 0, slots := 0, locals := 0 } : Room)) (fun a U => a = #[(.ref a1), (.ref a2)] ∧ Z.Warmed39 U.vm ∧ U.heap = h0) (fun _ _ _ _ _ => True) (fun _ U o U' => ∃ v L, o = .returned v ∧ Q4 Z (own_h w5 w10 w3 w7) h0 n0 v U'.heap L ∧ FrameEnd U o U' L ({ frames := 0, cells := 0, slots := 0, locals := 0 } : Room).cells ({ frames := 0, cells := 0, slots := 0, locals := 0 } : Room).slots) := by
  refine MetFree.of_bodySF (plainFor_of_name pn_4) hisR ?_
  intro p e s m args below meth c s₁ Bd hml0 hP hK
  obtain ⟨rfl, hZ, hh⟩ := hP
  have hx := Bd.exec
  have hby := Bd.bytes
  have hml : c.maxLocals = 2 := hml0
  have hown : s.vm.findClass "com/example/offpeak/offpeak/flow/Room" = some m.cls := findClass_of_methodNamed Bd.named
  have hnm := (name_of_methodNamed Bd.named Bd.method).1
  have X0 : Stand p l e ({ frames := 0, cells := 0, slots := 0, locals := 0 } : Room) s m #[(.ref a1), (.ref a2)] below meth c s₁ [] 0 0 := Stand.of_body Bd
  have e0 : s₁.heap = h0 := by rw [← hh, Bd.state]; rfl
  have N0 := Fr.nil n0
  have pre0 : ∀ t, Steps p.tables e below (s₁.setTop (mkF m 0 #[.val (.ref a1), .val (.ref a2)] [])) t → Steps p.tables e below (s₁.setTop (entryFrame m #[(.ref a1), (.ref a2)] 2)) t := fun t k => castTop (ef_4 m a1 a2) k
  -- 3. LAWS
  obtain ⟨T4, X4, e4, st4⟩ := getF X0 hx hZ hown (host := "") (Or.inl (hw _ (List.mem_of_getElem? (i := 14) rfl))) Via.refl e0 F_free_a2 (g := (mkF m 1 #[.val (.ref a1), .val (.ref a2)] [(.ref a2)])) rfl rfl (hb hby d4_1)
  obtain ⟨T6, X6, e6, st6⟩ := getF X4 hx hZ hown (host := "") (Or.inl (hw _ (List.mem_of_getElem? (i := 14) rfl))) Via.refl e4 F_free_a1 (g := (mkF m 5 #[.val (.ref a1), .val (.ref a2)] [(.ref a1), (.int w3)])) rfl rfl (hb hby d4_5)
  obtain ⟨T8, X8, e8, st8⟩ := getF X6 hx hZ hown (host := "") (Or.inl (hw _ (List.mem_of_getElem? (i := 16) rfl))) Via.refl e6 F_spare_a2 (g := (mkF m 12 #[.val (.ref a1), .val (.ref a2)] [(.ref a2)])) rfl rfl (hb hby d4_12)
  obtain ⟨T9, X9, e9, st9⟩ := getF X8 hx hZ hown (host := "") (Or.inl (hw _ (List.mem_of_getElem? (i := 16) rfl))) Via.refl e8 F_spare_a2 (g := (mkF m 19 #[.val (.ref a1), .val (.ref a2)] [(.ref a2)])) rfl rfl (hb hby d4_19)
  obtain ⟨T11, X11, e11, st11⟩ := getF X9 hx hZ hown (host := "") (Or.inl (hw _ (List.mem_of_getElem? (i := 16) rfl))) Via.refl e9 F_spare_a1 (g := (mkF m 23 #[.val (.ref a1), .val (.ref a2)] [(.ref a1), (.int w7)])) rfl rfl (hb hby d4_23)
  obtain ⟨fs, hr, hrun, hended, hW, hsame⟩ := X11.leave (v := some (.int (1 : Int32))) (fun h => by rw [Bd.returns] at h; cases h)
  refine ⟨_, _, pre0 _ ?_, hrun, hended, _, _, rfl, ?_, ⟨_, rfl⟩, hW, hsame.mono (by decide) (by decide)⟩
  -- 4. STEPS
  · show Steps p.tables e below (s₁.setTop (mkF m 0 #[.val (.ref a1), .val (.ref a2)] [])) _
    refine XS.aloadN X0.here hx rfl (hb hby d4_0) rfl rfl ?_
    show Steps p.tables e below (s₁.setTop (mkF m 1 #[.val (.ref a1), .val (.ref a2)] [(.ref a2)])) _
    refine st4 _ ?_
    show Steps p.tables e below (T4.setTop (mkF m 4 #[.val (.ref a1), .val (.ref a2)] [(.int w3)])) _
    refine XS.aloadN X4.here hx rfl (hb hby d4_4) rfl rfl ?_
    show Steps p.tables e below (T4.setTop (mkF m 5 #[.val (.ref a1), .val (.ref a2)] [(.ref a1), (.int w3)])) _
    refine st6 _ ?_
    show Steps p.tables e below (T6.setTop (mkF m 8 #[.val (.ref a1), .val (.ref a2)] [(.int w5), (.int w3)])) _
    refine XS.icmpNo X6.here hx rfl (hb hby d4_8) rfl (flt hc8).2.2.1 ?_
    show Steps p.tables e below (T6.setTop (mkF m 11 #[.val (.ref a1), .val (.ref a2)] [])) _
    refine XS.aloadN X6.here hx rfl (hb hby d4_11) rfl rfl ?_
    show Steps p.tables e below (T6.setTop (mkF m 12 #[.val (.ref a1), .val (.ref a2)] [(.ref a2)])) _
    refine st8 _ ?_
    show Steps p.tables e below (T8.setTop (mkF m 15 #[.val (.ref a1), .val (.ref a2)] [(.int w7)])) _
    refine XS.ifNo X8.here hx rfl (hb hby d4_15) rfl ((if0 _ _).trans (feq hc15).1) ?_
    show Steps p.tables e below (T8.setTop (mkF m 18 #[.val (.ref a1), .val (.ref a2)] [])) _
    refine XS.aloadN X8.here hx rfl (hb hby d4_18) rfl rfl ?_
    show Steps p.tables e below (T8.setTop (mkF m 19 #[.val (.ref a1), .val (.ref a2)] [(.ref a2)])) _
    refine st9 _ ?_
    show Steps p.tables e below (T9.setTop (mkF m 22 #[.val (.ref a1), .val (.ref a2)] [(.int w7)])) _
    refine XS.aloadN X9.here hx rfl (hb hby d4_22) rfl rfl ?_
    show Steps p.tables e below (T9.setTop (mkF m 23 #[.val (.ref a1), .val (.ref a2)] [(.ref a1), (.int w7)])) _
    refine st11 _ ?_
    show Steps p.tables e below (T11.setTop (mkF m 26 #[.val (.ref a1), .val (.ref a2)] [(.int w10), (.int w7)])) _
    refine XS.icmpNo X11.here hx rfl (hb hby d4_26) rfl (flt hc26).2.2.1 ?_
    show Steps p.tables e below (T11.setTop (mkF m 29 #[.val (.ref a1), .val (.ref a2)] [])) _
    refine XS.iconst X11.here hx rfl (hb hby d4_29) ?_
    show Steps p.tables e below (T11.setTop (mkF m 30 #[.val (.ref a1), .val (.ref a2)] [(.int (1 : Int32))])) _
    refine XS.goto X11.here hx rfl (pc0 := 30) (pc' := 34) rfl (hb hby d4_30) (by decide) (by decide) ?_
    show Steps p.tables e below (T11.setTop (mkF m 34 #[.val (.ref a1), .val (.ref a2)] [(.int (1 : Int32))])) _
    exact retN X11 hx (t := .boolean) Bd.returns (by simp) (hb hby d4_34) hr
  · show Q4 Z (own_h w5 w10 w3 w7) h0 n0 _ T11.heap _
    rw [e11]
    exact ⟨by simp [own_h, hc8, hc15, hc26], N0, rfl⟩
theorem d4_33 : decode prog_62_method_2_code 33 = .ok (.iconst 0, 1) := by decide +kernel
set_option maxRecDepth 65536 in
set_option maxHeartbeats 40000000 in
theorem rm4b (l : Launch) (Z : State) (a0 : Array Value) (hw : ∀ d ∈ tables_1, d.before a0 Z = true) (ws : List Jvm.Cond) (a1 : Addr) (a2 : Addr) (w3 : Int32) (w5 : Int32) (w7 : Int32) (w10 : Int32) (h0 : Heap) (n0 : Nat) (Z0 : n0 ≤ h0.size) (F_free_a2 : Fld Z h0 a2 "com/example/offpeak/offpeak/flow/Room" "free" "I" (.int w3)) (F_free_a1 : Fld Z h0 a1 "com/example/offpeak/offpeak/flow/Room" "free" "I" (.int w5)) (F_spare_a2 : Fld Z h0 a2 "com/example/offpeak/offpeak/flow/Room" "spare" "I" (.int w7)) (F_spare_a1 : Fld Z h0 a1 "com/example/offpeak/offpeak/flow/Room" "spare" "I" (.int w10)) (hc8 : ¬ (w5 < w3)) (hc15 : ¬ (w7 = (0 : Int32))) (hc26 : w10 < w7) :
    MetFree l (⟨"com/example/offpeak/offpeak/flow/Room", "holds", "(Lcom/example/offpeak/offpeak/flow/Room;)Z"⟩ : MethodName) (head1 (Jvm.Cond.code (⟨"com/example/offpeak/offpeak/flow/Room", "holds", "(Lcom/example/offpeak/offpeak/flow/Room;)Z"⟩ : MethodName) prog_62_method_2_code 2 (some .boolean) :: ws) ({ frames := 0, cells := 0, slots := 0, locals := 0 } : Room)) (fun a U => a = #[(.ref a1), (.ref a2)] ∧ Z.Warmed39 U.vm ∧ U.heap = h0) (fun _ _ _ _ _ => True) (fun _ U o U' => ∃ v L, o = .returned v ∧ Q4 Z (own_h w5 w10 w3 w7) h0 n0 v U'.heap L ∧ FrameEnd U o U' L ({ frames := 0, cells := 0, slots := 0, locals := 0 } : Room).cells ({ frames := 0, cells := 0, slots := 0, locals := 0 } : Room).slots) := by
  refine MetFree.of_bodySF (plainFor_of_name pn_4) hisR ?_
  intro p e s m args below meth c s₁ Bd hml0 hP hK
  obtain ⟨rfl, hZ, hh⟩ := hP
  have hx := Bd.exec
  have hby := Bd.bytes
  have hml : c.maxLocals = 2 := hml0
  have hown : s.vm.findClass "com/example/offpeak/offpeak/flow/Room" = some m.cls := findClass_of_methodNamed Bd.named
  have hnm := (name_of_methodNamed Bd.named Bd.method).1
  have X0 : Stand p l e ({ frames := 0, cells := 0, slots := 0, locals := 0 } : Room) s m #[(.ref a1), (.ref a2)] below meth c s₁ [] 0 0 := Stand.of_body Bd
  have e0 : s₁.heap = h0 := by rw [← hh, Bd.state]; rfl
  have N0 := Fr.nil n0
  have pre0 : ∀ t, Steps p.tables e below (s₁.setTop (mkF m 0 #[.val (.ref a1), .val (.ref a2)] [])) t → Steps p.tables e below (s₁.setTop (entryFrame m #[(.ref a1), (.ref a2)] 2)) t := fun t k => castTop (ef_4 m a1 a2) k
  -- 3. LAWS
  obtain ⟨T4, X4, e4, st4⟩ := getF X0 hx hZ hown (host := "") (Or.inl (hw _ (List.mem_of_getElem? (i := 14) rfl))) Via.refl e0 F_free_a2 (g := (mkF m 1 #[.val (.ref a1), .val (.ref a2)] [(.ref a2)])) rfl rfl (hb hby d4_1)
  obtain ⟨T6, X6, e6, st6⟩ := getF X4 hx hZ hown (host := "") (Or.inl (hw _ (List.mem_of_getElem? (i := 14) rfl))) Via.refl e4 F_free_a1 (g := (mkF m 5 #[.val (.ref a1), .val (.ref a2)] [(.ref a1), (.int w3)])) rfl rfl (hb hby d4_5)
  obtain ⟨T8, X8, e8, st8⟩ := getF X6 hx hZ hown (host := "") (Or.inl (hw _ (List.mem_of_getElem? (i := 16) rfl))) Via.refl e6 F_spare_a2 (g := (mkF m 12 #[.val (.ref a1), .val (.ref a2)] [(.ref a2)])) rfl rfl (hb hby d4_12)
  obtain ⟨T9, X9, e9, st9⟩ := getF X8 hx hZ hown (host := "") (Or.inl (hw _ (List.mem_of_getElem? (i := 16) rfl))) Via.refl e8 F_spare_a2 (g := (mkF m 19 #[.val (.ref a1), .val (.ref a2)] [(.ref a2)])) rfl rfl (hb hby d4_19)
  obtain ⟨T11, X11, e11, st11⟩ := getF X9 hx hZ hown (host := "") (Or.inl (hw _ (List.mem_of_getElem? (i := 16) rfl))) Via.refl e9 F_spare_a1 (g := (mkF m 23 #[.val (.ref a1), .val (.ref a2)] [(.ref a1), (.int w7)])) rfl rfl (hb hby d4_23)
  obtain ⟨fs, hr, hrun, hended, hW, hsame⟩ := X11.leave (v := some (.int (0 : Int32))) (fun h => by rw [Bd.returns] at h; cases h)
  refine ⟨_, _, pre0 _ ?_, hrun, hended, _, _, rfl, ?_, ⟨_, rfl⟩, hW, hsame.mono (by decide) (by decide)⟩
  -- 4. STEPS
  · show Steps p.tables e below (s₁.setTop (mkF m 0 #[.val (.ref a1), .val (.ref a2)] [])) _
    refine XS.aloadN X0.here hx rfl (hb hby d4_0) rfl rfl ?_
    show Steps p.tables e below (s₁.setTop (mkF m 1 #[.val (.ref a1), .val (.ref a2)] [(.ref a2)])) _
    refine st4 _ ?_
    show Steps p.tables e below (T4.setTop (mkF m 4 #[.val (.ref a1), .val (.ref a2)] [(.int w3)])) _
    refine XS.aloadN X4.here hx rfl (hb hby d4_4) rfl rfl ?_
    show Steps p.tables e below (T4.setTop (mkF m 5 #[.val (.ref a1), .val (.ref a2)] [(.ref a1), (.int w3)])) _
    refine st6 _ ?_
    show Steps p.tables e below (T6.setTop (mkF m 8 #[.val (.ref a1), .val (.ref a2)] [(.int w5), (.int w3)])) _
    refine XS.icmpNo X6.here hx rfl (hb hby d4_8) rfl (flt hc8).2.2.1 ?_
    show Steps p.tables e below (T6.setTop (mkF m 11 #[.val (.ref a1), .val (.ref a2)] [])) _
    refine XS.aloadN X6.here hx rfl (hb hby d4_11) rfl rfl ?_
    show Steps p.tables e below (T6.setTop (mkF m 12 #[.val (.ref a1), .val (.ref a2)] [(.ref a2)])) _
    refine st8 _ ?_
    show Steps p.tables e below (T8.setTop (mkF m 15 #[.val (.ref a1), .val (.ref a2)] [(.int w7)])) _
    refine XS.ifNo X8.here hx rfl (hb hby d4_15) rfl ((if0 _ _).trans (feq hc15).1) ?_
    show Steps p.tables e below (T8.setTop (mkF m 18 #[.val (.ref a1), .val (.ref a2)] [])) _
    refine XS.aloadN X8.here hx rfl (hb hby d4_18) rfl rfl ?_
    show Steps p.tables e below (T8.setTop (mkF m 19 #[.val (.ref a1), .val (.ref a2)] [(.ref a2)])) _
    refine st9 _ ?_
    show Steps p.tables e below (T9.setTop (mkF m 22 #[.val (.ref a1), .val (.ref a2)] [(.int w7)])) _
    refine XS.aloadN X9.here hx rfl (hb hby d4_22) rfl rfl ?_
    show Steps p.tables e below (T9.setTop (mkF m 23 #[.val (.ref a1), .val (.ref a2)] [(.ref a1), (.int w7)])) _
    refine st11 _ ?_
    show Steps p.tables e below (T11.setTop (mkF m 26 #[.val (.ref a1), .val (.ref a2)] [(.int w10), (.int w7)])) _
    refine XS.icmpYes X11.here hx rfl (pc0 := 26) (pc' := 33) rfl (hb hby d4_26) rfl (tlt hc26).2.2.1 (by decide) (by decide) ?_
    show Steps p.tables e below (T11.setTop (mkF m 33 #[.val (.ref a1), .val (.ref a2)] [])) _
    refine XS.iconst X11.here hx rfl (hb hby d4_33) ?_
    show Steps p.tables e below (T11.setTop (mkF m 34 #[.val (.ref a1), .val (.ref a2)] [(.int (0 : Int32))])) _
    exact retN X11 hx (t := .boolean) Bd.returns (by simp) (hb hby d4_34) hr
  · show Q4 Z (own_h w5 w10 w3 w7) h0 n0 _ T11.heap _
    rw [e11]
    exact ⟨by simp [own_h, hc8, hc15, hc26], N0, rfl⟩
set_option maxRecDepth 65536 in
set_option maxHeartbeats 40000000 in
theorem rm4c (l : Launch) (Z : State) (a0 : Array Value) (hw : ∀ d ∈ tables_1, d.before a0 Z = true) (ws : List Jvm.Cond) (a1 : Addr) (a2 : Addr) (w3 : Int32) (w5 : Int32) (w7 : Int32) (w10 : Int32) (h0 : Heap) (n0 : Nat) (Z0 : n0 ≤ h0.size) (F_free_a2 : Fld Z h0 a2 "com/example/offpeak/offpeak/flow/Room" "free" "I" (.int w3)) (F_free_a1 : Fld Z h0 a1 "com/example/offpeak/offpeak/flow/Room" "free" "I" (.int w5)) (F_spare_a2 : Fld Z h0 a2 "com/example/offpeak/offpeak/flow/Room" "spare" "I" (.int w7)) (hc8 : ¬ (w5 < w3)) (hc15 : w7 = (0 : Int32)) :
    MetFree l (⟨"com/example/offpeak/offpeak/flow/Room", "holds", "(Lcom/example/offpeak/offpeak/flow/Room;)Z"⟩ : MethodName) (head1 (Jvm.Cond.code (⟨"com/example/offpeak/offpeak/flow/Room", "holds", "(Lcom/example/offpeak/offpeak/flow/Room;)Z"⟩ : MethodName) prog_62_method_2_code 2 (some .boolean) :: ws) ({ frames := 0, cells := 0, slots := 0, locals := 0 } : Room)) (fun a U => a = #[(.ref a1), (.ref a2)] ∧ Z.Warmed39 U.vm ∧ U.heap = h0) (fun _ _ _ _ _ => True) (fun _ U o U' => ∃ v L, o = .returned v ∧ Q4 Z (own_h w5 w10 w3 w7) h0 n0 v U'.heap L ∧ FrameEnd U o U' L ({ frames := 0, cells := 0, slots := 0, locals := 0 } : Room).cells ({ frames := 0, cells := 0, slots := 0, locals := 0 } : Room).slots) := by
  refine MetFree.of_bodySF (plainFor_of_name pn_4) hisR ?_
  intro p e s m args below meth c s₁ Bd hml0 hP hK
  obtain ⟨rfl, hZ, hh⟩ := hP
  have hx := Bd.exec
  have hby := Bd.bytes
  have hml : c.maxLocals = 2 := hml0
  have hown : s.vm.findClass "com/example/offpeak/offpeak/flow/Room" = some m.cls := findClass_of_methodNamed Bd.named
  have hnm := (name_of_methodNamed Bd.named Bd.method).1
  have X0 : Stand p l e ({ frames := 0, cells := 0, slots := 0, locals := 0 } : Room) s m #[(.ref a1), (.ref a2)] below meth c s₁ [] 0 0 := Stand.of_body Bd
  have e0 : s₁.heap = h0 := by rw [← hh, Bd.state]; rfl
  have N0 := Fr.nil n0
  have pre0 : ∀ t, Steps p.tables e below (s₁.setTop (mkF m 0 #[.val (.ref a1), .val (.ref a2)] [])) t → Steps p.tables e below (s₁.setTop (entryFrame m #[(.ref a1), (.ref a2)] 2)) t := fun t k => castTop (ef_4 m a1 a2) k
  -- 3. LAWS
  obtain ⟨T4, X4, e4, st4⟩ := getF X0 hx hZ hown (host := "") (Or.inl (hw _ (List.mem_of_getElem? (i := 14) rfl))) Via.refl e0 F_free_a2 (g := (mkF m 1 #[.val (.ref a1), .val (.ref a2)] [(.ref a2)])) rfl rfl (hb hby d4_1)
  obtain ⟨T6, X6, e6, st6⟩ := getF X4 hx hZ hown (host := "") (Or.inl (hw _ (List.mem_of_getElem? (i := 14) rfl))) Via.refl e4 F_free_a1 (g := (mkF m 5 #[.val (.ref a1), .val (.ref a2)] [(.ref a1), (.int w3)])) rfl rfl (hb hby d4_5)
  obtain ⟨T8, X8, e8, st8⟩ := getF X6 hx hZ hown (host := "") (Or.inl (hw _ (List.mem_of_getElem? (i := 16) rfl))) Via.refl e6 F_spare_a2 (g := (mkF m 12 #[.val (.ref a1), .val (.ref a2)] [(.ref a2)])) rfl rfl (hb hby d4_12)
  obtain ⟨fs, hr, hrun, hended, hW, hsame⟩ := X8.leave (v := some (.int (1 : Int32))) (fun h => by rw [Bd.returns] at h; cases h)
  refine ⟨_, _, pre0 _ ?_, hrun, hended, _, _, rfl, ?_, ⟨_, rfl⟩, hW, hsame.mono (by decide) (by decide)⟩
  -- 4. STEPS
  · show Steps p.tables e below (s₁.setTop (mkF m 0 #[.val (.ref a1), .val (.ref a2)] [])) _
    refine XS.aloadN X0.here hx rfl (hb hby d4_0) rfl rfl ?_
    show Steps p.tables e below (s₁.setTop (mkF m 1 #[.val (.ref a1), .val (.ref a2)] [(.ref a2)])) _
    refine st4 _ ?_
    show Steps p.tables e below (T4.setTop (mkF m 4 #[.val (.ref a1), .val (.ref a2)] [(.int w3)])) _
    refine XS.aloadN X4.here hx rfl (hb hby d4_4) rfl rfl ?_
    show Steps p.tables e below (T4.setTop (mkF m 5 #[.val (.ref a1), .val (.ref a2)] [(.ref a1), (.int w3)])) _
    refine st6 _ ?_
    show Steps p.tables e below (T6.setTop (mkF m 8 #[.val (.ref a1), .val (.ref a2)] [(.int w5), (.int w3)])) _
    refine XS.icmpNo X6.here hx rfl (hb hby d4_8) rfl (flt hc8).2.2.1 ?_
    show Steps p.tables e below (T6.setTop (mkF m 11 #[.val (.ref a1), .val (.ref a2)] [])) _
    refine XS.aloadN X6.here hx rfl (hb hby d4_11) rfl rfl ?_
    show Steps p.tables e below (T6.setTop (mkF m 12 #[.val (.ref a1), .val (.ref a2)] [(.ref a2)])) _
    refine st8 _ ?_
    show Steps p.tables e below (T8.setTop (mkF m 15 #[.val (.ref a1), .val (.ref a2)] [(.int w7)])) _
    refine XS.ifYes X8.here hx rfl (pc0 := 15) (pc' := 29) rfl (hb hby d4_15) rfl ((if0 _ _).trans (teq hc15).1) (by decide) (by decide) ?_
    show Steps p.tables e below (T8.setTop (mkF m 29 #[.val (.ref a1), .val (.ref a2)] [])) _
    refine XS.iconst X8.here hx rfl (hb hby d4_29) ?_
    show Steps p.tables e below (T8.setTop (mkF m 30 #[.val (.ref a1), .val (.ref a2)] [(.int (1 : Int32))])) _
    refine XS.goto X8.here hx rfl (pc0 := 30) (pc' := 34) rfl (hb hby d4_30) (by decide) (by decide) ?_
    show Steps p.tables e below (T8.setTop (mkF m 34 #[.val (.ref a1), .val (.ref a2)] [(.int (1 : Int32))])) _
    exact retN X8 hx (t := .boolean) Bd.returns (by simp) (hb hby d4_34) hr
  · show Q4 Z (own_h w5 w10 w3 w7) h0 n0 _ T8.heap _
    rw [e8]
    exact ⟨by rw [hc15]; simp [own_h, hc8], N0, rfl⟩
set_option maxRecDepth 65536 in
set_option maxHeartbeats 40000000 in
theorem rm4d (l : Launch) (Z : State) (a0 : Array Value) (hw : ∀ d ∈ tables_1, d.before a0 Z = true) (ws : List Jvm.Cond) (a1 : Addr) (a2 : Addr) (w3 : Int32) (w5 : Int32) (w7 : Int32) (w10 : Int32) (h0 : Heap) (n0 : Nat) (Z0 : n0 ≤ h0.size) (F_free_a2 : Fld Z h0 a2 "com/example/offpeak/offpeak/flow/Room" "free" "I" (.int w3)) (F_free_a1 : Fld Z h0 a1 "com/example/offpeak/offpeak/flow/Room" "free" "I" (.int w5)) (hc8 : w5 < w3) :
    MetFree l (⟨"com/example/offpeak/offpeak/flow/Room", "holds", "(Lcom/example/offpeak/offpeak/flow/Room;)Z"⟩ : MethodName) (head1 (Jvm.Cond.code (⟨"com/example/offpeak/offpeak/flow/Room", "holds", "(Lcom/example/offpeak/offpeak/flow/Room;)Z"⟩ : MethodName) prog_62_method_2_code 2 (some .boolean) :: ws) ({ frames := 0, cells := 0, slots := 0, locals := 0 } : Room)) (fun a U => a = #[(.ref a1), (.ref a2)] ∧ Z.Warmed39 U.vm ∧ U.heap = h0) (fun _ _ _ _ _ => True) (fun _ U o U' => ∃ v L, o = .returned v ∧ Q4 Z (own_h w5 w10 w3 w7) h0 n0 v U'.heap L ∧ FrameEnd U o U' L ({ frames := 0, cells := 0, slots := 0, locals := 0 } : Room).cells ({ frames := 0, cells := 0, slots := 0, locals := 0 } : Room).slots) := by
  refine MetFree.of_bodySF (plainFor_of_name pn_4) hisR ?_
  intro p e s m args below meth c s₁ Bd hml0 hP hK
  obtain ⟨rfl, hZ, hh⟩ := hP
  have hx := Bd.exec
  have hby := Bd.bytes
  have hml : c.maxLocals = 2 := hml0
  have hown : s.vm.findClass "com/example/offpeak/offpeak/flow/Room" = some m.cls := findClass_of_methodNamed Bd.named
  have hnm := (name_of_methodNamed Bd.named Bd.method).1
  have X0 : Stand p l e ({ frames := 0, cells := 0, slots := 0, locals := 0 } : Room) s m #[(.ref a1), (.ref a2)] below meth c s₁ [] 0 0 := Stand.of_body Bd
  have e0 : s₁.heap = h0 := by rw [← hh, Bd.state]; rfl
  have N0 := Fr.nil n0
  have pre0 : ∀ t, Steps p.tables e below (s₁.setTop (mkF m 0 #[.val (.ref a1), .val (.ref a2)] [])) t → Steps p.tables e below (s₁.setTop (entryFrame m #[(.ref a1), (.ref a2)] 2)) t := fun t k => castTop (ef_4 m a1 a2) k
  -- 3. LAWS
  obtain ⟨T4, X4, e4, st4⟩ := getF X0 hx hZ hown (host := "") (Or.inl (hw _ (List.mem_of_getElem? (i := 14) rfl))) Via.refl e0 F_free_a2 (g := (mkF m 1 #[.val (.ref a1), .val (.ref a2)] [(.ref a2)])) rfl rfl (hb hby d4_1)
  obtain ⟨T6, X6, e6, st6⟩ := getF X4 hx hZ hown (host := "") (Or.inl (hw _ (List.mem_of_getElem? (i := 14) rfl))) Via.refl e4 F_free_a1 (g := (mkF m 5 #[.val (.ref a1), .val (.ref a2)] [(.ref a1), (.int w3)])) rfl rfl (hb hby d4_5)
  obtain ⟨fs, hr, hrun, hended, hW, hsame⟩ := X6.leave (v := some (.int (0 : Int32))) (fun h => by rw [Bd.returns] at h; cases h)
  refine ⟨_, _, pre0 _ ?_, hrun, hended, _, _, rfl, ?_, ⟨_, rfl⟩, hW, hsame.mono (by decide) (by decide)⟩
  -- 4. STEPS
  · show Steps p.tables e below (s₁.setTop (mkF m 0 #[.val (.ref a1), .val (.ref a2)] [])) _
    refine XS.aloadN X0.here hx rfl (hb hby d4_0) rfl rfl ?_
    show Steps p.tables e below (s₁.setTop (mkF m 1 #[.val (.ref a1), .val (.ref a2)] [(.ref a2)])) _
    refine st4 _ ?_
    show Steps p.tables e below (T4.setTop (mkF m 4 #[.val (.ref a1), .val (.ref a2)] [(.int w3)])) _
    refine XS.aloadN X4.here hx rfl (hb hby d4_4) rfl rfl ?_
    show Steps p.tables e below (T4.setTop (mkF m 5 #[.val (.ref a1), .val (.ref a2)] [(.ref a1), (.int w3)])) _
    refine st6 _ ?_
    show Steps p.tables e below (T6.setTop (mkF m 8 #[.val (.ref a1), .val (.ref a2)] [(.int w5), (.int w3)])) _
    refine XS.icmpYes X6.here hx rfl (pc0 := 8) (pc' := 33) rfl (hb hby d4_8) rfl (tlt hc8).2.2.1 (by decide) (by decide) ?_
    show Steps p.tables e below (T6.setTop (mkF m 33 #[.val (.ref a1), .val (.ref a2)] [])) _
    refine XS.iconst X6.here hx rfl (hb hby d4_33) ?_
    show Steps p.tables e below (T6.setTop (mkF m 34 #[.val (.ref a1), .val (.ref a2)] [(.int (0 : Int32))])) _
    exact retN X6 hx (t := .boolean) Bd.returns (by simp) (hb hby d4_34) hr
  · show Q4 Z (own_h w5 w10 w3 w7) h0 n0 _ T6.heap _
    rw [e6]
    exact ⟨by simp [own_h, hc8], N0, rfl⟩
theorem rm4 (l : Launch) (Z : State) (a0 : Array Value) (hw : ∀ d ∈ tables_1, d.before a0 Z = true) (ws : List Jvm.Cond) (a1 : Addr) (a2 : Addr) (w3 : Int32) (w5 : Int32) (w7 : Int32) (w10 : Int32) (h0 : Heap) (n0 : Nat) (Z0 : n0 ≤ h0.size) (F_free_a2 : Fld Z h0 a2 "com/example/offpeak/offpeak/flow/Room" "free" "I" (.int w3)) (F_free_a1 : Fld Z h0 a1 "com/example/offpeak/offpeak/flow/Room" "free" "I" (.int w5)) (F_spare_a2 : Fld Z h0 a2 "com/example/offpeak/offpeak/flow/Room" "spare" "I" (.int w7)) (F_spare_a1 : Fld Z h0 a1 "com/example/offpeak/offpeak/flow/Room" "spare" "I" (.int w10)) :
    MetFree l (⟨"com/example/offpeak/offpeak/flow/Room", "holds", "(Lcom/example/offpeak/offpeak/flow/Room;)Z"⟩ : MethodName) (head1 (Jvm.Cond.code (⟨"com/example/offpeak/offpeak/flow/Room", "holds", "(Lcom/example/offpeak/offpeak/flow/Room;)Z"⟩ : MethodName) prog_62_method_2_code 2 (some .boolean) :: ws) ({ frames := 0, cells := 0, slots := 0, locals := 0 } : Room)) (fun a U => a = #[(.ref a1), (.ref a2)] ∧ Z.Warmed39 U.vm ∧ U.heap = h0) (fun _ _ _ _ _ => True) (fun _ U o U' => ∃ v L, o = .returned v ∧ Q4 Z (own_h w5 w10 w3 w7) h0 n0 v U'.heap L ∧ FrameEnd U o U' L ({ frames := 0, cells := 0, slots := 0, locals := 0 } : Room).cells ({ frames := 0, cells := 0, slots := 0, locals := 0 } : Room).slots) := by
  by_cases hc8 : w5 < w3
  · exact rm4d l Z a0 hw ws a1 a2 w3 w5 w7 w10 h0 n0 Z0 F_free_a2 F_free_a1 hc8
  · by_cases hc15 : w7 = (0 : Int32)
    · exact rm4c l Z a0 hw ws a1 a2 w3 w5 w7 w10 h0 n0 Z0 F_free_a2 F_free_a1 F_spare_a2 hc8 hc15
    · by_cases hc26 : w10 < w7
      · exact rm4b l Z a0 hw ws a1 a2 w3 w5 w7 w10 h0 n0 Z0 F_free_a2 F_free_a1 F_spare_a2 F_spare_a1 hc8 hc15 hc26
      · exact rm4a l Z a0 hw ws a1 a2 w3 w5 w7 w10 h0 n0 Z0 F_free_a2 F_free_a1 F_spare_a2 F_spare_a1 hc8 hc15 hc26
theorem pn_0 : plainName "com/example/offpeak/offpeak/flow/RoomHoldsPinLaw" = true := by first | (simp [plainName, overriddenIn]; done) | decide +kernel
theorem pd_0_0 : parseMethodDescriptor "(II)V" = some ⟨[.int, .int], none⟩ := by decide +kernel
theorem pd_0_2 : parseMethodDescriptor "(Lcom/example/offpeak/offpeak/flow/Room;)Z" = some ⟨[(.object "com/example/offpeak/offpeak/flow/Room")], some .boolean⟩ := by decide +kernel
theorem ef_0 (m : MethodId) (x0 : Int32) (x1 : Int32) (x2 : Int32) (x3 : Int32) : entryFrame m #[(.int x0), (.int x1), (.int x2), (.int x3)] maxLocals = mkF m 0 #[.val (.int x0), .val (.int x1), .val (.int x2), .val (.int x3), .unset, .unset, .unset, .unset, .unset, .unset, .unset, .unset, .unset, .unset] [] := by first | (simp [entryFrame, mkF, argsToLocals, Value.category, maxLocals]; done) | rfl
def Q0 (Z : State) (p1 : Int32) (p2 : Int32) (p3 : Int32) (p4 : Int32) (h0 : Heap) (n0 : Nat) (v : Option Value) (h : Heap) (L : List Loc) : Prop := v = some (.int (1 : Int32)) ∧ Fr n0 L
set_option maxRecDepth 65536 in
set_option maxHeartbeats 40000000 in
theorem rm0 (l : Launch) (Z : State) (a0 : Array Value) (hw : ∀ d ∈ tables_1, d.before a0 Z = true) (ws : List Jvm.Cond) (p1 : Int32) (p2 : Int32) (p3 : Int32) (p4 : Int32) (h0 : Heap) (n0 : Nat) (Z0 : n0 ≤ h0.size) :
    MetFree l x (head1 (Jvm.Cond.code x code maxLocals ret :: ws) room_1) (fun a U => a = #[(.int p1), (.int p2), (.int p3), (.int p4)] ∧ Z.Warmed39 U.vm ∧ U.heap = h0) (fun _ _ _ _ _ => True) (fun _ U o U' => ∃ v L, o = .returned v ∧ Q0 Z p1 p2 p3 p4 h0 n0 v U'.heap L ∧ FrameEnd U o U' L room_1.cells room_1.slots) := by
  refine MetFree.of_bodySF (plainFor_of_name pn_0) hisR ?_
  intro p e s m args below meth c s₁ Bd hml0 hP hK
  obtain ⟨rfl, hZ, hh⟩ := hP
  have hx := Bd.exec
  have hby := Bd.bytes
  have hml : c.maxLocals = 14 := hml0
  have hown : s.vm.findClass "com/example/offpeak/offpeak/flow/RoomHoldsPinLaw" = some m.cls := findClass_of_methodNamed Bd.named
  have hnm := (name_of_methodNamed Bd.named Bd.method).1
  have X0 : Stand p l e room_1 s m #[(.int p1), (.int p2), (.int p3), (.int p4)] below meth c s₁ [] 0 0 := Stand.of_body Bd
  have e0 : s₁.heap = h0 := by rw [← hh, Bd.state]; rfl
  have N0 := Fr.nil n0
  have pre0 : ∀ t, Steps p.tables e below (s₁.setTop (mkF m 0 #[.val (.int p1), .val (.int p2), .val (.int p3), .val (.int p4), .unset, .unset, .unset, .unset, .unset, .unset, .unset, .unset, .unset, .unset] [])) t → Steps p.tables e below (s₁.setTop (entryFrame m #[(.int p1), (.int p2), (.int p3), (.int p4)] maxLocals)) t := fun t k => castTop (ef_0 m p1 p2 p3 p4) k
  -- 3. LAWS
  obtain ⟨T5, h5, X5, e5, E5, A5, D5, -, st5⟩ := newO X0 hx hZ hown (hw _ (List.mem_of_getElem? (i := 0) rfl)) (hw _ (List.mem_of_getElem? (i := 1) rfl)) (hw _ (List.mem_of_getElem? (i := 2) rfl)) e0 (g := (mkF m 0 #[.val (.int p1), .val (.int p2), .val (.int p3), .val (.int p4), .unset, .unset, .unset, .unset, .unset, .unset, .unset, .unset, .unset, .unset] [])) rfl (hb hby at_0) (by decide) (by decide)
  obtain ⟨b5, g5⟩ : ∃ z, z = h0.size := ⟨_, rfl⟩      -- the fresh object's address
  rw [← g5] at A5 D5 st5      -- A5 : Exa Z h5 b5 "com/example/offpeak/offpeak/flow/Room"; E5 : Ext h0 h5 (carries every older fact: .ext E5)
  have F_free_b5 : Fld Z h5 b5 "com/example/offpeak/offpeak/flow/Room" "free" "I" (.int (0 : Int32)) := D5 (Or.inr (hw _ (List.mem_of_getElem? (i := 15) rfl))) (ty := .int) (by decide)
  have F_spare_b5 : Fld Z h5 b5 "com/example/offpeak/offpeak/flow/Room" "spare" "I" (.int (0 : Int32)) := D5 (Or.inr (hw _ (List.mem_of_getElem? (i := 17) rfl))) (ty := .int) (by decide)
  have E_b5 := A5
  have g_b5 : n0 ≤ b5 := Nat.le_trans Z0 (Nat.le_of_eq g5.symm)
  have sz_b5 : h0.size ≤ b5 := (Nat.le_trans (Keep.refl h0 []).1 (Nat.le_of_eq g5.symm))
  have K5 : Keep h0 h5 [] := (Keep.refl h0 []).ext E5
  -- pc 6: the constructor of com/example/offpeak/offpeak/flow/Room by its contract rm1
  obtain ⟨_, _, ⟨T6, L6, k6, n6⟩, -, X6, ⟨Lc6, hQ6, l6, y6, z6⟩, st6⟩ := X5.specialBack hx (y := (⟨"com/example/offpeak/offpeak/flow/Room", "<init>", "(II)V"⟩ : MethodName)) rfl hown (mvT hZ (hw _ (List.mem_of_getElem? (i := 3) rfl))) (mvT hZ (hw _ (List.mem_of_getElem? (i := 4) rfl))) (mvT hZ (hw _ (List.mem_of_getElem? (i := 5) rfl))) (by decide) (backOf (W := 1) (rm1 l Z a0 hw [] b5 p1 p2 (.int (0 : Int32)) (.int (0 : Int32)) h5 n0 (Nat.le_trans Z0 E5.1) E_b5 F_free_b5 g_b5 F_spare_b5) hZ (hw _ (List.mem_of_getElem? (i := 5) rfl)) (hw _ (List.mem_of_getElem? (i := 2) rfl)) (by decide) (by decide)) (g := (mkF m 6 #[.val (.int p1), .val (.int p2), .val (.int p3), .val (.int p4), .unset, .unset, .unset, .unset, .unset, .unset, .unset, .unset, .unset, .unset] [(.int p2), (.int p1), (.ref b5), (.ref b5)])) rfl (by rw [hml]; rfl) (Steps.refl _) (a := b5) (argsL := [(.int p1), (.int p2)]) (rest := [(.ref b5)]) (lenOf pd_0_0 rfl) rfl (by show 2 * 0 + _ ≤ _; exact Nat.le_of_eq rfl) (hb hby at_6) (fun _ _ => ⟨rfl, e5, (by decide : 1 + 0 ≤ _), (by decide : 2 + 0 ≤ _)⟩)
  dsimp only [Pt.U, Pt.locs, Pt.cells, Pt.slots] at X6 l6 y6 z6 st6 hQ6
  subst l6 y6 z6
  obtain ⟨rfl, N6q, K6c, E6, Ff6, Fs6⟩ := hQ6
  have K6h : Keep h0 T6.heap [] := K5.trans K6c (allS (Or.inr sz_b5) all0)
  have N6 := Fr.app N0 N6q
  obtain ⟨T7, h7, X7, e7, E7, A7, D7, -, st7⟩ := newO X6 hx hZ hown (hw _ (List.mem_of_getElem? (i := 0) rfl)) (hw _ (List.mem_of_getElem? (i := 1) rfl)) (hw _ (List.mem_of_getElem? (i := 2) rfl)) rfl (g := (mkF m 11 #[.val (.int p1), .val (.int p2), .val (.int p3), .val (.int p4), .val (.ref b5), .unset, .unset, .unset, .unset, .unset, .unset, .unset, .unset, .unset] [])) rfl (hb hby at_11) (by decide) (by decide)
  obtain ⟨b7, g7⟩ : ∃ z, z = T6.heap.size := ⟨_, rfl⟩      -- the fresh object's address
  rw [← g7] at A7 D7 st7      -- A7 : Exa Z h7 b7 "com/example/offpeak/offpeak/flow/Room"; E7 : Ext T6.heap h7 (carries every older fact: .ext E7)
  have F_free_b7 : Fld Z h7 b7 "com/example/offpeak/offpeak/flow/Room" "free" "I" (.int (0 : Int32)) := D7 (Or.inr (hw _ (List.mem_of_getElem? (i := 15) rfl))) (ty := .int) (by decide)
  have F_spare_b7 : Fld Z h7 b7 "com/example/offpeak/offpeak/flow/Room" "spare" "I" (.int (0 : Int32)) := D7 (Or.inr (hw _ (List.mem_of_getElem? (i := 17) rfl))) (ty := .int) (by decide)
  have E_b7 := A7
  have g_b7 : n0 ≤ b7 := Nat.le_trans (Nat.le_trans (Nat.le_trans Z0 E5.1) K6c.1) (Nat.le_of_eq g7.symm)
  have sz_b7 : h0.size ≤ b7 := (Nat.le_trans K6h.1 (Nat.le_of_eq g7.symm))
  have K7 : Keep h0 h7 [] := K6h.ext E7
  -- pc 17: the constructor of com/example/offpeak/offpeak/flow/Room by its contract rm1
  obtain ⟨_, _, ⟨T8, L8, k8, n8⟩, -, X8, ⟨Lc8, hQ8, l8, y8, z8⟩, st8⟩ := X7.specialBack hx (y := (⟨"com/example/offpeak/offpeak/flow/Room", "<init>", "(II)V"⟩ : MethodName)) rfl hown (mvT hZ (hw _ (List.mem_of_getElem? (i := 3) rfl))) (mvT hZ (hw _ (List.mem_of_getElem? (i := 4) rfl))) (mvT hZ (hw _ (List.mem_of_getElem? (i := 5) rfl))) (by decide) (backOf (W := 1) (rm1 l Z a0 hw [] b7 p3 p4 (.int (0 : Int32)) (.int (0 : Int32)) h7 n0 (Nat.le_trans Z0 K7.1) E_b7 F_free_b7 g_b7 F_spare_b7) hZ (hw _ (List.mem_of_getElem? (i := 5) rfl)) (hw _ (List.mem_of_getElem? (i := 2) rfl)) (by decide) (by decide)) (g := (mkF m 17 #[.val (.int p1), .val (.int p2), .val (.int p3), .val (.int p4), .val (.ref b5), .unset, .unset, .unset, .unset, .unset, .unset, .unset, .unset, .unset] [(.int p4), (.int p3), (.ref b7), (.ref b7)])) rfl (by rw [hml]; rfl) (Steps.refl _) (a := b7) (argsL := [(.int p3), (.int p4)]) (rest := [(.ref b7)]) (lenOf pd_0_0 rfl) rfl (by show 2 * 0 + _ ≤ _; exact Nat.le_of_eq rfl) (hb hby at_17) (fun _ _ => ⟨rfl, e7, (by decide : 2 + 0 ≤ _), (by decide : 4 + 0 ≤ _)⟩)
  dsimp only [Pt.U, Pt.locs, Pt.cells, Pt.slots] at X8 l8 y8 z8 st8 hQ8
  subst l8 y8 z8
  obtain ⟨rfl, N8q, K8c, E8, Ff8, Fs8⟩ := hQ8
  have ne57 : b5 ∉ [b7] := ninS (Nat.ne_of_lt (Nat.lt_of_lt_of_le E6.lt (Nat.le_of_eq g7.symm))) nin0
  have N8 := Fr.app N6 N8q
  -- pc 26: com/example/offpeak/offpeak/flow/Room.holds by the contract of the body that the receiver's class selects, rm4
  obtain ⟨cq9, kq9, q9a, q9b, q9c⟩ := isOf hZ rfl (((E_b5.keep K6c).ext E7).keep K8c)
  obtain ⟨_, _, ⟨T9, L9, k9, n9⟩, -, X9, ⟨Lc9, hQ9, l9, y9, z9⟩, st9⟩ := X8.virtualBack hx (y := (⟨"com/example/offpeak/offpeak/flow/Room", "holds", "(Lcom/example/offpeak/offpeak/flow/Room;)Z"⟩ : MethodName)) (z := (⟨"com/example/offpeak/offpeak/flow/Room", "holds", "(Lcom/example/offpeak/offpeak/flow/Room;)Z"⟩ : MethodName)) hown (mvT hZ (hw _ (List.mem_of_getElem? (i := 18) rfl))) (mvT hZ (hw _ (List.mem_of_getElem? (i := 19) rfl))) (notFace_of_selects (args := #[]) (mvT hZ (hw _ (List.mem_of_getElem? (i := 21) rfl)))) (mvT hZ (hw _ (List.mem_of_getElem? (i := 21) rfl))) (mvT hZ (hw _ (List.mem_of_getElem? (i := 20) rfl))) (by decide) (backOf (W := 0) (rm4 l Z a0 hw [] b5 b7 p3 p1 p4 p2 T8.heap n0 (Nat.le_trans (Nat.le_trans Z0 K7.1) K8c.1) Ff8 ((Ff6.ext E7).keep K8c ne57) Fs8 ((Fs6.ext E7).keep K8c ne57)) hZ (hw _ (List.mem_of_getElem? (i := 22) rfl)) (hw _ (List.mem_of_getElem? (i := 2) rfl)) (by decide) (by decide)) q9a q9c (g := (mkF m 26 #[.val (.int p1), .val (.int p2), .val (.int p3), .val (.int p4), .val (.ref b5), .val (.ref b7), .unset, .unset, .unset, .unset, .unset, .unset, .unset, .unset] [(.ref b7), (.ref b5)])) rfl (by rw [hml]; rfl) (Steps.refl _) (argsL := [(.ref b7)]) (rest := []) (lenOf pd_0_2 rfl) rfl (by show 2 * 0 + _ ≤ _; exact Nat.le_of_eq rfl) (hb hby at_26) (fun _ _ => ⟨rfl, rfl, (by decide : 2 + 0 ≤ _), (by decide : 4 + 0 ≤ _)⟩)
  dsimp only [Pt.U, Pt.locs, Pt.cells, Pt.slots] at X9 l9 y9 z9 st9 hQ9
  subst l9 y9 z9
  obtain ⟨rfl, N9q, hh9⟩ := hQ9
  have N9 := Fr.app N8 N9q
  obtain ⟨fs, hr, hrun, hended, hW, hsame⟩ := X9.leave (v := some (.int (1 : Int32))) (fun h => by rw [Bd.returns] at h; cases h)
  refine ⟨_, _, pre0 _ ?_, hrun, hended, _, _, rfl, ?_, ⟨_, rfl⟩, hW, hsame.mono (by decide) (by decide)⟩
  -- 4. STEPS
  · show Steps p.tables e below (s₁.setTop (mkF m 0 #[.val (.int p1), .val (.int p2), .val (.int p3), .val (.int p4), .unset, .unset, .unset, .unset, .unset, .unset, .unset, .unset, .unset, .unset] [])) _
    refine st5 _ ?_
    show Steps p.tables e below (T5.setTop (mkF m 3 #[.val (.int p1), .val (.int p2), .val (.int p3), .val (.int p4), .unset, .unset, .unset, .unset, .unset, .unset, .unset, .unset, .unset, .unset] [(.ref b5)])) _
    refine XS.dup X5.here hx rfl (hb hby at_3) rfl rfl ?_
    show Steps p.tables e below (T5.setTop (mkF m 4 #[.val (.int p1), .val (.int p2), .val (.int p3), .val (.int p4), .unset, .unset, .unset, .unset, .unset, .unset, .unset, .unset, .unset, .unset] [(.ref b5), (.ref b5)])) _
    refine XS.iloadN X5.here hx rfl (hb hby at_4) rfl ?_
    show Steps p.tables e below (T5.setTop (mkF m 5 #[.val (.int p1), .val (.int p2), .val (.int p3), .val (.int p4), .unset, .unset, .unset, .unset, .unset, .unset, .unset, .unset, .unset, .unset] [(.int p1), (.ref b5), (.ref b5)])) _
    refine XS.iloadN X5.here hx rfl (hb hby at_5) rfl ?_
    show Steps p.tables e below (T5.setTop (mkF m 6 #[.val (.int p1), .val (.int p2), .val (.int p3), .val (.int p4), .unset, .unset, .unset, .unset, .unset, .unset, .unset, .unset, .unset, .unset] [(.int p2), (.int p1), (.ref b5), (.ref b5)])) _
    refine st6.trans ?_
    show Steps p.tables e below (T6.setTop (mkF m 9 #[.val (.int p1), .val (.int p2), .val (.int p3), .val (.int p4), .unset, .unset, .unset, .unset, .unset, .unset, .unset, .unset, .unset, .unset] [(.ref b5)])) _
    refine XS.astore X6.here hx rfl (hb hby at_9) rfl rfl (l' := #[.val (.int p1), .val (.int p2), .val (.int p3), .val (.int p4), .val (.ref b5), .unset, .unset, .unset, .unset, .unset, .unset, .unset, .unset, .unset]) rfl ?_
    show Steps p.tables e below (T6.setTop (mkF m 11 #[.val (.int p1), .val (.int p2), .val (.int p3), .val (.int p4), .val (.ref b5), .unset, .unset, .unset, .unset, .unset, .unset, .unset, .unset, .unset] [])) _
    refine st7 _ ?_
    show Steps p.tables e below (T7.setTop (mkF m 14 #[.val (.int p1), .val (.int p2), .val (.int p3), .val (.int p4), .val (.ref b5), .unset, .unset, .unset, .unset, .unset, .unset, .unset, .unset, .unset] [(.ref b7)])) _
    refine XS.dup X7.here hx rfl (hb hby at_14) rfl rfl ?_
    show Steps p.tables e below (T7.setTop (mkF m 15 #[.val (.int p1), .val (.int p2), .val (.int p3), .val (.int p4), .val (.ref b5), .unset, .unset, .unset, .unset, .unset, .unset, .unset, .unset, .unset] [(.ref b7), (.ref b7)])) _
    refine XS.iloadN X7.here hx rfl (hb hby at_15) rfl ?_
    show Steps p.tables e below (T7.setTop (mkF m 16 #[.val (.int p1), .val (.int p2), .val (.int p3), .val (.int p4), .val (.ref b5), .unset, .unset, .unset, .unset, .unset, .unset, .unset, .unset, .unset] [(.int p3), (.ref b7), (.ref b7)])) _
    refine XS.iloadN X7.here hx rfl (hb hby at_16) rfl ?_
    show Steps p.tables e below (T7.setTop (mkF m 17 #[.val (.int p1), .val (.int p2), .val (.int p3), .val (.int p4), .val (.ref b5), .unset, .unset, .unset, .unset, .unset, .unset, .unset, .unset, .unset] [(.int p4), (.int p3), (.ref b7), (.ref b7)])) _
    refine st8.trans ?_
    show Steps p.tables e below (T8.setTop (mkF m 20 #[.val (.int p1), .val (.int p2), .val (.int p3), .val (.int p4), .val (.ref b5), .unset, .unset, .unset, .unset, .unset, .unset, .unset, .unset, .unset] [(.ref b7)])) _
    refine XS.astore X8.here hx rfl (hb hby at_20) rfl rfl (l' := #[.val (.int p1), .val (.int p2), .val (.int p3), .val (.int p4), .val (.ref b5), .val (.ref b7), .unset, .unset, .unset, .unset, .unset, .unset, .unset, .unset]) rfl ?_
    show Steps p.tables e below (T8.setTop (mkF m 22 #[.val (.int p1), .val (.int p2), .val (.int p3), .val (.int p4), .val (.ref b5), .val (.ref b7), .unset, .unset, .unset, .unset, .unset, .unset, .unset, .unset] [])) _
    refine XS.aload X8.here hx rfl (hb hby at_22) rfl rfl ?_
    show Steps p.tables e below (T8.setTop (mkF m 24 #[.val (.int p1), .val (.int p2), .val (.int p3), .val (.int p4), .val (.ref b5), .val (.ref b7), .unset, .unset, .unset, .unset, .unset, .unset, .unset, .unset] [(.ref b5)])) _
    refine XS.aload X8.here hx rfl (hb hby at_24) rfl rfl ?_
    show Steps p.tables e below (T8.setTop (mkF m 26 #[.val (.int p1), .val (.int p2), .val (.int p3), .val (.int p4), .val (.ref b5), .val (.ref b7), .unset, .unset, .unset, .unset, .unset, .unset, .unset, .unset] [(.ref b7), (.ref b5)])) _
    refine st9.trans ?_
    show Steps p.tables e below (T9.setTop (mkF m 29 #[.val (.int p1), .val (.int p2), .val (.int p3), .val (.int p4), .val (.ref b5), .val (.ref b7), .unset, .unset, .unset, .unset, .unset, .unset, .unset, .unset] [(.int (own_h p1 p2 p3 p4))])) _
    refine XS.istore X9.here hx rfl (hb hby at_29) rfl (l' := #[.val (.int p1), .val (.int p2), .val (.int p3), .val (.int p4), .val (.ref b5), .val (.ref b7), .val (.int (own_h p1 p2 p3 p4)), .unset, .unset, .unset, .unset, .unset, .unset, .unset]) rfl ?_
    show Steps p.tables e below (T9.setTop (mkF m 31 #[.val (.int p1), .val (.int p2), .val (.int p3), .val (.int p4), .val (.ref b5), .val (.ref b7), .val (.int (own_h p1 p2 p3 p4)), .unset, .unset, .unset, .unset, .unset, .unset, .unset] [])) _
    refine XS.iloadN X9.here hx rfl (hb hby at_31) rfl ?_
    show Steps p.tables e below (T9.setTop (mkF m 32 #[.val (.int p1), .val (.int p2), .val (.int p3), .val (.int p4), .val (.ref b5), .val (.ref b7), .val (.int (own_h p1 p2 p3 p4)), .unset, .unset, .unset, .unset, .unset, .unset, .unset] [(.int p1)])) _
    refine XS.i2l X9.here hx rfl (hb hby at_32) rfl ?_
    show Steps p.tables e below (T9.setTop (mkF m 33 #[.val (.int p1), .val (.int p2), .val (.int p3), .val (.int p4), .val (.ref b5), .val (.ref b7), .val (.int (own_h p1 p2 p3 p4)), .unset, .unset, .unset, .unset, .unset, .unset, .unset] [(.long (p1.toInt64))])) _
    refine XS.iloadN X9.here hx rfl (hb hby at_33) rfl ?_
    show Steps p.tables e below (T9.setTop (mkF m 34 #[.val (.int p1), .val (.int p2), .val (.int p3), .val (.int p4), .val (.ref b5), .val (.ref b7), .val (.int (own_h p1 p2 p3 p4)), .unset, .unset, .unset, .unset, .unset, .unset, .unset] [(.int p3), (.long (p1.toInt64))])) _
    refine XS.i2l X9.here hx rfl (hb hby at_34) rfl ?_
    show Steps p.tables e below (T9.setTop (mkF m 35 #[.val (.int p1), .val (.int p2), .val (.int p3), .val (.int p4), .val (.ref b5), .val (.ref b7), .val (.int (own_h p1 p2 p3 p4)), .unset, .unset, .unset, .unset, .unset, .unset, .unset] [(.long (p3.toInt64)), (.long (p1.toInt64))])) _
    refine XS.lsub X9.here hx rfl (hb hby at_35) rfl ?_
    show Steps p.tables e below (T9.setTop (mkF m 36 #[.val (.int p1), .val (.int p2), .val (.int p3), .val (.int p4), .val (.ref b5), .val (.ref b7), .val (.int (own_h p1 p2 p3 p4)), .unset, .unset, .unset, .unset, .unset, .unset, .unset] [(.long ((p1.toInt64) - (p3.toInt64)))])) _
    refine XS.lstore X9.here hx rfl (hb hby at_36) rfl (l' := #[.val (.int p1), .val (.int p2), .val (.int p3), .val (.int p4), .val (.ref b5), .val (.ref b7), .val (.int (own_h p1 p2 p3 p4)), .val (.long ((p1.toInt64) - (p3.toInt64))), .second, .unset, .unset, .unset, .unset, .unset]) rfl ?_
    show Steps p.tables e below (T9.setTop (mkF m 38 #[.val (.int p1), .val (.int p2), .val (.int p3), .val (.int p4), .val (.ref b5), .val (.ref b7), .val (.int (own_h p1 p2 p3 p4)), .val (.long ((p1.toInt64) - (p3.toInt64))), .second, .unset, .unset, .unset, .unset, .unset] [])) _
    refine XS.iloadN X9.here hx rfl (hb hby at_38) rfl ?_
    show Steps p.tables e below (T9.setTop (mkF m 39 #[.val (.int p1), .val (.int p2), .val (.int p3), .val (.int p4), .val (.ref b5), .val (.ref b7), .val (.int (own_h p1 p2 p3 p4)), .val (.long ((p1.toInt64) - (p3.toInt64))), .second, .unset, .unset, .unset, .unset, .unset] [(.int p2)])) _
    refine XS.i2l X9.here hx rfl (hb hby at_39) rfl ?_
    show Steps p.tables e below (T9.setTop (mkF m 40 #[.val (.int p1), .val (.int p2), .val (.int p3), .val (.int p4), .val (.ref b5), .val (.ref b7), .val (.int (own_h p1 p2 p3 p4)), .val (.long ((p1.toInt64) - (p3.toInt64))), .second, .unset, .unset, .unset, .unset, .unset] [(.long (p2.toInt64))])) _
    refine XS.iloadN X9.here hx rfl (hb hby at_40) rfl ?_
    show Steps p.tables e below (T9.setTop (mkF m 41 #[.val (.int p1), .val (.int p2), .val (.int p3), .val (.int p4), .val (.ref b5), .val (.ref b7), .val (.int (own_h p1 p2 p3 p4)), .val (.long ((p1.toInt64) - (p3.toInt64))), .second, .unset, .unset, .unset, .unset, .unset] [(.int p4), (.long (p2.toInt64))])) _
    refine XS.i2l X9.here hx rfl (hb hby at_41) rfl ?_
    show Steps p.tables e below (T9.setTop (mkF m 42 #[.val (.int p1), .val (.int p2), .val (.int p3), .val (.int p4), .val (.ref b5), .val (.ref b7), .val (.int (own_h p1 p2 p3 p4)), .val (.long ((p1.toInt64) - (p3.toInt64))), .second, .unset, .unset, .unset, .unset, .unset] [(.long (p4.toInt64)), (.long (p2.toInt64))])) _
    refine XS.lsub X9.here hx rfl (hb hby at_42) rfl ?_
    show Steps p.tables e below (T9.setTop (mkF m 43 #[.val (.int p1), .val (.int p2), .val (.int p3), .val (.int p4), .val (.ref b5), .val (.ref b7), .val (.int (own_h p1 p2 p3 p4)), .val (.long ((p1.toInt64) - (p3.toInt64))), .second, .unset, .unset, .unset, .unset, .unset] [(.long ((p2.toInt64) - (p4.toInt64)))])) _
    refine XS.lstore X9.here hx rfl (hb hby at_43) rfl (l' := #[.val (.int p1), .val (.int p2), .val (.int p3), .val (.int p4), .val (.ref b5), .val (.ref b7), .val (.int (own_h p1 p2 p3 p4)), .val (.long ((p1.toInt64) - (p3.toInt64))), .second, .val (.long ((p2.toInt64) - (p4.toInt64))), .second, .unset, .unset, .unset]) rfl ?_
    show Steps p.tables e below (T9.setTop (mkF m 45 #[.val (.int p1), .val (.int p2), .val (.int p3), .val (.int p4), .val (.ref b5), .val (.ref b7), .val (.int (own_h p1 p2 p3 p4)), .val (.long ((p1.toInt64) - (p3.toInt64))), .second, .val (.long ((p2.toInt64) - (p4.toInt64))), .second, .unset, .unset, .unset] [])) _
    refine XS.lload X9.here hx rfl (hb hby at_45) rfl ?_
    show Steps p.tables e below (T9.setTop (mkF m 47 #[.val (.int p1), .val (.int p2), .val (.int p3), .val (.int p4), .val (.ref b5), .val (.ref b7), .val (.int (own_h p1 p2 p3 p4)), .val (.long ((p1.toInt64) - (p3.toInt64))), .second, .val (.long ((p2.toInt64) - (p4.toInt64))), .second, .unset, .unset, .unset] [(.long ((p1.toInt64) - (p3.toInt64)))])) _
    refine XS.lconst X9.here hx rfl (hb hby at_47) ?_
    show Steps p.tables e below (T9.setTop (mkF m 48 #[.val (.int p1), .val (.int p2), .val (.int p3), .val (.int p4), .val (.ref b5), .val (.ref b7), .val (.int (own_h p1 p2 p3 p4)), .val (.long ((p1.toInt64) - (p3.toInt64))), .second, .val (.long ((p2.toInt64) - (p4.toInt64))), .second, .unset, .unset, .unset] [(.long (0 : Int64)), (.long ((p1.toInt64) - (p3.toInt64)))])) _
    refine XS.lcmp X9.here hx rfl (hb hby at_48) rfl ?_
    show Steps p.tables e below (T9.setTop (mkF m 49 #[.val (.int p1), .val (.int p2), .val (.int p3), .val (.int p4), .val (.ref b5), .val (.ref b7), .val (.int (own_h p1 p2 p3 p4)), .val (.long ((p1.toInt64) - (p3.toInt64))), .second, .val (.long ((p2.toInt64) - (p4.toInt64))), .second, .unset, .unset, .unset] [(.int (lcmpW ((p1.toInt64) - (p3.toInt64)) (0 : Int64)))])) _
    by_cases hc49 : (lcmpW ((p1.toInt64) - (p3.toInt64)) (0 : Int64)) < (0 : Int32)
    · refine XS.ifYes X9.here hx rfl (pc0 := 49) (pc' := 56) rfl (hb hby at_49) rfl ((if0 _ _).trans (tlt hc49).1) (by decide) (by decide) ?_
      show Steps p.tables e below (T9.setTop (mkF m 56 #[.val (.int p1), .val (.int p2), .val (.int p3), .val (.int p4), .val (.ref b5), .val (.ref b7), .val (.int (own_h p1 p2 p3 p4)), .val (.long ((p1.toInt64) - (p3.toInt64))), .second, .val (.long ((p2.toInt64) - (p4.toInt64))), .second, .unset, .unset, .unset] [])) _
      refine XS.iconst X9.here hx rfl (hb hby at_56) ?_
      show Steps p.tables e below (T9.setTop (mkF m 57 #[.val (.int p1), .val (.int p2), .val (.int p3), .val (.int p4), .val (.ref b5), .val (.ref b7), .val (.int (own_h p1 p2 p3 p4)), .val (.long ((p1.toInt64) - (p3.toInt64))), .second, .val (.long ((p2.toInt64) - (p4.toInt64))), .second, .unset, .unset, .unset] [(.int (0 : Int32))])) _
      refine XS.istore X9.here hx rfl (hb hby at_57) rfl (l' := #[.val (.int p1), .val (.int p2), .val (.int p3), .val (.int p4), .val (.ref b5), .val (.ref b7), .val (.int (own_h p1 p2 p3 p4)), .val (.long ((p1.toInt64) - (p3.toInt64))), .second, .val (.long ((p2.toInt64) - (p4.toInt64))), .second, .val (.int (0 : Int32)), .unset, .unset]) rfl ?_
      show Steps p.tables e below (T9.setTop (mkF m 59 #[.val (.int p1), .val (.int p2), .val (.int p3), .val (.int p4), .val (.ref b5), .val (.ref b7), .val (.int (own_h p1 p2 p3 p4)), .val (.long ((p1.toInt64) - (p3.toInt64))), .second, .val (.long ((p2.toInt64) - (p4.toInt64))), .second, .val (.int (0 : Int32)), .unset, .unset] [])) _
      refine XS.iconst X9.here hx rfl (hb hby at_59) ?_
      show Steps p.tables e below (T9.setTop (mkF m 60 #[.val (.int p1), .val (.int p2), .val (.int p3), .val (.int p4), .val (.ref b5), .val (.ref b7), .val (.int (own_h p1 p2 p3 p4)), .val (.long ((p1.toInt64) - (p3.toInt64))), .second, .val (.long ((p2.toInt64) - (p4.toInt64))), .second, .val (.int (0 : Int32)), .unset, .unset] [(.int (1 : Int32))])) _
      refine XS.istore X9.here hx rfl (hb hby at_60) rfl (l' := #[.val (.int p1), .val (.int p2), .val (.int p3), .val (.int p4), .val (.ref b5), .val (.ref b7), .val (.int (own_h p1 p2 p3 p4)), .val (.long ((p1.toInt64) - (p3.toInt64))), .second, .val (.long ((p2.toInt64) - (p4.toInt64))), .second, .val (.int (0 : Int32)), .val (.int (1 : Int32)), .unset]) rfl ?_
      show Steps p.tables e below (T9.setTop (mkF m 62 #[.val (.int p1), .val (.int p2), .val (.int p3), .val (.int p4), .val (.ref b5), .val (.ref b7), .val (.int (own_h p1 p2 p3 p4)), .val (.long ((p1.toInt64) - (p3.toInt64))), .second, .val (.long ((p2.toInt64) - (p4.toInt64))), .second, .val (.int (0 : Int32)), .val (.int (1 : Int32)), .unset] [])) _
      refine XS.iloadN X9.here hx rfl (hb hby at_62) rfl ?_
      show Steps p.tables e below (T9.setTop (mkF m 63 #[.val (.int p1), .val (.int p2), .val (.int p3), .val (.int p4), .val (.ref b5), .val (.ref b7), .val (.int (own_h p1 p2 p3 p4)), .val (.long ((p1.toInt64) - (p3.toInt64))), .second, .val (.long ((p2.toInt64) - (p4.toInt64))), .second, .val (.int (0 : Int32)), .val (.int (1 : Int32)), .unset] [(.int p4)])) _
      by_cases hc63 : p4 = (0 : Int32)
      · refine XS.ifYes X9.here hx rfl (pc0 := 63) (pc' := 80) rfl (hb hby at_63) rfl ((if0 _ _).trans (teq hc63).1) (by decide) (by decide) ?_
        show Steps p.tables e below (T9.setTop (mkF m 80 #[.val (.int p1), .val (.int p2), .val (.int p3), .val (.int p4), .val (.ref b5), .val (.ref b7), .val (.int (own_h p1 p2 p3 p4)), .val (.long ((p1.toInt64) - (p3.toInt64))), .second, .val (.long ((p2.toInt64) - (p4.toInt64))), .second, .val (.int (0 : Int32)), .val (.int (1 : Int32)), .unset] [])) _
        refine XS.iload X9.here hx rfl (hb hby at_80) rfl ?_
        show Steps p.tables e below (T9.setTop (mkF m 82 #[.val (.int p1), .val (.int p2), .val (.int p3), .val (.int p4), .val (.ref b5), .val (.ref b7), .val (.int (own_h p1 p2 p3 p4)), .val (.long ((p1.toInt64) - (p3.toInt64))), .second, .val (.long ((p2.toInt64) - (p4.toInt64))), .second, .val (.int (0 : Int32)), .val (.int (1 : Int32)), .unset] [(.int (0 : Int32))])) _
        refine XS.ifYes X9.here hx rfl (pc0 := 82) (pc' := 94) rfl (hb hby at_82) rfl ((if0 _ _).trans (teq (rfl : (0 : Int32) = (0 : Int32))).1) (by decide) (by decide) ?_
        show Steps p.tables e below (T9.setTop (mkF m 94 #[.val (.int p1), .val (.int p2), .val (.int p3), .val (.int p4), .val (.ref b5), .val (.ref b7), .val (.int (own_h p1 p2 p3 p4)), .val (.long ((p1.toInt64) - (p3.toInt64))), .second, .val (.long ((p2.toInt64) - (p4.toInt64))), .second, .val (.int (0 : Int32)), .val (.int (1 : Int32)), .unset] [])) _
        refine XS.iconst X9.here hx rfl (hb hby at_94) ?_
        show Steps p.tables e below (T9.setTop (mkF m 95 #[.val (.int p1), .val (.int p2), .val (.int p3), .val (.int p4), .val (.ref b5), .val (.ref b7), .val (.int (own_h p1 p2 p3 p4)), .val (.long ((p1.toInt64) - (p3.toInt64))), .second, .val (.long ((p2.toInt64) - (p4.toInt64))), .second, .val (.int (0 : Int32)), .val (.int (1 : Int32)), .unset] [(.int (0 : Int32))])) _
        refine XS.istore X9.here hx rfl (hb hby at_95) rfl (l' := #[.val (.int p1), .val (.int p2), .val (.int p3), .val (.int p4), .val (.ref b5), .val (.ref b7), .val (.int (own_h p1 p2 p3 p4)), .val (.long ((p1.toInt64) - (p3.toInt64))), .second, .val (.long ((p2.toInt64) - (p4.toInt64))), .second, .val (.int (0 : Int32)), .val (.int (1 : Int32)), .val (.int (0 : Int32))]) rfl ?_
        show Steps p.tables e below (T9.setTop (mkF m 97 #[.val (.int p1), .val (.int p2), .val (.int p3), .val (.int p4), .val (.ref b5), .val (.ref b7), .val (.int (own_h p1 p2 p3 p4)), .val (.long ((p1.toInt64) - (p3.toInt64))), .second, .val (.long ((p2.toInt64) - (p4.toInt64))), .second, .val (.int (0 : Int32)), .val (.int (1 : Int32)), .val (.int (0 : Int32))] [])) _
        refine XS.iload X9.here hx rfl (hb hby at_97) rfl ?_
        show Steps p.tables e below (T9.setTop (mkF m 99 #[.val (.int p1), .val (.int p2), .val (.int p3), .val (.int p4), .val (.ref b5), .val (.ref b7), .val (.int (own_h p1 p2 p3 p4)), .val (.long ((p1.toInt64) - (p3.toInt64))), .second, .val (.long ((p2.toInt64) - (p4.toInt64))), .second, .val (.int (0 : Int32)), .val (.int (1 : Int32)), .val (.int (0 : Int32))] [(.int (own_h p1 p2 p3 p4))])) _
        refine XS.iload X9.here hx rfl (hb hby at_99) rfl ?_
        show Steps p.tables e below (T9.setTop (mkF m 101 #[.val (.int p1), .val (.int p2), .val (.int p3), .val (.int p4), .val (.ref b5), .val (.ref b7), .val (.int (own_h p1 p2 p3 p4)), .val (.long ((p1.toInt64) - (p3.toInt64))), .second, .val (.long ((p2.toInt64) - (p4.toInt64))), .second, .val (.int (0 : Int32)), .val (.int (1 : Int32)), .val (.int (0 : Int32))] [(.int (0 : Int32)), (.int (own_h p1 p2 p3 p4))])) _
        refine XS.icmpNo X9.here hx rfl (hb hby at_101) rfl (teq (by have q49 := hc49; have q63 := hc63; rw [own_d] at q49; rw [q63]; simp [own_h, q49] : (own_h p1 p2 p3 p4) = (0 : Int32))).2 ?_
        show Steps p.tables e below (T9.setTop (mkF m 104 #[.val (.int p1), .val (.int p2), .val (.int p3), .val (.int p4), .val (.ref b5), .val (.ref b7), .val (.int (own_h p1 p2 p3 p4)), .val (.long ((p1.toInt64) - (p3.toInt64))), .second, .val (.long ((p2.toInt64) - (p4.toInt64))), .second, .val (.int (0 : Int32)), .val (.int (1 : Int32)), .val (.int (0 : Int32))] [])) _
        refine XS.iconst X9.here hx rfl (hb hby at_104) ?_
        show Steps p.tables e below (T9.setTop (mkF m 105 #[.val (.int p1), .val (.int p2), .val (.int p3), .val (.int p4), .val (.ref b5), .val (.ref b7), .val (.int (own_h p1 p2 p3 p4)), .val (.long ((p1.toInt64) - (p3.toInt64))), .second, .val (.long ((p2.toInt64) - (p4.toInt64))), .second, .val (.int (0 : Int32)), .val (.int (1 : Int32)), .val (.int (0 : Int32))] [(.int (1 : Int32))])) _
        refine XS.goto X9.here hx rfl (pc0 := 105) (pc' := 109) rfl (hb hby at_105) (by decide) (by decide) ?_
        show Steps p.tables e below (T9.setTop (mkF m 109 #[.val (.int p1), .val (.int p2), .val (.int p3), .val (.int p4), .val (.ref b5), .val (.ref b7), .val (.int (own_h p1 p2 p3 p4)), .val (.long ((p1.toInt64) - (p3.toInt64))), .second, .val (.long ((p2.toInt64) - (p4.toInt64))), .second, .val (.int (0 : Int32)), .val (.int (1 : Int32)), .val (.int (0 : Int32))] [(.int (1 : Int32))])) _
        exact retN X9 hx (t := .boolean) Bd.returns (by simp) (hb hby at_109) hr
      · refine XS.ifNo X9.here hx rfl (hb hby at_63) rfl ((if0 _ _).trans (feq hc63).1) ?_
        show Steps p.tables e below (T9.setTop (mkF m 66 #[.val (.int p1), .val (.int p2), .val (.int p3), .val (.int p4), .val (.ref b5), .val (.ref b7), .val (.int (own_h p1 p2 p3 p4)), .val (.long ((p1.toInt64) - (p3.toInt64))), .second, .val (.long ((p2.toInt64) - (p4.toInt64))), .second, .val (.int (0 : Int32)), .val (.int (1 : Int32)), .unset] [])) _
        refine XS.lload X9.here hx rfl (hb hby at_66) rfl ?_
        show Steps p.tables e below (T9.setTop (mkF m 68 #[.val (.int p1), .val (.int p2), .val (.int p3), .val (.int p4), .val (.ref b5), .val (.ref b7), .val (.int (own_h p1 p2 p3 p4)), .val (.long ((p1.toInt64) - (p3.toInt64))), .second, .val (.long ((p2.toInt64) - (p4.toInt64))), .second, .val (.int (0 : Int32)), .val (.int (1 : Int32)), .unset] [(.long ((p2.toInt64) - (p4.toInt64)))])) _
        refine XS.lconst X9.here hx rfl (hb hby at_68) ?_
        show Steps p.tables e below (T9.setTop (mkF m 69 #[.val (.int p1), .val (.int p2), .val (.int p3), .val (.int p4), .val (.ref b5), .val (.ref b7), .val (.int (own_h p1 p2 p3 p4)), .val (.long ((p1.toInt64) - (p3.toInt64))), .second, .val (.long ((p2.toInt64) - (p4.toInt64))), .second, .val (.int (0 : Int32)), .val (.int (1 : Int32)), .unset] [(.long (0 : Int64)), (.long ((p2.toInt64) - (p4.toInt64)))])) _
        refine XS.lcmp X9.here hx rfl (hb hby at_69) rfl ?_
        show Steps p.tables e below (T9.setTop (mkF m 70 #[.val (.int p1), .val (.int p2), .val (.int p3), .val (.int p4), .val (.ref b5), .val (.ref b7), .val (.int (own_h p1 p2 p3 p4)), .val (.long ((p1.toInt64) - (p3.toInt64))), .second, .val (.long ((p2.toInt64) - (p4.toInt64))), .second, .val (.int (0 : Int32)), .val (.int (1 : Int32)), .unset] [(.int (lcmpW ((p2.toInt64) - (p4.toInt64)) (0 : Int64)))])) _
        by_cases hc70 : (lcmpW ((p2.toInt64) - (p4.toInt64)) (0 : Int64)) < (0 : Int32)
        · refine XS.ifYes X9.here hx rfl (pc0 := 70) (pc' := 77) rfl (hb hby at_70) rfl ((if0 _ _).trans (tlt hc70).1) (by decide) (by decide) ?_
          show Steps p.tables e below (T9.setTop (mkF m 77 #[.val (.int p1), .val (.int p2), .val (.int p3), .val (.int p4), .val (.ref b5), .val (.ref b7), .val (.int (own_h p1 p2 p3 p4)), .val (.long ((p1.toInt64) - (p3.toInt64))), .second, .val (.long ((p2.toInt64) - (p4.toInt64))), .second, .val (.int (0 : Int32)), .val (.int (1 : Int32)), .unset] [])) _
          refine XS.iconst X9.here hx rfl (hb hby at_77) ?_
          show Steps p.tables e below (T9.setTop (mkF m 78 #[.val (.int p1), .val (.int p2), .val (.int p3), .val (.int p4), .val (.ref b5), .val (.ref b7), .val (.int (own_h p1 p2 p3 p4)), .val (.long ((p1.toInt64) - (p3.toInt64))), .second, .val (.long ((p2.toInt64) - (p4.toInt64))), .second, .val (.int (0 : Int32)), .val (.int (1 : Int32)), .unset] [(.int (0 : Int32))])) _
          refine XS.istore X9.here hx rfl (hb hby at_78) rfl (l' := #[.val (.int p1), .val (.int p2), .val (.int p3), .val (.int p4), .val (.ref b5), .val (.ref b7), .val (.int (own_h p1 p2 p3 p4)), .val (.long ((p1.toInt64) - (p3.toInt64))), .second, .val (.long ((p2.toInt64) - (p4.toInt64))), .second, .val (.int (0 : Int32)), .val (.int (0 : Int32)), .unset]) rfl ?_
          show Steps p.tables e below (T9.setTop (mkF m 80 #[.val (.int p1), .val (.int p2), .val (.int p3), .val (.int p4), .val (.ref b5), .val (.ref b7), .val (.int (own_h p1 p2 p3 p4)), .val (.long ((p1.toInt64) - (p3.toInt64))), .second, .val (.long ((p2.toInt64) - (p4.toInt64))), .second, .val (.int (0 : Int32)), .val (.int (0 : Int32)), .unset] [])) _
          refine XS.iload X9.here hx rfl (hb hby at_80) rfl ?_
          show Steps p.tables e below (T9.setTop (mkF m 82 #[.val (.int p1), .val (.int p2), .val (.int p3), .val (.int p4), .val (.ref b5), .val (.ref b7), .val (.int (own_h p1 p2 p3 p4)), .val (.long ((p1.toInt64) - (p3.toInt64))), .second, .val (.long ((p2.toInt64) - (p4.toInt64))), .second, .val (.int (0 : Int32)), .val (.int (0 : Int32)), .unset] [(.int (0 : Int32))])) _
          refine XS.ifYes X9.here hx rfl (pc0 := 82) (pc' := 94) rfl (hb hby at_82) rfl ((if0 _ _).trans (teq (rfl : (0 : Int32) = (0 : Int32))).1) (by decide) (by decide) ?_
          show Steps p.tables e below (T9.setTop (mkF m 94 #[.val (.int p1), .val (.int p2), .val (.int p3), .val (.int p4), .val (.ref b5), .val (.ref b7), .val (.int (own_h p1 p2 p3 p4)), .val (.long ((p1.toInt64) - (p3.toInt64))), .second, .val (.long ((p2.toInt64) - (p4.toInt64))), .second, .val (.int (0 : Int32)), .val (.int (0 : Int32)), .unset] [])) _
          refine XS.iconst X9.here hx rfl (hb hby at_94) ?_
          show Steps p.tables e below (T9.setTop (mkF m 95 #[.val (.int p1), .val (.int p2), .val (.int p3), .val (.int p4), .val (.ref b5), .val (.ref b7), .val (.int (own_h p1 p2 p3 p4)), .val (.long ((p1.toInt64) - (p3.toInt64))), .second, .val (.long ((p2.toInt64) - (p4.toInt64))), .second, .val (.int (0 : Int32)), .val (.int (0 : Int32)), .unset] [(.int (0 : Int32))])) _
          refine XS.istore X9.here hx rfl (hb hby at_95) rfl (l' := #[.val (.int p1), .val (.int p2), .val (.int p3), .val (.int p4), .val (.ref b5), .val (.ref b7), .val (.int (own_h p1 p2 p3 p4)), .val (.long ((p1.toInt64) - (p3.toInt64))), .second, .val (.long ((p2.toInt64) - (p4.toInt64))), .second, .val (.int (0 : Int32)), .val (.int (0 : Int32)), .val (.int (0 : Int32))]) rfl ?_
          show Steps p.tables e below (T9.setTop (mkF m 97 #[.val (.int p1), .val (.int p2), .val (.int p3), .val (.int p4), .val (.ref b5), .val (.ref b7), .val (.int (own_h p1 p2 p3 p4)), .val (.long ((p1.toInt64) - (p3.toInt64))), .second, .val (.long ((p2.toInt64) - (p4.toInt64))), .second, .val (.int (0 : Int32)), .val (.int (0 : Int32)), .val (.int (0 : Int32))] [])) _
          refine XS.iload X9.here hx rfl (hb hby at_97) rfl ?_
          show Steps p.tables e below (T9.setTop (mkF m 99 #[.val (.int p1), .val (.int p2), .val (.int p3), .val (.int p4), .val (.ref b5), .val (.ref b7), .val (.int (own_h p1 p2 p3 p4)), .val (.long ((p1.toInt64) - (p3.toInt64))), .second, .val (.long ((p2.toInt64) - (p4.toInt64))), .second, .val (.int (0 : Int32)), .val (.int (0 : Int32)), .val (.int (0 : Int32))] [(.int (own_h p1 p2 p3 p4))])) _
          refine XS.iload X9.here hx rfl (hb hby at_99) rfl ?_
          show Steps p.tables e below (T9.setTop (mkF m 101 #[.val (.int p1), .val (.int p2), .val (.int p3), .val (.int p4), .val (.ref b5), .val (.ref b7), .val (.int (own_h p1 p2 p3 p4)), .val (.long ((p1.toInt64) - (p3.toInt64))), .second, .val (.long ((p2.toInt64) - (p4.toInt64))), .second, .val (.int (0 : Int32)), .val (.int (0 : Int32)), .val (.int (0 : Int32))] [(.int (0 : Int32)), (.int (own_h p1 p2 p3 p4))])) _
          refine XS.icmpNo X9.here hx rfl (hb hby at_101) rfl (teq (by have q49 := hc49; have q63 := hc63; have q70 := hc70; rw [own_d] at q49; rw [own_d] at q70;  simp [own_h, q49, q63, q70] : (own_h p1 p2 p3 p4) = (0 : Int32))).2 ?_
          show Steps p.tables e below (T9.setTop (mkF m 104 #[.val (.int p1), .val (.int p2), .val (.int p3), .val (.int p4), .val (.ref b5), .val (.ref b7), .val (.int (own_h p1 p2 p3 p4)), .val (.long ((p1.toInt64) - (p3.toInt64))), .second, .val (.long ((p2.toInt64) - (p4.toInt64))), .second, .val (.int (0 : Int32)), .val (.int (0 : Int32)), .val (.int (0 : Int32))] [])) _
          refine XS.iconst X9.here hx rfl (hb hby at_104) ?_
          show Steps p.tables e below (T9.setTop (mkF m 105 #[.val (.int p1), .val (.int p2), .val (.int p3), .val (.int p4), .val (.ref b5), .val (.ref b7), .val (.int (own_h p1 p2 p3 p4)), .val (.long ((p1.toInt64) - (p3.toInt64))), .second, .val (.long ((p2.toInt64) - (p4.toInt64))), .second, .val (.int (0 : Int32)), .val (.int (0 : Int32)), .val (.int (0 : Int32))] [(.int (1 : Int32))])) _
          refine XS.goto X9.here hx rfl (pc0 := 105) (pc' := 109) rfl (hb hby at_105) (by decide) (by decide) ?_
          show Steps p.tables e below (T9.setTop (mkF m 109 #[.val (.int p1), .val (.int p2), .val (.int p3), .val (.int p4), .val (.ref b5), .val (.ref b7), .val (.int (own_h p1 p2 p3 p4)), .val (.long ((p1.toInt64) - (p3.toInt64))), .second, .val (.long ((p2.toInt64) - (p4.toInt64))), .second, .val (.int (0 : Int32)), .val (.int (0 : Int32)), .val (.int (0 : Int32))] [(.int (1 : Int32))])) _
          exact retN X9 hx (t := .boolean) Bd.returns (by simp) (hb hby at_109) hr
        · refine XS.ifNo X9.here hx rfl (hb hby at_70) rfl ((if0 _ _).trans (flt hc70).1) ?_
          show Steps p.tables e below (T9.setTop (mkF m 73 #[.val (.int p1), .val (.int p2), .val (.int p3), .val (.int p4), .val (.ref b5), .val (.ref b7), .val (.int (own_h p1 p2 p3 p4)), .val (.long ((p1.toInt64) - (p3.toInt64))), .second, .val (.long ((p2.toInt64) - (p4.toInt64))), .second, .val (.int (0 : Int32)), .val (.int (1 : Int32)), .unset] [])) _
          refine XS.iconst X9.here hx rfl (hb hby at_73) ?_
          show Steps p.tables e below (T9.setTop (mkF m 74 #[.val (.int p1), .val (.int p2), .val (.int p3), .val (.int p4), .val (.ref b5), .val (.ref b7), .val (.int (own_h p1 p2 p3 p4)), .val (.long ((p1.toInt64) - (p3.toInt64))), .second, .val (.long ((p2.toInt64) - (p4.toInt64))), .second, .val (.int (0 : Int32)), .val (.int (1 : Int32)), .unset] [(.int (1 : Int32))])) _
          refine XS.goto X9.here hx rfl (pc0 := 74) (pc' := 78) rfl (hb hby at_74) (by decide) (by decide) ?_
          show Steps p.tables e below (T9.setTop (mkF m 78 #[.val (.int p1), .val (.int p2), .val (.int p3), .val (.int p4), .val (.ref b5), .val (.ref b7), .val (.int (own_h p1 p2 p3 p4)), .val (.long ((p1.toInt64) - (p3.toInt64))), .second, .val (.long ((p2.toInt64) - (p4.toInt64))), .second, .val (.int (0 : Int32)), .val (.int (1 : Int32)), .unset] [(.int (1 : Int32))])) _
          refine XS.istore X9.here hx rfl (hb hby at_78) rfl (l' := #[.val (.int p1), .val (.int p2), .val (.int p3), .val (.int p4), .val (.ref b5), .val (.ref b7), .val (.int (own_h p1 p2 p3 p4)), .val (.long ((p1.toInt64) - (p3.toInt64))), .second, .val (.long ((p2.toInt64) - (p4.toInt64))), .second, .val (.int (0 : Int32)), .val (.int (1 : Int32)), .unset]) rfl ?_
          show Steps p.tables e below (T9.setTop (mkF m 80 #[.val (.int p1), .val (.int p2), .val (.int p3), .val (.int p4), .val (.ref b5), .val (.ref b7), .val (.int (own_h p1 p2 p3 p4)), .val (.long ((p1.toInt64) - (p3.toInt64))), .second, .val (.long ((p2.toInt64) - (p4.toInt64))), .second, .val (.int (0 : Int32)), .val (.int (1 : Int32)), .unset] [])) _
          refine XS.iload X9.here hx rfl (hb hby at_80) rfl ?_
          show Steps p.tables e below (T9.setTop (mkF m 82 #[.val (.int p1), .val (.int p2), .val (.int p3), .val (.int p4), .val (.ref b5), .val (.ref b7), .val (.int (own_h p1 p2 p3 p4)), .val (.long ((p1.toInt64) - (p3.toInt64))), .second, .val (.long ((p2.toInt64) - (p4.toInt64))), .second, .val (.int (0 : Int32)), .val (.int (1 : Int32)), .unset] [(.int (0 : Int32))])) _
          refine XS.ifYes X9.here hx rfl (pc0 := 82) (pc' := 94) rfl (hb hby at_82) rfl ((if0 _ _).trans (teq (rfl : (0 : Int32) = (0 : Int32))).1) (by decide) (by decide) ?_
          show Steps p.tables e below (T9.setTop (mkF m 94 #[.val (.int p1), .val (.int p2), .val (.int p3), .val (.int p4), .val (.ref b5), .val (.ref b7), .val (.int (own_h p1 p2 p3 p4)), .val (.long ((p1.toInt64) - (p3.toInt64))), .second, .val (.long ((p2.toInt64) - (p4.toInt64))), .second, .val (.int (0 : Int32)), .val (.int (1 : Int32)), .unset] [])) _
          refine XS.iconst X9.here hx rfl (hb hby at_94) ?_
          show Steps p.tables e below (T9.setTop (mkF m 95 #[.val (.int p1), .val (.int p2), .val (.int p3), .val (.int p4), .val (.ref b5), .val (.ref b7), .val (.int (own_h p1 p2 p3 p4)), .val (.long ((p1.toInt64) - (p3.toInt64))), .second, .val (.long ((p2.toInt64) - (p4.toInt64))), .second, .val (.int (0 : Int32)), .val (.int (1 : Int32)), .unset] [(.int (0 : Int32))])) _
          refine XS.istore X9.here hx rfl (hb hby at_95) rfl (l' := #[.val (.int p1), .val (.int p2), .val (.int p3), .val (.int p4), .val (.ref b5), .val (.ref b7), .val (.int (own_h p1 p2 p3 p4)), .val (.long ((p1.toInt64) - (p3.toInt64))), .second, .val (.long ((p2.toInt64) - (p4.toInt64))), .second, .val (.int (0 : Int32)), .val (.int (1 : Int32)), .val (.int (0 : Int32))]) rfl ?_
          show Steps p.tables e below (T9.setTop (mkF m 97 #[.val (.int p1), .val (.int p2), .val (.int p3), .val (.int p4), .val (.ref b5), .val (.ref b7), .val (.int (own_h p1 p2 p3 p4)), .val (.long ((p1.toInt64) - (p3.toInt64))), .second, .val (.long ((p2.toInt64) - (p4.toInt64))), .second, .val (.int (0 : Int32)), .val (.int (1 : Int32)), .val (.int (0 : Int32))] [])) _
          refine XS.iload X9.here hx rfl (hb hby at_97) rfl ?_
          show Steps p.tables e below (T9.setTop (mkF m 99 #[.val (.int p1), .val (.int p2), .val (.int p3), .val (.int p4), .val (.ref b5), .val (.ref b7), .val (.int (own_h p1 p2 p3 p4)), .val (.long ((p1.toInt64) - (p3.toInt64))), .second, .val (.long ((p2.toInt64) - (p4.toInt64))), .second, .val (.int (0 : Int32)), .val (.int (1 : Int32)), .val (.int (0 : Int32))] [(.int (own_h p1 p2 p3 p4))])) _
          refine XS.iload X9.here hx rfl (hb hby at_99) rfl ?_
          show Steps p.tables e below (T9.setTop (mkF m 101 #[.val (.int p1), .val (.int p2), .val (.int p3), .val (.int p4), .val (.ref b5), .val (.ref b7), .val (.int (own_h p1 p2 p3 p4)), .val (.long ((p1.toInt64) - (p3.toInt64))), .second, .val (.long ((p2.toInt64) - (p4.toInt64))), .second, .val (.int (0 : Int32)), .val (.int (1 : Int32)), .val (.int (0 : Int32))] [(.int (0 : Int32)), (.int (own_h p1 p2 p3 p4))])) _
          refine XS.icmpNo X9.here hx rfl (hb hby at_101) rfl (teq (by have q49 := hc49; have q63 := hc63; have q70 := hc70; rw [own_d] at q49; rw [own_d] at q70;  simp [own_h, q49, q63, q70] : (own_h p1 p2 p3 p4) = (0 : Int32))).2 ?_
          show Steps p.tables e below (T9.setTop (mkF m 104 #[.val (.int p1), .val (.int p2), .val (.int p3), .val (.int p4), .val (.ref b5), .val (.ref b7), .val (.int (own_h p1 p2 p3 p4)), .val (.long ((p1.toInt64) - (p3.toInt64))), .second, .val (.long ((p2.toInt64) - (p4.toInt64))), .second, .val (.int (0 : Int32)), .val (.int (1 : Int32)), .val (.int (0 : Int32))] [])) _
          refine XS.iconst X9.here hx rfl (hb hby at_104) ?_
          show Steps p.tables e below (T9.setTop (mkF m 105 #[.val (.int p1), .val (.int p2), .val (.int p3), .val (.int p4), .val (.ref b5), .val (.ref b7), .val (.int (own_h p1 p2 p3 p4)), .val (.long ((p1.toInt64) - (p3.toInt64))), .second, .val (.long ((p2.toInt64) - (p4.toInt64))), .second, .val (.int (0 : Int32)), .val (.int (1 : Int32)), .val (.int (0 : Int32))] [(.int (1 : Int32))])) _
          refine XS.goto X9.here hx rfl (pc0 := 105) (pc' := 109) rfl (hb hby at_105) (by decide) (by decide) ?_
          show Steps p.tables e below (T9.setTop (mkF m 109 #[.val (.int p1), .val (.int p2), .val (.int p3), .val (.int p4), .val (.ref b5), .val (.ref b7), .val (.int (own_h p1 p2 p3 p4)), .val (.long ((p1.toInt64) - (p3.toInt64))), .second, .val (.long ((p2.toInt64) - (p4.toInt64))), .second, .val (.int (0 : Int32)), .val (.int (1 : Int32)), .val (.int (0 : Int32))] [(.int (1 : Int32))])) _
          exact retN X9 hx (t := .boolean) Bd.returns (by simp) (hb hby at_109) hr
    · refine XS.ifNo X9.here hx rfl (hb hby at_49) rfl ((if0 _ _).trans (flt hc49).1) ?_
      show Steps p.tables e below (T9.setTop (mkF m 52 #[.val (.int p1), .val (.int p2), .val (.int p3), .val (.int p4), .val (.ref b5), .val (.ref b7), .val (.int (own_h p1 p2 p3 p4)), .val (.long ((p1.toInt64) - (p3.toInt64))), .second, .val (.long ((p2.toInt64) - (p4.toInt64))), .second, .unset, .unset, .unset] [])) _
      refine XS.iconst X9.here hx rfl (hb hby at_52) ?_
      show Steps p.tables e below (T9.setTop (mkF m 53 #[.val (.int p1), .val (.int p2), .val (.int p3), .val (.int p4), .val (.ref b5), .val (.ref b7), .val (.int (own_h p1 p2 p3 p4)), .val (.long ((p1.toInt64) - (p3.toInt64))), .second, .val (.long ((p2.toInt64) - (p4.toInt64))), .second, .unset, .unset, .unset] [(.int (1 : Int32))])) _
      refine XS.goto X9.here hx rfl (pc0 := 53) (pc' := 57) rfl (hb hby at_53) (by decide) (by decide) ?_
      show Steps p.tables e below (T9.setTop (mkF m 57 #[.val (.int p1), .val (.int p2), .val (.int p3), .val (.int p4), .val (.ref b5), .val (.ref b7), .val (.int (own_h p1 p2 p3 p4)), .val (.long ((p1.toInt64) - (p3.toInt64))), .second, .val (.long ((p2.toInt64) - (p4.toInt64))), .second, .unset, .unset, .unset] [(.int (1 : Int32))])) _
      refine XS.istore X9.here hx rfl (hb hby at_57) rfl (l' := #[.val (.int p1), .val (.int p2), .val (.int p3), .val (.int p4), .val (.ref b5), .val (.ref b7), .val (.int (own_h p1 p2 p3 p4)), .val (.long ((p1.toInt64) - (p3.toInt64))), .second, .val (.long ((p2.toInt64) - (p4.toInt64))), .second, .val (.int (1 : Int32)), .unset, .unset]) rfl ?_
      show Steps p.tables e below (T9.setTop (mkF m 59 #[.val (.int p1), .val (.int p2), .val (.int p3), .val (.int p4), .val (.ref b5), .val (.ref b7), .val (.int (own_h p1 p2 p3 p4)), .val (.long ((p1.toInt64) - (p3.toInt64))), .second, .val (.long ((p2.toInt64) - (p4.toInt64))), .second, .val (.int (1 : Int32)), .unset, .unset] [])) _
      refine XS.iconst X9.here hx rfl (hb hby at_59) ?_
      show Steps p.tables e below (T9.setTop (mkF m 60 #[.val (.int p1), .val (.int p2), .val (.int p3), .val (.int p4), .val (.ref b5), .val (.ref b7), .val (.int (own_h p1 p2 p3 p4)), .val (.long ((p1.toInt64) - (p3.toInt64))), .second, .val (.long ((p2.toInt64) - (p4.toInt64))), .second, .val (.int (1 : Int32)), .unset, .unset] [(.int (1 : Int32))])) _
      refine XS.istore X9.here hx rfl (hb hby at_60) rfl (l' := #[.val (.int p1), .val (.int p2), .val (.int p3), .val (.int p4), .val (.ref b5), .val (.ref b7), .val (.int (own_h p1 p2 p3 p4)), .val (.long ((p1.toInt64) - (p3.toInt64))), .second, .val (.long ((p2.toInt64) - (p4.toInt64))), .second, .val (.int (1 : Int32)), .val (.int (1 : Int32)), .unset]) rfl ?_
      show Steps p.tables e below (T9.setTop (mkF m 62 #[.val (.int p1), .val (.int p2), .val (.int p3), .val (.int p4), .val (.ref b5), .val (.ref b7), .val (.int (own_h p1 p2 p3 p4)), .val (.long ((p1.toInt64) - (p3.toInt64))), .second, .val (.long ((p2.toInt64) - (p4.toInt64))), .second, .val (.int (1 : Int32)), .val (.int (1 : Int32)), .unset] [])) _
      refine XS.iloadN X9.here hx rfl (hb hby at_62) rfl ?_
      show Steps p.tables e below (T9.setTop (mkF m 63 #[.val (.int p1), .val (.int p2), .val (.int p3), .val (.int p4), .val (.ref b5), .val (.ref b7), .val (.int (own_h p1 p2 p3 p4)), .val (.long ((p1.toInt64) - (p3.toInt64))), .second, .val (.long ((p2.toInt64) - (p4.toInt64))), .second, .val (.int (1 : Int32)), .val (.int (1 : Int32)), .unset] [(.int p4)])) _
      by_cases hc63 : p4 = (0 : Int32)
      · refine XS.ifYes X9.here hx rfl (pc0 := 63) (pc' := 80) rfl (hb hby at_63) rfl ((if0 _ _).trans (teq hc63).1) (by decide) (by decide) ?_
        show Steps p.tables e below (T9.setTop (mkF m 80 #[.val (.int p1), .val (.int p2), .val (.int p3), .val (.int p4), .val (.ref b5), .val (.ref b7), .val (.int (own_h p1 p2 p3 p4)), .val (.long ((p1.toInt64) - (p3.toInt64))), .second, .val (.long ((p2.toInt64) - (p4.toInt64))), .second, .val (.int (1 : Int32)), .val (.int (1 : Int32)), .unset] [])) _
        refine XS.iload X9.here hx rfl (hb hby at_80) rfl ?_
        show Steps p.tables e below (T9.setTop (mkF m 82 #[.val (.int p1), .val (.int p2), .val (.int p3), .val (.int p4), .val (.ref b5), .val (.ref b7), .val (.int (own_h p1 p2 p3 p4)), .val (.long ((p1.toInt64) - (p3.toInt64))), .second, .val (.long ((p2.toInt64) - (p4.toInt64))), .second, .val (.int (1 : Int32)), .val (.int (1 : Int32)), .unset] [(.int (1 : Int32))])) _
        have hc82 : ¬ ((1 : Int32) = (0 : Int32)) := by decide
        refine XS.ifNo X9.here hx rfl (hb hby at_82) rfl ((if0 _ _).trans (feq hc82).1) ?_
        show Steps p.tables e below (T9.setTop (mkF m 85 #[.val (.int p1), .val (.int p2), .val (.int p3), .val (.int p4), .val (.ref b5), .val (.ref b7), .val (.int (own_h p1 p2 p3 p4)), .val (.long ((p1.toInt64) - (p3.toInt64))), .second, .val (.long ((p2.toInt64) - (p4.toInt64))), .second, .val (.int (1 : Int32)), .val (.int (1 : Int32)), .unset] [])) _
        refine XS.iload X9.here hx rfl (hb hby at_85) rfl ?_
        show Steps p.tables e below (T9.setTop (mkF m 87 #[.val (.int p1), .val (.int p2), .val (.int p3), .val (.int p4), .val (.ref b5), .val (.ref b7), .val (.int (own_h p1 p2 p3 p4)), .val (.long ((p1.toInt64) - (p3.toInt64))), .second, .val (.long ((p2.toInt64) - (p4.toInt64))), .second, .val (.int (1 : Int32)), .val (.int (1 : Int32)), .unset] [(.int (1 : Int32))])) _
        have hc87 : ¬ ((1 : Int32) = (0 : Int32)) := by decide
        refine XS.ifNo X9.here hx rfl (hb hby at_87) rfl ((if0 _ _).trans (feq hc87).1) ?_
        show Steps p.tables e below (T9.setTop (mkF m 90 #[.val (.int p1), .val (.int p2), .val (.int p3), .val (.int p4), .val (.ref b5), .val (.ref b7), .val (.int (own_h p1 p2 p3 p4)), .val (.long ((p1.toInt64) - (p3.toInt64))), .second, .val (.long ((p2.toInt64) - (p4.toInt64))), .second, .val (.int (1 : Int32)), .val (.int (1 : Int32)), .unset] [])) _
        refine XS.iconst X9.here hx rfl (hb hby at_90) ?_
        show Steps p.tables e below (T9.setTop (mkF m 91 #[.val (.int p1), .val (.int p2), .val (.int p3), .val (.int p4), .val (.ref b5), .val (.ref b7), .val (.int (own_h p1 p2 p3 p4)), .val (.long ((p1.toInt64) - (p3.toInt64))), .second, .val (.long ((p2.toInt64) - (p4.toInt64))), .second, .val (.int (1 : Int32)), .val (.int (1 : Int32)), .unset] [(.int (1 : Int32))])) _
        refine XS.goto X9.here hx rfl (pc0 := 91) (pc' := 95) rfl (hb hby at_91) (by decide) (by decide) ?_
        show Steps p.tables e below (T9.setTop (mkF m 95 #[.val (.int p1), .val (.int p2), .val (.int p3), .val (.int p4), .val (.ref b5), .val (.ref b7), .val (.int (own_h p1 p2 p3 p4)), .val (.long ((p1.toInt64) - (p3.toInt64))), .second, .val (.long ((p2.toInt64) - (p4.toInt64))), .second, .val (.int (1 : Int32)), .val (.int (1 : Int32)), .unset] [(.int (1 : Int32))])) _
        refine XS.istore X9.here hx rfl (hb hby at_95) rfl (l' := #[.val (.int p1), .val (.int p2), .val (.int p3), .val (.int p4), .val (.ref b5), .val (.ref b7), .val (.int (own_h p1 p2 p3 p4)), .val (.long ((p1.toInt64) - (p3.toInt64))), .second, .val (.long ((p2.toInt64) - (p4.toInt64))), .second, .val (.int (1 : Int32)), .val (.int (1 : Int32)), .val (.int (1 : Int32))]) rfl ?_
        show Steps p.tables e below (T9.setTop (mkF m 97 #[.val (.int p1), .val (.int p2), .val (.int p3), .val (.int p4), .val (.ref b5), .val (.ref b7), .val (.int (own_h p1 p2 p3 p4)), .val (.long ((p1.toInt64) - (p3.toInt64))), .second, .val (.long ((p2.toInt64) - (p4.toInt64))), .second, .val (.int (1 : Int32)), .val (.int (1 : Int32)), .val (.int (1 : Int32))] [])) _
        refine XS.iload X9.here hx rfl (hb hby at_97) rfl ?_
        show Steps p.tables e below (T9.setTop (mkF m 99 #[.val (.int p1), .val (.int p2), .val (.int p3), .val (.int p4), .val (.ref b5), .val (.ref b7), .val (.int (own_h p1 p2 p3 p4)), .val (.long ((p1.toInt64) - (p3.toInt64))), .second, .val (.long ((p2.toInt64) - (p4.toInt64))), .second, .val (.int (1 : Int32)), .val (.int (1 : Int32)), .val (.int (1 : Int32))] [(.int (own_h p1 p2 p3 p4))])) _
        refine XS.iload X9.here hx rfl (hb hby at_99) rfl ?_
        show Steps p.tables e below (T9.setTop (mkF m 101 #[.val (.int p1), .val (.int p2), .val (.int p3), .val (.int p4), .val (.ref b5), .val (.ref b7), .val (.int (own_h p1 p2 p3 p4)), .val (.long ((p1.toInt64) - (p3.toInt64))), .second, .val (.long ((p2.toInt64) - (p4.toInt64))), .second, .val (.int (1 : Int32)), .val (.int (1 : Int32)), .val (.int (1 : Int32))] [(.int (1 : Int32)), (.int (own_h p1 p2 p3 p4))])) _
        refine XS.icmpNo X9.here hx rfl (hb hby at_101) rfl (teq (by have q49 := hc49; have q63 := hc63; rw [own_d] at q49; rw [q63]; simp [own_h, q49] : (own_h p1 p2 p3 p4) = (1 : Int32))).2 ?_
        show Steps p.tables e below (T9.setTop (mkF m 104 #[.val (.int p1), .val (.int p2), .val (.int p3), .val (.int p4), .val (.ref b5), .val (.ref b7), .val (.int (own_h p1 p2 p3 p4)), .val (.long ((p1.toInt64) - (p3.toInt64))), .second, .val (.long ((p2.toInt64) - (p4.toInt64))), .second, .val (.int (1 : Int32)), .val (.int (1 : Int32)), .val (.int (1 : Int32))] [])) _
        refine XS.iconst X9.here hx rfl (hb hby at_104) ?_
        show Steps p.tables e below (T9.setTop (mkF m 105 #[.val (.int p1), .val (.int p2), .val (.int p3), .val (.int p4), .val (.ref b5), .val (.ref b7), .val (.int (own_h p1 p2 p3 p4)), .val (.long ((p1.toInt64) - (p3.toInt64))), .second, .val (.long ((p2.toInt64) - (p4.toInt64))), .second, .val (.int (1 : Int32)), .val (.int (1 : Int32)), .val (.int (1 : Int32))] [(.int (1 : Int32))])) _
        refine XS.goto X9.here hx rfl (pc0 := 105) (pc' := 109) rfl (hb hby at_105) (by decide) (by decide) ?_
        show Steps p.tables e below (T9.setTop (mkF m 109 #[.val (.int p1), .val (.int p2), .val (.int p3), .val (.int p4), .val (.ref b5), .val (.ref b7), .val (.int (own_h p1 p2 p3 p4)), .val (.long ((p1.toInt64) - (p3.toInt64))), .second, .val (.long ((p2.toInt64) - (p4.toInt64))), .second, .val (.int (1 : Int32)), .val (.int (1 : Int32)), .val (.int (1 : Int32))] [(.int (1 : Int32))])) _
        exact retN X9 hx (t := .boolean) Bd.returns (by simp) (hb hby at_109) hr
      · refine XS.ifNo X9.here hx rfl (hb hby at_63) rfl ((if0 _ _).trans (feq hc63).1) ?_
        show Steps p.tables e below (T9.setTop (mkF m 66 #[.val (.int p1), .val (.int p2), .val (.int p3), .val (.int p4), .val (.ref b5), .val (.ref b7), .val (.int (own_h p1 p2 p3 p4)), .val (.long ((p1.toInt64) - (p3.toInt64))), .second, .val (.long ((p2.toInt64) - (p4.toInt64))), .second, .val (.int (1 : Int32)), .val (.int (1 : Int32)), .unset] [])) _
        refine XS.lload X9.here hx rfl (hb hby at_66) rfl ?_
        show Steps p.tables e below (T9.setTop (mkF m 68 #[.val (.int p1), .val (.int p2), .val (.int p3), .val (.int p4), .val (.ref b5), .val (.ref b7), .val (.int (own_h p1 p2 p3 p4)), .val (.long ((p1.toInt64) - (p3.toInt64))), .second, .val (.long ((p2.toInt64) - (p4.toInt64))), .second, .val (.int (1 : Int32)), .val (.int (1 : Int32)), .unset] [(.long ((p2.toInt64) - (p4.toInt64)))])) _
        refine XS.lconst X9.here hx rfl (hb hby at_68) ?_
        show Steps p.tables e below (T9.setTop (mkF m 69 #[.val (.int p1), .val (.int p2), .val (.int p3), .val (.int p4), .val (.ref b5), .val (.ref b7), .val (.int (own_h p1 p2 p3 p4)), .val (.long ((p1.toInt64) - (p3.toInt64))), .second, .val (.long ((p2.toInt64) - (p4.toInt64))), .second, .val (.int (1 : Int32)), .val (.int (1 : Int32)), .unset] [(.long (0 : Int64)), (.long ((p2.toInt64) - (p4.toInt64)))])) _
        refine XS.lcmp X9.here hx rfl (hb hby at_69) rfl ?_
        show Steps p.tables e below (T9.setTop (mkF m 70 #[.val (.int p1), .val (.int p2), .val (.int p3), .val (.int p4), .val (.ref b5), .val (.ref b7), .val (.int (own_h p1 p2 p3 p4)), .val (.long ((p1.toInt64) - (p3.toInt64))), .second, .val (.long ((p2.toInt64) - (p4.toInt64))), .second, .val (.int (1 : Int32)), .val (.int (1 : Int32)), .unset] [(.int (lcmpW ((p2.toInt64) - (p4.toInt64)) (0 : Int64)))])) _
        by_cases hc70 : (lcmpW ((p2.toInt64) - (p4.toInt64)) (0 : Int64)) < (0 : Int32)
        · refine XS.ifYes X9.here hx rfl (pc0 := 70) (pc' := 77) rfl (hb hby at_70) rfl ((if0 _ _).trans (tlt hc70).1) (by decide) (by decide) ?_
          show Steps p.tables e below (T9.setTop (mkF m 77 #[.val (.int p1), .val (.int p2), .val (.int p3), .val (.int p4), .val (.ref b5), .val (.ref b7), .val (.int (own_h p1 p2 p3 p4)), .val (.long ((p1.toInt64) - (p3.toInt64))), .second, .val (.long ((p2.toInt64) - (p4.toInt64))), .second, .val (.int (1 : Int32)), .val (.int (1 : Int32)), .unset] [])) _
          refine XS.iconst X9.here hx rfl (hb hby at_77) ?_
          show Steps p.tables e below (T9.setTop (mkF m 78 #[.val (.int p1), .val (.int p2), .val (.int p3), .val (.int p4), .val (.ref b5), .val (.ref b7), .val (.int (own_h p1 p2 p3 p4)), .val (.long ((p1.toInt64) - (p3.toInt64))), .second, .val (.long ((p2.toInt64) - (p4.toInt64))), .second, .val (.int (1 : Int32)), .val (.int (1 : Int32)), .unset] [(.int (0 : Int32))])) _
          refine XS.istore X9.here hx rfl (hb hby at_78) rfl (l' := #[.val (.int p1), .val (.int p2), .val (.int p3), .val (.int p4), .val (.ref b5), .val (.ref b7), .val (.int (own_h p1 p2 p3 p4)), .val (.long ((p1.toInt64) - (p3.toInt64))), .second, .val (.long ((p2.toInt64) - (p4.toInt64))), .second, .val (.int (1 : Int32)), .val (.int (0 : Int32)), .unset]) rfl ?_
          show Steps p.tables e below (T9.setTop (mkF m 80 #[.val (.int p1), .val (.int p2), .val (.int p3), .val (.int p4), .val (.ref b5), .val (.ref b7), .val (.int (own_h p1 p2 p3 p4)), .val (.long ((p1.toInt64) - (p3.toInt64))), .second, .val (.long ((p2.toInt64) - (p4.toInt64))), .second, .val (.int (1 : Int32)), .val (.int (0 : Int32)), .unset] [])) _
          refine XS.iload X9.here hx rfl (hb hby at_80) rfl ?_
          show Steps p.tables e below (T9.setTop (mkF m 82 #[.val (.int p1), .val (.int p2), .val (.int p3), .val (.int p4), .val (.ref b5), .val (.ref b7), .val (.int (own_h p1 p2 p3 p4)), .val (.long ((p1.toInt64) - (p3.toInt64))), .second, .val (.long ((p2.toInt64) - (p4.toInt64))), .second, .val (.int (1 : Int32)), .val (.int (0 : Int32)), .unset] [(.int (1 : Int32))])) _
          have hc82 : ¬ ((1 : Int32) = (0 : Int32)) := by decide
          refine XS.ifNo X9.here hx rfl (hb hby at_82) rfl ((if0 _ _).trans (feq hc82).1) ?_
          show Steps p.tables e below (T9.setTop (mkF m 85 #[.val (.int p1), .val (.int p2), .val (.int p3), .val (.int p4), .val (.ref b5), .val (.ref b7), .val (.int (own_h p1 p2 p3 p4)), .val (.long ((p1.toInt64) - (p3.toInt64))), .second, .val (.long ((p2.toInt64) - (p4.toInt64))), .second, .val (.int (1 : Int32)), .val (.int (0 : Int32)), .unset] [])) _
          refine XS.iload X9.here hx rfl (hb hby at_85) rfl ?_
          show Steps p.tables e below (T9.setTop (mkF m 87 #[.val (.int p1), .val (.int p2), .val (.int p3), .val (.int p4), .val (.ref b5), .val (.ref b7), .val (.int (own_h p1 p2 p3 p4)), .val (.long ((p1.toInt64) - (p3.toInt64))), .second, .val (.long ((p2.toInt64) - (p4.toInt64))), .second, .val (.int (1 : Int32)), .val (.int (0 : Int32)), .unset] [(.int (0 : Int32))])) _
          refine XS.ifYes X9.here hx rfl (pc0 := 87) (pc' := 94) rfl (hb hby at_87) rfl ((if0 _ _).trans (teq (rfl : (0 : Int32) = (0 : Int32))).1) (by decide) (by decide) ?_
          show Steps p.tables e below (T9.setTop (mkF m 94 #[.val (.int p1), .val (.int p2), .val (.int p3), .val (.int p4), .val (.ref b5), .val (.ref b7), .val (.int (own_h p1 p2 p3 p4)), .val (.long ((p1.toInt64) - (p3.toInt64))), .second, .val (.long ((p2.toInt64) - (p4.toInt64))), .second, .val (.int (1 : Int32)), .val (.int (0 : Int32)), .unset] [])) _
          refine XS.iconst X9.here hx rfl (hb hby at_94) ?_
          show Steps p.tables e below (T9.setTop (mkF m 95 #[.val (.int p1), .val (.int p2), .val (.int p3), .val (.int p4), .val (.ref b5), .val (.ref b7), .val (.int (own_h p1 p2 p3 p4)), .val (.long ((p1.toInt64) - (p3.toInt64))), .second, .val (.long ((p2.toInt64) - (p4.toInt64))), .second, .val (.int (1 : Int32)), .val (.int (0 : Int32)), .unset] [(.int (0 : Int32))])) _
          refine XS.istore X9.here hx rfl (hb hby at_95) rfl (l' := #[.val (.int p1), .val (.int p2), .val (.int p3), .val (.int p4), .val (.ref b5), .val (.ref b7), .val (.int (own_h p1 p2 p3 p4)), .val (.long ((p1.toInt64) - (p3.toInt64))), .second, .val (.long ((p2.toInt64) - (p4.toInt64))), .second, .val (.int (1 : Int32)), .val (.int (0 : Int32)), .val (.int (0 : Int32))]) rfl ?_
          show Steps p.tables e below (T9.setTop (mkF m 97 #[.val (.int p1), .val (.int p2), .val (.int p3), .val (.int p4), .val (.ref b5), .val (.ref b7), .val (.int (own_h p1 p2 p3 p4)), .val (.long ((p1.toInt64) - (p3.toInt64))), .second, .val (.long ((p2.toInt64) - (p4.toInt64))), .second, .val (.int (1 : Int32)), .val (.int (0 : Int32)), .val (.int (0 : Int32))] [])) _
          refine XS.iload X9.here hx rfl (hb hby at_97) rfl ?_
          show Steps p.tables e below (T9.setTop (mkF m 99 #[.val (.int p1), .val (.int p2), .val (.int p3), .val (.int p4), .val (.ref b5), .val (.ref b7), .val (.int (own_h p1 p2 p3 p4)), .val (.long ((p1.toInt64) - (p3.toInt64))), .second, .val (.long ((p2.toInt64) - (p4.toInt64))), .second, .val (.int (1 : Int32)), .val (.int (0 : Int32)), .val (.int (0 : Int32))] [(.int (own_h p1 p2 p3 p4))])) _
          refine XS.iload X9.here hx rfl (hb hby at_99) rfl ?_
          show Steps p.tables e below (T9.setTop (mkF m 101 #[.val (.int p1), .val (.int p2), .val (.int p3), .val (.int p4), .val (.ref b5), .val (.ref b7), .val (.int (own_h p1 p2 p3 p4)), .val (.long ((p1.toInt64) - (p3.toInt64))), .second, .val (.long ((p2.toInt64) - (p4.toInt64))), .second, .val (.int (1 : Int32)), .val (.int (0 : Int32)), .val (.int (0 : Int32))] [(.int (0 : Int32)), (.int (own_h p1 p2 p3 p4))])) _
          refine XS.icmpNo X9.here hx rfl (hb hby at_101) rfl (teq (by have q49 := hc49; have q63 := hc63; have q70 := hc70; rw [own_d] at q49; rw [own_d] at q70;  simp [own_h, q49, q63, q70] : (own_h p1 p2 p3 p4) = (0 : Int32))).2 ?_
          show Steps p.tables e below (T9.setTop (mkF m 104 #[.val (.int p1), .val (.int p2), .val (.int p3), .val (.int p4), .val (.ref b5), .val (.ref b7), .val (.int (own_h p1 p2 p3 p4)), .val (.long ((p1.toInt64) - (p3.toInt64))), .second, .val (.long ((p2.toInt64) - (p4.toInt64))), .second, .val (.int (1 : Int32)), .val (.int (0 : Int32)), .val (.int (0 : Int32))] [])) _
          refine XS.iconst X9.here hx rfl (hb hby at_104) ?_
          show Steps p.tables e below (T9.setTop (mkF m 105 #[.val (.int p1), .val (.int p2), .val (.int p3), .val (.int p4), .val (.ref b5), .val (.ref b7), .val (.int (own_h p1 p2 p3 p4)), .val (.long ((p1.toInt64) - (p3.toInt64))), .second, .val (.long ((p2.toInt64) - (p4.toInt64))), .second, .val (.int (1 : Int32)), .val (.int (0 : Int32)), .val (.int (0 : Int32))] [(.int (1 : Int32))])) _
          refine XS.goto X9.here hx rfl (pc0 := 105) (pc' := 109) rfl (hb hby at_105) (by decide) (by decide) ?_
          show Steps p.tables e below (T9.setTop (mkF m 109 #[.val (.int p1), .val (.int p2), .val (.int p3), .val (.int p4), .val (.ref b5), .val (.ref b7), .val (.int (own_h p1 p2 p3 p4)), .val (.long ((p1.toInt64) - (p3.toInt64))), .second, .val (.long ((p2.toInt64) - (p4.toInt64))), .second, .val (.int (1 : Int32)), .val (.int (0 : Int32)), .val (.int (0 : Int32))] [(.int (1 : Int32))])) _
          exact retN X9 hx (t := .boolean) Bd.returns (by simp) (hb hby at_109) hr
        · refine XS.ifNo X9.here hx rfl (hb hby at_70) rfl ((if0 _ _).trans (flt hc70).1) ?_
          show Steps p.tables e below (T9.setTop (mkF m 73 #[.val (.int p1), .val (.int p2), .val (.int p3), .val (.int p4), .val (.ref b5), .val (.ref b7), .val (.int (own_h p1 p2 p3 p4)), .val (.long ((p1.toInt64) - (p3.toInt64))), .second, .val (.long ((p2.toInt64) - (p4.toInt64))), .second, .val (.int (1 : Int32)), .val (.int (1 : Int32)), .unset] [])) _
          refine XS.iconst X9.here hx rfl (hb hby at_73) ?_
          show Steps p.tables e below (T9.setTop (mkF m 74 #[.val (.int p1), .val (.int p2), .val (.int p3), .val (.int p4), .val (.ref b5), .val (.ref b7), .val (.int (own_h p1 p2 p3 p4)), .val (.long ((p1.toInt64) - (p3.toInt64))), .second, .val (.long ((p2.toInt64) - (p4.toInt64))), .second, .val (.int (1 : Int32)), .val (.int (1 : Int32)), .unset] [(.int (1 : Int32))])) _
          refine XS.goto X9.here hx rfl (pc0 := 74) (pc' := 78) rfl (hb hby at_74) (by decide) (by decide) ?_
          show Steps p.tables e below (T9.setTop (mkF m 78 #[.val (.int p1), .val (.int p2), .val (.int p3), .val (.int p4), .val (.ref b5), .val (.ref b7), .val (.int (own_h p1 p2 p3 p4)), .val (.long ((p1.toInt64) - (p3.toInt64))), .second, .val (.long ((p2.toInt64) - (p4.toInt64))), .second, .val (.int (1 : Int32)), .val (.int (1 : Int32)), .unset] [(.int (1 : Int32))])) _
          refine XS.istore X9.here hx rfl (hb hby at_78) rfl (l' := #[.val (.int p1), .val (.int p2), .val (.int p3), .val (.int p4), .val (.ref b5), .val (.ref b7), .val (.int (own_h p1 p2 p3 p4)), .val (.long ((p1.toInt64) - (p3.toInt64))), .second, .val (.long ((p2.toInt64) - (p4.toInt64))), .second, .val (.int (1 : Int32)), .val (.int (1 : Int32)), .unset]) rfl ?_
          show Steps p.tables e below (T9.setTop (mkF m 80 #[.val (.int p1), .val (.int p2), .val (.int p3), .val (.int p4), .val (.ref b5), .val (.ref b7), .val (.int (own_h p1 p2 p3 p4)), .val (.long ((p1.toInt64) - (p3.toInt64))), .second, .val (.long ((p2.toInt64) - (p4.toInt64))), .second, .val (.int (1 : Int32)), .val (.int (1 : Int32)), .unset] [])) _
          refine XS.iload X9.here hx rfl (hb hby at_80) rfl ?_
          show Steps p.tables e below (T9.setTop (mkF m 82 #[.val (.int p1), .val (.int p2), .val (.int p3), .val (.int p4), .val (.ref b5), .val (.ref b7), .val (.int (own_h p1 p2 p3 p4)), .val (.long ((p1.toInt64) - (p3.toInt64))), .second, .val (.long ((p2.toInt64) - (p4.toInt64))), .second, .val (.int (1 : Int32)), .val (.int (1 : Int32)), .unset] [(.int (1 : Int32))])) _
          have hc82 : ¬ ((1 : Int32) = (0 : Int32)) := by decide
          refine XS.ifNo X9.here hx rfl (hb hby at_82) rfl ((if0 _ _).trans (feq hc82).1) ?_
          show Steps p.tables e below (T9.setTop (mkF m 85 #[.val (.int p1), .val (.int p2), .val (.int p3), .val (.int p4), .val (.ref b5), .val (.ref b7), .val (.int (own_h p1 p2 p3 p4)), .val (.long ((p1.toInt64) - (p3.toInt64))), .second, .val (.long ((p2.toInt64) - (p4.toInt64))), .second, .val (.int (1 : Int32)), .val (.int (1 : Int32)), .unset] [])) _
          refine XS.iload X9.here hx rfl (hb hby at_85) rfl ?_
          show Steps p.tables e below (T9.setTop (mkF m 87 #[.val (.int p1), .val (.int p2), .val (.int p3), .val (.int p4), .val (.ref b5), .val (.ref b7), .val (.int (own_h p1 p2 p3 p4)), .val (.long ((p1.toInt64) - (p3.toInt64))), .second, .val (.long ((p2.toInt64) - (p4.toInt64))), .second, .val (.int (1 : Int32)), .val (.int (1 : Int32)), .unset] [(.int (1 : Int32))])) _
          have hc87 : ¬ ((1 : Int32) = (0 : Int32)) := by decide
          refine XS.ifNo X9.here hx rfl (hb hby at_87) rfl ((if0 _ _).trans (feq hc87).1) ?_
          show Steps p.tables e below (T9.setTop (mkF m 90 #[.val (.int p1), .val (.int p2), .val (.int p3), .val (.int p4), .val (.ref b5), .val (.ref b7), .val (.int (own_h p1 p2 p3 p4)), .val (.long ((p1.toInt64) - (p3.toInt64))), .second, .val (.long ((p2.toInt64) - (p4.toInt64))), .second, .val (.int (1 : Int32)), .val (.int (1 : Int32)), .unset] [])) _
          refine XS.iconst X9.here hx rfl (hb hby at_90) ?_
          show Steps p.tables e below (T9.setTop (mkF m 91 #[.val (.int p1), .val (.int p2), .val (.int p3), .val (.int p4), .val (.ref b5), .val (.ref b7), .val (.int (own_h p1 p2 p3 p4)), .val (.long ((p1.toInt64) - (p3.toInt64))), .second, .val (.long ((p2.toInt64) - (p4.toInt64))), .second, .val (.int (1 : Int32)), .val (.int (1 : Int32)), .unset] [(.int (1 : Int32))])) _
          refine XS.goto X9.here hx rfl (pc0 := 91) (pc' := 95) rfl (hb hby at_91) (by decide) (by decide) ?_
          show Steps p.tables e below (T9.setTop (mkF m 95 #[.val (.int p1), .val (.int p2), .val (.int p3), .val (.int p4), .val (.ref b5), .val (.ref b7), .val (.int (own_h p1 p2 p3 p4)), .val (.long ((p1.toInt64) - (p3.toInt64))), .second, .val (.long ((p2.toInt64) - (p4.toInt64))), .second, .val (.int (1 : Int32)), .val (.int (1 : Int32)), .unset] [(.int (1 : Int32))])) _
          refine XS.istore X9.here hx rfl (hb hby at_95) rfl (l' := #[.val (.int p1), .val (.int p2), .val (.int p3), .val (.int p4), .val (.ref b5), .val (.ref b7), .val (.int (own_h p1 p2 p3 p4)), .val (.long ((p1.toInt64) - (p3.toInt64))), .second, .val (.long ((p2.toInt64) - (p4.toInt64))), .second, .val (.int (1 : Int32)), .val (.int (1 : Int32)), .val (.int (1 : Int32))]) rfl ?_
          show Steps p.tables e below (T9.setTop (mkF m 97 #[.val (.int p1), .val (.int p2), .val (.int p3), .val (.int p4), .val (.ref b5), .val (.ref b7), .val (.int (own_h p1 p2 p3 p4)), .val (.long ((p1.toInt64) - (p3.toInt64))), .second, .val (.long ((p2.toInt64) - (p4.toInt64))), .second, .val (.int (1 : Int32)), .val (.int (1 : Int32)), .val (.int (1 : Int32))] [])) _
          refine XS.iload X9.here hx rfl (hb hby at_97) rfl ?_
          show Steps p.tables e below (T9.setTop (mkF m 99 #[.val (.int p1), .val (.int p2), .val (.int p3), .val (.int p4), .val (.ref b5), .val (.ref b7), .val (.int (own_h p1 p2 p3 p4)), .val (.long ((p1.toInt64) - (p3.toInt64))), .second, .val (.long ((p2.toInt64) - (p4.toInt64))), .second, .val (.int (1 : Int32)), .val (.int (1 : Int32)), .val (.int (1 : Int32))] [(.int (own_h p1 p2 p3 p4))])) _
          refine XS.iload X9.here hx rfl (hb hby at_99) rfl ?_
          show Steps p.tables e below (T9.setTop (mkF m 101 #[.val (.int p1), .val (.int p2), .val (.int p3), .val (.int p4), .val (.ref b5), .val (.ref b7), .val (.int (own_h p1 p2 p3 p4)), .val (.long ((p1.toInt64) - (p3.toInt64))), .second, .val (.long ((p2.toInt64) - (p4.toInt64))), .second, .val (.int (1 : Int32)), .val (.int (1 : Int32)), .val (.int (1 : Int32))] [(.int (1 : Int32)), (.int (own_h p1 p2 p3 p4))])) _
          refine XS.icmpNo X9.here hx rfl (hb hby at_101) rfl (teq (by have q49 := hc49; have q63 := hc63; have q70 := hc70; rw [own_d] at q49; rw [own_d] at q70;  simp [own_h, q49, q63, q70] : (own_h p1 p2 p3 p4) = (1 : Int32))).2 ?_
          show Steps p.tables e below (T9.setTop (mkF m 104 #[.val (.int p1), .val (.int p2), .val (.int p3), .val (.int p4), .val (.ref b5), .val (.ref b7), .val (.int (own_h p1 p2 p3 p4)), .val (.long ((p1.toInt64) - (p3.toInt64))), .second, .val (.long ((p2.toInt64) - (p4.toInt64))), .second, .val (.int (1 : Int32)), .val (.int (1 : Int32)), .val (.int (1 : Int32))] [])) _
          refine XS.iconst X9.here hx rfl (hb hby at_104) ?_
          show Steps p.tables e below (T9.setTop (mkF m 105 #[.val (.int p1), .val (.int p2), .val (.int p3), .val (.int p4), .val (.ref b5), .val (.ref b7), .val (.int (own_h p1 p2 p3 p4)), .val (.long ((p1.toInt64) - (p3.toInt64))), .second, .val (.long ((p2.toInt64) - (p4.toInt64))), .second, .val (.int (1 : Int32)), .val (.int (1 : Int32)), .val (.int (1 : Int32))] [(.int (1 : Int32))])) _
          refine XS.goto X9.here hx rfl (pc0 := 105) (pc' := 109) rfl (hb hby at_105) (by decide) (by decide) ?_
          show Steps p.tables e below (T9.setTop (mkF m 109 #[.val (.int p1), .val (.int p2), .val (.int p3), .val (.int p4), .val (.ref b5), .val (.ref b7), .val (.int (own_h p1 p2 p3 p4)), .val (.long ((p1.toInt64) - (p3.toInt64))), .second, .val (.long ((p2.toInt64) - (p4.toInt64))), .second, .val (.int (1 : Int32)), .val (.int (1 : Int32)), .val (.int (1 : Int32))] [(.int (1 : Int32))])) _
          exact retN X9 hx (t := .boolean) Bd.returns (by simp) (hb hby at_109) hr
  · show Q0 Z p1 p2 p3 p4 h0 n0 _ T9.heap _
    exact ⟨rfl, N9⟩
-- 5. FROM THE CASE'S WORDS TO rm0, AND THE OWED THEOREMS
set_option maxRecDepth 65536 in
set_option maxHeartbeats 40000000 in
theorem comes_1 {Post : Tables → Env → Array Value → State → Outcome → State → Prop} (hpost : ∀ tb e args s v u, (limb_1_1.after args s (.returned v) u = true ∧ limb_1_2.after args s (.returned v) u = true ∧ True) → FrameEnd s (.returned v) u (Jvm.fieldLocs frame_1_writes args s ++ Jvm.arrayLocs frame_1_arrays args s ++ Jvm.staticLocs frame_1_statics s) 16 128 → Post tb e args s (.returned v) u) :
    ArmFor flags0 classFile x code maxLocals ret World_1 tables_1 room_1 Calls_1 rest_1 Pre_1 Post := by
  intro l hfl _ _ p e ha hc hk s m args below hf hA hF happ hP
  obtain ⟨hcalls, hrest, hpre⟩ := hP
  obtain ⟨-, -, -, hnamed, -, -, -, hat⟩ := (Spec.applies_iff hf).mp happ
  obtain ⟨hg, hn⟩ := and_e (Cond.before_iff.mp (show (Jvm.Cond.and given_1 narrow_1).before args s = true from hpre))
  obtain ⟨g10, g11⟩ := and_e hg
  obtain ⟨g12, g13⟩ := and_e g11
  obtain ⟨g14, g15⟩ := and_e g13
  obtain ⟨g16, g17⟩ := and_e g15
  obtain ⟨w0, w1, w2, w3, rfl⟩ : ∃ w0 w1 w2 w3 : Value, args = #[w0, w1, w2, w3] := by
    have hs : args.size = 4 := by simpa [Cond.value, given_1] using g10
    obtain ⟨L⟩ := args
    match L, hs with
    | [w0, w1, w2, w3], _ => exact ⟨w0, w1, w2, w3, rfl⟩
  have hw := fun d (hd : d ∈ tables_1) => atoms_spec (ws := Jvm.Cond.code x code maxLocals ret :: tables_1) hat d (List.mem_cons_of_mem _ hd)
  have hfit : Fit s := fun {y c} hc i hi => by
    obtain ⟨ha, rfl⟩ := Array.getElem?_eq_some_iff.mp hc
    have q := List.all_eq_true.mp ((Array.all_eq_true_iff_forall_mem.mp hF) _ (Array.getElem_mem ha)) i (List.mem_range.mpr hi)
    simpa [Array.getElem?_eq_getElem hi] using q
  obtain ⟨i0, ei0⟩ := is_v g12
  obtain rfl : w0 = (.int i0) := Option.some.inj ei0
  obtain ⟨i1, ei1⟩ := is_v g14
  obtain rfl : w1 = (.int i1) := Option.some.inj ei1
  obtain ⟨i2, ei2⟩ := is_v g16
  obtain rfl : w2 = (.int i2) := Option.some.inj ei2
  obtain ⟨i3, ei3⟩ := is_v g17
  obtain rfl : w3 = (.int i3) := Option.some.inj ei3
  obtain ⟨n, o, h1, h2, h3, _, L, rfl, ⟨rfl, N⟩, hq⟩ := rm0 l s _ hw tables_1 i0 i1 i2 i3 s.heap s.heap.size (Nat.le_refl _) p e ha hc hk s m _ below hf ((Spec.applies_iff_loose hf).mp happ).1 ⟨rfl, State.Warmed39.refl s, rfl⟩ trivial
  refine ⟨n, _, h1, h2, h3, hpost _ _ _ _ _ _ ⟨Cond.after_iff.mpr rfl, Cond.after_iff.mpr (eq_i res_at (Term.int_eval (1)) rfl), trivial⟩ ⟨hq.1, hq.2.1, (hq.2.2.sift fun y hy => Or.inr (N y hy)).mono (by decide) (by decide)⟩⟩
theorem main_1_1 : Claimed_1_1 := comes_1 fun _ _ _ _ _ _ h hF => ⟨h.1, hF⟩
theorem main_1_2 : Claimed_1_2 := comes_1 fun _ _ _ _ _ _ h hF => ⟨h.2.1, hF⟩
-- 6. THE WITNESS: 'witness <made dir> --arg ..' lays it behind; then: end Jvm.Pilot.@@N@@
end Jvm.Pilot.@@N@@
namespace Jvm.Pilot.@@N@@
open Jvm Jvm.ClassFile Sem Op Lib Jvm.Free Jvm.Stand Jvm.Pilot.@@N@@.Jvm.D
/-! MADE BY PROGRAM (witnessworld.py) out of the Statement's table words and the real class files: 10 classes; the members and pool entries that the words name. The judged class is class 1, her method 1. -/
namespace start1
open Jvm.ClassFile
def u (s : String) : CpInfo := .utf8 (stringToUtf16 s)
/-- a pool by its gaps: so many unusable entries, then the entry; so many at the end -/
def gap : Nat → List CpInfo → List CpInfo
  | 0, r => r
  | n + 1, r => .unusable :: gap n r
def poolList (es : List (Nat × CpInfo)) (last : Nat) : List CpInfo := es.foldr (fun e r => gap e.1 (e.2 :: r)) (gap last [])
def pool (es : List (Nat × CpInfo)) (last : Nat) : Array CpInfo := ⟨poolList es last⟩
def fileOf (pool : Array CpInfo) (this : Nat) (attrs : Array Attribute := #[]) (ms : Array MethodInfo := #[]) (fl : Nat := 33) (sup : Nat := 0) (ifs : Array Nat := #[]) (fds : Array FieldInfo := #[]) : ClassFile where
  minorVersion := 0
  majorVersion := 65
  constantPool := pool
  accessFlags := fl
  thisClass := this
  superClass := sup
  interfaces := ifs
  fields := fds
  methods := ms
  attributes := attrs
def plain (name : String) (sup : Option ClassId) : Class where
  name := name
  kind := .ordinary
  loader := none
  accessFlags := 33
  super := sup
  interfaces := #[]
  cf := none
  fields := #[]
  methods := #[]
  instanceTypes := #[]
  staticTypes := #[]
  resolved := #[]
  callSites := []
  init := .initialized
  statics := none
  mirror := none

def pool0 : Array CpInfo := pool [(5, u "<init>"), (0, u "()V"), (1, .class_ 10), (1, u "java/lang/Object")] 113

def k0c0 : Code := { maxStack := 0, maxLocals := 1, code := object_method_1_code, exceptionTable := #[], attributes := #[] }
def k0m0 : Method := { name := "<init>", desc := "()V", sig := { parameters := [], returnType := none }, accessFlags := 1, code := some k0c0 }
/-- java/lang/Object -/
def k0 : Class := { plain "java/lang/Object" none with
  accessFlags := 33
  interfaces := #[]
  cf := some (fileOf pool0 8 #[] #[{ accessFlags := 1, nameIndex := 5, descriptorIndex := 6, attributes := #[] }] 33 0 #[] #[])
  fields := #[]
  methods := #[k0m0]
  instanceTypes := #[]
  staticTypes := #[]
  resolved := Array.replicate 124 none
  statics := none }

def pool1 : Array CpInfo := pool [(2, .class_ 4), (1, u "java/lang/Object"), (0, u "<init>"), (0, u "()V"), (0, .class_ 8), (0, u "com/example/offpeak/offpeak/flow/Room"), (0, .methodref 7 10), (0, .nameAndType 5 11), (0, u "(II)V"), (0, .methodref 7 13), (0, .nameAndType 14 15), (0, u "holds"), (0, u "(Lcom/example/offpeak/offpeak/flow/Room;)Z"), (0, .class_ 17), (0, u "com/example/offpeak/offpeak/flow/RoomHoldsPinLaw"), (2, u "law"), (0, u "(IIII)Z")] 3

def k1m0 : Method := { name := "<init>", desc := "()V", sig := { parameters := [], returnType := none }, accessFlags := 1, code := none }
def k1c1 : Code := { maxStack := 4, maxLocals := 14, code := code, exceptionTable := #[], attributes := #[] }
def k1m1 : Method := { name := "law", desc := "(IIII)Z", sig := { parameters := [.int, .int, .int, .int], returnType := some .boolean }, accessFlags := 9, code := some k1c1 }
/-- com/example/offpeak/offpeak/flow/RoomHoldsPinLaw -/
def k1 : Class := { plain "com/example/offpeak/offpeak/flow/RoomHoldsPinLaw" (some 0) with
  accessFlags := 49
  interfaces := #[]
  cf := some (fileOf pool1 16 #[] #[{ accessFlags := 1, nameIndex := 5, descriptorIndex := 6, attributes := #[] }, { accessFlags := 9, nameIndex := 20, descriptorIndex := 21, attributes := #[] }] 49 2 #[] #[])
  fields := #[]
  methods := #[k1m0, k1m1]
  instanceTypes := #[]
  staticTypes := #[]
  resolved := Array.replicate 25 none
  statics := none }

def pool2 : Array CpInfo := pool [(1, .methodref 2 3), (0, .class_ 4), (0, .nameAndType 5 6), (0, u "java/lang/Object"), (0, u "<init>"), (0, u "()V"), (0, .class_ 8), (0, u "java/lang/Record")] 13

def k2c0 : Code := { maxStack := 1, maxLocals := 1, code := jdk_30_method_1_code, exceptionTable := #[], attributes := #[] }
def k2m0 : Method := { name := "<init>", desc := "()V", sig := { parameters := [], returnType := none }, accessFlags := 4, code := some k2c0 }
/-- java/lang/Record -/
def k2 : Class := { plain "java/lang/Record" (some 0) with
  accessFlags := 1057
  interfaces := #[]
  cf := some (fileOf pool2 7 #[] #[{ accessFlags := 4, nameIndex := 5, descriptorIndex := 6, attributes := #[] }] 1057 2 #[] #[])
  fields := #[]
  methods := #[k2m0]
  instanceTypes := #[]
  staticTypes := #[]
  resolved := Array.replicate 22 none
  statics := none }

def pool3 : Array CpInfo := pool [(1, .methodref 2 3), (0, .class_ 4), (0, .nameAndType 5 6), (0, u "java/lang/Record"), (0, u "<init>"), (0, u "()V"), (0, .fieldref 8 9), (0, .class_ 10), (0, .nameAndType 11 12), (0, u "com/example/offpeak/offpeak/flow/Room"), (0, u "free"), (0, u "I"), (0, .fieldref 8 14), (0, .nameAndType 15 12), (0, u "spare"), (2, u "(II)V"), (15, u "holds"), (0, u "(Lcom/example/offpeak/offpeak/flow/Room;)Z")] 27

def k3c0 : Code := { maxStack := 2, maxLocals := 3, code := prog_62_method_1_code, exceptionTable := #[], attributes := #[] }
def k3m0 : Method := { name := "<init>", desc := "(II)V", sig := { parameters := [.int, .int], returnType := none }, accessFlags := 1, code := some k3c0 }
def k3c1 : Code := { maxStack := 2, maxLocals := 2, code := prog_62_method_2_code, exceptionTable := #[], attributes := #[] }
def k3m1 : Method := { name := "holds", desc := "(Lcom/example/offpeak/offpeak/flow/Room;)Z", sig := { parameters := [(.object "com/example/offpeak/offpeak/flow/Room")], returnType := some .boolean }, accessFlags := 1, code := some k3c1 }
/-- com/example/offpeak/offpeak/flow/Room -/
def k3 : Class := { plain "com/example/offpeak/offpeak/flow/Room" (some 2) with
  accessFlags := 49
  interfaces := #[]
  cf := some (fileOf pool3 8 #[] #[{ accessFlags := 1, nameIndex := 5, descriptorIndex := 18, attributes := #[] }, { accessFlags := 1, nameIndex := 34, descriptorIndex := 35, attributes := #[] }] 49 2 #[] #[{ accessFlags := 18, nameIndex := 11, descriptorIndex := 12, attributes := #[] }, { accessFlags := 18, nameIndex := 15, descriptorIndex := 12, attributes := #[] }])
  fields := #[{ name := "free", type := .int, accessFlags := 18, slot := 0, constantValue := 0 }, { name := "spare", type := .int, accessFlags := 18, slot := 1, constantValue := 0 }]
  methods := #[k3m0, k3m1]
  instanceTypes := #[.int, .int]
  staticTypes := #[]
  resolved := Array.replicate 63 none
  statics := none }

def pool4 : Array CpInfo := pool [(1, u "java/lang/Cloneable"), (0, .class_ 1), (0, u "java/lang/Object"), (0, .class_ 3)] 3

/-- java/lang/Cloneable -/
def k4 : Class := { plain "java/lang/Cloneable" (some 0) with
  accessFlags := 1537
  interfaces := #[]
  cf := some (fileOf pool4 2 #[] #[] 1537 4 #[] #[])
  fields := #[]
  methods := #[]
  instanceTypes := #[]
  staticTypes := #[]
  resolved := Array.replicate 8 none
  statics := none }

def pool5 : Array CpInfo := pool [(1, u "java/io/Serializable"), (0, .class_ 1), (0, u "java/lang/Object"), (0, .class_ 3)] 3

/-- java/io/Serializable -/
def k5 : Class := { plain "java/io/Serializable" (some 0) with
  accessFlags := 1537
  interfaces := #[]
  cf := some (fileOf pool5 2 #[] #[] 1537 4 #[] #[])
  fields := #[]
  methods := #[]
  instanceTypes := #[]
  staticTypes := #[]
  resolved := Array.replicate 8 none
  statics := none }

/-- the primitive byte -/
def k6 : Class := { plain "byte" none with kind := .primitive 'B', accessFlags := 0x411 }
/-- [B -/
def k7 : Class := { plain "[B" (some 0) with kind := .array 6 .byte, interfaces := #[4, 5], accessFlags := 1041 }

/-- the primitive int -/
def k8 : Class := { plain "int" none with kind := .primitive 'I', accessFlags := 0x411 }
/-- [I -/
def k9 : Class := { plain "[I" (some 0) with kind := .array 8 .int, interfaces := #[4, 5], accessFlags := 1041 }

def heap : Heap := #[]
def classes : Array Class := #[k0, k1, k2, k3, k4, k5, k6, k7, k8, k9]
def interned : List (Array UInt16 × Addr) := []
def slotsUsed : Nat := 0
def theMethod : MethodId := ⟨1, 1⟩
def args0 : Array Value := #[.int 5, .int 7, .int 1, .int 2]
def aboutOver (below : List Frame) : State where
  vm := { classes := classes, interned := interned.toArray }
  heap := heap
  slotsUsed := slotsUsed
  threads := #[{ frames := .invoking theMethod args0 :: below }]
def below0 : List Frame := [.native { method := ⟨0, 0⟩, args := #[] }]
def about1 : State := aboutOver below0
def p0 : Program := .bare "" "" ""
def e0 : Env := launch0.env 0 0 0
theorem w_frames : about1.frames = Frame.invoking theMethod args0 :: below0 := rfl
set_option maxRecDepth 65536 in
theorem w_args : argsFit about1.vm theMethod args0 = true := by decide +kernel
set_option maxRecDepth 65536 in
theorem w_heap : heapFits about1 = true := by decide +kernel
set_option maxRecDepth 65536 in
theorem w_runnable : about1.curStatus? = some .runnable := by decide +kernel
set_option maxRecDepth 65536 in
theorem w_alone : about1.alone = true := by decide +kernel
set_option maxRecDepth 65536 in
theorem w_named : about1.methodNamed? x = some theMethod := by decide +kernel
set_option maxRecDepth 65536 in
theorem w_hears : about1.hears theMethod below0 = true := by decide +kernel
set_option maxRecDepth 65536 in
theorem w_ripe : about1.ripe theMethod args0 below0 = true := by decide +kernel
theorem w_running : about1.status = .running := rfl
set_option maxRecDepth 65536 in
theorem w_room : about1.hasRoom e0.platform room_1 = true :=
  launch0.hasRoom_least _ room_1 (by decide +kernel) (by decide +kernel) (by decide +kernel) (by decide +kernel) (by decide +kernel) (by decide +kernel)
theorem allAtoms_all (ts : List Jvm.Cond) (a : Array Jvm.Value) (st : Jvm.State) : (allAtoms ts).before a st = ts.all (fun c => c.before a st) := by
  induction ts with
  | nil => rfl
  | cons c t ih =>
    show (Jvm.Cond.and c (allAtoms t)).before a st = _
    rw [Jvm.Cond.before_and, ih, List.all_cons]
def words1 : List Jvm.Cond := Jvm.Cond.code x code maxLocals ret :: tables_1
/-- a 'code' word, met by the world's own term for the bytes: nothing is compared byte by byte -/
theorem code_word {y : MethodName} {bytes : ByteArray} {mx : Nat} {rt : Option FieldType} {a : Array Value} {s : State} {m : MethodId} {meth : Method} {c : Code} (h1 : s.methodNamed? y = some m) (h2 : s.vm.method? m = some meth) (h3 : meth.code = some c) (h4 : c.code = bytes)
    (h5 : (c.maxLocals == mx && c.exceptionTable.isEmpty && decide (c.maxStack ≤ mostOperands) && decide (meth.sig.returnType = rt) && !meth.locks && decide (parseMethodDescriptor y.desc = some meth.sig)) = true) : (Jvm.Cond.code y bytes mx rt).before a s = true := by
  simp only [Bool.and_eq_true, beq_iff_eq, Bool.not_eq_true', decide_eq_true_eq] at h5
  obtain ⟨⟨⟨⟨⟨g1, g2⟩, g3⟩, g4⟩, g5⟩, g6⟩ := h5
  simp [Cond.before, Cond.holds, Cond.value, h1, h2, h3, h4, g1, g2, g3, g4, g5, g6]
def isCode : Jvm.Cond → Bool
  | .code _ _ _ _ => true
  | _ => false
theorem all_split {L : List Jvm.Cond} {P : Jvm.Cond → Bool} (h1 : L.all (fun c => isCode c || P c) = true) (h2 : ∀ c ∈ L.filter isCode, P c = true) : L.all P = true := by
  refine List.all_eq_true.mpr fun c hc => ?_
  have h := List.all_eq_true.mp h1 c hc
  rcases Bool.eq_false_or_eq_true (isCode c) with hi | hi
  · exact h2 c (List.mem_filter.mpr ⟨hc, hi⟩)
  · simpa [hi] using h
set_option maxRecDepth 65536 in
theorem w_c0 : (Jvm.Cond.code x code maxLocals ret).before args0 about1 = true := code_word (m := ⟨1, 1⟩) (meth := k1m1) (c := k1c1) (by decide +kernel) rfl rfl rfl (by decide +kernel)
set_option maxRecDepth 65536 in
theorem w_c1 : (Jvm.Cond.code ({ cls := "com/example/offpeak/offpeak/flow/Room", name := "<init>", desc := "(II)V" } : Jvm.MethodName) prog_62_method_1_code (3 : Nat) (Option.none : Option Jvm.ClassFile.FieldType)).before args0 about1 = true := code_word (m := ⟨3, 0⟩) (meth := k3m0) (c := k3c0) (by decide +kernel) rfl rfl rfl (by decide +kernel)
set_option maxRecDepth 65536 in
theorem w_c2 : (Jvm.Cond.code ({ cls := "java/lang/Record", name := "<init>", desc := "()V" } : Jvm.MethodName) jdk_30_method_1_code (1 : Nat) (Option.none : Option Jvm.ClassFile.FieldType)).before args0 about1 = true := code_word (m := ⟨2, 0⟩) (meth := k2m0) (c := k2c0) (by decide +kernel) rfl rfl rfl (by decide +kernel)
set_option maxRecDepth 65536 in
theorem w_c3 : (Jvm.Cond.code ({ cls := "java/lang/Object", name := "<init>", desc := "()V" } : Jvm.MethodName) object_method_1_code (1 : Nat) (Option.none : Option Jvm.ClassFile.FieldType)).before args0 about1 = true := code_word (m := ⟨0, 0⟩) (meth := k0m0) (c := k0c0) (by decide +kernel) rfl rfl rfl (by decide +kernel)
set_option maxRecDepth 65536 in
theorem w_c4 : (Jvm.Cond.code ({ cls := "com/example/offpeak/offpeak/flow/Room", name := "holds", desc := "(Lcom/example/offpeak/offpeak/flow/Room;)Z" } : Jvm.MethodName) prog_62_method_2_code (2 : Nat) (Option.some Jvm.ClassFile.FieldType.boolean)).before args0 about1 = true := code_word (m := ⟨3, 1⟩) (meth := k3m1) (c := k3c1) (by decide +kernel) rfl rfl rfl (by decide +kernel)
def codes1 : List Jvm.Cond := [Jvm.Cond.code x code maxLocals ret, Jvm.Cond.code ({ cls := "com/example/offpeak/offpeak/flow/Room", name := "<init>", desc := "(II)V" } : Jvm.MethodName) prog_62_method_1_code (3 : Nat) (Option.none : Option Jvm.ClassFile.FieldType), Jvm.Cond.code ({ cls := "java/lang/Record", name := "<init>", desc := "()V" } : Jvm.MethodName) jdk_30_method_1_code (1 : Nat) (Option.none : Option Jvm.ClassFile.FieldType), Jvm.Cond.code ({ cls := "java/lang/Object", name := "<init>", desc := "()V" } : Jvm.MethodName) object_method_1_code (1 : Nat) (Option.none : Option Jvm.ClassFile.FieldType), Jvm.Cond.code ({ cls := "com/example/offpeak/offpeak/flow/Room", name := "holds", desc := "(Lcom/example/offpeak/offpeak/flow/Room;)Z" } : Jvm.MethodName) prog_62_method_2_code (2 : Nat) (Option.some Jvm.ClassFile.FieldType.boolean)]
set_option maxRecDepth 65536 in
theorem codes_eq : words1.filter isCode = codes1 := rfl
theorem w_codes : ∀ c ∈ words1.filter isCode, c.before args0 about1 = true := by
  rw [codes_eq]
  intro c hc
  simp only [codes1, List.mem_cons, List.not_mem_nil, or_false] at hc
  rcases hc with rfl | rfl | rfl | rfl | rfl
  · exact w_c0
  · exact w_c1
  · exact w_c2
  · exact w_c3
  · exact w_c4
set_option maxRecDepth 65536 in
theorem w_t1 : words1.all (fun c => isCode c || c.before args0 about1) = true := by decide +kernel
theorem w_tables : (allAtoms (Jvm.Cond.code x code maxLocals ret :: tables_1)).before args0 about1 = true := by
  rw [allAtoms_all]
  show words1.all (fun c => c.before args0 about1) = true
  refine all_split ?_ w_codes
  rw [w_t1]
set_option maxRecDepth 65536 in
theorem w_case : (Jvm.Cond.and given_1 narrow_1).before args0 about1 = true := by decide +kernel
theorem w_applies : (headSpec (Jvm.Cond.code x code maxLocals ret :: tables_1) room_1).applies x e0.platform about1 = true :=
  (Spec.applies_iff w_frames).mpr ⟨w_running, w_runnable, w_alone, w_named, w_hears, w_ripe, w_room, w_tables⟩
theorem atStart : AtStart classFile x code maxLocals ret World_1 tables_1 room_1 Calls_1 rest_1 Pre_1 launch0 p0 e0 about1 theMethod args0 below0 :=
  ⟨lists_1, trivial, launch0.admits_env _ _ _, launch0.least_env, fairChoices_fair.cas, fairChoices_fair.clock, w_frames, w_args, w_heap, w_applies, trivial, trivial, w_case⟩
end start1
theorem witness_1 : WitnessClaimed_1 := ⟨start1.p0, start1.e0, start1.about1, start1.theMethod, start1.args0, start1.below0, start1.atStart⟩
end Jvm.Pilot.@@N@@
