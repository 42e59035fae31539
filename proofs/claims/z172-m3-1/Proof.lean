import JvmDerived
import JvmDerived.Pilot.@@N@@Statement
import JvmDerived.Pilot.@@N@@Code
set_option linter.unusedVariables false
set_option linter.unusedSimpArgs false
namespace Jvm.RoadKit
open Sem ClassFile Op Lib Jvm.Stand Jvm.Free Jvm.LawKit
section New
variable {p : Program} {l : Launch} {e : Env} {R : Room} {s : State} {m : MethodId} {args : Array Value} {below : List Frame} {meth : Method} {c : Code} {T : State} {locs : List Loc} {cells slots : Nat}
theorem retI (X : Stand p l e R s m args below meth c T locs cells slots) (hx : p.tables.exec = Jvm.exec) {pc : Nat} {Ls : Array Slot} {z : Int32} {rest : List Value} (hret : meth.sig.returnType = some .int) (hd : decode c.code pc = .ok (.ireturn, 1)) {fs : List Frame}
    (hl : ∀ (f : JFrame) (acts : List Action), f.method = m → f.locked = none → f.entered = [] → (doReturn e (T.setTop f) acts (some (.int z))).1 = T.setFrames fs) : Steps p.tables e below (T.setTop (mkF m pc Ls (.int z :: rest))) (T.setFrames fs) := by
  have hm' : T.vm.method? m = some meth := X.method'
  have hn : narrow .int (.int z) = .int z := rfl
  show Steps p.tables e below (T.setTop { method := m, pc := pc, locals := Ls, stack := _ :: rest, locked := none }) _
  jvm_step X.here [X.here.top, hx, hd, hm', hret, hn]
  first | (intro acts; rw [hl _ acts rfl rfl rfl]) | rw [hl _ _ rfl rfl rfl]
  exact Steps.refl _
end New
end Jvm.RoadKit
namespace Jvm.Pilot.@@N@@
open Jvm Jvm.ClassFile Sem Op Lib Jvm.Free Jvm.Stand Jvm.LawKit Jvm.RoadKit Bundle Jvm.Pilot.@@N@@.Jvm.D
def own_max (a b : Int64) : Int64 := if lcmpW a b < (0 : Int32) then b else a
def own_min (a b : Int64) : Int64 := if (0 : Int32) < lcmpW a b then b else a
theorem own_max_i (a b : Int64) : (own_max a b).toInt = if a.toInt < b.toInt then b.toInt else a.toInt := by
  have h := lw_lt a b
  rw [Int64.lt_iff_toInt_lt] at h
  by_cases q : a.toInt < b.toInt
  · rw [own_max, if_pos (h.mpr q), if_pos q]
  · rw [own_max, if_neg (fun z => q (h.mp z)), if_neg q]
theorem own_min_i (a b : Int64) : (own_min a b).toInt = if b.toInt < a.toInt then b.toInt else a.toInt := by
  have h := lw_gt a b
  rw [Int64.lt_iff_toInt_lt] at h
  by_cases q : b.toInt < a.toInt
  · rw [own_min, if_pos (h.mpr q), if_pos q]
  · rw [own_min, if_neg (fun z => q (h.mp z)), if_neg q]
/-- the connections that forHeap reckons -/
def own_c (q : Int64) : Int64 := own_max (2 : Int64) (own_min (8192 : Int64) (own_max (0 : Int64) (q - (16777216 : Int64)) / (262144 : Int64)))
theorem own_cc (hv : Int64) (h : 0 ≤ hv.toInt) : (own_c hv).toInt32.toInt = if hv.toInt < 17563648 then 2 else if 2164260864 ≤ hv.toInt then 8192 else (hv.toInt - 16777216) / 262144 := by
  have e0 : (0 : Int64).toInt = 0 := by decide
  have e1 : (16777216 : Int64).toInt = 16777216 := by decide
  have e2 : (2 : Int64).toInt = 2 := by decide
  have e3 : (8192 : Int64).toInt = 8192 := by decide
  have s := c_lsub hv 16777216
  have r := rng64 hv
  have r1 := rng64 (hv - 16777216)
  have es : (hv - 16777216).toInt = hv.toInt - 16777216 := by omega
  have m := own_max_i 0 (hv - 16777216)
  rw [e0, es] at m
  have m0 : 0 ≤ (own_max 0 (hv - 16777216)).toInt := by rw [m]; split <;> omega
  have d := (c_ldiv (own_max 0 (hv - 16777216)) 262144 262144 (by decide) (by decide)).1 m0
  have n := own_min_i 8192 (own_max 0 (hv - 16777216) / 262144)
  rw [e3, d] at n
  have k := own_max_i 2 (own_min 8192 (own_max 0 (hv - 16777216) / 262144))
  rw [e2] at k
  have w := c_l2i (own_c hv)
  have w2 := rng32 (own_c hv).toInt32
  have ek : own_c hv = own_max 2 (own_min 8192 (own_max 0 (hv - 16777216) / 262144)) := rfl
  rw [← ek] at k
  split at m <;> split at n <;> split at k <;> (try split) <;> (try split) <;> omega
theorem own_207 (c : Int32) (h : 0 ≤ c.toInt) : ¬ ((lcmpW ((c.toInt64) - ((2 : Int64) * ((c / (2 : Int32)).toInt64))) (0 : Int64)) < (0 : Int32)) ∧ ¬ ((0 : Int32) < (lcmpW ((c.toInt64) - ((2 : Int64) * ((c / (2 : Int32)).toInt64))) (1 : Int64))) := by
  rw [lw_lt, lw_gt, Int64.lt_iff_toInt_lt, Int64.lt_iff_toInt_lt]
  have e0 : (0 : Int64).toInt = 0 := by decide
  have e1 : (1 : Int64).toInt = 1 := by decide
  have e2 : (2 : Int64).toInt = 2 := by decide
  have a := c_i2l c
  have b := c_i2l (c / 2)
  have d := (c_idiv c 2 2 (by decide) (by decide)).1 h
  have m := c_lmul 2 (c / 2).toInt64
  rw [e2] at m
  have r := rng32 c
  have r1 := rng64 (2 * (c / 2).toInt64)
  have s := c_lsub c.toInt64 (2 * (c / 2).toInt64)
  have r2 := rng64 (c.toInt64 - 2 * (c / 2).toInt64)
  omega
theorem own_sh (hv : Int64) (h : 0 ≤ hv.toInt) : ¬ ((lcmpW (hv / (16 : Int64)) (0 : Int64)) < (0 : Int32)) ∧ ¬ ((0 : Int32) < (lcmpW (hv / (16 : Int64)) (576460752303423487 : Int64))) ∧ ¬ ((lcmpW (hv - ((16 : Int64) * (hv / (16 : Int64)))) (0 : Int64)) < (0 : Int32)) ∧ (lcmpW (hv - ((16 : Int64) * (hv / (16 : Int64)))) (16 : Int64)) < (0 : Int32) := by
  rw [lw_lt, lw_gt, lw_lt, lw_lt, Int64.lt_iff_toInt_lt, Int64.lt_iff_toInt_lt, Int64.lt_iff_toInt_lt, Int64.lt_iff_toInt_lt]
  have e0 : (0 : Int64).toInt = 0 := by decide
  have e1 : (576460752303423487 : Int64).toInt = 576460752303423487 := by decide
  have e2 : (16 : Int64).toInt = 16 := by decide
  have d := (c_ldiv hv 16 16 (by decide) (by decide)).1 h
  have m := c_lmul 16 (hv / 16)
  rw [e2] at m
  have r := rng64 hv
  have r1 := rng64 (16 * (hv / 16))
  have s := c_lsub hv (16 * (hv / 16))
  have r2 := rng64 (hv - 16 * (hv / 16))
  omega
theorem own_ad (hv : Int64) (h : 0 ≤ hv.toInt) : ¬ ((lcmpW (hv / (64 : Int64)) (0 : Int64)) < (0 : Int32)) ∧ ¬ ((0 : Int32) < (lcmpW (hv / (64 : Int64)) (144115188075855871 : Int64))) ∧ ¬ ((lcmpW (hv - ((64 : Int64) * (hv / (64 : Int64)))) (0 : Int64)) < (0 : Int32)) ∧ (lcmpW (hv - ((64 : Int64) * (hv / (64 : Int64)))) (64 : Int64)) < (0 : Int32) := by
  rw [lw_lt, lw_gt, lw_lt, lw_lt, Int64.lt_iff_toInt_lt, Int64.lt_iff_toInt_lt, Int64.lt_iff_toInt_lt, Int64.lt_iff_toInt_lt]
  have e0 : (0 : Int64).toInt = 0 := by decide
  have e1 : (144115188075855871 : Int64).toInt = 144115188075855871 := by decide
  have e2 : (64 : Int64).toInt = 64 := by decide
  have d := (c_ldiv hv 64 64 (by decide) (by decide)).1 h
  have m := c_lmul 64 (hv / 64)
  rw [e2] at m
  have r := rng64 hv
  have r1 := rng64 (64 * (hv / 64))
  have s := c_lsub hv (64 * (hv / 64))
  have r2 := rng64 (hv - 64 * (hv / 64))
  omega
theorem own_lo (hv : Int64) (k : Int64) (h : (lcmpW hv k) < (0 : Int32)) : hv.toInt < k.toInt := by rwa [lw_lt, Int64.lt_iff_toInt_lt] at h
theorem own_hi (hv : Int64) (k : Int64) (h : ¬ ((lcmpW hv k) < (0 : Int32))) : k.toInt ≤ hv.toInt := by rw [lw_lt, Int64.lt_iff_toInt_lt] at h; omega
theorem own_A (hv : Int64) (c : Int32) (hC : c.toInt = if hv.toInt < 17563648 then 2 else if 2164260864 ≤ hv.toInt then 8192 else (hv.toInt - 16777216) / 262144) (h : (lcmpW hv (17563648 : Int64)) < (0 : Int32)) : c = (2 : Int32) := by
  have a : hv.toInt < 17563648 := own_lo _ _ h
  rw [if_pos a] at hC
  exact Int32.toInt_inj.mp hC
theorem own_B (hv : Int64) (c : Int32) (hC : c.toInt = if hv.toInt < 17563648 then 2 else if 2164260864 ≤ hv.toInt then 8192 else (hv.toInt - 16777216) / 262144) (h : ¬ ((lcmpW hv (17563648 : Int64)) < (0 : Int32))) (h2 : ¬ ((lcmpW hv (2164260864 : Int64)) < (0 : Int32))) : c = (8192 : Int32) := by
  have a : 17563648 ≤ hv.toInt := own_hi _ _ h
  have b : 2164260864 ≤ hv.toInt := own_hi _ _ h2
  rw [if_neg (by omega), if_pos b] at hC
  exact Int32.toInt_inj.mp hC
theorem own_C (hv : Int64) (c : Int32) (hC : c.toInt = if hv.toInt < 17563648 then 2 else if 2164260864 ≤ hv.toInt then 8192 else (hv.toInt - 16777216) / 262144) (h : ¬ ((lcmpW hv (17563648 : Int64)) < (0 : Int32))) (h2 : (lcmpW hv (2164260864 : Int64)) < (0 : Int32)) : ¬ (c < (3 : Int32)) ∧ ¬ ((8191 : Int32) < c) ∧ ¬ ((0 : Int32) < (lcmpW ((c.toInt64) * (262144 : Int64)) (hv - (16777216 : Int64)))) ∧ (lcmpW ((hv - (16777216 : Int64)) - ((c.toInt64) * (262144 : Int64))) (262144 : Int64)) < (0 : Int32) := by
  have a : 17563648 ≤ hv.toInt := own_hi _ _ h
  have b : hv.toInt < 2164260864 := own_lo _ _ h2
  rw [if_neg (by omega), if_neg (by omega)] at hC
  rw [lw_gt, lw_lt, Int64.lt_iff_toInt_lt, Int64.lt_iff_toInt_lt, Int32.lt_iff_toInt_lt, Int32.lt_iff_toInt_lt]
  have e3 : (3 : Int32).toInt = 3 := by decide
  have e4 : (8191 : Int32).toInt = 8191 := by decide
  have e5 : (262144 : Int64).toInt = 262144 := by decide
  have e6 : (16777216 : Int64).toInt = 16777216 := by decide
  have s := c_lsub hv 16777216
  have r1 := rng64 (hv - 16777216)
  have k := c_i2l c
  have m := c_lmul c.toInt64 262144
  rw [e5] at m
  have r2 := rng64 (c.toInt64 * 262144)
  have s2 := c_lsub (hv - 16777216) (c.toInt64 * 262144)
  have r3 := rng64 (hv - 16777216 - c.toInt64 * 262144)
  omega
theorem own_m63 (q : Int64) : 0 ≤ (q &&& (9223372036854775807 : Int64)).toInt := by
  rw [c_maskL q 9223372036854775807 63 (by decide) (by decide)]; omega
theorem own_m32 (q : Int64) : 0 ≤ (q &&& (4294967295 : Int64)).toInt := by
  rw [c_maskL q 4294967295 32 (by decide) (by decide)]; omega
theorem own_m28 (q : Int64) : 0 ≤ (q &&& (268435455 : Int64)).toInt := by
  rw [c_maskL q 268435455 28 (by decide) (by decide)]; omega
theorem own_m22 (q : Int64) : 0 ≤ ((15728640 : Int64) + (q &&& (4194303 : Int64))).toInt := by
  have a := c_maskL q 4194303 22 (by decide) (by decide)
  have s := c_ladd 15728640 (q &&& 4194303)
  have r := rng64 (15728640 + (q &&& 4194303))
  have e : (15728640 : Int64).toInt = 15728640 := by decide
  omega
theorem d2_0 : decode jdk_29_method_66_code 0 = .ok (.lload_n 0, 1) := by decide +kernel
theorem d2_1 : decode jdk_29_method_66_code 1 = .ok (.lload_n 2, 1) := by decide +kernel
theorem d2_2 : decode jdk_29_method_66_code 2 = .ok (.lcmp, 1) := by decide +kernel
theorem d2_3 : decode jdk_29_method_66_code 3 = .ok (.ifCond .lt 7, 3) := by decide +kernel
theorem d2_10 : decode jdk_29_method_66_code 10 = .ok (.lload_n 2, 1) := by decide +kernel
theorem d2_11 : decode jdk_29_method_66_code 11 = .ok (.lreturn, 1) := by decide +kernel
theorem ef_2 (m : MethodId) (x0 : Int64) (x1 : Int64) : entryFrame m #[(.long x0), (.long x1)] 4 = mkF m 0 #[.val (.long x0), .second, .val (.long x1), .second] [] := by first | (simp [entryFrame, mkF, argsToLocals, Value.category]; done) | rfl
def Q2 (Z : State) (q1 : Int64) (q2 : Int64) (h0 : Heap) (n0 : Nat) (v : Option Value) (h : Heap) (L : List Loc) : Prop := v = some (.long (own_max q1 q2)) ∧ Fr n0 L ∧ h = h0
set_option maxRecDepth 65536 in
set_option maxHeartbeats 40000000 in
theorem rm2a (l : Launch) (Z : State) (a0 : Array Value) (hw : ∀ d ∈ tables_1, d.before a0 Z = true) (ws : List Jvm.Cond) (q1 : Int64) (q2 : Int64) (h0 : Heap) (n0 : Nat) (Z0 : n0 ≤ h0.size) (hc3 : (lcmpW q1 q2) < (0 : Int32)) :
    MetFree l (⟨"java/lang/Math", "max", "(JJ)J"⟩ : MethodName) (head1 (Jvm.Cond.code (⟨"java/lang/Math", "max", "(JJ)J"⟩ : MethodName) jdk_29_method_66_code 4 (some .long) :: ws) ({ frames := 0, cells := 0, slots := 0, locals := 0 } : Room)) (fun a U => a = #[(.long q1), (.long q2)] ∧ Z.Warmed39 U.vm ∧ U.heap = h0) (fun _ _ _ _ _ => True) (fun _ U o U' => ∃ v L, o = .returned v ∧ Q2 Z q1 q2 h0 n0 v U'.heap L ∧ FrameEnd U o U' L ({ frames := 0, cells := 0, slots := 0, locals := 0 } : Room).cells ({ frames := 0, cells := 0, slots := 0, locals := 0 } : Room).slots) := by
  refine MetFree.of_bodySF (Jvm.Free.JP.mathPlain rfl (by decide +kernel)) hisR ?_
  intro p e s m args below meth c s₁ Bd hml0 hP hK
  obtain ⟨rfl, hZ, hh⟩ := hP
  have hx := Bd.exec
  have hby := Bd.bytes
  have hml : c.maxLocals = 4 := hml0
  have hown : s.vm.findClass "java/lang/Math" = some m.cls := findClass_of_methodNamed Bd.named
  have hnm := (name_of_methodNamed Bd.named Bd.method).1
  have X0 : Stand p l e ({ frames := 0, cells := 0, slots := 0, locals := 0 } : Room) s m #[(.long q1), (.long q2)] below meth c s₁ [] 0 0 := Stand.of_body Bd
  have e0 : s₁.heap = h0 := by rw [← hh, Bd.state]; rfl
  have N0 := Fr.nil n0
  have pre0 : ∀ t, Steps p.tables e below (s₁.setTop (mkF m 0 #[.val (.long q1), .second, .val (.long q2), .second] [])) t → Steps p.tables e below (s₁.setTop (entryFrame m #[(.long q1), (.long q2)] 4)) t := fun t k => castTop (ef_2 m q1 q2) k
  -- 3. LAWS

  obtain ⟨fs, hr, hrun, hended, hW, hsame⟩ := X0.leave (v := some (.long q2)) (fun h => by rw [Bd.returns] at h; cases h)
  refine ⟨_, _, pre0 _ ?_, hrun, hended, _, _, rfl, ?_, ⟨_, rfl⟩, hW, hsame.mono (by decide) (by decide)⟩
  -- 4. STEPS
  · show Steps p.tables e below (s₁.setTop (mkF m 0 #[.val (.long q1), .second, .val (.long q2), .second] [])) _
    refine XS.lloadN X0.here hx rfl (hb hby d2_0) rfl ?_
    show Steps p.tables e below (s₁.setTop (mkF m 1 #[.val (.long q1), .second, .val (.long q2), .second] [(.long q1)])) _
    refine XS.lloadN X0.here hx rfl (hb hby d2_1) rfl ?_
    show Steps p.tables e below (s₁.setTop (mkF m 2 #[.val (.long q1), .second, .val (.long q2), .second] [(.long q2), (.long q1)])) _
    refine XS.lcmp X0.here hx rfl (hb hby d2_2) rfl ?_
    show Steps p.tables e below (s₁.setTop (mkF m 3 #[.val (.long q1), .second, .val (.long q2), .second] [(.int (lcmpW q1 q2))])) _
    refine XS.ifYes X0.here hx rfl (pc0 := 3) (pc' := 10) rfl (hb hby d2_3) rfl ((if0 _ _).trans (tlt hc3).1) (by decide) (by decide) ?_
    show Steps p.tables e below (s₁.setTop (mkF m 10 #[.val (.long q1), .second, .val (.long q2), .second] [])) _
    refine XS.lloadN X0.here hx rfl (hb hby d2_10) rfl ?_
    show Steps p.tables e below (s₁.setTop (mkF m 11 #[.val (.long q1), .second, .val (.long q2), .second] [(.long q2)])) _
    jvm_step X0.here [X0.here.top, hx, (hb hby d2_11), X0.method', Bd.returns, narrow]
    first | (intro acts; rw [hr _ acts rfl rfl rfl]) | rw [hr _ _ rfl rfl rfl]
    exact Steps.refl _
  · show Q2 Z q1 q2 h0 n0 _ s₁.heap _
    rw [e0]
    exact ⟨by rw [own_max, if_pos hc3], N0, rfl⟩
theorem d2_6 : decode jdk_29_method_66_code 6 = .ok (.lload_n 0, 1) := by decide +kernel
theorem d2_7 : decode jdk_29_method_66_code 7 = .ok (.goto 4, 3) := by decide +kernel
set_option maxRecDepth 65536 in
set_option maxHeartbeats 40000000 in
theorem rm2b (l : Launch) (Z : State) (a0 : Array Value) (hw : ∀ d ∈ tables_1, d.before a0 Z = true) (ws : List Jvm.Cond) (q1 : Int64) (q2 : Int64) (h0 : Heap) (n0 : Nat) (Z0 : n0 ≤ h0.size) (hc3 : ¬ ((lcmpW q1 q2) < (0 : Int32))) :
    MetFree l (⟨"java/lang/Math", "max", "(JJ)J"⟩ : MethodName) (head1 (Jvm.Cond.code (⟨"java/lang/Math", "max", "(JJ)J"⟩ : MethodName) jdk_29_method_66_code 4 (some .long) :: ws) ({ frames := 0, cells := 0, slots := 0, locals := 0 } : Room)) (fun a U => a = #[(.long q1), (.long q2)] ∧ Z.Warmed39 U.vm ∧ U.heap = h0) (fun _ _ _ _ _ => True) (fun _ U o U' => ∃ v L, o = .returned v ∧ Q2 Z q1 q2 h0 n0 v U'.heap L ∧ FrameEnd U o U' L ({ frames := 0, cells := 0, slots := 0, locals := 0 } : Room).cells ({ frames := 0, cells := 0, slots := 0, locals := 0 } : Room).slots) := by
  refine MetFree.of_bodySF (Jvm.Free.JP.mathPlain rfl (by decide +kernel)) hisR ?_
  intro p e s m args below meth c s₁ Bd hml0 hP hK
  obtain ⟨rfl, hZ, hh⟩ := hP
  have hx := Bd.exec
  have hby := Bd.bytes
  have hml : c.maxLocals = 4 := hml0
  have hown : s.vm.findClass "java/lang/Math" = some m.cls := findClass_of_methodNamed Bd.named
  have hnm := (name_of_methodNamed Bd.named Bd.method).1
  have X0 : Stand p l e ({ frames := 0, cells := 0, slots := 0, locals := 0 } : Room) s m #[(.long q1), (.long q2)] below meth c s₁ [] 0 0 := Stand.of_body Bd
  have e0 : s₁.heap = h0 := by rw [← hh, Bd.state]; rfl
  have N0 := Fr.nil n0
  have pre0 : ∀ t, Steps p.tables e below (s₁.setTop (mkF m 0 #[.val (.long q1), .second, .val (.long q2), .second] [])) t → Steps p.tables e below (s₁.setTop (entryFrame m #[(.long q1), (.long q2)] 4)) t := fun t k => castTop (ef_2 m q1 q2) k
  -- 3. LAWS

  obtain ⟨fs, hr, hrun, hended, hW, hsame⟩ := X0.leave (v := some (.long q1)) (fun h => by rw [Bd.returns] at h; cases h)
  refine ⟨_, _, pre0 _ ?_, hrun, hended, _, _, rfl, ?_, ⟨_, rfl⟩, hW, hsame.mono (by decide) (by decide)⟩
  -- 4. STEPS
  · show Steps p.tables e below (s₁.setTop (mkF m 0 #[.val (.long q1), .second, .val (.long q2), .second] [])) _
    refine XS.lloadN X0.here hx rfl (hb hby d2_0) rfl ?_
    show Steps p.tables e below (s₁.setTop (mkF m 1 #[.val (.long q1), .second, .val (.long q2), .second] [(.long q1)])) _
    refine XS.lloadN X0.here hx rfl (hb hby d2_1) rfl ?_
    show Steps p.tables e below (s₁.setTop (mkF m 2 #[.val (.long q1), .second, .val (.long q2), .second] [(.long q2), (.long q1)])) _
    refine XS.lcmp X0.here hx rfl (hb hby d2_2) rfl ?_
    show Steps p.tables e below (s₁.setTop (mkF m 3 #[.val (.long q1), .second, .val (.long q2), .second] [(.int (lcmpW q1 q2))])) _
    refine XS.ifNo X0.here hx rfl (hb hby d2_3) rfl ((if0 _ _).trans (flt hc3).1) ?_
    show Steps p.tables e below (s₁.setTop (mkF m 6 #[.val (.long q1), .second, .val (.long q2), .second] [])) _
    refine XS.lloadN X0.here hx rfl (hb hby d2_6) rfl ?_
    show Steps p.tables e below (s₁.setTop (mkF m 7 #[.val (.long q1), .second, .val (.long q2), .second] [(.long q1)])) _
    refine XS.goto X0.here hx rfl (pc0 := 7) (pc' := 11) rfl (hb hby d2_7) (by decide) (by decide) ?_
    show Steps p.tables e below (s₁.setTop (mkF m 11 #[.val (.long q1), .second, .val (.long q2), .second] [(.long q1)])) _
    jvm_step X0.here [X0.here.top, hx, (hb hby d2_11), X0.method', Bd.returns, narrow]
    first | (intro acts; rw [hr _ acts rfl rfl rfl]) | rw [hr _ _ rfl rfl rfl]
    exact Steps.refl _
  · show Q2 Z q1 q2 h0 n0 _ s₁.heap _
    rw [e0]
    exact ⟨by rw [own_max, if_neg hc3], N0, rfl⟩
theorem rm2 (l : Launch) (Z : State) (a0 : Array Value) (hw : ∀ d ∈ tables_1, d.before a0 Z = true) (ws : List Jvm.Cond) (q1 : Int64) (q2 : Int64) (h0 : Heap) (n0 : Nat) (Z0 : n0 ≤ h0.size) :
    MetFree l (⟨"java/lang/Math", "max", "(JJ)J"⟩ : MethodName) (head1 (Jvm.Cond.code (⟨"java/lang/Math", "max", "(JJ)J"⟩ : MethodName) jdk_29_method_66_code 4 (some .long) :: ws) ({ frames := 0, cells := 0, slots := 0, locals := 0 } : Room)) (fun a U => a = #[(.long q1), (.long q2)] ∧ Z.Warmed39 U.vm ∧ U.heap = h0) (fun _ _ _ _ _ => True) (fun _ U o U' => ∃ v L, o = .returned v ∧ Q2 Z q1 q2 h0 n0 v U'.heap L ∧ FrameEnd U o U' L ({ frames := 0, cells := 0, slots := 0, locals := 0 } : Room).cells ({ frames := 0, cells := 0, slots := 0, locals := 0 } : Room).slots) := by
  by_cases hc3 : (lcmpW q1 q2) < (0 : Int32)
  · exact rm2a l Z a0 hw ws q1 q2 h0 n0 Z0 hc3
  · exact rm2b l Z a0 hw ws q1 q2 h0 n0 Z0 hc3
theorem d3_0 : decode jdk_29_method_70_code 0 = .ok (.lload_n 0, 1) := by decide +kernel
theorem d3_1 : decode jdk_29_method_70_code 1 = .ok (.lload_n 2, 1) := by decide +kernel
theorem d3_2 : decode jdk_29_method_70_code 2 = .ok (.lcmp, 1) := by decide +kernel
theorem d3_3 : decode jdk_29_method_70_code 3 = .ok (.ifCond .gt 7, 3) := by decide +kernel
theorem d3_10 : decode jdk_29_method_70_code 10 = .ok (.lload_n 2, 1) := by decide +kernel
theorem d3_11 : decode jdk_29_method_70_code 11 = .ok (.lreturn, 1) := by decide +kernel
theorem ef_3 (m : MethodId) (x0 : Int64) (x1 : Int64) : entryFrame m #[(.long x0), (.long x1)] 4 = mkF m 0 #[.val (.long x0), .second, .val (.long x1), .second] [] := by first | (simp [entryFrame, mkF, argsToLocals, Value.category]; done) | rfl
def Q3 (Z : State) (q1 : Int64) (q2 : Int64) (h0 : Heap) (n0 : Nat) (v : Option Value) (h : Heap) (L : List Loc) : Prop := v = some (.long (own_min q1 q2)) ∧ Fr n0 L ∧ h = h0
set_option maxRecDepth 65536 in
set_option maxHeartbeats 40000000 in
theorem rm3a (l : Launch) (Z : State) (a0 : Array Value) (hw : ∀ d ∈ tables_1, d.before a0 Z = true) (ws : List Jvm.Cond) (q1 : Int64) (q2 : Int64) (h0 : Heap) (n0 : Nat) (Z0 : n0 ≤ h0.size) (hc3 : (0 : Int32) < (lcmpW q1 q2)) :
    MetFree l (⟨"java/lang/Math", "min", "(JJ)J"⟩ : MethodName) (head1 (Jvm.Cond.code (⟨"java/lang/Math", "min", "(JJ)J"⟩ : MethodName) jdk_29_method_70_code 4 (some .long) :: ws) ({ frames := 0, cells := 0, slots := 0, locals := 0 } : Room)) (fun a U => a = #[(.long q1), (.long q2)] ∧ Z.Warmed39 U.vm ∧ U.heap = h0) (fun _ _ _ _ _ => True) (fun _ U o U' => ∃ v L, o = .returned v ∧ Q3 Z q1 q2 h0 n0 v U'.heap L ∧ FrameEnd U o U' L ({ frames := 0, cells := 0, slots := 0, locals := 0 } : Room).cells ({ frames := 0, cells := 0, slots := 0, locals := 0 } : Room).slots) := by
  refine MetFree.of_bodySF (Jvm.Free.JP.mathPlain rfl (by decide +kernel)) hisR ?_
  intro p e s m args below meth c s₁ Bd hml0 hP hK
  obtain ⟨rfl, hZ, hh⟩ := hP
  have hx := Bd.exec
  have hby := Bd.bytes
  have hml : c.maxLocals = 4 := hml0
  have hown : s.vm.findClass "java/lang/Math" = some m.cls := findClass_of_methodNamed Bd.named
  have hnm := (name_of_methodNamed Bd.named Bd.method).1
  have X0 : Stand p l e ({ frames := 0, cells := 0, slots := 0, locals := 0 } : Room) s m #[(.long q1), (.long q2)] below meth c s₁ [] 0 0 := Stand.of_body Bd
  have e0 : s₁.heap = h0 := by rw [← hh, Bd.state]; rfl
  have N0 := Fr.nil n0
  have pre0 : ∀ t, Steps p.tables e below (s₁.setTop (mkF m 0 #[.val (.long q1), .second, .val (.long q2), .second] [])) t → Steps p.tables e below (s₁.setTop (entryFrame m #[(.long q1), (.long q2)] 4)) t := fun t k => castTop (ef_3 m q1 q2) k
  -- 3. LAWS

  obtain ⟨fs, hr, hrun, hended, hW, hsame⟩ := X0.leave (v := some (.long q2)) (fun h => by rw [Bd.returns] at h; cases h)
  refine ⟨_, _, pre0 _ ?_, hrun, hended, _, _, rfl, ?_, ⟨_, rfl⟩, hW, hsame.mono (by decide) (by decide)⟩
  -- 4. STEPS
  · show Steps p.tables e below (s₁.setTop (mkF m 0 #[.val (.long q1), .second, .val (.long q2), .second] [])) _
    refine XS.lloadN X0.here hx rfl (hb hby d3_0) rfl ?_
    show Steps p.tables e below (s₁.setTop (mkF m 1 #[.val (.long q1), .second, .val (.long q2), .second] [(.long q1)])) _
    refine XS.lloadN X0.here hx rfl (hb hby d3_1) rfl ?_
    show Steps p.tables e below (s₁.setTop (mkF m 2 #[.val (.long q1), .second, .val (.long q2), .second] [(.long q2), (.long q1)])) _
    refine XS.lcmp X0.here hx rfl (hb hby d3_2) rfl ?_
    show Steps p.tables e below (s₁.setTop (mkF m 3 #[.val (.long q1), .second, .val (.long q2), .second] [(.int (lcmpW q1 q2))])) _
    refine XS.ifYes X0.here hx rfl (pc0 := 3) (pc' := 10) rfl (hb hby d3_3) rfl ((if0 _ _).trans (tlt hc3).2.2.1) (by decide) (by decide) ?_
    show Steps p.tables e below (s₁.setTop (mkF m 10 #[.val (.long q1), .second, .val (.long q2), .second] [])) _
    refine XS.lloadN X0.here hx rfl (hb hby d3_10) rfl ?_
    show Steps p.tables e below (s₁.setTop (mkF m 11 #[.val (.long q1), .second, .val (.long q2), .second] [(.long q2)])) _
    jvm_step X0.here [X0.here.top, hx, (hb hby d3_11), X0.method', Bd.returns, narrow]
    first | (intro acts; rw [hr _ acts rfl rfl rfl]) | rw [hr _ _ rfl rfl rfl]
    exact Steps.refl _
  · show Q3 Z q1 q2 h0 n0 _ s₁.heap _
    rw [e0]
    exact ⟨by rw [own_min, if_pos hc3], N0, rfl⟩
theorem d3_6 : decode jdk_29_method_70_code 6 = .ok (.lload_n 0, 1) := by decide +kernel
theorem d3_7 : decode jdk_29_method_70_code 7 = .ok (.goto 4, 3) := by decide +kernel
set_option maxRecDepth 65536 in
set_option maxHeartbeats 40000000 in
theorem rm3b (l : Launch) (Z : State) (a0 : Array Value) (hw : ∀ d ∈ tables_1, d.before a0 Z = true) (ws : List Jvm.Cond) (q1 : Int64) (q2 : Int64) (h0 : Heap) (n0 : Nat) (Z0 : n0 ≤ h0.size) (hc3 : ¬ ((0 : Int32) < (lcmpW q1 q2))) :
    MetFree l (⟨"java/lang/Math", "min", "(JJ)J"⟩ : MethodName) (head1 (Jvm.Cond.code (⟨"java/lang/Math", "min", "(JJ)J"⟩ : MethodName) jdk_29_method_70_code 4 (some .long) :: ws) ({ frames := 0, cells := 0, slots := 0, locals := 0 } : Room)) (fun a U => a = #[(.long q1), (.long q2)] ∧ Z.Warmed39 U.vm ∧ U.heap = h0) (fun _ _ _ _ _ => True) (fun _ U o U' => ∃ v L, o = .returned v ∧ Q3 Z q1 q2 h0 n0 v U'.heap L ∧ FrameEnd U o U' L ({ frames := 0, cells := 0, slots := 0, locals := 0 } : Room).cells ({ frames := 0, cells := 0, slots := 0, locals := 0 } : Room).slots) := by
  refine MetFree.of_bodySF (Jvm.Free.JP.mathPlain rfl (by decide +kernel)) hisR ?_
  intro p e s m args below meth c s₁ Bd hml0 hP hK
  obtain ⟨rfl, hZ, hh⟩ := hP
  have hx := Bd.exec
  have hby := Bd.bytes
  have hml : c.maxLocals = 4 := hml0
  have hown : s.vm.findClass "java/lang/Math" = some m.cls := findClass_of_methodNamed Bd.named
  have hnm := (name_of_methodNamed Bd.named Bd.method).1
  have X0 : Stand p l e ({ frames := 0, cells := 0, slots := 0, locals := 0 } : Room) s m #[(.long q1), (.long q2)] below meth c s₁ [] 0 0 := Stand.of_body Bd
  have e0 : s₁.heap = h0 := by rw [← hh, Bd.state]; rfl
  have N0 := Fr.nil n0
  have pre0 : ∀ t, Steps p.tables e below (s₁.setTop (mkF m 0 #[.val (.long q1), .second, .val (.long q2), .second] [])) t → Steps p.tables e below (s₁.setTop (entryFrame m #[(.long q1), (.long q2)] 4)) t := fun t k => castTop (ef_3 m q1 q2) k
  -- 3. LAWS

  obtain ⟨fs, hr, hrun, hended, hW, hsame⟩ := X0.leave (v := some (.long q1)) (fun h => by rw [Bd.returns] at h; cases h)
  refine ⟨_, _, pre0 _ ?_, hrun, hended, _, _, rfl, ?_, ⟨_, rfl⟩, hW, hsame.mono (by decide) (by decide)⟩
  -- 4. STEPS
  · show Steps p.tables e below (s₁.setTop (mkF m 0 #[.val (.long q1), .second, .val (.long q2), .second] [])) _
    refine XS.lloadN X0.here hx rfl (hb hby d3_0) rfl ?_
    show Steps p.tables e below (s₁.setTop (mkF m 1 #[.val (.long q1), .second, .val (.long q2), .second] [(.long q1)])) _
    refine XS.lloadN X0.here hx rfl (hb hby d3_1) rfl ?_
    show Steps p.tables e below (s₁.setTop (mkF m 2 #[.val (.long q1), .second, .val (.long q2), .second] [(.long q2), (.long q1)])) _
    refine XS.lcmp X0.here hx rfl (hb hby d3_2) rfl ?_
    show Steps p.tables e below (s₁.setTop (mkF m 3 #[.val (.long q1), .second, .val (.long q2), .second] [(.int (lcmpW q1 q2))])) _
    refine XS.ifNo X0.here hx rfl (hb hby d3_3) rfl ((if0 _ _).trans (flt hc3).2.2.1) ?_
    show Steps p.tables e below (s₁.setTop (mkF m 6 #[.val (.long q1), .second, .val (.long q2), .second] [])) _
    refine XS.lloadN X0.here hx rfl (hb hby d3_6) rfl ?_
    show Steps p.tables e below (s₁.setTop (mkF m 7 #[.val (.long q1), .second, .val (.long q2), .second] [(.long q1)])) _
    refine XS.goto X0.here hx rfl (pc0 := 7) (pc' := 11) rfl (hb hby d3_7) (by decide) (by decide) ?_
    show Steps p.tables e below (s₁.setTop (mkF m 11 #[.val (.long q1), .second, .val (.long q2), .second] [(.long q1)])) _
    jvm_step X0.here [X0.here.top, hx, (hb hby d3_11), X0.method', Bd.returns, narrow]
    first | (intro acts; rw [hr _ acts rfl rfl rfl]) | rw [hr _ _ rfl rfl rfl]
    exact Steps.refl _
  · show Q3 Z q1 q2 h0 n0 _ s₁.heap _
    rw [e0]
    exact ⟨by rw [own_min, if_neg hc3], N0, rfl⟩
theorem rm3 (l : Launch) (Z : State) (a0 : Array Value) (hw : ∀ d ∈ tables_1, d.before a0 Z = true) (ws : List Jvm.Cond) (q1 : Int64) (q2 : Int64) (h0 : Heap) (n0 : Nat) (Z0 : n0 ≤ h0.size) :
    MetFree l (⟨"java/lang/Math", "min", "(JJ)J"⟩ : MethodName) (head1 (Jvm.Cond.code (⟨"java/lang/Math", "min", "(JJ)J"⟩ : MethodName) jdk_29_method_70_code 4 (some .long) :: ws) ({ frames := 0, cells := 0, slots := 0, locals := 0 } : Room)) (fun a U => a = #[(.long q1), (.long q2)] ∧ Z.Warmed39 U.vm ∧ U.heap = h0) (fun _ _ _ _ _ => True) (fun _ U o U' => ∃ v L, o = .returned v ∧ Q3 Z q1 q2 h0 n0 v U'.heap L ∧ FrameEnd U o U' L ({ frames := 0, cells := 0, slots := 0, locals := 0 } : Room).cells ({ frames := 0, cells := 0, slots := 0, locals := 0 } : Room).slots) := by
  by_cases hc3 : (0 : Int32) < (lcmpW q1 q2)
  · exact rm3a l Z a0 hw ws q1 q2 h0 n0 Z0 hc3
  · exact rm3b l Z a0 hw ws q1 q2 h0 n0 Z0 hc3
theorem d5_0 : decode jdk_30_method_1_code 0 = .ok (.aload_n 0, 1) := by decide +kernel
theorem d5_1 : decode jdk_30_method_1_code 1 = .ok (.invokespecial 1, 3) := by decide +kernel
theorem d5_4 : decode jdk_30_method_1_code 4 = .ok (.return_, 1) := by decide +kernel
theorem pn_5 : plainName "java/lang/Record" = true := by first | (simp [plainName, overriddenIn]; done) | decide +kernel
theorem ef_5 (m : MethodId) (x0 : Addr) : entryFrame m #[(.ref x0)] 1 = mkF m 0 #[.val (.ref x0)] [] := by first | (simp [entryFrame, mkF, argsToLocals, Value.category]; done) | rfl
def Q5 (Z : State) (a1 : Addr) (h0 : Heap) (n0 : Nat) (v : Option Value) (h : Heap) (L : List Loc) : Prop := v = none ∧ Fr n0 L ∧ h = h0
set_option maxRecDepth 65536 in
set_option maxHeartbeats 40000000 in
theorem rm5 (l : Launch) (Z : State) (a0 : Array Value) (hw : ∀ d ∈ tables_1, d.before a0 Z = true) (ws : List Jvm.Cond) (a1 : Addr) (h0 : Heap) (n0 : Nat) (Z0 : n0 ≤ h0.size) :
    MetFree l (⟨"java/lang/Record", "<init>", "()V"⟩ : MethodName) (head1 (Jvm.Cond.code (⟨"java/lang/Record", "<init>", "()V"⟩ : MethodName) jdk_30_method_1_code 1 none :: ws) ({ frames := 1, cells := 0, slots := 0, locals := 12 } : Room)) (fun a U => a = #[(.ref a1)] ∧ Z.Warmed39 U.vm ∧ U.heap = h0) (fun _ _ _ _ _ => True) (fun _ U o U' => ∃ v L, o = .returned v ∧ Q5 Z a1 h0 n0 v U'.heap L ∧ FrameEnd U o U' L ({ frames := 1, cells := 0, slots := 0, locals := 12 } : Room).cells ({ frames := 1, cells := 0, slots := 0, locals := 12 } : Room).slots) := by
  refine MetFree.of_bodySF (plainFor_of_name pn_5) hisR ?_
  intro p e s m args below meth c s₁ Bd hml0 hP hK
  obtain ⟨rfl, hZ, hh⟩ := hP
  have hx := Bd.exec
  have hby := Bd.bytes
  have hml : c.maxLocals = 1 := hml0
  have hown : s.vm.findClass "java/lang/Record" = some m.cls := findClass_of_methodNamed Bd.named
  have hnm := (name_of_methodNamed Bd.named Bd.method).1
  have X0 : Stand p l e ({ frames := 1, cells := 0, slots := 0, locals := 12 } : Room) s m #[(.ref a1)] below meth c s₁ [] 0 0 := Stand.of_body Bd
  have e0 : s₁.heap = h0 := by rw [← hh, Bd.state]; rfl
  have N0 := Fr.nil n0
  have pre0 : ∀ t, Steps p.tables e below (s₁.setTop (mkF m 0 #[.val (.ref a1)] [])) t → Steps p.tables e below (s₁.setTop (entryFrame m #[(.ref a1)] 1)) t := fun t k => castTop (ef_5 m a1) k
  -- 3. LAWS
  obtain ⟨T2, X2, e2, st2⟩ := initO X0 hx hZ hown (hw _ (List.mem_of_getElem? (i := 28) rfl)) (hw _ (List.mem_of_getElem? (i := 29) rfl)) (hw _ (List.mem_of_getElem? (i := 30) rfl)) e0 (g := (mkF m 1 #[.val (.ref a1)] [(.ref a1)])) rfl (by rw [hml]; rfl) rfl (hb hby d5_1) (by decide) (W := 0) (by show 2 * 0 + _ ≤ _; exact Nat.le_of_eq rfl) (by decide)
  obtain ⟨fs, hr, hrun, hended, hW, hsame⟩ := X2.leave (v := none) (fun _ => rfl)
  refine ⟨_, _, pre0 _ ?_, hrun, hended, _, _, rfl, ?_, ⟨_, rfl⟩, hW, hsame.mono (by decide) (by decide)⟩
  -- 4. STEPS
  · show Steps p.tables e below (s₁.setTop (mkF m 0 #[.val (.ref a1)] [])) _
    refine XS.aloadN X0.here hx rfl (hb hby d5_0) rfl rfl ?_
    show Steps p.tables e below (s₁.setTop (mkF m 1 #[.val (.ref a1)] [(.ref a1)])) _
    refine st2 _ ?_
    show Steps p.tables e below (T2.setTop (mkF m 4 #[.val (.ref a1)] [])) _
    exact X2.returnOut hx Bd.returns (hb hby d5_4) hr
  · show Q5 Z a1 h0 n0 _ T2.heap _
    rw [e2]
    exact ⟨rfl, N0, rfl⟩
theorem d4_0 : decode prog_1_method_1_code 0 = .ok (.aload_n 0, 1) := by decide +kernel
theorem d4_1 : decode prog_1_method_1_code 1 = .ok (.invokespecial 1, 3) := by decide +kernel
theorem d4_4 : decode prog_1_method_1_code 4 = .ok (.aload_n 0, 1) := by decide +kernel
theorem d4_5 : decode prog_1_method_1_code 5 = .ok (.iload_n 1, 1) := by decide +kernel
theorem d4_6 : decode prog_1_method_1_code 6 = .ok (.putfield 7, 3) := by decide +kernel
theorem d4_9 : decode prog_1_method_1_code 9 = .ok (.aload_n 0, 1) := by decide +kernel
theorem d4_10 : decode prog_1_method_1_code 10 = .ok (.iload_n 2, 1) := by decide +kernel
theorem d4_11 : decode prog_1_method_1_code 11 = .ok (.putfield 13, 3) := by decide +kernel
theorem d4_14 : decode prog_1_method_1_code 14 = .ok (.aload_n 0, 1) := by decide +kernel
theorem d4_15 : decode prog_1_method_1_code 15 = .ok (.lload_n 3, 1) := by decide +kernel
theorem d4_16 : decode prog_1_method_1_code 16 = .ok (.putfield 16, 3) := by decide +kernel
theorem d4_19 : decode prog_1_method_1_code 19 = .ok (.aload_n 0, 1) := by decide +kernel
theorem d4_20 : decode prog_1_method_1_code 20 = .ok (.lload 5, 2) := by decide +kernel
theorem d4_22 : decode prog_1_method_1_code 22 = .ok (.putfield 20, 3) := by decide +kernel
theorem d4_25 : decode prog_1_method_1_code 25 = .ok (.return_, 1) := by decide +kernel
theorem pn_4 : plainName "com/example/metrogate/metrogate/ClientLimits" = true := by first | (simp [plainName, overriddenIn]; done) | decide +kernel
theorem pd_4_3 : parseMethodDescriptor "()V" = some ⟨[], none⟩ := by decide +kernel
theorem ef_4 (m : MethodId) (x0 : Addr) (x1 : Int32) (x2 : Int32) (x3 : Int64) (x4 : Int64) : entryFrame m #[(.ref x0), (.int x1), (.int x2), (.long x3), (.long x4)] 7 = mkF m 0 #[.val (.ref x0), .val (.int x1), .val (.int x2), .val (.long x3), .second, .val (.long x4), .second] [] := by first | (simp [entryFrame, mkF, argsToLocals, Value.category]; done) | rfl
def Q4 (Z : State) (a1 : Addr) (p2 : Int32) (p3 : Int32) (q4 : Int64) (q5 : Int64) (u_connections_a1 : Value) (u_arrivingBodies_a1 : Value) (u_sharedBodyBytes_a1 : Value) (u_addressBytes_a1 : Value) (h0 : Heap) (n0 : Nat) (v : Option Value) (h : Heap) (L : List Loc) : Prop := v = none ∧ Fr n0 L ∧ Keep h0 h [a1] ∧ Exa Z h a1 "com/example/metrogate/metrogate/ClientLimits" ∧ Fld Z h a1 "com/example/metrogate/metrogate/ClientLimits" "connections" "I" (.int p2) ∧ Fld Z h a1 "com/example/metrogate/metrogate/ClientLimits" "arrivingBodies" "I" (.int p3) ∧ Fld Z h a1 "com/example/metrogate/metrogate/ClientLimits" "sharedBodyBytes" "J" (.long q4) ∧ Fld Z h a1 "com/example/metrogate/metrogate/ClientLimits" "addressBytes" "J" (.long q5)
set_option maxRecDepth 65536 in
set_option maxHeartbeats 40000000 in
theorem rm4 (l : Launch) (Z : State) (a0 : Array Value) (hw : ∀ d ∈ tables_1, d.before a0 Z = true) (ws : List Jvm.Cond) (a1 : Addr) (p2 : Int32) (p3 : Int32) (q4 : Int64) (q5 : Int64) (u_connections_a1 : Value) (u_arrivingBodies_a1 : Value) (u_sharedBodyBytes_a1 : Value) (u_addressBytes_a1 : Value) (h0 : Heap) (n0 : Nat) (Z0 : n0 ≤ h0.size) (E_a1 : Exa Z h0 a1 "com/example/metrogate/metrogate/ClientLimits") (F_connections_a1 : Fld Z h0 a1 "com/example/metrogate/metrogate/ClientLimits" "connections" "I" u_connections_a1) (g_a1 : n0 ≤ a1) (F_arrivingBodies_a1 : Fld Z h0 a1 "com/example/metrogate/metrogate/ClientLimits" "arrivingBodies" "I" u_arrivingBodies_a1) (F_sharedBodyBytes_a1 : Fld Z h0 a1 "com/example/metrogate/metrogate/ClientLimits" "sharedBodyBytes" "J" u_sharedBodyBytes_a1) (F_addressBytes_a1 : Fld Z h0 a1 "com/example/metrogate/metrogate/ClientLimits" "addressBytes" "J" u_addressBytes_a1) :
    MetFree l (⟨"com/example/metrogate/metrogate/ClientLimits", "<init>", "(IIJJ)V"⟩ : MethodName) (head1 (Jvm.Cond.code (⟨"com/example/metrogate/metrogate/ClientLimits", "<init>", "(IIJJ)V"⟩ : MethodName) prog_1_method_1_code 7 none :: ws) ({ frames := 2, cells := 0, slots := 0, locals := 24 } : Room)) (fun a U => a = #[(.ref a1), (.int p2), (.int p3), (.long q4), (.long q5)] ∧ Z.Warmed39 U.vm ∧ U.heap = h0) (fun _ _ _ _ _ => True) (fun _ U o U' => ∃ v L, o = .returned v ∧ Q4 Z a1 p2 p3 q4 q5 u_connections_a1 u_arrivingBodies_a1 u_sharedBodyBytes_a1 u_addressBytes_a1 h0 n0 v U'.heap L ∧ FrameEnd U o U' L ({ frames := 2, cells := 0, slots := 0, locals := 24 } : Room).cells ({ frames := 2, cells := 0, slots := 0, locals := 24 } : Room).slots) := by
  refine MetFree.of_bodySF (plainFor_of_name pn_4) hisR ?_
  intro p e s m args below meth c s₁ Bd hml0 hP hK
  obtain ⟨rfl, hZ, hh⟩ := hP
  have hx := Bd.exec
  have hby := Bd.bytes
  have hml : c.maxLocals = 7 := hml0
  have hown : s.vm.findClass "com/example/metrogate/metrogate/ClientLimits" = some m.cls := findClass_of_methodNamed Bd.named
  have hnm := (name_of_methodNamed Bd.named Bd.method).1
  have X0 : Stand p l e ({ frames := 2, cells := 0, slots := 0, locals := 24 } : Room) s m #[(.ref a1), (.int p2), (.int p3), (.long q4), (.long q5)] below meth c s₁ [] 0 0 := Stand.of_body Bd
  have e0 : s₁.heap = h0 := by rw [← hh, Bd.state]; rfl
  have N0 := Fr.nil n0
  have pre0 : ∀ t, Steps p.tables e below (s₁.setTop (mkF m 0 #[.val (.ref a1), .val (.int p2), .val (.int p3), .val (.long q4), .second, .val (.long q5), .second] [])) t → Steps p.tables e below (s₁.setTop (entryFrame m #[(.ref a1), (.int p2), (.int p3), (.long q4), (.long q5)] 7)) t := fun t k => castTop (ef_4 m a1 p2 p3 q4 q5) k
  -- 3. LAWS
  -- pc 1: the constructor of java/lang/Record by its contract rm5
  obtain ⟨_, _, ⟨T6, L6, k6, n6⟩, -, X6, ⟨Lc6, hQ6, l6, y6, z6⟩, st6⟩ := X0.specialBack hx (y := (⟨"java/lang/Record", "<init>", "()V"⟩ : MethodName)) rfl hown (mvT hZ (hw _ (List.mem_of_getElem? (i := 23) rfl))) (mvT hZ (hw _ (List.mem_of_getElem? (i := 24) rfl))) (mvT hZ (hw _ (List.mem_of_getElem? (i := 27) rfl))) (by decide) (backOf (W := 0) (rm5 l Z a0 hw [] a1 h0 n0 Z0) hZ (hw _ (List.mem_of_getElem? (i := 27) rfl)) (hw _ (List.mem_of_getElem? (i := 26) rfl)) (by decide) (by decide)) (g := (mkF m 1 #[.val (.ref a1), .val (.int p2), .val (.int p3), .val (.long q4), .second, .val (.long q5), .second] [(.ref a1)])) rfl (by rw [hml]; rfl) (Steps.refl _) (a := a1) (argsL := []) (rest := []) (lenOf pd_4_3 rfl) rfl (by show 2 * 0 + _ ≤ _; exact Nat.le_of_eq rfl) (hb hby d4_1) (fun _ _ => ⟨rfl, e0, (by decide : 0 + 0 ≤ _), (by decide : 0 + 0 ≤ _)⟩)
  dsimp only [Pt.U, Pt.locs, Pt.cells, Pt.slots] at X6 l6 y6 z6 st6 hQ6
  subst l6 y6 z6
  obtain ⟨rfl, N6q, hh6⟩ := hQ6
  have K6 : Keep h0 T6.heap [] := by rw [hh6]; exact Keep.refl _ _
  have K6' : Keep h0 T6.heap [a1] := by rw [hh6]; exact Keep.refl _ _
  have N6 := Fr.app N0 N6q
  obtain ⟨T7, h7, X7, e7, W7, st7⟩ := putF X6 hx hZ hown (host := "") (Or.inl (hw _ (List.mem_of_getElem? (i := 31) rfl))) Via.refl rfl (F_connections_a1.keep K6 nin0) (E_a1.keep K6) (Or.inr ⟨(hw _ (List.mem_of_getElem? (i := 32) rfl)), rfl, hnm⟩) (hw _ (List.mem_of_getElem? (i := 17) rfl)) (ty := .int) (by decide) rfl rfl (g := (mkF m 6 #[.val (.ref a1), .val (.int p2), .val (.int p3), .val (.long q4), .second, .val (.long q5), .second] [(.int p2), (.ref a1)])) rfl rfl (hb hby d4_6)
  have Fw7 := (F_connections_a1.keep K6 nin0).same W7      -- the field now holds (.int p2)
  have K7 : Keep h0 h7 [a1] := K6'.wr W7 (Or.inl (List.mem_of_getElem? (i := 0) rfl))
  have N7 := Fr.snoc X7 N6 g_a1
  obtain ⟨T8, h8, X8, e8, W8, st8⟩ := putF X7 hx hZ hown (host := "") (Or.inl (hw _ (List.mem_of_getElem? (i := 33) rfl))) Via.refl e7 ((F_arrivingBodies_a1.keep K6 nin0).other W7 (Or.inr (slot_ne (Or.inr (hw _ (List.mem_of_getElem? (i := 34) rfl))) (Or.inr (hw _ (List.mem_of_getElem? (i := 32) rfl))) (by decide) (t := .int) (t' := .int) (by decide) (by decide)))) ((E_a1.keep K6).wr W7) (Or.inr ⟨(hw _ (List.mem_of_getElem? (i := 34) rfl)), rfl, hnm⟩) (hw _ (List.mem_of_getElem? (i := 17) rfl)) (ty := .int) (by decide) rfl rfl (g := (mkF m 11 #[.val (.ref a1), .val (.int p2), .val (.int p3), .val (.long q4), .second, .val (.long q5), .second] [(.int p3), (.ref a1)])) rfl rfl (hb hby d4_11)
  have Fw8 := ((F_arrivingBodies_a1.keep K6 nin0).other W7 (Or.inr (slot_ne (Or.inr (hw _ (List.mem_of_getElem? (i := 34) rfl))) (Or.inr (hw _ (List.mem_of_getElem? (i := 32) rfl))) (by decide) (t := .int) (t' := .int) (by decide) (by decide)))).same W8      -- the field now holds (.int p3)
  have K8 : Keep h0 h8 [a1] := K7.wr W8 (Or.inl (List.mem_of_getElem? (i := 0) rfl))
  have N8 := Fr.snoc X8 N7 g_a1
  obtain ⟨T9, h9, X9, e9, W9, st9⟩ := putF X8 hx hZ hown (host := "") (Or.inl (hw _ (List.mem_of_getElem? (i := 35) rfl))) Via.refl e8 (((F_sharedBodyBytes_a1.keep K6 nin0).other W7 (Or.inr (slot_ne (Or.inr (hw _ (List.mem_of_getElem? (i := 36) rfl))) (Or.inr (hw _ (List.mem_of_getElem? (i := 32) rfl))) (by decide) (t := .long) (t' := .int) (by decide) (by decide)))).other W8 (Or.inr (slot_ne (Or.inr (hw _ (List.mem_of_getElem? (i := 36) rfl))) (Or.inr (hw _ (List.mem_of_getElem? (i := 34) rfl))) (by decide) (t := .long) (t' := .int) (by decide) (by decide)))) (((E_a1.keep K6).wr W7).wr W8) (Or.inr ⟨(hw _ (List.mem_of_getElem? (i := 36) rfl)), rfl, hnm⟩) (hw _ (List.mem_of_getElem? (i := 17) rfl)) (ty := .long) (by decide) rfl rfl (g := (mkF m 16 #[.val (.ref a1), .val (.int p2), .val (.int p3), .val (.long q4), .second, .val (.long q5), .second] [(.long q4), (.ref a1)])) rfl rfl (hb hby d4_16)
  have Fw9 := (((F_sharedBodyBytes_a1.keep K6 nin0).other W7 (Or.inr (slot_ne (Or.inr (hw _ (List.mem_of_getElem? (i := 36) rfl))) (Or.inr (hw _ (List.mem_of_getElem? (i := 32) rfl))) (by decide) (t := .long) (t' := .int) (by decide) (by decide)))).other W8 (Or.inr (slot_ne (Or.inr (hw _ (List.mem_of_getElem? (i := 36) rfl))) (Or.inr (hw _ (List.mem_of_getElem? (i := 34) rfl))) (by decide) (t := .long) (t' := .int) (by decide) (by decide)))).same W9      -- the field now holds (.long q4)
  have K9 : Keep h0 h9 [a1] := K8.wr W9 (Or.inl (List.mem_of_getElem? (i := 0) rfl))
  have N9 := Fr.snoc X9 N8 g_a1
  obtain ⟨T10, h10, X10, e10, W10, st10⟩ := putF X9 hx hZ hown (host := "") (Or.inl (hw _ (List.mem_of_getElem? (i := 37) rfl))) Via.refl e9 ((((F_addressBytes_a1.keep K6 nin0).other W7 (Or.inr (slot_ne (Or.inr (hw _ (List.mem_of_getElem? (i := 38) rfl))) (Or.inr (hw _ (List.mem_of_getElem? (i := 32) rfl))) (by decide) (t := .long) (t' := .int) (by decide) (by decide)))).other W8 (Or.inr (slot_ne (Or.inr (hw _ (List.mem_of_getElem? (i := 38) rfl))) (Or.inr (hw _ (List.mem_of_getElem? (i := 34) rfl))) (by decide) (t := .long) (t' := .int) (by decide) (by decide)))).other W9 (Or.inr (slot_ne (Or.inr (hw _ (List.mem_of_getElem? (i := 38) rfl))) (Or.inr (hw _ (List.mem_of_getElem? (i := 36) rfl))) (by decide) (t := .long) (t' := .long) (by decide) (by decide)))) ((((E_a1.keep K6).wr W7).wr W8).wr W9) (Or.inr ⟨(hw _ (List.mem_of_getElem? (i := 38) rfl)), rfl, hnm⟩) (hw _ (List.mem_of_getElem? (i := 17) rfl)) (ty := .long) (by decide) rfl rfl (g := (mkF m 22 #[.val (.ref a1), .val (.int p2), .val (.int p3), .val (.long q4), .second, .val (.long q5), .second] [(.long q5), (.ref a1)])) rfl rfl (hb hby d4_22)
  have Fw10 := ((((F_addressBytes_a1.keep K6 nin0).other W7 (Or.inr (slot_ne (Or.inr (hw _ (List.mem_of_getElem? (i := 38) rfl))) (Or.inr (hw _ (List.mem_of_getElem? (i := 32) rfl))) (by decide) (t := .long) (t' := .int) (by decide) (by decide)))).other W8 (Or.inr (slot_ne (Or.inr (hw _ (List.mem_of_getElem? (i := 38) rfl))) (Or.inr (hw _ (List.mem_of_getElem? (i := 34) rfl))) (by decide) (t := .long) (t' := .int) (by decide) (by decide)))).other W9 (Or.inr (slot_ne (Or.inr (hw _ (List.mem_of_getElem? (i := 38) rfl))) (Or.inr (hw _ (List.mem_of_getElem? (i := 36) rfl))) (by decide) (t := .long) (t' := .long) (by decide) (by decide)))).same W10      -- the field now holds (.long q5)
  have K10 : Keep h0 h10 [a1] := K9.wr W10 (Or.inl (List.mem_of_getElem? (i := 0) rfl))
  have N10 := Fr.snoc X10 N9 g_a1
  obtain ⟨fs, hr, hrun, hended, hW, hsame⟩ := X10.leave (v := none) (fun _ => rfl)
  refine ⟨_, _, pre0 _ ?_, hrun, hended, _, _, rfl, ?_, ⟨_, rfl⟩, hW, hsame.mono (by decide) (by decide)⟩
  -- 4. STEPS
  · show Steps p.tables e below (s₁.setTop (mkF m 0 #[.val (.ref a1), .val (.int p2), .val (.int p3), .val (.long q4), .second, .val (.long q5), .second] [])) _
    refine XS.aloadN X0.here hx rfl (hb hby d4_0) rfl rfl ?_
    show Steps p.tables e below (s₁.setTop (mkF m 1 #[.val (.ref a1), .val (.int p2), .val (.int p3), .val (.long q4), .second, .val (.long q5), .second] [(.ref a1)])) _
    refine st6.trans ?_
    show Steps p.tables e below (T6.setTop (mkF m 4 #[.val (.ref a1), .val (.int p2), .val (.int p3), .val (.long q4), .second, .val (.long q5), .second] [])) _
    refine XS.aloadN X6.here hx rfl (hb hby d4_4) rfl rfl ?_
    show Steps p.tables e below (T6.setTop (mkF m 5 #[.val (.ref a1), .val (.int p2), .val (.int p3), .val (.long q4), .second, .val (.long q5), .second] [(.ref a1)])) _
    refine XS.iloadN X6.here hx rfl (hb hby d4_5) rfl ?_
    show Steps p.tables e below (T6.setTop (mkF m 6 #[.val (.ref a1), .val (.int p2), .val (.int p3), .val (.long q4), .second, .val (.long q5), .second] [(.int p2), (.ref a1)])) _
    refine st7 _ ?_
    show Steps p.tables e below (T7.setTop (mkF m 9 #[.val (.ref a1), .val (.int p2), .val (.int p3), .val (.long q4), .second, .val (.long q5), .second] [])) _
    refine XS.aloadN X7.here hx rfl (hb hby d4_9) rfl rfl ?_
    show Steps p.tables e below (T7.setTop (mkF m 10 #[.val (.ref a1), .val (.int p2), .val (.int p3), .val (.long q4), .second, .val (.long q5), .second] [(.ref a1)])) _
    refine XS.iloadN X7.here hx rfl (hb hby d4_10) rfl ?_
    show Steps p.tables e below (T7.setTop (mkF m 11 #[.val (.ref a1), .val (.int p2), .val (.int p3), .val (.long q4), .second, .val (.long q5), .second] [(.int p3), (.ref a1)])) _
    refine st8 _ ?_
    show Steps p.tables e below (T8.setTop (mkF m 14 #[.val (.ref a1), .val (.int p2), .val (.int p3), .val (.long q4), .second, .val (.long q5), .second] [])) _
    refine XS.aloadN X8.here hx rfl (hb hby d4_14) rfl rfl ?_
    show Steps p.tables e below (T8.setTop (mkF m 15 #[.val (.ref a1), .val (.int p2), .val (.int p3), .val (.long q4), .second, .val (.long q5), .second] [(.ref a1)])) _
    refine XS.lloadN X8.here hx rfl (hb hby d4_15) rfl ?_
    show Steps p.tables e below (T8.setTop (mkF m 16 #[.val (.ref a1), .val (.int p2), .val (.int p3), .val (.long q4), .second, .val (.long q5), .second] [(.long q4), (.ref a1)])) _
    refine st9 _ ?_
    show Steps p.tables e below (T9.setTop (mkF m 19 #[.val (.ref a1), .val (.int p2), .val (.int p3), .val (.long q4), .second, .val (.long q5), .second] [])) _
    refine XS.aloadN X9.here hx rfl (hb hby d4_19) rfl rfl ?_
    show Steps p.tables e below (T9.setTop (mkF m 20 #[.val (.ref a1), .val (.int p2), .val (.int p3), .val (.long q4), .second, .val (.long q5), .second] [(.ref a1)])) _
    refine XS.lload X9.here hx rfl (hb hby d4_20) rfl ?_
    show Steps p.tables e below (T9.setTop (mkF m 22 #[.val (.ref a1), .val (.int p2), .val (.int p3), .val (.long q4), .second, .val (.long q5), .second] [(.long q5), (.ref a1)])) _
    refine st10 _ ?_
    show Steps p.tables e below (T10.setTop (mkF m 25 #[.val (.ref a1), .val (.int p2), .val (.int p3), .val (.long q4), .second, .val (.long q5), .second] [])) _
    exact X10.returnOut hx Bd.returns (hb hby d4_25) hr
  · show Q4 Z a1 p2 p3 q4 q5 u_connections_a1 u_arrivingBodies_a1 u_sharedBodyBytes_a1 u_addressBytes_a1 h0 n0 _ T10.heap _
    rw [e10]
    exact ⟨rfl, N10, K10, ((((E_a1.keep K6).wr W7).wr W8).wr W9).wr W10, (((Fw7.other W8 (Or.inr (slot_ne (Or.inr (hw _ (List.mem_of_getElem? (i := 32) rfl))) (Or.inr (hw _ (List.mem_of_getElem? (i := 34) rfl))) (by decide) (t := .int) (t' := .int) (by decide) (by decide)))).other W9 (Or.inr (slot_ne (Or.inr (hw _ (List.mem_of_getElem? (i := 32) rfl))) (Or.inr (hw _ (List.mem_of_getElem? (i := 36) rfl))) (by decide) (t := .int) (t' := .long) (by decide) (by decide)))).other W10 (Or.inr (slot_ne (Or.inr (hw _ (List.mem_of_getElem? (i := 32) rfl))) (Or.inr (hw _ (List.mem_of_getElem? (i := 38) rfl))) (by decide) (t := .int) (t' := .long) (by decide) (by decide)))), ((Fw8.other W9 (Or.inr (slot_ne (Or.inr (hw _ (List.mem_of_getElem? (i := 34) rfl))) (Or.inr (hw _ (List.mem_of_getElem? (i := 36) rfl))) (by decide) (t := .int) (t' := .long) (by decide) (by decide)))).other W10 (Or.inr (slot_ne (Or.inr (hw _ (List.mem_of_getElem? (i := 34) rfl))) (Or.inr (hw _ (List.mem_of_getElem? (i := 38) rfl))) (by decide) (t := .int) (t' := .long) (by decide) (by decide)))), (Fw9.other W10 (Or.inr (slot_ne (Or.inr (hw _ (List.mem_of_getElem? (i := 36) rfl))) (Or.inr (hw _ (List.mem_of_getElem? (i := 38) rfl))) (by decide) (t := .long) (t' := .long) (by decide) (by decide)))), Fw10⟩
theorem d7_0 : decode prog_1_method_6_code 0 = .ok (.aload_n 0, 1) := by decide +kernel
theorem d7_1 : decode prog_1_method_6_code 1 = .ok (.getfield 7, 3) := by decide +kernel
theorem d7_4 : decode prog_1_method_6_code 4 = .ok (.ireturn, 1) := by decide +kernel
theorem pn_7 : plainName "com/example/metrogate/metrogate/ClientLimits" = true := by first | (simp [plainName, overriddenIn]; done) | decide +kernel
theorem ef_7 (m : MethodId) (x0 : Addr) : entryFrame m #[(.ref x0)] 1 = mkF m 0 #[.val (.ref x0)] [] := by first | (simp [entryFrame, mkF, argsToLocals, Value.category]; done) | rfl
def Q7 (Z : State) (a1 : Addr) (w2 : Int32) (h0 : Heap) (n0 : Nat) (v : Option Value) (h : Heap) (L : List Loc) : Prop := v = some (.int w2) ∧ Fr n0 L ∧ h = h0
set_option maxRecDepth 65536 in
set_option maxHeartbeats 40000000 in
theorem rm7 (l : Launch) (Z : State) (a0 : Array Value) (hw : ∀ d ∈ tables_1, d.before a0 Z = true) (ws : List Jvm.Cond) (a1 : Addr) (w2 : Int32) (h0 : Heap) (n0 : Nat) (Z0 : n0 ≤ h0.size) (F_connections_a1 : Fld Z h0 a1 "com/example/metrogate/metrogate/ClientLimits" "connections" "I" (.int w2)) :
    MetFree l (⟨"com/example/metrogate/metrogate/ClientLimits", "connections", "()I"⟩ : MethodName) (head1 (Jvm.Cond.code (⟨"com/example/metrogate/metrogate/ClientLimits", "connections", "()I"⟩ : MethodName) prog_1_method_6_code 1 (some .int) :: ws) ({ frames := 0, cells := 0, slots := 0, locals := 0 } : Room)) (fun a U => a = #[(.ref a1)] ∧ Z.Warmed39 U.vm ∧ U.heap = h0) (fun _ _ _ _ _ => True) (fun _ U o U' => ∃ v L, o = .returned v ∧ Q7 Z a1 w2 h0 n0 v U'.heap L ∧ FrameEnd U o U' L ({ frames := 0, cells := 0, slots := 0, locals := 0 } : Room).cells ({ frames := 0, cells := 0, slots := 0, locals := 0 } : Room).slots) := by
  refine MetFree.of_bodySF (plainFor_of_name pn_7) hisR ?_
  intro p e s m args below meth c s₁ Bd hml0 hP hK
  obtain ⟨rfl, hZ, hh⟩ := hP
  have hx := Bd.exec
  have hby := Bd.bytes
  have hml : c.maxLocals = 1 := hml0
  have hown : s.vm.findClass "com/example/metrogate/metrogate/ClientLimits" = some m.cls := findClass_of_methodNamed Bd.named
  have hnm := (name_of_methodNamed Bd.named Bd.method).1
  have X0 : Stand p l e ({ frames := 0, cells := 0, slots := 0, locals := 0 } : Room) s m #[(.ref a1)] below meth c s₁ [] 0 0 := Stand.of_body Bd
  have e0 : s₁.heap = h0 := by rw [← hh, Bd.state]; rfl
  have N0 := Fr.nil n0
  have pre0 : ∀ t, Steps p.tables e below (s₁.setTop (mkF m 0 #[.val (.ref a1)] [])) t → Steps p.tables e below (s₁.setTop (entryFrame m #[(.ref a1)] 1)) t := fun t k => castTop (ef_7 m a1) k
  -- 3. LAWS
  obtain ⟨T3, X3, e3, st3⟩ := getF X0 hx hZ hown (host := "") (Or.inl (hw _ (List.mem_of_getElem? (i := 31) rfl))) Via.refl e0 F_connections_a1 (g := (mkF m 1 #[.val (.ref a1)] [(.ref a1)])) rfl rfl (hb hby d7_1)
  obtain ⟨fs, hr, hrun, hended, hW, hsame⟩ := X3.leave (v := some (.int w2)) (fun h => by rw [Bd.returns] at h; cases h)
  refine ⟨_, _, pre0 _ ?_, hrun, hended, _, _, rfl, ?_, ⟨_, rfl⟩, hW, hsame.mono (by decide) (by decide)⟩
  -- 4. STEPS
  · show Steps p.tables e below (s₁.setTop (mkF m 0 #[.val (.ref a1)] [])) _
    refine XS.aloadN X0.here hx rfl (hb hby d7_0) rfl rfl ?_
    show Steps p.tables e below (s₁.setTop (mkF m 1 #[.val (.ref a1)] [(.ref a1)])) _
    refine st3 _ ?_
    show Steps p.tables e below (T3.setTop (mkF m 4 #[.val (.ref a1)] [(.int w2)])) _
    exact retI X3 hx Bd.returns (hb hby d7_4) hr      -- retI stands in the head ('lawwalk <made dir>' prints it)
  · show Q7 Z a1 w2 h0 n0 _ T3.heap _
    rw [e3]
    exact ⟨rfl, N0, rfl⟩
theorem d8_0 : decode prog_1_method_7_code 0 = .ok (.aload_n 0, 1) := by decide +kernel
theorem d8_1 : decode prog_1_method_7_code 1 = .ok (.getfield 13, 3) := by decide +kernel
theorem d8_4 : decode prog_1_method_7_code 4 = .ok (.ireturn, 1) := by decide +kernel
theorem pn_8 : plainName "com/example/metrogate/metrogate/ClientLimits" = true := by first | (simp [plainName, overriddenIn]; done) | decide +kernel
theorem ef_8 (m : MethodId) (x0 : Addr) : entryFrame m #[(.ref x0)] 1 = mkF m 0 #[.val (.ref x0)] [] := by first | (simp [entryFrame, mkF, argsToLocals, Value.category]; done) | rfl
def Q8 (Z : State) (a1 : Addr) (w2 : Int32) (h0 : Heap) (n0 : Nat) (v : Option Value) (h : Heap) (L : List Loc) : Prop := v = some (.int w2) ∧ Fr n0 L ∧ h = h0
set_option maxRecDepth 65536 in
set_option maxHeartbeats 40000000 in
theorem rm8 (l : Launch) (Z : State) (a0 : Array Value) (hw : ∀ d ∈ tables_1, d.before a0 Z = true) (ws : List Jvm.Cond) (a1 : Addr) (w2 : Int32) (h0 : Heap) (n0 : Nat) (Z0 : n0 ≤ h0.size) (F_arrivingBodies_a1 : Fld Z h0 a1 "com/example/metrogate/metrogate/ClientLimits" "arrivingBodies" "I" (.int w2)) :
    MetFree l (⟨"com/example/metrogate/metrogate/ClientLimits", "arrivingBodies", "()I"⟩ : MethodName) (head1 (Jvm.Cond.code (⟨"com/example/metrogate/metrogate/ClientLimits", "arrivingBodies", "()I"⟩ : MethodName) prog_1_method_7_code 1 (some .int) :: ws) ({ frames := 0, cells := 0, slots := 0, locals := 0 } : Room)) (fun a U => a = #[(.ref a1)] ∧ Z.Warmed39 U.vm ∧ U.heap = h0) (fun _ _ _ _ _ => True) (fun _ U o U' => ∃ v L, o = .returned v ∧ Q8 Z a1 w2 h0 n0 v U'.heap L ∧ FrameEnd U o U' L ({ frames := 0, cells := 0, slots := 0, locals := 0 } : Room).cells ({ frames := 0, cells := 0, slots := 0, locals := 0 } : Room).slots) := by
  refine MetFree.of_bodySF (plainFor_of_name pn_8) hisR ?_
  intro p e s m args below meth c s₁ Bd hml0 hP hK
  obtain ⟨rfl, hZ, hh⟩ := hP
  have hx := Bd.exec
  have hby := Bd.bytes
  have hml : c.maxLocals = 1 := hml0
  have hown : s.vm.findClass "com/example/metrogate/metrogate/ClientLimits" = some m.cls := findClass_of_methodNamed Bd.named
  have hnm := (name_of_methodNamed Bd.named Bd.method).1
  have X0 : Stand p l e ({ frames := 0, cells := 0, slots := 0, locals := 0 } : Room) s m #[(.ref a1)] below meth c s₁ [] 0 0 := Stand.of_body Bd
  have e0 : s₁.heap = h0 := by rw [← hh, Bd.state]; rfl
  have N0 := Fr.nil n0
  have pre0 : ∀ t, Steps p.tables e below (s₁.setTop (mkF m 0 #[.val (.ref a1)] [])) t → Steps p.tables e below (s₁.setTop (entryFrame m #[(.ref a1)] 1)) t := fun t k => castTop (ef_8 m a1) k
  -- 3. LAWS
  obtain ⟨T3, X3, e3, st3⟩ := getF X0 hx hZ hown (host := "") (Or.inl (hw _ (List.mem_of_getElem? (i := 33) rfl))) Via.refl e0 F_arrivingBodies_a1 (g := (mkF m 1 #[.val (.ref a1)] [(.ref a1)])) rfl rfl (hb hby d8_1)
  obtain ⟨fs, hr, hrun, hended, hW, hsame⟩ := X3.leave (v := some (.int w2)) (fun h => by rw [Bd.returns] at h; cases h)
  refine ⟨_, _, pre0 _ ?_, hrun, hended, _, _, rfl, ?_, ⟨_, rfl⟩, hW, hsame.mono (by decide) (by decide)⟩
  -- 4. STEPS
  · show Steps p.tables e below (s₁.setTop (mkF m 0 #[.val (.ref a1)] [])) _
    refine XS.aloadN X0.here hx rfl (hb hby d8_0) rfl rfl ?_
    show Steps p.tables e below (s₁.setTop (mkF m 1 #[.val (.ref a1)] [(.ref a1)])) _
    refine st3 _ ?_
    show Steps p.tables e below (T3.setTop (mkF m 4 #[.val (.ref a1)] [(.int w2)])) _
    exact retI X3 hx Bd.returns (hb hby d8_4) hr      -- retI stands in the head ('lawwalk <made dir>' prints it)
  · show Q8 Z a1 w2 h0 n0 _ T3.heap _
    rw [e3]
    exact ⟨rfl, N0, rfl⟩
theorem d9_0 : decode prog_1_method_8_code 0 = .ok (.aload_n 0, 1) := by decide +kernel
theorem d9_1 : decode prog_1_method_8_code 1 = .ok (.getfield 16, 3) := by decide +kernel
theorem d9_4 : decode prog_1_method_8_code 4 = .ok (.lreturn, 1) := by decide +kernel
theorem pn_9 : plainName "com/example/metrogate/metrogate/ClientLimits" = true := by first | (simp [plainName, overriddenIn]; done) | decide +kernel
theorem ef_9 (m : MethodId) (x0 : Addr) : entryFrame m #[(.ref x0)] 1 = mkF m 0 #[.val (.ref x0)] [] := by first | (simp [entryFrame, mkF, argsToLocals, Value.category]; done) | rfl
def Q9 (Z : State) (a1 : Addr) (w2 : Int64) (h0 : Heap) (n0 : Nat) (v : Option Value) (h : Heap) (L : List Loc) : Prop := v = some (.long w2) ∧ Fr n0 L ∧ h = h0
set_option maxRecDepth 65536 in
set_option maxHeartbeats 40000000 in
theorem rm9 (l : Launch) (Z : State) (a0 : Array Value) (hw : ∀ d ∈ tables_1, d.before a0 Z = true) (ws : List Jvm.Cond) (a1 : Addr) (w2 : Int64) (h0 : Heap) (n0 : Nat) (Z0 : n0 ≤ h0.size) (F_sharedBodyBytes_a1 : Fld Z h0 a1 "com/example/metrogate/metrogate/ClientLimits" "sharedBodyBytes" "J" (.long w2)) :
    MetFree l (⟨"com/example/metrogate/metrogate/ClientLimits", "sharedBodyBytes", "()J"⟩ : MethodName) (head1 (Jvm.Cond.code (⟨"com/example/metrogate/metrogate/ClientLimits", "sharedBodyBytes", "()J"⟩ : MethodName) prog_1_method_8_code 1 (some .long) :: ws) ({ frames := 0, cells := 0, slots := 0, locals := 0 } : Room)) (fun a U => a = #[(.ref a1)] ∧ Z.Warmed39 U.vm ∧ U.heap = h0) (fun _ _ _ _ _ => True) (fun _ U o U' => ∃ v L, o = .returned v ∧ Q9 Z a1 w2 h0 n0 v U'.heap L ∧ FrameEnd U o U' L ({ frames := 0, cells := 0, slots := 0, locals := 0 } : Room).cells ({ frames := 0, cells := 0, slots := 0, locals := 0 } : Room).slots) := by
  refine MetFree.of_bodySF (plainFor_of_name pn_9) hisR ?_
  intro p e s m args below meth c s₁ Bd hml0 hP hK
  obtain ⟨rfl, hZ, hh⟩ := hP
  have hx := Bd.exec
  have hby := Bd.bytes
  have hml : c.maxLocals = 1 := hml0
  have hown : s.vm.findClass "com/example/metrogate/metrogate/ClientLimits" = some m.cls := findClass_of_methodNamed Bd.named
  have hnm := (name_of_methodNamed Bd.named Bd.method).1
  have X0 : Stand p l e ({ frames := 0, cells := 0, slots := 0, locals := 0 } : Room) s m #[(.ref a1)] below meth c s₁ [] 0 0 := Stand.of_body Bd
  have e0 : s₁.heap = h0 := by rw [← hh, Bd.state]; rfl
  have N0 := Fr.nil n0
  have pre0 : ∀ t, Steps p.tables e below (s₁.setTop (mkF m 0 #[.val (.ref a1)] [])) t → Steps p.tables e below (s₁.setTop (entryFrame m #[(.ref a1)] 1)) t := fun t k => castTop (ef_9 m a1) k
  -- 3. LAWS
  obtain ⟨T3, X3, e3, st3⟩ := getF X0 hx hZ hown (host := "") (Or.inl (hw _ (List.mem_of_getElem? (i := 35) rfl))) Via.refl e0 F_sharedBodyBytes_a1 (g := (mkF m 1 #[.val (.ref a1)] [(.ref a1)])) rfl rfl (hb hby d9_1)
  obtain ⟨fs, hr, hrun, hended, hW, hsame⟩ := X3.leave (v := some (.long w2)) (fun h => by rw [Bd.returns] at h; cases h)
  refine ⟨_, _, pre0 _ ?_, hrun, hended, _, _, rfl, ?_, ⟨_, rfl⟩, hW, hsame.mono (by decide) (by decide)⟩
  -- 4. STEPS
  · show Steps p.tables e below (s₁.setTop (mkF m 0 #[.val (.ref a1)] [])) _
    refine XS.aloadN X0.here hx rfl (hb hby d9_0) rfl rfl ?_
    show Steps p.tables e below (s₁.setTop (mkF m 1 #[.val (.ref a1)] [(.ref a1)])) _
    refine st3 _ ?_
    show Steps p.tables e below (T3.setTop (mkF m 4 #[.val (.ref a1)] [(.long w2)])) _
    jvm_step X3.here [X3.here.top, hx, (hb hby d9_4), X3.method', Bd.returns, narrow]
    first | (intro acts; rw [hr _ acts rfl rfl rfl]) | rw [hr _ _ rfl rfl rfl]
    exact Steps.refl _
  · show Q9 Z a1 w2 h0 n0 _ T3.heap _
    rw [e3]
    exact ⟨rfl, N0, rfl⟩
theorem d10_0 : decode prog_1_method_9_code 0 = .ok (.aload_n 0, 1) := by decide +kernel
theorem d10_1 : decode prog_1_method_9_code 1 = .ok (.getfield 20, 3) := by decide +kernel
theorem d10_4 : decode prog_1_method_9_code 4 = .ok (.lreturn, 1) := by decide +kernel
theorem pn_10 : plainName "com/example/metrogate/metrogate/ClientLimits" = true := by first | (simp [plainName, overriddenIn]; done) | decide +kernel
theorem ef_10 (m : MethodId) (x0 : Addr) : entryFrame m #[(.ref x0)] 1 = mkF m 0 #[.val (.ref x0)] [] := by first | (simp [entryFrame, mkF, argsToLocals, Value.category]; done) | rfl
def Q10 (Z : State) (a1 : Addr) (w2 : Int64) (h0 : Heap) (n0 : Nat) (v : Option Value) (h : Heap) (L : List Loc) : Prop := v = some (.long w2) ∧ Fr n0 L ∧ h = h0
set_option maxRecDepth 65536 in
set_option maxHeartbeats 40000000 in
theorem rm10 (l : Launch) (Z : State) (a0 : Array Value) (hw : ∀ d ∈ tables_1, d.before a0 Z = true) (ws : List Jvm.Cond) (a1 : Addr) (w2 : Int64) (h0 : Heap) (n0 : Nat) (Z0 : n0 ≤ h0.size) (F_addressBytes_a1 : Fld Z h0 a1 "com/example/metrogate/metrogate/ClientLimits" "addressBytes" "J" (.long w2)) :
    MetFree l (⟨"com/example/metrogate/metrogate/ClientLimits", "addressBytes", "()J"⟩ : MethodName) (head1 (Jvm.Cond.code (⟨"com/example/metrogate/metrogate/ClientLimits", "addressBytes", "()J"⟩ : MethodName) prog_1_method_9_code 1 (some .long) :: ws) ({ frames := 0, cells := 0, slots := 0, locals := 0 } : Room)) (fun a U => a = #[(.ref a1)] ∧ Z.Warmed39 U.vm ∧ U.heap = h0) (fun _ _ _ _ _ => True) (fun _ U o U' => ∃ v L, o = .returned v ∧ Q10 Z a1 w2 h0 n0 v U'.heap L ∧ FrameEnd U o U' L ({ frames := 0, cells := 0, slots := 0, locals := 0 } : Room).cells ({ frames := 0, cells := 0, slots := 0, locals := 0 } : Room).slots) := by
  refine MetFree.of_bodySF (plainFor_of_name pn_10) hisR ?_
  intro p e s m args below meth c s₁ Bd hml0 hP hK
  obtain ⟨rfl, hZ, hh⟩ := hP
  have hx := Bd.exec
  have hby := Bd.bytes
  have hml : c.maxLocals = 1 := hml0
  have hown : s.vm.findClass "com/example/metrogate/metrogate/ClientLimits" = some m.cls := findClass_of_methodNamed Bd.named
  have hnm := (name_of_methodNamed Bd.named Bd.method).1
  have X0 : Stand p l e ({ frames := 0, cells := 0, slots := 0, locals := 0 } : Room) s m #[(.ref a1)] below meth c s₁ [] 0 0 := Stand.of_body Bd
  have e0 : s₁.heap = h0 := by rw [← hh, Bd.state]; rfl
  have N0 := Fr.nil n0
  have pre0 : ∀ t, Steps p.tables e below (s₁.setTop (mkF m 0 #[.val (.ref a1)] [])) t → Steps p.tables e below (s₁.setTop (entryFrame m #[(.ref a1)] 1)) t := fun t k => castTop (ef_10 m a1) k
  -- 3. LAWS
  obtain ⟨T3, X3, e3, st3⟩ := getF X0 hx hZ hown (host := "") (Or.inl (hw _ (List.mem_of_getElem? (i := 37) rfl))) Via.refl e0 F_addressBytes_a1 (g := (mkF m 1 #[.val (.ref a1)] [(.ref a1)])) rfl rfl (hb hby d10_1)
  obtain ⟨fs, hr, hrun, hended, hW, hsame⟩ := X3.leave (v := some (.long w2)) (fun h => by rw [Bd.returns] at h; cases h)
  refine ⟨_, _, pre0 _ ?_, hrun, hended, _, _, rfl, ?_, ⟨_, rfl⟩, hW, hsame.mono (by decide) (by decide)⟩
  -- 4. STEPS
  · show Steps p.tables e below (s₁.setTop (mkF m 0 #[.val (.ref a1)] [])) _
    refine XS.aloadN X0.here hx rfl (hb hby d10_0) rfl rfl ?_
    show Steps p.tables e below (s₁.setTop (mkF m 1 #[.val (.ref a1)] [(.ref a1)])) _
    refine st3 _ ?_
    show Steps p.tables e below (T3.setTop (mkF m 4 #[.val (.ref a1)] [(.long w2)])) _
    jvm_step X3.here [X3.here.top, hx, (hb hby d10_4), X3.method', Bd.returns, narrow]
    first | (intro acts; rw [hr _ acts rfl rfl rfl]) | rw [hr _ _ rfl rfl rfl]
    exact Steps.refl _
  · show Q10 Z a1 w2 h0 n0 _ T3.heap _
    rw [e3]
    exact ⟨rfl, N0, rfl⟩
theorem d1_0 : decode prog_1_method_2_code 0 = .ok (.lconst 0, 1) := by decide +kernel
theorem d1_1 : decode prog_1_method_2_code 1 = .ok (.lload_n 0, 1) := by decide +kernel
theorem d1_2 : decode prog_1_method_2_code 2 = .ok (.ldc2_w 23, 3) := by decide +kernel
theorem d1_5 : decode prog_1_method_2_code 5 = .ok (.lsub, 1) := by decide +kernel
theorem d1_6 : decode prog_1_method_2_code 6 = .ok (.invokestatic 25, 3) := by decide +kernel
theorem d1_9 : decode prog_1_method_2_code 9 = .ok (.ldc2_w 31, 3) := by decide +kernel
theorem d1_12 : decode prog_1_method_2_code 12 = .ok (.ldiv, 1) := by decide +kernel
theorem d1_13 : decode prog_1_method_2_code 13 = .ok (.lstore_n 2, 1) := by decide +kernel
theorem d1_14 : decode prog_1_method_2_code 14 = .ok (.ldc2_w 33, 3) := by decide +kernel
theorem d1_17 : decode prog_1_method_2_code 17 = .ok (.ldc2_w 35, 3) := by decide +kernel
theorem d1_20 : decode prog_1_method_2_code 20 = .ok (.lload_n 2, 1) := by decide +kernel
theorem d1_21 : decode prog_1_method_2_code 21 = .ok (.invokestatic 37, 3) := by decide +kernel
theorem d1_24 : decode prog_1_method_2_code 24 = .ok (.invokestatic 25, 3) := by decide +kernel
theorem d1_27 : decode prog_1_method_2_code 27 = .ok (.l2i, 1) := by decide +kernel
theorem d1_28 : decode prog_1_method_2_code 28 = .ok (.istore 4, 2) := by decide +kernel
theorem d1_30 : decode prog_1_method_2_code 30 = .ok (.new 8, 3) := by decide +kernel
theorem d1_33 : decode prog_1_method_2_code 33 = .ok (.dup, 1) := by decide +kernel
theorem d1_34 : decode prog_1_method_2_code 34 = .ok (.iload 4, 2) := by decide +kernel
theorem d1_36 : decode prog_1_method_2_code 36 = .ok (.iload 4, 2) := by decide +kernel
theorem d1_38 : decode prog_1_method_2_code 38 = .ok (.iconst 2, 1) := by decide +kernel
theorem d1_39 : decode prog_1_method_2_code 39 = .ok (.idiv, 1) := by decide +kernel
theorem d1_40 : decode prog_1_method_2_code 40 = .ok (.lload_n 0, 1) := by decide +kernel
theorem d1_41 : decode prog_1_method_2_code 41 = .ok (.ldc2_w 40, 3) := by decide +kernel
theorem d1_44 : decode prog_1_method_2_code 44 = .ok (.ldiv, 1) := by decide +kernel
theorem d1_45 : decode prog_1_method_2_code 45 = .ok (.lload_n 0, 1) := by decide +kernel
theorem d1_46 : decode prog_1_method_2_code 46 = .ok (.ldc2_w 42, 3) := by decide +kernel
theorem d1_49 : decode prog_1_method_2_code 49 = .ok (.ldiv, 1) := by decide +kernel
theorem d1_50 : decode prog_1_method_2_code 50 = .ok (.invokespecial 44, 3) := by decide +kernel
theorem d1_53 : decode prog_1_method_2_code 53 = .ok (.areturn, 1) := by decide +kernel
theorem pn_1 : plainName "com/example/metrogate/metrogate/ClientLimits" = true := by first | (simp [plainName, overriddenIn]; done) | decide +kernel
theorem pd_1_1 : parseMethodDescriptor "(JJ)J" = some ⟨[.long, .long], some .long⟩ := by decide +kernel
theorem pd_1_2 : parseMethodDescriptor "(IIJJ)V" = some ⟨[.int, .int, .long, .long], none⟩ := by decide +kernel
theorem ef_1 (m : MethodId) (x0 : Int64) : entryFrame m #[(.long x0)] 5 = mkF m 0 #[.val (.long x0), .second, .unset, .unset, .unset] [] := by first | (simp [entryFrame, mkF, argsToLocals, Value.category]; done) | rfl
def Q1 (Z : State) (q1 : Int64) (h0 : Heap) (n0 : Nat) (v : Option Value) (h : Heap) (L : List Loc) : Prop := ∃ b : Addr, v = some (.ref b) ∧ Fr n0 L ∧ Keep h0 h [] ∧ Exa Z h b "com/example/metrogate/metrogate/ClientLimits" ∧ Fld Z h b "com/example/metrogate/metrogate/ClientLimits" "connections" "I" (.int (own_c q1).toInt32) ∧ Fld Z h b "com/example/metrogate/metrogate/ClientLimits" "arrivingBodies" "I" (.int ((own_c q1).toInt32 / (2 : Int32))) ∧ Fld Z h b "com/example/metrogate/metrogate/ClientLimits" "sharedBodyBytes" "J" (.long (q1 / (16 : Int64))) ∧ Fld Z h b "com/example/metrogate/metrogate/ClientLimits" "addressBytes" "J" (.long (q1 / (64 : Int64)))
set_option maxRecDepth 65536 in
set_option maxHeartbeats 40000000 in
theorem rm1 (l : Launch) (Z : State) (a0 : Array Value) (hw : ∀ d ∈ tables_1, d.before a0 Z = true) (ws : List Jvm.Cond) (q1 : Int64) (h0 : Heap) (n0 : Nat) (Z0 : n0 ≤ h0.size) :
    MetFree l (⟨"com/example/metrogate/metrogate/ClientLimits", "forHeap", "(J)Lcom/example/metrogate/metrogate/ClientLimits;"⟩ : MethodName) (head1 (Jvm.Cond.code (⟨"com/example/metrogate/metrogate/ClientLimits", "forHeap", "(J)Lcom/example/metrogate/metrogate/ClientLimits;"⟩ : MethodName) prog_1_method_2_code 5 (some (.object "com/example/metrogate/metrogate/ClientLimits")) :: ws) ({ frames := 3, cells := 1, slots := 4, locals := 43 } : Room)) (fun a U => a = #[(.long q1)] ∧ Z.Warmed39 U.vm ∧ U.heap = h0) (fun _ _ _ _ _ => True) (fun _ U o U' => ∃ v L, o = .returned v ∧ Q1 Z q1 h0 n0 v U'.heap L ∧ FrameEnd U o U' L ({ frames := 3, cells := 1, slots := 4, locals := 43 } : Room).cells ({ frames := 3, cells := 1, slots := 4, locals := 43 } : Room).slots) := by
  refine MetFree.of_bodySF (plainFor_of_name pn_1) hisR ?_
  intro p e s m args below meth c s₁ Bd hml0 hP hK
  obtain ⟨rfl, hZ, hh⟩ := hP
  have hx := Bd.exec
  have hby := Bd.bytes
  have hml : c.maxLocals = 5 := hml0
  have hown : s.vm.findClass "com/example/metrogate/metrogate/ClientLimits" = some m.cls := findClass_of_methodNamed Bd.named
  have hnm := (name_of_methodNamed Bd.named Bd.method).1
  have X0 : Stand p l e ({ frames := 3, cells := 1, slots := 4, locals := 43 } : Room) s m #[(.long q1)] below meth c s₁ [] 0 0 := Stand.of_body Bd
  have e0 : s₁.heap = h0 := by rw [← hh, Bd.state]; rfl
  have N0 := Fr.nil n0
  have pre0 : ∀ t, Steps p.tables e below (s₁.setTop (mkF m 0 #[.val (.long q1), .second, .unset, .unset, .unset] [])) t → Steps p.tables e below (s₁.setTop (entryFrame m #[(.long q1)] 5)) t := fun t k => castTop (ef_1 m q1) k
  -- 3. LAWS
  -- pc 6: java/lang/Math.max by its contract rm2
  obtain ⟨_, _, ⟨T2, L2, k2, n2⟩, -, X2, ⟨Lc2, hQ2, l2, y2, z2⟩, st2⟩ := Jvm.LawKit.callS X0 hx (y := (⟨"java/lang/Math", "max", "(JJ)J"⟩ : MethodName)) hown (mvT hZ (hw _ (List.mem_of_getElem? (i := 6) rfl))) (mvT hZ (hw _ (List.mem_of_getElem? (i := 7) rfl))) (mvT hZ (hw _ (List.mem_of_getElem? (i := 8) rfl))) (mvT hZ (hw _ (List.mem_of_getElem? (i := 9) rfl))) (by decide) (backOf (W := 0) (rm2 l Z a0 hw [] (0 : Int64) (q1 - (16777216 : Int64)) h0 n0 Z0) hZ (hw _ (List.mem_of_getElem? (i := 9) rfl)) (hw _ (List.mem_of_getElem? (i := 8) rfl)) (by decide) (by decide)) (g := (mkF m 6 #[.val (.long q1), .second, .unset, .unset, .unset] [(.long (q1 - (16777216 : Int64))), (.long (0 : Int64))])) rfl (by rw [hml]; rfl) (argsL := [(.long (0 : Int64)), (.long (q1 - (16777216 : Int64)))]) (rest := []) (lenOf pd_1_1 rfl) rfl (by show 2 * 0 + _ ≤ _; exact Nat.le_of_eq rfl) (hb hby d1_6) (fun _ _ => ⟨rfl, e0, (by decide : 0 + 0 ≤ _), (by decide : 0 + 0 ≤ _)⟩)
  dsimp only [Pt.U, Pt.locs, Pt.cells, Pt.slots] at X2 l2 y2 z2 st2 hQ2
  subst l2 y2 z2
  obtain ⟨rfl, N2q, hh2⟩ := hQ2
  have Kc2 : Keep h0 T2.heap [] := by rw [hh2]; exact Keep.refl _ _
  have Z2 := Nat.le_trans Z0 Kc2.1
  have N2 := Fr.app N0 N2q
  -- pc 21: java/lang/Math.min by its contract rm3
  obtain ⟨_, _, ⟨T3, L3, k3, n3⟩, -, X3, ⟨Lc3, hQ3, l3, y3, z3⟩, st3⟩ := Jvm.LawKit.callS X2 hx (y := (⟨"java/lang/Math", "min", "(JJ)J"⟩ : MethodName)) hown (mvT hZ (hw _ (List.mem_of_getElem? (i := 13) rfl))) (mvT hZ (hw _ (List.mem_of_getElem? (i := 14) rfl))) (mvT hZ (hw _ (List.mem_of_getElem? (i := 8) rfl))) (mvT hZ (hw _ (List.mem_of_getElem? (i := 15) rfl))) (by decide) (backOf (W := 2) (rm3 l Z a0 hw [] (8192 : Int64) ((own_max (0 : Int64) (q1 - (16777216 : Int64))) / (262144 : Int64)) T2.heap n0 Z2) hZ (hw _ (List.mem_of_getElem? (i := 15) rfl)) (hw _ (List.mem_of_getElem? (i := 8) rfl)) (by decide) (by decide)) (g := (mkF m 21 #[.val (.long q1), .second, .val (.long ((own_max (0 : Int64) (q1 - (16777216 : Int64))) / (262144 : Int64))), .second, .unset] [(.long ((own_max (0 : Int64) (q1 - (16777216 : Int64))) / (262144 : Int64))), (.long (8192 : Int64)), (.long (2 : Int64))])) rfl (by rw [hml]; rfl) (argsL := [(.long (8192 : Int64)), (.long ((own_max (0 : Int64) (q1 - (16777216 : Int64))) / (262144 : Int64)))]) (rest := [(.long (2 : Int64))]) (lenOf pd_1_1 rfl) rfl (by show 2 * 0 + _ ≤ _; exact Nat.le_of_eq rfl) (hb hby d1_21) (fun _ _ => ⟨rfl, rfl, (by decide : 0 + 0 ≤ _), (by decide : 0 + 0 ≤ _)⟩)
  dsimp only [Pt.U, Pt.locs, Pt.cells, Pt.slots] at X3 l3 y3 z3 st3 hQ3
  subst l3 y3 z3
  obtain ⟨rfl, N3q, hh3⟩ := hQ3
  have Kc3 : Keep T2.heap T3.heap [] := by rw [hh3]; exact Keep.refl _ _
  have Z3 := Nat.le_trans Z2 Kc3.1
  have N3 := Fr.app N2 N3q
  -- pc 24: java/lang/Math.max by its contract rm2
  obtain ⟨_, _, ⟨T4, L4, k4, n4⟩, -, X4, ⟨Lc4, hQ4, l4, y4, z4⟩, st4⟩ := Jvm.LawKit.callS X3 hx (y := (⟨"java/lang/Math", "max", "(JJ)J"⟩ : MethodName)) hown (mvT hZ (hw _ (List.mem_of_getElem? (i := 6) rfl))) (mvT hZ (hw _ (List.mem_of_getElem? (i := 7) rfl))) (mvT hZ (hw _ (List.mem_of_getElem? (i := 8) rfl))) (mvT hZ (hw _ (List.mem_of_getElem? (i := 9) rfl))) (by decide) (backOf (W := 0) (rm2 l Z a0 hw [] (2 : Int64) (own_min (8192 : Int64) ((own_max (0 : Int64) (q1 - (16777216 : Int64))) / (262144 : Int64))) T3.heap n0 Z3) hZ (hw _ (List.mem_of_getElem? (i := 9) rfl)) (hw _ (List.mem_of_getElem? (i := 8) rfl)) (by decide) (by decide)) (g := (mkF m 24 #[.val (.long q1), .second, .val (.long ((own_max (0 : Int64) (q1 - (16777216 : Int64))) / (262144 : Int64))), .second, .unset] [(.long (own_min (8192 : Int64) ((own_max (0 : Int64) (q1 - (16777216 : Int64))) / (262144 : Int64)))), (.long (2 : Int64))])) rfl (by rw [hml]; rfl) (argsL := [(.long (2 : Int64)), (.long (own_min (8192 : Int64) ((own_max (0 : Int64) (q1 - (16777216 : Int64))) / (262144 : Int64))))]) (rest := []) (lenOf pd_1_1 rfl) rfl (by show 2 * 0 + _ ≤ _; exact Nat.le_of_eq rfl) (hb hby d1_24) (fun _ _ => ⟨rfl, rfl, (by decide : 0 + 0 ≤ _), (by decide : 0 + 0 ≤ _)⟩)
  dsimp only [Pt.U, Pt.locs, Pt.cells, Pt.slots] at X4 l4 y4 z4 st4 hQ4
  subst l4 y4 z4
  obtain ⟨rfl, N4q, hh4⟩ := hQ4
  have Kc4 : Keep T3.heap T4.heap [] := by rw [hh4]; exact Keep.refl _ _
  have Z4 := Nat.le_trans Z3 Kc4.1
  have K4h : Keep h0 T4.heap [] := (Kc2.trans Kc3 all0).trans Kc4 all0
  have N4 := Fr.app N3 N4q
  obtain ⟨T5, h5, X5, e5, E5, A5, D5, -, st5⟩ := newO X4 hx hZ hown (hw _ (List.mem_of_getElem? (i := 16) rfl)) (hw _ (List.mem_of_getElem? (i := 17) rfl)) (hw _ (List.mem_of_getElem? (i := 3) rfl)) rfl (g := (mkF m 30 #[.val (.long q1), .second, .val (.long ((own_max (0 : Int64) (q1 - (16777216 : Int64))) / (262144 : Int64))), .second, .val (.int ((own_c q1).toInt32))] [])) rfl (hb hby d1_30) (by decide) (by decide)
  obtain ⟨b5, g5⟩ : ∃ z, z = T4.heap.size := ⟨_, rfl⟩      -- the fresh object's address
  rw [← g5] at A5 D5 st5      -- A5 : Exa Z h5 b5 "com/example/metrogate/metrogate/ClientLimits"; E5 : Ext T4.heap h5 (carries every older fact: .ext E5)
  have F_connections_b5 : Fld Z h5 b5 "com/example/metrogate/metrogate/ClientLimits" "connections" "I" (.int (0 : Int32)) := D5 (Or.inr (hw _ (List.mem_of_getElem? (i := 32) rfl))) (ty := .int) (by decide)
  have F_arrivingBodies_b5 : Fld Z h5 b5 "com/example/metrogate/metrogate/ClientLimits" "arrivingBodies" "I" (.int (0 : Int32)) := D5 (Or.inr (hw _ (List.mem_of_getElem? (i := 34) rfl))) (ty := .int) (by decide)
  have F_sharedBodyBytes_b5 : Fld Z h5 b5 "com/example/metrogate/metrogate/ClientLimits" "sharedBodyBytes" "J" (.long (0 : Int64)) := D5 (Or.inr (hw _ (List.mem_of_getElem? (i := 36) rfl))) (ty := .long) (by decide)
  have F_addressBytes_b5 : Fld Z h5 b5 "com/example/metrogate/metrogate/ClientLimits" "addressBytes" "J" (.long (0 : Int64)) := D5 (Or.inr (hw _ (List.mem_of_getElem? (i := 38) rfl))) (ty := .long) (by decide)
  have E_b5 := A5
  have g_b5 : n0 ≤ b5 := Nat.le_trans (Nat.le_trans (Nat.le_trans (Nat.le_trans Z0 Kc2.1) Kc3.1) Kc4.1) (Nat.le_of_eq g5.symm)
  have sz_b5 : h0.size ≤ b5 := (Nat.le_trans K4h.1 (Nat.le_of_eq g5.symm))
  have K5 : Keep h0 h5 [] := K4h.ext E5
  -- pc 50: the constructor of com/example/metrogate/metrogate/ClientLimits by its contract rm4
  obtain ⟨_, _, ⟨T6, L6, k6, n6⟩, -, X6, ⟨Lc6, hQ6, l6, y6, z6⟩, st6⟩ := X5.specialBack hx (y := (⟨"com/example/metrogate/metrogate/ClientLimits", "<init>", "(IIJJ)V"⟩ : MethodName)) rfl hown (mvT hZ (hw _ (List.mem_of_getElem? (i := 20) rfl))) (mvT hZ (hw _ (List.mem_of_getElem? (i := 21) rfl))) (mvT hZ (hw _ (List.mem_of_getElem? (i := 22) rfl))) (by decide) (backOf (W := 1) (rm4 l Z a0 hw [] b5 ((own_c q1).toInt32) (((own_c q1).toInt32) / (2 : Int32)) (q1 / (16 : Int64)) (q1 / (64 : Int64)) (.int (0 : Int32)) (.int (0 : Int32)) (.long (0 : Int64)) (.long (0 : Int64)) h5 n0 (Nat.le_trans Z0 K5.1) E_b5 F_connections_b5 g_b5 F_arrivingBodies_b5 F_sharedBodyBytes_b5 F_addressBytes_b5) hZ (hw _ (List.mem_of_getElem? (i := 22) rfl)) (hw _ (List.mem_of_getElem? (i := 3) rfl)) (by decide) (by decide)) (g := (mkF m 50 #[.val (.long q1), .second, .val (.long ((own_max (0 : Int64) (q1 - (16777216 : Int64))) / (262144 : Int64))), .second, .val (.int ((own_c q1).toInt32))] [(.long (q1 / (64 : Int64))), (.long (q1 / (16 : Int64))), (.int (((own_c q1).toInt32) / (2 : Int32))), (.int ((own_c q1).toInt32)), (.ref b5), (.ref b5)])) rfl (by rw [hml]; rfl) (Steps.refl _) (a := b5) (argsL := [(.int ((own_c q1).toInt32)), (.int (((own_c q1).toInt32) / (2 : Int32))), (.long (q1 / (16 : Int64))), (.long (q1 / (64 : Int64)))]) (rest := [(.ref b5)]) (lenOf pd_1_2 rfl) rfl (by show 2 * 0 + _ ≤ _; exact Nat.le_of_eq rfl) (hb hby d1_50) (fun _ _ => ⟨rfl, e5, (by decide : 1 + 0 ≤ _), (by decide : 4 + 0 ≤ _)⟩)
  dsimp only [Pt.U, Pt.locs, Pt.cells, Pt.slots] at X6 l6 y6 z6 st6 hQ6
  subst l6 y6 z6
  obtain ⟨rfl, N6q, K6c, E6x, F6a, F6b, F6c, F6d⟩ := hQ6
  have N6 := Fr.app N4 N6q
  obtain ⟨fs, hr, hrun, hended, hW, hsame⟩ := X6.leave (v := some (.ref b5)) (fun h => by rw [Bd.returns] at h; cases h)
  refine ⟨_, _, pre0 _ ?_, hrun, hended, _, _, rfl, ?_, ⟨_, rfl⟩, hW, hsame.mono (by decide) (by decide)⟩
  -- 4. STEPS
  · show Steps p.tables e below (s₁.setTop (mkF m 0 #[.val (.long q1), .second, .unset, .unset, .unset] [])) _
    refine XS.lconst X0.here hx rfl (hb hby d1_0) ?_
    show Steps p.tables e below (s₁.setTop (mkF m 1 #[.val (.long q1), .second, .unset, .unset, .unset] [(.long (0 : Int64))])) _
    refine XS.lloadN X0.here hx rfl (hb hby d1_1) rfl ?_
    show Steps p.tables e below (s₁.setTop (mkF m 2 #[.val (.long q1), .second, .unset, .unset, .unset] [(.long q1), (.long (0 : Int64))])) _
    refine X0.ldc2Long hx hown (mvT hZ (hw _ (List.mem_of_getElem? (i := 5) rfl))) (g := (mkF m 2 #[.val (.long q1), .second, .unset, .unset, .unset] [(.long q1), (.long (0 : Int64))])) rfl (hb hby d1_2) _ ?_
    show Steps p.tables e below (s₁.setTop (mkF m 5 #[.val (.long q1), .second, .unset, .unset, .unset] [(.long (16777216 : Int64)), (.long q1), (.long (0 : Int64))])) _
    refine XS.lsub X0.here hx rfl (hb hby d1_5) rfl ?_
    show Steps p.tables e below (s₁.setTop (mkF m 6 #[.val (.long q1), .second, .unset, .unset, .unset] [(.long (q1 - (16777216 : Int64))), (.long (0 : Int64))])) _
    refine st2 _ ?_
    show Steps p.tables e below (T2.setTop (mkF m 9 #[.val (.long q1), .second, .unset, .unset, .unset] [(.long (own_max (0 : Int64) (q1 - (16777216 : Int64))))])) _
    refine X2.ldc2Long hx hown (mvT hZ (hw _ (List.mem_of_getElem? (i := 10) rfl))) (g := (mkF m 9 #[.val (.long q1), .second, .unset, .unset, .unset] [(.long (own_max (0 : Int64) (q1 - (16777216 : Int64))))])) rfl (hb hby d1_9) _ ?_
    show Steps p.tables e below (T2.setTop (mkF m 12 #[.val (.long q1), .second, .unset, .unset, .unset] [(.long (262144 : Int64)), (.long (own_max (0 : Int64) (q1 - (16777216 : Int64))))])) _
    have hnz12 : ¬ ((262144 : Int64) = (0 : Int64)) := by decide
    refine XS.ldiv X2.here hx rfl (hb hby d1_12) rfl hnz12 ?_
    show Steps p.tables e below (T2.setTop (mkF m 13 #[.val (.long q1), .second, .unset, .unset, .unset] [(.long ((own_max (0 : Int64) (q1 - (16777216 : Int64))) / (262144 : Int64)))])) _
    refine XS.lstoreN X2.here hx rfl (hb hby d1_13) rfl (l' := #[.val (.long q1), .second, .val (.long ((own_max (0 : Int64) (q1 - (16777216 : Int64))) / (262144 : Int64))), .second, .unset]) rfl ?_
    show Steps p.tables e below (T2.setTop (mkF m 14 #[.val (.long q1), .second, .val (.long ((own_max (0 : Int64) (q1 - (16777216 : Int64))) / (262144 : Int64))), .second, .unset] [])) _
    refine X2.ldc2Long hx hown (mvT hZ (hw _ (List.mem_of_getElem? (i := 11) rfl))) (g := (mkF m 14 #[.val (.long q1), .second, .val (.long ((own_max (0 : Int64) (q1 - (16777216 : Int64))) / (262144 : Int64))), .second, .unset] [])) rfl (hb hby d1_14) _ ?_
    show Steps p.tables e below (T2.setTop (mkF m 17 #[.val (.long q1), .second, .val (.long ((own_max (0 : Int64) (q1 - (16777216 : Int64))) / (262144 : Int64))), .second, .unset] [(.long (2 : Int64))])) _
    refine X2.ldc2Long hx hown (mvT hZ (hw _ (List.mem_of_getElem? (i := 12) rfl))) (g := (mkF m 17 #[.val (.long q1), .second, .val (.long ((own_max (0 : Int64) (q1 - (16777216 : Int64))) / (262144 : Int64))), .second, .unset] [(.long (2 : Int64))])) rfl (hb hby d1_17) _ ?_
    show Steps p.tables e below (T2.setTop (mkF m 20 #[.val (.long q1), .second, .val (.long ((own_max (0 : Int64) (q1 - (16777216 : Int64))) / (262144 : Int64))), .second, .unset] [(.long (8192 : Int64)), (.long (2 : Int64))])) _
    refine XS.lloadN X2.here hx rfl (hb hby d1_20) rfl ?_
    show Steps p.tables e below (T2.setTop (mkF m 21 #[.val (.long q1), .second, .val (.long ((own_max (0 : Int64) (q1 - (16777216 : Int64))) / (262144 : Int64))), .second, .unset] [(.long ((own_max (0 : Int64) (q1 - (16777216 : Int64))) / (262144 : Int64))), (.long (8192 : Int64)), (.long (2 : Int64))])) _
    refine st3 _ ?_
    show Steps p.tables e below (T3.setTop (mkF m 24 #[.val (.long q1), .second, .val (.long ((own_max (0 : Int64) (q1 - (16777216 : Int64))) / (262144 : Int64))), .second, .unset] [(.long (own_min (8192 : Int64) ((own_max (0 : Int64) (q1 - (16777216 : Int64))) / (262144 : Int64)))), (.long (2 : Int64))])) _
    refine st4 _ ?_
    show Steps p.tables e below (T4.setTop (mkF m 27 #[.val (.long q1), .second, .val (.long ((own_max (0 : Int64) (q1 - (16777216 : Int64))) / (262144 : Int64))), .second, .unset] [(.long (own_c q1))])) _
    refine XS.l2i X4.here hx rfl (hb hby d1_27) rfl ?_
    show Steps p.tables e below (T4.setTop (mkF m 28 #[.val (.long q1), .second, .val (.long ((own_max (0 : Int64) (q1 - (16777216 : Int64))) / (262144 : Int64))), .second, .unset] [(.int ((own_c q1).toInt32))])) _
    refine XS.istore X4.here hx rfl (hb hby d1_28) rfl (l' := #[.val (.long q1), .second, .val (.long ((own_max (0 : Int64) (q1 - (16777216 : Int64))) / (262144 : Int64))), .second, .val (.int ((own_c q1).toInt32))]) rfl ?_
    show Steps p.tables e below (T4.setTop (mkF m 30 #[.val (.long q1), .second, .val (.long ((own_max (0 : Int64) (q1 - (16777216 : Int64))) / (262144 : Int64))), .second, .val (.int ((own_c q1).toInt32))] [])) _
    refine st5 _ ?_
    show Steps p.tables e below (T5.setTop (mkF m 33 #[.val (.long q1), .second, .val (.long ((own_max (0 : Int64) (q1 - (16777216 : Int64))) / (262144 : Int64))), .second, .val (.int ((own_c q1).toInt32))] [(.ref b5)])) _
    refine XS.dup X5.here hx rfl (hb hby d1_33) rfl rfl ?_
    show Steps p.tables e below (T5.setTop (mkF m 34 #[.val (.long q1), .second, .val (.long ((own_max (0 : Int64) (q1 - (16777216 : Int64))) / (262144 : Int64))), .second, .val (.int ((own_c q1).toInt32))] [(.ref b5), (.ref b5)])) _
    refine XS.iload X5.here hx rfl (hb hby d1_34) rfl ?_
    show Steps p.tables e below (T5.setTop (mkF m 36 #[.val (.long q1), .second, .val (.long ((own_max (0 : Int64) (q1 - (16777216 : Int64))) / (262144 : Int64))), .second, .val (.int ((own_c q1).toInt32))] [(.int ((own_c q1).toInt32)), (.ref b5), (.ref b5)])) _
    refine XS.iload X5.here hx rfl (hb hby d1_36) rfl ?_
    show Steps p.tables e below (T5.setTop (mkF m 38 #[.val (.long q1), .second, .val (.long ((own_max (0 : Int64) (q1 - (16777216 : Int64))) / (262144 : Int64))), .second, .val (.int ((own_c q1).toInt32))] [(.int ((own_c q1).toInt32)), (.int ((own_c q1).toInt32)), (.ref b5), (.ref b5)])) _
    refine XS.iconst X5.here hx rfl (hb hby d1_38) ?_
    show Steps p.tables e below (T5.setTop (mkF m 39 #[.val (.long q1), .second, .val (.long ((own_max (0 : Int64) (q1 - (16777216 : Int64))) / (262144 : Int64))), .second, .val (.int ((own_c q1).toInt32))] [(.int (2 : Int32)), (.int ((own_c q1).toInt32)), (.int ((own_c q1).toInt32)), (.ref b5), (.ref b5)])) _
    have hnz39 : ¬ ((2 : Int32) = (0 : Int32)) := by decide
    refine XS.idiv X5.here hx rfl (hb hby d1_39) rfl hnz39 ?_
    show Steps p.tables e below (T5.setTop (mkF m 40 #[.val (.long q1), .second, .val (.long ((own_max (0 : Int64) (q1 - (16777216 : Int64))) / (262144 : Int64))), .second, .val (.int ((own_c q1).toInt32))] [(.int (((own_c q1).toInt32) / (2 : Int32))), (.int ((own_c q1).toInt32)), (.ref b5), (.ref b5)])) _
    refine XS.lloadN X5.here hx rfl (hb hby d1_40) rfl ?_
    show Steps p.tables e below (T5.setTop (mkF m 41 #[.val (.long q1), .second, .val (.long ((own_max (0 : Int64) (q1 - (16777216 : Int64))) / (262144 : Int64))), .second, .val (.int ((own_c q1).toInt32))] [(.long q1), (.int (((own_c q1).toInt32) / (2 : Int32))), (.int ((own_c q1).toInt32)), (.ref b5), (.ref b5)])) _
    refine X5.ldc2Long hx hown (mvT hZ (hw _ (List.mem_of_getElem? (i := 18) rfl))) (g := (mkF m 41 #[.val (.long q1), .second, .val (.long ((own_max (0 : Int64) (q1 - (16777216 : Int64))) / (262144 : Int64))), .second, .val (.int ((own_c q1).toInt32))] [(.long q1), (.int (((own_c q1).toInt32) / (2 : Int32))), (.int ((own_c q1).toInt32)), (.ref b5), (.ref b5)])) rfl (hb hby d1_41) _ ?_
    show Steps p.tables e below (T5.setTop (mkF m 44 #[.val (.long q1), .second, .val (.long ((own_max (0 : Int64) (q1 - (16777216 : Int64))) / (262144 : Int64))), .second, .val (.int ((own_c q1).toInt32))] [(.long (16 : Int64)), (.long q1), (.int (((own_c q1).toInt32) / (2 : Int32))), (.int ((own_c q1).toInt32)), (.ref b5), (.ref b5)])) _
    have hnz44 : ¬ ((16 : Int64) = (0 : Int64)) := by decide
    refine XS.ldiv X5.here hx rfl (hb hby d1_44) rfl hnz44 ?_
    show Steps p.tables e below (T5.setTop (mkF m 45 #[.val (.long q1), .second, .val (.long ((own_max (0 : Int64) (q1 - (16777216 : Int64))) / (262144 : Int64))), .second, .val (.int ((own_c q1).toInt32))] [(.long (q1 / (16 : Int64))), (.int (((own_c q1).toInt32) / (2 : Int32))), (.int ((own_c q1).toInt32)), (.ref b5), (.ref b5)])) _
    refine XS.lloadN X5.here hx rfl (hb hby d1_45) rfl ?_
    show Steps p.tables e below (T5.setTop (mkF m 46 #[.val (.long q1), .second, .val (.long ((own_max (0 : Int64) (q1 - (16777216 : Int64))) / (262144 : Int64))), .second, .val (.int ((own_c q1).toInt32))] [(.long q1), (.long (q1 / (16 : Int64))), (.int (((own_c q1).toInt32) / (2 : Int32))), (.int ((own_c q1).toInt32)), (.ref b5), (.ref b5)])) _
    refine X5.ldc2Long hx hown (mvT hZ (hw _ (List.mem_of_getElem? (i := 19) rfl))) (g := (mkF m 46 #[.val (.long q1), .second, .val (.long ((own_max (0 : Int64) (q1 - (16777216 : Int64))) / (262144 : Int64))), .second, .val (.int ((own_c q1).toInt32))] [(.long q1), (.long (q1 / (16 : Int64))), (.int (((own_c q1).toInt32) / (2 : Int32))), (.int ((own_c q1).toInt32)), (.ref b5), (.ref b5)])) rfl (hb hby d1_46) _ ?_
    show Steps p.tables e below (T5.setTop (mkF m 49 #[.val (.long q1), .second, .val (.long ((own_max (0 : Int64) (q1 - (16777216 : Int64))) / (262144 : Int64))), .second, .val (.int ((own_c q1).toInt32))] [(.long (64 : Int64)), (.long q1), (.long (q1 / (16 : Int64))), (.int (((own_c q1).toInt32) / (2 : Int32))), (.int ((own_c q1).toInt32)), (.ref b5), (.ref b5)])) _
    have hnz49 : ¬ ((64 : Int64) = (0 : Int64)) := by decide
    refine XS.ldiv X5.here hx rfl (hb hby d1_49) rfl hnz49 ?_
    show Steps p.tables e below (T5.setTop (mkF m 50 #[.val (.long q1), .second, .val (.long ((own_max (0 : Int64) (q1 - (16777216 : Int64))) / (262144 : Int64))), .second, .val (.int ((own_c q1).toInt32))] [(.long (q1 / (64 : Int64))), (.long (q1 / (16 : Int64))), (.int (((own_c q1).toInt32) / (2 : Int32))), (.int ((own_c q1).toInt32)), (.ref b5), (.ref b5)])) _
    refine st6.trans ?_
    show Steps p.tables e below (T6.setTop (mkF m 53 #[.val (.long q1), .second, .val (.long ((own_max (0 : Int64) (q1 - (16777216 : Int64))) / (262144 : Int64))), .second, .val (.int ((own_c q1).toInt32))] [(.ref b5)])) _
    jvm_step X6.here [X6.here.top, hx, (hb hby d1_53), X6.method', Bd.returns, Value.isRef, FieldType.isReference]
    first | (intro acts; rw [hr _ acts rfl rfl rfl]) | rw [hr _ _ rfl rfl rfl]
    exact Steps.refl _
  · show Q1 Z q1 h0 n0 _ T6.heap _
    exact ⟨b5, rfl, N6, K5.trans K6c (allS (Or.inr sz_b5) all0), E6x, F6a, F6b, F6c, F6d⟩
theorem pn_0 : plainName "com/example/metrogate/metrogate/ClientLimitsForHeapPinLaw" = true := by first | (simp [plainName, overriddenIn]; done) | decide +kernel
theorem pd_0_0 : parseMethodDescriptor "(J)Lcom/example/metrogate/metrogate/ClientLimits;" = some ⟨[.long], some (.object "com/example/metrogate/metrogate/ClientLimits")⟩ := by decide +kernel
theorem pd_0_4 : parseMethodDescriptor "()I" = some ⟨[], some .int⟩ := by decide +kernel
theorem pd_0_5 : parseMethodDescriptor "()J" = some ⟨[], some .long⟩ := by decide +kernel
theorem ef_0 (m : MethodId) (x0 : Int64) (x1 : Int32) : entryFrame m #[(.long x0), (.int x1)] maxLocals = mkF m 0 #[.val (.long x0), .second, .val (.int x1), .unset, .unset, .unset, .unset, .unset, .unset, .unset, .unset, .unset, .unset, .unset, .unset, .unset, .unset, .unset, .unset, .unset, .unset] [] := by first | (simp [entryFrame, mkF, argsToLocals, Value.category, maxLocals]; done) | rfl
def Q0 (Z : State) (q1 : Int64) (p2 : Int32) (h0 : Heap) (n0 : Nat) (v : Option Value) (h : Heap) (L : List Loc) : Prop := v = some (.int (1 : Int32)) ∧ Fr n0 L
set_option maxRecDepth 65536 in
set_option maxHeartbeats 40000000 in
theorem rm0 (l : Launch) (Z : State) (a0 : Array Value) (hw : ∀ d ∈ tables_1, d.before a0 Z = true) (ws : List Jvm.Cond) (q1 : Int64) (p2 : Int32) (h0 : Heap) (n0 : Nat) (Z0 : n0 ≤ h0.size) :
    MetFree l x (head1 (Jvm.Cond.code x code maxLocals ret :: ws) room_1) (fun a U => a = #[(.long q1), (.int p2)] ∧ Z.Warmed39 U.vm ∧ U.heap = h0) (fun _ _ _ _ _ => True) (fun _ U o U' => ∃ v L, o = .returned v ∧ Q0 Z q1 p2 h0 n0 v U'.heap L ∧ FrameEnd U o U' L room_1.cells room_1.slots) := by
  refine MetFree.of_bodySF (plainFor_of_name pn_0) hisR ?_
  intro p e s m args below meth c s₁ Bd hml0 hP hK
  obtain ⟨rfl, hZ, hh⟩ := hP
  have hx := Bd.exec
  have hby := Bd.bytes
  have hml : c.maxLocals = 21 := hml0
  have hown : s.vm.findClass "com/example/metrogate/metrogate/ClientLimitsForHeapPinLaw" = some m.cls := findClass_of_methodNamed Bd.named
  have hnm := (name_of_methodNamed Bd.named Bd.method).1
  have X0 : Stand p l e room_1 s m #[(.long q1), (.int p2)] below meth c s₁ [] 0 0 := Stand.of_body Bd
  have e0 : s₁.heap = h0 := by rw [← hh, Bd.state]; rfl
  have N0 := Fr.nil n0
  have pre0 : ∀ t, Steps p.tables e below (s₁.setTop (mkF m 0 #[.val (.long q1), .second, .val (.int p2), .unset, .unset, .unset, .unset, .unset, .unset, .unset, .unset, .unset, .unset, .unset, .unset, .unset, .unset, .unset, .unset, .unset, .unset] [])) t → Steps p.tables e below (s₁.setTop (entryFrame m #[(.long q1), (.int p2)] maxLocals)) t := fun t k => castTop (ef_0 m q1 p2) k
  obtain ⟨hv, hv0, preh⟩ : ∃ hv : Int64, 0 ≤ hv.toInt ∧ ∀ t, Steps p.tables e below (s₁.setTop (mkF m 59 #[.val (.long q1), .second, .val (.int p2), .val (.int (p2 &&& (3 : Int32))), .val (.long hv), .second, .unset, .unset, .unset, .unset, .unset, .unset, .unset, .unset, .unset, .unset, .unset, .unset, .unset, .unset, .unset] [])) t → Steps p.tables e below (s₁.setTop (mkF m 0 #[.val (.long q1), .second, .val (.int p2), .unset, .unset, .unset, .unset, .unset, .unset, .unset, .unset, .unset, .unset, .unset, .unset, .unset, .unset, .unset, .unset, .unset, .unset] [])) t := by
    by_cases hc5 : (p2 &&& (3 : Int32)) = (0 : Int32)
    · refine ⟨(q1 &&& (9223372036854775807 : Int64)), own_m63 q1, fun t kt => ?_⟩
      show Steps p.tables e below (s₁.setTop (mkF m 0 #[.val (.long q1), .second, .val (.int p2), .unset, .unset, .unset, .unset, .unset, .unset, .unset, .unset, .unset, .unset, .unset, .unset, .unset, .unset, .unset, .unset, .unset, .unset] [])) _
      refine XS.iloadN X0.here hx rfl (hb hby at_0) rfl ?_
      show Steps p.tables e below (s₁.setTop (mkF m 1 #[.val (.long q1), .second, .val (.int p2), .unset, .unset, .unset, .unset, .unset, .unset, .unset, .unset, .unset, .unset, .unset, .unset, .unset, .unset, .unset, .unset, .unset, .unset] [(.int p2)])) _
      refine XS.iconst X0.here hx rfl (hb hby at_1) ?_
      show Steps p.tables e below (s₁.setTop (mkF m 2 #[.val (.long q1), .second, .val (.int p2), .unset, .unset, .unset, .unset, .unset, .unset, .unset, .unset, .unset, .unset, .unset, .unset, .unset, .unset, .unset, .unset, .unset, .unset] [(.int (3 : Int32)), (.int p2)])) _
      refine XS.iand X0.here hx rfl (hb hby at_2) rfl ?_
      show Steps p.tables e below (s₁.setTop (mkF m 3 #[.val (.long q1), .second, .val (.int p2), .unset, .unset, .unset, .unset, .unset, .unset, .unset, .unset, .unset, .unset, .unset, .unset, .unset, .unset, .unset, .unset, .unset, .unset] [(.int (p2 &&& (3 : Int32)))])) _
      refine XS.istoreN X0.here hx rfl (hb hby at_3) rfl (l' := #[.val (.long q1), .second, .val (.int p2), .val (.int (p2 &&& (3 : Int32))), .unset, .unset, .unset, .unset, .unset, .unset, .unset, .unset, .unset, .unset, .unset, .unset, .unset, .unset, .unset, .unset, .unset]) rfl ?_
      show Steps p.tables e below (s₁.setTop (mkF m 4 #[.val (.long q1), .second, .val (.int p2), .val (.int (p2 &&& (3 : Int32))), .unset, .unset, .unset, .unset, .unset, .unset, .unset, .unset, .unset, .unset, .unset, .unset, .unset, .unset, .unset, .unset, .unset] [])) _
      refine XS.iloadN X0.here hx rfl (hb hby at_4) rfl ?_
      show Steps p.tables e below (s₁.setTop (mkF m 5 #[.val (.long q1), .second, .val (.int p2), .val (.int (p2 &&& (3 : Int32))), .unset, .unset, .unset, .unset, .unset, .unset, .unset, .unset, .unset, .unset, .unset, .unset, .unset, .unset, .unset, .unset, .unset] [(.int (p2 &&& (3 : Int32)))])) _
      refine XS.ifNo X0.here hx rfl (hb hby at_5) rfl ((if0 _ _).trans (teq hc5).2) ?_
      show Steps p.tables e below (s₁.setTop (mkF m 8 #[.val (.long q1), .second, .val (.int p2), .val (.int (p2 &&& (3 : Int32))), .unset, .unset, .unset, .unset, .unset, .unset, .unset, .unset, .unset, .unset, .unset, .unset, .unset, .unset, .unset, .unset, .unset] [])) _
      refine XS.lloadN X0.here hx rfl (hb hby at_8) rfl ?_
      show Steps p.tables e below (s₁.setTop (mkF m 9 #[.val (.long q1), .second, .val (.int p2), .val (.int (p2 &&& (3 : Int32))), .unset, .unset, .unset, .unset, .unset, .unset, .unset, .unset, .unset, .unset, .unset, .unset, .unset, .unset, .unset, .unset, .unset] [(.long q1)])) _
      refine X0.ldc2Long hx hown (mvT hZ (hw _ (List.mem_of_getElem? (i := 65) rfl))) (g := (mkF m 9 #[.val (.long q1), .second, .val (.int p2), .val (.int (p2 &&& (3 : Int32))), .unset, .unset, .unset, .unset, .unset, .unset, .unset, .unset, .unset, .unset, .unset, .unset, .unset, .unset, .unset, .unset, .unset] [(.long q1)])) rfl (hb hby at_9) _ ?_
      show Steps p.tables e below (s₁.setTop (mkF m 12 #[.val (.long q1), .second, .val (.int p2), .val (.int (p2 &&& (3 : Int32))), .unset, .unset, .unset, .unset, .unset, .unset, .unset, .unset, .unset, .unset, .unset, .unset, .unset, .unset, .unset, .unset, .unset] [(.long (9223372036854775807 : Int64)), (.long q1)])) _
      refine XS.land X0.here hx rfl (hb hby at_12) rfl ?_
      show Steps p.tables e below (s₁.setTop (mkF m 13 #[.val (.long q1), .second, .val (.int p2), .val (.int (p2 &&& (3 : Int32))), .unset, .unset, .unset, .unset, .unset, .unset, .unset, .unset, .unset, .unset, .unset, .unset, .unset, .unset, .unset, .unset, .unset] [(.long (q1 &&& (9223372036854775807 : Int64)))])) _
      refine XS.lstore X0.here hx rfl (hb hby at_13) rfl (l' := #[.val (.long q1), .second, .val (.int p2), .val (.int (p2 &&& (3 : Int32))), .val (.long (q1 &&& (9223372036854775807 : Int64))), .second, .unset, .unset, .unset, .unset, .unset, .unset, .unset, .unset, .unset, .unset, .unset, .unset, .unset, .unset, .unset]) rfl ?_
      show Steps p.tables e below (s₁.setTop (mkF m 15 #[.val (.long q1), .second, .val (.int p2), .val (.int (p2 &&& (3 : Int32))), .val (.long (q1 &&& (9223372036854775807 : Int64))), .second, .unset, .unset, .unset, .unset, .unset, .unset, .unset, .unset, .unset, .unset, .unset, .unset, .unset, .unset, .unset] [])) _
      refine XS.goto X0.here hx rfl (pc0 := 15) (pc' := 59) rfl (hb hby at_15) (by decide) (by decide) ?_
      exact kt
    · by_cases hc20 : (p2 &&& (3 : Int32)) = (1 : Int32)
      · refine ⟨(q1 &&& (4294967295 : Int64)), own_m32 q1, fun t kt => ?_⟩
        show Steps p.tables e below (s₁.setTop (mkF m 0 #[.val (.long q1), .second, .val (.int p2), .unset, .unset, .unset, .unset, .unset, .unset, .unset, .unset, .unset, .unset, .unset, .unset, .unset, .unset, .unset, .unset, .unset, .unset] [])) _
        refine XS.iloadN X0.here hx rfl (hb hby at_0) rfl ?_
        show Steps p.tables e below (s₁.setTop (mkF m 1 #[.val (.long q1), .second, .val (.int p2), .unset, .unset, .unset, .unset, .unset, .unset, .unset, .unset, .unset, .unset, .unset, .unset, .unset, .unset, .unset, .unset, .unset, .unset] [(.int p2)])) _
        refine XS.iconst X0.here hx rfl (hb hby at_1) ?_
        show Steps p.tables e below (s₁.setTop (mkF m 2 #[.val (.long q1), .second, .val (.int p2), .unset, .unset, .unset, .unset, .unset, .unset, .unset, .unset, .unset, .unset, .unset, .unset, .unset, .unset, .unset, .unset, .unset, .unset] [(.int (3 : Int32)), (.int p2)])) _
        refine XS.iand X0.here hx rfl (hb hby at_2) rfl ?_
        show Steps p.tables e below (s₁.setTop (mkF m 3 #[.val (.long q1), .second, .val (.int p2), .unset, .unset, .unset, .unset, .unset, .unset, .unset, .unset, .unset, .unset, .unset, .unset, .unset, .unset, .unset, .unset, .unset, .unset] [(.int (p2 &&& (3 : Int32)))])) _
        refine XS.istoreN X0.here hx rfl (hb hby at_3) rfl (l' := #[.val (.long q1), .second, .val (.int p2), .val (.int (p2 &&& (3 : Int32))), .unset, .unset, .unset, .unset, .unset, .unset, .unset, .unset, .unset, .unset, .unset, .unset, .unset, .unset, .unset, .unset, .unset]) rfl ?_
        show Steps p.tables e below (s₁.setTop (mkF m 4 #[.val (.long q1), .second, .val (.int p2), .val (.int (p2 &&& (3 : Int32))), .unset, .unset, .unset, .unset, .unset, .unset, .unset, .unset, .unset, .unset, .unset, .unset, .unset, .unset, .unset, .unset, .unset] [])) _
        refine XS.iloadN X0.here hx rfl (hb hby at_4) rfl ?_
        show Steps p.tables e below (s₁.setTop (mkF m 5 #[.val (.long q1), .second, .val (.int p2), .val (.int (p2 &&& (3 : Int32))), .unset, .unset, .unset, .unset, .unset, .unset, .unset, .unset, .unset, .unset, .unset, .unset, .unset, .unset, .unset, .unset, .unset] [(.int (p2 &&& (3 : Int32)))])) _
        refine XS.ifYes X0.here hx rfl (pc0 := 5) (pc' := 18) rfl (hb hby at_5) rfl ((if0 _ _).trans (feq hc5).2) (by decide) (by decide) ?_
        show Steps p.tables e below (s₁.setTop (mkF m 18 #[.val (.long q1), .second, .val (.int p2), .val (.int (p2 &&& (3 : Int32))), .unset, .unset, .unset, .unset, .unset, .unset, .unset, .unset, .unset, .unset, .unset, .unset, .unset, .unset, .unset, .unset, .unset] [])) _
        refine XS.iloadN X0.here hx rfl (hb hby at_18) rfl ?_
        show Steps p.tables e below (s₁.setTop (mkF m 19 #[.val (.long q1), .second, .val (.int p2), .val (.int (p2 &&& (3 : Int32))), .unset, .unset, .unset, .unset, .unset, .unset, .unset, .unset, .unset, .unset, .unset, .unset, .unset, .unset, .unset, .unset, .unset] [(.int (p2 &&& (3 : Int32)))])) _
        refine XS.iconst X0.here hx rfl (hb hby at_19) ?_
        show Steps p.tables e below (s₁.setTop (mkF m 20 #[.val (.long q1), .second, .val (.int p2), .val (.int (p2 &&& (3 : Int32))), .unset, .unset, .unset, .unset, .unset, .unset, .unset, .unset, .unset, .unset, .unset, .unset, .unset, .unset, .unset, .unset, .unset] [(.int (1 : Int32)), (.int (p2 &&& (3 : Int32)))])) _
        refine XS.icmpNo X0.here hx rfl (hb hby at_20) rfl (teq hc20).2 ?_
        show Steps p.tables e below (s₁.setTop (mkF m 23 #[.val (.long q1), .second, .val (.int p2), .val (.int (p2 &&& (3 : Int32))), .unset, .unset, .unset, .unset, .unset, .unset, .unset, .unset, .unset, .unset, .unset, .unset, .unset, .unset, .unset, .unset, .unset] [])) _
        refine XS.lloadN X0.here hx rfl (hb hby at_23) rfl ?_
        show Steps p.tables e below (s₁.setTop (mkF m 24 #[.val (.long q1), .second, .val (.int p2), .val (.int (p2 &&& (3 : Int32))), .unset, .unset, .unset, .unset, .unset, .unset, .unset, .unset, .unset, .unset, .unset, .unset, .unset, .unset, .unset, .unset, .unset] [(.long q1)])) _
        refine X0.ldc2Long hx hown (mvT hZ (hw _ (List.mem_of_getElem? (i := 71) rfl))) (g := (mkF m 24 #[.val (.long q1), .second, .val (.int p2), .val (.int (p2 &&& (3 : Int32))), .unset, .unset, .unset, .unset, .unset, .unset, .unset, .unset, .unset, .unset, .unset, .unset, .unset, .unset, .unset, .unset, .unset] [(.long q1)])) rfl (hb hby at_24) _ ?_
        show Steps p.tables e below (s₁.setTop (mkF m 27 #[.val (.long q1), .second, .val (.int p2), .val (.int (p2 &&& (3 : Int32))), .unset, .unset, .unset, .unset, .unset, .unset, .unset, .unset, .unset, .unset, .unset, .unset, .unset, .unset, .unset, .unset, .unset] [(.long (4294967295 : Int64)), (.long q1)])) _
        refine XS.land X0.here hx rfl (hb hby at_27) rfl ?_
        show Steps p.tables e below (s₁.setTop (mkF m 28 #[.val (.long q1), .second, .val (.int p2), .val (.int (p2 &&& (3 : Int32))), .unset, .unset, .unset, .unset, .unset, .unset, .unset, .unset, .unset, .unset, .unset, .unset, .unset, .unset, .unset, .unset, .unset] [(.long (q1 &&& (4294967295 : Int64)))])) _
        refine XS.lstore X0.here hx rfl (hb hby at_28) rfl (l' := #[.val (.long q1), .second, .val (.int p2), .val (.int (p2 &&& (3 : Int32))), .val (.long (q1 &&& (4294967295 : Int64))), .second, .unset, .unset, .unset, .unset, .unset, .unset, .unset, .unset, .unset, .unset, .unset, .unset, .unset, .unset, .unset]) rfl ?_
        show Steps p.tables e below (s₁.setTop (mkF m 30 #[.val (.long q1), .second, .val (.int p2), .val (.int (p2 &&& (3 : Int32))), .val (.long (q1 &&& (4294967295 : Int64))), .second, .unset, .unset, .unset, .unset, .unset, .unset, .unset, .unset, .unset, .unset, .unset, .unset, .unset, .unset, .unset] [])) _
        refine XS.goto X0.here hx rfl (pc0 := 30) (pc' := 59) rfl (hb hby at_30) (by decide) (by decide) ?_
        exact kt
      · by_cases hc35 : (p2 &&& (3 : Int32)) = (2 : Int32)
        · refine ⟨(q1 &&& (268435455 : Int64)), own_m28 q1, fun t kt => ?_⟩
          show Steps p.tables e below (s₁.setTop (mkF m 0 #[.val (.long q1), .second, .val (.int p2), .unset, .unset, .unset, .unset, .unset, .unset, .unset, .unset, .unset, .unset, .unset, .unset, .unset, .unset, .unset, .unset, .unset, .unset] [])) _
          refine XS.iloadN X0.here hx rfl (hb hby at_0) rfl ?_
          show Steps p.tables e below (s₁.setTop (mkF m 1 #[.val (.long q1), .second, .val (.int p2), .unset, .unset, .unset, .unset, .unset, .unset, .unset, .unset, .unset, .unset, .unset, .unset, .unset, .unset, .unset, .unset, .unset, .unset] [(.int p2)])) _
          refine XS.iconst X0.here hx rfl (hb hby at_1) ?_
          show Steps p.tables e below (s₁.setTop (mkF m 2 #[.val (.long q1), .second, .val (.int p2), .unset, .unset, .unset, .unset, .unset, .unset, .unset, .unset, .unset, .unset, .unset, .unset, .unset, .unset, .unset, .unset, .unset, .unset] [(.int (3 : Int32)), (.int p2)])) _
          refine XS.iand X0.here hx rfl (hb hby at_2) rfl ?_
          show Steps p.tables e below (s₁.setTop (mkF m 3 #[.val (.long q1), .second, .val (.int p2), .unset, .unset, .unset, .unset, .unset, .unset, .unset, .unset, .unset, .unset, .unset, .unset, .unset, .unset, .unset, .unset, .unset, .unset] [(.int (p2 &&& (3 : Int32)))])) _
          refine XS.istoreN X0.here hx rfl (hb hby at_3) rfl (l' := #[.val (.long q1), .second, .val (.int p2), .val (.int (p2 &&& (3 : Int32))), .unset, .unset, .unset, .unset, .unset, .unset, .unset, .unset, .unset, .unset, .unset, .unset, .unset, .unset, .unset, .unset, .unset]) rfl ?_
          show Steps p.tables e below (s₁.setTop (mkF m 4 #[.val (.long q1), .second, .val (.int p2), .val (.int (p2 &&& (3 : Int32))), .unset, .unset, .unset, .unset, .unset, .unset, .unset, .unset, .unset, .unset, .unset, .unset, .unset, .unset, .unset, .unset, .unset] [])) _
          refine XS.iloadN X0.here hx rfl (hb hby at_4) rfl ?_
          show Steps p.tables e below (s₁.setTop (mkF m 5 #[.val (.long q1), .second, .val (.int p2), .val (.int (p2 &&& (3 : Int32))), .unset, .unset, .unset, .unset, .unset, .unset, .unset, .unset, .unset, .unset, .unset, .unset, .unset, .unset, .unset, .unset, .unset] [(.int (p2 &&& (3 : Int32)))])) _
          refine XS.ifYes X0.here hx rfl (pc0 := 5) (pc' := 18) rfl (hb hby at_5) rfl ((if0 _ _).trans (feq hc5).2) (by decide) (by decide) ?_
          show Steps p.tables e below (s₁.setTop (mkF m 18 #[.val (.long q1), .second, .val (.int p2), .val (.int (p2 &&& (3 : Int32))), .unset, .unset, .unset, .unset, .unset, .unset, .unset, .unset, .unset, .unset, .unset, .unset, .unset, .unset, .unset, .unset, .unset] [])) _
          refine XS.iloadN X0.here hx rfl (hb hby at_18) rfl ?_
          show Steps p.tables e below (s₁.setTop (mkF m 19 #[.val (.long q1), .second, .val (.int p2), .val (.int (p2 &&& (3 : Int32))), .unset, .unset, .unset, .unset, .unset, .unset, .unset, .unset, .unset, .unset, .unset, .unset, .unset, .unset, .unset, .unset, .unset] [(.int (p2 &&& (3 : Int32)))])) _
          refine XS.iconst X0.here hx rfl (hb hby at_19) ?_
          show Steps p.tables e below (s₁.setTop (mkF m 20 #[.val (.long q1), .second, .val (.int p2), .val (.int (p2 &&& (3 : Int32))), .unset, .unset, .unset, .unset, .unset, .unset, .unset, .unset, .unset, .unset, .unset, .unset, .unset, .unset, .unset, .unset, .unset] [(.int (1 : Int32)), (.int (p2 &&& (3 : Int32)))])) _
          refine XS.icmpYes X0.here hx rfl (pc0 := 20) (pc' := 33) rfl (hb hby at_20) rfl (feq hc20).2 (by decide) (by decide) ?_
          show Steps p.tables e below (s₁.setTop (mkF m 33 #[.val (.long q1), .second, .val (.int p2), .val (.int (p2 &&& (3 : Int32))), .unset, .unset, .unset, .unset, .unset, .unset, .unset, .unset, .unset, .unset, .unset, .unset, .unset, .unset, .unset, .unset, .unset] [])) _
          refine XS.iloadN X0.here hx rfl (hb hby at_33) rfl ?_
          show Steps p.tables e below (s₁.setTop (mkF m 34 #[.val (.long q1), .second, .val (.int p2), .val (.int (p2 &&& (3 : Int32))), .unset, .unset, .unset, .unset, .unset, .unset, .unset, .unset, .unset, .unset, .unset, .unset, .unset, .unset, .unset, .unset, .unset] [(.int (p2 &&& (3 : Int32)))])) _
          refine XS.iconst X0.here hx rfl (hb hby at_34) ?_
          show Steps p.tables e below (s₁.setTop (mkF m 35 #[.val (.long q1), .second, .val (.int p2), .val (.int (p2 &&& (3 : Int32))), .unset, .unset, .unset, .unset, .unset, .unset, .unset, .unset, .unset, .unset, .unset, .unset, .unset, .unset, .unset, .unset, .unset] [(.int (2 : Int32)), (.int (p2 &&& (3 : Int32)))])) _
          refine XS.icmpNo X0.here hx rfl (hb hby at_35) rfl (teq hc35).2 ?_
          show Steps p.tables e below (s₁.setTop (mkF m 38 #[.val (.long q1), .second, .val (.int p2), .val (.int (p2 &&& (3 : Int32))), .unset, .unset, .unset, .unset, .unset, .unset, .unset, .unset, .unset, .unset, .unset, .unset, .unset, .unset, .unset, .unset, .unset] [])) _
          refine XS.lloadN X0.here hx rfl (hb hby at_38) rfl ?_
          show Steps p.tables e below (s₁.setTop (mkF m 39 #[.val (.long q1), .second, .val (.int p2), .val (.int (p2 &&& (3 : Int32))), .unset, .unset, .unset, .unset, .unset, .unset, .unset, .unset, .unset, .unset, .unset, .unset, .unset, .unset, .unset, .unset, .unset] [(.long q1)])) _
          refine X0.ldc2Long hx hown (mvT hZ (hw _ (List.mem_of_getElem? (i := 0) rfl))) (g := (mkF m 39 #[.val (.long q1), .second, .val (.int p2), .val (.int (p2 &&& (3 : Int32))), .unset, .unset, .unset, .unset, .unset, .unset, .unset, .unset, .unset, .unset, .unset, .unset, .unset, .unset, .unset, .unset, .unset] [(.long q1)])) rfl (hb hby at_39) _ ?_
          show Steps p.tables e below (s₁.setTop (mkF m 42 #[.val (.long q1), .second, .val (.int p2), .val (.int (p2 &&& (3 : Int32))), .unset, .unset, .unset, .unset, .unset, .unset, .unset, .unset, .unset, .unset, .unset, .unset, .unset, .unset, .unset, .unset, .unset] [(.long (268435455 : Int64)), (.long q1)])) _
          refine XS.land X0.here hx rfl (hb hby at_42) rfl ?_
          show Steps p.tables e below (s₁.setTop (mkF m 43 #[.val (.long q1), .second, .val (.int p2), .val (.int (p2 &&& (3 : Int32))), .unset, .unset, .unset, .unset, .unset, .unset, .unset, .unset, .unset, .unset, .unset, .unset, .unset, .unset, .unset, .unset, .unset] [(.long (q1 &&& (268435455 : Int64)))])) _
          refine XS.lstore X0.here hx rfl (hb hby at_43) rfl (l' := #[.val (.long q1), .second, .val (.int p2), .val (.int (p2 &&& (3 : Int32))), .val (.long (q1 &&& (268435455 : Int64))), .second, .unset, .unset, .unset, .unset, .unset, .unset, .unset, .unset, .unset, .unset, .unset, .unset, .unset, .unset, .unset]) rfl ?_
          show Steps p.tables e below (s₁.setTop (mkF m 45 #[.val (.long q1), .second, .val (.int p2), .val (.int (p2 &&& (3 : Int32))), .val (.long (q1 &&& (268435455 : Int64))), .second, .unset, .unset, .unset, .unset, .unset, .unset, .unset, .unset, .unset, .unset, .unset, .unset, .unset, .unset, .unset] [])) _
          refine XS.goto X0.here hx rfl (pc0 := 45) (pc' := 59) rfl (hb hby at_45) (by decide) (by decide) ?_
          exact kt
        · refine ⟨((15728640 : Int64) + (q1 &&& (4194303 : Int64))), own_m22 q1, fun t kt => ?_⟩
          show Steps p.tables e below (s₁.setTop (mkF m 0 #[.val (.long q1), .second, .val (.int p2), .unset, .unset, .unset, .unset, .unset, .unset, .unset, .unset, .unset, .unset, .unset, .unset, .unset, .unset, .unset, .unset, .unset, .unset] [])) _
          refine XS.iloadN X0.here hx rfl (hb hby at_0) rfl ?_
          show Steps p.tables e below (s₁.setTop (mkF m 1 #[.val (.long q1), .second, .val (.int p2), .unset, .unset, .unset, .unset, .unset, .unset, .unset, .unset, .unset, .unset, .unset, .unset, .unset, .unset, .unset, .unset, .unset, .unset] [(.int p2)])) _
          refine XS.iconst X0.here hx rfl (hb hby at_1) ?_
          show Steps p.tables e below (s₁.setTop (mkF m 2 #[.val (.long q1), .second, .val (.int p2), .unset, .unset, .unset, .unset, .unset, .unset, .unset, .unset, .unset, .unset, .unset, .unset, .unset, .unset, .unset, .unset, .unset, .unset] [(.int (3 : Int32)), (.int p2)])) _
          refine XS.iand X0.here hx rfl (hb hby at_2) rfl ?_
          show Steps p.tables e below (s₁.setTop (mkF m 3 #[.val (.long q1), .second, .val (.int p2), .unset, .unset, .unset, .unset, .unset, .unset, .unset, .unset, .unset, .unset, .unset, .unset, .unset, .unset, .unset, .unset, .unset, .unset] [(.int (p2 &&& (3 : Int32)))])) _
          refine XS.istoreN X0.here hx rfl (hb hby at_3) rfl (l' := #[.val (.long q1), .second, .val (.int p2), .val (.int (p2 &&& (3 : Int32))), .unset, .unset, .unset, .unset, .unset, .unset, .unset, .unset, .unset, .unset, .unset, .unset, .unset, .unset, .unset, .unset, .unset]) rfl ?_
          show Steps p.tables e below (s₁.setTop (mkF m 4 #[.val (.long q1), .second, .val (.int p2), .val (.int (p2 &&& (3 : Int32))), .unset, .unset, .unset, .unset, .unset, .unset, .unset, .unset, .unset, .unset, .unset, .unset, .unset, .unset, .unset, .unset, .unset] [])) _
          refine XS.iloadN X0.here hx rfl (hb hby at_4) rfl ?_
          show Steps p.tables e below (s₁.setTop (mkF m 5 #[.val (.long q1), .second, .val (.int p2), .val (.int (p2 &&& (3 : Int32))), .unset, .unset, .unset, .unset, .unset, .unset, .unset, .unset, .unset, .unset, .unset, .unset, .unset, .unset, .unset, .unset, .unset] [(.int (p2 &&& (3 : Int32)))])) _
          refine XS.ifYes X0.here hx rfl (pc0 := 5) (pc' := 18) rfl (hb hby at_5) rfl ((if0 _ _).trans (feq hc5).2) (by decide) (by decide) ?_
          show Steps p.tables e below (s₁.setTop (mkF m 18 #[.val (.long q1), .second, .val (.int p2), .val (.int (p2 &&& (3 : Int32))), .unset, .unset, .unset, .unset, .unset, .unset, .unset, .unset, .unset, .unset, .unset, .unset, .unset, .unset, .unset, .unset, .unset] [])) _
          refine XS.iloadN X0.here hx rfl (hb hby at_18) rfl ?_
          show Steps p.tables e below (s₁.setTop (mkF m 19 #[.val (.long q1), .second, .val (.int p2), .val (.int (p2 &&& (3 : Int32))), .unset, .unset, .unset, .unset, .unset, .unset, .unset, .unset, .unset, .unset, .unset, .unset, .unset, .unset, .unset, .unset, .unset] [(.int (p2 &&& (3 : Int32)))])) _
          refine XS.iconst X0.here hx rfl (hb hby at_19) ?_
          show Steps p.tables e below (s₁.setTop (mkF m 20 #[.val (.long q1), .second, .val (.int p2), .val (.int (p2 &&& (3 : Int32))), .unset, .unset, .unset, .unset, .unset, .unset, .unset, .unset, .unset, .unset, .unset, .unset, .unset, .unset, .unset, .unset, .unset] [(.int (1 : Int32)), (.int (p2 &&& (3 : Int32)))])) _
          refine XS.icmpYes X0.here hx rfl (pc0 := 20) (pc' := 33) rfl (hb hby at_20) rfl (feq hc20).2 (by decide) (by decide) ?_
          show Steps p.tables e below (s₁.setTop (mkF m 33 #[.val (.long q1), .second, .val (.int p2), .val (.int (p2 &&& (3 : Int32))), .unset, .unset, .unset, .unset, .unset, .unset, .unset, .unset, .unset, .unset, .unset, .unset, .unset, .unset, .unset, .unset, .unset] [])) _
          refine XS.iloadN X0.here hx rfl (hb hby at_33) rfl ?_
          show Steps p.tables e below (s₁.setTop (mkF m 34 #[.val (.long q1), .second, .val (.int p2), .val (.int (p2 &&& (3 : Int32))), .unset, .unset, .unset, .unset, .unset, .unset, .unset, .unset, .unset, .unset, .unset, .unset, .unset, .unset, .unset, .unset, .unset] [(.int (p2 &&& (3 : Int32)))])) _
          refine XS.iconst X0.here hx rfl (hb hby at_34) ?_
          show Steps p.tables e below (s₁.setTop (mkF m 35 #[.val (.long q1), .second, .val (.int p2), .val (.int (p2 &&& (3 : Int32))), .unset, .unset, .unset, .unset, .unset, .unset, .unset, .unset, .unset, .unset, .unset, .unset, .unset, .unset, .unset, .unset, .unset] [(.int (2 : Int32)), (.int (p2 &&& (3 : Int32)))])) _
          refine XS.icmpYes X0.here hx rfl (pc0 := 35) (pc' := 48) rfl (hb hby at_35) rfl (feq hc35).2 (by decide) (by decide) ?_
          show Steps p.tables e below (s₁.setTop (mkF m 48 #[.val (.long q1), .second, .val (.int p2), .val (.int (p2 &&& (3 : Int32))), .unset, .unset, .unset, .unset, .unset, .unset, .unset, .unset, .unset, .unset, .unset, .unset, .unset, .unset, .unset, .unset, .unset] [])) _
          refine X0.ldc2Long hx hown (mvT hZ (hw _ (List.mem_of_getElem? (i := 67) rfl))) (g := (mkF m 48 #[.val (.long q1), .second, .val (.int p2), .val (.int (p2 &&& (3 : Int32))), .unset, .unset, .unset, .unset, .unset, .unset, .unset, .unset, .unset, .unset, .unset, .unset, .unset, .unset, .unset, .unset, .unset] [])) rfl (hb hby at_48) _ ?_
          show Steps p.tables e below (s₁.setTop (mkF m 51 #[.val (.long q1), .second, .val (.int p2), .val (.int (p2 &&& (3 : Int32))), .unset, .unset, .unset, .unset, .unset, .unset, .unset, .unset, .unset, .unset, .unset, .unset, .unset, .unset, .unset, .unset, .unset] [(.long (15728640 : Int64))])) _
          refine XS.lloadN X0.here hx rfl (hb hby at_51) rfl ?_
          show Steps p.tables e below (s₁.setTop (mkF m 52 #[.val (.long q1), .second, .val (.int p2), .val (.int (p2 &&& (3 : Int32))), .unset, .unset, .unset, .unset, .unset, .unset, .unset, .unset, .unset, .unset, .unset, .unset, .unset, .unset, .unset, .unset, .unset] [(.long q1), (.long (15728640 : Int64))])) _
          refine X0.ldc2Long hx hown (mvT hZ (hw _ (List.mem_of_getElem? (i := 68) rfl))) (g := (mkF m 52 #[.val (.long q1), .second, .val (.int p2), .val (.int (p2 &&& (3 : Int32))), .unset, .unset, .unset, .unset, .unset, .unset, .unset, .unset, .unset, .unset, .unset, .unset, .unset, .unset, .unset, .unset, .unset] [(.long q1), (.long (15728640 : Int64))])) rfl (hb hby at_52) _ ?_
          show Steps p.tables e below (s₁.setTop (mkF m 55 #[.val (.long q1), .second, .val (.int p2), .val (.int (p2 &&& (3 : Int32))), .unset, .unset, .unset, .unset, .unset, .unset, .unset, .unset, .unset, .unset, .unset, .unset, .unset, .unset, .unset, .unset, .unset] [(.long (4194303 : Int64)), (.long q1), (.long (15728640 : Int64))])) _
          refine XS.land X0.here hx rfl (hb hby at_55) rfl ?_
          show Steps p.tables e below (s₁.setTop (mkF m 56 #[.val (.long q1), .second, .val (.int p2), .val (.int (p2 &&& (3 : Int32))), .unset, .unset, .unset, .unset, .unset, .unset, .unset, .unset, .unset, .unset, .unset, .unset, .unset, .unset, .unset, .unset, .unset] [(.long (q1 &&& (4194303 : Int64))), (.long (15728640 : Int64))])) _
          refine XS.ladd X0.here hx rfl (hb hby at_56) rfl ?_
          show Steps p.tables e below (s₁.setTop (mkF m 57 #[.val (.long q1), .second, .val (.int p2), .val (.int (p2 &&& (3 : Int32))), .unset, .unset, .unset, .unset, .unset, .unset, .unset, .unset, .unset, .unset, .unset, .unset, .unset, .unset, .unset, .unset, .unset] [(.long ((15728640 : Int64) + (q1 &&& (4194303 : Int64))))])) _
          refine XS.lstore X0.here hx rfl (hb hby at_57) rfl (l' := #[.val (.long q1), .second, .val (.int p2), .val (.int (p2 &&& (3 : Int32))), .val (.long ((15728640 : Int64) + (q1 &&& (4194303 : Int64)))), .second, .unset, .unset, .unset, .unset, .unset, .unset, .unset, .unset, .unset, .unset, .unset, .unset, .unset, .unset, .unset]) rfl ?_
          exact kt
  by_cases hc79 : (lcmpW hv (17563648 : Int64)) < (0 : Int32)
  · -- pc 61: com/example/metrogate/metrogate/ClientLimits.forHeap by its contract rm1
    obtain ⟨_, _, ⟨T3, L3, k3, n3⟩, -, X3, ⟨Lc3, hQ3, l3, y3, z3⟩, st3⟩ := Jvm.LawKit.callS X0 hx (y := (⟨"com/example/metrogate/metrogate/ClientLimits", "forHeap", "(J)Lcom/example/metrogate/metrogate/ClientLimits;"⟩ : MethodName)) hown (mvT hZ (hw _ (List.mem_of_getElem? (i := 1) rfl))) (mvT hZ (hw _ (List.mem_of_getElem? (i := 2) rfl))) (mvT hZ (hw _ (List.mem_of_getElem? (i := 3) rfl))) (mvT hZ (hw _ (List.mem_of_getElem? (i := 4) rfl))) (by decide) (backOf (W := 0) (rm1 l Z a0 hw [] hv h0 n0 Z0) hZ (hw _ (List.mem_of_getElem? (i := 4) rfl)) (hw _ (List.mem_of_getElem? (i := 3) rfl)) (by decide) (by decide)) (g := (mkF m 61 #[.val (.long q1), .second, .val (.int p2), .val (.int (p2 &&& (3 : Int32))), .val (.long hv), .second, .unset, .unset, .unset, .unset, .unset, .unset, .unset, .unset, .unset, .unset, .unset, .unset, .unset, .unset, .unset] [(.long hv)])) rfl (by rw [hml]; rfl) (argsL := [(.long hv)]) (rest := []) (lenOf pd_0_0 rfl) rfl (by show 2 * 0 + _ ≤ _; exact Nat.le_of_eq rfl) (hb hby at_61) (fun _ _ => ⟨rfl, e0, (by decide : 0 + 1 ≤ _), (by decide : 0 + 4 ≤ _)⟩)
    dsimp only [Pt.U, Pt.locs, Pt.cells, Pt.slots] at X3 l3 y3 z3 st3 hQ3
    subst l3 y3 z3
    obtain ⟨bx, rfl, N3q, Kc3, Ex, Fc, Fa, Fs, Fb⟩ := hQ3
    obtain ⟨cc, hcc⟩ : ∃ cc, cc = (own_c hv).toInt32 := ⟨_, rfl⟩
    rw [← hcc] at Fc Fa
    have hC := own_cc hv hv0
    rw [← hcc] at hC
    have hc0 : 0 ≤ cc.toInt := by rw [hC]; split <;> (try split) <;> omega
    have Z3 := Nat.le_trans Z0 Kc3.1
    have N3 := Fr.app N0 N3q
    -- pc 68: com/example/metrogate/metrogate/ClientLimits.connections by the contract of the body that the receiver's class selects, rm7
    obtain ⟨cq4, kq4, q4a, q4b, q4c⟩ := isOf hZ rfl Ex
    obtain ⟨_, _, ⟨T4, L4, k4, n4⟩, -, X4, ⟨Lc4, hQ4, l4, y4, z4⟩, st4⟩ := X3.virtualBack hx (y := (⟨"com/example/metrogate/metrogate/ClientLimits", "connections", "()I"⟩ : MethodName)) (z := (⟨"com/example/metrogate/metrogate/ClientLimits", "connections", "()I"⟩ : MethodName)) hown (mvT hZ (hw _ (List.mem_of_getElem? (i := 39) rfl))) (mvT hZ (hw _ (List.mem_of_getElem? (i := 40) rfl))) (notFace_of_selects (args := #[]) (mvT hZ (hw _ (List.mem_of_getElem? (i := 42) rfl)))) (mvT hZ (hw _ (List.mem_of_getElem? (i := 42) rfl))) (mvT hZ (hw _ (List.mem_of_getElem? (i := 41) rfl))) (by decide) (backOf (W := 0) (rm7 l Z a0 hw [] bx cc T3.heap n0 Z3 Fc) hZ (hw _ (List.mem_of_getElem? (i := 43) rfl)) (hw _ (List.mem_of_getElem? (i := 3) rfl)) (by decide) (by decide)) q4a q4c (g := (mkF m 68 #[.val (.long q1), .second, .val (.int p2), .val (.int (p2 &&& (3 : Int32))), .val (.long hv), .second, .val (.ref bx), .unset, .unset, .unset, .unset, .unset, .unset, .unset, .unset, .unset, .unset, .unset, .unset, .unset, .unset] [(.ref bx)])) rfl (by rw [hml]; rfl) (Steps.refl _) (argsL := []) (rest := []) (lenOf pd_0_4 rfl) rfl (by show 2 * 0 + _ ≤ _; exact Nat.le_of_eq rfl) (hb hby at_68) (fun _ _ => ⟨rfl, rfl, (by decide : 1 + 0 ≤ _), (by decide : 4 + 0 ≤ _)⟩)
    dsimp only [Pt.U, Pt.locs, Pt.cells, Pt.slots] at X4 l4 y4 z4 st4 hQ4
    subst l4 y4 z4
    obtain ⟨rfl, N4q, hh4⟩ := hQ4
    have Kc4 : Keep T3.heap T4.heap [] := by rw [hh4]; exact Keep.refl _ _
    have Z4 := Nat.le_trans Z3 Kc4.1
    have N4 := Fr.app N3 N4q
    -- pc 185: com/example/metrogate/metrogate/ClientLimits.arrivingBodies by the contract of the body that the receiver's class selects, rm8
    obtain ⟨cq5, kq5, q5a, q5b, q5c⟩ := isOf hZ rfl (Ex.keep Kc4)
    obtain ⟨_, _, ⟨T5, L5, k5, n5⟩, -, X5, ⟨Lc5, hQ5, l5, y5, z5⟩, st5⟩ := X4.virtualBack hx (y := (⟨"com/example/metrogate/metrogate/ClientLimits", "arrivingBodies", "()I"⟩ : MethodName)) (z := (⟨"com/example/metrogate/metrogate/ClientLimits", "arrivingBodies", "()I"⟩ : MethodName)) hown (mvT hZ (hw _ (List.mem_of_getElem? (i := 45) rfl))) (mvT hZ (hw _ (List.mem_of_getElem? (i := 46) rfl))) (notFace_of_selects (args := #[]) (mvT hZ (hw _ (List.mem_of_getElem? (i := 48) rfl)))) (mvT hZ (hw _ (List.mem_of_getElem? (i := 48) rfl))) (mvT hZ (hw _ (List.mem_of_getElem? (i := 47) rfl))) (by decide) (backOf (W := 0) (rm8 l Z a0 hw [] bx (cc / (2 : Int32)) T4.heap n0 Z4 (Fa.keep Kc4 nin0)) hZ (hw _ (List.mem_of_getElem? (i := 49) rfl)) (hw _ (List.mem_of_getElem? (i := 3) rfl)) (by decide) (by decide)) q5a q5c (g := (mkF m 185 #[.val (.long q1), .second, .val (.int p2), .val (.int (p2 &&& (3 : Int32))), .val (.long hv), .second, .val (.ref bx), .val (.int cc), .val (.int (1 : Int32)), .unset, .unset, .unset, .unset, .unset, .unset, .unset, .unset, .unset, .unset, .unset, .unset] [(.ref bx)])) rfl (by rw [hml]; rfl) (Steps.refl _) (argsL := []) (rest := []) (lenOf pd_0_4 rfl) rfl (by show 2 * 0 + _ ≤ _; exact Nat.le_of_eq rfl) (hb hby at_185) (fun _ _ => ⟨rfl, rfl, (by decide : 1 + 0 ≤ _), (by decide : 4 + 0 ≤ _)⟩)
    dsimp only [Pt.U, Pt.locs, Pt.cells, Pt.slots] at X5 l5 y5 z5 st5 hQ5
    subst l5 y5 z5
    obtain ⟨rfl, N5q, hh5⟩ := hQ5
    have Kc5 : Keep T4.heap T5.heap [] := by rw [hh5]; exact Keep.refl _ _
    have Z5 := Nat.le_trans Z4 Kc5.1
    have N5 := Fr.app N4 N5q
    -- pc 226: com/example/metrogate/metrogate/ClientLimits.sharedBodyBytes by the contract of the body that the receiver's class selects, rm9
    obtain ⟨cq6, kq6, q6a, q6b, q6c⟩ := isOf hZ rfl ((Ex.keep Kc4).keep Kc5)
    obtain ⟨_, _, ⟨T6, L6, k6, n6⟩, -, X6, ⟨Lc6, hQ6, l6, y6, z6⟩, st6⟩ := X5.virtualBack hx (y := (⟨"com/example/metrogate/metrogate/ClientLimits", "sharedBodyBytes", "()J"⟩ : MethodName)) (z := (⟨"com/example/metrogate/metrogate/ClientLimits", "sharedBodyBytes", "()J"⟩ : MethodName)) hown (mvT hZ (hw _ (List.mem_of_getElem? (i := 51) rfl))) (mvT hZ (hw _ (List.mem_of_getElem? (i := 52) rfl))) (notFace_of_selects (args := #[]) (mvT hZ (hw _ (List.mem_of_getElem? (i := 54) rfl)))) (mvT hZ (hw _ (List.mem_of_getElem? (i := 54) rfl))) (mvT hZ (hw _ (List.mem_of_getElem? (i := 53) rfl))) (by decide) (backOf (W := 0) (rm9 l Z a0 hw [] bx (hv / (16 : Int64)) T5.heap n0 Z5 ((Fs.keep Kc4 nin0).keep Kc5 nin0)) hZ (hw _ (List.mem_of_getElem? (i := 55) rfl)) (hw _ (List.mem_of_getElem? (i := 3) rfl)) (by decide) (by decide)) q6a q6c (g := (mkF m 226 #[.val (.long q1), .second, .val (.int p2), .val (.int (p2 &&& (3 : Int32))), .val (.long hv), .second, .val (.ref bx), .val (.int cc), .val (.int (1 : Int32)), .val (.int (cc / (2 : Int32))), .val (.long ((cc.toInt64) - ((2 : Int64) * ((cc / (2 : Int32)).toInt64)))), .second, .val (.int (1 : Int32)), .unset, .unset, .unset, .unset, .unset, .unset, .unset, .unset] [(.ref bx)])) rfl (by rw [hml]; rfl) (Steps.refl _) (argsL := []) (rest := []) (lenOf pd_0_5 rfl) rfl (by show 2 * 0 + _ ≤ _; exact Nat.le_of_eq rfl) (hb hby at_226) (fun _ _ => ⟨rfl, rfl, (by decide : 1 + 0 ≤ _), (by decide : 4 + 0 ≤ _)⟩)
    dsimp only [Pt.U, Pt.locs, Pt.cells, Pt.slots] at X6 l6 y6 z6 st6 hQ6
    subst l6 y6 z6
    obtain ⟨rfl, N6q, hh6⟩ := hQ6
    have Kc6 : Keep T5.heap T6.heap [] := by rw [hh6]; exact Keep.refl _ _
    have Z6 := Nat.le_trans Z5 Kc6.1
    have N6 := Fr.app N5 N6q
    -- pc 286: com/example/metrogate/metrogate/ClientLimits.addressBytes by the contract of the body that the receiver's class selects, rm10
    obtain ⟨cq7, kq7, q7a, q7b, q7c⟩ := isOf hZ rfl (((Ex.keep Kc4).keep Kc5).keep Kc6)
    obtain ⟨_, _, ⟨T7, L7, k7, n7⟩, -, X7, ⟨Lc7, hQ7, l7, y7, z7⟩, st7⟩ := X6.virtualBack hx (y := (⟨"com/example/metrogate/metrogate/ClientLimits", "addressBytes", "()J"⟩ : MethodName)) (z := (⟨"com/example/metrogate/metrogate/ClientLimits", "addressBytes", "()J"⟩ : MethodName)) hown (mvT hZ (hw _ (List.mem_of_getElem? (i := 58) rfl))) (mvT hZ (hw _ (List.mem_of_getElem? (i := 59) rfl))) (notFace_of_selects (args := #[]) (mvT hZ (hw _ (List.mem_of_getElem? (i := 61) rfl)))) (mvT hZ (hw _ (List.mem_of_getElem? (i := 61) rfl))) (mvT hZ (hw _ (List.mem_of_getElem? (i := 60) rfl))) (by decide) (backOf (W := 0) (rm10 l Z a0 hw [] bx (hv / (64 : Int64)) T6.heap n0 Z6 (((Fb.keep Kc4 nin0).keep Kc5 nin0).keep Kc6 nin0)) hZ (hw _ (List.mem_of_getElem? (i := 62) rfl)) (hw _ (List.mem_of_getElem? (i := 3) rfl)) (by decide) (by decide)) q7a q7c (g := (mkF m 286 #[.val (.long q1), .second, .val (.int p2), .val (.int (p2 &&& (3 : Int32))), .val (.long hv), .second, .val (.ref bx), .val (.int cc), .val (.int (1 : Int32)), .val (.int (cc / (2 : Int32))), .val (.long ((cc.toInt64) - ((2 : Int64) * ((cc / (2 : Int32)).toInt64)))), .second, .val (.int (1 : Int32)), .val (.long (hv / (16 : Int64))), .second, .val (.int (1 : Int32)), .val (.long (hv - ((16 : Int64) * (hv / (16 : Int64))))), .second, .unset, .unset, .unset] [(.ref bx)])) rfl (by rw [hml]; rfl) (Steps.refl _) (argsL := []) (rest := []) (lenOf pd_0_5 rfl) rfl (by show 2 * 0 + _ ≤ _; exact Nat.le_of_eq rfl) (hb hby at_286) (fun _ _ => ⟨rfl, rfl, (by decide : 1 + 0 ≤ _), (by decide : 4 + 0 ≤ _)⟩)
    dsimp only [Pt.U, Pt.locs, Pt.cells, Pt.slots] at X7 l7 y7 z7 st7 hQ7
    subst l7 y7 z7
    obtain ⟨rfl, N7q, hh7⟩ := hQ7
    have Kc7 : Keep T6.heap T7.heap [] := by rw [hh7]; exact Keep.refl _ _
    have Z7 := Nat.le_trans Z6 Kc7.1
    have N7 := Fr.app N6 N7q
    obtain ⟨fs, hr, hrun, hended, hW, hsame⟩ := X7.leave (v := some (.int (1 : Int32))) (fun h => by rw [Bd.returns] at h; cases h)
    refine ⟨_, _, pre0 _ (preh _ ?_), hrun, hended, _, _, rfl, ?_, ⟨_, rfl⟩, hW, hsame.mono (by decide) (by decide)⟩
    · show Steps p.tables e below (s₁.setTop (mkF m 59 #[.val (.long q1), .second, .val (.int p2), .val (.int (p2 &&& (3 : Int32))), .val (.long hv), .second, .unset, .unset, .unset, .unset, .unset, .unset, .unset, .unset, .unset, .unset, .unset, .unset, .unset, .unset, .unset] [])) _
      refine XS.lload X0.here hx rfl (hb hby at_59) rfl ?_
      show Steps p.tables e below (s₁.setTop (mkF m 61 #[.val (.long q1), .second, .val (.int p2), .val (.int (p2 &&& (3 : Int32))), .val (.long hv), .second, .unset, .unset, .unset, .unset, .unset, .unset, .unset, .unset, .unset, .unset, .unset, .unset, .unset, .unset, .unset] [(.long hv)])) _
      refine st3 _ ?_
      show Steps p.tables e below (T3.setTop (mkF m 64 #[.val (.long q1), .second, .val (.int p2), .val (.int (p2 &&& (3 : Int32))), .val (.long hv), .second, .unset, .unset, .unset, .unset, .unset, .unset, .unset, .unset, .unset, .unset, .unset, .unset, .unset, .unset, .unset] [(.ref bx)])) _
      refine XS.astore X3.here hx rfl (hb hby at_64) rfl rfl (l' := #[.val (.long q1), .second, .val (.int p2), .val (.int (p2 &&& (3 : Int32))), .val (.long hv), .second, .val (.ref bx), .unset, .unset, .unset, .unset, .unset, .unset, .unset, .unset, .unset, .unset, .unset, .unset, .unset, .unset]) rfl ?_
      show Steps p.tables e below (T3.setTop (mkF m 66 #[.val (.long q1), .second, .val (.int p2), .val (.int (p2 &&& (3 : Int32))), .val (.long hv), .second, .val (.ref bx), .unset, .unset, .unset, .unset, .unset, .unset, .unset, .unset, .unset, .unset, .unset, .unset, .unset, .unset] [])) _
      refine XS.aload X3.here hx rfl (hb hby at_66) rfl rfl ?_
      show Steps p.tables e below (T3.setTop (mkF m 68 #[.val (.long q1), .second, .val (.int p2), .val (.int (p2 &&& (3 : Int32))), .val (.long hv), .second, .val (.ref bx), .unset, .unset, .unset, .unset, .unset, .unset, .unset, .unset, .unset, .unset, .unset, .unset, .unset, .unset] [(.ref bx)])) _
      refine st4.trans ?_
      show Steps p.tables e below (T4.setTop (mkF m 71 #[.val (.long q1), .second, .val (.int p2), .val (.int (p2 &&& (3 : Int32))), .val (.long hv), .second, .val (.ref bx), .unset, .unset, .unset, .unset, .unset, .unset, .unset, .unset, .unset, .unset, .unset, .unset, .unset, .unset] [(.int cc)])) _
      refine XS.istore X4.here hx rfl (hb hby at_71) rfl (l' := #[.val (.long q1), .second, .val (.int p2), .val (.int (p2 &&& (3 : Int32))), .val (.long hv), .second, .val (.ref bx), .val (.int cc), .unset, .unset, .unset, .unset, .unset, .unset, .unset, .unset, .unset, .unset, .unset, .unset, .unset]) rfl ?_
      show Steps p.tables e below (T4.setTop (mkF m 73 #[.val (.long q1), .second, .val (.int p2), .val (.int (p2 &&& (3 : Int32))), .val (.long hv), .second, .val (.ref bx), .val (.int cc), .unset, .unset, .unset, .unset, .unset, .unset, .unset, .unset, .unset, .unset, .unset, .unset, .unset] [])) _
      refine XS.lload X4.here hx rfl (hb hby at_73) rfl ?_
      show Steps p.tables e below (T4.setTop (mkF m 75 #[.val (.long q1), .second, .val (.int p2), .val (.int (p2 &&& (3 : Int32))), .val (.long hv), .second, .val (.ref bx), .val (.int cc), .unset, .unset, .unset, .unset, .unset, .unset, .unset, .unset, .unset, .unset, .unset, .unset, .unset] [(.long hv)])) _
      refine X4.ldc2Long hx hown (mvT hZ (hw _ (List.mem_of_getElem? (i := 44) rfl))) (g := (mkF m 75 #[.val (.long q1), .second, .val (.int p2), .val (.int (p2 &&& (3 : Int32))), .val (.long hv), .second, .val (.ref bx), .val (.int cc), .unset, .unset, .unset, .unset, .unset, .unset, .unset, .unset, .unset, .unset, .unset, .unset, .unset] [(.long hv)])) rfl (hb hby at_75) _ ?_
      show Steps p.tables e below (T4.setTop (mkF m 78 #[.val (.long q1), .second, .val (.int p2), .val (.int (p2 &&& (3 : Int32))), .val (.long hv), .second, .val (.ref bx), .val (.int cc), .unset, .unset, .unset, .unset, .unset, .unset, .unset, .unset, .unset, .unset, .unset, .unset, .unset] [(.long (17563648 : Int64)), (.long hv)])) _
      refine XS.lcmp X4.here hx rfl (hb hby at_78) rfl ?_
      show Steps p.tables e below (T4.setTop (mkF m 79 #[.val (.long q1), .second, .val (.int p2), .val (.int (p2 &&& (3 : Int32))), .val (.long hv), .second, .val (.ref bx), .val (.int cc), .unset, .unset, .unset, .unset, .unset, .unset, .unset, .unset, .unset, .unset, .unset, .unset, .unset] [(.int (lcmpW hv (17563648 : Int64)))])) _
      refine XS.ifNo X4.here hx rfl (hb hby at_79) rfl ((if0 _ _).trans (tlt hc79).2.1) ?_
      show Steps p.tables e below (T4.setTop (mkF m 82 #[.val (.long q1), .second, .val (.int p2), .val (.int (p2 &&& (3 : Int32))), .val (.long hv), .second, .val (.ref bx), .val (.int cc), .unset, .unset, .unset, .unset, .unset, .unset, .unset, .unset, .unset, .unset, .unset, .unset, .unset] [])) _
      refine XS.iload X4.here hx rfl (hb hby at_82) rfl ?_
      show Steps p.tables e below (T4.setTop (mkF m 84 #[.val (.long q1), .second, .val (.int p2), .val (.int (p2 &&& (3 : Int32))), .val (.long hv), .second, .val (.ref bx), .val (.int cc), .unset, .unset, .unset, .unset, .unset, .unset, .unset, .unset, .unset, .unset, .unset, .unset, .unset] [(.int cc)])) _
      refine XS.iconst X4.here hx rfl (hb hby at_84) ?_
      show Steps p.tables e below (T4.setTop (mkF m 85 #[.val (.long q1), .second, .val (.int p2), .val (.int (p2 &&& (3 : Int32))), .val (.long hv), .second, .val (.ref bx), .val (.int cc), .unset, .unset, .unset, .unset, .unset, .unset, .unset, .unset, .unset, .unset, .unset, .unset, .unset] [(.int (2 : Int32)), (.int cc)])) _
      have hc85 : cc = (2 : Int32) := own_A hv cc hC hc79
      refine XS.icmpNo X4.here hx rfl (hb hby at_85) rfl (teq hc85).2 ?_
      show Steps p.tables e below (T4.setTop (mkF m 88 #[.val (.long q1), .second, .val (.int p2), .val (.int (p2 &&& (3 : Int32))), .val (.long hv), .second, .val (.ref bx), .val (.int cc), .unset, .unset, .unset, .unset, .unset, .unset, .unset, .unset, .unset, .unset, .unset, .unset, .unset] [])) _
      refine XS.iconst X4.here hx rfl (hb hby at_88) ?_
      show Steps p.tables e below (T4.setTop (mkF m 89 #[.val (.long q1), .second, .val (.int p2), .val (.int (p2 &&& (3 : Int32))), .val (.long hv), .second, .val (.ref bx), .val (.int cc), .unset, .unset, .unset, .unset, .unset, .unset, .unset, .unset, .unset, .unset, .unset, .unset, .unset] [(.int (1 : Int32))])) _
      refine XS.goto X4.here hx rfl (pc0 := 89) (pc' := 93) rfl (hb hby at_89) (by decide) (by decide) ?_
      show Steps p.tables e below (T4.setTop (mkF m 93 #[.val (.long q1), .second, .val (.int p2), .val (.int (p2 &&& (3 : Int32))), .val (.long hv), .second, .val (.ref bx), .val (.int cc), .unset, .unset, .unset, .unset, .unset, .unset, .unset, .unset, .unset, .unset, .unset, .unset, .unset] [(.int (1 : Int32))])) _
      refine XS.istore X4.here hx rfl (hb hby at_93) rfl (l' := #[.val (.long q1), .second, .val (.int p2), .val (.int (p2 &&& (3 : Int32))), .val (.long hv), .second, .val (.ref bx), .val (.int cc), .val (.int (1 : Int32)), .unset, .unset, .unset, .unset, .unset, .unset, .unset, .unset, .unset, .unset, .unset, .unset]) rfl ?_
      show Steps p.tables e below (T4.setTop (mkF m 95 #[.val (.long q1), .second, .val (.int p2), .val (.int (p2 &&& (3 : Int32))), .val (.long hv), .second, .val (.ref bx), .val (.int cc), .val (.int (1 : Int32)), .unset, .unset, .unset, .unset, .unset, .unset, .unset, .unset, .unset, .unset, .unset, .unset] [])) _
      refine XS.goto X4.here hx rfl (pc0 := 95) (pc' := 183) rfl (hb hby at_95) (by decide) (by decide) ?_
      show Steps p.tables e below (T4.setTop (mkF m 183 #[.val (.long q1), .second, .val (.int p2), .val (.int (p2 &&& (3 : Int32))), .val (.long hv), .second, .val (.ref bx), .val (.int cc), .val (.int (1 : Int32)), .unset, .unset, .unset, .unset, .unset, .unset, .unset, .unset, .unset, .unset, .unset, .unset] [])) _
      refine XS.aload X4.here hx rfl (hb hby at_183) rfl rfl ?_
      show Steps p.tables e below (T4.setTop (mkF m 185 #[.val (.long q1), .second, .val (.int p2), .val (.int (p2 &&& (3 : Int32))), .val (.long hv), .second, .val (.ref bx), .val (.int cc), .val (.int (1 : Int32)), .unset, .unset, .unset, .unset, .unset, .unset, .unset, .unset, .unset, .unset, .unset, .unset] [(.ref bx)])) _
      refine st5.trans ?_
      show Steps p.tables e below (T5.setTop (mkF m 188 #[.val (.long q1), .second, .val (.int p2), .val (.int (p2 &&& (3 : Int32))), .val (.long hv), .second, .val (.ref bx), .val (.int cc), .val (.int (1 : Int32)), .unset, .unset, .unset, .unset, .unset, .unset, .unset, .unset, .unset, .unset, .unset, .unset] [(.int (cc / (2 : Int32)))])) _
      refine XS.istore X5.here hx rfl (hb hby at_188) rfl (l' := #[.val (.long q1), .second, .val (.int p2), .val (.int (p2 &&& (3 : Int32))), .val (.long hv), .second, .val (.ref bx), .val (.int cc), .val (.int (1 : Int32)), .val (.int (cc / (2 : Int32))), .unset, .unset, .unset, .unset, .unset, .unset, .unset, .unset, .unset, .unset, .unset]) rfl ?_
      show Steps p.tables e below (T5.setTop (mkF m 190 #[.val (.long q1), .second, .val (.int p2), .val (.int (p2 &&& (3 : Int32))), .val (.long hv), .second, .val (.ref bx), .val (.int cc), .val (.int (1 : Int32)), .val (.int (cc / (2 : Int32))), .unset, .unset, .unset, .unset, .unset, .unset, .unset, .unset, .unset, .unset, .unset] [])) _
      refine XS.iload X5.here hx rfl (hb hby at_190) rfl ?_
      show Steps p.tables e below (T5.setTop (mkF m 192 #[.val (.long q1), .second, .val (.int p2), .val (.int (p2 &&& (3 : Int32))), .val (.long hv), .second, .val (.ref bx), .val (.int cc), .val (.int (1 : Int32)), .val (.int (cc / (2 : Int32))), .unset, .unset, .unset, .unset, .unset, .unset, .unset, .unset, .unset, .unset, .unset] [(.int cc)])) _
      refine XS.i2l X5.here hx rfl (hb hby at_192) rfl ?_
      show Steps p.tables e below (T5.setTop (mkF m 193 #[.val (.long q1), .second, .val (.int p2), .val (.int (p2 &&& (3 : Int32))), .val (.long hv), .second, .val (.ref bx), .val (.int cc), .val (.int (1 : Int32)), .val (.int (cc / (2 : Int32))), .unset, .unset, .unset, .unset, .unset, .unset, .unset, .unset, .unset, .unset, .unset] [(.long (cc.toInt64))])) _
      refine X5.ldc2Long hx hown (mvT hZ (hw _ (List.mem_of_getElem? (i := 50) rfl))) (g := (mkF m 193 #[.val (.long q1), .second, .val (.int p2), .val (.int (p2 &&& (3 : Int32))), .val (.long hv), .second, .val (.ref bx), .val (.int cc), .val (.int (1 : Int32)), .val (.int (cc / (2 : Int32))), .unset, .unset, .unset, .unset, .unset, .unset, .unset, .unset, .unset, .unset, .unset] [(.long (cc.toInt64))])) rfl (hb hby at_193) _ ?_
      show Steps p.tables e below (T5.setTop (mkF m 196 #[.val (.long q1), .second, .val (.int p2), .val (.int (p2 &&& (3 : Int32))), .val (.long hv), .second, .val (.ref bx), .val (.int cc), .val (.int (1 : Int32)), .val (.int (cc / (2 : Int32))), .unset, .unset, .unset, .unset, .unset, .unset, .unset, .unset, .unset, .unset, .unset] [(.long (2 : Int64)), (.long (cc.toInt64))])) _
      refine XS.iload X5.here hx rfl (hb hby at_196) rfl ?_
      show Steps p.tables e below (T5.setTop (mkF m 198 #[.val (.long q1), .second, .val (.int p2), .val (.int (p2 &&& (3 : Int32))), .val (.long hv), .second, .val (.ref bx), .val (.int cc), .val (.int (1 : Int32)), .val (.int (cc / (2 : Int32))), .unset, .unset, .unset, .unset, .unset, .unset, .unset, .unset, .unset, .unset, .unset] [(.int (cc / (2 : Int32))), (.long (2 : Int64)), (.long (cc.toInt64))])) _
      refine XS.i2l X5.here hx rfl (hb hby at_198) rfl ?_
      show Steps p.tables e below (T5.setTop (mkF m 199 #[.val (.long q1), .second, .val (.int p2), .val (.int (p2 &&& (3 : Int32))), .val (.long hv), .second, .val (.ref bx), .val (.int cc), .val (.int (1 : Int32)), .val (.int (cc / (2 : Int32))), .unset, .unset, .unset, .unset, .unset, .unset, .unset, .unset, .unset, .unset, .unset] [(.long ((cc / (2 : Int32)).toInt64)), (.long (2 : Int64)), (.long (cc.toInt64))])) _
      refine XS.lmul X5.here hx rfl (hb hby at_199) rfl ?_
      show Steps p.tables e below (T5.setTop (mkF m 200 #[.val (.long q1), .second, .val (.int p2), .val (.int (p2 &&& (3 : Int32))), .val (.long hv), .second, .val (.ref bx), .val (.int cc), .val (.int (1 : Int32)), .val (.int (cc / (2 : Int32))), .unset, .unset, .unset, .unset, .unset, .unset, .unset, .unset, .unset, .unset, .unset] [(.long ((2 : Int64) * ((cc / (2 : Int32)).toInt64))), (.long (cc.toInt64))])) _
      refine XS.lsub X5.here hx rfl (hb hby at_200) rfl ?_
      show Steps p.tables e below (T5.setTop (mkF m 201 #[.val (.long q1), .second, .val (.int p2), .val (.int (p2 &&& (3 : Int32))), .val (.long hv), .second, .val (.ref bx), .val (.int cc), .val (.int (1 : Int32)), .val (.int (cc / (2 : Int32))), .unset, .unset, .unset, .unset, .unset, .unset, .unset, .unset, .unset, .unset, .unset] [(.long ((cc.toInt64) - ((2 : Int64) * ((cc / (2 : Int32)).toInt64))))])) _
      refine XS.lstore X5.here hx rfl (hb hby at_201) rfl (l' := #[.val (.long q1), .second, .val (.int p2), .val (.int (p2 &&& (3 : Int32))), .val (.long hv), .second, .val (.ref bx), .val (.int cc), .val (.int (1 : Int32)), .val (.int (cc / (2 : Int32))), .val (.long ((cc.toInt64) - ((2 : Int64) * ((cc / (2 : Int32)).toInt64)))), .second, .unset, .unset, .unset, .unset, .unset, .unset, .unset, .unset, .unset]) rfl ?_
      show Steps p.tables e below (T5.setTop (mkF m 203 #[.val (.long q1), .second, .val (.int p2), .val (.int (p2 &&& (3 : Int32))), .val (.long hv), .second, .val (.ref bx), .val (.int cc), .val (.int (1 : Int32)), .val (.int (cc / (2 : Int32))), .val (.long ((cc.toInt64) - ((2 : Int64) * ((cc / (2 : Int32)).toInt64)))), .second, .unset, .unset, .unset, .unset, .unset, .unset, .unset, .unset, .unset] [])) _
      refine XS.lload X5.here hx rfl (hb hby at_203) rfl ?_
      show Steps p.tables e below (T5.setTop (mkF m 205 #[.val (.long q1), .second, .val (.int p2), .val (.int (p2 &&& (3 : Int32))), .val (.long hv), .second, .val (.ref bx), .val (.int cc), .val (.int (1 : Int32)), .val (.int (cc / (2 : Int32))), .val (.long ((cc.toInt64) - ((2 : Int64) * ((cc / (2 : Int32)).toInt64)))), .second, .unset, .unset, .unset, .unset, .unset, .unset, .unset, .unset, .unset] [(.long ((cc.toInt64) - ((2 : Int64) * ((cc / (2 : Int32)).toInt64))))])) _
      refine XS.lconst X5.here hx rfl (hb hby at_205) ?_
      show Steps p.tables e below (T5.setTop (mkF m 206 #[.val (.long q1), .second, .val (.int p2), .val (.int (p2 &&& (3 : Int32))), .val (.long hv), .second, .val (.ref bx), .val (.int cc), .val (.int (1 : Int32)), .val (.int (cc / (2 : Int32))), .val (.long ((cc.toInt64) - ((2 : Int64) * ((cc / (2 : Int32)).toInt64)))), .second, .unset, .unset, .unset, .unset, .unset, .unset, .unset, .unset, .unset] [(.long (0 : Int64)), (.long ((cc.toInt64) - ((2 : Int64) * ((cc / (2 : Int32)).toInt64))))])) _
      refine XS.lcmp X5.here hx rfl (hb hby at_206) rfl ?_
      show Steps p.tables e below (T5.setTop (mkF m 207 #[.val (.long q1), .second, .val (.int p2), .val (.int (p2 &&& (3 : Int32))), .val (.long hv), .second, .val (.ref bx), .val (.int cc), .val (.int (1 : Int32)), .val (.int (cc / (2 : Int32))), .val (.long ((cc.toInt64) - ((2 : Int64) * ((cc / (2 : Int32)).toInt64)))), .second, .unset, .unset, .unset, .unset, .unset, .unset, .unset, .unset, .unset] [(.int (lcmpW ((cc.toInt64) - ((2 : Int64) * ((cc / (2 : Int32)).toInt64))) (0 : Int64)))])) _
      have hc207 : ¬ ((lcmpW ((cc.toInt64) - ((2 : Int64) * ((cc / (2 : Int32)).toInt64))) (0 : Int64)) < (0 : Int32)) := (own_207 cc hc0).1
      refine XS.ifNo X5.here hx rfl (hb hby at_207) rfl ((if0 _ _).trans (flt hc207).1) ?_
      show Steps p.tables e below (T5.setTop (mkF m 210 #[.val (.long q1), .second, .val (.int p2), .val (.int (p2 &&& (3 : Int32))), .val (.long hv), .second, .val (.ref bx), .val (.int cc), .val (.int (1 : Int32)), .val (.int (cc / (2 : Int32))), .val (.long ((cc.toInt64) - ((2 : Int64) * ((cc / (2 : Int32)).toInt64)))), .second, .unset, .unset, .unset, .unset, .unset, .unset, .unset, .unset, .unset] [])) _
      refine XS.lload X5.here hx rfl (hb hby at_210) rfl ?_
      show Steps p.tables e below (T5.setTop (mkF m 212 #[.val (.long q1), .second, .val (.int p2), .val (.int (p2 &&& (3 : Int32))), .val (.long hv), .second, .val (.ref bx), .val (.int cc), .val (.int (1 : Int32)), .val (.int (cc / (2 : Int32))), .val (.long ((cc.toInt64) - ((2 : Int64) * ((cc / (2 : Int32)).toInt64)))), .second, .unset, .unset, .unset, .unset, .unset, .unset, .unset, .unset, .unset] [(.long ((cc.toInt64) - ((2 : Int64) * ((cc / (2 : Int32)).toInt64))))])) _
      refine XS.lconst X5.here hx rfl (hb hby at_212) ?_
      show Steps p.tables e below (T5.setTop (mkF m 213 #[.val (.long q1), .second, .val (.int p2), .val (.int (p2 &&& (3 : Int32))), .val (.long hv), .second, .val (.ref bx), .val (.int cc), .val (.int (1 : Int32)), .val (.int (cc / (2 : Int32))), .val (.long ((cc.toInt64) - ((2 : Int64) * ((cc / (2 : Int32)).toInt64)))), .second, .unset, .unset, .unset, .unset, .unset, .unset, .unset, .unset, .unset] [(.long (1 : Int64)), (.long ((cc.toInt64) - ((2 : Int64) * ((cc / (2 : Int32)).toInt64))))])) _
      refine XS.lcmp X5.here hx rfl (hb hby at_213) rfl ?_
      show Steps p.tables e below (T5.setTop (mkF m 214 #[.val (.long q1), .second, .val (.int p2), .val (.int (p2 &&& (3 : Int32))), .val (.long hv), .second, .val (.ref bx), .val (.int cc), .val (.int (1 : Int32)), .val (.int (cc / (2 : Int32))), .val (.long ((cc.toInt64) - ((2 : Int64) * ((cc / (2 : Int32)).toInt64)))), .second, .unset, .unset, .unset, .unset, .unset, .unset, .unset, .unset, .unset] [(.int (lcmpW ((cc.toInt64) - ((2 : Int64) * ((cc / (2 : Int32)).toInt64))) (1 : Int64)))])) _
      have hc214 : ¬ ((0 : Int32) < (lcmpW ((cc.toInt64) - ((2 : Int64) * ((cc / (2 : Int32)).toInt64))) (1 : Int64))) := (own_207 cc hc0).2
      refine XS.ifNo X5.here hx rfl (hb hby at_214) rfl ((if0 _ _).trans (flt hc214).2.2.1) ?_
      show Steps p.tables e below (T5.setTop (mkF m 217 #[.val (.long q1), .second, .val (.int p2), .val (.int (p2 &&& (3 : Int32))), .val (.long hv), .second, .val (.ref bx), .val (.int cc), .val (.int (1 : Int32)), .val (.int (cc / (2 : Int32))), .val (.long ((cc.toInt64) - ((2 : Int64) * ((cc / (2 : Int32)).toInt64)))), .second, .unset, .unset, .unset, .unset, .unset, .unset, .unset, .unset, .unset] [])) _
      refine XS.iconst X5.here hx rfl (hb hby at_217) ?_
      show Steps p.tables e below (T5.setTop (mkF m 218 #[.val (.long q1), .second, .val (.int p2), .val (.int (p2 &&& (3 : Int32))), .val (.long hv), .second, .val (.ref bx), .val (.int cc), .val (.int (1 : Int32)), .val (.int (cc / (2 : Int32))), .val (.long ((cc.toInt64) - ((2 : Int64) * ((cc / (2 : Int32)).toInt64)))), .second, .unset, .unset, .unset, .unset, .unset, .unset, .unset, .unset, .unset] [(.int (1 : Int32))])) _
      refine XS.goto X5.here hx rfl (pc0 := 218) (pc' := 222) rfl (hb hby at_218) (by decide) (by decide) ?_
      show Steps p.tables e below (T5.setTop (mkF m 222 #[.val (.long q1), .second, .val (.int p2), .val (.int (p2 &&& (3 : Int32))), .val (.long hv), .second, .val (.ref bx), .val (.int cc), .val (.int (1 : Int32)), .val (.int (cc / (2 : Int32))), .val (.long ((cc.toInt64) - ((2 : Int64) * ((cc / (2 : Int32)).toInt64)))), .second, .unset, .unset, .unset, .unset, .unset, .unset, .unset, .unset, .unset] [(.int (1 : Int32))])) _
      refine XS.istore X5.here hx rfl (hb hby at_222) rfl (l' := #[.val (.long q1), .second, .val (.int p2), .val (.int (p2 &&& (3 : Int32))), .val (.long hv), .second, .val (.ref bx), .val (.int cc), .val (.int (1 : Int32)), .val (.int (cc / (2 : Int32))), .val (.long ((cc.toInt64) - ((2 : Int64) * ((cc / (2 : Int32)).toInt64)))), .second, .val (.int (1 : Int32)), .unset, .unset, .unset, .unset, .unset, .unset, .unset, .unset]) rfl ?_
      show Steps p.tables e below (T5.setTop (mkF m 224 #[.val (.long q1), .second, .val (.int p2), .val (.int (p2 &&& (3 : Int32))), .val (.long hv), .second, .val (.ref bx), .val (.int cc), .val (.int (1 : Int32)), .val (.int (cc / (2 : Int32))), .val (.long ((cc.toInt64) - ((2 : Int64) * ((cc / (2 : Int32)).toInt64)))), .second, .val (.int (1 : Int32)), .unset, .unset, .unset, .unset, .unset, .unset, .unset, .unset] [])) _
      refine XS.aload X5.here hx rfl (hb hby at_224) rfl rfl ?_
      show Steps p.tables e below (T5.setTop (mkF m 226 #[.val (.long q1), .second, .val (.int p2), .val (.int (p2 &&& (3 : Int32))), .val (.long hv), .second, .val (.ref bx), .val (.int cc), .val (.int (1 : Int32)), .val (.int (cc / (2 : Int32))), .val (.long ((cc.toInt64) - ((2 : Int64) * ((cc / (2 : Int32)).toInt64)))), .second, .val (.int (1 : Int32)), .unset, .unset, .unset, .unset, .unset, .unset, .unset, .unset] [(.ref bx)])) _
      refine st6.trans ?_
      show Steps p.tables e below (T6.setTop (mkF m 229 #[.val (.long q1), .second, .val (.int p2), .val (.int (p2 &&& (3 : Int32))), .val (.long hv), .second, .val (.ref bx), .val (.int cc), .val (.int (1 : Int32)), .val (.int (cc / (2 : Int32))), .val (.long ((cc.toInt64) - ((2 : Int64) * ((cc / (2 : Int32)).toInt64)))), .second, .val (.int (1 : Int32)), .unset, .unset, .unset, .unset, .unset, .unset, .unset, .unset] [(.long (hv / (16 : Int64)))])) _
      refine XS.lstore X6.here hx rfl (hb hby at_229) rfl (l' := #[.val (.long q1), .second, .val (.int p2), .val (.int (p2 &&& (3 : Int32))), .val (.long hv), .second, .val (.ref bx), .val (.int cc), .val (.int (1 : Int32)), .val (.int (cc / (2 : Int32))), .val (.long ((cc.toInt64) - ((2 : Int64) * ((cc / (2 : Int32)).toInt64)))), .second, .val (.int (1 : Int32)), .val (.long (hv / (16 : Int64))), .second, .unset, .unset, .unset, .unset, .unset, .unset]) rfl ?_
      show Steps p.tables e below (T6.setTop (mkF m 231 #[.val (.long q1), .second, .val (.int p2), .val (.int (p2 &&& (3 : Int32))), .val (.long hv), .second, .val (.ref bx), .val (.int cc), .val (.int (1 : Int32)), .val (.int (cc / (2 : Int32))), .val (.long ((cc.toInt64) - ((2 : Int64) * ((cc / (2 : Int32)).toInt64)))), .second, .val (.int (1 : Int32)), .val (.long (hv / (16 : Int64))), .second, .unset, .unset, .unset, .unset, .unset, .unset] [])) _
      refine XS.iconst X6.here hx rfl (hb hby at_231) ?_
      show Steps p.tables e below (T6.setTop (mkF m 232 #[.val (.long q1), .second, .val (.int p2), .val (.int (p2 &&& (3 : Int32))), .val (.long hv), .second, .val (.ref bx), .val (.int cc), .val (.int (1 : Int32)), .val (.int (cc / (2 : Int32))), .val (.long ((cc.toInt64) - ((2 : Int64) * ((cc / (2 : Int32)).toInt64)))), .second, .val (.int (1 : Int32)), .val (.long (hv / (16 : Int64))), .second, .unset, .unset, .unset, .unset, .unset, .unset] [(.int (0 : Int32))])) _
      refine XS.istore X6.here hx rfl (hb hby at_232) rfl (l' := #[.val (.long q1), .second, .val (.int p2), .val (.int (p2 &&& (3 : Int32))), .val (.long hv), .second, .val (.ref bx), .val (.int cc), .val (.int (1 : Int32)), .val (.int (cc / (2 : Int32))), .val (.long ((cc.toInt64) - ((2 : Int64) * ((cc / (2 : Int32)).toInt64)))), .second, .val (.int (1 : Int32)), .val (.long (hv / (16 : Int64))), .second, .val (.int (0 : Int32)), .unset, .unset, .unset, .unset, .unset]) rfl ?_
      show Steps p.tables e below (T6.setTop (mkF m 234 #[.val (.long q1), .second, .val (.int p2), .val (.int (p2 &&& (3 : Int32))), .val (.long hv), .second, .val (.ref bx), .val (.int cc), .val (.int (1 : Int32)), .val (.int (cc / (2 : Int32))), .val (.long ((cc.toInt64) - ((2 : Int64) * ((cc / (2 : Int32)).toInt64)))), .second, .val (.int (1 : Int32)), .val (.long (hv / (16 : Int64))), .second, .val (.int (0 : Int32)), .unset, .unset, .unset, .unset, .unset] [])) _
      refine XS.lload X6.here hx rfl (hb hby at_234) rfl ?_
      show Steps p.tables e below (T6.setTop (mkF m 236 #[.val (.long q1), .second, .val (.int p2), .val (.int (p2 &&& (3 : Int32))), .val (.long hv), .second, .val (.ref bx), .val (.int cc), .val (.int (1 : Int32)), .val (.int (cc / (2 : Int32))), .val (.long ((cc.toInt64) - ((2 : Int64) * ((cc / (2 : Int32)).toInt64)))), .second, .val (.int (1 : Int32)), .val (.long (hv / (16 : Int64))), .second, .val (.int (0 : Int32)), .unset, .unset, .unset, .unset, .unset] [(.long (hv / (16 : Int64)))])) _
      refine XS.lconst X6.here hx rfl (hb hby at_236) ?_
      show Steps p.tables e below (T6.setTop (mkF m 237 #[.val (.long q1), .second, .val (.int p2), .val (.int (p2 &&& (3 : Int32))), .val (.long hv), .second, .val (.ref bx), .val (.int cc), .val (.int (1 : Int32)), .val (.int (cc / (2 : Int32))), .val (.long ((cc.toInt64) - ((2 : Int64) * ((cc / (2 : Int32)).toInt64)))), .second, .val (.int (1 : Int32)), .val (.long (hv / (16 : Int64))), .second, .val (.int (0 : Int32)), .unset, .unset, .unset, .unset, .unset] [(.long (0 : Int64)), (.long (hv / (16 : Int64)))])) _
      refine XS.lcmp X6.here hx rfl (hb hby at_237) rfl ?_
      show Steps p.tables e below (T6.setTop (mkF m 238 #[.val (.long q1), .second, .val (.int p2), .val (.int (p2 &&& (3 : Int32))), .val (.long hv), .second, .val (.ref bx), .val (.int cc), .val (.int (1 : Int32)), .val (.int (cc / (2 : Int32))), .val (.long ((cc.toInt64) - ((2 : Int64) * ((cc / (2 : Int32)).toInt64)))), .second, .val (.int (1 : Int32)), .val (.long (hv / (16 : Int64))), .second, .val (.int (0 : Int32)), .unset, .unset, .unset, .unset, .unset] [(.int (lcmpW (hv / (16 : Int64)) (0 : Int64)))])) _
      have hc238 : ¬ ((lcmpW (hv / (16 : Int64)) (0 : Int64)) < (0 : Int32)) := (own_sh hv hv0).1
      refine XS.ifNo X6.here hx rfl (hb hby at_238) rfl ((if0 _ _).trans (flt hc238).1) ?_
      show Steps p.tables e below (T6.setTop (mkF m 241 #[.val (.long q1), .second, .val (.int p2), .val (.int (p2 &&& (3 : Int32))), .val (.long hv), .second, .val (.ref bx), .val (.int cc), .val (.int (1 : Int32)), .val (.int (cc / (2 : Int32))), .val (.long ((cc.toInt64) - ((2 : Int64) * ((cc / (2 : Int32)).toInt64)))), .second, .val (.int (1 : Int32)), .val (.long (hv / (16 : Int64))), .second, .val (.int (0 : Int32)), .unset, .unset, .unset, .unset, .unset] [])) _
      refine XS.lload X6.here hx rfl (hb hby at_241) rfl ?_
      show Steps p.tables e below (T6.setTop (mkF m 243 #[.val (.long q1), .second, .val (.int p2), .val (.int (p2 &&& (3 : Int32))), .val (.long hv), .second, .val (.ref bx), .val (.int cc), .val (.int (1 : Int32)), .val (.int (cc / (2 : Int32))), .val (.long ((cc.toInt64) - ((2 : Int64) * ((cc / (2 : Int32)).toInt64)))), .second, .val (.int (1 : Int32)), .val (.long (hv / (16 : Int64))), .second, .val (.int (0 : Int32)), .unset, .unset, .unset, .unset, .unset] [(.long (hv / (16 : Int64)))])) _
      refine X6.ldc2Long hx hown (mvT hZ (hw _ (List.mem_of_getElem? (i := 56) rfl))) (g := (mkF m 243 #[.val (.long q1), .second, .val (.int p2), .val (.int (p2 &&& (3 : Int32))), .val (.long hv), .second, .val (.ref bx), .val (.int cc), .val (.int (1 : Int32)), .val (.int (cc / (2 : Int32))), .val (.long ((cc.toInt64) - ((2 : Int64) * ((cc / (2 : Int32)).toInt64)))), .second, .val (.int (1 : Int32)), .val (.long (hv / (16 : Int64))), .second, .val (.int (0 : Int32)), .unset, .unset, .unset, .unset, .unset] [(.long (hv / (16 : Int64)))])) rfl (hb hby at_243) _ ?_
      show Steps p.tables e below (T6.setTop (mkF m 246 #[.val (.long q1), .second, .val (.int p2), .val (.int (p2 &&& (3 : Int32))), .val (.long hv), .second, .val (.ref bx), .val (.int cc), .val (.int (1 : Int32)), .val (.int (cc / (2 : Int32))), .val (.long ((cc.toInt64) - ((2 : Int64) * ((cc / (2 : Int32)).toInt64)))), .second, .val (.int (1 : Int32)), .val (.long (hv / (16 : Int64))), .second, .val (.int (0 : Int32)), .unset, .unset, .unset, .unset, .unset] [(.long (576460752303423487 : Int64)), (.long (hv / (16 : Int64)))])) _
      refine XS.lcmp X6.here hx rfl (hb hby at_246) rfl ?_
      show Steps p.tables e below (T6.setTop (mkF m 247 #[.val (.long q1), .second, .val (.int p2), .val (.int (p2 &&& (3 : Int32))), .val (.long hv), .second, .val (.ref bx), .val (.int cc), .val (.int (1 : Int32)), .val (.int (cc / (2 : Int32))), .val (.long ((cc.toInt64) - ((2 : Int64) * ((cc / (2 : Int32)).toInt64)))), .second, .val (.int (1 : Int32)), .val (.long (hv / (16 : Int64))), .second, .val (.int (0 : Int32)), .unset, .unset, .unset, .unset, .unset] [(.int (lcmpW (hv / (16 : Int64)) (576460752303423487 : Int64)))])) _
      have hc247 : ¬ ((0 : Int32) < (lcmpW (hv / (16 : Int64)) (576460752303423487 : Int64))) := (own_sh hv hv0).2.1
      refine XS.ifNo X6.here hx rfl (hb hby at_247) rfl ((if0 _ _).trans (flt hc247).2.2.1) ?_
      show Steps p.tables e below (T6.setTop (mkF m 250 #[.val (.long q1), .second, .val (.int p2), .val (.int (p2 &&& (3 : Int32))), .val (.long hv), .second, .val (.ref bx), .val (.int cc), .val (.int (1 : Int32)), .val (.int (cc / (2 : Int32))), .val (.long ((cc.toInt64) - ((2 : Int64) * ((cc / (2 : Int32)).toInt64)))), .second, .val (.int (1 : Int32)), .val (.long (hv / (16 : Int64))), .second, .val (.int (0 : Int32)), .unset, .unset, .unset, .unset, .unset] [])) _
      refine XS.lload X6.here hx rfl (hb hby at_250) rfl ?_
      show Steps p.tables e below (T6.setTop (mkF m 252 #[.val (.long q1), .second, .val (.int p2), .val (.int (p2 &&& (3 : Int32))), .val (.long hv), .second, .val (.ref bx), .val (.int cc), .val (.int (1 : Int32)), .val (.int (cc / (2 : Int32))), .val (.long ((cc.toInt64) - ((2 : Int64) * ((cc / (2 : Int32)).toInt64)))), .second, .val (.int (1 : Int32)), .val (.long (hv / (16 : Int64))), .second, .val (.int (0 : Int32)), .unset, .unset, .unset, .unset, .unset] [(.long hv)])) _
      refine X6.ldc2Long hx hown (mvT hZ (hw _ (List.mem_of_getElem? (i := 57) rfl))) (g := (mkF m 252 #[.val (.long q1), .second, .val (.int p2), .val (.int (p2 &&& (3 : Int32))), .val (.long hv), .second, .val (.ref bx), .val (.int cc), .val (.int (1 : Int32)), .val (.int (cc / (2 : Int32))), .val (.long ((cc.toInt64) - ((2 : Int64) * ((cc / (2 : Int32)).toInt64)))), .second, .val (.int (1 : Int32)), .val (.long (hv / (16 : Int64))), .second, .val (.int (0 : Int32)), .unset, .unset, .unset, .unset, .unset] [(.long hv)])) rfl (hb hby at_252) _ ?_
      show Steps p.tables e below (T6.setTop (mkF m 255 #[.val (.long q1), .second, .val (.int p2), .val (.int (p2 &&& (3 : Int32))), .val (.long hv), .second, .val (.ref bx), .val (.int cc), .val (.int (1 : Int32)), .val (.int (cc / (2 : Int32))), .val (.long ((cc.toInt64) - ((2 : Int64) * ((cc / (2 : Int32)).toInt64)))), .second, .val (.int (1 : Int32)), .val (.long (hv / (16 : Int64))), .second, .val (.int (0 : Int32)), .unset, .unset, .unset, .unset, .unset] [(.long (16 : Int64)), (.long hv)])) _
      refine XS.lload X6.here hx rfl (hb hby at_255) rfl ?_
      show Steps p.tables e below (T6.setTop (mkF m 257 #[.val (.long q1), .second, .val (.int p2), .val (.int (p2 &&& (3 : Int32))), .val (.long hv), .second, .val (.ref bx), .val (.int cc), .val (.int (1 : Int32)), .val (.int (cc / (2 : Int32))), .val (.long ((cc.toInt64) - ((2 : Int64) * ((cc / (2 : Int32)).toInt64)))), .second, .val (.int (1 : Int32)), .val (.long (hv / (16 : Int64))), .second, .val (.int (0 : Int32)), .unset, .unset, .unset, .unset, .unset] [(.long (hv / (16 : Int64))), (.long (16 : Int64)), (.long hv)])) _
      refine XS.lmul X6.here hx rfl (hb hby at_257) rfl ?_
      show Steps p.tables e below (T6.setTop (mkF m 258 #[.val (.long q1), .second, .val (.int p2), .val (.int (p2 &&& (3 : Int32))), .val (.long hv), .second, .val (.ref bx), .val (.int cc), .val (.int (1 : Int32)), .val (.int (cc / (2 : Int32))), .val (.long ((cc.toInt64) - ((2 : Int64) * ((cc / (2 : Int32)).toInt64)))), .second, .val (.int (1 : Int32)), .val (.long (hv / (16 : Int64))), .second, .val (.int (0 : Int32)), .unset, .unset, .unset, .unset, .unset] [(.long ((16 : Int64) * (hv / (16 : Int64)))), (.long hv)])) _
      refine XS.lsub X6.here hx rfl (hb hby at_258) rfl ?_
      show Steps p.tables e below (T6.setTop (mkF m 259 #[.val (.long q1), .second, .val (.int p2), .val (.int (p2 &&& (3 : Int32))), .val (.long hv), .second, .val (.ref bx), .val (.int cc), .val (.int (1 : Int32)), .val (.int (cc / (2 : Int32))), .val (.long ((cc.toInt64) - ((2 : Int64) * ((cc / (2 : Int32)).toInt64)))), .second, .val (.int (1 : Int32)), .val (.long (hv / (16 : Int64))), .second, .val (.int (0 : Int32)), .unset, .unset, .unset, .unset, .unset] [(.long (hv - ((16 : Int64) * (hv / (16 : Int64)))))])) _
      refine XS.lstore X6.here hx rfl (hb hby at_259) rfl (l' := #[.val (.long q1), .second, .val (.int p2), .val (.int (p2 &&& (3 : Int32))), .val (.long hv), .second, .val (.ref bx), .val (.int cc), .val (.int (1 : Int32)), .val (.int (cc / (2 : Int32))), .val (.long ((cc.toInt64) - ((2 : Int64) * ((cc / (2 : Int32)).toInt64)))), .second, .val (.int (1 : Int32)), .val (.long (hv / (16 : Int64))), .second, .val (.int (0 : Int32)), .val (.long (hv - ((16 : Int64) * (hv / (16 : Int64))))), .second, .unset, .unset, .unset]) rfl ?_
      show Steps p.tables e below (T6.setTop (mkF m 261 #[.val (.long q1), .second, .val (.int p2), .val (.int (p2 &&& (3 : Int32))), .val (.long hv), .second, .val (.ref bx), .val (.int cc), .val (.int (1 : Int32)), .val (.int (cc / (2 : Int32))), .val (.long ((cc.toInt64) - ((2 : Int64) * ((cc / (2 : Int32)).toInt64)))), .second, .val (.int (1 : Int32)), .val (.long (hv / (16 : Int64))), .second, .val (.int (0 : Int32)), .val (.long (hv - ((16 : Int64) * (hv / (16 : Int64))))), .second, .unset, .unset, .unset] [])) _
      refine XS.lload X6.here hx rfl (hb hby at_261) rfl ?_
      show Steps p.tables e below (T6.setTop (mkF m 263 #[.val (.long q1), .second, .val (.int p2), .val (.int (p2 &&& (3 : Int32))), .val (.long hv), .second, .val (.ref bx), .val (.int cc), .val (.int (1 : Int32)), .val (.int (cc / (2 : Int32))), .val (.long ((cc.toInt64) - ((2 : Int64) * ((cc / (2 : Int32)).toInt64)))), .second, .val (.int (1 : Int32)), .val (.long (hv / (16 : Int64))), .second, .val (.int (0 : Int32)), .val (.long (hv - ((16 : Int64) * (hv / (16 : Int64))))), .second, .unset, .unset, .unset] [(.long (hv - ((16 : Int64) * (hv / (16 : Int64)))))])) _
      refine XS.lconst X6.here hx rfl (hb hby at_263) ?_
      show Steps p.tables e below (T6.setTop (mkF m 264 #[.val (.long q1), .second, .val (.int p2), .val (.int (p2 &&& (3 : Int32))), .val (.long hv), .second, .val (.ref bx), .val (.int cc), .val (.int (1 : Int32)), .val (.int (cc / (2 : Int32))), .val (.long ((cc.toInt64) - ((2 : Int64) * ((cc / (2 : Int32)).toInt64)))), .second, .val (.int (1 : Int32)), .val (.long (hv / (16 : Int64))), .second, .val (.int (0 : Int32)), .val (.long (hv - ((16 : Int64) * (hv / (16 : Int64))))), .second, .unset, .unset, .unset] [(.long (0 : Int64)), (.long (hv - ((16 : Int64) * (hv / (16 : Int64)))))])) _
      refine XS.lcmp X6.here hx rfl (hb hby at_264) rfl ?_
      show Steps p.tables e below (T6.setTop (mkF m 265 #[.val (.long q1), .second, .val (.int p2), .val (.int (p2 &&& (3 : Int32))), .val (.long hv), .second, .val (.ref bx), .val (.int cc), .val (.int (1 : Int32)), .val (.int (cc / (2 : Int32))), .val (.long ((cc.toInt64) - ((2 : Int64) * ((cc / (2 : Int32)).toInt64)))), .second, .val (.int (1 : Int32)), .val (.long (hv / (16 : Int64))), .second, .val (.int (0 : Int32)), .val (.long (hv - ((16 : Int64) * (hv / (16 : Int64))))), .second, .unset, .unset, .unset] [(.int (lcmpW (hv - ((16 : Int64) * (hv / (16 : Int64)))) (0 : Int64)))])) _
      have hc265 : ¬ ((lcmpW (hv - ((16 : Int64) * (hv / (16 : Int64)))) (0 : Int64)) < (0 : Int32)) := (own_sh hv hv0).2.2.1
      refine XS.ifNo X6.here hx rfl (hb hby at_265) rfl ((if0 _ _).trans (flt hc265).1) ?_
      show Steps p.tables e below (T6.setTop (mkF m 268 #[.val (.long q1), .second, .val (.int p2), .val (.int (p2 &&& (3 : Int32))), .val (.long hv), .second, .val (.ref bx), .val (.int cc), .val (.int (1 : Int32)), .val (.int (cc / (2 : Int32))), .val (.long ((cc.toInt64) - ((2 : Int64) * ((cc / (2 : Int32)).toInt64)))), .second, .val (.int (1 : Int32)), .val (.long (hv / (16 : Int64))), .second, .val (.int (0 : Int32)), .val (.long (hv - ((16 : Int64) * (hv / (16 : Int64))))), .second, .unset, .unset, .unset] [])) _
      refine XS.lload X6.here hx rfl (hb hby at_268) rfl ?_
      show Steps p.tables e below (T6.setTop (mkF m 270 #[.val (.long q1), .second, .val (.int p2), .val (.int (p2 &&& (3 : Int32))), .val (.long hv), .second, .val (.ref bx), .val (.int cc), .val (.int (1 : Int32)), .val (.int (cc / (2 : Int32))), .val (.long ((cc.toInt64) - ((2 : Int64) * ((cc / (2 : Int32)).toInt64)))), .second, .val (.int (1 : Int32)), .val (.long (hv / (16 : Int64))), .second, .val (.int (0 : Int32)), .val (.long (hv - ((16 : Int64) * (hv / (16 : Int64))))), .second, .unset, .unset, .unset] [(.long (hv - ((16 : Int64) * (hv / (16 : Int64)))))])) _
      refine X6.ldc2Long hx hown (mvT hZ (hw _ (List.mem_of_getElem? (i := 57) rfl))) (g := (mkF m 270 #[.val (.long q1), .second, .val (.int p2), .val (.int (p2 &&& (3 : Int32))), .val (.long hv), .second, .val (.ref bx), .val (.int cc), .val (.int (1 : Int32)), .val (.int (cc / (2 : Int32))), .val (.long ((cc.toInt64) - ((2 : Int64) * ((cc / (2 : Int32)).toInt64)))), .second, .val (.int (1 : Int32)), .val (.long (hv / (16 : Int64))), .second, .val (.int (0 : Int32)), .val (.long (hv - ((16 : Int64) * (hv / (16 : Int64))))), .second, .unset, .unset, .unset] [(.long (hv - ((16 : Int64) * (hv / (16 : Int64)))))])) rfl (hb hby at_270) _ ?_
      show Steps p.tables e below (T6.setTop (mkF m 273 #[.val (.long q1), .second, .val (.int p2), .val (.int (p2 &&& (3 : Int32))), .val (.long hv), .second, .val (.ref bx), .val (.int cc), .val (.int (1 : Int32)), .val (.int (cc / (2 : Int32))), .val (.long ((cc.toInt64) - ((2 : Int64) * ((cc / (2 : Int32)).toInt64)))), .second, .val (.int (1 : Int32)), .val (.long (hv / (16 : Int64))), .second, .val (.int (0 : Int32)), .val (.long (hv - ((16 : Int64) * (hv / (16 : Int64))))), .second, .unset, .unset, .unset] [(.long (16 : Int64)), (.long (hv - ((16 : Int64) * (hv / (16 : Int64)))))])) _
      refine XS.lcmp X6.here hx rfl (hb hby at_273) rfl ?_
      show Steps p.tables e below (T6.setTop (mkF m 274 #[.val (.long q1), .second, .val (.int p2), .val (.int (p2 &&& (3 : Int32))), .val (.long hv), .second, .val (.ref bx), .val (.int cc), .val (.int (1 : Int32)), .val (.int (cc / (2 : Int32))), .val (.long ((cc.toInt64) - ((2 : Int64) * ((cc / (2 : Int32)).toInt64)))), .second, .val (.int (1 : Int32)), .val (.long (hv / (16 : Int64))), .second, .val (.int (0 : Int32)), .val (.long (hv - ((16 : Int64) * (hv / (16 : Int64))))), .second, .unset, .unset, .unset] [(.int (lcmpW (hv - ((16 : Int64) * (hv / (16 : Int64)))) (16 : Int64)))])) _
      have hc274 : (lcmpW (hv - ((16 : Int64) * (hv / (16 : Int64)))) (16 : Int64)) < (0 : Int32) := (own_sh hv hv0).2.2.2
      refine XS.ifNo X6.here hx rfl (hb hby at_274) rfl ((if0 _ _).trans (tlt hc274).2.1) ?_
      show Steps p.tables e below (T6.setTop (mkF m 277 #[.val (.long q1), .second, .val (.int p2), .val (.int (p2 &&& (3 : Int32))), .val (.long hv), .second, .val (.ref bx), .val (.int cc), .val (.int (1 : Int32)), .val (.int (cc / (2 : Int32))), .val (.long ((cc.toInt64) - ((2 : Int64) * ((cc / (2 : Int32)).toInt64)))), .second, .val (.int (1 : Int32)), .val (.long (hv / (16 : Int64))), .second, .val (.int (0 : Int32)), .val (.long (hv - ((16 : Int64) * (hv / (16 : Int64))))), .second, .unset, .unset, .unset] [])) _
      refine XS.iconst X6.here hx rfl (hb hby at_277) ?_
      show Steps p.tables e below (T6.setTop (mkF m 278 #[.val (.long q1), .second, .val (.int p2), .val (.int (p2 &&& (3 : Int32))), .val (.long hv), .second, .val (.ref bx), .val (.int cc), .val (.int (1 : Int32)), .val (.int (cc / (2 : Int32))), .val (.long ((cc.toInt64) - ((2 : Int64) * ((cc / (2 : Int32)).toInt64)))), .second, .val (.int (1 : Int32)), .val (.long (hv / (16 : Int64))), .second, .val (.int (0 : Int32)), .val (.long (hv - ((16 : Int64) * (hv / (16 : Int64))))), .second, .unset, .unset, .unset] [(.int (1 : Int32))])) _
      refine XS.goto X6.here hx rfl (pc0 := 278) (pc' := 282) rfl (hb hby at_278) (by decide) (by decide) ?_
      show Steps p.tables e below (T6.setTop (mkF m 282 #[.val (.long q1), .second, .val (.int p2), .val (.int (p2 &&& (3 : Int32))), .val (.long hv), .second, .val (.ref bx), .val (.int cc), .val (.int (1 : Int32)), .val (.int (cc / (2 : Int32))), .val (.long ((cc.toInt64) - ((2 : Int64) * ((cc / (2 : Int32)).toInt64)))), .second, .val (.int (1 : Int32)), .val (.long (hv / (16 : Int64))), .second, .val (.int (0 : Int32)), .val (.long (hv - ((16 : Int64) * (hv / (16 : Int64))))), .second, .unset, .unset, .unset] [(.int (1 : Int32))])) _
      refine XS.istore X6.here hx rfl (hb hby at_282) rfl (l' := #[.val (.long q1), .second, .val (.int p2), .val (.int (p2 &&& (3 : Int32))), .val (.long hv), .second, .val (.ref bx), .val (.int cc), .val (.int (1 : Int32)), .val (.int (cc / (2 : Int32))), .val (.long ((cc.toInt64) - ((2 : Int64) * ((cc / (2 : Int32)).toInt64)))), .second, .val (.int (1 : Int32)), .val (.long (hv / (16 : Int64))), .second, .val (.int (1 : Int32)), .val (.long (hv - ((16 : Int64) * (hv / (16 : Int64))))), .second, .unset, .unset, .unset]) rfl ?_
      show Steps p.tables e below (T6.setTop (mkF m 284 #[.val (.long q1), .second, .val (.int p2), .val (.int (p2 &&& (3 : Int32))), .val (.long hv), .second, .val (.ref bx), .val (.int cc), .val (.int (1 : Int32)), .val (.int (cc / (2 : Int32))), .val (.long ((cc.toInt64) - ((2 : Int64) * ((cc / (2 : Int32)).toInt64)))), .second, .val (.int (1 : Int32)), .val (.long (hv / (16 : Int64))), .second, .val (.int (1 : Int32)), .val (.long (hv - ((16 : Int64) * (hv / (16 : Int64))))), .second, .unset, .unset, .unset] [])) _
      refine XS.aload X6.here hx rfl (hb hby at_284) rfl rfl ?_
      show Steps p.tables e below (T6.setTop (mkF m 286 #[.val (.long q1), .second, .val (.int p2), .val (.int (p2 &&& (3 : Int32))), .val (.long hv), .second, .val (.ref bx), .val (.int cc), .val (.int (1 : Int32)), .val (.int (cc / (2 : Int32))), .val (.long ((cc.toInt64) - ((2 : Int64) * ((cc / (2 : Int32)).toInt64)))), .second, .val (.int (1 : Int32)), .val (.long (hv / (16 : Int64))), .second, .val (.int (1 : Int32)), .val (.long (hv - ((16 : Int64) * (hv / (16 : Int64))))), .second, .unset, .unset, .unset] [(.ref bx)])) _
      refine st7.trans ?_
      show Steps p.tables e below (T7.setTop (mkF m 289 #[.val (.long q1), .second, .val (.int p2), .val (.int (p2 &&& (3 : Int32))), .val (.long hv), .second, .val (.ref bx), .val (.int cc), .val (.int (1 : Int32)), .val (.int (cc / (2 : Int32))), .val (.long ((cc.toInt64) - ((2 : Int64) * ((cc / (2 : Int32)).toInt64)))), .second, .val (.int (1 : Int32)), .val (.long (hv / (16 : Int64))), .second, .val (.int (1 : Int32)), .val (.long (hv - ((16 : Int64) * (hv / (16 : Int64))))), .second, .unset, .unset, .unset] [(.long (hv / (64 : Int64)))])) _
      refine XS.lstore X7.here hx rfl (hb hby at_289) rfl (l' := #[.val (.long q1), .second, .val (.int p2), .val (.int (p2 &&& (3 : Int32))), .val (.long hv), .second, .val (.ref bx), .val (.int cc), .val (.int (1 : Int32)), .val (.int (cc / (2 : Int32))), .val (.long ((cc.toInt64) - ((2 : Int64) * ((cc / (2 : Int32)).toInt64)))), .second, .val (.int (1 : Int32)), .val (.long (hv / (16 : Int64))), .second, .val (.int (1 : Int32)), .val (.long (hv / (64 : Int64))), .second, .unset, .unset, .unset]) rfl ?_
      show Steps p.tables e below (T7.setTop (mkF m 291 #[.val (.long q1), .second, .val (.int p2), .val (.int (p2 &&& (3 : Int32))), .val (.long hv), .second, .val (.ref bx), .val (.int cc), .val (.int (1 : Int32)), .val (.int (cc / (2 : Int32))), .val (.long ((cc.toInt64) - ((2 : Int64) * ((cc / (2 : Int32)).toInt64)))), .second, .val (.int (1 : Int32)), .val (.long (hv / (16 : Int64))), .second, .val (.int (1 : Int32)), .val (.long (hv / (64 : Int64))), .second, .unset, .unset, .unset] [])) _
      refine XS.iconst X7.here hx rfl (hb hby at_291) ?_
      show Steps p.tables e below (T7.setTop (mkF m 292 #[.val (.long q1), .second, .val (.int p2), .val (.int (p2 &&& (3 : Int32))), .val (.long hv), .second, .val (.ref bx), .val (.int cc), .val (.int (1 : Int32)), .val (.int (cc / (2 : Int32))), .val (.long ((cc.toInt64) - ((2 : Int64) * ((cc / (2 : Int32)).toInt64)))), .second, .val (.int (1 : Int32)), .val (.long (hv / (16 : Int64))), .second, .val (.int (1 : Int32)), .val (.long (hv / (64 : Int64))), .second, .unset, .unset, .unset] [(.int (0 : Int32))])) _
      refine XS.istore X7.here hx rfl (hb hby at_292) rfl (l' := #[.val (.long q1), .second, .val (.int p2), .val (.int (p2 &&& (3 : Int32))), .val (.long hv), .second, .val (.ref bx), .val (.int cc), .val (.int (1 : Int32)), .val (.int (cc / (2 : Int32))), .val (.long ((cc.toInt64) - ((2 : Int64) * ((cc / (2 : Int32)).toInt64)))), .second, .val (.int (1 : Int32)), .val (.long (hv / (16 : Int64))), .second, .val (.int (1 : Int32)), .val (.long (hv / (64 : Int64))), .second, .val (.int (0 : Int32)), .unset, .unset]) rfl ?_
      show Steps p.tables e below (T7.setTop (mkF m 294 #[.val (.long q1), .second, .val (.int p2), .val (.int (p2 &&& (3 : Int32))), .val (.long hv), .second, .val (.ref bx), .val (.int cc), .val (.int (1 : Int32)), .val (.int (cc / (2 : Int32))), .val (.long ((cc.toInt64) - ((2 : Int64) * ((cc / (2 : Int32)).toInt64)))), .second, .val (.int (1 : Int32)), .val (.long (hv / (16 : Int64))), .second, .val (.int (1 : Int32)), .val (.long (hv / (64 : Int64))), .second, .val (.int (0 : Int32)), .unset, .unset] [])) _
      refine XS.lload X7.here hx rfl (hb hby at_294) rfl ?_
      show Steps p.tables e below (T7.setTop (mkF m 296 #[.val (.long q1), .second, .val (.int p2), .val (.int (p2 &&& (3 : Int32))), .val (.long hv), .second, .val (.ref bx), .val (.int cc), .val (.int (1 : Int32)), .val (.int (cc / (2 : Int32))), .val (.long ((cc.toInt64) - ((2 : Int64) * ((cc / (2 : Int32)).toInt64)))), .second, .val (.int (1 : Int32)), .val (.long (hv / (16 : Int64))), .second, .val (.int (1 : Int32)), .val (.long (hv / (64 : Int64))), .second, .val (.int (0 : Int32)), .unset, .unset] [(.long (hv / (64 : Int64)))])) _
      refine XS.lconst X7.here hx rfl (hb hby at_296) ?_
      show Steps p.tables e below (T7.setTop (mkF m 297 #[.val (.long q1), .second, .val (.int p2), .val (.int (p2 &&& (3 : Int32))), .val (.long hv), .second, .val (.ref bx), .val (.int cc), .val (.int (1 : Int32)), .val (.int (cc / (2 : Int32))), .val (.long ((cc.toInt64) - ((2 : Int64) * ((cc / (2 : Int32)).toInt64)))), .second, .val (.int (1 : Int32)), .val (.long (hv / (16 : Int64))), .second, .val (.int (1 : Int32)), .val (.long (hv / (64 : Int64))), .second, .val (.int (0 : Int32)), .unset, .unset] [(.long (0 : Int64)), (.long (hv / (64 : Int64)))])) _
      refine XS.lcmp X7.here hx rfl (hb hby at_297) rfl ?_
      show Steps p.tables e below (T7.setTop (mkF m 298 #[.val (.long q1), .second, .val (.int p2), .val (.int (p2 &&& (3 : Int32))), .val (.long hv), .second, .val (.ref bx), .val (.int cc), .val (.int (1 : Int32)), .val (.int (cc / (2 : Int32))), .val (.long ((cc.toInt64) - ((2 : Int64) * ((cc / (2 : Int32)).toInt64)))), .second, .val (.int (1 : Int32)), .val (.long (hv / (16 : Int64))), .second, .val (.int (1 : Int32)), .val (.long (hv / (64 : Int64))), .second, .val (.int (0 : Int32)), .unset, .unset] [(.int (lcmpW (hv / (64 : Int64)) (0 : Int64)))])) _
      have hc298 : ¬ ((lcmpW (hv / (64 : Int64)) (0 : Int64)) < (0 : Int32)) := (own_ad hv hv0).1
      refine XS.ifNo X7.here hx rfl (hb hby at_298) rfl ((if0 _ _).trans (flt hc298).1) ?_
      show Steps p.tables e below (T7.setTop (mkF m 301 #[.val (.long q1), .second, .val (.int p2), .val (.int (p2 &&& (3 : Int32))), .val (.long hv), .second, .val (.ref bx), .val (.int cc), .val (.int (1 : Int32)), .val (.int (cc / (2 : Int32))), .val (.long ((cc.toInt64) - ((2 : Int64) * ((cc / (2 : Int32)).toInt64)))), .second, .val (.int (1 : Int32)), .val (.long (hv / (16 : Int64))), .second, .val (.int (1 : Int32)), .val (.long (hv / (64 : Int64))), .second, .val (.int (0 : Int32)), .unset, .unset] [])) _
      refine XS.lload X7.here hx rfl (hb hby at_301) rfl ?_
      show Steps p.tables e below (T7.setTop (mkF m 303 #[.val (.long q1), .second, .val (.int p2), .val (.int (p2 &&& (3 : Int32))), .val (.long hv), .second, .val (.ref bx), .val (.int cc), .val (.int (1 : Int32)), .val (.int (cc / (2 : Int32))), .val (.long ((cc.toInt64) - ((2 : Int64) * ((cc / (2 : Int32)).toInt64)))), .second, .val (.int (1 : Int32)), .val (.long (hv / (16 : Int64))), .second, .val (.int (1 : Int32)), .val (.long (hv / (64 : Int64))), .second, .val (.int (0 : Int32)), .unset, .unset] [(.long (hv / (64 : Int64)))])) _
      refine X7.ldc2Long hx hown (mvT hZ (hw _ (List.mem_of_getElem? (i := 63) rfl))) (g := (mkF m 303 #[.val (.long q1), .second, .val (.int p2), .val (.int (p2 &&& (3 : Int32))), .val (.long hv), .second, .val (.ref bx), .val (.int cc), .val (.int (1 : Int32)), .val (.int (cc / (2 : Int32))), .val (.long ((cc.toInt64) - ((2 : Int64) * ((cc / (2 : Int32)).toInt64)))), .second, .val (.int (1 : Int32)), .val (.long (hv / (16 : Int64))), .second, .val (.int (1 : Int32)), .val (.long (hv / (64 : Int64))), .second, .val (.int (0 : Int32)), .unset, .unset] [(.long (hv / (64 : Int64)))])) rfl (hb hby at_303) _ ?_
      show Steps p.tables e below (T7.setTop (mkF m 306 #[.val (.long q1), .second, .val (.int p2), .val (.int (p2 &&& (3 : Int32))), .val (.long hv), .second, .val (.ref bx), .val (.int cc), .val (.int (1 : Int32)), .val (.int (cc / (2 : Int32))), .val (.long ((cc.toInt64) - ((2 : Int64) * ((cc / (2 : Int32)).toInt64)))), .second, .val (.int (1 : Int32)), .val (.long (hv / (16 : Int64))), .second, .val (.int (1 : Int32)), .val (.long (hv / (64 : Int64))), .second, .val (.int (0 : Int32)), .unset, .unset] [(.long (144115188075855871 : Int64)), (.long (hv / (64 : Int64)))])) _
      refine XS.lcmp X7.here hx rfl (hb hby at_306) rfl ?_
      show Steps p.tables e below (T7.setTop (mkF m 307 #[.val (.long q1), .second, .val (.int p2), .val (.int (p2 &&& (3 : Int32))), .val (.long hv), .second, .val (.ref bx), .val (.int cc), .val (.int (1 : Int32)), .val (.int (cc / (2 : Int32))), .val (.long ((cc.toInt64) - ((2 : Int64) * ((cc / (2 : Int32)).toInt64)))), .second, .val (.int (1 : Int32)), .val (.long (hv / (16 : Int64))), .second, .val (.int (1 : Int32)), .val (.long (hv / (64 : Int64))), .second, .val (.int (0 : Int32)), .unset, .unset] [(.int (lcmpW (hv / (64 : Int64)) (144115188075855871 : Int64)))])) _
      have hc307 : ¬ ((0 : Int32) < (lcmpW (hv / (64 : Int64)) (144115188075855871 : Int64))) := (own_ad hv hv0).2.1
      refine XS.ifNo X7.here hx rfl (hb hby at_307) rfl ((if0 _ _).trans (flt hc307).2.2.1) ?_
      show Steps p.tables e below (T7.setTop (mkF m 310 #[.val (.long q1), .second, .val (.int p2), .val (.int (p2 &&& (3 : Int32))), .val (.long hv), .second, .val (.ref bx), .val (.int cc), .val (.int (1 : Int32)), .val (.int (cc / (2 : Int32))), .val (.long ((cc.toInt64) - ((2 : Int64) * ((cc / (2 : Int32)).toInt64)))), .second, .val (.int (1 : Int32)), .val (.long (hv / (16 : Int64))), .second, .val (.int (1 : Int32)), .val (.long (hv / (64 : Int64))), .second, .val (.int (0 : Int32)), .unset, .unset] [])) _
      refine XS.lload X7.here hx rfl (hb hby at_310) rfl ?_
      show Steps p.tables e below (T7.setTop (mkF m 312 #[.val (.long q1), .second, .val (.int p2), .val (.int (p2 &&& (3 : Int32))), .val (.long hv), .second, .val (.ref bx), .val (.int cc), .val (.int (1 : Int32)), .val (.int (cc / (2 : Int32))), .val (.long ((cc.toInt64) - ((2 : Int64) * ((cc / (2 : Int32)).toInt64)))), .second, .val (.int (1 : Int32)), .val (.long (hv / (16 : Int64))), .second, .val (.int (1 : Int32)), .val (.long (hv / (64 : Int64))), .second, .val (.int (0 : Int32)), .unset, .unset] [(.long hv)])) _
      refine X7.ldc2Long hx hown (mvT hZ (hw _ (List.mem_of_getElem? (i := 64) rfl))) (g := (mkF m 312 #[.val (.long q1), .second, .val (.int p2), .val (.int (p2 &&& (3 : Int32))), .val (.long hv), .second, .val (.ref bx), .val (.int cc), .val (.int (1 : Int32)), .val (.int (cc / (2 : Int32))), .val (.long ((cc.toInt64) - ((2 : Int64) * ((cc / (2 : Int32)).toInt64)))), .second, .val (.int (1 : Int32)), .val (.long (hv / (16 : Int64))), .second, .val (.int (1 : Int32)), .val (.long (hv / (64 : Int64))), .second, .val (.int (0 : Int32)), .unset, .unset] [(.long hv)])) rfl (hb hby at_312) _ ?_
      show Steps p.tables e below (T7.setTop (mkF m 315 #[.val (.long q1), .second, .val (.int p2), .val (.int (p2 &&& (3 : Int32))), .val (.long hv), .second, .val (.ref bx), .val (.int cc), .val (.int (1 : Int32)), .val (.int (cc / (2 : Int32))), .val (.long ((cc.toInt64) - ((2 : Int64) * ((cc / (2 : Int32)).toInt64)))), .second, .val (.int (1 : Int32)), .val (.long (hv / (16 : Int64))), .second, .val (.int (1 : Int32)), .val (.long (hv / (64 : Int64))), .second, .val (.int (0 : Int32)), .unset, .unset] [(.long (64 : Int64)), (.long hv)])) _
      refine XS.lload X7.here hx rfl (hb hby at_315) rfl ?_
      show Steps p.tables e below (T7.setTop (mkF m 317 #[.val (.long q1), .second, .val (.int p2), .val (.int (p2 &&& (3 : Int32))), .val (.long hv), .second, .val (.ref bx), .val (.int cc), .val (.int (1 : Int32)), .val (.int (cc / (2 : Int32))), .val (.long ((cc.toInt64) - ((2 : Int64) * ((cc / (2 : Int32)).toInt64)))), .second, .val (.int (1 : Int32)), .val (.long (hv / (16 : Int64))), .second, .val (.int (1 : Int32)), .val (.long (hv / (64 : Int64))), .second, .val (.int (0 : Int32)), .unset, .unset] [(.long (hv / (64 : Int64))), (.long (64 : Int64)), (.long hv)])) _
      refine XS.lmul X7.here hx rfl (hb hby at_317) rfl ?_
      show Steps p.tables e below (T7.setTop (mkF m 318 #[.val (.long q1), .second, .val (.int p2), .val (.int (p2 &&& (3 : Int32))), .val (.long hv), .second, .val (.ref bx), .val (.int cc), .val (.int (1 : Int32)), .val (.int (cc / (2 : Int32))), .val (.long ((cc.toInt64) - ((2 : Int64) * ((cc / (2 : Int32)).toInt64)))), .second, .val (.int (1 : Int32)), .val (.long (hv / (16 : Int64))), .second, .val (.int (1 : Int32)), .val (.long (hv / (64 : Int64))), .second, .val (.int (0 : Int32)), .unset, .unset] [(.long ((64 : Int64) * (hv / (64 : Int64)))), (.long hv)])) _
      refine XS.lsub X7.here hx rfl (hb hby at_318) rfl ?_
      show Steps p.tables e below (T7.setTop (mkF m 319 #[.val (.long q1), .second, .val (.int p2), .val (.int (p2 &&& (3 : Int32))), .val (.long hv), .second, .val (.ref bx), .val (.int cc), .val (.int (1 : Int32)), .val (.int (cc / (2 : Int32))), .val (.long ((cc.toInt64) - ((2 : Int64) * ((cc / (2 : Int32)).toInt64)))), .second, .val (.int (1 : Int32)), .val (.long (hv / (16 : Int64))), .second, .val (.int (1 : Int32)), .val (.long (hv / (64 : Int64))), .second, .val (.int (0 : Int32)), .unset, .unset] [(.long (hv - ((64 : Int64) * (hv / (64 : Int64)))))])) _
      refine XS.lstore X7.here hx rfl (hb hby at_319) rfl (l' := #[.val (.long q1), .second, .val (.int p2), .val (.int (p2 &&& (3 : Int32))), .val (.long hv), .second, .val (.ref bx), .val (.int cc), .val (.int (1 : Int32)), .val (.int (cc / (2 : Int32))), .val (.long ((cc.toInt64) - ((2 : Int64) * ((cc / (2 : Int32)).toInt64)))), .second, .val (.int (1 : Int32)), .val (.long (hv / (16 : Int64))), .second, .val (.int (1 : Int32)), .val (.long (hv / (64 : Int64))), .second, .val (.int (0 : Int32)), .val (.long (hv - ((64 : Int64) * (hv / (64 : Int64))))), .second]) rfl ?_
      show Steps p.tables e below (T7.setTop (mkF m 321 #[.val (.long q1), .second, .val (.int p2), .val (.int (p2 &&& (3 : Int32))), .val (.long hv), .second, .val (.ref bx), .val (.int cc), .val (.int (1 : Int32)), .val (.int (cc / (2 : Int32))), .val (.long ((cc.toInt64) - ((2 : Int64) * ((cc / (2 : Int32)).toInt64)))), .second, .val (.int (1 : Int32)), .val (.long (hv / (16 : Int64))), .second, .val (.int (1 : Int32)), .val (.long (hv / (64 : Int64))), .second, .val (.int (0 : Int32)), .val (.long (hv - ((64 : Int64) * (hv / (64 : Int64))))), .second] [])) _
      refine XS.lload X7.here hx rfl (hb hby at_321) rfl ?_
      show Steps p.tables e below (T7.setTop (mkF m 323 #[.val (.long q1), .second, .val (.int p2), .val (.int (p2 &&& (3 : Int32))), .val (.long hv), .second, .val (.ref bx), .val (.int cc), .val (.int (1 : Int32)), .val (.int (cc / (2 : Int32))), .val (.long ((cc.toInt64) - ((2 : Int64) * ((cc / (2 : Int32)).toInt64)))), .second, .val (.int (1 : Int32)), .val (.long (hv / (16 : Int64))), .second, .val (.int (1 : Int32)), .val (.long (hv / (64 : Int64))), .second, .val (.int (0 : Int32)), .val (.long (hv - ((64 : Int64) * (hv / (64 : Int64))))), .second] [(.long (hv - ((64 : Int64) * (hv / (64 : Int64)))))])) _
      refine XS.lconst X7.here hx rfl (hb hby at_323) ?_
      show Steps p.tables e below (T7.setTop (mkF m 324 #[.val (.long q1), .second, .val (.int p2), .val (.int (p2 &&& (3 : Int32))), .val (.long hv), .second, .val (.ref bx), .val (.int cc), .val (.int (1 : Int32)), .val (.int (cc / (2 : Int32))), .val (.long ((cc.toInt64) - ((2 : Int64) * ((cc / (2 : Int32)).toInt64)))), .second, .val (.int (1 : Int32)), .val (.long (hv / (16 : Int64))), .second, .val (.int (1 : Int32)), .val (.long (hv / (64 : Int64))), .second, .val (.int (0 : Int32)), .val (.long (hv - ((64 : Int64) * (hv / (64 : Int64))))), .second] [(.long (0 : Int64)), (.long (hv - ((64 : Int64) * (hv / (64 : Int64)))))])) _
      refine XS.lcmp X7.here hx rfl (hb hby at_324) rfl ?_
      show Steps p.tables e below (T7.setTop (mkF m 325 #[.val (.long q1), .second, .val (.int p2), .val (.int (p2 &&& (3 : Int32))), .val (.long hv), .second, .val (.ref bx), .val (.int cc), .val (.int (1 : Int32)), .val (.int (cc / (2 : Int32))), .val (.long ((cc.toInt64) - ((2 : Int64) * ((cc / (2 : Int32)).toInt64)))), .second, .val (.int (1 : Int32)), .val (.long (hv / (16 : Int64))), .second, .val (.int (1 : Int32)), .val (.long (hv / (64 : Int64))), .second, .val (.int (0 : Int32)), .val (.long (hv - ((64 : Int64) * (hv / (64 : Int64))))), .second] [(.int (lcmpW (hv - ((64 : Int64) * (hv / (64 : Int64)))) (0 : Int64)))])) _
      have hc325 : ¬ ((lcmpW (hv - ((64 : Int64) * (hv / (64 : Int64)))) (0 : Int64)) < (0 : Int32)) := (own_ad hv hv0).2.2.1
      refine XS.ifNo X7.here hx rfl (hb hby at_325) rfl ((if0 _ _).trans (flt hc325).1) ?_
      show Steps p.tables e below (T7.setTop (mkF m 328 #[.val (.long q1), .second, .val (.int p2), .val (.int (p2 &&& (3 : Int32))), .val (.long hv), .second, .val (.ref bx), .val (.int cc), .val (.int (1 : Int32)), .val (.int (cc / (2 : Int32))), .val (.long ((cc.toInt64) - ((2 : Int64) * ((cc / (2 : Int32)).toInt64)))), .second, .val (.int (1 : Int32)), .val (.long (hv / (16 : Int64))), .second, .val (.int (1 : Int32)), .val (.long (hv / (64 : Int64))), .second, .val (.int (0 : Int32)), .val (.long (hv - ((64 : Int64) * (hv / (64 : Int64))))), .second] [])) _
      refine XS.lload X7.here hx rfl (hb hby at_328) rfl ?_
      show Steps p.tables e below (T7.setTop (mkF m 330 #[.val (.long q1), .second, .val (.int p2), .val (.int (p2 &&& (3 : Int32))), .val (.long hv), .second, .val (.ref bx), .val (.int cc), .val (.int (1 : Int32)), .val (.int (cc / (2 : Int32))), .val (.long ((cc.toInt64) - ((2 : Int64) * ((cc / (2 : Int32)).toInt64)))), .second, .val (.int (1 : Int32)), .val (.long (hv / (16 : Int64))), .second, .val (.int (1 : Int32)), .val (.long (hv / (64 : Int64))), .second, .val (.int (0 : Int32)), .val (.long (hv - ((64 : Int64) * (hv / (64 : Int64))))), .second] [(.long (hv - ((64 : Int64) * (hv / (64 : Int64)))))])) _
      refine X7.ldc2Long hx hown (mvT hZ (hw _ (List.mem_of_getElem? (i := 64) rfl))) (g := (mkF m 330 #[.val (.long q1), .second, .val (.int p2), .val (.int (p2 &&& (3 : Int32))), .val (.long hv), .second, .val (.ref bx), .val (.int cc), .val (.int (1 : Int32)), .val (.int (cc / (2 : Int32))), .val (.long ((cc.toInt64) - ((2 : Int64) * ((cc / (2 : Int32)).toInt64)))), .second, .val (.int (1 : Int32)), .val (.long (hv / (16 : Int64))), .second, .val (.int (1 : Int32)), .val (.long (hv / (64 : Int64))), .second, .val (.int (0 : Int32)), .val (.long (hv - ((64 : Int64) * (hv / (64 : Int64))))), .second] [(.long (hv - ((64 : Int64) * (hv / (64 : Int64)))))])) rfl (hb hby at_330) _ ?_
      show Steps p.tables e below (T7.setTop (mkF m 333 #[.val (.long q1), .second, .val (.int p2), .val (.int (p2 &&& (3 : Int32))), .val (.long hv), .second, .val (.ref bx), .val (.int cc), .val (.int (1 : Int32)), .val (.int (cc / (2 : Int32))), .val (.long ((cc.toInt64) - ((2 : Int64) * ((cc / (2 : Int32)).toInt64)))), .second, .val (.int (1 : Int32)), .val (.long (hv / (16 : Int64))), .second, .val (.int (1 : Int32)), .val (.long (hv / (64 : Int64))), .second, .val (.int (0 : Int32)), .val (.long (hv - ((64 : Int64) * (hv / (64 : Int64))))), .second] [(.long (64 : Int64)), (.long (hv - ((64 : Int64) * (hv / (64 : Int64)))))])) _
      refine XS.lcmp X7.here hx rfl (hb hby at_333) rfl ?_
      show Steps p.tables e below (T7.setTop (mkF m 334 #[.val (.long q1), .second, .val (.int p2), .val (.int (p2 &&& (3 : Int32))), .val (.long hv), .second, .val (.ref bx), .val (.int cc), .val (.int (1 : Int32)), .val (.int (cc / (2 : Int32))), .val (.long ((cc.toInt64) - ((2 : Int64) * ((cc / (2 : Int32)).toInt64)))), .second, .val (.int (1 : Int32)), .val (.long (hv / (16 : Int64))), .second, .val (.int (1 : Int32)), .val (.long (hv / (64 : Int64))), .second, .val (.int (0 : Int32)), .val (.long (hv - ((64 : Int64) * (hv / (64 : Int64))))), .second] [(.int (lcmpW (hv - ((64 : Int64) * (hv / (64 : Int64)))) (64 : Int64)))])) _
      have hc334 : (lcmpW (hv - ((64 : Int64) * (hv / (64 : Int64)))) (64 : Int64)) < (0 : Int32) := (own_ad hv hv0).2.2.2
      refine XS.ifNo X7.here hx rfl (hb hby at_334) rfl ((if0 _ _).trans (tlt hc334).2.1) ?_
      show Steps p.tables e below (T7.setTop (mkF m 337 #[.val (.long q1), .second, .val (.int p2), .val (.int (p2 &&& (3 : Int32))), .val (.long hv), .second, .val (.ref bx), .val (.int cc), .val (.int (1 : Int32)), .val (.int (cc / (2 : Int32))), .val (.long ((cc.toInt64) - ((2 : Int64) * ((cc / (2 : Int32)).toInt64)))), .second, .val (.int (1 : Int32)), .val (.long (hv / (16 : Int64))), .second, .val (.int (1 : Int32)), .val (.long (hv / (64 : Int64))), .second, .val (.int (0 : Int32)), .val (.long (hv - ((64 : Int64) * (hv / (64 : Int64))))), .second] [])) _
      refine XS.iconst X7.here hx rfl (hb hby at_337) ?_
      show Steps p.tables e below (T7.setTop (mkF m 338 #[.val (.long q1), .second, .val (.int p2), .val (.int (p2 &&& (3 : Int32))), .val (.long hv), .second, .val (.ref bx), .val (.int cc), .val (.int (1 : Int32)), .val (.int (cc / (2 : Int32))), .val (.long ((cc.toInt64) - ((2 : Int64) * ((cc / (2 : Int32)).toInt64)))), .second, .val (.int (1 : Int32)), .val (.long (hv / (16 : Int64))), .second, .val (.int (1 : Int32)), .val (.long (hv / (64 : Int64))), .second, .val (.int (0 : Int32)), .val (.long (hv - ((64 : Int64) * (hv / (64 : Int64))))), .second] [(.int (1 : Int32))])) _
      refine XS.goto X7.here hx rfl (pc0 := 338) (pc' := 342) rfl (hb hby at_338) (by decide) (by decide) ?_
      show Steps p.tables e below (T7.setTop (mkF m 342 #[.val (.long q1), .second, .val (.int p2), .val (.int (p2 &&& (3 : Int32))), .val (.long hv), .second, .val (.ref bx), .val (.int cc), .val (.int (1 : Int32)), .val (.int (cc / (2 : Int32))), .val (.long ((cc.toInt64) - ((2 : Int64) * ((cc / (2 : Int32)).toInt64)))), .second, .val (.int (1 : Int32)), .val (.long (hv / (16 : Int64))), .second, .val (.int (1 : Int32)), .val (.long (hv / (64 : Int64))), .second, .val (.int (0 : Int32)), .val (.long (hv - ((64 : Int64) * (hv / (64 : Int64))))), .second] [(.int (1 : Int32))])) _
      refine XS.istore X7.here hx rfl (hb hby at_342) rfl (l' := #[.val (.long q1), .second, .val (.int p2), .val (.int (p2 &&& (3 : Int32))), .val (.long hv), .second, .val (.ref bx), .val (.int cc), .val (.int (1 : Int32)), .val (.int (cc / (2 : Int32))), .val (.long ((cc.toInt64) - ((2 : Int64) * ((cc / (2 : Int32)).toInt64)))), .second, .val (.int (1 : Int32)), .val (.long (hv / (16 : Int64))), .second, .val (.int (1 : Int32)), .val (.long (hv / (64 : Int64))), .second, .val (.int (1 : Int32)), .val (.long (hv - ((64 : Int64) * (hv / (64 : Int64))))), .second]) rfl ?_
      show Steps p.tables e below (T7.setTop (mkF m 344 #[.val (.long q1), .second, .val (.int p2), .val (.int (p2 &&& (3 : Int32))), .val (.long hv), .second, .val (.ref bx), .val (.int cc), .val (.int (1 : Int32)), .val (.int (cc / (2 : Int32))), .val (.long ((cc.toInt64) - ((2 : Int64) * ((cc / (2 : Int32)).toInt64)))), .second, .val (.int (1 : Int32)), .val (.long (hv / (16 : Int64))), .second, .val (.int (1 : Int32)), .val (.long (hv / (64 : Int64))), .second, .val (.int (1 : Int32)), .val (.long (hv - ((64 : Int64) * (hv / (64 : Int64))))), .second] [])) _
      refine XS.iload X7.here hx rfl (hb hby at_344) rfl ?_
      show Steps p.tables e below (T7.setTop (mkF m 346 #[.val (.long q1), .second, .val (.int p2), .val (.int (p2 &&& (3 : Int32))), .val (.long hv), .second, .val (.ref bx), .val (.int cc), .val (.int (1 : Int32)), .val (.int (cc / (2 : Int32))), .val (.long ((cc.toInt64) - ((2 : Int64) * ((cc / (2 : Int32)).toInt64)))), .second, .val (.int (1 : Int32)), .val (.long (hv / (16 : Int64))), .second, .val (.int (1 : Int32)), .val (.long (hv / (64 : Int64))), .second, .val (.int (1 : Int32)), .val (.long (hv - ((64 : Int64) * (hv / (64 : Int64))))), .second] [(.int (1 : Int32))])) _
      have hc346 : ¬ ((1 : Int32) = (0 : Int32)) := by decide
      refine XS.ifNo X7.here hx rfl (hb hby at_346) rfl ((if0 _ _).trans (feq hc346).1) ?_
      show Steps p.tables e below (T7.setTop (mkF m 349 #[.val (.long q1), .second, .val (.int p2), .val (.int (p2 &&& (3 : Int32))), .val (.long hv), .second, .val (.ref bx), .val (.int cc), .val (.int (1 : Int32)), .val (.int (cc / (2 : Int32))), .val (.long ((cc.toInt64) - ((2 : Int64) * ((cc / (2 : Int32)).toInt64)))), .second, .val (.int (1 : Int32)), .val (.long (hv / (16 : Int64))), .second, .val (.int (1 : Int32)), .val (.long (hv / (64 : Int64))), .second, .val (.int (1 : Int32)), .val (.long (hv - ((64 : Int64) * (hv / (64 : Int64))))), .second] [])) _
      refine XS.iload X7.here hx rfl (hb hby at_349) rfl ?_
      show Steps p.tables e below (T7.setTop (mkF m 351 #[.val (.long q1), .second, .val (.int p2), .val (.int (p2 &&& (3 : Int32))), .val (.long hv), .second, .val (.ref bx), .val (.int cc), .val (.int (1 : Int32)), .val (.int (cc / (2 : Int32))), .val (.long ((cc.toInt64) - ((2 : Int64) * ((cc / (2 : Int32)).toInt64)))), .second, .val (.int (1 : Int32)), .val (.long (hv / (16 : Int64))), .second, .val (.int (1 : Int32)), .val (.long (hv / (64 : Int64))), .second, .val (.int (1 : Int32)), .val (.long (hv - ((64 : Int64) * (hv / (64 : Int64))))), .second] [(.int (1 : Int32))])) _
      have hc351 : ¬ ((1 : Int32) = (0 : Int32)) := by decide
      refine XS.ifNo X7.here hx rfl (hb hby at_351) rfl ((if0 _ _).trans (feq hc351).1) ?_
      show Steps p.tables e below (T7.setTop (mkF m 354 #[.val (.long q1), .second, .val (.int p2), .val (.int (p2 &&& (3 : Int32))), .val (.long hv), .second, .val (.ref bx), .val (.int cc), .val (.int (1 : Int32)), .val (.int (cc / (2 : Int32))), .val (.long ((cc.toInt64) - ((2 : Int64) * ((cc / (2 : Int32)).toInt64)))), .second, .val (.int (1 : Int32)), .val (.long (hv / (16 : Int64))), .second, .val (.int (1 : Int32)), .val (.long (hv / (64 : Int64))), .second, .val (.int (1 : Int32)), .val (.long (hv - ((64 : Int64) * (hv / (64 : Int64))))), .second] [])) _
      refine XS.iload X7.here hx rfl (hb hby at_354) rfl ?_
      show Steps p.tables e below (T7.setTop (mkF m 356 #[.val (.long q1), .second, .val (.int p2), .val (.int (p2 &&& (3 : Int32))), .val (.long hv), .second, .val (.ref bx), .val (.int cc), .val (.int (1 : Int32)), .val (.int (cc / (2 : Int32))), .val (.long ((cc.toInt64) - ((2 : Int64) * ((cc / (2 : Int32)).toInt64)))), .second, .val (.int (1 : Int32)), .val (.long (hv / (16 : Int64))), .second, .val (.int (1 : Int32)), .val (.long (hv / (64 : Int64))), .second, .val (.int (1 : Int32)), .val (.long (hv - ((64 : Int64) * (hv / (64 : Int64))))), .second] [(.int (1 : Int32))])) _
      have hc356 : ¬ ((1 : Int32) = (0 : Int32)) := by decide
      refine XS.ifNo X7.here hx rfl (hb hby at_356) rfl ((if0 _ _).trans (feq hc356).1) ?_
      show Steps p.tables e below (T7.setTop (mkF m 359 #[.val (.long q1), .second, .val (.int p2), .val (.int (p2 &&& (3 : Int32))), .val (.long hv), .second, .val (.ref bx), .val (.int cc), .val (.int (1 : Int32)), .val (.int (cc / (2 : Int32))), .val (.long ((cc.toInt64) - ((2 : Int64) * ((cc / (2 : Int32)).toInt64)))), .second, .val (.int (1 : Int32)), .val (.long (hv / (16 : Int64))), .second, .val (.int (1 : Int32)), .val (.long (hv / (64 : Int64))), .second, .val (.int (1 : Int32)), .val (.long (hv - ((64 : Int64) * (hv / (64 : Int64))))), .second] [])) _
      refine XS.iload X7.here hx rfl (hb hby at_359) rfl ?_
      show Steps p.tables e below (T7.setTop (mkF m 361 #[.val (.long q1), .second, .val (.int p2), .val (.int (p2 &&& (3 : Int32))), .val (.long hv), .second, .val (.ref bx), .val (.int cc), .val (.int (1 : Int32)), .val (.int (cc / (2 : Int32))), .val (.long ((cc.toInt64) - ((2 : Int64) * ((cc / (2 : Int32)).toInt64)))), .second, .val (.int (1 : Int32)), .val (.long (hv / (16 : Int64))), .second, .val (.int (1 : Int32)), .val (.long (hv / (64 : Int64))), .second, .val (.int (1 : Int32)), .val (.long (hv - ((64 : Int64) * (hv / (64 : Int64))))), .second] [(.int (1 : Int32))])) _
      have hc361 : ¬ ((1 : Int32) = (0 : Int32)) := by decide
      refine XS.ifNo X7.here hx rfl (hb hby at_361) rfl ((if0 _ _).trans (feq hc361).1) ?_
      show Steps p.tables e below (T7.setTop (mkF m 364 #[.val (.long q1), .second, .val (.int p2), .val (.int (p2 &&& (3 : Int32))), .val (.long hv), .second, .val (.ref bx), .val (.int cc), .val (.int (1 : Int32)), .val (.int (cc / (2 : Int32))), .val (.long ((cc.toInt64) - ((2 : Int64) * ((cc / (2 : Int32)).toInt64)))), .second, .val (.int (1 : Int32)), .val (.long (hv / (16 : Int64))), .second, .val (.int (1 : Int32)), .val (.long (hv / (64 : Int64))), .second, .val (.int (1 : Int32)), .val (.long (hv - ((64 : Int64) * (hv / (64 : Int64))))), .second] [])) _
      refine XS.iconst X7.here hx rfl (hb hby at_364) ?_
      show Steps p.tables e below (T7.setTop (mkF m 365 #[.val (.long q1), .second, .val (.int p2), .val (.int (p2 &&& (3 : Int32))), .val (.long hv), .second, .val (.ref bx), .val (.int cc), .val (.int (1 : Int32)), .val (.int (cc / (2 : Int32))), .val (.long ((cc.toInt64) - ((2 : Int64) * ((cc / (2 : Int32)).toInt64)))), .second, .val (.int (1 : Int32)), .val (.long (hv / (16 : Int64))), .second, .val (.int (1 : Int32)), .val (.long (hv / (64 : Int64))), .second, .val (.int (1 : Int32)), .val (.long (hv - ((64 : Int64) * (hv / (64 : Int64))))), .second] [(.int (1 : Int32))])) _
      refine XS.goto X7.here hx rfl (pc0 := 365) (pc' := 369) rfl (hb hby at_365) (by decide) (by decide) ?_
      show Steps p.tables e below (T7.setTop (mkF m 369 #[.val (.long q1), .second, .val (.int p2), .val (.int (p2 &&& (3 : Int32))), .val (.long hv), .second, .val (.ref bx), .val (.int cc), .val (.int (1 : Int32)), .val (.int (cc / (2 : Int32))), .val (.long ((cc.toInt64) - ((2 : Int64) * ((cc / (2 : Int32)).toInt64)))), .second, .val (.int (1 : Int32)), .val (.long (hv / (16 : Int64))), .second, .val (.int (1 : Int32)), .val (.long (hv / (64 : Int64))), .second, .val (.int (1 : Int32)), .val (.long (hv - ((64 : Int64) * (hv / (64 : Int64))))), .second] [(.int (1 : Int32))])) _
      exact retN X7 hx (t := .boolean) Bd.returns (by simp) (hb hby at_369) hr
    · show Q0 Z q1 p2 h0 n0 _ T7.heap _
      exact ⟨rfl, N7⟩
  · by_cases hc104 : (lcmpW hv (2164260864 : Int64)) < (0 : Int32)
    · -- pc 61: com/example/metrogate/metrogate/ClientLimits.forHeap by its contract rm1
      obtain ⟨_, _, ⟨T3, L3, k3, n3⟩, -, X3, ⟨Lc3, hQ3, l3, y3, z3⟩, st3⟩ := Jvm.LawKit.callS X0 hx (y := (⟨"com/example/metrogate/metrogate/ClientLimits", "forHeap", "(J)Lcom/example/metrogate/metrogate/ClientLimits;"⟩ : MethodName)) hown (mvT hZ (hw _ (List.mem_of_getElem? (i := 1) rfl))) (mvT hZ (hw _ (List.mem_of_getElem? (i := 2) rfl))) (mvT hZ (hw _ (List.mem_of_getElem? (i := 3) rfl))) (mvT hZ (hw _ (List.mem_of_getElem? (i := 4) rfl))) (by decide) (backOf (W := 0) (rm1 l Z a0 hw [] hv h0 n0 Z0) hZ (hw _ (List.mem_of_getElem? (i := 4) rfl)) (hw _ (List.mem_of_getElem? (i := 3) rfl)) (by decide) (by decide)) (g := (mkF m 61 #[.val (.long q1), .second, .val (.int p2), .val (.int (p2 &&& (3 : Int32))), .val (.long hv), .second, .unset, .unset, .unset, .unset, .unset, .unset, .unset, .unset, .unset, .unset, .unset, .unset, .unset, .unset, .unset] [(.long hv)])) rfl (by rw [hml]; rfl) (argsL := [(.long hv)]) (rest := []) (lenOf pd_0_0 rfl) rfl (by show 2 * 0 + _ ≤ _; exact Nat.le_of_eq rfl) (hb hby at_61) (fun _ _ => ⟨rfl, e0, (by decide : 0 + 1 ≤ _), (by decide : 0 + 4 ≤ _)⟩)
      dsimp only [Pt.U, Pt.locs, Pt.cells, Pt.slots] at X3 l3 y3 z3 st3 hQ3
      subst l3 y3 z3
      obtain ⟨bx, rfl, N3q, Kc3, Ex, Fc, Fa, Fs, Fb⟩ := hQ3
      obtain ⟨cc, hcc⟩ : ∃ cc, cc = (own_c hv).toInt32 := ⟨_, rfl⟩
      rw [← hcc] at Fc Fa
      have hC := own_cc hv hv0
      rw [← hcc] at hC
      have hc0 : 0 ≤ cc.toInt := by rw [hC]; split <;> (try split) <;> omega
      have Z3 := Nat.le_trans Z0 Kc3.1
      have N3 := Fr.app N0 N3q
      -- pc 68: com/example/metrogate/metrogate/ClientLimits.connections by the contract of the body that the receiver's class selects, rm7
      obtain ⟨cq4, kq4, q4a, q4b, q4c⟩ := isOf hZ rfl Ex
      obtain ⟨_, _, ⟨T4, L4, k4, n4⟩, -, X4, ⟨Lc4, hQ4, l4, y4, z4⟩, st4⟩ := X3.virtualBack hx (y := (⟨"com/example/metrogate/metrogate/ClientLimits", "connections", "()I"⟩ : MethodName)) (z := (⟨"com/example/metrogate/metrogate/ClientLimits", "connections", "()I"⟩ : MethodName)) hown (mvT hZ (hw _ (List.mem_of_getElem? (i := 39) rfl))) (mvT hZ (hw _ (List.mem_of_getElem? (i := 40) rfl))) (notFace_of_selects (args := #[]) (mvT hZ (hw _ (List.mem_of_getElem? (i := 42) rfl)))) (mvT hZ (hw _ (List.mem_of_getElem? (i := 42) rfl))) (mvT hZ (hw _ (List.mem_of_getElem? (i := 41) rfl))) (by decide) (backOf (W := 0) (rm7 l Z a0 hw [] bx cc T3.heap n0 Z3 Fc) hZ (hw _ (List.mem_of_getElem? (i := 43) rfl)) (hw _ (List.mem_of_getElem? (i := 3) rfl)) (by decide) (by decide)) q4a q4c (g := (mkF m 68 #[.val (.long q1), .second, .val (.int p2), .val (.int (p2 &&& (3 : Int32))), .val (.long hv), .second, .val (.ref bx), .unset, .unset, .unset, .unset, .unset, .unset, .unset, .unset, .unset, .unset, .unset, .unset, .unset, .unset] [(.ref bx)])) rfl (by rw [hml]; rfl) (Steps.refl _) (argsL := []) (rest := []) (lenOf pd_0_4 rfl) rfl (by show 2 * 0 + _ ≤ _; exact Nat.le_of_eq rfl) (hb hby at_68) (fun _ _ => ⟨rfl, rfl, (by decide : 1 + 0 ≤ _), (by decide : 4 + 0 ≤ _)⟩)
      dsimp only [Pt.U, Pt.locs, Pt.cells, Pt.slots] at X4 l4 y4 z4 st4 hQ4
      subst l4 y4 z4
      obtain ⟨rfl, N4q, hh4⟩ := hQ4
      have Kc4 : Keep T3.heap T4.heap [] := by rw [hh4]; exact Keep.refl _ _
      have Z4 := Nat.le_trans Z3 Kc4.1
      have N4 := Fr.app N3 N4q
      -- pc 185: com/example/metrogate/metrogate/ClientLimits.arrivingBodies by the contract of the body that the receiver's class selects, rm8
      obtain ⟨cq5, kq5, q5a, q5b, q5c⟩ := isOf hZ rfl (Ex.keep Kc4)
      obtain ⟨_, _, ⟨T5, L5, k5, n5⟩, -, X5, ⟨Lc5, hQ5, l5, y5, z5⟩, st5⟩ := X4.virtualBack hx (y := (⟨"com/example/metrogate/metrogate/ClientLimits", "arrivingBodies", "()I"⟩ : MethodName)) (z := (⟨"com/example/metrogate/metrogate/ClientLimits", "arrivingBodies", "()I"⟩ : MethodName)) hown (mvT hZ (hw _ (List.mem_of_getElem? (i := 45) rfl))) (mvT hZ (hw _ (List.mem_of_getElem? (i := 46) rfl))) (notFace_of_selects (args := #[]) (mvT hZ (hw _ (List.mem_of_getElem? (i := 48) rfl)))) (mvT hZ (hw _ (List.mem_of_getElem? (i := 48) rfl))) (mvT hZ (hw _ (List.mem_of_getElem? (i := 47) rfl))) (by decide) (backOf (W := 0) (rm8 l Z a0 hw [] bx (cc / (2 : Int32)) T4.heap n0 Z4 (Fa.keep Kc4 nin0)) hZ (hw _ (List.mem_of_getElem? (i := 49) rfl)) (hw _ (List.mem_of_getElem? (i := 3) rfl)) (by decide) (by decide)) q5a q5c (g := (mkF m 185 #[.val (.long q1), .second, .val (.int p2), .val (.int (p2 &&& (3 : Int32))), .val (.long hv), .second, .val (.ref bx), .val (.int cc), .val (.int (1 : Int32)), .val (.long (hv - (16777216 : Int64))), .second, .val (.long ((cc.toInt64) * (262144 : Int64))), .second, .unset, .unset, .unset, .unset, .unset, .unset, .unset, .unset] [(.ref bx)])) rfl (by rw [hml]; rfl) (Steps.refl _) (argsL := []) (rest := []) (lenOf pd_0_4 rfl) rfl (by show 2 * 0 + _ ≤ _; exact Nat.le_of_eq rfl) (hb hby at_185) (fun _ _ => ⟨rfl, rfl, (by decide : 1 + 0 ≤ _), (by decide : 4 + 0 ≤ _)⟩)
      dsimp only [Pt.U, Pt.locs, Pt.cells, Pt.slots] at X5 l5 y5 z5 st5 hQ5
      subst l5 y5 z5
      obtain ⟨rfl, N5q, hh5⟩ := hQ5
      have Kc5 : Keep T4.heap T5.heap [] := by rw [hh5]; exact Keep.refl _ _
      have Z5 := Nat.le_trans Z4 Kc5.1
      have N5 := Fr.app N4 N5q
      -- pc 226: com/example/metrogate/metrogate/ClientLimits.sharedBodyBytes by the contract of the body that the receiver's class selects, rm9
      obtain ⟨cq6, kq6, q6a, q6b, q6c⟩ := isOf hZ rfl ((Ex.keep Kc4).keep Kc5)
      obtain ⟨_, _, ⟨T6, L6, k6, n6⟩, -, X6, ⟨Lc6, hQ6, l6, y6, z6⟩, st6⟩ := X5.virtualBack hx (y := (⟨"com/example/metrogate/metrogate/ClientLimits", "sharedBodyBytes", "()J"⟩ : MethodName)) (z := (⟨"com/example/metrogate/metrogate/ClientLimits", "sharedBodyBytes", "()J"⟩ : MethodName)) hown (mvT hZ (hw _ (List.mem_of_getElem? (i := 51) rfl))) (mvT hZ (hw _ (List.mem_of_getElem? (i := 52) rfl))) (notFace_of_selects (args := #[]) (mvT hZ (hw _ (List.mem_of_getElem? (i := 54) rfl)))) (mvT hZ (hw _ (List.mem_of_getElem? (i := 54) rfl))) (mvT hZ (hw _ (List.mem_of_getElem? (i := 53) rfl))) (by decide) (backOf (W := 0) (rm9 l Z a0 hw [] bx (hv / (16 : Int64)) T5.heap n0 Z5 ((Fs.keep Kc4 nin0).keep Kc5 nin0)) hZ (hw _ (List.mem_of_getElem? (i := 55) rfl)) (hw _ (List.mem_of_getElem? (i := 3) rfl)) (by decide) (by decide)) q6a q6c (g := (mkF m 226 #[.val (.long q1), .second, .val (.int p2), .val (.int (p2 &&& (3 : Int32))), .val (.long hv), .second, .val (.ref bx), .val (.int cc), .val (.int (1 : Int32)), .val (.int (cc / (2 : Int32))), .val (.long ((cc.toInt64) - ((2 : Int64) * ((cc / (2 : Int32)).toInt64)))), .second, .val (.int (1 : Int32)), .unset, .unset, .unset, .unset, .unset, .unset, .unset, .unset] [(.ref bx)])) rfl (by rw [hml]; rfl) (Steps.refl _) (argsL := []) (rest := []) (lenOf pd_0_5 rfl) rfl (by show 2 * 0 + _ ≤ _; exact Nat.le_of_eq rfl) (hb hby at_226) (fun _ _ => ⟨rfl, rfl, (by decide : 1 + 0 ≤ _), (by decide : 4 + 0 ≤ _)⟩)
      dsimp only [Pt.U, Pt.locs, Pt.cells, Pt.slots] at X6 l6 y6 z6 st6 hQ6
      subst l6 y6 z6
      obtain ⟨rfl, N6q, hh6⟩ := hQ6
      have Kc6 : Keep T5.heap T6.heap [] := by rw [hh6]; exact Keep.refl _ _
      have Z6 := Nat.le_trans Z5 Kc6.1
      have N6 := Fr.app N5 N6q
      -- pc 286: com/example/metrogate/metrogate/ClientLimits.addressBytes by the contract of the body that the receiver's class selects, rm10
      obtain ⟨cq7, kq7, q7a, q7b, q7c⟩ := isOf hZ rfl (((Ex.keep Kc4).keep Kc5).keep Kc6)
      obtain ⟨_, _, ⟨T7, L7, k7, n7⟩, -, X7, ⟨Lc7, hQ7, l7, y7, z7⟩, st7⟩ := X6.virtualBack hx (y := (⟨"com/example/metrogate/metrogate/ClientLimits", "addressBytes", "()J"⟩ : MethodName)) (z := (⟨"com/example/metrogate/metrogate/ClientLimits", "addressBytes", "()J"⟩ : MethodName)) hown (mvT hZ (hw _ (List.mem_of_getElem? (i := 58) rfl))) (mvT hZ (hw _ (List.mem_of_getElem? (i := 59) rfl))) (notFace_of_selects (args := #[]) (mvT hZ (hw _ (List.mem_of_getElem? (i := 61) rfl)))) (mvT hZ (hw _ (List.mem_of_getElem? (i := 61) rfl))) (mvT hZ (hw _ (List.mem_of_getElem? (i := 60) rfl))) (by decide) (backOf (W := 0) (rm10 l Z a0 hw [] bx (hv / (64 : Int64)) T6.heap n0 Z6 (((Fb.keep Kc4 nin0).keep Kc5 nin0).keep Kc6 nin0)) hZ (hw _ (List.mem_of_getElem? (i := 62) rfl)) (hw _ (List.mem_of_getElem? (i := 3) rfl)) (by decide) (by decide)) q7a q7c (g := (mkF m 286 #[.val (.long q1), .second, .val (.int p2), .val (.int (p2 &&& (3 : Int32))), .val (.long hv), .second, .val (.ref bx), .val (.int cc), .val (.int (1 : Int32)), .val (.int (cc / (2 : Int32))), .val (.long ((cc.toInt64) - ((2 : Int64) * ((cc / (2 : Int32)).toInt64)))), .second, .val (.int (1 : Int32)), .val (.long (hv / (16 : Int64))), .second, .val (.int (1 : Int32)), .val (.long (hv - ((16 : Int64) * (hv / (16 : Int64))))), .second, .unset, .unset, .unset] [(.ref bx)])) rfl (by rw [hml]; rfl) (Steps.refl _) (argsL := []) (rest := []) (lenOf pd_0_5 rfl) rfl (by show 2 * 0 + _ ≤ _; exact Nat.le_of_eq rfl) (hb hby at_286) (fun _ _ => ⟨rfl, rfl, (by decide : 1 + 0 ≤ _), (by decide : 4 + 0 ≤ _)⟩)
      dsimp only [Pt.U, Pt.locs, Pt.cells, Pt.slots] at X7 l7 y7 z7 st7 hQ7
      subst l7 y7 z7
      obtain ⟨rfl, N7q, hh7⟩ := hQ7
      have Kc7 : Keep T6.heap T7.heap [] := by rw [hh7]; exact Keep.refl _ _
      have Z7 := Nat.le_trans Z6 Kc7.1
      have N7 := Fr.app N6 N7q
      obtain ⟨fs, hr, hrun, hended, hW, hsame⟩ := X7.leave (v := some (.int (1 : Int32))) (fun h => by rw [Bd.returns] at h; cases h)
      refine ⟨_, _, pre0 _ (preh _ ?_), hrun, hended, _, _, rfl, ?_, ⟨_, rfl⟩, hW, hsame.mono (by decide) (by decide)⟩
      · show Steps p.tables e below (s₁.setTop (mkF m 59 #[.val (.long q1), .second, .val (.int p2), .val (.int (p2 &&& (3 : Int32))), .val (.long hv), .second, .unset, .unset, .unset, .unset, .unset, .unset, .unset, .unset, .unset, .unset, .unset, .unset, .unset, .unset, .unset] [])) _
        refine XS.lload X0.here hx rfl (hb hby at_59) rfl ?_
        show Steps p.tables e below (s₁.setTop (mkF m 61 #[.val (.long q1), .second, .val (.int p2), .val (.int (p2 &&& (3 : Int32))), .val (.long hv), .second, .unset, .unset, .unset, .unset, .unset, .unset, .unset, .unset, .unset, .unset, .unset, .unset, .unset, .unset, .unset] [(.long hv)])) _
        refine st3 _ ?_
        show Steps p.tables e below (T3.setTop (mkF m 64 #[.val (.long q1), .second, .val (.int p2), .val (.int (p2 &&& (3 : Int32))), .val (.long hv), .second, .unset, .unset, .unset, .unset, .unset, .unset, .unset, .unset, .unset, .unset, .unset, .unset, .unset, .unset, .unset] [(.ref bx)])) _
        refine XS.astore X3.here hx rfl (hb hby at_64) rfl rfl (l' := #[.val (.long q1), .second, .val (.int p2), .val (.int (p2 &&& (3 : Int32))), .val (.long hv), .second, .val (.ref bx), .unset, .unset, .unset, .unset, .unset, .unset, .unset, .unset, .unset, .unset, .unset, .unset, .unset, .unset]) rfl ?_
        show Steps p.tables e below (T3.setTop (mkF m 66 #[.val (.long q1), .second, .val (.int p2), .val (.int (p2 &&& (3 : Int32))), .val (.long hv), .second, .val (.ref bx), .unset, .unset, .unset, .unset, .unset, .unset, .unset, .unset, .unset, .unset, .unset, .unset, .unset, .unset] [])) _
        refine XS.aload X3.here hx rfl (hb hby at_66) rfl rfl ?_
        show Steps p.tables e below (T3.setTop (mkF m 68 #[.val (.long q1), .second, .val (.int p2), .val (.int (p2 &&& (3 : Int32))), .val (.long hv), .second, .val (.ref bx), .unset, .unset, .unset, .unset, .unset, .unset, .unset, .unset, .unset, .unset, .unset, .unset, .unset, .unset] [(.ref bx)])) _
        refine st4.trans ?_
        show Steps p.tables e below (T4.setTop (mkF m 71 #[.val (.long q1), .second, .val (.int p2), .val (.int (p2 &&& (3 : Int32))), .val (.long hv), .second, .val (.ref bx), .unset, .unset, .unset, .unset, .unset, .unset, .unset, .unset, .unset, .unset, .unset, .unset, .unset, .unset] [(.int cc)])) _
        refine XS.istore X4.here hx rfl (hb hby at_71) rfl (l' := #[.val (.long q1), .second, .val (.int p2), .val (.int (p2 &&& (3 : Int32))), .val (.long hv), .second, .val (.ref bx), .val (.int cc), .unset, .unset, .unset, .unset, .unset, .unset, .unset, .unset, .unset, .unset, .unset, .unset, .unset]) rfl ?_
        show Steps p.tables e below (T4.setTop (mkF m 73 #[.val (.long q1), .second, .val (.int p2), .val (.int (p2 &&& (3 : Int32))), .val (.long hv), .second, .val (.ref bx), .val (.int cc), .unset, .unset, .unset, .unset, .unset, .unset, .unset, .unset, .unset, .unset, .unset, .unset, .unset] [])) _
        refine XS.lload X4.here hx rfl (hb hby at_73) rfl ?_
        show Steps p.tables e below (T4.setTop (mkF m 75 #[.val (.long q1), .second, .val (.int p2), .val (.int (p2 &&& (3 : Int32))), .val (.long hv), .second, .val (.ref bx), .val (.int cc), .unset, .unset, .unset, .unset, .unset, .unset, .unset, .unset, .unset, .unset, .unset, .unset, .unset] [(.long hv)])) _
        refine X4.ldc2Long hx hown (mvT hZ (hw _ (List.mem_of_getElem? (i := 44) rfl))) (g := (mkF m 75 #[.val (.long q1), .second, .val (.int p2), .val (.int (p2 &&& (3 : Int32))), .val (.long hv), .second, .val (.ref bx), .val (.int cc), .unset, .unset, .unset, .unset, .unset, .unset, .unset, .unset, .unset, .unset, .unset, .unset, .unset] [(.long hv)])) rfl (hb hby at_75) _ ?_
        show Steps p.tables e below (T4.setTop (mkF m 78 #[.val (.long q1), .second, .val (.int p2), .val (.int (p2 &&& (3 : Int32))), .val (.long hv), .second, .val (.ref bx), .val (.int cc), .unset, .unset, .unset, .unset, .unset, .unset, .unset, .unset, .unset, .unset, .unset, .unset, .unset] [(.long (17563648 : Int64)), (.long hv)])) _
        refine XS.lcmp X4.here hx rfl (hb hby at_78) rfl ?_
        show Steps p.tables e below (T4.setTop (mkF m 79 #[.val (.long q1), .second, .val (.int p2), .val (.int (p2 &&& (3 : Int32))), .val (.long hv), .second, .val (.ref bx), .val (.int cc), .unset, .unset, .unset, .unset, .unset, .unset, .unset, .unset, .unset, .unset, .unset, .unset, .unset] [(.int (lcmpW hv (17563648 : Int64)))])) _
        refine XS.ifYes X4.here hx rfl (pc0 := 79) (pc' := 98) rfl (hb hby at_79) rfl ((if0 _ _).trans (flt hc79).2.1) (by decide) (by decide) ?_
        show Steps p.tables e below (T4.setTop (mkF m 98 #[.val (.long q1), .second, .val (.int p2), .val (.int (p2 &&& (3 : Int32))), .val (.long hv), .second, .val (.ref bx), .val (.int cc), .unset, .unset, .unset, .unset, .unset, .unset, .unset, .unset, .unset, .unset, .unset, .unset, .unset] [])) _
        refine XS.lload X4.here hx rfl (hb hby at_98) rfl ?_
        show Steps p.tables e below (T4.setTop (mkF m 100 #[.val (.long q1), .second, .val (.int p2), .val (.int (p2 &&& (3 : Int32))), .val (.long hv), .second, .val (.ref bx), .val (.int cc), .unset, .unset, .unset, .unset, .unset, .unset, .unset, .unset, .unset, .unset, .unset, .unset, .unset] [(.long hv)])) _
        refine X4.ldc2Long hx hown (mvT hZ (hw _ (List.mem_of_getElem? (i := 66) rfl))) (g := (mkF m 100 #[.val (.long q1), .second, .val (.int p2), .val (.int (p2 &&& (3 : Int32))), .val (.long hv), .second, .val (.ref bx), .val (.int cc), .unset, .unset, .unset, .unset, .unset, .unset, .unset, .unset, .unset, .unset, .unset, .unset, .unset] [(.long hv)])) rfl (hb hby at_100) _ ?_
        show Steps p.tables e below (T4.setTop (mkF m 103 #[.val (.long q1), .second, .val (.int p2), .val (.int (p2 &&& (3 : Int32))), .val (.long hv), .second, .val (.ref bx), .val (.int cc), .unset, .unset, .unset, .unset, .unset, .unset, .unset, .unset, .unset, .unset, .unset, .unset, .unset] [(.long (2164260864 : Int64)), (.long hv)])) _
        refine XS.lcmp X4.here hx rfl (hb hby at_103) rfl ?_
        show Steps p.tables e below (T4.setTop (mkF m 104 #[.val (.long q1), .second, .val (.int p2), .val (.int (p2 &&& (3 : Int32))), .val (.long hv), .second, .val (.ref bx), .val (.int cc), .unset, .unset, .unset, .unset, .unset, .unset, .unset, .unset, .unset, .unset, .unset, .unset, .unset] [(.int (lcmpW hv (2164260864 : Int64)))])) _
        refine XS.ifYes X4.here hx rfl (pc0 := 104) (pc' := 125) rfl (hb hby at_104) rfl ((if0 _ _).trans (tlt hc104).1) (by decide) (by decide) ?_
        show Steps p.tables e below (T4.setTop (mkF m 125 #[.val (.long q1), .second, .val (.int p2), .val (.int (p2 &&& (3 : Int32))), .val (.long hv), .second, .val (.ref bx), .val (.int cc), .unset, .unset, .unset, .unset, .unset, .unset, .unset, .unset, .unset, .unset, .unset, .unset, .unset] [])) _
        refine XS.lload X4.here hx rfl (hb hby at_125) rfl ?_
        show Steps p.tables e below (T4.setTop (mkF m 127 #[.val (.long q1), .second, .val (.int p2), .val (.int (p2 &&& (3 : Int32))), .val (.long hv), .second, .val (.ref bx), .val (.int cc), .unset, .unset, .unset, .unset, .unset, .unset, .unset, .unset, .unset, .unset, .unset, .unset, .unset] [(.long hv)])) _
        refine X4.ldc2Long hx hown (mvT hZ (hw _ (List.mem_of_getElem? (i := 69) rfl))) (g := (mkF m 127 #[.val (.long q1), .second, .val (.int p2), .val (.int (p2 &&& (3 : Int32))), .val (.long hv), .second, .val (.ref bx), .val (.int cc), .unset, .unset, .unset, .unset, .unset, .unset, .unset, .unset, .unset, .unset, .unset, .unset, .unset] [(.long hv)])) rfl (hb hby at_127) _ ?_
        show Steps p.tables e below (T4.setTop (mkF m 130 #[.val (.long q1), .second, .val (.int p2), .val (.int (p2 &&& (3 : Int32))), .val (.long hv), .second, .val (.ref bx), .val (.int cc), .unset, .unset, .unset, .unset, .unset, .unset, .unset, .unset, .unset, .unset, .unset, .unset, .unset] [(.long (16777216 : Int64)), (.long hv)])) _
        refine XS.lsub X4.here hx rfl (hb hby at_130) rfl ?_
        show Steps p.tables e below (T4.setTop (mkF m 131 #[.val (.long q1), .second, .val (.int p2), .val (.int (p2 &&& (3 : Int32))), .val (.long hv), .second, .val (.ref bx), .val (.int cc), .unset, .unset, .unset, .unset, .unset, .unset, .unset, .unset, .unset, .unset, .unset, .unset, .unset] [(.long (hv - (16777216 : Int64)))])) _
        refine XS.lstore X4.here hx rfl (hb hby at_131) rfl (l' := #[.val (.long q1), .second, .val (.int p2), .val (.int (p2 &&& (3 : Int32))), .val (.long hv), .second, .val (.ref bx), .val (.int cc), .unset, .val (.long (hv - (16777216 : Int64))), .second, .unset, .unset, .unset, .unset, .unset, .unset, .unset, .unset, .unset, .unset]) rfl ?_
        show Steps p.tables e below (T4.setTop (mkF m 133 #[.val (.long q1), .second, .val (.int p2), .val (.int (p2 &&& (3 : Int32))), .val (.long hv), .second, .val (.ref bx), .val (.int cc), .unset, .val (.long (hv - (16777216 : Int64))), .second, .unset, .unset, .unset, .unset, .unset, .unset, .unset, .unset, .unset, .unset] [])) _
        refine XS.iload X4.here hx rfl (hb hby at_133) rfl ?_
        show Steps p.tables e below (T4.setTop (mkF m 135 #[.val (.long q1), .second, .val (.int p2), .val (.int (p2 &&& (3 : Int32))), .val (.long hv), .second, .val (.ref bx), .val (.int cc), .unset, .val (.long (hv - (16777216 : Int64))), .second, .unset, .unset, .unset, .unset, .unset, .unset, .unset, .unset, .unset, .unset] [(.int cc)])) _
        refine XS.i2l X4.here hx rfl (hb hby at_135) rfl ?_
        show Steps p.tables e below (T4.setTop (mkF m 136 #[.val (.long q1), .second, .val (.int p2), .val (.int (p2 &&& (3 : Int32))), .val (.long hv), .second, .val (.ref bx), .val (.int cc), .unset, .val (.long (hv - (16777216 : Int64))), .second, .unset, .unset, .unset, .unset, .unset, .unset, .unset, .unset, .unset, .unset] [(.long (cc.toInt64))])) _
        refine X4.ldc2Long hx hown (mvT hZ (hw _ (List.mem_of_getElem? (i := 70) rfl))) (g := (mkF m 136 #[.val (.long q1), .second, .val (.int p2), .val (.int (p2 &&& (3 : Int32))), .val (.long hv), .second, .val (.ref bx), .val (.int cc), .unset, .val (.long (hv - (16777216 : Int64))), .second, .unset, .unset, .unset, .unset, .unset, .unset, .unset, .unset, .unset, .unset] [(.long (cc.toInt64))])) rfl (hb hby at_136) _ ?_
        show Steps p.tables e below (T4.setTop (mkF m 139 #[.val (.long q1), .second, .val (.int p2), .val (.int (p2 &&& (3 : Int32))), .val (.long hv), .second, .val (.ref bx), .val (.int cc), .unset, .val (.long (hv - (16777216 : Int64))), .second, .unset, .unset, .unset, .unset, .unset, .unset, .unset, .unset, .unset, .unset] [(.long (262144 : Int64)), (.long (cc.toInt64))])) _
        refine XS.lmul X4.here hx rfl (hb hby at_139) rfl ?_
        show Steps p.tables e below (T4.setTop (mkF m 140 #[.val (.long q1), .second, .val (.int p2), .val (.int (p2 &&& (3 : Int32))), .val (.long hv), .second, .val (.ref bx), .val (.int cc), .unset, .val (.long (hv - (16777216 : Int64))), .second, .unset, .unset, .unset, .unset, .unset, .unset, .unset, .unset, .unset, .unset] [(.long ((cc.toInt64) * (262144 : Int64)))])) _
        refine XS.lstore X4.here hx rfl (hb hby at_140) rfl (l' := #[.val (.long q1), .second, .val (.int p2), .val (.int (p2 &&& (3 : Int32))), .val (.long hv), .second, .val (.ref bx), .val (.int cc), .unset, .val (.long (hv - (16777216 : Int64))), .second, .val (.long ((cc.toInt64) * (262144 : Int64))), .second, .unset, .unset, .unset, .unset, .unset, .unset, .unset, .unset]) rfl ?_
        show Steps p.tables e below (T4.setTop (mkF m 142 #[.val (.long q1), .second, .val (.int p2), .val (.int (p2 &&& (3 : Int32))), .val (.long hv), .second, .val (.ref bx), .val (.int cc), .unset, .val (.long (hv - (16777216 : Int64))), .second, .val (.long ((cc.toInt64) * (262144 : Int64))), .second, .unset, .unset, .unset, .unset, .unset, .unset, .unset, .unset] [])) _
        refine XS.iload X4.here hx rfl (hb hby at_142) rfl ?_
        show Steps p.tables e below (T4.setTop (mkF m 144 #[.val (.long q1), .second, .val (.int p2), .val (.int (p2 &&& (3 : Int32))), .val (.long hv), .second, .val (.ref bx), .val (.int cc), .unset, .val (.long (hv - (16777216 : Int64))), .second, .val (.long ((cc.toInt64) * (262144 : Int64))), .second, .unset, .unset, .unset, .unset, .unset, .unset, .unset, .unset] [(.int cc)])) _
        refine XS.iconst X4.here hx rfl (hb hby at_144) ?_
        show Steps p.tables e below (T4.setTop (mkF m 145 #[.val (.long q1), .second, .val (.int p2), .val (.int (p2 &&& (3 : Int32))), .val (.long hv), .second, .val (.ref bx), .val (.int cc), .unset, .val (.long (hv - (16777216 : Int64))), .second, .val (.long ((cc.toInt64) * (262144 : Int64))), .second, .unset, .unset, .unset, .unset, .unset, .unset, .unset, .unset] [(.int (3 : Int32)), (.int cc)])) _
        have hc145 : ¬ (cc < (3 : Int32)) := (own_C hv cc hC hc79 hc104).1
        refine XS.icmpNo X4.here hx rfl (hb hby at_145) rfl (flt hc145).1 ?_
        show Steps p.tables e below (T4.setTop (mkF m 148 #[.val (.long q1), .second, .val (.int p2), .val (.int (p2 &&& (3 : Int32))), .val (.long hv), .second, .val (.ref bx), .val (.int cc), .unset, .val (.long (hv - (16777216 : Int64))), .second, .val (.long ((cc.toInt64) * (262144 : Int64))), .second, .unset, .unset, .unset, .unset, .unset, .unset, .unset, .unset] [])) _
        refine XS.iload X4.here hx rfl (hb hby at_148) rfl ?_
        show Steps p.tables e below (T4.setTop (mkF m 150 #[.val (.long q1), .second, .val (.int p2), .val (.int (p2 &&& (3 : Int32))), .val (.long hv), .second, .val (.ref bx), .val (.int cc), .unset, .val (.long (hv - (16777216 : Int64))), .second, .val (.long ((cc.toInt64) * (262144 : Int64))), .second, .unset, .unset, .unset, .unset, .unset, .unset, .unset, .unset] [(.int cc)])) _
        refine XS.sipush X4.here hx rfl (hb hby at_150) ?_
        show Steps p.tables e below (T4.setTop (mkF m 153 #[.val (.long q1), .second, .val (.int p2), .val (.int (p2 &&& (3 : Int32))), .val (.long hv), .second, .val (.ref bx), .val (.int cc), .unset, .val (.long (hv - (16777216 : Int64))), .second, .val (.long ((cc.toInt64) * (262144 : Int64))), .second, .unset, .unset, .unset, .unset, .unset, .unset, .unset, .unset] [(.int (8191 : Int32)), (.int cc)])) _
        have hc153 : ¬ ((8191 : Int32) < cc) := (own_C hv cc hC hc79 hc104).2.1
        refine XS.icmpNo X4.here hx rfl (hb hby at_153) rfl (flt hc153).2.2.1 ?_
        show Steps p.tables e below (T4.setTop (mkF m 156 #[.val (.long q1), .second, .val (.int p2), .val (.int (p2 &&& (3 : Int32))), .val (.long hv), .second, .val (.ref bx), .val (.int cc), .unset, .val (.long (hv - (16777216 : Int64))), .second, .val (.long ((cc.toInt64) * (262144 : Int64))), .second, .unset, .unset, .unset, .unset, .unset, .unset, .unset, .unset] [])) _
        refine XS.lload X4.here hx rfl (hb hby at_156) rfl ?_
        show Steps p.tables e below (T4.setTop (mkF m 158 #[.val (.long q1), .second, .val (.int p2), .val (.int (p2 &&& (3 : Int32))), .val (.long hv), .second, .val (.ref bx), .val (.int cc), .unset, .val (.long (hv - (16777216 : Int64))), .second, .val (.long ((cc.toInt64) * (262144 : Int64))), .second, .unset, .unset, .unset, .unset, .unset, .unset, .unset, .unset] [(.long ((cc.toInt64) * (262144 : Int64)))])) _
        refine XS.lload X4.here hx rfl (hb hby at_158) rfl ?_
        show Steps p.tables e below (T4.setTop (mkF m 160 #[.val (.long q1), .second, .val (.int p2), .val (.int (p2 &&& (3 : Int32))), .val (.long hv), .second, .val (.ref bx), .val (.int cc), .unset, .val (.long (hv - (16777216 : Int64))), .second, .val (.long ((cc.toInt64) * (262144 : Int64))), .second, .unset, .unset, .unset, .unset, .unset, .unset, .unset, .unset] [(.long (hv - (16777216 : Int64))), (.long ((cc.toInt64) * (262144 : Int64)))])) _
        refine XS.lcmp X4.here hx rfl (hb hby at_160) rfl ?_
        show Steps p.tables e below (T4.setTop (mkF m 161 #[.val (.long q1), .second, .val (.int p2), .val (.int (p2 &&& (3 : Int32))), .val (.long hv), .second, .val (.ref bx), .val (.int cc), .unset, .val (.long (hv - (16777216 : Int64))), .second, .val (.long ((cc.toInt64) * (262144 : Int64))), .second, .unset, .unset, .unset, .unset, .unset, .unset, .unset, .unset] [(.int (lcmpW ((cc.toInt64) * (262144 : Int64)) (hv - (16777216 : Int64))))])) _
        have hc161 : ¬ ((0 : Int32) < (lcmpW ((cc.toInt64) * (262144 : Int64)) (hv - (16777216 : Int64)))) := (own_C hv cc hC hc79 hc104).2.2.1
        refine XS.ifNo X4.here hx rfl (hb hby at_161) rfl ((if0 _ _).trans (flt hc161).2.2.1) ?_
        show Steps p.tables e below (T4.setTop (mkF m 164 #[.val (.long q1), .second, .val (.int p2), .val (.int (p2 &&& (3 : Int32))), .val (.long hv), .second, .val (.ref bx), .val (.int cc), .unset, .val (.long (hv - (16777216 : Int64))), .second, .val (.long ((cc.toInt64) * (262144 : Int64))), .second, .unset, .unset, .unset, .unset, .unset, .unset, .unset, .unset] [])) _
        refine XS.lload X4.here hx rfl (hb hby at_164) rfl ?_
        show Steps p.tables e below (T4.setTop (mkF m 166 #[.val (.long q1), .second, .val (.int p2), .val (.int (p2 &&& (3 : Int32))), .val (.long hv), .second, .val (.ref bx), .val (.int cc), .unset, .val (.long (hv - (16777216 : Int64))), .second, .val (.long ((cc.toInt64) * (262144 : Int64))), .second, .unset, .unset, .unset, .unset, .unset, .unset, .unset, .unset] [(.long (hv - (16777216 : Int64)))])) _
        refine XS.lload X4.here hx rfl (hb hby at_166) rfl ?_
        show Steps p.tables e below (T4.setTop (mkF m 168 #[.val (.long q1), .second, .val (.int p2), .val (.int (p2 &&& (3 : Int32))), .val (.long hv), .second, .val (.ref bx), .val (.int cc), .unset, .val (.long (hv - (16777216 : Int64))), .second, .val (.long ((cc.toInt64) * (262144 : Int64))), .second, .unset, .unset, .unset, .unset, .unset, .unset, .unset, .unset] [(.long ((cc.toInt64) * (262144 : Int64))), (.long (hv - (16777216 : Int64)))])) _
        refine XS.lsub X4.here hx rfl (hb hby at_168) rfl ?_
        show Steps p.tables e below (T4.setTop (mkF m 169 #[.val (.long q1), .second, .val (.int p2), .val (.int (p2 &&& (3 : Int32))), .val (.long hv), .second, .val (.ref bx), .val (.int cc), .unset, .val (.long (hv - (16777216 : Int64))), .second, .val (.long ((cc.toInt64) * (262144 : Int64))), .second, .unset, .unset, .unset, .unset, .unset, .unset, .unset, .unset] [(.long ((hv - (16777216 : Int64)) - ((cc.toInt64) * (262144 : Int64))))])) _
        refine X4.ldc2Long hx hown (mvT hZ (hw _ (List.mem_of_getElem? (i := 70) rfl))) (g := (mkF m 169 #[.val (.long q1), .second, .val (.int p2), .val (.int (p2 &&& (3 : Int32))), .val (.long hv), .second, .val (.ref bx), .val (.int cc), .unset, .val (.long (hv - (16777216 : Int64))), .second, .val (.long ((cc.toInt64) * (262144 : Int64))), .second, .unset, .unset, .unset, .unset, .unset, .unset, .unset, .unset] [(.long ((hv - (16777216 : Int64)) - ((cc.toInt64) * (262144 : Int64))))])) rfl (hb hby at_169) _ ?_
        show Steps p.tables e below (T4.setTop (mkF m 172 #[.val (.long q1), .second, .val (.int p2), .val (.int (p2 &&& (3 : Int32))), .val (.long hv), .second, .val (.ref bx), .val (.int cc), .unset, .val (.long (hv - (16777216 : Int64))), .second, .val (.long ((cc.toInt64) * (262144 : Int64))), .second, .unset, .unset, .unset, .unset, .unset, .unset, .unset, .unset] [(.long (262144 : Int64)), (.long ((hv - (16777216 : Int64)) - ((cc.toInt64) * (262144 : Int64))))])) _
        refine XS.lcmp X4.here hx rfl (hb hby at_172) rfl ?_
        show Steps p.tables e below (T4.setTop (mkF m 173 #[.val (.long q1), .second, .val (.int p2), .val (.int (p2 &&& (3 : Int32))), .val (.long hv), .second, .val (.ref bx), .val (.int cc), .unset, .val (.long (hv - (16777216 : Int64))), .second, .val (.long ((cc.toInt64) * (262144 : Int64))), .second, .unset, .unset, .unset, .unset, .unset, .unset, .unset, .unset] [(.int (lcmpW ((hv - (16777216 : Int64)) - ((cc.toInt64) * (262144 : Int64))) (262144 : Int64)))])) _
        have hc173 : (lcmpW ((hv - (16777216 : Int64)) - ((cc.toInt64) * (262144 : Int64))) (262144 : Int64)) < (0 : Int32) := (own_C hv cc hC hc79 hc104).2.2.2
        refine XS.ifNo X4.here hx rfl (hb hby at_173) rfl ((if0 _ _).trans (tlt hc173).2.1) ?_
        show Steps p.tables e below (T4.setTop (mkF m 176 #[.val (.long q1), .second, .val (.int p2), .val (.int (p2 &&& (3 : Int32))), .val (.long hv), .second, .val (.ref bx), .val (.int cc), .unset, .val (.long (hv - (16777216 : Int64))), .second, .val (.long ((cc.toInt64) * (262144 : Int64))), .second, .unset, .unset, .unset, .unset, .unset, .unset, .unset, .unset] [])) _
        refine XS.iconst X4.here hx rfl (hb hby at_176) ?_
        show Steps p.tables e below (T4.setTop (mkF m 177 #[.val (.long q1), .second, .val (.int p2), .val (.int (p2 &&& (3 : Int32))), .val (.long hv), .second, .val (.ref bx), .val (.int cc), .unset, .val (.long (hv - (16777216 : Int64))), .second, .val (.long ((cc.toInt64) * (262144 : Int64))), .second, .unset, .unset, .unset, .unset, .unset, .unset, .unset, .unset] [(.int (1 : Int32))])) _
        refine XS.goto X4.here hx rfl (pc0 := 177) (pc' := 181) rfl (hb hby at_177) (by decide) (by decide) ?_
        show Steps p.tables e below (T4.setTop (mkF m 181 #[.val (.long q1), .second, .val (.int p2), .val (.int (p2 &&& (3 : Int32))), .val (.long hv), .second, .val (.ref bx), .val (.int cc), .unset, .val (.long (hv - (16777216 : Int64))), .second, .val (.long ((cc.toInt64) * (262144 : Int64))), .second, .unset, .unset, .unset, .unset, .unset, .unset, .unset, .unset] [(.int (1 : Int32))])) _
        refine XS.istore X4.here hx rfl (hb hby at_181) rfl (l' := #[.val (.long q1), .second, .val (.int p2), .val (.int (p2 &&& (3 : Int32))), .val (.long hv), .second, .val (.ref bx), .val (.int cc), .val (.int (1 : Int32)), .val (.long (hv - (16777216 : Int64))), .second, .val (.long ((cc.toInt64) * (262144 : Int64))), .second, .unset, .unset, .unset, .unset, .unset, .unset, .unset, .unset]) rfl ?_
        show Steps p.tables e below (T4.setTop (mkF m 183 #[.val (.long q1), .second, .val (.int p2), .val (.int (p2 &&& (3 : Int32))), .val (.long hv), .second, .val (.ref bx), .val (.int cc), .val (.int (1 : Int32)), .val (.long (hv - (16777216 : Int64))), .second, .val (.long ((cc.toInt64) * (262144 : Int64))), .second, .unset, .unset, .unset, .unset, .unset, .unset, .unset, .unset] [])) _
        refine XS.aload X4.here hx rfl (hb hby at_183) rfl rfl ?_
        show Steps p.tables e below (T4.setTop (mkF m 185 #[.val (.long q1), .second, .val (.int p2), .val (.int (p2 &&& (3 : Int32))), .val (.long hv), .second, .val (.ref bx), .val (.int cc), .val (.int (1 : Int32)), .val (.long (hv - (16777216 : Int64))), .second, .val (.long ((cc.toInt64) * (262144 : Int64))), .second, .unset, .unset, .unset, .unset, .unset, .unset, .unset, .unset] [(.ref bx)])) _
        refine st5.trans ?_
        show Steps p.tables e below (T5.setTop (mkF m 188 #[.val (.long q1), .second, .val (.int p2), .val (.int (p2 &&& (3 : Int32))), .val (.long hv), .second, .val (.ref bx), .val (.int cc), .val (.int (1 : Int32)), .val (.long (hv - (16777216 : Int64))), .second, .val (.long ((cc.toInt64) * (262144 : Int64))), .second, .unset, .unset, .unset, .unset, .unset, .unset, .unset, .unset] [(.int (cc / (2 : Int32)))])) _
        refine XS.istore X5.here hx rfl (hb hby at_188) rfl (l' := #[.val (.long q1), .second, .val (.int p2), .val (.int (p2 &&& (3 : Int32))), .val (.long hv), .second, .val (.ref bx), .val (.int cc), .val (.int (1 : Int32)), .val (.int (cc / (2 : Int32))), .unset, .val (.long ((cc.toInt64) * (262144 : Int64))), .second, .unset, .unset, .unset, .unset, .unset, .unset, .unset, .unset]) rfl ?_
        show Steps p.tables e below (T5.setTop (mkF m 190 #[.val (.long q1), .second, .val (.int p2), .val (.int (p2 &&& (3 : Int32))), .val (.long hv), .second, .val (.ref bx), .val (.int cc), .val (.int (1 : Int32)), .val (.int (cc / (2 : Int32))), .unset, .val (.long ((cc.toInt64) * (262144 : Int64))), .second, .unset, .unset, .unset, .unset, .unset, .unset, .unset, .unset] [])) _
        refine XS.iload X5.here hx rfl (hb hby at_190) rfl ?_
        show Steps p.tables e below (T5.setTop (mkF m 192 #[.val (.long q1), .second, .val (.int p2), .val (.int (p2 &&& (3 : Int32))), .val (.long hv), .second, .val (.ref bx), .val (.int cc), .val (.int (1 : Int32)), .val (.int (cc / (2 : Int32))), .unset, .val (.long ((cc.toInt64) * (262144 : Int64))), .second, .unset, .unset, .unset, .unset, .unset, .unset, .unset, .unset] [(.int cc)])) _
        refine XS.i2l X5.here hx rfl (hb hby at_192) rfl ?_
        show Steps p.tables e below (T5.setTop (mkF m 193 #[.val (.long q1), .second, .val (.int p2), .val (.int (p2 &&& (3 : Int32))), .val (.long hv), .second, .val (.ref bx), .val (.int cc), .val (.int (1 : Int32)), .val (.int (cc / (2 : Int32))), .unset, .val (.long ((cc.toInt64) * (262144 : Int64))), .second, .unset, .unset, .unset, .unset, .unset, .unset, .unset, .unset] [(.long (cc.toInt64))])) _
        refine X5.ldc2Long hx hown (mvT hZ (hw _ (List.mem_of_getElem? (i := 50) rfl))) (g := (mkF m 193 #[.val (.long q1), .second, .val (.int p2), .val (.int (p2 &&& (3 : Int32))), .val (.long hv), .second, .val (.ref bx), .val (.int cc), .val (.int (1 : Int32)), .val (.int (cc / (2 : Int32))), .unset, .val (.long ((cc.toInt64) * (262144 : Int64))), .second, .unset, .unset, .unset, .unset, .unset, .unset, .unset, .unset] [(.long (cc.toInt64))])) rfl (hb hby at_193) _ ?_
        show Steps p.tables e below (T5.setTop (mkF m 196 #[.val (.long q1), .second, .val (.int p2), .val (.int (p2 &&& (3 : Int32))), .val (.long hv), .second, .val (.ref bx), .val (.int cc), .val (.int (1 : Int32)), .val (.int (cc / (2 : Int32))), .unset, .val (.long ((cc.toInt64) * (262144 : Int64))), .second, .unset, .unset, .unset, .unset, .unset, .unset, .unset, .unset] [(.long (2 : Int64)), (.long (cc.toInt64))])) _
        refine XS.iload X5.here hx rfl (hb hby at_196) rfl ?_
        show Steps p.tables e below (T5.setTop (mkF m 198 #[.val (.long q1), .second, .val (.int p2), .val (.int (p2 &&& (3 : Int32))), .val (.long hv), .second, .val (.ref bx), .val (.int cc), .val (.int (1 : Int32)), .val (.int (cc / (2 : Int32))), .unset, .val (.long ((cc.toInt64) * (262144 : Int64))), .second, .unset, .unset, .unset, .unset, .unset, .unset, .unset, .unset] [(.int (cc / (2 : Int32))), (.long (2 : Int64)), (.long (cc.toInt64))])) _
        refine XS.i2l X5.here hx rfl (hb hby at_198) rfl ?_
        show Steps p.tables e below (T5.setTop (mkF m 199 #[.val (.long q1), .second, .val (.int p2), .val (.int (p2 &&& (3 : Int32))), .val (.long hv), .second, .val (.ref bx), .val (.int cc), .val (.int (1 : Int32)), .val (.int (cc / (2 : Int32))), .unset, .val (.long ((cc.toInt64) * (262144 : Int64))), .second, .unset, .unset, .unset, .unset, .unset, .unset, .unset, .unset] [(.long ((cc / (2 : Int32)).toInt64)), (.long (2 : Int64)), (.long (cc.toInt64))])) _
        refine XS.lmul X5.here hx rfl (hb hby at_199) rfl ?_
        show Steps p.tables e below (T5.setTop (mkF m 200 #[.val (.long q1), .second, .val (.int p2), .val (.int (p2 &&& (3 : Int32))), .val (.long hv), .second, .val (.ref bx), .val (.int cc), .val (.int (1 : Int32)), .val (.int (cc / (2 : Int32))), .unset, .val (.long ((cc.toInt64) * (262144 : Int64))), .second, .unset, .unset, .unset, .unset, .unset, .unset, .unset, .unset] [(.long ((2 : Int64) * ((cc / (2 : Int32)).toInt64))), (.long (cc.toInt64))])) _
        refine XS.lsub X5.here hx rfl (hb hby at_200) rfl ?_
        show Steps p.tables e below (T5.setTop (mkF m 201 #[.val (.long q1), .second, .val (.int p2), .val (.int (p2 &&& (3 : Int32))), .val (.long hv), .second, .val (.ref bx), .val (.int cc), .val (.int (1 : Int32)), .val (.int (cc / (2 : Int32))), .unset, .val (.long ((cc.toInt64) * (262144 : Int64))), .second, .unset, .unset, .unset, .unset, .unset, .unset, .unset, .unset] [(.long ((cc.toInt64) - ((2 : Int64) * ((cc / (2 : Int32)).toInt64))))])) _
        refine XS.lstore X5.here hx rfl (hb hby at_201) rfl (l' := #[.val (.long q1), .second, .val (.int p2), .val (.int (p2 &&& (3 : Int32))), .val (.long hv), .second, .val (.ref bx), .val (.int cc), .val (.int (1 : Int32)), .val (.int (cc / (2 : Int32))), .val (.long ((cc.toInt64) - ((2 : Int64) * ((cc / (2 : Int32)).toInt64)))), .second, .unset, .unset, .unset, .unset, .unset, .unset, .unset, .unset, .unset]) rfl ?_
        show Steps p.tables e below (T5.setTop (mkF m 203 #[.val (.long q1), .second, .val (.int p2), .val (.int (p2 &&& (3 : Int32))), .val (.long hv), .second, .val (.ref bx), .val (.int cc), .val (.int (1 : Int32)), .val (.int (cc / (2 : Int32))), .val (.long ((cc.toInt64) - ((2 : Int64) * ((cc / (2 : Int32)).toInt64)))), .second, .unset, .unset, .unset, .unset, .unset, .unset, .unset, .unset, .unset] [])) _
        refine XS.lload X5.here hx rfl (hb hby at_203) rfl ?_
        show Steps p.tables e below (T5.setTop (mkF m 205 #[.val (.long q1), .second, .val (.int p2), .val (.int (p2 &&& (3 : Int32))), .val (.long hv), .second, .val (.ref bx), .val (.int cc), .val (.int (1 : Int32)), .val (.int (cc / (2 : Int32))), .val (.long ((cc.toInt64) - ((2 : Int64) * ((cc / (2 : Int32)).toInt64)))), .second, .unset, .unset, .unset, .unset, .unset, .unset, .unset, .unset, .unset] [(.long ((cc.toInt64) - ((2 : Int64) * ((cc / (2 : Int32)).toInt64))))])) _
        refine XS.lconst X5.here hx rfl (hb hby at_205) ?_
        show Steps p.tables e below (T5.setTop (mkF m 206 #[.val (.long q1), .second, .val (.int p2), .val (.int (p2 &&& (3 : Int32))), .val (.long hv), .second, .val (.ref bx), .val (.int cc), .val (.int (1 : Int32)), .val (.int (cc / (2 : Int32))), .val (.long ((cc.toInt64) - ((2 : Int64) * ((cc / (2 : Int32)).toInt64)))), .second, .unset, .unset, .unset, .unset, .unset, .unset, .unset, .unset, .unset] [(.long (0 : Int64)), (.long ((cc.toInt64) - ((2 : Int64) * ((cc / (2 : Int32)).toInt64))))])) _
        refine XS.lcmp X5.here hx rfl (hb hby at_206) rfl ?_
        show Steps p.tables e below (T5.setTop (mkF m 207 #[.val (.long q1), .second, .val (.int p2), .val (.int (p2 &&& (3 : Int32))), .val (.long hv), .second, .val (.ref bx), .val (.int cc), .val (.int (1 : Int32)), .val (.int (cc / (2 : Int32))), .val (.long ((cc.toInt64) - ((2 : Int64) * ((cc / (2 : Int32)).toInt64)))), .second, .unset, .unset, .unset, .unset, .unset, .unset, .unset, .unset, .unset] [(.int (lcmpW ((cc.toInt64) - ((2 : Int64) * ((cc / (2 : Int32)).toInt64))) (0 : Int64)))])) _
        have hc207 : ¬ ((lcmpW ((cc.toInt64) - ((2 : Int64) * ((cc / (2 : Int32)).toInt64))) (0 : Int64)) < (0 : Int32)) := (own_207 cc hc0).1
        refine XS.ifNo X5.here hx rfl (hb hby at_207) rfl ((if0 _ _).trans (flt hc207).1) ?_
        show Steps p.tables e below (T5.setTop (mkF m 210 #[.val (.long q1), .second, .val (.int p2), .val (.int (p2 &&& (3 : Int32))), .val (.long hv), .second, .val (.ref bx), .val (.int cc), .val (.int (1 : Int32)), .val (.int (cc / (2 : Int32))), .val (.long ((cc.toInt64) - ((2 : Int64) * ((cc / (2 : Int32)).toInt64)))), .second, .unset, .unset, .unset, .unset, .unset, .unset, .unset, .unset, .unset] [])) _
        refine XS.lload X5.here hx rfl (hb hby at_210) rfl ?_
        show Steps p.tables e below (T5.setTop (mkF m 212 #[.val (.long q1), .second, .val (.int p2), .val (.int (p2 &&& (3 : Int32))), .val (.long hv), .second, .val (.ref bx), .val (.int cc), .val (.int (1 : Int32)), .val (.int (cc / (2 : Int32))), .val (.long ((cc.toInt64) - ((2 : Int64) * ((cc / (2 : Int32)).toInt64)))), .second, .unset, .unset, .unset, .unset, .unset, .unset, .unset, .unset, .unset] [(.long ((cc.toInt64) - ((2 : Int64) * ((cc / (2 : Int32)).toInt64))))])) _
        refine XS.lconst X5.here hx rfl (hb hby at_212) ?_
        show Steps p.tables e below (T5.setTop (mkF m 213 #[.val (.long q1), .second, .val (.int p2), .val (.int (p2 &&& (3 : Int32))), .val (.long hv), .second, .val (.ref bx), .val (.int cc), .val (.int (1 : Int32)), .val (.int (cc / (2 : Int32))), .val (.long ((cc.toInt64) - ((2 : Int64) * ((cc / (2 : Int32)).toInt64)))), .second, .unset, .unset, .unset, .unset, .unset, .unset, .unset, .unset, .unset] [(.long (1 : Int64)), (.long ((cc.toInt64) - ((2 : Int64) * ((cc / (2 : Int32)).toInt64))))])) _
        refine XS.lcmp X5.here hx rfl (hb hby at_213) rfl ?_
        show Steps p.tables e below (T5.setTop (mkF m 214 #[.val (.long q1), .second, .val (.int p2), .val (.int (p2 &&& (3 : Int32))), .val (.long hv), .second, .val (.ref bx), .val (.int cc), .val (.int (1 : Int32)), .val (.int (cc / (2 : Int32))), .val (.long ((cc.toInt64) - ((2 : Int64) * ((cc / (2 : Int32)).toInt64)))), .second, .unset, .unset, .unset, .unset, .unset, .unset, .unset, .unset, .unset] [(.int (lcmpW ((cc.toInt64) - ((2 : Int64) * ((cc / (2 : Int32)).toInt64))) (1 : Int64)))])) _
        have hc214 : ¬ ((0 : Int32) < (lcmpW ((cc.toInt64) - ((2 : Int64) * ((cc / (2 : Int32)).toInt64))) (1 : Int64))) := (own_207 cc hc0).2
        refine XS.ifNo X5.here hx rfl (hb hby at_214) rfl ((if0 _ _).trans (flt hc214).2.2.1) ?_
        show Steps p.tables e below (T5.setTop (mkF m 217 #[.val (.long q1), .second, .val (.int p2), .val (.int (p2 &&& (3 : Int32))), .val (.long hv), .second, .val (.ref bx), .val (.int cc), .val (.int (1 : Int32)), .val (.int (cc / (2 : Int32))), .val (.long ((cc.toInt64) - ((2 : Int64) * ((cc / (2 : Int32)).toInt64)))), .second, .unset, .unset, .unset, .unset, .unset, .unset, .unset, .unset, .unset] [])) _
        refine XS.iconst X5.here hx rfl (hb hby at_217) ?_
        show Steps p.tables e below (T5.setTop (mkF m 218 #[.val (.long q1), .second, .val (.int p2), .val (.int (p2 &&& (3 : Int32))), .val (.long hv), .second, .val (.ref bx), .val (.int cc), .val (.int (1 : Int32)), .val (.int (cc / (2 : Int32))), .val (.long ((cc.toInt64) - ((2 : Int64) * ((cc / (2 : Int32)).toInt64)))), .second, .unset, .unset, .unset, .unset, .unset, .unset, .unset, .unset, .unset] [(.int (1 : Int32))])) _
        refine XS.goto X5.here hx rfl (pc0 := 218) (pc' := 222) rfl (hb hby at_218) (by decide) (by decide) ?_
        show Steps p.tables e below (T5.setTop (mkF m 222 #[.val (.long q1), .second, .val (.int p2), .val (.int (p2 &&& (3 : Int32))), .val (.long hv), .second, .val (.ref bx), .val (.int cc), .val (.int (1 : Int32)), .val (.int (cc / (2 : Int32))), .val (.long ((cc.toInt64) - ((2 : Int64) * ((cc / (2 : Int32)).toInt64)))), .second, .unset, .unset, .unset, .unset, .unset, .unset, .unset, .unset, .unset] [(.int (1 : Int32))])) _
        refine XS.istore X5.here hx rfl (hb hby at_222) rfl (l' := #[.val (.long q1), .second, .val (.int p2), .val (.int (p2 &&& (3 : Int32))), .val (.long hv), .second, .val (.ref bx), .val (.int cc), .val (.int (1 : Int32)), .val (.int (cc / (2 : Int32))), .val (.long ((cc.toInt64) - ((2 : Int64) * ((cc / (2 : Int32)).toInt64)))), .second, .val (.int (1 : Int32)), .unset, .unset, .unset, .unset, .unset, .unset, .unset, .unset]) rfl ?_
        show Steps p.tables e below (T5.setTop (mkF m 224 #[.val (.long q1), .second, .val (.int p2), .val (.int (p2 &&& (3 : Int32))), .val (.long hv), .second, .val (.ref bx), .val (.int cc), .val (.int (1 : Int32)), .val (.int (cc / (2 : Int32))), .val (.long ((cc.toInt64) - ((2 : Int64) * ((cc / (2 : Int32)).toInt64)))), .second, .val (.int (1 : Int32)), .unset, .unset, .unset, .unset, .unset, .unset, .unset, .unset] [])) _
        refine XS.aload X5.here hx rfl (hb hby at_224) rfl rfl ?_
        show Steps p.tables e below (T5.setTop (mkF m 226 #[.val (.long q1), .second, .val (.int p2), .val (.int (p2 &&& (3 : Int32))), .val (.long hv), .second, .val (.ref bx), .val (.int cc), .val (.int (1 : Int32)), .val (.int (cc / (2 : Int32))), .val (.long ((cc.toInt64) - ((2 : Int64) * ((cc / (2 : Int32)).toInt64)))), .second, .val (.int (1 : Int32)), .unset, .unset, .unset, .unset, .unset, .unset, .unset, .unset] [(.ref bx)])) _
        refine st6.trans ?_
        show Steps p.tables e below (T6.setTop (mkF m 229 #[.val (.long q1), .second, .val (.int p2), .val (.int (p2 &&& (3 : Int32))), .val (.long hv), .second, .val (.ref bx), .val (.int cc), .val (.int (1 : Int32)), .val (.int (cc / (2 : Int32))), .val (.long ((cc.toInt64) - ((2 : Int64) * ((cc / (2 : Int32)).toInt64)))), .second, .val (.int (1 : Int32)), .unset, .unset, .unset, .unset, .unset, .unset, .unset, .unset] [(.long (hv / (16 : Int64)))])) _
        refine XS.lstore X6.here hx rfl (hb hby at_229) rfl (l' := #[.val (.long q1), .second, .val (.int p2), .val (.int (p2 &&& (3 : Int32))), .val (.long hv), .second, .val (.ref bx), .val (.int cc), .val (.int (1 : Int32)), .val (.int (cc / (2 : Int32))), .val (.long ((cc.toInt64) - ((2 : Int64) * ((cc / (2 : Int32)).toInt64)))), .second, .val (.int (1 : Int32)), .val (.long (hv / (16 : Int64))), .second, .unset, .unset, .unset, .unset, .unset, .unset]) rfl ?_
        show Steps p.tables e below (T6.setTop (mkF m 231 #[.val (.long q1), .second, .val (.int p2), .val (.int (p2 &&& (3 : Int32))), .val (.long hv), .second, .val (.ref bx), .val (.int cc), .val (.int (1 : Int32)), .val (.int (cc / (2 : Int32))), .val (.long ((cc.toInt64) - ((2 : Int64) * ((cc / (2 : Int32)).toInt64)))), .second, .val (.int (1 : Int32)), .val (.long (hv / (16 : Int64))), .second, .unset, .unset, .unset, .unset, .unset, .unset] [])) _
        refine XS.iconst X6.here hx rfl (hb hby at_231) ?_
        show Steps p.tables e below (T6.setTop (mkF m 232 #[.val (.long q1), .second, .val (.int p2), .val (.int (p2 &&& (3 : Int32))), .val (.long hv), .second, .val (.ref bx), .val (.int cc), .val (.int (1 : Int32)), .val (.int (cc / (2 : Int32))), .val (.long ((cc.toInt64) - ((2 : Int64) * ((cc / (2 : Int32)).toInt64)))), .second, .val (.int (1 : Int32)), .val (.long (hv / (16 : Int64))), .second, .unset, .unset, .unset, .unset, .unset, .unset] [(.int (0 : Int32))])) _
        refine XS.istore X6.here hx rfl (hb hby at_232) rfl (l' := #[.val (.long q1), .second, .val (.int p2), .val (.int (p2 &&& (3 : Int32))), .val (.long hv), .second, .val (.ref bx), .val (.int cc), .val (.int (1 : Int32)), .val (.int (cc / (2 : Int32))), .val (.long ((cc.toInt64) - ((2 : Int64) * ((cc / (2 : Int32)).toInt64)))), .second, .val (.int (1 : Int32)), .val (.long (hv / (16 : Int64))), .second, .val (.int (0 : Int32)), .unset, .unset, .unset, .unset, .unset]) rfl ?_
        show Steps p.tables e below (T6.setTop (mkF m 234 #[.val (.long q1), .second, .val (.int p2), .val (.int (p2 &&& (3 : Int32))), .val (.long hv), .second, .val (.ref bx), .val (.int cc), .val (.int (1 : Int32)), .val (.int (cc / (2 : Int32))), .val (.long ((cc.toInt64) - ((2 : Int64) * ((cc / (2 : Int32)).toInt64)))), .second, .val (.int (1 : Int32)), .val (.long (hv / (16 : Int64))), .second, .val (.int (0 : Int32)), .unset, .unset, .unset, .unset, .unset] [])) _
        refine XS.lload X6.here hx rfl (hb hby at_234) rfl ?_
        show Steps p.tables e below (T6.setTop (mkF m 236 #[.val (.long q1), .second, .val (.int p2), .val (.int (p2 &&& (3 : Int32))), .val (.long hv), .second, .val (.ref bx), .val (.int cc), .val (.int (1 : Int32)), .val (.int (cc / (2 : Int32))), .val (.long ((cc.toInt64) - ((2 : Int64) * ((cc / (2 : Int32)).toInt64)))), .second, .val (.int (1 : Int32)), .val (.long (hv / (16 : Int64))), .second, .val (.int (0 : Int32)), .unset, .unset, .unset, .unset, .unset] [(.long (hv / (16 : Int64)))])) _
        refine XS.lconst X6.here hx rfl (hb hby at_236) ?_
        show Steps p.tables e below (T6.setTop (mkF m 237 #[.val (.long q1), .second, .val (.int p2), .val (.int (p2 &&& (3 : Int32))), .val (.long hv), .second, .val (.ref bx), .val (.int cc), .val (.int (1 : Int32)), .val (.int (cc / (2 : Int32))), .val (.long ((cc.toInt64) - ((2 : Int64) * ((cc / (2 : Int32)).toInt64)))), .second, .val (.int (1 : Int32)), .val (.long (hv / (16 : Int64))), .second, .val (.int (0 : Int32)), .unset, .unset, .unset, .unset, .unset] [(.long (0 : Int64)), (.long (hv / (16 : Int64)))])) _
        refine XS.lcmp X6.here hx rfl (hb hby at_237) rfl ?_
        show Steps p.tables e below (T6.setTop (mkF m 238 #[.val (.long q1), .second, .val (.int p2), .val (.int (p2 &&& (3 : Int32))), .val (.long hv), .second, .val (.ref bx), .val (.int cc), .val (.int (1 : Int32)), .val (.int (cc / (2 : Int32))), .val (.long ((cc.toInt64) - ((2 : Int64) * ((cc / (2 : Int32)).toInt64)))), .second, .val (.int (1 : Int32)), .val (.long (hv / (16 : Int64))), .second, .val (.int (0 : Int32)), .unset, .unset, .unset, .unset, .unset] [(.int (lcmpW (hv / (16 : Int64)) (0 : Int64)))])) _
        have hc238 : ¬ ((lcmpW (hv / (16 : Int64)) (0 : Int64)) < (0 : Int32)) := (own_sh hv hv0).1
        refine XS.ifNo X6.here hx rfl (hb hby at_238) rfl ((if0 _ _).trans (flt hc238).1) ?_
        show Steps p.tables e below (T6.setTop (mkF m 241 #[.val (.long q1), .second, .val (.int p2), .val (.int (p2 &&& (3 : Int32))), .val (.long hv), .second, .val (.ref bx), .val (.int cc), .val (.int (1 : Int32)), .val (.int (cc / (2 : Int32))), .val (.long ((cc.toInt64) - ((2 : Int64) * ((cc / (2 : Int32)).toInt64)))), .second, .val (.int (1 : Int32)), .val (.long (hv / (16 : Int64))), .second, .val (.int (0 : Int32)), .unset, .unset, .unset, .unset, .unset] [])) _
        refine XS.lload X6.here hx rfl (hb hby at_241) rfl ?_
        show Steps p.tables e below (T6.setTop (mkF m 243 #[.val (.long q1), .second, .val (.int p2), .val (.int (p2 &&& (3 : Int32))), .val (.long hv), .second, .val (.ref bx), .val (.int cc), .val (.int (1 : Int32)), .val (.int (cc / (2 : Int32))), .val (.long ((cc.toInt64) - ((2 : Int64) * ((cc / (2 : Int32)).toInt64)))), .second, .val (.int (1 : Int32)), .val (.long (hv / (16 : Int64))), .second, .val (.int (0 : Int32)), .unset, .unset, .unset, .unset, .unset] [(.long (hv / (16 : Int64)))])) _
        refine X6.ldc2Long hx hown (mvT hZ (hw _ (List.mem_of_getElem? (i := 56) rfl))) (g := (mkF m 243 #[.val (.long q1), .second, .val (.int p2), .val (.int (p2 &&& (3 : Int32))), .val (.long hv), .second, .val (.ref bx), .val (.int cc), .val (.int (1 : Int32)), .val (.int (cc / (2 : Int32))), .val (.long ((cc.toInt64) - ((2 : Int64) * ((cc / (2 : Int32)).toInt64)))), .second, .val (.int (1 : Int32)), .val (.long (hv / (16 : Int64))), .second, .val (.int (0 : Int32)), .unset, .unset, .unset, .unset, .unset] [(.long (hv / (16 : Int64)))])) rfl (hb hby at_243) _ ?_
        show Steps p.tables e below (T6.setTop (mkF m 246 #[.val (.long q1), .second, .val (.int p2), .val (.int (p2 &&& (3 : Int32))), .val (.long hv), .second, .val (.ref bx), .val (.int cc), .val (.int (1 : Int32)), .val (.int (cc / (2 : Int32))), .val (.long ((cc.toInt64) - ((2 : Int64) * ((cc / (2 : Int32)).toInt64)))), .second, .val (.int (1 : Int32)), .val (.long (hv / (16 : Int64))), .second, .val (.int (0 : Int32)), .unset, .unset, .unset, .unset, .unset] [(.long (576460752303423487 : Int64)), (.long (hv / (16 : Int64)))])) _
        refine XS.lcmp X6.here hx rfl (hb hby at_246) rfl ?_
        show Steps p.tables e below (T6.setTop (mkF m 247 #[.val (.long q1), .second, .val (.int p2), .val (.int (p2 &&& (3 : Int32))), .val (.long hv), .second, .val (.ref bx), .val (.int cc), .val (.int (1 : Int32)), .val (.int (cc / (2 : Int32))), .val (.long ((cc.toInt64) - ((2 : Int64) * ((cc / (2 : Int32)).toInt64)))), .second, .val (.int (1 : Int32)), .val (.long (hv / (16 : Int64))), .second, .val (.int (0 : Int32)), .unset, .unset, .unset, .unset, .unset] [(.int (lcmpW (hv / (16 : Int64)) (576460752303423487 : Int64)))])) _
        have hc247 : ¬ ((0 : Int32) < (lcmpW (hv / (16 : Int64)) (576460752303423487 : Int64))) := (own_sh hv hv0).2.1
        refine XS.ifNo X6.here hx rfl (hb hby at_247) rfl ((if0 _ _).trans (flt hc247).2.2.1) ?_
        show Steps p.tables e below (T6.setTop (mkF m 250 #[.val (.long q1), .second, .val (.int p2), .val (.int (p2 &&& (3 : Int32))), .val (.long hv), .second, .val (.ref bx), .val (.int cc), .val (.int (1 : Int32)), .val (.int (cc / (2 : Int32))), .val (.long ((cc.toInt64) - ((2 : Int64) * ((cc / (2 : Int32)).toInt64)))), .second, .val (.int (1 : Int32)), .val (.long (hv / (16 : Int64))), .second, .val (.int (0 : Int32)), .unset, .unset, .unset, .unset, .unset] [])) _
        refine XS.lload X6.here hx rfl (hb hby at_250) rfl ?_
        show Steps p.tables e below (T6.setTop (mkF m 252 #[.val (.long q1), .second, .val (.int p2), .val (.int (p2 &&& (3 : Int32))), .val (.long hv), .second, .val (.ref bx), .val (.int cc), .val (.int (1 : Int32)), .val (.int (cc / (2 : Int32))), .val (.long ((cc.toInt64) - ((2 : Int64) * ((cc / (2 : Int32)).toInt64)))), .second, .val (.int (1 : Int32)), .val (.long (hv / (16 : Int64))), .second, .val (.int (0 : Int32)), .unset, .unset, .unset, .unset, .unset] [(.long hv)])) _
        refine X6.ldc2Long hx hown (mvT hZ (hw _ (List.mem_of_getElem? (i := 57) rfl))) (g := (mkF m 252 #[.val (.long q1), .second, .val (.int p2), .val (.int (p2 &&& (3 : Int32))), .val (.long hv), .second, .val (.ref bx), .val (.int cc), .val (.int (1 : Int32)), .val (.int (cc / (2 : Int32))), .val (.long ((cc.toInt64) - ((2 : Int64) * ((cc / (2 : Int32)).toInt64)))), .second, .val (.int (1 : Int32)), .val (.long (hv / (16 : Int64))), .second, .val (.int (0 : Int32)), .unset, .unset, .unset, .unset, .unset] [(.long hv)])) rfl (hb hby at_252) _ ?_
        show Steps p.tables e below (T6.setTop (mkF m 255 #[.val (.long q1), .second, .val (.int p2), .val (.int (p2 &&& (3 : Int32))), .val (.long hv), .second, .val (.ref bx), .val (.int cc), .val (.int (1 : Int32)), .val (.int (cc / (2 : Int32))), .val (.long ((cc.toInt64) - ((2 : Int64) * ((cc / (2 : Int32)).toInt64)))), .second, .val (.int (1 : Int32)), .val (.long (hv / (16 : Int64))), .second, .val (.int (0 : Int32)), .unset, .unset, .unset, .unset, .unset] [(.long (16 : Int64)), (.long hv)])) _
        refine XS.lload X6.here hx rfl (hb hby at_255) rfl ?_
        show Steps p.tables e below (T6.setTop (mkF m 257 #[.val (.long q1), .second, .val (.int p2), .val (.int (p2 &&& (3 : Int32))), .val (.long hv), .second, .val (.ref bx), .val (.int cc), .val (.int (1 : Int32)), .val (.int (cc / (2 : Int32))), .val (.long ((cc.toInt64) - ((2 : Int64) * ((cc / (2 : Int32)).toInt64)))), .second, .val (.int (1 : Int32)), .val (.long (hv / (16 : Int64))), .second, .val (.int (0 : Int32)), .unset, .unset, .unset, .unset, .unset] [(.long (hv / (16 : Int64))), (.long (16 : Int64)), (.long hv)])) _
        refine XS.lmul X6.here hx rfl (hb hby at_257) rfl ?_
        show Steps p.tables e below (T6.setTop (mkF m 258 #[.val (.long q1), .second, .val (.int p2), .val (.int (p2 &&& (3 : Int32))), .val (.long hv), .second, .val (.ref bx), .val (.int cc), .val (.int (1 : Int32)), .val (.int (cc / (2 : Int32))), .val (.long ((cc.toInt64) - ((2 : Int64) * ((cc / (2 : Int32)).toInt64)))), .second, .val (.int (1 : Int32)), .val (.long (hv / (16 : Int64))), .second, .val (.int (0 : Int32)), .unset, .unset, .unset, .unset, .unset] [(.long ((16 : Int64) * (hv / (16 : Int64)))), (.long hv)])) _
        refine XS.lsub X6.here hx rfl (hb hby at_258) rfl ?_
        show Steps p.tables e below (T6.setTop (mkF m 259 #[.val (.long q1), .second, .val (.int p2), .val (.int (p2 &&& (3 : Int32))), .val (.long hv), .second, .val (.ref bx), .val (.int cc), .val (.int (1 : Int32)), .val (.int (cc / (2 : Int32))), .val (.long ((cc.toInt64) - ((2 : Int64) * ((cc / (2 : Int32)).toInt64)))), .second, .val (.int (1 : Int32)), .val (.long (hv / (16 : Int64))), .second, .val (.int (0 : Int32)), .unset, .unset, .unset, .unset, .unset] [(.long (hv - ((16 : Int64) * (hv / (16 : Int64)))))])) _
        refine XS.lstore X6.here hx rfl (hb hby at_259) rfl (l' := #[.val (.long q1), .second, .val (.int p2), .val (.int (p2 &&& (3 : Int32))), .val (.long hv), .second, .val (.ref bx), .val (.int cc), .val (.int (1 : Int32)), .val (.int (cc / (2 : Int32))), .val (.long ((cc.toInt64) - ((2 : Int64) * ((cc / (2 : Int32)).toInt64)))), .second, .val (.int (1 : Int32)), .val (.long (hv / (16 : Int64))), .second, .val (.int (0 : Int32)), .val (.long (hv - ((16 : Int64) * (hv / (16 : Int64))))), .second, .unset, .unset, .unset]) rfl ?_
        show Steps p.tables e below (T6.setTop (mkF m 261 #[.val (.long q1), .second, .val (.int p2), .val (.int (p2 &&& (3 : Int32))), .val (.long hv), .second, .val (.ref bx), .val (.int cc), .val (.int (1 : Int32)), .val (.int (cc / (2 : Int32))), .val (.long ((cc.toInt64) - ((2 : Int64) * ((cc / (2 : Int32)).toInt64)))), .second, .val (.int (1 : Int32)), .val (.long (hv / (16 : Int64))), .second, .val (.int (0 : Int32)), .val (.long (hv - ((16 : Int64) * (hv / (16 : Int64))))), .second, .unset, .unset, .unset] [])) _
        refine XS.lload X6.here hx rfl (hb hby at_261) rfl ?_
        show Steps p.tables e below (T6.setTop (mkF m 263 #[.val (.long q1), .second, .val (.int p2), .val (.int (p2 &&& (3 : Int32))), .val (.long hv), .second, .val (.ref bx), .val (.int cc), .val (.int (1 : Int32)), .val (.int (cc / (2 : Int32))), .val (.long ((cc.toInt64) - ((2 : Int64) * ((cc / (2 : Int32)).toInt64)))), .second, .val (.int (1 : Int32)), .val (.long (hv / (16 : Int64))), .second, .val (.int (0 : Int32)), .val (.long (hv - ((16 : Int64) * (hv / (16 : Int64))))), .second, .unset, .unset, .unset] [(.long (hv - ((16 : Int64) * (hv / (16 : Int64)))))])) _
        refine XS.lconst X6.here hx rfl (hb hby at_263) ?_
        show Steps p.tables e below (T6.setTop (mkF m 264 #[.val (.long q1), .second, .val (.int p2), .val (.int (p2 &&& (3 : Int32))), .val (.long hv), .second, .val (.ref bx), .val (.int cc), .val (.int (1 : Int32)), .val (.int (cc / (2 : Int32))), .val (.long ((cc.toInt64) - ((2 : Int64) * ((cc / (2 : Int32)).toInt64)))), .second, .val (.int (1 : Int32)), .val (.long (hv / (16 : Int64))), .second, .val (.int (0 : Int32)), .val (.long (hv - ((16 : Int64) * (hv / (16 : Int64))))), .second, .unset, .unset, .unset] [(.long (0 : Int64)), (.long (hv - ((16 : Int64) * (hv / (16 : Int64)))))])) _
        refine XS.lcmp X6.here hx rfl (hb hby at_264) rfl ?_
        show Steps p.tables e below (T6.setTop (mkF m 265 #[.val (.long q1), .second, .val (.int p2), .val (.int (p2 &&& (3 : Int32))), .val (.long hv), .second, .val (.ref bx), .val (.int cc), .val (.int (1 : Int32)), .val (.int (cc / (2 : Int32))), .val (.long ((cc.toInt64) - ((2 : Int64) * ((cc / (2 : Int32)).toInt64)))), .second, .val (.int (1 : Int32)), .val (.long (hv / (16 : Int64))), .second, .val (.int (0 : Int32)), .val (.long (hv - ((16 : Int64) * (hv / (16 : Int64))))), .second, .unset, .unset, .unset] [(.int (lcmpW (hv - ((16 : Int64) * (hv / (16 : Int64)))) (0 : Int64)))])) _
        have hc265 : ¬ ((lcmpW (hv - ((16 : Int64) * (hv / (16 : Int64)))) (0 : Int64)) < (0 : Int32)) := (own_sh hv hv0).2.2.1
        refine XS.ifNo X6.here hx rfl (hb hby at_265) rfl ((if0 _ _).trans (flt hc265).1) ?_
        show Steps p.tables e below (T6.setTop (mkF m 268 #[.val (.long q1), .second, .val (.int p2), .val (.int (p2 &&& (3 : Int32))), .val (.long hv), .second, .val (.ref bx), .val (.int cc), .val (.int (1 : Int32)), .val (.int (cc / (2 : Int32))), .val (.long ((cc.toInt64) - ((2 : Int64) * ((cc / (2 : Int32)).toInt64)))), .second, .val (.int (1 : Int32)), .val (.long (hv / (16 : Int64))), .second, .val (.int (0 : Int32)), .val (.long (hv - ((16 : Int64) * (hv / (16 : Int64))))), .second, .unset, .unset, .unset] [])) _
        refine XS.lload X6.here hx rfl (hb hby at_268) rfl ?_
        show Steps p.tables e below (T6.setTop (mkF m 270 #[.val (.long q1), .second, .val (.int p2), .val (.int (p2 &&& (3 : Int32))), .val (.long hv), .second, .val (.ref bx), .val (.int cc), .val (.int (1 : Int32)), .val (.int (cc / (2 : Int32))), .val (.long ((cc.toInt64) - ((2 : Int64) * ((cc / (2 : Int32)).toInt64)))), .second, .val (.int (1 : Int32)), .val (.long (hv / (16 : Int64))), .second, .val (.int (0 : Int32)), .val (.long (hv - ((16 : Int64) * (hv / (16 : Int64))))), .second, .unset, .unset, .unset] [(.long (hv - ((16 : Int64) * (hv / (16 : Int64)))))])) _
        refine X6.ldc2Long hx hown (mvT hZ (hw _ (List.mem_of_getElem? (i := 57) rfl))) (g := (mkF m 270 #[.val (.long q1), .second, .val (.int p2), .val (.int (p2 &&& (3 : Int32))), .val (.long hv), .second, .val (.ref bx), .val (.int cc), .val (.int (1 : Int32)), .val (.int (cc / (2 : Int32))), .val (.long ((cc.toInt64) - ((2 : Int64) * ((cc / (2 : Int32)).toInt64)))), .second, .val (.int (1 : Int32)), .val (.long (hv / (16 : Int64))), .second, .val (.int (0 : Int32)), .val (.long (hv - ((16 : Int64) * (hv / (16 : Int64))))), .second, .unset, .unset, .unset] [(.long (hv - ((16 : Int64) * (hv / (16 : Int64)))))])) rfl (hb hby at_270) _ ?_
        show Steps p.tables e below (T6.setTop (mkF m 273 #[.val (.long q1), .second, .val (.int p2), .val (.int (p2 &&& (3 : Int32))), .val (.long hv), .second, .val (.ref bx), .val (.int cc), .val (.int (1 : Int32)), .val (.int (cc / (2 : Int32))), .val (.long ((cc.toInt64) - ((2 : Int64) * ((cc / (2 : Int32)).toInt64)))), .second, .val (.int (1 : Int32)), .val (.long (hv / (16 : Int64))), .second, .val (.int (0 : Int32)), .val (.long (hv - ((16 : Int64) * (hv / (16 : Int64))))), .second, .unset, .unset, .unset] [(.long (16 : Int64)), (.long (hv - ((16 : Int64) * (hv / (16 : Int64)))))])) _
        refine XS.lcmp X6.here hx rfl (hb hby at_273) rfl ?_
        show Steps p.tables e below (T6.setTop (mkF m 274 #[.val (.long q1), .second, .val (.int p2), .val (.int (p2 &&& (3 : Int32))), .val (.long hv), .second, .val (.ref bx), .val (.int cc), .val (.int (1 : Int32)), .val (.int (cc / (2 : Int32))), .val (.long ((cc.toInt64) - ((2 : Int64) * ((cc / (2 : Int32)).toInt64)))), .second, .val (.int (1 : Int32)), .val (.long (hv / (16 : Int64))), .second, .val (.int (0 : Int32)), .val (.long (hv - ((16 : Int64) * (hv / (16 : Int64))))), .second, .unset, .unset, .unset] [(.int (lcmpW (hv - ((16 : Int64) * (hv / (16 : Int64)))) (16 : Int64)))])) _
        have hc274 : (lcmpW (hv - ((16 : Int64) * (hv / (16 : Int64)))) (16 : Int64)) < (0 : Int32) := (own_sh hv hv0).2.2.2
        refine XS.ifNo X6.here hx rfl (hb hby at_274) rfl ((if0 _ _).trans (tlt hc274).2.1) ?_
        show Steps p.tables e below (T6.setTop (mkF m 277 #[.val (.long q1), .second, .val (.int p2), .val (.int (p2 &&& (3 : Int32))), .val (.long hv), .second, .val (.ref bx), .val (.int cc), .val (.int (1 : Int32)), .val (.int (cc / (2 : Int32))), .val (.long ((cc.toInt64) - ((2 : Int64) * ((cc / (2 : Int32)).toInt64)))), .second, .val (.int (1 : Int32)), .val (.long (hv / (16 : Int64))), .second, .val (.int (0 : Int32)), .val (.long (hv - ((16 : Int64) * (hv / (16 : Int64))))), .second, .unset, .unset, .unset] [])) _
        refine XS.iconst X6.here hx rfl (hb hby at_277) ?_
        show Steps p.tables e below (T6.setTop (mkF m 278 #[.val (.long q1), .second, .val (.int p2), .val (.int (p2 &&& (3 : Int32))), .val (.long hv), .second, .val (.ref bx), .val (.int cc), .val (.int (1 : Int32)), .val (.int (cc / (2 : Int32))), .val (.long ((cc.toInt64) - ((2 : Int64) * ((cc / (2 : Int32)).toInt64)))), .second, .val (.int (1 : Int32)), .val (.long (hv / (16 : Int64))), .second, .val (.int (0 : Int32)), .val (.long (hv - ((16 : Int64) * (hv / (16 : Int64))))), .second, .unset, .unset, .unset] [(.int (1 : Int32))])) _
        refine XS.goto X6.here hx rfl (pc0 := 278) (pc' := 282) rfl (hb hby at_278) (by decide) (by decide) ?_
        show Steps p.tables e below (T6.setTop (mkF m 282 #[.val (.long q1), .second, .val (.int p2), .val (.int (p2 &&& (3 : Int32))), .val (.long hv), .second, .val (.ref bx), .val (.int cc), .val (.int (1 : Int32)), .val (.int (cc / (2 : Int32))), .val (.long ((cc.toInt64) - ((2 : Int64) * ((cc / (2 : Int32)).toInt64)))), .second, .val (.int (1 : Int32)), .val (.long (hv / (16 : Int64))), .second, .val (.int (0 : Int32)), .val (.long (hv - ((16 : Int64) * (hv / (16 : Int64))))), .second, .unset, .unset, .unset] [(.int (1 : Int32))])) _
        refine XS.istore X6.here hx rfl (hb hby at_282) rfl (l' := #[.val (.long q1), .second, .val (.int p2), .val (.int (p2 &&& (3 : Int32))), .val (.long hv), .second, .val (.ref bx), .val (.int cc), .val (.int (1 : Int32)), .val (.int (cc / (2 : Int32))), .val (.long ((cc.toInt64) - ((2 : Int64) * ((cc / (2 : Int32)).toInt64)))), .second, .val (.int (1 : Int32)), .val (.long (hv / (16 : Int64))), .second, .val (.int (1 : Int32)), .val (.long (hv - ((16 : Int64) * (hv / (16 : Int64))))), .second, .unset, .unset, .unset]) rfl ?_
        show Steps p.tables e below (T6.setTop (mkF m 284 #[.val (.long q1), .second, .val (.int p2), .val (.int (p2 &&& (3 : Int32))), .val (.long hv), .second, .val (.ref bx), .val (.int cc), .val (.int (1 : Int32)), .val (.int (cc / (2 : Int32))), .val (.long ((cc.toInt64) - ((2 : Int64) * ((cc / (2 : Int32)).toInt64)))), .second, .val (.int (1 : Int32)), .val (.long (hv / (16 : Int64))), .second, .val (.int (1 : Int32)), .val (.long (hv - ((16 : Int64) * (hv / (16 : Int64))))), .second, .unset, .unset, .unset] [])) _
        refine XS.aload X6.here hx rfl (hb hby at_284) rfl rfl ?_
        show Steps p.tables e below (T6.setTop (mkF m 286 #[.val (.long q1), .second, .val (.int p2), .val (.int (p2 &&& (3 : Int32))), .val (.long hv), .second, .val (.ref bx), .val (.int cc), .val (.int (1 : Int32)), .val (.int (cc / (2 : Int32))), .val (.long ((cc.toInt64) - ((2 : Int64) * ((cc / (2 : Int32)).toInt64)))), .second, .val (.int (1 : Int32)), .val (.long (hv / (16 : Int64))), .second, .val (.int (1 : Int32)), .val (.long (hv - ((16 : Int64) * (hv / (16 : Int64))))), .second, .unset, .unset, .unset] [(.ref bx)])) _
        refine st7.trans ?_
        show Steps p.tables e below (T7.setTop (mkF m 289 #[.val (.long q1), .second, .val (.int p2), .val (.int (p2 &&& (3 : Int32))), .val (.long hv), .second, .val (.ref bx), .val (.int cc), .val (.int (1 : Int32)), .val (.int (cc / (2 : Int32))), .val (.long ((cc.toInt64) - ((2 : Int64) * ((cc / (2 : Int32)).toInt64)))), .second, .val (.int (1 : Int32)), .val (.long (hv / (16 : Int64))), .second, .val (.int (1 : Int32)), .val (.long (hv - ((16 : Int64) * (hv / (16 : Int64))))), .second, .unset, .unset, .unset] [(.long (hv / (64 : Int64)))])) _
        refine XS.lstore X7.here hx rfl (hb hby at_289) rfl (l' := #[.val (.long q1), .second, .val (.int p2), .val (.int (p2 &&& (3 : Int32))), .val (.long hv), .second, .val (.ref bx), .val (.int cc), .val (.int (1 : Int32)), .val (.int (cc / (2 : Int32))), .val (.long ((cc.toInt64) - ((2 : Int64) * ((cc / (2 : Int32)).toInt64)))), .second, .val (.int (1 : Int32)), .val (.long (hv / (16 : Int64))), .second, .val (.int (1 : Int32)), .val (.long (hv / (64 : Int64))), .second, .unset, .unset, .unset]) rfl ?_
        show Steps p.tables e below (T7.setTop (mkF m 291 #[.val (.long q1), .second, .val (.int p2), .val (.int (p2 &&& (3 : Int32))), .val (.long hv), .second, .val (.ref bx), .val (.int cc), .val (.int (1 : Int32)), .val (.int (cc / (2 : Int32))), .val (.long ((cc.toInt64) - ((2 : Int64) * ((cc / (2 : Int32)).toInt64)))), .second, .val (.int (1 : Int32)), .val (.long (hv / (16 : Int64))), .second, .val (.int (1 : Int32)), .val (.long (hv / (64 : Int64))), .second, .unset, .unset, .unset] [])) _
        refine XS.iconst X7.here hx rfl (hb hby at_291) ?_
        show Steps p.tables e below (T7.setTop (mkF m 292 #[.val (.long q1), .second, .val (.int p2), .val (.int (p2 &&& (3 : Int32))), .val (.long hv), .second, .val (.ref bx), .val (.int cc), .val (.int (1 : Int32)), .val (.int (cc / (2 : Int32))), .val (.long ((cc.toInt64) - ((2 : Int64) * ((cc / (2 : Int32)).toInt64)))), .second, .val (.int (1 : Int32)), .val (.long (hv / (16 : Int64))), .second, .val (.int (1 : Int32)), .val (.long (hv / (64 : Int64))), .second, .unset, .unset, .unset] [(.int (0 : Int32))])) _
        refine XS.istore X7.here hx rfl (hb hby at_292) rfl (l' := #[.val (.long q1), .second, .val (.int p2), .val (.int (p2 &&& (3 : Int32))), .val (.long hv), .second, .val (.ref bx), .val (.int cc), .val (.int (1 : Int32)), .val (.int (cc / (2 : Int32))), .val (.long ((cc.toInt64) - ((2 : Int64) * ((cc / (2 : Int32)).toInt64)))), .second, .val (.int (1 : Int32)), .val (.long (hv / (16 : Int64))), .second, .val (.int (1 : Int32)), .val (.long (hv / (64 : Int64))), .second, .val (.int (0 : Int32)), .unset, .unset]) rfl ?_
        show Steps p.tables e below (T7.setTop (mkF m 294 #[.val (.long q1), .second, .val (.int p2), .val (.int (p2 &&& (3 : Int32))), .val (.long hv), .second, .val (.ref bx), .val (.int cc), .val (.int (1 : Int32)), .val (.int (cc / (2 : Int32))), .val (.long ((cc.toInt64) - ((2 : Int64) * ((cc / (2 : Int32)).toInt64)))), .second, .val (.int (1 : Int32)), .val (.long (hv / (16 : Int64))), .second, .val (.int (1 : Int32)), .val (.long (hv / (64 : Int64))), .second, .val (.int (0 : Int32)), .unset, .unset] [])) _
        refine XS.lload X7.here hx rfl (hb hby at_294) rfl ?_
        show Steps p.tables e below (T7.setTop (mkF m 296 #[.val (.long q1), .second, .val (.int p2), .val (.int (p2 &&& (3 : Int32))), .val (.long hv), .second, .val (.ref bx), .val (.int cc), .val (.int (1 : Int32)), .val (.int (cc / (2 : Int32))), .val (.long ((cc.toInt64) - ((2 : Int64) * ((cc / (2 : Int32)).toInt64)))), .second, .val (.int (1 : Int32)), .val (.long (hv / (16 : Int64))), .second, .val (.int (1 : Int32)), .val (.long (hv / (64 : Int64))), .second, .val (.int (0 : Int32)), .unset, .unset] [(.long (hv / (64 : Int64)))])) _
        refine XS.lconst X7.here hx rfl (hb hby at_296) ?_
        show Steps p.tables e below (T7.setTop (mkF m 297 #[.val (.long q1), .second, .val (.int p2), .val (.int (p2 &&& (3 : Int32))), .val (.long hv), .second, .val (.ref bx), .val (.int cc), .val (.int (1 : Int32)), .val (.int (cc / (2 : Int32))), .val (.long ((cc.toInt64) - ((2 : Int64) * ((cc / (2 : Int32)).toInt64)))), .second, .val (.int (1 : Int32)), .val (.long (hv / (16 : Int64))), .second, .val (.int (1 : Int32)), .val (.long (hv / (64 : Int64))), .second, .val (.int (0 : Int32)), .unset, .unset] [(.long (0 : Int64)), (.long (hv / (64 : Int64)))])) _
        refine XS.lcmp X7.here hx rfl (hb hby at_297) rfl ?_
        show Steps p.tables e below (T7.setTop (mkF m 298 #[.val (.long q1), .second, .val (.int p2), .val (.int (p2 &&& (3 : Int32))), .val (.long hv), .second, .val (.ref bx), .val (.int cc), .val (.int (1 : Int32)), .val (.int (cc / (2 : Int32))), .val (.long ((cc.toInt64) - ((2 : Int64) * ((cc / (2 : Int32)).toInt64)))), .second, .val (.int (1 : Int32)), .val (.long (hv / (16 : Int64))), .second, .val (.int (1 : Int32)), .val (.long (hv / (64 : Int64))), .second, .val (.int (0 : Int32)), .unset, .unset] [(.int (lcmpW (hv / (64 : Int64)) (0 : Int64)))])) _
        have hc298 : ¬ ((lcmpW (hv / (64 : Int64)) (0 : Int64)) < (0 : Int32)) := (own_ad hv hv0).1
        refine XS.ifNo X7.here hx rfl (hb hby at_298) rfl ((if0 _ _).trans (flt hc298).1) ?_
        show Steps p.tables e below (T7.setTop (mkF m 301 #[.val (.long q1), .second, .val (.int p2), .val (.int (p2 &&& (3 : Int32))), .val (.long hv), .second, .val (.ref bx), .val (.int cc), .val (.int (1 : Int32)), .val (.int (cc / (2 : Int32))), .val (.long ((cc.toInt64) - ((2 : Int64) * ((cc / (2 : Int32)).toInt64)))), .second, .val (.int (1 : Int32)), .val (.long (hv / (16 : Int64))), .second, .val (.int (1 : Int32)), .val (.long (hv / (64 : Int64))), .second, .val (.int (0 : Int32)), .unset, .unset] [])) _
        refine XS.lload X7.here hx rfl (hb hby at_301) rfl ?_
        show Steps p.tables e below (T7.setTop (mkF m 303 #[.val (.long q1), .second, .val (.int p2), .val (.int (p2 &&& (3 : Int32))), .val (.long hv), .second, .val (.ref bx), .val (.int cc), .val (.int (1 : Int32)), .val (.int (cc / (2 : Int32))), .val (.long ((cc.toInt64) - ((2 : Int64) * ((cc / (2 : Int32)).toInt64)))), .second, .val (.int (1 : Int32)), .val (.long (hv / (16 : Int64))), .second, .val (.int (1 : Int32)), .val (.long (hv / (64 : Int64))), .second, .val (.int (0 : Int32)), .unset, .unset] [(.long (hv / (64 : Int64)))])) _
        refine X7.ldc2Long hx hown (mvT hZ (hw _ (List.mem_of_getElem? (i := 63) rfl))) (g := (mkF m 303 #[.val (.long q1), .second, .val (.int p2), .val (.int (p2 &&& (3 : Int32))), .val (.long hv), .second, .val (.ref bx), .val (.int cc), .val (.int (1 : Int32)), .val (.int (cc / (2 : Int32))), .val (.long ((cc.toInt64) - ((2 : Int64) * ((cc / (2 : Int32)).toInt64)))), .second, .val (.int (1 : Int32)), .val (.long (hv / (16 : Int64))), .second, .val (.int (1 : Int32)), .val (.long (hv / (64 : Int64))), .second, .val (.int (0 : Int32)), .unset, .unset] [(.long (hv / (64 : Int64)))])) rfl (hb hby at_303) _ ?_
        show Steps p.tables e below (T7.setTop (mkF m 306 #[.val (.long q1), .second, .val (.int p2), .val (.int (p2 &&& (3 : Int32))), .val (.long hv), .second, .val (.ref bx), .val (.int cc), .val (.int (1 : Int32)), .val (.int (cc / (2 : Int32))), .val (.long ((cc.toInt64) - ((2 : Int64) * ((cc / (2 : Int32)).toInt64)))), .second, .val (.int (1 : Int32)), .val (.long (hv / (16 : Int64))), .second, .val (.int (1 : Int32)), .val (.long (hv / (64 : Int64))), .second, .val (.int (0 : Int32)), .unset, .unset] [(.long (144115188075855871 : Int64)), (.long (hv / (64 : Int64)))])) _
        refine XS.lcmp X7.here hx rfl (hb hby at_306) rfl ?_
        show Steps p.tables e below (T7.setTop (mkF m 307 #[.val (.long q1), .second, .val (.int p2), .val (.int (p2 &&& (3 : Int32))), .val (.long hv), .second, .val (.ref bx), .val (.int cc), .val (.int (1 : Int32)), .val (.int (cc / (2 : Int32))), .val (.long ((cc.toInt64) - ((2 : Int64) * ((cc / (2 : Int32)).toInt64)))), .second, .val (.int (1 : Int32)), .val (.long (hv / (16 : Int64))), .second, .val (.int (1 : Int32)), .val (.long (hv / (64 : Int64))), .second, .val (.int (0 : Int32)), .unset, .unset] [(.int (lcmpW (hv / (64 : Int64)) (144115188075855871 : Int64)))])) _
        have hc307 : ¬ ((0 : Int32) < (lcmpW (hv / (64 : Int64)) (144115188075855871 : Int64))) := (own_ad hv hv0).2.1
        refine XS.ifNo X7.here hx rfl (hb hby at_307) rfl ((if0 _ _).trans (flt hc307).2.2.1) ?_
        show Steps p.tables e below (T7.setTop (mkF m 310 #[.val (.long q1), .second, .val (.int p2), .val (.int (p2 &&& (3 : Int32))), .val (.long hv), .second, .val (.ref bx), .val (.int cc), .val (.int (1 : Int32)), .val (.int (cc / (2 : Int32))), .val (.long ((cc.toInt64) - ((2 : Int64) * ((cc / (2 : Int32)).toInt64)))), .second, .val (.int (1 : Int32)), .val (.long (hv / (16 : Int64))), .second, .val (.int (1 : Int32)), .val (.long (hv / (64 : Int64))), .second, .val (.int (0 : Int32)), .unset, .unset] [])) _
        refine XS.lload X7.here hx rfl (hb hby at_310) rfl ?_
        show Steps p.tables e below (T7.setTop (mkF m 312 #[.val (.long q1), .second, .val (.int p2), .val (.int (p2 &&& (3 : Int32))), .val (.long hv), .second, .val (.ref bx), .val (.int cc), .val (.int (1 : Int32)), .val (.int (cc / (2 : Int32))), .val (.long ((cc.toInt64) - ((2 : Int64) * ((cc / (2 : Int32)).toInt64)))), .second, .val (.int (1 : Int32)), .val (.long (hv / (16 : Int64))), .second, .val (.int (1 : Int32)), .val (.long (hv / (64 : Int64))), .second, .val (.int (0 : Int32)), .unset, .unset] [(.long hv)])) _
        refine X7.ldc2Long hx hown (mvT hZ (hw _ (List.mem_of_getElem? (i := 64) rfl))) (g := (mkF m 312 #[.val (.long q1), .second, .val (.int p2), .val (.int (p2 &&& (3 : Int32))), .val (.long hv), .second, .val (.ref bx), .val (.int cc), .val (.int (1 : Int32)), .val (.int (cc / (2 : Int32))), .val (.long ((cc.toInt64) - ((2 : Int64) * ((cc / (2 : Int32)).toInt64)))), .second, .val (.int (1 : Int32)), .val (.long (hv / (16 : Int64))), .second, .val (.int (1 : Int32)), .val (.long (hv / (64 : Int64))), .second, .val (.int (0 : Int32)), .unset, .unset] [(.long hv)])) rfl (hb hby at_312) _ ?_
        show Steps p.tables e below (T7.setTop (mkF m 315 #[.val (.long q1), .second, .val (.int p2), .val (.int (p2 &&& (3 : Int32))), .val (.long hv), .second, .val (.ref bx), .val (.int cc), .val (.int (1 : Int32)), .val (.int (cc / (2 : Int32))), .val (.long ((cc.toInt64) - ((2 : Int64) * ((cc / (2 : Int32)).toInt64)))), .second, .val (.int (1 : Int32)), .val (.long (hv / (16 : Int64))), .second, .val (.int (1 : Int32)), .val (.long (hv / (64 : Int64))), .second, .val (.int (0 : Int32)), .unset, .unset] [(.long (64 : Int64)), (.long hv)])) _
        refine XS.lload X7.here hx rfl (hb hby at_315) rfl ?_
        show Steps p.tables e below (T7.setTop (mkF m 317 #[.val (.long q1), .second, .val (.int p2), .val (.int (p2 &&& (3 : Int32))), .val (.long hv), .second, .val (.ref bx), .val (.int cc), .val (.int (1 : Int32)), .val (.int (cc / (2 : Int32))), .val (.long ((cc.toInt64) - ((2 : Int64) * ((cc / (2 : Int32)).toInt64)))), .second, .val (.int (1 : Int32)), .val (.long (hv / (16 : Int64))), .second, .val (.int (1 : Int32)), .val (.long (hv / (64 : Int64))), .second, .val (.int (0 : Int32)), .unset, .unset] [(.long (hv / (64 : Int64))), (.long (64 : Int64)), (.long hv)])) _
        refine XS.lmul X7.here hx rfl (hb hby at_317) rfl ?_
        show Steps p.tables e below (T7.setTop (mkF m 318 #[.val (.long q1), .second, .val (.int p2), .val (.int (p2 &&& (3 : Int32))), .val (.long hv), .second, .val (.ref bx), .val (.int cc), .val (.int (1 : Int32)), .val (.int (cc / (2 : Int32))), .val (.long ((cc.toInt64) - ((2 : Int64) * ((cc / (2 : Int32)).toInt64)))), .second, .val (.int (1 : Int32)), .val (.long (hv / (16 : Int64))), .second, .val (.int (1 : Int32)), .val (.long (hv / (64 : Int64))), .second, .val (.int (0 : Int32)), .unset, .unset] [(.long ((64 : Int64) * (hv / (64 : Int64)))), (.long hv)])) _
        refine XS.lsub X7.here hx rfl (hb hby at_318) rfl ?_
        show Steps p.tables e below (T7.setTop (mkF m 319 #[.val (.long q1), .second, .val (.int p2), .val (.int (p2 &&& (3 : Int32))), .val (.long hv), .second, .val (.ref bx), .val (.int cc), .val (.int (1 : Int32)), .val (.int (cc / (2 : Int32))), .val (.long ((cc.toInt64) - ((2 : Int64) * ((cc / (2 : Int32)).toInt64)))), .second, .val (.int (1 : Int32)), .val (.long (hv / (16 : Int64))), .second, .val (.int (1 : Int32)), .val (.long (hv / (64 : Int64))), .second, .val (.int (0 : Int32)), .unset, .unset] [(.long (hv - ((64 : Int64) * (hv / (64 : Int64)))))])) _
        refine XS.lstore X7.here hx rfl (hb hby at_319) rfl (l' := #[.val (.long q1), .second, .val (.int p2), .val (.int (p2 &&& (3 : Int32))), .val (.long hv), .second, .val (.ref bx), .val (.int cc), .val (.int (1 : Int32)), .val (.int (cc / (2 : Int32))), .val (.long ((cc.toInt64) - ((2 : Int64) * ((cc / (2 : Int32)).toInt64)))), .second, .val (.int (1 : Int32)), .val (.long (hv / (16 : Int64))), .second, .val (.int (1 : Int32)), .val (.long (hv / (64 : Int64))), .second, .val (.int (0 : Int32)), .val (.long (hv - ((64 : Int64) * (hv / (64 : Int64))))), .second]) rfl ?_
        show Steps p.tables e below (T7.setTop (mkF m 321 #[.val (.long q1), .second, .val (.int p2), .val (.int (p2 &&& (3 : Int32))), .val (.long hv), .second, .val (.ref bx), .val (.int cc), .val (.int (1 : Int32)), .val (.int (cc / (2 : Int32))), .val (.long ((cc.toInt64) - ((2 : Int64) * ((cc / (2 : Int32)).toInt64)))), .second, .val (.int (1 : Int32)), .val (.long (hv / (16 : Int64))), .second, .val (.int (1 : Int32)), .val (.long (hv / (64 : Int64))), .second, .val (.int (0 : Int32)), .val (.long (hv - ((64 : Int64) * (hv / (64 : Int64))))), .second] [])) _
        refine XS.lload X7.here hx rfl (hb hby at_321) rfl ?_
        show Steps p.tables e below (T7.setTop (mkF m 323 #[.val (.long q1), .second, .val (.int p2), .val (.int (p2 &&& (3 : Int32))), .val (.long hv), .second, .val (.ref bx), .val (.int cc), .val (.int (1 : Int32)), .val (.int (cc / (2 : Int32))), .val (.long ((cc.toInt64) - ((2 : Int64) * ((cc / (2 : Int32)).toInt64)))), .second, .val (.int (1 : Int32)), .val (.long (hv / (16 : Int64))), .second, .val (.int (1 : Int32)), .val (.long (hv / (64 : Int64))), .second, .val (.int (0 : Int32)), .val (.long (hv - ((64 : Int64) * (hv / (64 : Int64))))), .second] [(.long (hv - ((64 : Int64) * (hv / (64 : Int64)))))])) _
        refine XS.lconst X7.here hx rfl (hb hby at_323) ?_
        show Steps p.tables e below (T7.setTop (mkF m 324 #[.val (.long q1), .second, .val (.int p2), .val (.int (p2 &&& (3 : Int32))), .val (.long hv), .second, .val (.ref bx), .val (.int cc), .val (.int (1 : Int32)), .val (.int (cc / (2 : Int32))), .val (.long ((cc.toInt64) - ((2 : Int64) * ((cc / (2 : Int32)).toInt64)))), .second, .val (.int (1 : Int32)), .val (.long (hv / (16 : Int64))), .second, .val (.int (1 : Int32)), .val (.long (hv / (64 : Int64))), .second, .val (.int (0 : Int32)), .val (.long (hv - ((64 : Int64) * (hv / (64 : Int64))))), .second] [(.long (0 : Int64)), (.long (hv - ((64 : Int64) * (hv / (64 : Int64)))))])) _
        refine XS.lcmp X7.here hx rfl (hb hby at_324) rfl ?_
        show Steps p.tables e below (T7.setTop (mkF m 325 #[.val (.long q1), .second, .val (.int p2), .val (.int (p2 &&& (3 : Int32))), .val (.long hv), .second, .val (.ref bx), .val (.int cc), .val (.int (1 : Int32)), .val (.int (cc / (2 : Int32))), .val (.long ((cc.toInt64) - ((2 : Int64) * ((cc / (2 : Int32)).toInt64)))), .second, .val (.int (1 : Int32)), .val (.long (hv / (16 : Int64))), .second, .val (.int (1 : Int32)), .val (.long (hv / (64 : Int64))), .second, .val (.int (0 : Int32)), .val (.long (hv - ((64 : Int64) * (hv / (64 : Int64))))), .second] [(.int (lcmpW (hv - ((64 : Int64) * (hv / (64 : Int64)))) (0 : Int64)))])) _
        have hc325 : ¬ ((lcmpW (hv - ((64 : Int64) * (hv / (64 : Int64)))) (0 : Int64)) < (0 : Int32)) := (own_ad hv hv0).2.2.1
        refine XS.ifNo X7.here hx rfl (hb hby at_325) rfl ((if0 _ _).trans (flt hc325).1) ?_
        show Steps p.tables e below (T7.setTop (mkF m 328 #[.val (.long q1), .second, .val (.int p2), .val (.int (p2 &&& (3 : Int32))), .val (.long hv), .second, .val (.ref bx), .val (.int cc), .val (.int (1 : Int32)), .val (.int (cc / (2 : Int32))), .val (.long ((cc.toInt64) - ((2 : Int64) * ((cc / (2 : Int32)).toInt64)))), .second, .val (.int (1 : Int32)), .val (.long (hv / (16 : Int64))), .second, .val (.int (1 : Int32)), .val (.long (hv / (64 : Int64))), .second, .val (.int (0 : Int32)), .val (.long (hv - ((64 : Int64) * (hv / (64 : Int64))))), .second] [])) _
        refine XS.lload X7.here hx rfl (hb hby at_328) rfl ?_
        show Steps p.tables e below (T7.setTop (mkF m 330 #[.val (.long q1), .second, .val (.int p2), .val (.int (p2 &&& (3 : Int32))), .val (.long hv), .second, .val (.ref bx), .val (.int cc), .val (.int (1 : Int32)), .val (.int (cc / (2 : Int32))), .val (.long ((cc.toInt64) - ((2 : Int64) * ((cc / (2 : Int32)).toInt64)))), .second, .val (.int (1 : Int32)), .val (.long (hv / (16 : Int64))), .second, .val (.int (1 : Int32)), .val (.long (hv / (64 : Int64))), .second, .val (.int (0 : Int32)), .val (.long (hv - ((64 : Int64) * (hv / (64 : Int64))))), .second] [(.long (hv - ((64 : Int64) * (hv / (64 : Int64)))))])) _
        refine X7.ldc2Long hx hown (mvT hZ (hw _ (List.mem_of_getElem? (i := 64) rfl))) (g := (mkF m 330 #[.val (.long q1), .second, .val (.int p2), .val (.int (p2 &&& (3 : Int32))), .val (.long hv), .second, .val (.ref bx), .val (.int cc), .val (.int (1 : Int32)), .val (.int (cc / (2 : Int32))), .val (.long ((cc.toInt64) - ((2 : Int64) * ((cc / (2 : Int32)).toInt64)))), .second, .val (.int (1 : Int32)), .val (.long (hv / (16 : Int64))), .second, .val (.int (1 : Int32)), .val (.long (hv / (64 : Int64))), .second, .val (.int (0 : Int32)), .val (.long (hv - ((64 : Int64) * (hv / (64 : Int64))))), .second] [(.long (hv - ((64 : Int64) * (hv / (64 : Int64)))))])) rfl (hb hby at_330) _ ?_
        show Steps p.tables e below (T7.setTop (mkF m 333 #[.val (.long q1), .second, .val (.int p2), .val (.int (p2 &&& (3 : Int32))), .val (.long hv), .second, .val (.ref bx), .val (.int cc), .val (.int (1 : Int32)), .val (.int (cc / (2 : Int32))), .val (.long ((cc.toInt64) - ((2 : Int64) * ((cc / (2 : Int32)).toInt64)))), .second, .val (.int (1 : Int32)), .val (.long (hv / (16 : Int64))), .second, .val (.int (1 : Int32)), .val (.long (hv / (64 : Int64))), .second, .val (.int (0 : Int32)), .val (.long (hv - ((64 : Int64) * (hv / (64 : Int64))))), .second] [(.long (64 : Int64)), (.long (hv - ((64 : Int64) * (hv / (64 : Int64)))))])) _
        refine XS.lcmp X7.here hx rfl (hb hby at_333) rfl ?_
        show Steps p.tables e below (T7.setTop (mkF m 334 #[.val (.long q1), .second, .val (.int p2), .val (.int (p2 &&& (3 : Int32))), .val (.long hv), .second, .val (.ref bx), .val (.int cc), .val (.int (1 : Int32)), .val (.int (cc / (2 : Int32))), .val (.long ((cc.toInt64) - ((2 : Int64) * ((cc / (2 : Int32)).toInt64)))), .second, .val (.int (1 : Int32)), .val (.long (hv / (16 : Int64))), .second, .val (.int (1 : Int32)), .val (.long (hv / (64 : Int64))), .second, .val (.int (0 : Int32)), .val (.long (hv - ((64 : Int64) * (hv / (64 : Int64))))), .second] [(.int (lcmpW (hv - ((64 : Int64) * (hv / (64 : Int64)))) (64 : Int64)))])) _
        have hc334 : (lcmpW (hv - ((64 : Int64) * (hv / (64 : Int64)))) (64 : Int64)) < (0 : Int32) := (own_ad hv hv0).2.2.2
        refine XS.ifNo X7.here hx rfl (hb hby at_334) rfl ((if0 _ _).trans (tlt hc334).2.1) ?_
        show Steps p.tables e below (T7.setTop (mkF m 337 #[.val (.long q1), .second, .val (.int p2), .val (.int (p2 &&& (3 : Int32))), .val (.long hv), .second, .val (.ref bx), .val (.int cc), .val (.int (1 : Int32)), .val (.int (cc / (2 : Int32))), .val (.long ((cc.toInt64) - ((2 : Int64) * ((cc / (2 : Int32)).toInt64)))), .second, .val (.int (1 : Int32)), .val (.long (hv / (16 : Int64))), .second, .val (.int (1 : Int32)), .val (.long (hv / (64 : Int64))), .second, .val (.int (0 : Int32)), .val (.long (hv - ((64 : Int64) * (hv / (64 : Int64))))), .second] [])) _
        refine XS.iconst X7.here hx rfl (hb hby at_337) ?_
        show Steps p.tables e below (T7.setTop (mkF m 338 #[.val (.long q1), .second, .val (.int p2), .val (.int (p2 &&& (3 : Int32))), .val (.long hv), .second, .val (.ref bx), .val (.int cc), .val (.int (1 : Int32)), .val (.int (cc / (2 : Int32))), .val (.long ((cc.toInt64) - ((2 : Int64) * ((cc / (2 : Int32)).toInt64)))), .second, .val (.int (1 : Int32)), .val (.long (hv / (16 : Int64))), .second, .val (.int (1 : Int32)), .val (.long (hv / (64 : Int64))), .second, .val (.int (0 : Int32)), .val (.long (hv - ((64 : Int64) * (hv / (64 : Int64))))), .second] [(.int (1 : Int32))])) _
        refine XS.goto X7.here hx rfl (pc0 := 338) (pc' := 342) rfl (hb hby at_338) (by decide) (by decide) ?_
        show Steps p.tables e below (T7.setTop (mkF m 342 #[.val (.long q1), .second, .val (.int p2), .val (.int (p2 &&& (3 : Int32))), .val (.long hv), .second, .val (.ref bx), .val (.int cc), .val (.int (1 : Int32)), .val (.int (cc / (2 : Int32))), .val (.long ((cc.toInt64) - ((2 : Int64) * ((cc / (2 : Int32)).toInt64)))), .second, .val (.int (1 : Int32)), .val (.long (hv / (16 : Int64))), .second, .val (.int (1 : Int32)), .val (.long (hv / (64 : Int64))), .second, .val (.int (0 : Int32)), .val (.long (hv - ((64 : Int64) * (hv / (64 : Int64))))), .second] [(.int (1 : Int32))])) _
        refine XS.istore X7.here hx rfl (hb hby at_342) rfl (l' := #[.val (.long q1), .second, .val (.int p2), .val (.int (p2 &&& (3 : Int32))), .val (.long hv), .second, .val (.ref bx), .val (.int cc), .val (.int (1 : Int32)), .val (.int (cc / (2 : Int32))), .val (.long ((cc.toInt64) - ((2 : Int64) * ((cc / (2 : Int32)).toInt64)))), .second, .val (.int (1 : Int32)), .val (.long (hv / (16 : Int64))), .second, .val (.int (1 : Int32)), .val (.long (hv / (64 : Int64))), .second, .val (.int (1 : Int32)), .val (.long (hv - ((64 : Int64) * (hv / (64 : Int64))))), .second]) rfl ?_
        show Steps p.tables e below (T7.setTop (mkF m 344 #[.val (.long q1), .second, .val (.int p2), .val (.int (p2 &&& (3 : Int32))), .val (.long hv), .second, .val (.ref bx), .val (.int cc), .val (.int (1 : Int32)), .val (.int (cc / (2 : Int32))), .val (.long ((cc.toInt64) - ((2 : Int64) * ((cc / (2 : Int32)).toInt64)))), .second, .val (.int (1 : Int32)), .val (.long (hv / (16 : Int64))), .second, .val (.int (1 : Int32)), .val (.long (hv / (64 : Int64))), .second, .val (.int (1 : Int32)), .val (.long (hv - ((64 : Int64) * (hv / (64 : Int64))))), .second] [])) _
        refine XS.iload X7.here hx rfl (hb hby at_344) rfl ?_
        show Steps p.tables e below (T7.setTop (mkF m 346 #[.val (.long q1), .second, .val (.int p2), .val (.int (p2 &&& (3 : Int32))), .val (.long hv), .second, .val (.ref bx), .val (.int cc), .val (.int (1 : Int32)), .val (.int (cc / (2 : Int32))), .val (.long ((cc.toInt64) - ((2 : Int64) * ((cc / (2 : Int32)).toInt64)))), .second, .val (.int (1 : Int32)), .val (.long (hv / (16 : Int64))), .second, .val (.int (1 : Int32)), .val (.long (hv / (64 : Int64))), .second, .val (.int (1 : Int32)), .val (.long (hv - ((64 : Int64) * (hv / (64 : Int64))))), .second] [(.int (1 : Int32))])) _
        have hc346 : ¬ ((1 : Int32) = (0 : Int32)) := by decide
        refine XS.ifNo X7.here hx rfl (hb hby at_346) rfl ((if0 _ _).trans (feq hc346).1) ?_
        show Steps p.tables e below (T7.setTop (mkF m 349 #[.val (.long q1), .second, .val (.int p2), .val (.int (p2 &&& (3 : Int32))), .val (.long hv), .second, .val (.ref bx), .val (.int cc), .val (.int (1 : Int32)), .val (.int (cc / (2 : Int32))), .val (.long ((cc.toInt64) - ((2 : Int64) * ((cc / (2 : Int32)).toInt64)))), .second, .val (.int (1 : Int32)), .val (.long (hv / (16 : Int64))), .second, .val (.int (1 : Int32)), .val (.long (hv / (64 : Int64))), .second, .val (.int (1 : Int32)), .val (.long (hv - ((64 : Int64) * (hv / (64 : Int64))))), .second] [])) _
        refine XS.iload X7.here hx rfl (hb hby at_349) rfl ?_
        show Steps p.tables e below (T7.setTop (mkF m 351 #[.val (.long q1), .second, .val (.int p2), .val (.int (p2 &&& (3 : Int32))), .val (.long hv), .second, .val (.ref bx), .val (.int cc), .val (.int (1 : Int32)), .val (.int (cc / (2 : Int32))), .val (.long ((cc.toInt64) - ((2 : Int64) * ((cc / (2 : Int32)).toInt64)))), .second, .val (.int (1 : Int32)), .val (.long (hv / (16 : Int64))), .second, .val (.int (1 : Int32)), .val (.long (hv / (64 : Int64))), .second, .val (.int (1 : Int32)), .val (.long (hv - ((64 : Int64) * (hv / (64 : Int64))))), .second] [(.int (1 : Int32))])) _
        have hc351 : ¬ ((1 : Int32) = (0 : Int32)) := by decide
        refine XS.ifNo X7.here hx rfl (hb hby at_351) rfl ((if0 _ _).trans (feq hc351).1) ?_
        show Steps p.tables e below (T7.setTop (mkF m 354 #[.val (.long q1), .second, .val (.int p2), .val (.int (p2 &&& (3 : Int32))), .val (.long hv), .second, .val (.ref bx), .val (.int cc), .val (.int (1 : Int32)), .val (.int (cc / (2 : Int32))), .val (.long ((cc.toInt64) - ((2 : Int64) * ((cc / (2 : Int32)).toInt64)))), .second, .val (.int (1 : Int32)), .val (.long (hv / (16 : Int64))), .second, .val (.int (1 : Int32)), .val (.long (hv / (64 : Int64))), .second, .val (.int (1 : Int32)), .val (.long (hv - ((64 : Int64) * (hv / (64 : Int64))))), .second] [])) _
        refine XS.iload X7.here hx rfl (hb hby at_354) rfl ?_
        show Steps p.tables e below (T7.setTop (mkF m 356 #[.val (.long q1), .second, .val (.int p2), .val (.int (p2 &&& (3 : Int32))), .val (.long hv), .second, .val (.ref bx), .val (.int cc), .val (.int (1 : Int32)), .val (.int (cc / (2 : Int32))), .val (.long ((cc.toInt64) - ((2 : Int64) * ((cc / (2 : Int32)).toInt64)))), .second, .val (.int (1 : Int32)), .val (.long (hv / (16 : Int64))), .second, .val (.int (1 : Int32)), .val (.long (hv / (64 : Int64))), .second, .val (.int (1 : Int32)), .val (.long (hv - ((64 : Int64) * (hv / (64 : Int64))))), .second] [(.int (1 : Int32))])) _
        have hc356 : ¬ ((1 : Int32) = (0 : Int32)) := by decide
        refine XS.ifNo X7.here hx rfl (hb hby at_356) rfl ((if0 _ _).trans (feq hc356).1) ?_
        show Steps p.tables e below (T7.setTop (mkF m 359 #[.val (.long q1), .second, .val (.int p2), .val (.int (p2 &&& (3 : Int32))), .val (.long hv), .second, .val (.ref bx), .val (.int cc), .val (.int (1 : Int32)), .val (.int (cc / (2 : Int32))), .val (.long ((cc.toInt64) - ((2 : Int64) * ((cc / (2 : Int32)).toInt64)))), .second, .val (.int (1 : Int32)), .val (.long (hv / (16 : Int64))), .second, .val (.int (1 : Int32)), .val (.long (hv / (64 : Int64))), .second, .val (.int (1 : Int32)), .val (.long (hv - ((64 : Int64) * (hv / (64 : Int64))))), .second] [])) _
        refine XS.iload X7.here hx rfl (hb hby at_359) rfl ?_
        show Steps p.tables e below (T7.setTop (mkF m 361 #[.val (.long q1), .second, .val (.int p2), .val (.int (p2 &&& (3 : Int32))), .val (.long hv), .second, .val (.ref bx), .val (.int cc), .val (.int (1 : Int32)), .val (.int (cc / (2 : Int32))), .val (.long ((cc.toInt64) - ((2 : Int64) * ((cc / (2 : Int32)).toInt64)))), .second, .val (.int (1 : Int32)), .val (.long (hv / (16 : Int64))), .second, .val (.int (1 : Int32)), .val (.long (hv / (64 : Int64))), .second, .val (.int (1 : Int32)), .val (.long (hv - ((64 : Int64) * (hv / (64 : Int64))))), .second] [(.int (1 : Int32))])) _
        have hc361 : ¬ ((1 : Int32) = (0 : Int32)) := by decide
        refine XS.ifNo X7.here hx rfl (hb hby at_361) rfl ((if0 _ _).trans (feq hc361).1) ?_
        show Steps p.tables e below (T7.setTop (mkF m 364 #[.val (.long q1), .second, .val (.int p2), .val (.int (p2 &&& (3 : Int32))), .val (.long hv), .second, .val (.ref bx), .val (.int cc), .val (.int (1 : Int32)), .val (.int (cc / (2 : Int32))), .val (.long ((cc.toInt64) - ((2 : Int64) * ((cc / (2 : Int32)).toInt64)))), .second, .val (.int (1 : Int32)), .val (.long (hv / (16 : Int64))), .second, .val (.int (1 : Int32)), .val (.long (hv / (64 : Int64))), .second, .val (.int (1 : Int32)), .val (.long (hv - ((64 : Int64) * (hv / (64 : Int64))))), .second] [])) _
        refine XS.iconst X7.here hx rfl (hb hby at_364) ?_
        show Steps p.tables e below (T7.setTop (mkF m 365 #[.val (.long q1), .second, .val (.int p2), .val (.int (p2 &&& (3 : Int32))), .val (.long hv), .second, .val (.ref bx), .val (.int cc), .val (.int (1 : Int32)), .val (.int (cc / (2 : Int32))), .val (.long ((cc.toInt64) - ((2 : Int64) * ((cc / (2 : Int32)).toInt64)))), .second, .val (.int (1 : Int32)), .val (.long (hv / (16 : Int64))), .second, .val (.int (1 : Int32)), .val (.long (hv / (64 : Int64))), .second, .val (.int (1 : Int32)), .val (.long (hv - ((64 : Int64) * (hv / (64 : Int64))))), .second] [(.int (1 : Int32))])) _
        refine XS.goto X7.here hx rfl (pc0 := 365) (pc' := 369) rfl (hb hby at_365) (by decide) (by decide) ?_
        show Steps p.tables e below (T7.setTop (mkF m 369 #[.val (.long q1), .second, .val (.int p2), .val (.int (p2 &&& (3 : Int32))), .val (.long hv), .second, .val (.ref bx), .val (.int cc), .val (.int (1 : Int32)), .val (.int (cc / (2 : Int32))), .val (.long ((cc.toInt64) - ((2 : Int64) * ((cc / (2 : Int32)).toInt64)))), .second, .val (.int (1 : Int32)), .val (.long (hv / (16 : Int64))), .second, .val (.int (1 : Int32)), .val (.long (hv / (64 : Int64))), .second, .val (.int (1 : Int32)), .val (.long (hv - ((64 : Int64) * (hv / (64 : Int64))))), .second] [(.int (1 : Int32))])) _
        exact retN X7 hx (t := .boolean) Bd.returns (by simp) (hb hby at_369) hr
      · show Q0 Z q1 p2 h0 n0 _ T7.heap _
        exact ⟨rfl, N7⟩
    · -- pc 61: com/example/metrogate/metrogate/ClientLimits.forHeap by its contract rm1
      obtain ⟨_, _, ⟨T3, L3, k3, n3⟩, -, X3, ⟨Lc3, hQ3, l3, y3, z3⟩, st3⟩ := Jvm.LawKit.callS X0 hx (y := (⟨"com/example/metrogate/metrogate/ClientLimits", "forHeap", "(J)Lcom/example/metrogate/metrogate/ClientLimits;"⟩ : MethodName)) hown (mvT hZ (hw _ (List.mem_of_getElem? (i := 1) rfl))) (mvT hZ (hw _ (List.mem_of_getElem? (i := 2) rfl))) (mvT hZ (hw _ (List.mem_of_getElem? (i := 3) rfl))) (mvT hZ (hw _ (List.mem_of_getElem? (i := 4) rfl))) (by decide) (backOf (W := 0) (rm1 l Z a0 hw [] hv h0 n0 Z0) hZ (hw _ (List.mem_of_getElem? (i := 4) rfl)) (hw _ (List.mem_of_getElem? (i := 3) rfl)) (by decide) (by decide)) (g := (mkF m 61 #[.val (.long q1), .second, .val (.int p2), .val (.int (p2 &&& (3 : Int32))), .val (.long hv), .second, .unset, .unset, .unset, .unset, .unset, .unset, .unset, .unset, .unset, .unset, .unset, .unset, .unset, .unset, .unset] [(.long hv)])) rfl (by rw [hml]; rfl) (argsL := [(.long hv)]) (rest := []) (lenOf pd_0_0 rfl) rfl (by show 2 * 0 + _ ≤ _; exact Nat.le_of_eq rfl) (hb hby at_61) (fun _ _ => ⟨rfl, e0, (by decide : 0 + 1 ≤ _), (by decide : 0 + 4 ≤ _)⟩)
      dsimp only [Pt.U, Pt.locs, Pt.cells, Pt.slots] at X3 l3 y3 z3 st3 hQ3
      subst l3 y3 z3
      obtain ⟨bx, rfl, N3q, Kc3, Ex, Fc, Fa, Fs, Fb⟩ := hQ3
      obtain ⟨cc, hcc⟩ : ∃ cc, cc = (own_c hv).toInt32 := ⟨_, rfl⟩
      rw [← hcc] at Fc Fa
      have hC := own_cc hv hv0
      rw [← hcc] at hC
      have hc0 : 0 ≤ cc.toInt := by rw [hC]; split <;> (try split) <;> omega
      have Z3 := Nat.le_trans Z0 Kc3.1
      have N3 := Fr.app N0 N3q
      -- pc 68: com/example/metrogate/metrogate/ClientLimits.connections by the contract of the body that the receiver's class selects, rm7
      obtain ⟨cq4, kq4, q4a, q4b, q4c⟩ := isOf hZ rfl Ex
      obtain ⟨_, _, ⟨T4, L4, k4, n4⟩, -, X4, ⟨Lc4, hQ4, l4, y4, z4⟩, st4⟩ := X3.virtualBack hx (y := (⟨"com/example/metrogate/metrogate/ClientLimits", "connections", "()I"⟩ : MethodName)) (z := (⟨"com/example/metrogate/metrogate/ClientLimits", "connections", "()I"⟩ : MethodName)) hown (mvT hZ (hw _ (List.mem_of_getElem? (i := 39) rfl))) (mvT hZ (hw _ (List.mem_of_getElem? (i := 40) rfl))) (notFace_of_selects (args := #[]) (mvT hZ (hw _ (List.mem_of_getElem? (i := 42) rfl)))) (mvT hZ (hw _ (List.mem_of_getElem? (i := 42) rfl))) (mvT hZ (hw _ (List.mem_of_getElem? (i := 41) rfl))) (by decide) (backOf (W := 0) (rm7 l Z a0 hw [] bx cc T3.heap n0 Z3 Fc) hZ (hw _ (List.mem_of_getElem? (i := 43) rfl)) (hw _ (List.mem_of_getElem? (i := 3) rfl)) (by decide) (by decide)) q4a q4c (g := (mkF m 68 #[.val (.long q1), .second, .val (.int p2), .val (.int (p2 &&& (3 : Int32))), .val (.long hv), .second, .val (.ref bx), .unset, .unset, .unset, .unset, .unset, .unset, .unset, .unset, .unset, .unset, .unset, .unset, .unset, .unset] [(.ref bx)])) rfl (by rw [hml]; rfl) (Steps.refl _) (argsL := []) (rest := []) (lenOf pd_0_4 rfl) rfl (by show 2 * 0 + _ ≤ _; exact Nat.le_of_eq rfl) (hb hby at_68) (fun _ _ => ⟨rfl, rfl, (by decide : 1 + 0 ≤ _), (by decide : 4 + 0 ≤ _)⟩)
      dsimp only [Pt.U, Pt.locs, Pt.cells, Pt.slots] at X4 l4 y4 z4 st4 hQ4
      subst l4 y4 z4
      obtain ⟨rfl, N4q, hh4⟩ := hQ4
      have Kc4 : Keep T3.heap T4.heap [] := by rw [hh4]; exact Keep.refl _ _
      have Z4 := Nat.le_trans Z3 Kc4.1
      have N4 := Fr.app N3 N4q
      -- pc 185: com/example/metrogate/metrogate/ClientLimits.arrivingBodies by the contract of the body that the receiver's class selects, rm8
      obtain ⟨cq5, kq5, q5a, q5b, q5c⟩ := isOf hZ rfl (Ex.keep Kc4)
      obtain ⟨_, _, ⟨T5, L5, k5, n5⟩, -, X5, ⟨Lc5, hQ5, l5, y5, z5⟩, st5⟩ := X4.virtualBack hx (y := (⟨"com/example/metrogate/metrogate/ClientLimits", "arrivingBodies", "()I"⟩ : MethodName)) (z := (⟨"com/example/metrogate/metrogate/ClientLimits", "arrivingBodies", "()I"⟩ : MethodName)) hown (mvT hZ (hw _ (List.mem_of_getElem? (i := 45) rfl))) (mvT hZ (hw _ (List.mem_of_getElem? (i := 46) rfl))) (notFace_of_selects (args := #[]) (mvT hZ (hw _ (List.mem_of_getElem? (i := 48) rfl)))) (mvT hZ (hw _ (List.mem_of_getElem? (i := 48) rfl))) (mvT hZ (hw _ (List.mem_of_getElem? (i := 47) rfl))) (by decide) (backOf (W := 0) (rm8 l Z a0 hw [] bx (cc / (2 : Int32)) T4.heap n0 Z4 (Fa.keep Kc4 nin0)) hZ (hw _ (List.mem_of_getElem? (i := 49) rfl)) (hw _ (List.mem_of_getElem? (i := 3) rfl)) (by decide) (by decide)) q5a q5c (g := (mkF m 185 #[.val (.long q1), .second, .val (.int p2), .val (.int (p2 &&& (3 : Int32))), .val (.long hv), .second, .val (.ref bx), .val (.int cc), .val (.int (1 : Int32)), .unset, .unset, .unset, .unset, .unset, .unset, .unset, .unset, .unset, .unset, .unset, .unset] [(.ref bx)])) rfl (by rw [hml]; rfl) (Steps.refl _) (argsL := []) (rest := []) (lenOf pd_0_4 rfl) rfl (by show 2 * 0 + _ ≤ _; exact Nat.le_of_eq rfl) (hb hby at_185) (fun _ _ => ⟨rfl, rfl, (by decide : 1 + 0 ≤ _), (by decide : 4 + 0 ≤ _)⟩)
      dsimp only [Pt.U, Pt.locs, Pt.cells, Pt.slots] at X5 l5 y5 z5 st5 hQ5
      subst l5 y5 z5
      obtain ⟨rfl, N5q, hh5⟩ := hQ5
      have Kc5 : Keep T4.heap T5.heap [] := by rw [hh5]; exact Keep.refl _ _
      have Z5 := Nat.le_trans Z4 Kc5.1
      have N5 := Fr.app N4 N5q
      -- pc 226: com/example/metrogate/metrogate/ClientLimits.sharedBodyBytes by the contract of the body that the receiver's class selects, rm9
      obtain ⟨cq6, kq6, q6a, q6b, q6c⟩ := isOf hZ rfl ((Ex.keep Kc4).keep Kc5)
      obtain ⟨_, _, ⟨T6, L6, k6, n6⟩, -, X6, ⟨Lc6, hQ6, l6, y6, z6⟩, st6⟩ := X5.virtualBack hx (y := (⟨"com/example/metrogate/metrogate/ClientLimits", "sharedBodyBytes", "()J"⟩ : MethodName)) (z := (⟨"com/example/metrogate/metrogate/ClientLimits", "sharedBodyBytes", "()J"⟩ : MethodName)) hown (mvT hZ (hw _ (List.mem_of_getElem? (i := 51) rfl))) (mvT hZ (hw _ (List.mem_of_getElem? (i := 52) rfl))) (notFace_of_selects (args := #[]) (mvT hZ (hw _ (List.mem_of_getElem? (i := 54) rfl)))) (mvT hZ (hw _ (List.mem_of_getElem? (i := 54) rfl))) (mvT hZ (hw _ (List.mem_of_getElem? (i := 53) rfl))) (by decide) (backOf (W := 0) (rm9 l Z a0 hw [] bx (hv / (16 : Int64)) T5.heap n0 Z5 ((Fs.keep Kc4 nin0).keep Kc5 nin0)) hZ (hw _ (List.mem_of_getElem? (i := 55) rfl)) (hw _ (List.mem_of_getElem? (i := 3) rfl)) (by decide) (by decide)) q6a q6c (g := (mkF m 226 #[.val (.long q1), .second, .val (.int p2), .val (.int (p2 &&& (3 : Int32))), .val (.long hv), .second, .val (.ref bx), .val (.int cc), .val (.int (1 : Int32)), .val (.int (cc / (2 : Int32))), .val (.long ((cc.toInt64) - ((2 : Int64) * ((cc / (2 : Int32)).toInt64)))), .second, .val (.int (1 : Int32)), .unset, .unset, .unset, .unset, .unset, .unset, .unset, .unset] [(.ref bx)])) rfl (by rw [hml]; rfl) (Steps.refl _) (argsL := []) (rest := []) (lenOf pd_0_5 rfl) rfl (by show 2 * 0 + _ ≤ _; exact Nat.le_of_eq rfl) (hb hby at_226) (fun _ _ => ⟨rfl, rfl, (by decide : 1 + 0 ≤ _), (by decide : 4 + 0 ≤ _)⟩)
      dsimp only [Pt.U, Pt.locs, Pt.cells, Pt.slots] at X6 l6 y6 z6 st6 hQ6
      subst l6 y6 z6
      obtain ⟨rfl, N6q, hh6⟩ := hQ6
      have Kc6 : Keep T5.heap T6.heap [] := by rw [hh6]; exact Keep.refl _ _
      have Z6 := Nat.le_trans Z5 Kc6.1
      have N6 := Fr.app N5 N6q
      -- pc 286: com/example/metrogate/metrogate/ClientLimits.addressBytes by the contract of the body that the receiver's class selects, rm10
      obtain ⟨cq7, kq7, q7a, q7b, q7c⟩ := isOf hZ rfl (((Ex.keep Kc4).keep Kc5).keep Kc6)
      obtain ⟨_, _, ⟨T7, L7, k7, n7⟩, -, X7, ⟨Lc7, hQ7, l7, y7, z7⟩, st7⟩ := X6.virtualBack hx (y := (⟨"com/example/metrogate/metrogate/ClientLimits", "addressBytes", "()J"⟩ : MethodName)) (z := (⟨"com/example/metrogate/metrogate/ClientLimits", "addressBytes", "()J"⟩ : MethodName)) hown (mvT hZ (hw _ (List.mem_of_getElem? (i := 58) rfl))) (mvT hZ (hw _ (List.mem_of_getElem? (i := 59) rfl))) (notFace_of_selects (args := #[]) (mvT hZ (hw _ (List.mem_of_getElem? (i := 61) rfl)))) (mvT hZ (hw _ (List.mem_of_getElem? (i := 61) rfl))) (mvT hZ (hw _ (List.mem_of_getElem? (i := 60) rfl))) (by decide) (backOf (W := 0) (rm10 l Z a0 hw [] bx (hv / (64 : Int64)) T6.heap n0 Z6 (((Fb.keep Kc4 nin0).keep Kc5 nin0).keep Kc6 nin0)) hZ (hw _ (List.mem_of_getElem? (i := 62) rfl)) (hw _ (List.mem_of_getElem? (i := 3) rfl)) (by decide) (by decide)) q7a q7c (g := (mkF m 286 #[.val (.long q1), .second, .val (.int p2), .val (.int (p2 &&& (3 : Int32))), .val (.long hv), .second, .val (.ref bx), .val (.int cc), .val (.int (1 : Int32)), .val (.int (cc / (2 : Int32))), .val (.long ((cc.toInt64) - ((2 : Int64) * ((cc / (2 : Int32)).toInt64)))), .second, .val (.int (1 : Int32)), .val (.long (hv / (16 : Int64))), .second, .val (.int (1 : Int32)), .val (.long (hv - ((16 : Int64) * (hv / (16 : Int64))))), .second, .unset, .unset, .unset] [(.ref bx)])) rfl (by rw [hml]; rfl) (Steps.refl _) (argsL := []) (rest := []) (lenOf pd_0_5 rfl) rfl (by show 2 * 0 + _ ≤ _; exact Nat.le_of_eq rfl) (hb hby at_286) (fun _ _ => ⟨rfl, rfl, (by decide : 1 + 0 ≤ _), (by decide : 4 + 0 ≤ _)⟩)
      dsimp only [Pt.U, Pt.locs, Pt.cells, Pt.slots] at X7 l7 y7 z7 st7 hQ7
      subst l7 y7 z7
      obtain ⟨rfl, N7q, hh7⟩ := hQ7
      have Kc7 : Keep T6.heap T7.heap [] := by rw [hh7]; exact Keep.refl _ _
      have Z7 := Nat.le_trans Z6 Kc7.1
      have N7 := Fr.app N6 N7q
      obtain ⟨fs, hr, hrun, hended, hW, hsame⟩ := X7.leave (v := some (.int (1 : Int32))) (fun h => by rw [Bd.returns] at h; cases h)
      refine ⟨_, _, pre0 _ (preh _ ?_), hrun, hended, _, _, rfl, ?_, ⟨_, rfl⟩, hW, hsame.mono (by decide) (by decide)⟩
      · show Steps p.tables e below (s₁.setTop (mkF m 59 #[.val (.long q1), .second, .val (.int p2), .val (.int (p2 &&& (3 : Int32))), .val (.long hv), .second, .unset, .unset, .unset, .unset, .unset, .unset, .unset, .unset, .unset, .unset, .unset, .unset, .unset, .unset, .unset] [])) _
        refine XS.lload X0.here hx rfl (hb hby at_59) rfl ?_
        show Steps p.tables e below (s₁.setTop (mkF m 61 #[.val (.long q1), .second, .val (.int p2), .val (.int (p2 &&& (3 : Int32))), .val (.long hv), .second, .unset, .unset, .unset, .unset, .unset, .unset, .unset, .unset, .unset, .unset, .unset, .unset, .unset, .unset, .unset] [(.long hv)])) _
        refine st3 _ ?_
        show Steps p.tables e below (T3.setTop (mkF m 64 #[.val (.long q1), .second, .val (.int p2), .val (.int (p2 &&& (3 : Int32))), .val (.long hv), .second, .unset, .unset, .unset, .unset, .unset, .unset, .unset, .unset, .unset, .unset, .unset, .unset, .unset, .unset, .unset] [(.ref bx)])) _
        refine XS.astore X3.here hx rfl (hb hby at_64) rfl rfl (l' := #[.val (.long q1), .second, .val (.int p2), .val (.int (p2 &&& (3 : Int32))), .val (.long hv), .second, .val (.ref bx), .unset, .unset, .unset, .unset, .unset, .unset, .unset, .unset, .unset, .unset, .unset, .unset, .unset, .unset]) rfl ?_
        show Steps p.tables e below (T3.setTop (mkF m 66 #[.val (.long q1), .second, .val (.int p2), .val (.int (p2 &&& (3 : Int32))), .val (.long hv), .second, .val (.ref bx), .unset, .unset, .unset, .unset, .unset, .unset, .unset, .unset, .unset, .unset, .unset, .unset, .unset, .unset] [])) _
        refine XS.aload X3.here hx rfl (hb hby at_66) rfl rfl ?_
        show Steps p.tables e below (T3.setTop (mkF m 68 #[.val (.long q1), .second, .val (.int p2), .val (.int (p2 &&& (3 : Int32))), .val (.long hv), .second, .val (.ref bx), .unset, .unset, .unset, .unset, .unset, .unset, .unset, .unset, .unset, .unset, .unset, .unset, .unset, .unset] [(.ref bx)])) _
        refine st4.trans ?_
        show Steps p.tables e below (T4.setTop (mkF m 71 #[.val (.long q1), .second, .val (.int p2), .val (.int (p2 &&& (3 : Int32))), .val (.long hv), .second, .val (.ref bx), .unset, .unset, .unset, .unset, .unset, .unset, .unset, .unset, .unset, .unset, .unset, .unset, .unset, .unset] [(.int cc)])) _
        refine XS.istore X4.here hx rfl (hb hby at_71) rfl (l' := #[.val (.long q1), .second, .val (.int p2), .val (.int (p2 &&& (3 : Int32))), .val (.long hv), .second, .val (.ref bx), .val (.int cc), .unset, .unset, .unset, .unset, .unset, .unset, .unset, .unset, .unset, .unset, .unset, .unset, .unset]) rfl ?_
        show Steps p.tables e below (T4.setTop (mkF m 73 #[.val (.long q1), .second, .val (.int p2), .val (.int (p2 &&& (3 : Int32))), .val (.long hv), .second, .val (.ref bx), .val (.int cc), .unset, .unset, .unset, .unset, .unset, .unset, .unset, .unset, .unset, .unset, .unset, .unset, .unset] [])) _
        refine XS.lload X4.here hx rfl (hb hby at_73) rfl ?_
        show Steps p.tables e below (T4.setTop (mkF m 75 #[.val (.long q1), .second, .val (.int p2), .val (.int (p2 &&& (3 : Int32))), .val (.long hv), .second, .val (.ref bx), .val (.int cc), .unset, .unset, .unset, .unset, .unset, .unset, .unset, .unset, .unset, .unset, .unset, .unset, .unset] [(.long hv)])) _
        refine X4.ldc2Long hx hown (mvT hZ (hw _ (List.mem_of_getElem? (i := 44) rfl))) (g := (mkF m 75 #[.val (.long q1), .second, .val (.int p2), .val (.int (p2 &&& (3 : Int32))), .val (.long hv), .second, .val (.ref bx), .val (.int cc), .unset, .unset, .unset, .unset, .unset, .unset, .unset, .unset, .unset, .unset, .unset, .unset, .unset] [(.long hv)])) rfl (hb hby at_75) _ ?_
        show Steps p.tables e below (T4.setTop (mkF m 78 #[.val (.long q1), .second, .val (.int p2), .val (.int (p2 &&& (3 : Int32))), .val (.long hv), .second, .val (.ref bx), .val (.int cc), .unset, .unset, .unset, .unset, .unset, .unset, .unset, .unset, .unset, .unset, .unset, .unset, .unset] [(.long (17563648 : Int64)), (.long hv)])) _
        refine XS.lcmp X4.here hx rfl (hb hby at_78) rfl ?_
        show Steps p.tables e below (T4.setTop (mkF m 79 #[.val (.long q1), .second, .val (.int p2), .val (.int (p2 &&& (3 : Int32))), .val (.long hv), .second, .val (.ref bx), .val (.int cc), .unset, .unset, .unset, .unset, .unset, .unset, .unset, .unset, .unset, .unset, .unset, .unset, .unset] [(.int (lcmpW hv (17563648 : Int64)))])) _
        refine XS.ifYes X4.here hx rfl (pc0 := 79) (pc' := 98) rfl (hb hby at_79) rfl ((if0 _ _).trans (flt hc79).2.1) (by decide) (by decide) ?_
        show Steps p.tables e below (T4.setTop (mkF m 98 #[.val (.long q1), .second, .val (.int p2), .val (.int (p2 &&& (3 : Int32))), .val (.long hv), .second, .val (.ref bx), .val (.int cc), .unset, .unset, .unset, .unset, .unset, .unset, .unset, .unset, .unset, .unset, .unset, .unset, .unset] [])) _
        refine XS.lload X4.here hx rfl (hb hby at_98) rfl ?_
        show Steps p.tables e below (T4.setTop (mkF m 100 #[.val (.long q1), .second, .val (.int p2), .val (.int (p2 &&& (3 : Int32))), .val (.long hv), .second, .val (.ref bx), .val (.int cc), .unset, .unset, .unset, .unset, .unset, .unset, .unset, .unset, .unset, .unset, .unset, .unset, .unset] [(.long hv)])) _
        refine X4.ldc2Long hx hown (mvT hZ (hw _ (List.mem_of_getElem? (i := 66) rfl))) (g := (mkF m 100 #[.val (.long q1), .second, .val (.int p2), .val (.int (p2 &&& (3 : Int32))), .val (.long hv), .second, .val (.ref bx), .val (.int cc), .unset, .unset, .unset, .unset, .unset, .unset, .unset, .unset, .unset, .unset, .unset, .unset, .unset] [(.long hv)])) rfl (hb hby at_100) _ ?_
        show Steps p.tables e below (T4.setTop (mkF m 103 #[.val (.long q1), .second, .val (.int p2), .val (.int (p2 &&& (3 : Int32))), .val (.long hv), .second, .val (.ref bx), .val (.int cc), .unset, .unset, .unset, .unset, .unset, .unset, .unset, .unset, .unset, .unset, .unset, .unset, .unset] [(.long (2164260864 : Int64)), (.long hv)])) _
        refine XS.lcmp X4.here hx rfl (hb hby at_103) rfl ?_
        show Steps p.tables e below (T4.setTop (mkF m 104 #[.val (.long q1), .second, .val (.int p2), .val (.int (p2 &&& (3 : Int32))), .val (.long hv), .second, .val (.ref bx), .val (.int cc), .unset, .unset, .unset, .unset, .unset, .unset, .unset, .unset, .unset, .unset, .unset, .unset, .unset] [(.int (lcmpW hv (2164260864 : Int64)))])) _
        refine XS.ifNo X4.here hx rfl (hb hby at_104) rfl ((if0 _ _).trans (flt hc104).1) ?_
        show Steps p.tables e below (T4.setTop (mkF m 107 #[.val (.long q1), .second, .val (.int p2), .val (.int (p2 &&& (3 : Int32))), .val (.long hv), .second, .val (.ref bx), .val (.int cc), .unset, .unset, .unset, .unset, .unset, .unset, .unset, .unset, .unset, .unset, .unset, .unset, .unset] [])) _
        refine XS.iload X4.here hx rfl (hb hby at_107) rfl ?_
        show Steps p.tables e below (T4.setTop (mkF m 109 #[.val (.long q1), .second, .val (.int p2), .val (.int (p2 &&& (3 : Int32))), .val (.long hv), .second, .val (.ref bx), .val (.int cc), .unset, .unset, .unset, .unset, .unset, .unset, .unset, .unset, .unset, .unset, .unset, .unset, .unset] [(.int cc)])) _
        refine XS.sipush X4.here hx rfl (hb hby at_109) ?_
        show Steps p.tables e below (T4.setTop (mkF m 112 #[.val (.long q1), .second, .val (.int p2), .val (.int (p2 &&& (3 : Int32))), .val (.long hv), .second, .val (.ref bx), .val (.int cc), .unset, .unset, .unset, .unset, .unset, .unset, .unset, .unset, .unset, .unset, .unset, .unset, .unset] [(.int (8192 : Int32)), (.int cc)])) _
        have hc112 : cc = (8192 : Int32) := own_B hv cc hC hc79 hc104
        refine XS.icmpNo X4.here hx rfl (hb hby at_112) rfl (teq hc112).2 ?_
        show Steps p.tables e below (T4.setTop (mkF m 115 #[.val (.long q1), .second, .val (.int p2), .val (.int (p2 &&& (3 : Int32))), .val (.long hv), .second, .val (.ref bx), .val (.int cc), .unset, .unset, .unset, .unset, .unset, .unset, .unset, .unset, .unset, .unset, .unset, .unset, .unset] [])) _
        refine XS.iconst X4.here hx rfl (hb hby at_115) ?_
        show Steps p.tables e below (T4.setTop (mkF m 116 #[.val (.long q1), .second, .val (.int p2), .val (.int (p2 &&& (3 : Int32))), .val (.long hv), .second, .val (.ref bx), .val (.int cc), .unset, .unset, .unset, .unset, .unset, .unset, .unset, .unset, .unset, .unset, .unset, .unset, .unset] [(.int (1 : Int32))])) _
        refine XS.goto X4.here hx rfl (pc0 := 116) (pc' := 120) rfl (hb hby at_116) (by decide) (by decide) ?_
        show Steps p.tables e below (T4.setTop (mkF m 120 #[.val (.long q1), .second, .val (.int p2), .val (.int (p2 &&& (3 : Int32))), .val (.long hv), .second, .val (.ref bx), .val (.int cc), .unset, .unset, .unset, .unset, .unset, .unset, .unset, .unset, .unset, .unset, .unset, .unset, .unset] [(.int (1 : Int32))])) _
        refine XS.istore X4.here hx rfl (hb hby at_120) rfl (l' := #[.val (.long q1), .second, .val (.int p2), .val (.int (p2 &&& (3 : Int32))), .val (.long hv), .second, .val (.ref bx), .val (.int cc), .val (.int (1 : Int32)), .unset, .unset, .unset, .unset, .unset, .unset, .unset, .unset, .unset, .unset, .unset, .unset]) rfl ?_
        show Steps p.tables e below (T4.setTop (mkF m 122 #[.val (.long q1), .second, .val (.int p2), .val (.int (p2 &&& (3 : Int32))), .val (.long hv), .second, .val (.ref bx), .val (.int cc), .val (.int (1 : Int32)), .unset, .unset, .unset, .unset, .unset, .unset, .unset, .unset, .unset, .unset, .unset, .unset] [])) _
        refine XS.goto X4.here hx rfl (pc0 := 122) (pc' := 183) rfl (hb hby at_122) (by decide) (by decide) ?_
        show Steps p.tables e below (T4.setTop (mkF m 183 #[.val (.long q1), .second, .val (.int p2), .val (.int (p2 &&& (3 : Int32))), .val (.long hv), .second, .val (.ref bx), .val (.int cc), .val (.int (1 : Int32)), .unset, .unset, .unset, .unset, .unset, .unset, .unset, .unset, .unset, .unset, .unset, .unset] [])) _
        refine XS.aload X4.here hx rfl (hb hby at_183) rfl rfl ?_
        show Steps p.tables e below (T4.setTop (mkF m 185 #[.val (.long q1), .second, .val (.int p2), .val (.int (p2 &&& (3 : Int32))), .val (.long hv), .second, .val (.ref bx), .val (.int cc), .val (.int (1 : Int32)), .unset, .unset, .unset, .unset, .unset, .unset, .unset, .unset, .unset, .unset, .unset, .unset] [(.ref bx)])) _
        refine st5.trans ?_
        show Steps p.tables e below (T5.setTop (mkF m 188 #[.val (.long q1), .second, .val (.int p2), .val (.int (p2 &&& (3 : Int32))), .val (.long hv), .second, .val (.ref bx), .val (.int cc), .val (.int (1 : Int32)), .unset, .unset, .unset, .unset, .unset, .unset, .unset, .unset, .unset, .unset, .unset, .unset] [(.int (cc / (2 : Int32)))])) _
        refine XS.istore X5.here hx rfl (hb hby at_188) rfl (l' := #[.val (.long q1), .second, .val (.int p2), .val (.int (p2 &&& (3 : Int32))), .val (.long hv), .second, .val (.ref bx), .val (.int cc), .val (.int (1 : Int32)), .val (.int (cc / (2 : Int32))), .unset, .unset, .unset, .unset, .unset, .unset, .unset, .unset, .unset, .unset, .unset]) rfl ?_
        show Steps p.tables e below (T5.setTop (mkF m 190 #[.val (.long q1), .second, .val (.int p2), .val (.int (p2 &&& (3 : Int32))), .val (.long hv), .second, .val (.ref bx), .val (.int cc), .val (.int (1 : Int32)), .val (.int (cc / (2 : Int32))), .unset, .unset, .unset, .unset, .unset, .unset, .unset, .unset, .unset, .unset, .unset] [])) _
        refine XS.iload X5.here hx rfl (hb hby at_190) rfl ?_
        show Steps p.tables e below (T5.setTop (mkF m 192 #[.val (.long q1), .second, .val (.int p2), .val (.int (p2 &&& (3 : Int32))), .val (.long hv), .second, .val (.ref bx), .val (.int cc), .val (.int (1 : Int32)), .val (.int (cc / (2 : Int32))), .unset, .unset, .unset, .unset, .unset, .unset, .unset, .unset, .unset, .unset, .unset] [(.int cc)])) _
        refine XS.i2l X5.here hx rfl (hb hby at_192) rfl ?_
        show Steps p.tables e below (T5.setTop (mkF m 193 #[.val (.long q1), .second, .val (.int p2), .val (.int (p2 &&& (3 : Int32))), .val (.long hv), .second, .val (.ref bx), .val (.int cc), .val (.int (1 : Int32)), .val (.int (cc / (2 : Int32))), .unset, .unset, .unset, .unset, .unset, .unset, .unset, .unset, .unset, .unset, .unset] [(.long (cc.toInt64))])) _
        refine X5.ldc2Long hx hown (mvT hZ (hw _ (List.mem_of_getElem? (i := 50) rfl))) (g := (mkF m 193 #[.val (.long q1), .second, .val (.int p2), .val (.int (p2 &&& (3 : Int32))), .val (.long hv), .second, .val (.ref bx), .val (.int cc), .val (.int (1 : Int32)), .val (.int (cc / (2 : Int32))), .unset, .unset, .unset, .unset, .unset, .unset, .unset, .unset, .unset, .unset, .unset] [(.long (cc.toInt64))])) rfl (hb hby at_193) _ ?_
        show Steps p.tables e below (T5.setTop (mkF m 196 #[.val (.long q1), .second, .val (.int p2), .val (.int (p2 &&& (3 : Int32))), .val (.long hv), .second, .val (.ref bx), .val (.int cc), .val (.int (1 : Int32)), .val (.int (cc / (2 : Int32))), .unset, .unset, .unset, .unset, .unset, .unset, .unset, .unset, .unset, .unset, .unset] [(.long (2 : Int64)), (.long (cc.toInt64))])) _
        refine XS.iload X5.here hx rfl (hb hby at_196) rfl ?_
        show Steps p.tables e below (T5.setTop (mkF m 198 #[.val (.long q1), .second, .val (.int p2), .val (.int (p2 &&& (3 : Int32))), .val (.long hv), .second, .val (.ref bx), .val (.int cc), .val (.int (1 : Int32)), .val (.int (cc / (2 : Int32))), .unset, .unset, .unset, .unset, .unset, .unset, .unset, .unset, .unset, .unset, .unset] [(.int (cc / (2 : Int32))), (.long (2 : Int64)), (.long (cc.toInt64))])) _
        refine XS.i2l X5.here hx rfl (hb hby at_198) rfl ?_
        show Steps p.tables e below (T5.setTop (mkF m 199 #[.val (.long q1), .second, .val (.int p2), .val (.int (p2 &&& (3 : Int32))), .val (.long hv), .second, .val (.ref bx), .val (.int cc), .val (.int (1 : Int32)), .val (.int (cc / (2 : Int32))), .unset, .unset, .unset, .unset, .unset, .unset, .unset, .unset, .unset, .unset, .unset] [(.long ((cc / (2 : Int32)).toInt64)), (.long (2 : Int64)), (.long (cc.toInt64))])) _
        refine XS.lmul X5.here hx rfl (hb hby at_199) rfl ?_
        show Steps p.tables e below (T5.setTop (mkF m 200 #[.val (.long q1), .second, .val (.int p2), .val (.int (p2 &&& (3 : Int32))), .val (.long hv), .second, .val (.ref bx), .val (.int cc), .val (.int (1 : Int32)), .val (.int (cc / (2 : Int32))), .unset, .unset, .unset, .unset, .unset, .unset, .unset, .unset, .unset, .unset, .unset] [(.long ((2 : Int64) * ((cc / (2 : Int32)).toInt64))), (.long (cc.toInt64))])) _
        refine XS.lsub X5.here hx rfl (hb hby at_200) rfl ?_
        show Steps p.tables e below (T5.setTop (mkF m 201 #[.val (.long q1), .second, .val (.int p2), .val (.int (p2 &&& (3 : Int32))), .val (.long hv), .second, .val (.ref bx), .val (.int cc), .val (.int (1 : Int32)), .val (.int (cc / (2 : Int32))), .unset, .unset, .unset, .unset, .unset, .unset, .unset, .unset, .unset, .unset, .unset] [(.long ((cc.toInt64) - ((2 : Int64) * ((cc / (2 : Int32)).toInt64))))])) _
        refine XS.lstore X5.here hx rfl (hb hby at_201) rfl (l' := #[.val (.long q1), .second, .val (.int p2), .val (.int (p2 &&& (3 : Int32))), .val (.long hv), .second, .val (.ref bx), .val (.int cc), .val (.int (1 : Int32)), .val (.int (cc / (2 : Int32))), .val (.long ((cc.toInt64) - ((2 : Int64) * ((cc / (2 : Int32)).toInt64)))), .second, .unset, .unset, .unset, .unset, .unset, .unset, .unset, .unset, .unset]) rfl ?_
        show Steps p.tables e below (T5.setTop (mkF m 203 #[.val (.long q1), .second, .val (.int p2), .val (.int (p2 &&& (3 : Int32))), .val (.long hv), .second, .val (.ref bx), .val (.int cc), .val (.int (1 : Int32)), .val (.int (cc / (2 : Int32))), .val (.long ((cc.toInt64) - ((2 : Int64) * ((cc / (2 : Int32)).toInt64)))), .second, .unset, .unset, .unset, .unset, .unset, .unset, .unset, .unset, .unset] [])) _
        refine XS.lload X5.here hx rfl (hb hby at_203) rfl ?_
        show Steps p.tables e below (T5.setTop (mkF m 205 #[.val (.long q1), .second, .val (.int p2), .val (.int (p2 &&& (3 : Int32))), .val (.long hv), .second, .val (.ref bx), .val (.int cc), .val (.int (1 : Int32)), .val (.int (cc / (2 : Int32))), .val (.long ((cc.toInt64) - ((2 : Int64) * ((cc / (2 : Int32)).toInt64)))), .second, .unset, .unset, .unset, .unset, .unset, .unset, .unset, .unset, .unset] [(.long ((cc.toInt64) - ((2 : Int64) * ((cc / (2 : Int32)).toInt64))))])) _
        refine XS.lconst X5.here hx rfl (hb hby at_205) ?_
        show Steps p.tables e below (T5.setTop (mkF m 206 #[.val (.long q1), .second, .val (.int p2), .val (.int (p2 &&& (3 : Int32))), .val (.long hv), .second, .val (.ref bx), .val (.int cc), .val (.int (1 : Int32)), .val (.int (cc / (2 : Int32))), .val (.long ((cc.toInt64) - ((2 : Int64) * ((cc / (2 : Int32)).toInt64)))), .second, .unset, .unset, .unset, .unset, .unset, .unset, .unset, .unset, .unset] [(.long (0 : Int64)), (.long ((cc.toInt64) - ((2 : Int64) * ((cc / (2 : Int32)).toInt64))))])) _
        refine XS.lcmp X5.here hx rfl (hb hby at_206) rfl ?_
        show Steps p.tables e below (T5.setTop (mkF m 207 #[.val (.long q1), .second, .val (.int p2), .val (.int (p2 &&& (3 : Int32))), .val (.long hv), .second, .val (.ref bx), .val (.int cc), .val (.int (1 : Int32)), .val (.int (cc / (2 : Int32))), .val (.long ((cc.toInt64) - ((2 : Int64) * ((cc / (2 : Int32)).toInt64)))), .second, .unset, .unset, .unset, .unset, .unset, .unset, .unset, .unset, .unset] [(.int (lcmpW ((cc.toInt64) - ((2 : Int64) * ((cc / (2 : Int32)).toInt64))) (0 : Int64)))])) _
        have hc207 : ¬ ((lcmpW ((cc.toInt64) - ((2 : Int64) * ((cc / (2 : Int32)).toInt64))) (0 : Int64)) < (0 : Int32)) := (own_207 cc hc0).1
        refine XS.ifNo X5.here hx rfl (hb hby at_207) rfl ((if0 _ _).trans (flt hc207).1) ?_
        show Steps p.tables e below (T5.setTop (mkF m 210 #[.val (.long q1), .second, .val (.int p2), .val (.int (p2 &&& (3 : Int32))), .val (.long hv), .second, .val (.ref bx), .val (.int cc), .val (.int (1 : Int32)), .val (.int (cc / (2 : Int32))), .val (.long ((cc.toInt64) - ((2 : Int64) * ((cc / (2 : Int32)).toInt64)))), .second, .unset, .unset, .unset, .unset, .unset, .unset, .unset, .unset, .unset] [])) _
        refine XS.lload X5.here hx rfl (hb hby at_210) rfl ?_
        show Steps p.tables e below (T5.setTop (mkF m 212 #[.val (.long q1), .second, .val (.int p2), .val (.int (p2 &&& (3 : Int32))), .val (.long hv), .second, .val (.ref bx), .val (.int cc), .val (.int (1 : Int32)), .val (.int (cc / (2 : Int32))), .val (.long ((cc.toInt64) - ((2 : Int64) * ((cc / (2 : Int32)).toInt64)))), .second, .unset, .unset, .unset, .unset, .unset, .unset, .unset, .unset, .unset] [(.long ((cc.toInt64) - ((2 : Int64) * ((cc / (2 : Int32)).toInt64))))])) _
        refine XS.lconst X5.here hx rfl (hb hby at_212) ?_
        show Steps p.tables e below (T5.setTop (mkF m 213 #[.val (.long q1), .second, .val (.int p2), .val (.int (p2 &&& (3 : Int32))), .val (.long hv), .second, .val (.ref bx), .val (.int cc), .val (.int (1 : Int32)), .val (.int (cc / (2 : Int32))), .val (.long ((cc.toInt64) - ((2 : Int64) * ((cc / (2 : Int32)).toInt64)))), .second, .unset, .unset, .unset, .unset, .unset, .unset, .unset, .unset, .unset] [(.long (1 : Int64)), (.long ((cc.toInt64) - ((2 : Int64) * ((cc / (2 : Int32)).toInt64))))])) _
        refine XS.lcmp X5.here hx rfl (hb hby at_213) rfl ?_
        show Steps p.tables e below (T5.setTop (mkF m 214 #[.val (.long q1), .second, .val (.int p2), .val (.int (p2 &&& (3 : Int32))), .val (.long hv), .second, .val (.ref bx), .val (.int cc), .val (.int (1 : Int32)), .val (.int (cc / (2 : Int32))), .val (.long ((cc.toInt64) - ((2 : Int64) * ((cc / (2 : Int32)).toInt64)))), .second, .unset, .unset, .unset, .unset, .unset, .unset, .unset, .unset, .unset] [(.int (lcmpW ((cc.toInt64) - ((2 : Int64) * ((cc / (2 : Int32)).toInt64))) (1 : Int64)))])) _
        have hc214 : ¬ ((0 : Int32) < (lcmpW ((cc.toInt64) - ((2 : Int64) * ((cc / (2 : Int32)).toInt64))) (1 : Int64))) := (own_207 cc hc0).2
        refine XS.ifNo X5.here hx rfl (hb hby at_214) rfl ((if0 _ _).trans (flt hc214).2.2.1) ?_
        show Steps p.tables e below (T5.setTop (mkF m 217 #[.val (.long q1), .second, .val (.int p2), .val (.int (p2 &&& (3 : Int32))), .val (.long hv), .second, .val (.ref bx), .val (.int cc), .val (.int (1 : Int32)), .val (.int (cc / (2 : Int32))), .val (.long ((cc.toInt64) - ((2 : Int64) * ((cc / (2 : Int32)).toInt64)))), .second, .unset, .unset, .unset, .unset, .unset, .unset, .unset, .unset, .unset] [])) _
        refine XS.iconst X5.here hx rfl (hb hby at_217) ?_
        show Steps p.tables e below (T5.setTop (mkF m 218 #[.val (.long q1), .second, .val (.int p2), .val (.int (p2 &&& (3 : Int32))), .val (.long hv), .second, .val (.ref bx), .val (.int cc), .val (.int (1 : Int32)), .val (.int (cc / (2 : Int32))), .val (.long ((cc.toInt64) - ((2 : Int64) * ((cc / (2 : Int32)).toInt64)))), .second, .unset, .unset, .unset, .unset, .unset, .unset, .unset, .unset, .unset] [(.int (1 : Int32))])) _
        refine XS.goto X5.here hx rfl (pc0 := 218) (pc' := 222) rfl (hb hby at_218) (by decide) (by decide) ?_
        show Steps p.tables e below (T5.setTop (mkF m 222 #[.val (.long q1), .second, .val (.int p2), .val (.int (p2 &&& (3 : Int32))), .val (.long hv), .second, .val (.ref bx), .val (.int cc), .val (.int (1 : Int32)), .val (.int (cc / (2 : Int32))), .val (.long ((cc.toInt64) - ((2 : Int64) * ((cc / (2 : Int32)).toInt64)))), .second, .unset, .unset, .unset, .unset, .unset, .unset, .unset, .unset, .unset] [(.int (1 : Int32))])) _
        refine XS.istore X5.here hx rfl (hb hby at_222) rfl (l' := #[.val (.long q1), .second, .val (.int p2), .val (.int (p2 &&& (3 : Int32))), .val (.long hv), .second, .val (.ref bx), .val (.int cc), .val (.int (1 : Int32)), .val (.int (cc / (2 : Int32))), .val (.long ((cc.toInt64) - ((2 : Int64) * ((cc / (2 : Int32)).toInt64)))), .second, .val (.int (1 : Int32)), .unset, .unset, .unset, .unset, .unset, .unset, .unset, .unset]) rfl ?_
        show Steps p.tables e below (T5.setTop (mkF m 224 #[.val (.long q1), .second, .val (.int p2), .val (.int (p2 &&& (3 : Int32))), .val (.long hv), .second, .val (.ref bx), .val (.int cc), .val (.int (1 : Int32)), .val (.int (cc / (2 : Int32))), .val (.long ((cc.toInt64) - ((2 : Int64) * ((cc / (2 : Int32)).toInt64)))), .second, .val (.int (1 : Int32)), .unset, .unset, .unset, .unset, .unset, .unset, .unset, .unset] [])) _
        refine XS.aload X5.here hx rfl (hb hby at_224) rfl rfl ?_
        show Steps p.tables e below (T5.setTop (mkF m 226 #[.val (.long q1), .second, .val (.int p2), .val (.int (p2 &&& (3 : Int32))), .val (.long hv), .second, .val (.ref bx), .val (.int cc), .val (.int (1 : Int32)), .val (.int (cc / (2 : Int32))), .val (.long ((cc.toInt64) - ((2 : Int64) * ((cc / (2 : Int32)).toInt64)))), .second, .val (.int (1 : Int32)), .unset, .unset, .unset, .unset, .unset, .unset, .unset, .unset] [(.ref bx)])) _
        refine st6.trans ?_
        show Steps p.tables e below (T6.setTop (mkF m 229 #[.val (.long q1), .second, .val (.int p2), .val (.int (p2 &&& (3 : Int32))), .val (.long hv), .second, .val (.ref bx), .val (.int cc), .val (.int (1 : Int32)), .val (.int (cc / (2 : Int32))), .val (.long ((cc.toInt64) - ((2 : Int64) * ((cc / (2 : Int32)).toInt64)))), .second, .val (.int (1 : Int32)), .unset, .unset, .unset, .unset, .unset, .unset, .unset, .unset] [(.long (hv / (16 : Int64)))])) _
        refine XS.lstore X6.here hx rfl (hb hby at_229) rfl (l' := #[.val (.long q1), .second, .val (.int p2), .val (.int (p2 &&& (3 : Int32))), .val (.long hv), .second, .val (.ref bx), .val (.int cc), .val (.int (1 : Int32)), .val (.int (cc / (2 : Int32))), .val (.long ((cc.toInt64) - ((2 : Int64) * ((cc / (2 : Int32)).toInt64)))), .second, .val (.int (1 : Int32)), .val (.long (hv / (16 : Int64))), .second, .unset, .unset, .unset, .unset, .unset, .unset]) rfl ?_
        show Steps p.tables e below (T6.setTop (mkF m 231 #[.val (.long q1), .second, .val (.int p2), .val (.int (p2 &&& (3 : Int32))), .val (.long hv), .second, .val (.ref bx), .val (.int cc), .val (.int (1 : Int32)), .val (.int (cc / (2 : Int32))), .val (.long ((cc.toInt64) - ((2 : Int64) * ((cc / (2 : Int32)).toInt64)))), .second, .val (.int (1 : Int32)), .val (.long (hv / (16 : Int64))), .second, .unset, .unset, .unset, .unset, .unset, .unset] [])) _
        refine XS.iconst X6.here hx rfl (hb hby at_231) ?_
        show Steps p.tables e below (T6.setTop (mkF m 232 #[.val (.long q1), .second, .val (.int p2), .val (.int (p2 &&& (3 : Int32))), .val (.long hv), .second, .val (.ref bx), .val (.int cc), .val (.int (1 : Int32)), .val (.int (cc / (2 : Int32))), .val (.long ((cc.toInt64) - ((2 : Int64) * ((cc / (2 : Int32)).toInt64)))), .second, .val (.int (1 : Int32)), .val (.long (hv / (16 : Int64))), .second, .unset, .unset, .unset, .unset, .unset, .unset] [(.int (0 : Int32))])) _
        refine XS.istore X6.here hx rfl (hb hby at_232) rfl (l' := #[.val (.long q1), .second, .val (.int p2), .val (.int (p2 &&& (3 : Int32))), .val (.long hv), .second, .val (.ref bx), .val (.int cc), .val (.int (1 : Int32)), .val (.int (cc / (2 : Int32))), .val (.long ((cc.toInt64) - ((2 : Int64) * ((cc / (2 : Int32)).toInt64)))), .second, .val (.int (1 : Int32)), .val (.long (hv / (16 : Int64))), .second, .val (.int (0 : Int32)), .unset, .unset, .unset, .unset, .unset]) rfl ?_
        show Steps p.tables e below (T6.setTop (mkF m 234 #[.val (.long q1), .second, .val (.int p2), .val (.int (p2 &&& (3 : Int32))), .val (.long hv), .second, .val (.ref bx), .val (.int cc), .val (.int (1 : Int32)), .val (.int (cc / (2 : Int32))), .val (.long ((cc.toInt64) - ((2 : Int64) * ((cc / (2 : Int32)).toInt64)))), .second, .val (.int (1 : Int32)), .val (.long (hv / (16 : Int64))), .second, .val (.int (0 : Int32)), .unset, .unset, .unset, .unset, .unset] [])) _
        refine XS.lload X6.here hx rfl (hb hby at_234) rfl ?_
        show Steps p.tables e below (T6.setTop (mkF m 236 #[.val (.long q1), .second, .val (.int p2), .val (.int (p2 &&& (3 : Int32))), .val (.long hv), .second, .val (.ref bx), .val (.int cc), .val (.int (1 : Int32)), .val (.int (cc / (2 : Int32))), .val (.long ((cc.toInt64) - ((2 : Int64) * ((cc / (2 : Int32)).toInt64)))), .second, .val (.int (1 : Int32)), .val (.long (hv / (16 : Int64))), .second, .val (.int (0 : Int32)), .unset, .unset, .unset, .unset, .unset] [(.long (hv / (16 : Int64)))])) _
        refine XS.lconst X6.here hx rfl (hb hby at_236) ?_
        show Steps p.tables e below (T6.setTop (mkF m 237 #[.val (.long q1), .second, .val (.int p2), .val (.int (p2 &&& (3 : Int32))), .val (.long hv), .second, .val (.ref bx), .val (.int cc), .val (.int (1 : Int32)), .val (.int (cc / (2 : Int32))), .val (.long ((cc.toInt64) - ((2 : Int64) * ((cc / (2 : Int32)).toInt64)))), .second, .val (.int (1 : Int32)), .val (.long (hv / (16 : Int64))), .second, .val (.int (0 : Int32)), .unset, .unset, .unset, .unset, .unset] [(.long (0 : Int64)), (.long (hv / (16 : Int64)))])) _
        refine XS.lcmp X6.here hx rfl (hb hby at_237) rfl ?_
        show Steps p.tables e below (T6.setTop (mkF m 238 #[.val (.long q1), .second, .val (.int p2), .val (.int (p2 &&& (3 : Int32))), .val (.long hv), .second, .val (.ref bx), .val (.int cc), .val (.int (1 : Int32)), .val (.int (cc / (2 : Int32))), .val (.long ((cc.toInt64) - ((2 : Int64) * ((cc / (2 : Int32)).toInt64)))), .second, .val (.int (1 : Int32)), .val (.long (hv / (16 : Int64))), .second, .val (.int (0 : Int32)), .unset, .unset, .unset, .unset, .unset] [(.int (lcmpW (hv / (16 : Int64)) (0 : Int64)))])) _
        have hc238 : ¬ ((lcmpW (hv / (16 : Int64)) (0 : Int64)) < (0 : Int32)) := (own_sh hv hv0).1
        refine XS.ifNo X6.here hx rfl (hb hby at_238) rfl ((if0 _ _).trans (flt hc238).1) ?_
        show Steps p.tables e below (T6.setTop (mkF m 241 #[.val (.long q1), .second, .val (.int p2), .val (.int (p2 &&& (3 : Int32))), .val (.long hv), .second, .val (.ref bx), .val (.int cc), .val (.int (1 : Int32)), .val (.int (cc / (2 : Int32))), .val (.long ((cc.toInt64) - ((2 : Int64) * ((cc / (2 : Int32)).toInt64)))), .second, .val (.int (1 : Int32)), .val (.long (hv / (16 : Int64))), .second, .val (.int (0 : Int32)), .unset, .unset, .unset, .unset, .unset] [])) _
        refine XS.lload X6.here hx rfl (hb hby at_241) rfl ?_
        show Steps p.tables e below (T6.setTop (mkF m 243 #[.val (.long q1), .second, .val (.int p2), .val (.int (p2 &&& (3 : Int32))), .val (.long hv), .second, .val (.ref bx), .val (.int cc), .val (.int (1 : Int32)), .val (.int (cc / (2 : Int32))), .val (.long ((cc.toInt64) - ((2 : Int64) * ((cc / (2 : Int32)).toInt64)))), .second, .val (.int (1 : Int32)), .val (.long (hv / (16 : Int64))), .second, .val (.int (0 : Int32)), .unset, .unset, .unset, .unset, .unset] [(.long (hv / (16 : Int64)))])) _
        refine X6.ldc2Long hx hown (mvT hZ (hw _ (List.mem_of_getElem? (i := 56) rfl))) (g := (mkF m 243 #[.val (.long q1), .second, .val (.int p2), .val (.int (p2 &&& (3 : Int32))), .val (.long hv), .second, .val (.ref bx), .val (.int cc), .val (.int (1 : Int32)), .val (.int (cc / (2 : Int32))), .val (.long ((cc.toInt64) - ((2 : Int64) * ((cc / (2 : Int32)).toInt64)))), .second, .val (.int (1 : Int32)), .val (.long (hv / (16 : Int64))), .second, .val (.int (0 : Int32)), .unset, .unset, .unset, .unset, .unset] [(.long (hv / (16 : Int64)))])) rfl (hb hby at_243) _ ?_
        show Steps p.tables e below (T6.setTop (mkF m 246 #[.val (.long q1), .second, .val (.int p2), .val (.int (p2 &&& (3 : Int32))), .val (.long hv), .second, .val (.ref bx), .val (.int cc), .val (.int (1 : Int32)), .val (.int (cc / (2 : Int32))), .val (.long ((cc.toInt64) - ((2 : Int64) * ((cc / (2 : Int32)).toInt64)))), .second, .val (.int (1 : Int32)), .val (.long (hv / (16 : Int64))), .second, .val (.int (0 : Int32)), .unset, .unset, .unset, .unset, .unset] [(.long (576460752303423487 : Int64)), (.long (hv / (16 : Int64)))])) _
        refine XS.lcmp X6.here hx rfl (hb hby at_246) rfl ?_
        show Steps p.tables e below (T6.setTop (mkF m 247 #[.val (.long q1), .second, .val (.int p2), .val (.int (p2 &&& (3 : Int32))), .val (.long hv), .second, .val (.ref bx), .val (.int cc), .val (.int (1 : Int32)), .val (.int (cc / (2 : Int32))), .val (.long ((cc.toInt64) - ((2 : Int64) * ((cc / (2 : Int32)).toInt64)))), .second, .val (.int (1 : Int32)), .val (.long (hv / (16 : Int64))), .second, .val (.int (0 : Int32)), .unset, .unset, .unset, .unset, .unset] [(.int (lcmpW (hv / (16 : Int64)) (576460752303423487 : Int64)))])) _
        have hc247 : ¬ ((0 : Int32) < (lcmpW (hv / (16 : Int64)) (576460752303423487 : Int64))) := (own_sh hv hv0).2.1
        refine XS.ifNo X6.here hx rfl (hb hby at_247) rfl ((if0 _ _).trans (flt hc247).2.2.1) ?_
        show Steps p.tables e below (T6.setTop (mkF m 250 #[.val (.long q1), .second, .val (.int p2), .val (.int (p2 &&& (3 : Int32))), .val (.long hv), .second, .val (.ref bx), .val (.int cc), .val (.int (1 : Int32)), .val (.int (cc / (2 : Int32))), .val (.long ((cc.toInt64) - ((2 : Int64) * ((cc / (2 : Int32)).toInt64)))), .second, .val (.int (1 : Int32)), .val (.long (hv / (16 : Int64))), .second, .val (.int (0 : Int32)), .unset, .unset, .unset, .unset, .unset] [])) _
        refine XS.lload X6.here hx rfl (hb hby at_250) rfl ?_
        show Steps p.tables e below (T6.setTop (mkF m 252 #[.val (.long q1), .second, .val (.int p2), .val (.int (p2 &&& (3 : Int32))), .val (.long hv), .second, .val (.ref bx), .val (.int cc), .val (.int (1 : Int32)), .val (.int (cc / (2 : Int32))), .val (.long ((cc.toInt64) - ((2 : Int64) * ((cc / (2 : Int32)).toInt64)))), .second, .val (.int (1 : Int32)), .val (.long (hv / (16 : Int64))), .second, .val (.int (0 : Int32)), .unset, .unset, .unset, .unset, .unset] [(.long hv)])) _
        refine X6.ldc2Long hx hown (mvT hZ (hw _ (List.mem_of_getElem? (i := 57) rfl))) (g := (mkF m 252 #[.val (.long q1), .second, .val (.int p2), .val (.int (p2 &&& (3 : Int32))), .val (.long hv), .second, .val (.ref bx), .val (.int cc), .val (.int (1 : Int32)), .val (.int (cc / (2 : Int32))), .val (.long ((cc.toInt64) - ((2 : Int64) * ((cc / (2 : Int32)).toInt64)))), .second, .val (.int (1 : Int32)), .val (.long (hv / (16 : Int64))), .second, .val (.int (0 : Int32)), .unset, .unset, .unset, .unset, .unset] [(.long hv)])) rfl (hb hby at_252) _ ?_
        show Steps p.tables e below (T6.setTop (mkF m 255 #[.val (.long q1), .second, .val (.int p2), .val (.int (p2 &&& (3 : Int32))), .val (.long hv), .second, .val (.ref bx), .val (.int cc), .val (.int (1 : Int32)), .val (.int (cc / (2 : Int32))), .val (.long ((cc.toInt64) - ((2 : Int64) * ((cc / (2 : Int32)).toInt64)))), .second, .val (.int (1 : Int32)), .val (.long (hv / (16 : Int64))), .second, .val (.int (0 : Int32)), .unset, .unset, .unset, .unset, .unset] [(.long (16 : Int64)), (.long hv)])) _
        refine XS.lload X6.here hx rfl (hb hby at_255) rfl ?_
        show Steps p.tables e below (T6.setTop (mkF m 257 #[.val (.long q1), .second, .val (.int p2), .val (.int (p2 &&& (3 : Int32))), .val (.long hv), .second, .val (.ref bx), .val (.int cc), .val (.int (1 : Int32)), .val (.int (cc / (2 : Int32))), .val (.long ((cc.toInt64) - ((2 : Int64) * ((cc / (2 : Int32)).toInt64)))), .second, .val (.int (1 : Int32)), .val (.long (hv / (16 : Int64))), .second, .val (.int (0 : Int32)), .unset, .unset, .unset, .unset, .unset] [(.long (hv / (16 : Int64))), (.long (16 : Int64)), (.long hv)])) _
        refine XS.lmul X6.here hx rfl (hb hby at_257) rfl ?_
        show Steps p.tables e below (T6.setTop (mkF m 258 #[.val (.long q1), .second, .val (.int p2), .val (.int (p2 &&& (3 : Int32))), .val (.long hv), .second, .val (.ref bx), .val (.int cc), .val (.int (1 : Int32)), .val (.int (cc / (2 : Int32))), .val (.long ((cc.toInt64) - ((2 : Int64) * ((cc / (2 : Int32)).toInt64)))), .second, .val (.int (1 : Int32)), .val (.long (hv / (16 : Int64))), .second, .val (.int (0 : Int32)), .unset, .unset, .unset, .unset, .unset] [(.long ((16 : Int64) * (hv / (16 : Int64)))), (.long hv)])) _
        refine XS.lsub X6.here hx rfl (hb hby at_258) rfl ?_
        show Steps p.tables e below (T6.setTop (mkF m 259 #[.val (.long q1), .second, .val (.int p2), .val (.int (p2 &&& (3 : Int32))), .val (.long hv), .second, .val (.ref bx), .val (.int cc), .val (.int (1 : Int32)), .val (.int (cc / (2 : Int32))), .val (.long ((cc.toInt64) - ((2 : Int64) * ((cc / (2 : Int32)).toInt64)))), .second, .val (.int (1 : Int32)), .val (.long (hv / (16 : Int64))), .second, .val (.int (0 : Int32)), .unset, .unset, .unset, .unset, .unset] [(.long (hv - ((16 : Int64) * (hv / (16 : Int64)))))])) _
        refine XS.lstore X6.here hx rfl (hb hby at_259) rfl (l' := #[.val (.long q1), .second, .val (.int p2), .val (.int (p2 &&& (3 : Int32))), .val (.long hv), .second, .val (.ref bx), .val (.int cc), .val (.int (1 : Int32)), .val (.int (cc / (2 : Int32))), .val (.long ((cc.toInt64) - ((2 : Int64) * ((cc / (2 : Int32)).toInt64)))), .second, .val (.int (1 : Int32)), .val (.long (hv / (16 : Int64))), .second, .val (.int (0 : Int32)), .val (.long (hv - ((16 : Int64) * (hv / (16 : Int64))))), .second, .unset, .unset, .unset]) rfl ?_
        show Steps p.tables e below (T6.setTop (mkF m 261 #[.val (.long q1), .second, .val (.int p2), .val (.int (p2 &&& (3 : Int32))), .val (.long hv), .second, .val (.ref bx), .val (.int cc), .val (.int (1 : Int32)), .val (.int (cc / (2 : Int32))), .val (.long ((cc.toInt64) - ((2 : Int64) * ((cc / (2 : Int32)).toInt64)))), .second, .val (.int (1 : Int32)), .val (.long (hv / (16 : Int64))), .second, .val (.int (0 : Int32)), .val (.long (hv - ((16 : Int64) * (hv / (16 : Int64))))), .second, .unset, .unset, .unset] [])) _
        refine XS.lload X6.here hx rfl (hb hby at_261) rfl ?_
        show Steps p.tables e below (T6.setTop (mkF m 263 #[.val (.long q1), .second, .val (.int p2), .val (.int (p2 &&& (3 : Int32))), .val (.long hv), .second, .val (.ref bx), .val (.int cc), .val (.int (1 : Int32)), .val (.int (cc / (2 : Int32))), .val (.long ((cc.toInt64) - ((2 : Int64) * ((cc / (2 : Int32)).toInt64)))), .second, .val (.int (1 : Int32)), .val (.long (hv / (16 : Int64))), .second, .val (.int (0 : Int32)), .val (.long (hv - ((16 : Int64) * (hv / (16 : Int64))))), .second, .unset, .unset, .unset] [(.long (hv - ((16 : Int64) * (hv / (16 : Int64)))))])) _
        refine XS.lconst X6.here hx rfl (hb hby at_263) ?_
        show Steps p.tables e below (T6.setTop (mkF m 264 #[.val (.long q1), .second, .val (.int p2), .val (.int (p2 &&& (3 : Int32))), .val (.long hv), .second, .val (.ref bx), .val (.int cc), .val (.int (1 : Int32)), .val (.int (cc / (2 : Int32))), .val (.long ((cc.toInt64) - ((2 : Int64) * ((cc / (2 : Int32)).toInt64)))), .second, .val (.int (1 : Int32)), .val (.long (hv / (16 : Int64))), .second, .val (.int (0 : Int32)), .val (.long (hv - ((16 : Int64) * (hv / (16 : Int64))))), .second, .unset, .unset, .unset] [(.long (0 : Int64)), (.long (hv - ((16 : Int64) * (hv / (16 : Int64)))))])) _
        refine XS.lcmp X6.here hx rfl (hb hby at_264) rfl ?_
        show Steps p.tables e below (T6.setTop (mkF m 265 #[.val (.long q1), .second, .val (.int p2), .val (.int (p2 &&& (3 : Int32))), .val (.long hv), .second, .val (.ref bx), .val (.int cc), .val (.int (1 : Int32)), .val (.int (cc / (2 : Int32))), .val (.long ((cc.toInt64) - ((2 : Int64) * ((cc / (2 : Int32)).toInt64)))), .second, .val (.int (1 : Int32)), .val (.long (hv / (16 : Int64))), .second, .val (.int (0 : Int32)), .val (.long (hv - ((16 : Int64) * (hv / (16 : Int64))))), .second, .unset, .unset, .unset] [(.int (lcmpW (hv - ((16 : Int64) * (hv / (16 : Int64)))) (0 : Int64)))])) _
        have hc265 : ¬ ((lcmpW (hv - ((16 : Int64) * (hv / (16 : Int64)))) (0 : Int64)) < (0 : Int32)) := (own_sh hv hv0).2.2.1
        refine XS.ifNo X6.here hx rfl (hb hby at_265) rfl ((if0 _ _).trans (flt hc265).1) ?_
        show Steps p.tables e below (T6.setTop (mkF m 268 #[.val (.long q1), .second, .val (.int p2), .val (.int (p2 &&& (3 : Int32))), .val (.long hv), .second, .val (.ref bx), .val (.int cc), .val (.int (1 : Int32)), .val (.int (cc / (2 : Int32))), .val (.long ((cc.toInt64) - ((2 : Int64) * ((cc / (2 : Int32)).toInt64)))), .second, .val (.int (1 : Int32)), .val (.long (hv / (16 : Int64))), .second, .val (.int (0 : Int32)), .val (.long (hv - ((16 : Int64) * (hv / (16 : Int64))))), .second, .unset, .unset, .unset] [])) _
        refine XS.lload X6.here hx rfl (hb hby at_268) rfl ?_
        show Steps p.tables e below (T6.setTop (mkF m 270 #[.val (.long q1), .second, .val (.int p2), .val (.int (p2 &&& (3 : Int32))), .val (.long hv), .second, .val (.ref bx), .val (.int cc), .val (.int (1 : Int32)), .val (.int (cc / (2 : Int32))), .val (.long ((cc.toInt64) - ((2 : Int64) * ((cc / (2 : Int32)).toInt64)))), .second, .val (.int (1 : Int32)), .val (.long (hv / (16 : Int64))), .second, .val (.int (0 : Int32)), .val (.long (hv - ((16 : Int64) * (hv / (16 : Int64))))), .second, .unset, .unset, .unset] [(.long (hv - ((16 : Int64) * (hv / (16 : Int64)))))])) _
        refine X6.ldc2Long hx hown (mvT hZ (hw _ (List.mem_of_getElem? (i := 57) rfl))) (g := (mkF m 270 #[.val (.long q1), .second, .val (.int p2), .val (.int (p2 &&& (3 : Int32))), .val (.long hv), .second, .val (.ref bx), .val (.int cc), .val (.int (1 : Int32)), .val (.int (cc / (2 : Int32))), .val (.long ((cc.toInt64) - ((2 : Int64) * ((cc / (2 : Int32)).toInt64)))), .second, .val (.int (1 : Int32)), .val (.long (hv / (16 : Int64))), .second, .val (.int (0 : Int32)), .val (.long (hv - ((16 : Int64) * (hv / (16 : Int64))))), .second, .unset, .unset, .unset] [(.long (hv - ((16 : Int64) * (hv / (16 : Int64)))))])) rfl (hb hby at_270) _ ?_
        show Steps p.tables e below (T6.setTop (mkF m 273 #[.val (.long q1), .second, .val (.int p2), .val (.int (p2 &&& (3 : Int32))), .val (.long hv), .second, .val (.ref bx), .val (.int cc), .val (.int (1 : Int32)), .val (.int (cc / (2 : Int32))), .val (.long ((cc.toInt64) - ((2 : Int64) * ((cc / (2 : Int32)).toInt64)))), .second, .val (.int (1 : Int32)), .val (.long (hv / (16 : Int64))), .second, .val (.int (0 : Int32)), .val (.long (hv - ((16 : Int64) * (hv / (16 : Int64))))), .second, .unset, .unset, .unset] [(.long (16 : Int64)), (.long (hv - ((16 : Int64) * (hv / (16 : Int64)))))])) _
        refine XS.lcmp X6.here hx rfl (hb hby at_273) rfl ?_
        show Steps p.tables e below (T6.setTop (mkF m 274 #[.val (.long q1), .second, .val (.int p2), .val (.int (p2 &&& (3 : Int32))), .val (.long hv), .second, .val (.ref bx), .val (.int cc), .val (.int (1 : Int32)), .val (.int (cc / (2 : Int32))), .val (.long ((cc.toInt64) - ((2 : Int64) * ((cc / (2 : Int32)).toInt64)))), .second, .val (.int (1 : Int32)), .val (.long (hv / (16 : Int64))), .second, .val (.int (0 : Int32)), .val (.long (hv - ((16 : Int64) * (hv / (16 : Int64))))), .second, .unset, .unset, .unset] [(.int (lcmpW (hv - ((16 : Int64) * (hv / (16 : Int64)))) (16 : Int64)))])) _
        have hc274 : (lcmpW (hv - ((16 : Int64) * (hv / (16 : Int64)))) (16 : Int64)) < (0 : Int32) := (own_sh hv hv0).2.2.2
        refine XS.ifNo X6.here hx rfl (hb hby at_274) rfl ((if0 _ _).trans (tlt hc274).2.1) ?_
        show Steps p.tables e below (T6.setTop (mkF m 277 #[.val (.long q1), .second, .val (.int p2), .val (.int (p2 &&& (3 : Int32))), .val (.long hv), .second, .val (.ref bx), .val (.int cc), .val (.int (1 : Int32)), .val (.int (cc / (2 : Int32))), .val (.long ((cc.toInt64) - ((2 : Int64) * ((cc / (2 : Int32)).toInt64)))), .second, .val (.int (1 : Int32)), .val (.long (hv / (16 : Int64))), .second, .val (.int (0 : Int32)), .val (.long (hv - ((16 : Int64) * (hv / (16 : Int64))))), .second, .unset, .unset, .unset] [])) _
        refine XS.iconst X6.here hx rfl (hb hby at_277) ?_
        show Steps p.tables e below (T6.setTop (mkF m 278 #[.val (.long q1), .second, .val (.int p2), .val (.int (p2 &&& (3 : Int32))), .val (.long hv), .second, .val (.ref bx), .val (.int cc), .val (.int (1 : Int32)), .val (.int (cc / (2 : Int32))), .val (.long ((cc.toInt64) - ((2 : Int64) * ((cc / (2 : Int32)).toInt64)))), .second, .val (.int (1 : Int32)), .val (.long (hv / (16 : Int64))), .second, .val (.int (0 : Int32)), .val (.long (hv - ((16 : Int64) * (hv / (16 : Int64))))), .second, .unset, .unset, .unset] [(.int (1 : Int32))])) _
        refine XS.goto X6.here hx rfl (pc0 := 278) (pc' := 282) rfl (hb hby at_278) (by decide) (by decide) ?_
        show Steps p.tables e below (T6.setTop (mkF m 282 #[.val (.long q1), .second, .val (.int p2), .val (.int (p2 &&& (3 : Int32))), .val (.long hv), .second, .val (.ref bx), .val (.int cc), .val (.int (1 : Int32)), .val (.int (cc / (2 : Int32))), .val (.long ((cc.toInt64) - ((2 : Int64) * ((cc / (2 : Int32)).toInt64)))), .second, .val (.int (1 : Int32)), .val (.long (hv / (16 : Int64))), .second, .val (.int (0 : Int32)), .val (.long (hv - ((16 : Int64) * (hv / (16 : Int64))))), .second, .unset, .unset, .unset] [(.int (1 : Int32))])) _
        refine XS.istore X6.here hx rfl (hb hby at_282) rfl (l' := #[.val (.long q1), .second, .val (.int p2), .val (.int (p2 &&& (3 : Int32))), .val (.long hv), .second, .val (.ref bx), .val (.int cc), .val (.int (1 : Int32)), .val (.int (cc / (2 : Int32))), .val (.long ((cc.toInt64) - ((2 : Int64) * ((cc / (2 : Int32)).toInt64)))), .second, .val (.int (1 : Int32)), .val (.long (hv / (16 : Int64))), .second, .val (.int (1 : Int32)), .val (.long (hv - ((16 : Int64) * (hv / (16 : Int64))))), .second, .unset, .unset, .unset]) rfl ?_
        show Steps p.tables e below (T6.setTop (mkF m 284 #[.val (.long q1), .second, .val (.int p2), .val (.int (p2 &&& (3 : Int32))), .val (.long hv), .second, .val (.ref bx), .val (.int cc), .val (.int (1 : Int32)), .val (.int (cc / (2 : Int32))), .val (.long ((cc.toInt64) - ((2 : Int64) * ((cc / (2 : Int32)).toInt64)))), .second, .val (.int (1 : Int32)), .val (.long (hv / (16 : Int64))), .second, .val (.int (1 : Int32)), .val (.long (hv - ((16 : Int64) * (hv / (16 : Int64))))), .second, .unset, .unset, .unset] [])) _
        refine XS.aload X6.here hx rfl (hb hby at_284) rfl rfl ?_
        show Steps p.tables e below (T6.setTop (mkF m 286 #[.val (.long q1), .second, .val (.int p2), .val (.int (p2 &&& (3 : Int32))), .val (.long hv), .second, .val (.ref bx), .val (.int cc), .val (.int (1 : Int32)), .val (.int (cc / (2 : Int32))), .val (.long ((cc.toInt64) - ((2 : Int64) * ((cc / (2 : Int32)).toInt64)))), .second, .val (.int (1 : Int32)), .val (.long (hv / (16 : Int64))), .second, .val (.int (1 : Int32)), .val (.long (hv - ((16 : Int64) * (hv / (16 : Int64))))), .second, .unset, .unset, .unset] [(.ref bx)])) _
        refine st7.trans ?_
        show Steps p.tables e below (T7.setTop (mkF m 289 #[.val (.long q1), .second, .val (.int p2), .val (.int (p2 &&& (3 : Int32))), .val (.long hv), .second, .val (.ref bx), .val (.int cc), .val (.int (1 : Int32)), .val (.int (cc / (2 : Int32))), .val (.long ((cc.toInt64) - ((2 : Int64) * ((cc / (2 : Int32)).toInt64)))), .second, .val (.int (1 : Int32)), .val (.long (hv / (16 : Int64))), .second, .val (.int (1 : Int32)), .val (.long (hv - ((16 : Int64) * (hv / (16 : Int64))))), .second, .unset, .unset, .unset] [(.long (hv / (64 : Int64)))])) _
        refine XS.lstore X7.here hx rfl (hb hby at_289) rfl (l' := #[.val (.long q1), .second, .val (.int p2), .val (.int (p2 &&& (3 : Int32))), .val (.long hv), .second, .val (.ref bx), .val (.int cc), .val (.int (1 : Int32)), .val (.int (cc / (2 : Int32))), .val (.long ((cc.toInt64) - ((2 : Int64) * ((cc / (2 : Int32)).toInt64)))), .second, .val (.int (1 : Int32)), .val (.long (hv / (16 : Int64))), .second, .val (.int (1 : Int32)), .val (.long (hv / (64 : Int64))), .second, .unset, .unset, .unset]) rfl ?_
        show Steps p.tables e below (T7.setTop (mkF m 291 #[.val (.long q1), .second, .val (.int p2), .val (.int (p2 &&& (3 : Int32))), .val (.long hv), .second, .val (.ref bx), .val (.int cc), .val (.int (1 : Int32)), .val (.int (cc / (2 : Int32))), .val (.long ((cc.toInt64) - ((2 : Int64) * ((cc / (2 : Int32)).toInt64)))), .second, .val (.int (1 : Int32)), .val (.long (hv / (16 : Int64))), .second, .val (.int (1 : Int32)), .val (.long (hv / (64 : Int64))), .second, .unset, .unset, .unset] [])) _
        refine XS.iconst X7.here hx rfl (hb hby at_291) ?_
        show Steps p.tables e below (T7.setTop (mkF m 292 #[.val (.long q1), .second, .val (.int p2), .val (.int (p2 &&& (3 : Int32))), .val (.long hv), .second, .val (.ref bx), .val (.int cc), .val (.int (1 : Int32)), .val (.int (cc / (2 : Int32))), .val (.long ((cc.toInt64) - ((2 : Int64) * ((cc / (2 : Int32)).toInt64)))), .second, .val (.int (1 : Int32)), .val (.long (hv / (16 : Int64))), .second, .val (.int (1 : Int32)), .val (.long (hv / (64 : Int64))), .second, .unset, .unset, .unset] [(.int (0 : Int32))])) _
        refine XS.istore X7.here hx rfl (hb hby at_292) rfl (l' := #[.val (.long q1), .second, .val (.int p2), .val (.int (p2 &&& (3 : Int32))), .val (.long hv), .second, .val (.ref bx), .val (.int cc), .val (.int (1 : Int32)), .val (.int (cc / (2 : Int32))), .val (.long ((cc.toInt64) - ((2 : Int64) * ((cc / (2 : Int32)).toInt64)))), .second, .val (.int (1 : Int32)), .val (.long (hv / (16 : Int64))), .second, .val (.int (1 : Int32)), .val (.long (hv / (64 : Int64))), .second, .val (.int (0 : Int32)), .unset, .unset]) rfl ?_
        show Steps p.tables e below (T7.setTop (mkF m 294 #[.val (.long q1), .second, .val (.int p2), .val (.int (p2 &&& (3 : Int32))), .val (.long hv), .second, .val (.ref bx), .val (.int cc), .val (.int (1 : Int32)), .val (.int (cc / (2 : Int32))), .val (.long ((cc.toInt64) - ((2 : Int64) * ((cc / (2 : Int32)).toInt64)))), .second, .val (.int (1 : Int32)), .val (.long (hv / (16 : Int64))), .second, .val (.int (1 : Int32)), .val (.long (hv / (64 : Int64))), .second, .val (.int (0 : Int32)), .unset, .unset] [])) _
        refine XS.lload X7.here hx rfl (hb hby at_294) rfl ?_
        show Steps p.tables e below (T7.setTop (mkF m 296 #[.val (.long q1), .second, .val (.int p2), .val (.int (p2 &&& (3 : Int32))), .val (.long hv), .second, .val (.ref bx), .val (.int cc), .val (.int (1 : Int32)), .val (.int (cc / (2 : Int32))), .val (.long ((cc.toInt64) - ((2 : Int64) * ((cc / (2 : Int32)).toInt64)))), .second, .val (.int (1 : Int32)), .val (.long (hv / (16 : Int64))), .second, .val (.int (1 : Int32)), .val (.long (hv / (64 : Int64))), .second, .val (.int (0 : Int32)), .unset, .unset] [(.long (hv / (64 : Int64)))])) _
        refine XS.lconst X7.here hx rfl (hb hby at_296) ?_
        show Steps p.tables e below (T7.setTop (mkF m 297 #[.val (.long q1), .second, .val (.int p2), .val (.int (p2 &&& (3 : Int32))), .val (.long hv), .second, .val (.ref bx), .val (.int cc), .val (.int (1 : Int32)), .val (.int (cc / (2 : Int32))), .val (.long ((cc.toInt64) - ((2 : Int64) * ((cc / (2 : Int32)).toInt64)))), .second, .val (.int (1 : Int32)), .val (.long (hv / (16 : Int64))), .second, .val (.int (1 : Int32)), .val (.long (hv / (64 : Int64))), .second, .val (.int (0 : Int32)), .unset, .unset] [(.long (0 : Int64)), (.long (hv / (64 : Int64)))])) _
        refine XS.lcmp X7.here hx rfl (hb hby at_297) rfl ?_
        show Steps p.tables e below (T7.setTop (mkF m 298 #[.val (.long q1), .second, .val (.int p2), .val (.int (p2 &&& (3 : Int32))), .val (.long hv), .second, .val (.ref bx), .val (.int cc), .val (.int (1 : Int32)), .val (.int (cc / (2 : Int32))), .val (.long ((cc.toInt64) - ((2 : Int64) * ((cc / (2 : Int32)).toInt64)))), .second, .val (.int (1 : Int32)), .val (.long (hv / (16 : Int64))), .second, .val (.int (1 : Int32)), .val (.long (hv / (64 : Int64))), .second, .val (.int (0 : Int32)), .unset, .unset] [(.int (lcmpW (hv / (64 : Int64)) (0 : Int64)))])) _
        have hc298 : ¬ ((lcmpW (hv / (64 : Int64)) (0 : Int64)) < (0 : Int32)) := (own_ad hv hv0).1
        refine XS.ifNo X7.here hx rfl (hb hby at_298) rfl ((if0 _ _).trans (flt hc298).1) ?_
        show Steps p.tables e below (T7.setTop (mkF m 301 #[.val (.long q1), .second, .val (.int p2), .val (.int (p2 &&& (3 : Int32))), .val (.long hv), .second, .val (.ref bx), .val (.int cc), .val (.int (1 : Int32)), .val (.int (cc / (2 : Int32))), .val (.long ((cc.toInt64) - ((2 : Int64) * ((cc / (2 : Int32)).toInt64)))), .second, .val (.int (1 : Int32)), .val (.long (hv / (16 : Int64))), .second, .val (.int (1 : Int32)), .val (.long (hv / (64 : Int64))), .second, .val (.int (0 : Int32)), .unset, .unset] [])) _
        refine XS.lload X7.here hx rfl (hb hby at_301) rfl ?_
        show Steps p.tables e below (T7.setTop (mkF m 303 #[.val (.long q1), .second, .val (.int p2), .val (.int (p2 &&& (3 : Int32))), .val (.long hv), .second, .val (.ref bx), .val (.int cc), .val (.int (1 : Int32)), .val (.int (cc / (2 : Int32))), .val (.long ((cc.toInt64) - ((2 : Int64) * ((cc / (2 : Int32)).toInt64)))), .second, .val (.int (1 : Int32)), .val (.long (hv / (16 : Int64))), .second, .val (.int (1 : Int32)), .val (.long (hv / (64 : Int64))), .second, .val (.int (0 : Int32)), .unset, .unset] [(.long (hv / (64 : Int64)))])) _
        refine X7.ldc2Long hx hown (mvT hZ (hw _ (List.mem_of_getElem? (i := 63) rfl))) (g := (mkF m 303 #[.val (.long q1), .second, .val (.int p2), .val (.int (p2 &&& (3 : Int32))), .val (.long hv), .second, .val (.ref bx), .val (.int cc), .val (.int (1 : Int32)), .val (.int (cc / (2 : Int32))), .val (.long ((cc.toInt64) - ((2 : Int64) * ((cc / (2 : Int32)).toInt64)))), .second, .val (.int (1 : Int32)), .val (.long (hv / (16 : Int64))), .second, .val (.int (1 : Int32)), .val (.long (hv / (64 : Int64))), .second, .val (.int (0 : Int32)), .unset, .unset] [(.long (hv / (64 : Int64)))])) rfl (hb hby at_303) _ ?_
        show Steps p.tables e below (T7.setTop (mkF m 306 #[.val (.long q1), .second, .val (.int p2), .val (.int (p2 &&& (3 : Int32))), .val (.long hv), .second, .val (.ref bx), .val (.int cc), .val (.int (1 : Int32)), .val (.int (cc / (2 : Int32))), .val (.long ((cc.toInt64) - ((2 : Int64) * ((cc / (2 : Int32)).toInt64)))), .second, .val (.int (1 : Int32)), .val (.long (hv / (16 : Int64))), .second, .val (.int (1 : Int32)), .val (.long (hv / (64 : Int64))), .second, .val (.int (0 : Int32)), .unset, .unset] [(.long (144115188075855871 : Int64)), (.long (hv / (64 : Int64)))])) _
        refine XS.lcmp X7.here hx rfl (hb hby at_306) rfl ?_
        show Steps p.tables e below (T7.setTop (mkF m 307 #[.val (.long q1), .second, .val (.int p2), .val (.int (p2 &&& (3 : Int32))), .val (.long hv), .second, .val (.ref bx), .val (.int cc), .val (.int (1 : Int32)), .val (.int (cc / (2 : Int32))), .val (.long ((cc.toInt64) - ((2 : Int64) * ((cc / (2 : Int32)).toInt64)))), .second, .val (.int (1 : Int32)), .val (.long (hv / (16 : Int64))), .second, .val (.int (1 : Int32)), .val (.long (hv / (64 : Int64))), .second, .val (.int (0 : Int32)), .unset, .unset] [(.int (lcmpW (hv / (64 : Int64)) (144115188075855871 : Int64)))])) _
        have hc307 : ¬ ((0 : Int32) < (lcmpW (hv / (64 : Int64)) (144115188075855871 : Int64))) := (own_ad hv hv0).2.1
        refine XS.ifNo X7.here hx rfl (hb hby at_307) rfl ((if0 _ _).trans (flt hc307).2.2.1) ?_
        show Steps p.tables e below (T7.setTop (mkF m 310 #[.val (.long q1), .second, .val (.int p2), .val (.int (p2 &&& (3 : Int32))), .val (.long hv), .second, .val (.ref bx), .val (.int cc), .val (.int (1 : Int32)), .val (.int (cc / (2 : Int32))), .val (.long ((cc.toInt64) - ((2 : Int64) * ((cc / (2 : Int32)).toInt64)))), .second, .val (.int (1 : Int32)), .val (.long (hv / (16 : Int64))), .second, .val (.int (1 : Int32)), .val (.long (hv / (64 : Int64))), .second, .val (.int (0 : Int32)), .unset, .unset] [])) _
        refine XS.lload X7.here hx rfl (hb hby at_310) rfl ?_
        show Steps p.tables e below (T7.setTop (mkF m 312 #[.val (.long q1), .second, .val (.int p2), .val (.int (p2 &&& (3 : Int32))), .val (.long hv), .second, .val (.ref bx), .val (.int cc), .val (.int (1 : Int32)), .val (.int (cc / (2 : Int32))), .val (.long ((cc.toInt64) - ((2 : Int64) * ((cc / (2 : Int32)).toInt64)))), .second, .val (.int (1 : Int32)), .val (.long (hv / (16 : Int64))), .second, .val (.int (1 : Int32)), .val (.long (hv / (64 : Int64))), .second, .val (.int (0 : Int32)), .unset, .unset] [(.long hv)])) _
        refine X7.ldc2Long hx hown (mvT hZ (hw _ (List.mem_of_getElem? (i := 64) rfl))) (g := (mkF m 312 #[.val (.long q1), .second, .val (.int p2), .val (.int (p2 &&& (3 : Int32))), .val (.long hv), .second, .val (.ref bx), .val (.int cc), .val (.int (1 : Int32)), .val (.int (cc / (2 : Int32))), .val (.long ((cc.toInt64) - ((2 : Int64) * ((cc / (2 : Int32)).toInt64)))), .second, .val (.int (1 : Int32)), .val (.long (hv / (16 : Int64))), .second, .val (.int (1 : Int32)), .val (.long (hv / (64 : Int64))), .second, .val (.int (0 : Int32)), .unset, .unset] [(.long hv)])) rfl (hb hby at_312) _ ?_
        show Steps p.tables e below (T7.setTop (mkF m 315 #[.val (.long q1), .second, .val (.int p2), .val (.int (p2 &&& (3 : Int32))), .val (.long hv), .second, .val (.ref bx), .val (.int cc), .val (.int (1 : Int32)), .val (.int (cc / (2 : Int32))), .val (.long ((cc.toInt64) - ((2 : Int64) * ((cc / (2 : Int32)).toInt64)))), .second, .val (.int (1 : Int32)), .val (.long (hv / (16 : Int64))), .second, .val (.int (1 : Int32)), .val (.long (hv / (64 : Int64))), .second, .val (.int (0 : Int32)), .unset, .unset] [(.long (64 : Int64)), (.long hv)])) _
        refine XS.lload X7.here hx rfl (hb hby at_315) rfl ?_
        show Steps p.tables e below (T7.setTop (mkF m 317 #[.val (.long q1), .second, .val (.int p2), .val (.int (p2 &&& (3 : Int32))), .val (.long hv), .second, .val (.ref bx), .val (.int cc), .val (.int (1 : Int32)), .val (.int (cc / (2 : Int32))), .val (.long ((cc.toInt64) - ((2 : Int64) * ((cc / (2 : Int32)).toInt64)))), .second, .val (.int (1 : Int32)), .val (.long (hv / (16 : Int64))), .second, .val (.int (1 : Int32)), .val (.long (hv / (64 : Int64))), .second, .val (.int (0 : Int32)), .unset, .unset] [(.long (hv / (64 : Int64))), (.long (64 : Int64)), (.long hv)])) _
        refine XS.lmul X7.here hx rfl (hb hby at_317) rfl ?_
        show Steps p.tables e below (T7.setTop (mkF m 318 #[.val (.long q1), .second, .val (.int p2), .val (.int (p2 &&& (3 : Int32))), .val (.long hv), .second, .val (.ref bx), .val (.int cc), .val (.int (1 : Int32)), .val (.int (cc / (2 : Int32))), .val (.long ((cc.toInt64) - ((2 : Int64) * ((cc / (2 : Int32)).toInt64)))), .second, .val (.int (1 : Int32)), .val (.long (hv / (16 : Int64))), .second, .val (.int (1 : Int32)), .val (.long (hv / (64 : Int64))), .second, .val (.int (0 : Int32)), .unset, .unset] [(.long ((64 : Int64) * (hv / (64 : Int64)))), (.long hv)])) _
        refine XS.lsub X7.here hx rfl (hb hby at_318) rfl ?_
        show Steps p.tables e below (T7.setTop (mkF m 319 #[.val (.long q1), .second, .val (.int p2), .val (.int (p2 &&& (3 : Int32))), .val (.long hv), .second, .val (.ref bx), .val (.int cc), .val (.int (1 : Int32)), .val (.int (cc / (2 : Int32))), .val (.long ((cc.toInt64) - ((2 : Int64) * ((cc / (2 : Int32)).toInt64)))), .second, .val (.int (1 : Int32)), .val (.long (hv / (16 : Int64))), .second, .val (.int (1 : Int32)), .val (.long (hv / (64 : Int64))), .second, .val (.int (0 : Int32)), .unset, .unset] [(.long (hv - ((64 : Int64) * (hv / (64 : Int64)))))])) _
        refine XS.lstore X7.here hx rfl (hb hby at_319) rfl (l' := #[.val (.long q1), .second, .val (.int p2), .val (.int (p2 &&& (3 : Int32))), .val (.long hv), .second, .val (.ref bx), .val (.int cc), .val (.int (1 : Int32)), .val (.int (cc / (2 : Int32))), .val (.long ((cc.toInt64) - ((2 : Int64) * ((cc / (2 : Int32)).toInt64)))), .second, .val (.int (1 : Int32)), .val (.long (hv / (16 : Int64))), .second, .val (.int (1 : Int32)), .val (.long (hv / (64 : Int64))), .second, .val (.int (0 : Int32)), .val (.long (hv - ((64 : Int64) * (hv / (64 : Int64))))), .second]) rfl ?_
        show Steps p.tables e below (T7.setTop (mkF m 321 #[.val (.long q1), .second, .val (.int p2), .val (.int (p2 &&& (3 : Int32))), .val (.long hv), .second, .val (.ref bx), .val (.int cc), .val (.int (1 : Int32)), .val (.int (cc / (2 : Int32))), .val (.long ((cc.toInt64) - ((2 : Int64) * ((cc / (2 : Int32)).toInt64)))), .second, .val (.int (1 : Int32)), .val (.long (hv / (16 : Int64))), .second, .val (.int (1 : Int32)), .val (.long (hv / (64 : Int64))), .second, .val (.int (0 : Int32)), .val (.long (hv - ((64 : Int64) * (hv / (64 : Int64))))), .second] [])) _
        refine XS.lload X7.here hx rfl (hb hby at_321) rfl ?_
        show Steps p.tables e below (T7.setTop (mkF m 323 #[.val (.long q1), .second, .val (.int p2), .val (.int (p2 &&& (3 : Int32))), .val (.long hv), .second, .val (.ref bx), .val (.int cc), .val (.int (1 : Int32)), .val (.int (cc / (2 : Int32))), .val (.long ((cc.toInt64) - ((2 : Int64) * ((cc / (2 : Int32)).toInt64)))), .second, .val (.int (1 : Int32)), .val (.long (hv / (16 : Int64))), .second, .val (.int (1 : Int32)), .val (.long (hv / (64 : Int64))), .second, .val (.int (0 : Int32)), .val (.long (hv - ((64 : Int64) * (hv / (64 : Int64))))), .second] [(.long (hv - ((64 : Int64) * (hv / (64 : Int64)))))])) _
        refine XS.lconst X7.here hx rfl (hb hby at_323) ?_
        show Steps p.tables e below (T7.setTop (mkF m 324 #[.val (.long q1), .second, .val (.int p2), .val (.int (p2 &&& (3 : Int32))), .val (.long hv), .second, .val (.ref bx), .val (.int cc), .val (.int (1 : Int32)), .val (.int (cc / (2 : Int32))), .val (.long ((cc.toInt64) - ((2 : Int64) * ((cc / (2 : Int32)).toInt64)))), .second, .val (.int (1 : Int32)), .val (.long (hv / (16 : Int64))), .second, .val (.int (1 : Int32)), .val (.long (hv / (64 : Int64))), .second, .val (.int (0 : Int32)), .val (.long (hv - ((64 : Int64) * (hv / (64 : Int64))))), .second] [(.long (0 : Int64)), (.long (hv - ((64 : Int64) * (hv / (64 : Int64)))))])) _
        refine XS.lcmp X7.here hx rfl (hb hby at_324) rfl ?_
        show Steps p.tables e below (T7.setTop (mkF m 325 #[.val (.long q1), .second, .val (.int p2), .val (.int (p2 &&& (3 : Int32))), .val (.long hv), .second, .val (.ref bx), .val (.int cc), .val (.int (1 : Int32)), .val (.int (cc / (2 : Int32))), .val (.long ((cc.toInt64) - ((2 : Int64) * ((cc / (2 : Int32)).toInt64)))), .second, .val (.int (1 : Int32)), .val (.long (hv / (16 : Int64))), .second, .val (.int (1 : Int32)), .val (.long (hv / (64 : Int64))), .second, .val (.int (0 : Int32)), .val (.long (hv - ((64 : Int64) * (hv / (64 : Int64))))), .second] [(.int (lcmpW (hv - ((64 : Int64) * (hv / (64 : Int64)))) (0 : Int64)))])) _
        have hc325 : ¬ ((lcmpW (hv - ((64 : Int64) * (hv / (64 : Int64)))) (0 : Int64)) < (0 : Int32)) := (own_ad hv hv0).2.2.1
        refine XS.ifNo X7.here hx rfl (hb hby at_325) rfl ((if0 _ _).trans (flt hc325).1) ?_
        show Steps p.tables e below (T7.setTop (mkF m 328 #[.val (.long q1), .second, .val (.int p2), .val (.int (p2 &&& (3 : Int32))), .val (.long hv), .second, .val (.ref bx), .val (.int cc), .val (.int (1 : Int32)), .val (.int (cc / (2 : Int32))), .val (.long ((cc.toInt64) - ((2 : Int64) * ((cc / (2 : Int32)).toInt64)))), .second, .val (.int (1 : Int32)), .val (.long (hv / (16 : Int64))), .second, .val (.int (1 : Int32)), .val (.long (hv / (64 : Int64))), .second, .val (.int (0 : Int32)), .val (.long (hv - ((64 : Int64) * (hv / (64 : Int64))))), .second] [])) _
        refine XS.lload X7.here hx rfl (hb hby at_328) rfl ?_
        show Steps p.tables e below (T7.setTop (mkF m 330 #[.val (.long q1), .second, .val (.int p2), .val (.int (p2 &&& (3 : Int32))), .val (.long hv), .second, .val (.ref bx), .val (.int cc), .val (.int (1 : Int32)), .val (.int (cc / (2 : Int32))), .val (.long ((cc.toInt64) - ((2 : Int64) * ((cc / (2 : Int32)).toInt64)))), .second, .val (.int (1 : Int32)), .val (.long (hv / (16 : Int64))), .second, .val (.int (1 : Int32)), .val (.long (hv / (64 : Int64))), .second, .val (.int (0 : Int32)), .val (.long (hv - ((64 : Int64) * (hv / (64 : Int64))))), .second] [(.long (hv - ((64 : Int64) * (hv / (64 : Int64)))))])) _
        refine X7.ldc2Long hx hown (mvT hZ (hw _ (List.mem_of_getElem? (i := 64) rfl))) (g := (mkF m 330 #[.val (.long q1), .second, .val (.int p2), .val (.int (p2 &&& (3 : Int32))), .val (.long hv), .second, .val (.ref bx), .val (.int cc), .val (.int (1 : Int32)), .val (.int (cc / (2 : Int32))), .val (.long ((cc.toInt64) - ((2 : Int64) * ((cc / (2 : Int32)).toInt64)))), .second, .val (.int (1 : Int32)), .val (.long (hv / (16 : Int64))), .second, .val (.int (1 : Int32)), .val (.long (hv / (64 : Int64))), .second, .val (.int (0 : Int32)), .val (.long (hv - ((64 : Int64) * (hv / (64 : Int64))))), .second] [(.long (hv - ((64 : Int64) * (hv / (64 : Int64)))))])) rfl (hb hby at_330) _ ?_
        show Steps p.tables e below (T7.setTop (mkF m 333 #[.val (.long q1), .second, .val (.int p2), .val (.int (p2 &&& (3 : Int32))), .val (.long hv), .second, .val (.ref bx), .val (.int cc), .val (.int (1 : Int32)), .val (.int (cc / (2 : Int32))), .val (.long ((cc.toInt64) - ((2 : Int64) * ((cc / (2 : Int32)).toInt64)))), .second, .val (.int (1 : Int32)), .val (.long (hv / (16 : Int64))), .second, .val (.int (1 : Int32)), .val (.long (hv / (64 : Int64))), .second, .val (.int (0 : Int32)), .val (.long (hv - ((64 : Int64) * (hv / (64 : Int64))))), .second] [(.long (64 : Int64)), (.long (hv - ((64 : Int64) * (hv / (64 : Int64)))))])) _
        refine XS.lcmp X7.here hx rfl (hb hby at_333) rfl ?_
        show Steps p.tables e below (T7.setTop (mkF m 334 #[.val (.long q1), .second, .val (.int p2), .val (.int (p2 &&& (3 : Int32))), .val (.long hv), .second, .val (.ref bx), .val (.int cc), .val (.int (1 : Int32)), .val (.int (cc / (2 : Int32))), .val (.long ((cc.toInt64) - ((2 : Int64) * ((cc / (2 : Int32)).toInt64)))), .second, .val (.int (1 : Int32)), .val (.long (hv / (16 : Int64))), .second, .val (.int (1 : Int32)), .val (.long (hv / (64 : Int64))), .second, .val (.int (0 : Int32)), .val (.long (hv - ((64 : Int64) * (hv / (64 : Int64))))), .second] [(.int (lcmpW (hv - ((64 : Int64) * (hv / (64 : Int64)))) (64 : Int64)))])) _
        have hc334 : (lcmpW (hv - ((64 : Int64) * (hv / (64 : Int64)))) (64 : Int64)) < (0 : Int32) := (own_ad hv hv0).2.2.2
        refine XS.ifNo X7.here hx rfl (hb hby at_334) rfl ((if0 _ _).trans (tlt hc334).2.1) ?_
        show Steps p.tables e below (T7.setTop (mkF m 337 #[.val (.long q1), .second, .val (.int p2), .val (.int (p2 &&& (3 : Int32))), .val (.long hv), .second, .val (.ref bx), .val (.int cc), .val (.int (1 : Int32)), .val (.int (cc / (2 : Int32))), .val (.long ((cc.toInt64) - ((2 : Int64) * ((cc / (2 : Int32)).toInt64)))), .second, .val (.int (1 : Int32)), .val (.long (hv / (16 : Int64))), .second, .val (.int (1 : Int32)), .val (.long (hv / (64 : Int64))), .second, .val (.int (0 : Int32)), .val (.long (hv - ((64 : Int64) * (hv / (64 : Int64))))), .second] [])) _
        refine XS.iconst X7.here hx rfl (hb hby at_337) ?_
        show Steps p.tables e below (T7.setTop (mkF m 338 #[.val (.long q1), .second, .val (.int p2), .val (.int (p2 &&& (3 : Int32))), .val (.long hv), .second, .val (.ref bx), .val (.int cc), .val (.int (1 : Int32)), .val (.int (cc / (2 : Int32))), .val (.long ((cc.toInt64) - ((2 : Int64) * ((cc / (2 : Int32)).toInt64)))), .second, .val (.int (1 : Int32)), .val (.long (hv / (16 : Int64))), .second, .val (.int (1 : Int32)), .val (.long (hv / (64 : Int64))), .second, .val (.int (0 : Int32)), .val (.long (hv - ((64 : Int64) * (hv / (64 : Int64))))), .second] [(.int (1 : Int32))])) _
        refine XS.goto X7.here hx rfl (pc0 := 338) (pc' := 342) rfl (hb hby at_338) (by decide) (by decide) ?_
        show Steps p.tables e below (T7.setTop (mkF m 342 #[.val (.long q1), .second, .val (.int p2), .val (.int (p2 &&& (3 : Int32))), .val (.long hv), .second, .val (.ref bx), .val (.int cc), .val (.int (1 : Int32)), .val (.int (cc / (2 : Int32))), .val (.long ((cc.toInt64) - ((2 : Int64) * ((cc / (2 : Int32)).toInt64)))), .second, .val (.int (1 : Int32)), .val (.long (hv / (16 : Int64))), .second, .val (.int (1 : Int32)), .val (.long (hv / (64 : Int64))), .second, .val (.int (0 : Int32)), .val (.long (hv - ((64 : Int64) * (hv / (64 : Int64))))), .second] [(.int (1 : Int32))])) _
        refine XS.istore X7.here hx rfl (hb hby at_342) rfl (l' := #[.val (.long q1), .second, .val (.int p2), .val (.int (p2 &&& (3 : Int32))), .val (.long hv), .second, .val (.ref bx), .val (.int cc), .val (.int (1 : Int32)), .val (.int (cc / (2 : Int32))), .val (.long ((cc.toInt64) - ((2 : Int64) * ((cc / (2 : Int32)).toInt64)))), .second, .val (.int (1 : Int32)), .val (.long (hv / (16 : Int64))), .second, .val (.int (1 : Int32)), .val (.long (hv / (64 : Int64))), .second, .val (.int (1 : Int32)), .val (.long (hv - ((64 : Int64) * (hv / (64 : Int64))))), .second]) rfl ?_
        show Steps p.tables e below (T7.setTop (mkF m 344 #[.val (.long q1), .second, .val (.int p2), .val (.int (p2 &&& (3 : Int32))), .val (.long hv), .second, .val (.ref bx), .val (.int cc), .val (.int (1 : Int32)), .val (.int (cc / (2 : Int32))), .val (.long ((cc.toInt64) - ((2 : Int64) * ((cc / (2 : Int32)).toInt64)))), .second, .val (.int (1 : Int32)), .val (.long (hv / (16 : Int64))), .second, .val (.int (1 : Int32)), .val (.long (hv / (64 : Int64))), .second, .val (.int (1 : Int32)), .val (.long (hv - ((64 : Int64) * (hv / (64 : Int64))))), .second] [])) _
        refine XS.iload X7.here hx rfl (hb hby at_344) rfl ?_
        show Steps p.tables e below (T7.setTop (mkF m 346 #[.val (.long q1), .second, .val (.int p2), .val (.int (p2 &&& (3 : Int32))), .val (.long hv), .second, .val (.ref bx), .val (.int cc), .val (.int (1 : Int32)), .val (.int (cc / (2 : Int32))), .val (.long ((cc.toInt64) - ((2 : Int64) * ((cc / (2 : Int32)).toInt64)))), .second, .val (.int (1 : Int32)), .val (.long (hv / (16 : Int64))), .second, .val (.int (1 : Int32)), .val (.long (hv / (64 : Int64))), .second, .val (.int (1 : Int32)), .val (.long (hv - ((64 : Int64) * (hv / (64 : Int64))))), .second] [(.int (1 : Int32))])) _
        have hc346 : ¬ ((1 : Int32) = (0 : Int32)) := by decide
        refine XS.ifNo X7.here hx rfl (hb hby at_346) rfl ((if0 _ _).trans (feq hc346).1) ?_
        show Steps p.tables e below (T7.setTop (mkF m 349 #[.val (.long q1), .second, .val (.int p2), .val (.int (p2 &&& (3 : Int32))), .val (.long hv), .second, .val (.ref bx), .val (.int cc), .val (.int (1 : Int32)), .val (.int (cc / (2 : Int32))), .val (.long ((cc.toInt64) - ((2 : Int64) * ((cc / (2 : Int32)).toInt64)))), .second, .val (.int (1 : Int32)), .val (.long (hv / (16 : Int64))), .second, .val (.int (1 : Int32)), .val (.long (hv / (64 : Int64))), .second, .val (.int (1 : Int32)), .val (.long (hv - ((64 : Int64) * (hv / (64 : Int64))))), .second] [])) _
        refine XS.iload X7.here hx rfl (hb hby at_349) rfl ?_
        show Steps p.tables e below (T7.setTop (mkF m 351 #[.val (.long q1), .second, .val (.int p2), .val (.int (p2 &&& (3 : Int32))), .val (.long hv), .second, .val (.ref bx), .val (.int cc), .val (.int (1 : Int32)), .val (.int (cc / (2 : Int32))), .val (.long ((cc.toInt64) - ((2 : Int64) * ((cc / (2 : Int32)).toInt64)))), .second, .val (.int (1 : Int32)), .val (.long (hv / (16 : Int64))), .second, .val (.int (1 : Int32)), .val (.long (hv / (64 : Int64))), .second, .val (.int (1 : Int32)), .val (.long (hv - ((64 : Int64) * (hv / (64 : Int64))))), .second] [(.int (1 : Int32))])) _
        have hc351 : ¬ ((1 : Int32) = (0 : Int32)) := by decide
        refine XS.ifNo X7.here hx rfl (hb hby at_351) rfl ((if0 _ _).trans (feq hc351).1) ?_
        show Steps p.tables e below (T7.setTop (mkF m 354 #[.val (.long q1), .second, .val (.int p2), .val (.int (p2 &&& (3 : Int32))), .val (.long hv), .second, .val (.ref bx), .val (.int cc), .val (.int (1 : Int32)), .val (.int (cc / (2 : Int32))), .val (.long ((cc.toInt64) - ((2 : Int64) * ((cc / (2 : Int32)).toInt64)))), .second, .val (.int (1 : Int32)), .val (.long (hv / (16 : Int64))), .second, .val (.int (1 : Int32)), .val (.long (hv / (64 : Int64))), .second, .val (.int (1 : Int32)), .val (.long (hv - ((64 : Int64) * (hv / (64 : Int64))))), .second] [])) _
        refine XS.iload X7.here hx rfl (hb hby at_354) rfl ?_
        show Steps p.tables e below (T7.setTop (mkF m 356 #[.val (.long q1), .second, .val (.int p2), .val (.int (p2 &&& (3 : Int32))), .val (.long hv), .second, .val (.ref bx), .val (.int cc), .val (.int (1 : Int32)), .val (.int (cc / (2 : Int32))), .val (.long ((cc.toInt64) - ((2 : Int64) * ((cc / (2 : Int32)).toInt64)))), .second, .val (.int (1 : Int32)), .val (.long (hv / (16 : Int64))), .second, .val (.int (1 : Int32)), .val (.long (hv / (64 : Int64))), .second, .val (.int (1 : Int32)), .val (.long (hv - ((64 : Int64) * (hv / (64 : Int64))))), .second] [(.int (1 : Int32))])) _
        have hc356 : ¬ ((1 : Int32) = (0 : Int32)) := by decide
        refine XS.ifNo X7.here hx rfl (hb hby at_356) rfl ((if0 _ _).trans (feq hc356).1) ?_
        show Steps p.tables e below (T7.setTop (mkF m 359 #[.val (.long q1), .second, .val (.int p2), .val (.int (p2 &&& (3 : Int32))), .val (.long hv), .second, .val (.ref bx), .val (.int cc), .val (.int (1 : Int32)), .val (.int (cc / (2 : Int32))), .val (.long ((cc.toInt64) - ((2 : Int64) * ((cc / (2 : Int32)).toInt64)))), .second, .val (.int (1 : Int32)), .val (.long (hv / (16 : Int64))), .second, .val (.int (1 : Int32)), .val (.long (hv / (64 : Int64))), .second, .val (.int (1 : Int32)), .val (.long (hv - ((64 : Int64) * (hv / (64 : Int64))))), .second] [])) _
        refine XS.iload X7.here hx rfl (hb hby at_359) rfl ?_
        show Steps p.tables e below (T7.setTop (mkF m 361 #[.val (.long q1), .second, .val (.int p2), .val (.int (p2 &&& (3 : Int32))), .val (.long hv), .second, .val (.ref bx), .val (.int cc), .val (.int (1 : Int32)), .val (.int (cc / (2 : Int32))), .val (.long ((cc.toInt64) - ((2 : Int64) * ((cc / (2 : Int32)).toInt64)))), .second, .val (.int (1 : Int32)), .val (.long (hv / (16 : Int64))), .second, .val (.int (1 : Int32)), .val (.long (hv / (64 : Int64))), .second, .val (.int (1 : Int32)), .val (.long (hv - ((64 : Int64) * (hv / (64 : Int64))))), .second] [(.int (1 : Int32))])) _
        have hc361 : ¬ ((1 : Int32) = (0 : Int32)) := by decide
        refine XS.ifNo X7.here hx rfl (hb hby at_361) rfl ((if0 _ _).trans (feq hc361).1) ?_
        show Steps p.tables e below (T7.setTop (mkF m 364 #[.val (.long q1), .second, .val (.int p2), .val (.int (p2 &&& (3 : Int32))), .val (.long hv), .second, .val (.ref bx), .val (.int cc), .val (.int (1 : Int32)), .val (.int (cc / (2 : Int32))), .val (.long ((cc.toInt64) - ((2 : Int64) * ((cc / (2 : Int32)).toInt64)))), .second, .val (.int (1 : Int32)), .val (.long (hv / (16 : Int64))), .second, .val (.int (1 : Int32)), .val (.long (hv / (64 : Int64))), .second, .val (.int (1 : Int32)), .val (.long (hv - ((64 : Int64) * (hv / (64 : Int64))))), .second] [])) _
        refine XS.iconst X7.here hx rfl (hb hby at_364) ?_
        show Steps p.tables e below (T7.setTop (mkF m 365 #[.val (.long q1), .second, .val (.int p2), .val (.int (p2 &&& (3 : Int32))), .val (.long hv), .second, .val (.ref bx), .val (.int cc), .val (.int (1 : Int32)), .val (.int (cc / (2 : Int32))), .val (.long ((cc.toInt64) - ((2 : Int64) * ((cc / (2 : Int32)).toInt64)))), .second, .val (.int (1 : Int32)), .val (.long (hv / (16 : Int64))), .second, .val (.int (1 : Int32)), .val (.long (hv / (64 : Int64))), .second, .val (.int (1 : Int32)), .val (.long (hv - ((64 : Int64) * (hv / (64 : Int64))))), .second] [(.int (1 : Int32))])) _
        refine XS.goto X7.here hx rfl (pc0 := 365) (pc' := 369) rfl (hb hby at_365) (by decide) (by decide) ?_
        show Steps p.tables e below (T7.setTop (mkF m 369 #[.val (.long q1), .second, .val (.int p2), .val (.int (p2 &&& (3 : Int32))), .val (.long hv), .second, .val (.ref bx), .val (.int cc), .val (.int (1 : Int32)), .val (.int (cc / (2 : Int32))), .val (.long ((cc.toInt64) - ((2 : Int64) * ((cc / (2 : Int32)).toInt64)))), .second, .val (.int (1 : Int32)), .val (.long (hv / (16 : Int64))), .second, .val (.int (1 : Int32)), .val (.long (hv / (64 : Int64))), .second, .val (.int (1 : Int32)), .val (.long (hv - ((64 : Int64) * (hv / (64 : Int64))))), .second] [(.int (1 : Int32))])) _
        exact retN X7 hx (t := .boolean) Bd.returns (by simp) (hb hby at_369) hr
      · show Q0 Z q1 p2 h0 n0 _ T7.heap _
        exact ⟨rfl, N7⟩
-- 5. FROM THE CASE'S WORDS TO rm0, AND THE OWED THEOREMS
set_option maxRecDepth 65536 in
set_option maxHeartbeats 40000000 in
theorem comes_1 {Post : Tables → Env → Array Value → State → Outcome → State → Prop} (hpost : ∀ tb e args s v u, (limb_1_1.after args s (.returned v) u = true ∧ limb_1_2.after args s (.returned v) u = true ∧ True) → FrameEnd s (.returned v) u (Jvm.fieldLocs frame_1_writes args s ++ Jvm.arrayLocs frame_1_arrays args s ++ Jvm.staticLocs frame_1_statics s) 16 128 → Post tb e args s (.returned v) u) :
    ArmFor flags0 classFile x code maxLocals ret World_1 tables_1 room_1 Calls_1 rest_1 Pre_1 Post := by
  intro l hfl _ _ p e ha hc hk s m args below hf hA hF happ hP
  obtain ⟨hcalls, hrest, hpre⟩ := hP
  obtain ⟨-, -, -, hnamed, -, -, -, hat⟩ := (Spec.applies_iff hf).mp happ
  obtain ⟨hg, hn⟩ := and_e (Cond.before_iff.mp (show (Jvm.Cond.and given_1 narrow_1).before args s = true from hpre))
  obtain ⟨g8, g9⟩ := and_e hg
  obtain ⟨g10, g11⟩ := and_e g9
  obtain ⟨w0, w1, rfl⟩ : ∃ w0 w1 : Value, args = #[w0, w1] := by
    have hs : args.size = 2 := by simpa [Cond.value, given_1] using g8
    obtain ⟨L⟩ := args
    match L, hs with
    | [w0, w1], _ => exact ⟨w0, w1, rfl⟩
  have hw := fun d (hd : d ∈ tables_1) => atoms_spec (ws := Jvm.Cond.code x code maxLocals ret :: tables_1) hat d (List.mem_cons_of_mem _ hd)
  have hfit : Fit s := fun {y c} hc i hi => by
    obtain ⟨ha, rfl⟩ := Array.getElem?_eq_some_iff.mp hc
    have q := List.all_eq_true.mp ((Array.all_eq_true_iff_forall_mem.mp hF) _ (Array.getElem_mem ha)) i (List.mem_range.mpr hi)
    simpa [Array.getElem?_eq_getElem hi] using q
  obtain ⟨i0, ei0⟩ := isL_v g10
  obtain rfl : w0 = (.long i0) := Option.some.inj ei0
  obtain ⟨i1, ei1⟩ := is_v g11
  obtain rfl : w1 = (.int i1) := Option.some.inj ei1
  obtain ⟨n, o, h1, h2, h3, _, L, rfl, ⟨rfl, N⟩, hq⟩ := rm0 l s _ hw tables_1 i0 i1 s.heap s.heap.size (Nat.le_refl _) p e ha hc hk s m _ below hf ((Spec.applies_iff_loose hf).mp happ).1 ⟨rfl, State.Warmed39.refl s, rfl⟩ trivial
  refine ⟨n, _, h1, h2, h3, hpost _ _ _ _ _ _ ⟨Cond.after_iff.mpr rfl, Cond.after_iff.mpr (eq_i res_at (Term.int_eval (1)) rfl), trivial⟩ ⟨hq.1, hq.2.1, (hq.2.2.sift fun y hy => Or.inr (N y hy)).mono (by decide) (by decide)⟩⟩
theorem main_1_1 : Claimed_1_1 := comes_1 fun _ _ _ _ _ _ h hF => ⟨h.1, hF⟩
theorem main_1_2 : Claimed_1_2 := comes_1 fun _ _ _ _ _ _ h hF => ⟨h.2.1, hF⟩
-- 6. THE WITNESS: 'witness <made dir> --arg ..' lays it behind; then: end Jvm.Pilot.@@N@@
end Jvm.Pilot.@@N@@
namespace Jvm.Pilot.@@N@@
open Jvm Jvm.ClassFile Sem Op Lib Jvm.Free Jvm.Stand Jvm.Pilot.@@N@@.Jvm.D
/-! MADE BY PROGRAM (witnessworld.py) out of the Statement's table words and the real class files: 11 classes; the members and pool entries that the words name. The judged class is class 1, her method 1. -/
namespace start1
open Jvm.ClassFile
def u (s : String) : CpInfo := .utf8 (stringToUtf16 s)
/-- a pool by its gaps: so many unusable entries, then the entry; so many at the end -/
def gap : Nat → List CpInfo → List CpInfo
  | 0, r => r
  | n + 1, r => .unusable :: gap n r
def poolList (es : List (Nat × CpInfo)) (last : Nat) : List CpInfo := es.foldr (fun e r => gap e.1 (e.2 :: r)) (gap last [])
def pool (es : List (Nat × CpInfo)) (last : Nat) : Array CpInfo := ⟨poolList es last⟩
def fileOf (pool : Array CpInfo) (this : Nat) (attrs : Array Attribute := #[]) (ms : Array MethodInfo := #[]) (fl : Nat := 33) (sup : Nat := 0) (ifs : Array Nat := #[]) (fds : Array FieldInfo := #[]) : ClassFile where
  minorVersion := 0
  majorVersion := 65
  constantPool := pool
  accessFlags := fl
  thisClass := this
  superClass := sup
  interfaces := ifs
  fields := fds
  methods := ms
  attributes := attrs
def plain (name : String) (sup : Option ClassId) : Class where
  name := name
  kind := .ordinary
  loader := none
  accessFlags := 33
  super := sup
  interfaces := #[]
  cf := none
  fields := #[]
  methods := #[]
  instanceTypes := #[]
  staticTypes := #[]
  resolved := #[]
  callSites := []
  init := .initialized
  statics := none
  mirror := none

def pool0 : Array CpInfo := pool [(5, u "<init>"), (0, u "()V"), (1, .class_ 10), (1, u "java/lang/Object")] 113

def k0c0 : Code := { maxStack := 0, maxLocals := 1, code := object_method_1_code, exceptionTable := #[], attributes := #[] }
def k0m0 : Method := { name := "<init>", desc := "()V", sig := { parameters := [], returnType := none }, accessFlags := 1, code := some k0c0 }
/-- java/lang/Object -/
def k0 : Class := { plain "java/lang/Object" none with
  accessFlags := 33
  interfaces := #[]
  cf := some (fileOf pool0 8 #[] #[{ accessFlags := 1, nameIndex := 5, descriptorIndex := 6, attributes := #[] }] 33 0 #[] #[])
  fields := #[]
  methods := #[k0m0]
  instanceTypes := #[]
  staticTypes := #[]
  resolved := Array.replicate 124 none
  statics := none }

def pool1 : Array CpInfo := pool [(2, .class_ 4), (1, u "java/lang/Object"), (0, u "<init>"), (0, u "()V"), (2, .long 9223372036854775807), (1, .long 4294967295), (1, .long 268435455), (1, .long 15728640), (1, .long 4194303), (1, .methodref 20 21), (0, .class_ 22), (0, .nameAndType 23 24), (0, u "com/example/metrogate/metrogate/ClientLimits"), (0, u "forHeap"), (0, u "(J)Lcom/example/metrogate/metrogate/ClientLimits;"), (0, .methodref 20 26), (0, .nameAndType 27 28), (0, u "connections"), (0, u "()I"), (0, .long 17563648), (1, .long 2164260864), (1, .long 16777216), (1, .long 262144), (1, .methodref 20 38), (0, .nameAndType 39 28), (0, u "arrivingBodies"), (0, .long 2), (1, .methodref 20 43), (0, .nameAndType 44 45), (0, u "sharedBodyBytes"), (0, u "()J"), (0, .long 576460752303423487), (1, .long 16), (1, .methodref 20 51), (0, .nameAndType 52 45), (0, u "addressBytes"), (0, .long 144115188075855871), (1, .long 64), (1, .class_ 58), (0, u "com/example/metrogate/metrogate/ClientLimitsForHeapPinLaw"), (2, u "law"), (0, u "(JI)Z")] 3

def k1m0 : Method := { name := "<init>", desc := "()V", sig := { parameters := [], returnType := none }, accessFlags := 1, code := none }
def k1c1 : Code := { maxStack := 6, maxLocals := 21, code := code, exceptionTable := #[], attributes := #[] }
def k1m1 : Method := { name := "law", desc := "(JI)Z", sig := { parameters := [.long, .int], returnType := some .boolean }, accessFlags := 9, code := some k1c1 }
/-- com/example/metrogate/metrogate/ClientLimitsForHeapPinLaw -/
def k1 : Class := { plain "com/example/metrogate/metrogate/ClientLimitsForHeapPinLaw" (some 0) with
  accessFlags := 49
  interfaces := #[]
  cf := some (fileOf pool1 57 #[] #[{ accessFlags := 1, nameIndex := 5, descriptorIndex := 6, attributes := #[] }, { accessFlags := 9, nameIndex := 61, descriptorIndex := 62, attributes := #[] }] 49 2 #[] #[])
  fields := #[]
  methods := #[k1m0, k1m1]
  instanceTypes := #[]
  staticTypes := #[]
  resolved := Array.replicate 66 none
  statics := none }

def pool2 : Array CpInfo := pool [(1, .methodref 2 3), (0, .class_ 4), (0, .nameAndType 5 6), (0, u "java/lang/Object"), (0, u "<init>"), (0, u "()V"), (0, .class_ 8), (0, u "java/lang/Record")] 13

def k2c0 : Code := { maxStack := 1, maxLocals := 1, code := jdk_30_method_1_code, exceptionTable := #[], attributes := #[] }
def k2m0 : Method := { name := "<init>", desc := "()V", sig := { parameters := [], returnType := none }, accessFlags := 4, code := some k2c0 }
/-- java/lang/Record -/
def k2 : Class := { plain "java/lang/Record" (some 0) with
  accessFlags := 1057
  interfaces := #[]
  cf := some (fileOf pool2 7 #[] #[{ accessFlags := 4, nameIndex := 5, descriptorIndex := 6, attributes := #[] }] 1057 2 #[] #[])
  fields := #[]
  methods := #[k2m0]
  instanceTypes := #[]
  staticTypes := #[]
  resolved := Array.replicate 22 none
  statics := none }

def pool3 : Array CpInfo := pool [(1, .methodref 2 3), (0, .class_ 4), (0, .nameAndType 5 6), (0, u "java/lang/Record"), (0, u "<init>"), (0, u "()V"), (0, .fieldref 8 9), (0, .class_ 10), (0, .nameAndType 11 12), (0, u "com/example/metrogate/metrogate/ClientLimits"), (0, u "connections"), (0, u "I"), (0, .fieldref 8 14), (0, .nameAndType 15 12), (0, u "arrivingBodies"), (0, .fieldref 8 17), (0, .nameAndType 18 19), (0, u "sharedBodyBytes"), (0, u "J"), (0, .fieldref 8 21), (0, .nameAndType 22 19), (0, u "addressBytes"), (0, .long 16777216), (1, .methodref 26 27), (0, .class_ 28), (0, .nameAndType 29 30), (0, u "java/lang/Math"), (0, u "max"), (0, u "(JJ)J"), (0, .long 262144), (1, .long 2), (1, .long 8192), (1, .methodref 26 38), (0, .nameAndType 39 30), (0, u "min"), (0, .long 16), (1, .long 64), (1, .methodref 8 45), (0, .nameAndType 5 46), (0, u "(IIJJ)V"), (12, u "MOST_CONNECTIONS"), (2, u "SERVICE_HEAP"), (0, u "HEAP_PER_CONNECTION"), (0, u "SMALLEST_HEAP"), (5, u "forHeap"), (0, u "(J)Lcom/example/metrogate/metrogate/ClientLimits;"), (1, u "()I"), (1, u "()J")] 23

def k3c0 : Code := { maxStack := 3, maxLocals := 7, code := prog_1_method_1_code, exceptionTable := #[], attributes := #[] }
def k3m0 : Method := { name := "<init>", desc := "(IIJJ)V", sig := { parameters := [.int, .int, .long, .long], returnType := none }, accessFlags := 0, code := some k3c0 }
def k3c1 : Code := { maxStack := 10, maxLocals := 5, code := prog_1_method_2_code, exceptionTable := #[], attributes := #[] }
def k3m1 : Method := { name := "forHeap", desc := "(J)Lcom/example/metrogate/metrogate/ClientLimits;", sig := { parameters := [.long], returnType := some (.object "com/example/metrogate/metrogate/ClientLimits") }, accessFlags := 8, code := some k3c1 }
def k3c2 : Code := { maxStack := 1, maxLocals := 1, code := prog_1_method_6_code, exceptionTable := #[], attributes := #[] }
def k3m2 : Method := { name := "connections", desc := "()I", sig := { parameters := [], returnType := some .int }, accessFlags := 1, code := some k3c2 }
def k3c3 : Code := { maxStack := 1, maxLocals := 1, code := prog_1_method_7_code, exceptionTable := #[], attributes := #[] }
def k3m3 : Method := { name := "arrivingBodies", desc := "()I", sig := { parameters := [], returnType := some .int }, accessFlags := 1, code := some k3c3 }
def k3c4 : Code := { maxStack := 2, maxLocals := 1, code := prog_1_method_8_code, exceptionTable := #[], attributes := #[] }
def k3m4 : Method := { name := "sharedBodyBytes", desc := "()J", sig := { parameters := [], returnType := some .long }, accessFlags := 1, code := some k3c4 }
def k3c5 : Code := { maxStack := 2, maxLocals := 1, code := prog_1_method_9_code, exceptionTable := #[], attributes := #[] }
def k3m5 : Method := { name := "addressBytes", desc := "()J", sig := { parameters := [], returnType := some .long }, accessFlags := 1, code := some k3c5 }
/-- com/example/metrogate/metrogate/ClientLimits -/
def k3 : Class := { plain "com/example/metrogate/metrogate/ClientLimits" (some 2) with
  accessFlags := 48
  interfaces := #[]
  cf := some (fileOf pool3 8 #[] #[{ accessFlags := 0, nameIndex := 5, descriptorIndex := 46, attributes := #[] }, { accessFlags := 8, nameIndex := 70, descriptorIndex := 71, attributes := #[] }, { accessFlags := 1, nameIndex := 11, descriptorIndex := 73, attributes := #[] }, { accessFlags := 1, nameIndex := 15, descriptorIndex := 73, attributes := #[] }, { accessFlags := 1, nameIndex := 18, descriptorIndex := 75, attributes := #[] }, { accessFlags := 1, nameIndex := 22, descriptorIndex := 75, attributes := #[] }] 48 2 #[] #[{ accessFlags := 18, nameIndex := 11, descriptorIndex := 12, attributes := #[] }, { accessFlags := 18, nameIndex := 15, descriptorIndex := 12, attributes := #[] }, { accessFlags := 18, nameIndex := 18, descriptorIndex := 19, attributes := #[] }, { accessFlags := 18, nameIndex := 22, descriptorIndex := 19, attributes := #[] }, { accessFlags := 24, nameIndex := 59, descriptorIndex := 12, attributes := #[] }, { accessFlags := 24, nameIndex := 62, descriptorIndex := 19, attributes := #[] }, { accessFlags := 24, nameIndex := 63, descriptorIndex := 19, attributes := #[] }, { accessFlags := 24, nameIndex := 64, descriptorIndex := 19, attributes := #[] }])
  fields := #[{ name := "connections", type := .int, accessFlags := 18, slot := 0, constantValue := 0 }, { name := "arrivingBodies", type := .int, accessFlags := 18, slot := 1, constantValue := 0 }, { name := "sharedBodyBytes", type := .long, accessFlags := 18, slot := 2, constantValue := 0 }, { name := "addressBytes", type := .long, accessFlags := 18, slot := 3, constantValue := 0 }, { name := "MOST_CONNECTIONS", type := .int, accessFlags := 24, slot := 0, constantValue := 0 }, { name := "SERVICE_HEAP", type := .long, accessFlags := 24, slot := 1, constantValue := 0 }, { name := "HEAP_PER_CONNECTION", type := .long, accessFlags := 24, slot := 2, constantValue := 0 }, { name := "SMALLEST_HEAP", type := .long, accessFlags := 24, slot := 3, constantValue := 0 }]
  methods := #[k3m0, k3m1, k3m2, k3m3, k3m4, k3m5]
  instanceTypes := #[.int, .int, .long, .long]
  staticTypes := #[.int, .long, .long, .long]
  resolved := Array.replicate 99 none
  statics := none }

def pool4 : Array CpInfo := pool [(1, .class_ 2), (0, u "java/lang/Math"), (1, .class_ 6), (1, u "java/lang/Object"), (0, u "<init>"), (0, u "()V"), (89, .class_ 100), (1, u "java/lang/Math$RandomNumberGeneratorHolder"), (20, u "(JJ)J"), (50, u "negativeZeroFloatBits"), (0, u "J"), (2, u "negativeZeroDoubleBits"), (21, u "max"), (2, u "min"), (43, u "$assertionsDisabled"), (0, u "Z"), (91, u "twoToTheDoubleScaleDown"), (0, u "D"), (4, u "twoToTheDoubleScaleUp"), (9, u "E"), (3, u "PI"), (2, u "TAU"), (2, u "DEGREES_TO_RADIANS"), (0, u "RADIANS_TO_DEGREES")] 94

def k4m0 : Method := { name := "<init>", desc := "()V", sig := { parameters := [], returnType := none }, accessFlags := 2, code := none }
def k4c1 : Code := { maxStack := 4, maxLocals := 4, code := jdk_29_method_66_code, exceptionTable := #[], attributes := #[] }
def k4m1 : Method := { name := "max", desc := "(JJ)J", sig := { parameters := [.long, .long], returnType := some .long }, accessFlags := 9, code := some k4c1 }
def k4c2 : Code := { maxStack := 4, maxLocals := 4, code := jdk_29_method_70_code, exceptionTable := #[], attributes := #[] }
def k4m2 : Method := { name := "min", desc := "(JJ)J", sig := { parameters := [.long, .long], returnType := some .long }, accessFlags := 9, code := some k4c2 }
/-- java/lang/Math -/
def k4 : Class := { plain "java/lang/Math" (some 0) with
  accessFlags := 49
  interfaces := #[]
  cf := some (fileOf pool4 1 #[.nestMembers #[98]] #[{ accessFlags := 2, nameIndex := 7, descriptorIndex := 8, attributes := #[] }, { accessFlags := 9, nameIndex := 198, descriptorIndex := 121, attributes := #[] }, { accessFlags := 9, nameIndex := 201, descriptorIndex := 121, attributes := #[] }] 49 4 #[] #[{ accessFlags := 25, nameIndex := 354, descriptorIndex := 339, attributes := #[] }, { accessFlags := 25, nameIndex := 358, descriptorIndex := 339, attributes := #[] }, { accessFlags := 25, nameIndex := 361, descriptorIndex := 339, attributes := #[] }, { accessFlags := 26, nameIndex := 364, descriptorIndex := 339, attributes := #[] }, { accessFlags := 26, nameIndex := 365, descriptorIndex := 339, attributes := #[] }, { accessFlags := 26, nameIndex := 172, descriptorIndex := 173, attributes := #[] }, { accessFlags := 26, nameIndex := 176, descriptorIndex := 173, attributes := #[] }, { accessFlags := 8, nameIndex := 344, descriptorIndex := 339, attributes := #[] }, { accessFlags := 8, nameIndex := 338, descriptorIndex := 339, attributes := #[] }, { accessFlags := 4120, nameIndex := 245, descriptorIndex := 246, attributes := #[] }])
  fields := #[{ name := "E", type := .double, accessFlags := 25, slot := 0, constantValue := 0 }, { name := "PI", type := .double, accessFlags := 25, slot := 1, constantValue := 0 }, { name := "TAU", type := .double, accessFlags := 25, slot := 2, constantValue := 0 }, { name := "DEGREES_TO_RADIANS", type := .double, accessFlags := 26, slot := 3, constantValue := 0 }, { name := "RADIANS_TO_DEGREES", type := .double, accessFlags := 26, slot := 4, constantValue := 0 }, { name := "negativeZeroFloatBits", type := .long, accessFlags := 26, slot := 5, constantValue := 0 }, { name := "negativeZeroDoubleBits", type := .long, accessFlags := 26, slot := 6, constantValue := 0 }, { name := "twoToTheDoubleScaleUp", type := .double, accessFlags := 8, slot := 7, constantValue := 0 }, { name := "twoToTheDoubleScaleDown", type := .double, accessFlags := 8, slot := 8, constantValue := 0 }, { name := "$assertionsDisabled", type := .boolean, accessFlags := 4120, slot := 9, constantValue := 0 }]
  methods := #[k4m0, k4m1, k4m2]
  instanceTypes := #[]
  staticTypes := #[.double, .double, .double, .double, .double, .long, .long, .double, .double, .boolean]
  resolved := Array.replicate 460 none
  statics := none }

def pool5 : Array CpInfo := pool [(1, u "java/lang/Cloneable"), (0, .class_ 1), (0, u "java/lang/Object"), (0, .class_ 3)] 3

/-- java/lang/Cloneable -/
def k5 : Class := { plain "java/lang/Cloneable" (some 0) with
  accessFlags := 1537
  interfaces := #[]
  cf := some (fileOf pool5 2 #[] #[] 1537 4 #[] #[])
  fields := #[]
  methods := #[]
  instanceTypes := #[]
  staticTypes := #[]
  resolved := Array.replicate 8 none
  statics := none }

def pool6 : Array CpInfo := pool [(1, u "java/io/Serializable"), (0, .class_ 1), (0, u "java/lang/Object"), (0, .class_ 3)] 3

/-- java/io/Serializable -/
def k6 : Class := { plain "java/io/Serializable" (some 0) with
  accessFlags := 1537
  interfaces := #[]
  cf := some (fileOf pool6 2 #[] #[] 1537 4 #[] #[])
  fields := #[]
  methods := #[]
  instanceTypes := #[]
  staticTypes := #[]
  resolved := Array.replicate 8 none
  statics := none }

/-- the primitive byte -/
def k7 : Class := { plain "byte" none with kind := .primitive 'B', accessFlags := 0x411 }
/-- [B -/
def k8 : Class := { plain "[B" (some 0) with kind := .array 7 .byte, interfaces := #[5, 6], accessFlags := 1041 }

/-- the primitive int -/
def k9 : Class := { plain "int" none with kind := .primitive 'I', accessFlags := 0x411 }
/-- [I -/
def k10 : Class := { plain "[I" (some 0) with kind := .array 9 .int, interfaces := #[5, 6], accessFlags := 1041 }

def heap : Heap := #[]
def classes : Array Class := #[k0, k1, k2, k3, k4, k5, k6, k7, k8, k9, k10]
def interned : List (Array UInt16 × Addr) := []
def slotsUsed : Nat := 0
def theMethod : MethodId := ⟨1, 1⟩
def args0 : Array Value := #[.long 50000000, .int 1]
def aboutOver (below : List Frame) : State where
  vm := { classes := classes, interned := interned.toArray }
  heap := heap
  slotsUsed := slotsUsed
  threads := #[{ frames := .invoking theMethod args0 :: below }]
def below0 : List Frame := [.native { method := ⟨0, 0⟩, args := #[] }]
def about1 : State := aboutOver below0
def p0 : Program := .bare "" "" ""
def e0 : Env := launch0.env 0 0 0
theorem w_frames : about1.frames = Frame.invoking theMethod args0 :: below0 := rfl
set_option maxRecDepth 65536 in
theorem w_args : argsFit about1.vm theMethod args0 = true := by decide +kernel
set_option maxRecDepth 65536 in
theorem w_heap : heapFits about1 = true := by decide +kernel
set_option maxRecDepth 65536 in
theorem w_runnable : about1.curStatus? = some .runnable := by decide +kernel
set_option maxRecDepth 65536 in
theorem w_alone : about1.alone = true := by decide +kernel
set_option maxRecDepth 65536 in
theorem w_named : about1.methodNamed? x = some theMethod := by decide +kernel
set_option maxRecDepth 65536 in
theorem w_hears : about1.hears theMethod below0 = true := by decide +kernel
set_option maxRecDepth 65536 in
theorem w_ripe : about1.ripe theMethod args0 below0 = true := by decide +kernel
theorem w_running : about1.status = .running := rfl
set_option maxRecDepth 65536 in
theorem w_room : about1.hasRoom e0.platform room_1 = true :=
  launch0.hasRoom_least _ room_1 (by decide +kernel) (by decide +kernel) (by decide +kernel) (by decide +kernel) (by decide +kernel) (by decide +kernel)
theorem allAtoms_all (ts : List Jvm.Cond) (a : Array Jvm.Value) (st : Jvm.State) : (allAtoms ts).before a st = ts.all (fun c => c.before a st) := by
  induction ts with
  | nil => rfl
  | cons c t ih =>
    show (Jvm.Cond.and c (allAtoms t)).before a st = _
    rw [Jvm.Cond.before_and, ih, List.all_cons]
def words1 : List Jvm.Cond := Jvm.Cond.code x code maxLocals ret :: tables_1
/-- a 'code' word, met by the world's own term for the bytes: nothing is compared byte by byte -/
theorem code_word {y : MethodName} {bytes : ByteArray} {mx : Nat} {rt : Option FieldType} {a : Array Value} {s : State} {m : MethodId} {meth : Method} {c : Code} (h1 : s.methodNamed? y = some m) (h2 : s.vm.method? m = some meth) (h3 : meth.code = some c) (h4 : c.code = bytes)
    (h5 : (c.maxLocals == mx && c.exceptionTable.isEmpty && decide (c.maxStack ≤ mostOperands) && decide (meth.sig.returnType = rt) && !meth.locks && decide (parseMethodDescriptor y.desc = some meth.sig)) = true) : (Jvm.Cond.code y bytes mx rt).before a s = true := by
  simp only [Bool.and_eq_true, beq_iff_eq, Bool.not_eq_true', decide_eq_true_eq] at h5
  obtain ⟨⟨⟨⟨⟨g1, g2⟩, g3⟩, g4⟩, g5⟩, g6⟩ := h5
  simp [Cond.before, Cond.holds, Cond.value, h1, h2, h3, h4, g1, g2, g3, g4, g5, g6]
def isCode : Jvm.Cond → Bool
  | .code _ _ _ _ => true
  | _ => false
theorem all_split {L : List Jvm.Cond} {P : Jvm.Cond → Bool} (h1 : L.all (fun c => isCode c || P c) = true) (h2 : ∀ c ∈ L.filter isCode, P c = true) : L.all P = true := by
  refine List.all_eq_true.mpr fun c hc => ?_
  have h := List.all_eq_true.mp h1 c hc
  rcases Bool.eq_false_or_eq_true (isCode c) with hi | hi
  · exact h2 c (List.mem_filter.mpr ⟨hc, hi⟩)
  · simpa [hi] using h
set_option maxRecDepth 65536 in
theorem w_c0 : (Jvm.Cond.code x code maxLocals ret).before args0 about1 = true := code_word (m := ⟨1, 1⟩) (meth := k1m1) (c := k1c1) (by decide +kernel) rfl rfl rfl (by decide +kernel)
set_option maxRecDepth 65536 in
theorem w_c1 : (Jvm.Cond.code ({ cls := "com/example/metrogate/metrogate/ClientLimits", name := "forHeap", desc := "(J)Lcom/example/metrogate/metrogate/ClientLimits;" } : Jvm.MethodName) prog_1_method_2_code (5 : Nat) (Option.some (Jvm.ClassFile.FieldType.object "com/example/metrogate/metrogate/ClientLimits"))).before args0 about1 = true := code_word (m := ⟨3, 1⟩) (meth := k3m1) (c := k3c1) (by decide +kernel) rfl rfl rfl (by decide +kernel)
set_option maxRecDepth 65536 in
theorem w_c2 : (Jvm.Cond.code ({ cls := "java/lang/Math", name := "max", desc := "(JJ)J" } : Jvm.MethodName) jdk_29_method_66_code (4 : Nat) (Option.some Jvm.ClassFile.FieldType.long)).before args0 about1 = true := code_word (m := ⟨4, 1⟩) (meth := k4m1) (c := k4c1) (by decide +kernel) rfl rfl rfl (by decide +kernel)
set_option maxRecDepth 65536 in
theorem w_c3 : (Jvm.Cond.code ({ cls := "java/lang/Math", name := "min", desc := "(JJ)J" } : Jvm.MethodName) jdk_29_method_70_code (4 : Nat) (Option.some Jvm.ClassFile.FieldType.long)).before args0 about1 = true := code_word (m := ⟨4, 2⟩) (meth := k4m2) (c := k4c2) (by decide +kernel) rfl rfl rfl (by decide +kernel)
set_option maxRecDepth 65536 in
theorem w_c4 : (Jvm.Cond.code ({ cls := "com/example/metrogate/metrogate/ClientLimits", name := "<init>", desc := "(IIJJ)V" } : Jvm.MethodName) prog_1_method_1_code (7 : Nat) (Option.none : Option Jvm.ClassFile.FieldType)).before args0 about1 = true := code_word (m := ⟨3, 0⟩) (meth := k3m0) (c := k3c0) (by decide +kernel) rfl rfl rfl (by decide +kernel)
set_option maxRecDepth 65536 in
theorem w_c5 : (Jvm.Cond.code ({ cls := "java/lang/Record", name := "<init>", desc := "()V" } : Jvm.MethodName) jdk_30_method_1_code (1 : Nat) (Option.none : Option Jvm.ClassFile.FieldType)).before args0 about1 = true := code_word (m := ⟨2, 0⟩) (meth := k2m0) (c := k2c0) (by decide +kernel) rfl rfl rfl (by decide +kernel)
set_option maxRecDepth 65536 in
theorem w_c6 : (Jvm.Cond.code ({ cls := "java/lang/Object", name := "<init>", desc := "()V" } : Jvm.MethodName) object_method_1_code (1 : Nat) (Option.none : Option Jvm.ClassFile.FieldType)).before args0 about1 = true := code_word (m := ⟨0, 0⟩) (meth := k0m0) (c := k0c0) (by decide +kernel) rfl rfl rfl (by decide +kernel)
set_option maxRecDepth 65536 in
theorem w_c7 : (Jvm.Cond.code ({ cls := "com/example/metrogate/metrogate/ClientLimits", name := "connections", desc := "()I" } : Jvm.MethodName) prog_1_method_6_code (1 : Nat) (Option.some Jvm.ClassFile.FieldType.int)).before args0 about1 = true := code_word (m := ⟨3, 2⟩) (meth := k3m2) (c := k3c2) (by decide +kernel) rfl rfl rfl (by decide +kernel)
set_option maxRecDepth 65536 in
theorem w_c8 : (Jvm.Cond.code ({ cls := "com/example/metrogate/metrogate/ClientLimits", name := "arrivingBodies", desc := "()I" } : Jvm.MethodName) prog_1_method_7_code (1 : Nat) (Option.some Jvm.ClassFile.FieldType.int)).before args0 about1 = true := code_word (m := ⟨3, 3⟩) (meth := k3m3) (c := k3c3) (by decide +kernel) rfl rfl rfl (by decide +kernel)
set_option maxRecDepth 65536 in
theorem w_c9 : (Jvm.Cond.code ({ cls := "com/example/metrogate/metrogate/ClientLimits", name := "sharedBodyBytes", desc := "()J" } : Jvm.MethodName) prog_1_method_8_code (1 : Nat) (Option.some Jvm.ClassFile.FieldType.long)).before args0 about1 = true := code_word (m := ⟨3, 4⟩) (meth := k3m4) (c := k3c4) (by decide +kernel) rfl rfl rfl (by decide +kernel)
set_option maxRecDepth 65536 in
theorem w_c10 : (Jvm.Cond.code ({ cls := "com/example/metrogate/metrogate/ClientLimits", name := "addressBytes", desc := "()J" } : Jvm.MethodName) prog_1_method_9_code (1 : Nat) (Option.some Jvm.ClassFile.FieldType.long)).before args0 about1 = true := code_word (m := ⟨3, 5⟩) (meth := k3m5) (c := k3c5) (by decide +kernel) rfl rfl rfl (by decide +kernel)
def codes1 : List Jvm.Cond := [Jvm.Cond.code x code maxLocals ret, Jvm.Cond.code ({ cls := "com/example/metrogate/metrogate/ClientLimits", name := "forHeap", desc := "(J)Lcom/example/metrogate/metrogate/ClientLimits;" } : Jvm.MethodName) prog_1_method_2_code (5 : Nat) (Option.some (Jvm.ClassFile.FieldType.object "com/example/metrogate/metrogate/ClientLimits")), Jvm.Cond.code ({ cls := "java/lang/Math", name := "max", desc := "(JJ)J" } : Jvm.MethodName) jdk_29_method_66_code (4 : Nat) (Option.some Jvm.ClassFile.FieldType.long), Jvm.Cond.code ({ cls := "java/lang/Math", name := "min", desc := "(JJ)J" } : Jvm.MethodName) jdk_29_method_70_code (4 : Nat) (Option.some Jvm.ClassFile.FieldType.long), Jvm.Cond.code ({ cls := "com/example/metrogate/metrogate/ClientLimits", name := "<init>", desc := "(IIJJ)V" } : Jvm.MethodName) prog_1_method_1_code (7 : Nat) (Option.none : Option Jvm.ClassFile.FieldType), Jvm.Cond.code ({ cls := "java/lang/Record", name := "<init>", desc := "()V" } : Jvm.MethodName) jdk_30_method_1_code (1 : Nat) (Option.none : Option Jvm.ClassFile.FieldType), Jvm.Cond.code ({ cls := "java/lang/Object", name := "<init>", desc := "()V" } : Jvm.MethodName) object_method_1_code (1 : Nat) (Option.none : Option Jvm.ClassFile.FieldType), Jvm.Cond.code ({ cls := "com/example/metrogate/metrogate/ClientLimits", name := "connections", desc := "()I" } : Jvm.MethodName) prog_1_method_6_code (1 : Nat) (Option.some Jvm.ClassFile.FieldType.int), Jvm.Cond.code ({ cls := "com/example/metrogate/metrogate/ClientLimits", name := "arrivingBodies", desc := "()I" } : Jvm.MethodName) prog_1_method_7_code (1 : Nat) (Option.some Jvm.ClassFile.FieldType.int), Jvm.Cond.code ({ cls := "com/example/metrogate/metrogate/ClientLimits", name := "sharedBodyBytes", desc := "()J" } : Jvm.MethodName) prog_1_method_8_code (1 : Nat) (Option.some Jvm.ClassFile.FieldType.long), Jvm.Cond.code ({ cls := "com/example/metrogate/metrogate/ClientLimits", name := "addressBytes", desc := "()J" } : Jvm.MethodName) prog_1_method_9_code (1 : Nat) (Option.some Jvm.ClassFile.FieldType.long)]
set_option maxRecDepth 65536 in
theorem codes_eq : words1.filter isCode = codes1 := rfl
theorem w_codes : ∀ c ∈ words1.filter isCode, c.before args0 about1 = true := by
  rw [codes_eq]
  intro c hc
  simp only [codes1, List.mem_cons, List.not_mem_nil, or_false] at hc
  rcases hc with rfl | rfl | rfl | rfl | rfl | rfl | rfl | rfl | rfl | rfl | rfl
  · exact w_c0
  · exact w_c1
  · exact w_c2
  · exact w_c3
  · exact w_c4
  · exact w_c5
  · exact w_c6
  · exact w_c7
  · exact w_c8
  · exact w_c9
  · exact w_c10
set_option maxRecDepth 65536 in
theorem w_t1 : (words1.take 24).all (fun c => isCode c || c.before args0 about1) = true := by decide +kernel
set_option maxRecDepth 65536 in
theorem w_t2 : ((words1.drop 24).take 24).all (fun c => isCode c || c.before args0 about1) = true := by decide +kernel
set_option maxRecDepth 65536 in
theorem w_t3 : (((words1.drop 24).drop 24).take 24).all (fun c => isCode c || c.before args0 about1) = true := by decide +kernel
set_option maxRecDepth 65536 in
theorem w_t4 : (((words1.drop 24).drop 24).drop 24).all (fun c => isCode c || c.before args0 about1) = true := by decide +kernel
theorem w_tables : (allAtoms (Jvm.Cond.code x code maxLocals ret :: tables_1)).before args0 about1 = true := by
  rw [allAtoms_all]
  show words1.all (fun c => c.before args0 about1) = true
  refine all_split ?_ w_codes
  rw [← List.take_append_drop 24 words1, List.all_append, w_t1, ← List.take_append_drop 24 (words1.drop 24), List.all_append, w_t2, ← List.take_append_drop 24 ((words1.drop 24).drop 24), List.all_append, w_t3, w_t4]
  rfl
set_option maxRecDepth 65536 in
theorem w_case : (Jvm.Cond.and given_1 narrow_1).before args0 about1 = true := by decide +kernel
theorem w_applies : (headSpec (Jvm.Cond.code x code maxLocals ret :: tables_1) room_1).applies x e0.platform about1 = true :=
  (Spec.applies_iff w_frames).mpr ⟨w_running, w_runnable, w_alone, w_named, w_hears, w_ripe, w_room, w_tables⟩
theorem atStart : AtStart classFile x code maxLocals ret World_1 tables_1 room_1 Calls_1 rest_1 Pre_1 launch0 p0 e0 about1 theMethod args0 below0 :=
  ⟨lists_1, trivial, launch0.admits_env _ _ _, launch0.least_env, fairChoices_fair.cas, fairChoices_fair.clock, w_frames, w_args, w_heap, w_applies, trivial, trivial, w_case⟩
end start1
theorem witness_1 : WitnessClaimed_1 := ⟨start1.p0, start1.e0, start1.about1, start1.theMethod, start1.args0, start1.below0, start1.atStart⟩
end Jvm.Pilot.@@N@@
