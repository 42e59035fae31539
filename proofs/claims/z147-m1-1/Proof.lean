import JvmDerived
import JvmDerived.Pilot.@@N@@Statement
import JvmDerived.Pilot.@@N@@Code
set_option linter.unusedVariables false
set_option linter.unusedSimpArgs false
namespace Jvm.RoadKit
open Sem ClassFile Op Lib Jvm.Stand Jvm.Free Jvm.LawKit
section New
variable {p : Program} {l : Launch} {e : Env} {R : Room} {s : State} {m : MethodId} {args : Array Value} {below : List Frame} {meth : Method} {c : Code} {T : State} {locs : List Loc} {cells slots : Nat}
theorem retI (X : Stand p l e R s m args below meth c T locs cells slots) (hx : p.tables.exec = Jvm.exec) {pc : Nat} {Ls : Array Slot} {z : Int32} {rest : List Value} (hret : meth.sig.returnType = some .int) (hd : decode c.code pc = .ok (.ireturn, 1)) {fs : List Frame}
    (hl : ∀ (f : JFrame) (acts : List Action), f.method = m → f.locked = none → f.entered = [] → (doReturn e (T.setTop f) acts (some (.int z))).1 = T.setFrames fs) : Steps p.tables e below (T.setTop (mkF m pc Ls (.int z :: rest))) (T.setFrames fs) := by
  have hm' : T.vm.method? m = some meth := X.method'
  have hn : narrow .int (.int z) = .int z := rfl
  show Steps p.tables e below (T.setTop { method := m, pc := pc, locals := Ls, stack := _ :: rest, locked := none }) _
  jvm_step X.here [X.here.top, hx, hd, hm', hret, hn]
  first | (intro acts; rw [hl _ acts rfl rfl rfl]) | rw [hl _ _ rfl rfl rfl]
  exact Steps.refl _
end New
end Jvm.RoadKit
namespace Jvm.Pilot.@@N@@
open Jvm Jvm.ClassFile Sem Op Lib Jvm.Free Jvm.Stand Jvm.LawKit Jvm.RoadKit Bundle Jvm.Pilot.@@N@@.Jvm.D
def own_P (k : Nat) : Int := ((10 ^ k : Nat) : Int)
theorem own_P_succ (k : Nat) : own_P (k + 1) = own_P k * 10 := by
  show ((10 ^ (k + 1) : Nat) : Int) = ((10 ^ k : Nat) : Int) * 10
  rw [Nat.pow_succ]; omega
theorem own_P_le {k : Nat} (h : k ≤ 18) : 1 ≤ own_P k ∧ own_P k ≤ 1000000000000000000 := by
  have a : 10 ^ k ≤ 10 ^ 18 := Nat.pow_le_pow_right (by decide) h
  have b : 0 < 10 ^ k := Nat.pow_pos (by decide)
  have e : (10 ^ 18 : Nat) = 1000000000000000000 := by decide
  rw [e] at a
  show 1 ≤ ((10 ^ k : Nat) : Int) ∧ ((10 ^ k : Nat) : Int) ≤ 1000000000000000000
  omega
/-- r is the number of n's decimal digits -/
def own_dig (n : Int64) (r : Nat) : Prop := 1 ≤ r ∧ r ≤ 19 ∧ (r = 1 ∨ own_P (r - 1) ≤ n.toInt) ∧ (r = 19 ∨ n.toInt < own_P r)
def own_vs : List Value := [.long (1 : Int64), .long (10 : Int64), .long (100 : Int64), .long (1000 : Int64), .long (10000 : Int64), .long (100000 : Int64), .long (1000000 : Int64), .long (10000000 : Int64), .long (100000000 : Int64), .long (1000000000 : Int64), .long (10000000000 : Int64), .long (100000000000 : Int64), .long (1000000000000 : Int64), .long (10000000000000 : Int64), .long (100000000000000 : Int64), .long (1000000000000000 : Int64), .long (10000000000000000 : Int64), .long (100000000000000000 : Int64), .long (1000000000000000000 : Int64)]
def own_pw (k : Nat) : Int64 := match own_vs.getD k (.long (0 : Int64)) with | .long w => w | _ => 0
theorem own_pw_at : ∀ k : Nat, k < 19 → own_vs.getD k (.long (0 : Int64)) = .long (own_pw k) ∧ (own_pw k).toInt = own_P k := by
  intro k hk
  match k, hk with
  | 0, _ => exact ⟨rfl, by decide⟩
  | 1, _ => exact ⟨rfl, by decide⟩
  | 2, _ => exact ⟨rfl, by decide⟩
  | 3, _ => exact ⟨rfl, by decide⟩
  | 4, _ => exact ⟨rfl, by decide⟩
  | 5, _ => exact ⟨rfl, by decide⟩
  | 6, _ => exact ⟨rfl, by decide⟩
  | 7, _ => exact ⟨rfl, by decide⟩
  | 8, _ => exact ⟨rfl, by decide⟩
  | 9, _ => exact ⟨rfl, by decide⟩
  | 10, _ => exact ⟨rfl, by decide⟩
  | 11, _ => exact ⟨rfl, by decide⟩
  | 12, _ => exact ⟨rfl, by decide⟩
  | 13, _ => exact ⟨rfl, by decide⟩
  | 14, _ => exact ⟨rfl, by decide⟩
  | 15, _ => exact ⟨rfl, by decide⟩
  | 16, _ => exact ⟨rfl, by decide⟩
  | 17, _ => exact ⟨rfl, by decide⟩
  | 18, _ => exact ⟨rfl, by decide⟩
  | n + 19, h => exact absurd h (by omega)
theorem own_i {r : Nat} (h : r ≤ 19) : (Int32.ofNat r).toInt = (r : Int) := Int32.toInt_ofNat_of_lt (by omega)
theorem own_one (i : Nat) : Int32.ofNat i + (1 : Int32) = Int32.ofNat (i + 1) := (Int32.ofNat_add i 1).symm
theorem own_nat {x : Int32} {k : Nat} (h : x.toInt = (k : Int)) : x.toNatClampNeg = k := by
  show x.toInt.toNat = k; omega
theorem own_dec {r : Nat} (h1 : 1 ≤ r) (h : r ≤ 19) : (Int32.ofNat r - (1 : Int32)).toInt = ((r - 1 : Nat) : Int) := by
  have a := c_isub (Int32.ofNat r) 1
  have b := own_i h
  have e : (1 : Int32).toInt = 1 := by decide
  have d := rng32 (Int32.ofNat r - 1)
  omega
/-- the array's place j: inside, and what it holds -/
theorem own_in {cl : Cell} {j : Int32} {k : Nat} (S : cl.slots.size = (19 : Int32).toNatClampNeg) (hj : j.toInt = (k : Int)) (hk : k < 19) : ¬ (j < 0 ∨ cl.slots.size ≤ j.toNatClampNeg) := by
  rw [own_nat hj, S, Int32.lt_iff_toInt_lt, hj]
  have e : (0 : Int32).toInt = 0 := by decide
  have e2 : (19 : Int32).toNatClampNeg = 19 := by decide
  omega
theorem own_ld {cl : Cell} {j : Int32} {k : Nat} (S : cl.slots.size = (19 : Int32).toNatClampNeg) (H : Has cl own_vs (.long (0 : Int64))) (hj : j.toInt = (k : Int)) (hk : k < 19) : cl.slots[j.toNatClampNeg]? = some (.long (own_pw k)) := by
  rw [own_nat hj, H k (by rw [S]; exact hk), (own_pw_at k hk).1]
theorem own_k (s : Int32) : 0 ≤ ((s &&& (2147483647 : Int32)) % (19 : Int32)).toInt ∧ ((s &&& (2147483647 : Int32)) % (19 : Int32)).toInt < 19 := by
  have a := c_mask s 2147483647 31 (by decide) (by decide)
  have b := (c_irem (s &&& 2147483647) 19 19 (by decide)).1 (by rw [a]; omega)
  omega
theorem own_low {n : Int64} {r : Nat} (h : own_dig n r) (h1 : ¬ (Int32.ofNat r = (1 : Int32))) : ¬ ((lcmpW n (own_pw (r - 1))) < (0 : Int32)) := by
  obtain ⟨a, b, c, d⟩ := h
  rw [lw_lt, Int64.lt_iff_toInt_lt, (own_pw_at (r - 1) (by omega)).2]
  rcases c with rfl | c
  · exact absurd rfl h1
  · omega
theorem own_high {n : Int64} {r : Nat} (h : own_dig n r) (h1 : ¬ (Int32.ofNat r = (19 : Int32))) : (lcmpW n (own_pw r)) < (0 : Int32) := by
  obtain ⟨a, b, c, d⟩ := h
  rcases d with rfl | d
  · exact absurd rfl h1
  · by_cases q : r = 19
    · subst q; exact absurd rfl h1
    · rw [lw_lt, Int64.lt_iff_toInt_lt, (own_pw_at r (by omega)).2]; exact d
theorem own_ge {n : Int64} {r : Nat} (h : own_dig n r) : ¬ (Int32.ofNat r < (1 : Int32)) ∧ ¬ ((19 : Int32) < Int32.ofNat r) := by
  obtain ⟨a, b, -, -⟩ := h
  rw [Int32.lt_iff_toInt_lt, Int32.lt_iff_toInt_lt, own_i b]
  have e : (1 : Int32).toInt = 1 := by decide
  have e2 : (19 : Int32).toInt = 19 := by decide
  omega
theorem own_ne19 {r : Nat} (h : r ≤ 19) (h1 : ¬ (Int32.ofNat r = (19 : Int32))) : r < 19 := by
  rcases Nat.lt_or_ge r 19 with q | q
  · exact q
  · have : r = 19 := by omega
    subst this; exact absurd rfl h1
theorem d1_6 : decode prog_94_method_8_code 6 = .ok (.iload_n 2, 1) := by decide +kernel
theorem d1_7 : decode prog_94_method_8_code 7 = .ok (.bipush 19, 2) := by decide +kernel
theorem d1_9 : decode prog_94_method_8_code 9 = .ok (.if_icmp .ge 21, 3) := by decide +kernel
theorem d1_12 : decode prog_94_method_8_code 12 = .ok (.lload_n 0, 1) := by decide +kernel
theorem d1_13 : decode prog_94_method_8_code 13 = .ok (.lload_n 3, 1) := by decide +kernel
theorem d1_14 : decode prog_94_method_8_code 14 = .ok (.lcmp, 1) := by decide +kernel
theorem d1_15 : decode prog_94_method_8_code 15 = .ok (.ifCond .lt 15, 3) := by decide +kernel
theorem d1_18 : decode prog_94_method_8_code 18 = .ok (.iinc 2 1, 3) := by decide +kernel
theorem d1_21 : decode prog_94_method_8_code 21 = .ok (.lload_n 3, 1) := by decide +kernel
theorem d1_22 : decode prog_94_method_8_code 22 = .ok (.ldc2_w 23, 3) := by decide +kernel
theorem d1_25 : decode prog_94_method_8_code 25 = .ok (.lmul, 1) := by decide +kernel
theorem d1_26 : decode prog_94_method_8_code 26 = .ok (.lstore_n 3, 1) := by decide +kernel
theorem d1_27 : decode prog_94_method_8_code 27 = .ok (.goto (-21), 3) := by decide +kernel
set_option maxRecDepth 65536 in
set_option maxHeartbeats 40000000 in
theorem tn1_6_6 {p : Program} {l : Launch} {e : Env} {R : Room} {s : State} {m : MethodId} {args : Array Value} {below : List Frame} {meth : Method} {c : Code} {T0 : State} {locs : List Loc} {cells slots : Nat} {Z : State} {a0 : Array Value} {h0 : Heap} (j0 : Int64) (i2 : Int32) (j3 : Int64)
    (X0 : Stand p l e R s m args below meth c T0 locs cells slots) (hx : p.tables.exec = Jvm.exec) (hZ : Z.Warmed39 s.vm) (hw : ∀ d ∈ tables_1, d.before a0 Z = true) (hby : c.code = prog_94_method_8_code) (hml : c.maxLocals = 5) (hown : s.vm.findClass "com/example/compendio/compendio/formats/Counts" = some m.cls) (e0 : T0.heap = h0) (hc9 : i2 < (19 : Int32)) (hc15 : ¬ ((lcmpW j0 j3) < (0 : Int32))) :
    ∀ target, Steps p.tables e below (T0.setTop (mkF m 6 #[.val (.long j0), .second, .val (.int (i2 + (1 : Int32))), .val (.long (j3 * (10 : Int64))), .second] [])) target → Steps p.tables e below (T0.setTop (mkF m 6 #[.val (.long j0), .second, .val (.int i2), .val (.long j3), .second] [])) target := by
  -- 3. LAWS

  intro target kt
  -- 4. STEPS
  show Steps p.tables e below (T0.setTop (mkF m 6 #[.val (.long j0), .second, .val (.int i2), .val (.long j3), .second] [])) _
  refine XS.iloadN X0.here hx rfl (hb hby d1_6) rfl ?_
  show Steps p.tables e below (T0.setTop (mkF m 7 #[.val (.long j0), .second, .val (.int i2), .val (.long j3), .second] [(.int i2)])) _
  refine XS.bipush X0.here hx rfl (hb hby d1_7) ?_
  show Steps p.tables e below (T0.setTop (mkF m 9 #[.val (.long j0), .second, .val (.int i2), .val (.long j3), .second] [(.int (19 : Int32)), (.int i2)])) _
  refine XS.icmpNo X0.here hx rfl (hb hby d1_9) rfl (tlt hc9).2.1 ?_
  show Steps p.tables e below (T0.setTop (mkF m 12 #[.val (.long j0), .second, .val (.int i2), .val (.long j3), .second] [])) _
  refine XS.lloadN X0.here hx rfl (hb hby d1_12) rfl ?_
  show Steps p.tables e below (T0.setTop (mkF m 13 #[.val (.long j0), .second, .val (.int i2), .val (.long j3), .second] [(.long j0)])) _
  refine XS.lloadN X0.here hx rfl (hb hby d1_13) rfl ?_
  show Steps p.tables e below (T0.setTop (mkF m 14 #[.val (.long j0), .second, .val (.int i2), .val (.long j3), .second] [(.long j3), (.long j0)])) _
  refine XS.lcmp X0.here hx rfl (hb hby d1_14) rfl ?_
  show Steps p.tables e below (T0.setTop (mkF m 15 #[.val (.long j0), .second, .val (.int i2), .val (.long j3), .second] [(.int (lcmpW j0 j3))])) _
  refine XS.ifNo X0.here hx rfl (hb hby d1_15) rfl ((if0 _ _).trans (flt hc15).1) ?_
  show Steps p.tables e below (T0.setTop (mkF m 18 #[.val (.long j0), .second, .val (.int i2), .val (.long j3), .second] [])) _
  refine XS.iinc X0.here hx rfl (hb hby d1_18) rfl (l' := #[.val (.long j0), .second, .val (.int (i2 + (1 : Int32))), .val (.long j3), .second]) rfl ?_
  show Steps p.tables e below (T0.setTop (mkF m 21 #[.val (.long j0), .second, .val (.int (i2 + (1 : Int32))), .val (.long j3), .second] [])) _
  refine XS.lloadN X0.here hx rfl (hb hby d1_21) rfl ?_
  show Steps p.tables e below (T0.setTop (mkF m 22 #[.val (.long j0), .second, .val (.int (i2 + (1 : Int32))), .val (.long j3), .second] [(.long j3)])) _
  refine X0.ldc2Long hx hown (mvT hZ (hw _ (List.mem_of_getElem? (i := 24) rfl))) (g := (mkF m 22 #[.val (.long j0), .second, .val (.int (i2 + (1 : Int32))), .val (.long j3), .second] [(.long j3)])) rfl (hb hby d1_22) _ ?_
  show Steps p.tables e below (T0.setTop (mkF m 25 #[.val (.long j0), .second, .val (.int (i2 + (1 : Int32))), .val (.long j3), .second] [(.long (10 : Int64)), (.long j3)])) _
  refine XS.lmul X0.here hx rfl (hb hby d1_25) rfl ?_
  show Steps p.tables e below (T0.setTop (mkF m 26 #[.val (.long j0), .second, .val (.int (i2 + (1 : Int32))), .val (.long j3), .second] [(.long (j3 * (10 : Int64)))])) _
  refine XS.lstoreN X0.here hx rfl (hb hby d1_26) rfl (l' := #[.val (.long j0), .second, .val (.int (i2 + (1 : Int32))), .val (.long (j3 * (10 : Int64))), .second]) rfl ?_
  show Steps p.tables e below (T0.setTop (mkF m 27 #[.val (.long j0), .second, .val (.int (i2 + (1 : Int32))), .val (.long (j3 * (10 : Int64))), .second] [])) _
  refine XS.goto X0.here hx rfl (pc0 := 27) (pc' := 6) rfl (hb hby d1_27) (by decide) (by decide) ?_
  exact kt
set_option maxRecDepth 65536 in
set_option maxHeartbeats 40000000 in
theorem tn1_6_30 {p : Program} {l : Launch} {e : Env} {R : Room} {s : State} {m : MethodId} {args : Array Value} {below : List Frame} {meth : Method} {c : Code} {T0 : State} {locs : List Loc} {cells slots : Nat} {Z : State} {a0 : Array Value} {h0 : Heap} (s0 : Slot) (s1 : Slot) (i2 : Int32) (s3 : Slot) (s4 : Slot)
    (X0 : Stand p l e R s m args below meth c T0 locs cells slots) (hx : p.tables.exec = Jvm.exec) (hZ : Z.Warmed39 s.vm) (hw : ∀ d ∈ tables_1, d.before a0 Z = true) (hby : c.code = prog_94_method_8_code) (hml : c.maxLocals = 5) (hown : s.vm.findClass "com/example/compendio/compendio/formats/Counts" = some m.cls) (e0 : T0.heap = h0) (hc9 : ¬ (i2 < (19 : Int32))) :
    ∀ target, Steps p.tables e below (T0.setTop (mkF m 30 #[s0, s1, .val (.int i2), s3, s4] [])) target → Steps p.tables e below (T0.setTop (mkF m 6 #[s0, s1, .val (.int i2), s3, s4] [])) target := by
  -- 3. LAWS

  intro target kt
  -- 4. STEPS
  show Steps p.tables e below (T0.setTop (mkF m 6 #[s0, s1, .val (.int i2), s3, s4] [])) _
  refine XS.iloadN X0.here hx rfl (hb hby d1_6) rfl ?_
  show Steps p.tables e below (T0.setTop (mkF m 7 #[s0, s1, .val (.int i2), s3, s4] [(.int i2)])) _
  refine XS.bipush X0.here hx rfl (hb hby d1_7) ?_
  show Steps p.tables e below (T0.setTop (mkF m 9 #[s0, s1, .val (.int i2), s3, s4] [(.int (19 : Int32)), (.int i2)])) _
  refine XS.icmpYes X0.here hx rfl (pc0 := 9) (pc' := 30) rfl (hb hby d1_9) rfl (flt hc9).2.1 (by decide) (by decide) ?_
  exact kt
set_option maxRecDepth 65536 in
set_option maxHeartbeats 40000000 in
theorem tn1_6_30b {p : Program} {l : Launch} {e : Env} {R : Room} {s : State} {m : MethodId} {args : Array Value} {below : List Frame} {meth : Method} {c : Code} {T0 : State} {locs : List Loc} {cells slots : Nat} {Z : State} {a0 : Array Value} {h0 : Heap} (j0 : Int64) (i2 : Int32) (j3 : Int64)
    (X0 : Stand p l e R s m args below meth c T0 locs cells slots) (hx : p.tables.exec = Jvm.exec) (hZ : Z.Warmed39 s.vm) (hw : ∀ d ∈ tables_1, d.before a0 Z = true) (hby : c.code = prog_94_method_8_code) (hml : c.maxLocals = 5) (hown : s.vm.findClass "com/example/compendio/compendio/formats/Counts" = some m.cls) (e0 : T0.heap = h0) (hc9 : i2 < (19 : Int32)) (hc15 : (lcmpW j0 j3) < (0 : Int32)) :
    ∀ target, Steps p.tables e below (T0.setTop (mkF m 30 #[.val (.long j0), .second, .val (.int i2), .val (.long j3), .second] [])) target → Steps p.tables e below (T0.setTop (mkF m 6 #[.val (.long j0), .second, .val (.int i2), .val (.long j3), .second] [])) target := by
  -- 3. LAWS

  intro target kt
  -- 4. STEPS
  show Steps p.tables e below (T0.setTop (mkF m 6 #[.val (.long j0), .second, .val (.int i2), .val (.long j3), .second] [])) _
  refine XS.iloadN X0.here hx rfl (hb hby d1_6) rfl ?_
  show Steps p.tables e below (T0.setTop (mkF m 7 #[.val (.long j0), .second, .val (.int i2), .val (.long j3), .second] [(.int i2)])) _
  refine XS.bipush X0.here hx rfl (hb hby d1_7) ?_
  show Steps p.tables e below (T0.setTop (mkF m 9 #[.val (.long j0), .second, .val (.int i2), .val (.long j3), .second] [(.int (19 : Int32)), (.int i2)])) _
  refine XS.icmpNo X0.here hx rfl (hb hby d1_9) rfl (tlt hc9).2.1 ?_
  show Steps p.tables e below (T0.setTop (mkF m 12 #[.val (.long j0), .second, .val (.int i2), .val (.long j3), .second] [])) _
  refine XS.lloadN X0.here hx rfl (hb hby d1_12) rfl ?_
  show Steps p.tables e below (T0.setTop (mkF m 13 #[.val (.long j0), .second, .val (.int i2), .val (.long j3), .second] [(.long j0)])) _
  refine XS.lloadN X0.here hx rfl (hb hby d1_13) rfl ?_
  show Steps p.tables e below (T0.setTop (mkF m 14 #[.val (.long j0), .second, .val (.int i2), .val (.long j3), .second] [(.long j3), (.long j0)])) _
  refine XS.lcmp X0.here hx rfl (hb hby d1_14) rfl ?_
  show Steps p.tables e below (T0.setTop (mkF m 15 #[.val (.long j0), .second, .val (.int i2), .val (.long j3), .second] [(.int (lcmpW j0 j3))])) _
  refine XS.ifYes X0.here hx rfl (pc0 := 15) (pc' := 30) rfl (hb hby d1_15) rfl ((if0 _ _).trans (tlt hc15).1) (by decide) (by decide) ?_
  exact kt
theorem own_loop {p : Program} {l : Launch} {e : Env} {R : Room} {s : State} {m : MethodId} {args : Array Value} {below : List Frame} {meth : Method} {c : Code} {T0 : State} {locs : List Loc} {cells slots : Nat} {Z : State} {a0 : Array Value} {h0 : Heap} (j0 : Int64)
    (X0 : Stand p l e R s m args below meth c T0 locs cells slots) (hx : p.tables.exec = Jvm.exec) (hZ : Z.Warmed39 s.vm) (hw : ∀ d ∈ tables_1, d.before a0 Z = true) (hby : c.code = prog_94_method_8_code) (hml : c.maxLocals = 5) (hown : s.vm.findClass "com/example/compendio/compendio/formats/Counts" = some m.cls) (e0 : T0.heap = h0) :
    ∀ (k d : Nat) (j3 : Int64), d + k = 19 → 1 ≤ d → (d ≤ 18 → j3.toInt = own_P d) → (d = 1 ∨ own_P (d - 1) ≤ j0.toInt) →
      ∃ (r : Nat) (jr : Int64), own_dig j0 r ∧ ∀ target, Steps p.tables e below (T0.setTop (mkF m 30 #[.val (.long j0), .second, .val (.int (Int32.ofNat r)), .val (.long jr), .second] [])) target → Steps p.tables e below (T0.setTop (mkF m 6 #[.val (.long j0), .second, .val (.int (Int32.ofNat d)), .val (.long j3), .second] [])) target := by
  intro k
  induction k with
  | zero =>
    intro d j3 h1 h2 h3 h4
    have hd : d = 19 := by omega
    subst hd
    exact ⟨19, j3, ⟨by decide, Nat.le_refl _, h4, Or.inl rfl⟩, tn1_6_30 _ _ (Int32.ofNat 19) _ _ X0 hx hZ hw hby hml hown e0 (by decide)⟩
  | succ k ih =>
    intro d j3 h1 h2 h3 h4
    have h19 : Int32.ofNat d < (19 : Int32) := by
      rw [Int32.lt_iff_toInt_lt, own_i (by omega)]
      have e2 : (19 : Int32).toInt = 19 := by decide
      omega
    have hj := h3 (by omega)
    by_cases hc : (lcmpW j0 j3) < (0 : Int32)
    · refine ⟨d, j3, ⟨h2, by omega, h4, Or.inr ?_⟩, tn1_6_30b j0 (Int32.ofNat d) j3 X0 hx hZ hw hby hml hown e0 h19 hc⟩
      rw [lw_lt, Int64.lt_iff_toInt_lt, hj] at hc; exact hc
    · have hq : own_P d ≤ j0.toInt := by
        have hc' := hc
        rw [lw_lt, Int64.lt_iff_toInt_lt, hj] at hc'; omega
      obtain ⟨r, jr, hr, st⟩ := ih (d + 1) (j3 * (10 : Int64)) (by omega) (by omega) (fun hd => by
        have a := c_lmul j3 10
        have e10 : (10 : Int64).toInt = 10 := by decide
        rw [e10, hj] at a
        have b := own_P_le (k := d + 1) (by omega)
        rw [own_P_succ] at b ⊢
        have c' := rng64 (j3 * 10)
        omega) (Or.inr (by rw [Nat.add_sub_cancel]; exact hq))
      refine ⟨r, jr, hr, fun target kt => ?_⟩
      refine tn1_6_6 j0 (Int32.ofNat d) j3 X0 hx hZ hw hby hml hown e0 h19 hc target ?_
      rw [own_one]
      exact st target kt
theorem d1_0 : decode prog_94_method_8_code 0 = .ok (.iconst 1, 1) := by decide +kernel
theorem d1_1 : decode prog_94_method_8_code 1 = .ok (.istore_n 2, 1) := by decide +kernel
theorem d1_2 : decode prog_94_method_8_code 2 = .ok (.ldc2_w 23, 3) := by decide +kernel
theorem d1_5 : decode prog_94_method_8_code 5 = .ok (.lstore_n 3, 1) := by decide +kernel
theorem d1_30 : decode prog_94_method_8_code 30 = .ok (.iload_n 2, 1) := by decide +kernel
theorem d1_31 : decode prog_94_method_8_code 31 = .ok (.ireturn, 1) := by decide +kernel
theorem pn_1 : plainName "com/example/compendio/compendio/formats/Counts" = true := by first | (simp [plainName, overriddenIn]; done) | decide +kernel
theorem ef_1 (m : MethodId) (x0 : Int64) : entryFrame m #[(.long x0)] 5 = mkF m 0 #[.val (.long x0), .second, .unset, .unset, .unset] [] := by first | (simp [entryFrame, mkF, argsToLocals, Value.category]; done) | rfl
def Q1 (Z : State) (q1 : Int64) (h0 : Heap) (n0 : Nat) (v : Option Value) (h : Heap) (L : List Loc) : Prop := ∃ r : Nat, v = some (.int (Int32.ofNat r)) ∧ own_dig q1 r ∧ Fr n0 L ∧ h = h0
set_option maxRecDepth 65536 in
set_option maxHeartbeats 40000000 in
theorem rm1 (l : Launch) (Z : State) (a0 : Array Value) (hw : ∀ d ∈ tables_1, d.before a0 Z = true) (ws : List Jvm.Cond) (q1 : Int64) (h0 : Heap) (n0 : Nat) (Z0 : n0 ≤ h0.size) :
    MetFree l (⟨"com/example/compendio/compendio/formats/Counts", "digits", "(J)I"⟩ : MethodName) (head1 (Jvm.Cond.code (⟨"com/example/compendio/compendio/formats/Counts", "digits", "(J)I"⟩ : MethodName) prog_94_method_8_code 5 (some .int) :: ws) ({ frames := 0, cells := 0, slots := 0, locals := 0 } : Room)) (fun a U => a = #[(.long q1)] ∧ Z.Warmed39 U.vm ∧ U.heap = h0) (fun _ _ _ _ _ => True) (fun _ U o U' => ∃ v L, o = .returned v ∧ Q1 Z q1 h0 n0 v U'.heap L ∧ FrameEnd U o U' L ({ frames := 0, cells := 0, slots := 0, locals := 0 } : Room).cells ({ frames := 0, cells := 0, slots := 0, locals := 0 } : Room).slots) := by
  refine MetFree.of_bodySF (plainFor_of_name pn_1) hisR ?_
  intro p e s m args below meth c s₁ Bd hml0 hP hK
  obtain ⟨rfl, hZ, hh⟩ := hP
  have hx := Bd.exec
  have hby := Bd.bytes
  have hml : c.maxLocals = 5 := hml0
  have hown : s.vm.findClass "com/example/compendio/compendio/formats/Counts" = some m.cls := findClass_of_methodNamed Bd.named
  have hnm := (name_of_methodNamed Bd.named Bd.method).1
  have X0 : Stand p l e ({ frames := 0, cells := 0, slots := 0, locals := 0 } : Room) s m #[(.long q1)] below meth c s₁ [] 0 0 := Stand.of_body Bd
  have e0 : s₁.heap = h0 := by rw [← hh, Bd.state]; rfl
  have N0 := Fr.nil n0
  have pre0 : ∀ t, Steps p.tables e below (s₁.setTop (mkF m 0 #[.val (.long q1), .second, .unset, .unset, .unset] [])) t → Steps p.tables e below (s₁.setTop (entryFrame m #[(.long q1)] 5)) t := fun t k => castTop (ef_1 m q1) k
  obtain ⟨r, jr, hdig, stl⟩ := own_loop q1 X0 hx hZ hw hby hml hown e0 18 1 (10 : Int64) rfl (Nat.le_refl _) (fun _ => by decide) (Or.inl rfl)
  obtain ⟨fs, hr, hrun, hended, hW, hsame⟩ := X0.leave (v := some (.int (Int32.ofNat r))) (fun h => by rw [Bd.returns] at h; cases h)
  refine ⟨_, _, pre0 _ ?_, hrun, hended, _, _, rfl, ?_, ⟨_, rfl⟩, hW, hsame.mono (by decide) (by decide)⟩
  · show Steps p.tables e below (s₁.setTop (mkF m 0 #[.val (.long q1), .second, .unset, .unset, .unset] [])) _
    refine XS.iconst X0.here hx rfl (hb hby d1_0) ?_
    show Steps p.tables e below (s₁.setTop (mkF m 1 #[.val (.long q1), .second, .unset, .unset, .unset] [(.int (1 : Int32))])) _
    refine XS.istoreN X0.here hx rfl (hb hby d1_1) rfl (l' := #[.val (.long q1), .second, .val (.int (1 : Int32)), .unset, .unset]) rfl ?_
    show Steps p.tables e below (s₁.setTop (mkF m 2 #[.val (.long q1), .second, .val (.int (1 : Int32)), .unset, .unset] [])) _
    refine X0.ldc2Long hx hown (mvT hZ (hw _ (List.mem_of_getElem? (i := 24) rfl))) (g := (mkF m 2 #[.val (.long q1), .second, .val (.int (1 : Int32)), .unset, .unset] [])) rfl (hb hby d1_2) _ ?_
    show Steps p.tables e below (s₁.setTop (mkF m 5 #[.val (.long q1), .second, .val (.int (1 : Int32)), .unset, .unset] [(.long (10 : Int64))])) _
    refine XS.lstoreN X0.here hx rfl (hb hby d1_5) rfl (l' := #[.val (.long q1), .second, .val (.int (1 : Int32)), .val (.long (10 : Int64)), .second]) rfl ?_
    show Steps p.tables e below (s₁.setTop (mkF m 6 #[.val (.long q1), .second, .val (.int (1 : Int32)), .val (.long (10 : Int64)), .second] [])) _
    refine stl _ ?_
    show Steps p.tables e below (s₁.setTop (mkF m 30 #[.val (.long q1), .second, .val (.int (Int32.ofNat r)), .val (.long jr), .second] [])) _
    refine XS.iloadN X0.here hx rfl (hb hby d1_30) rfl ?_
    show Steps p.tables e below (s₁.setTop (mkF m 31 #[.val (.long q1), .second, .val (.int (Int32.ofNat r)), .val (.long jr), .second] [(.int (Int32.ofNat r))])) _
    exact retI X0 hx Bd.returns (hb hby d1_31) hr      -- retI stands in the head ('lawwalk <made dir>' prints it)
  · show Q1 Z q1 h0 n0 _ s₁.heap _
    rw [e0]
    exact ⟨r, rfl, hdig, N0, rfl⟩
def Q0 (Z : State) (q1 : Int64) (p2 : Int32) (p3 : Int32) (h0 : Heap) (n0 : Nat) (v : Option Value) (h : Heap) (L : List Loc) : Prop := v = some (.int (1 : Int32)) ∧ Fr n0 L
theorem pn_0 : plainName "com/example/compendio/compendio/formats/CountsDigitsPinLaw" = true := by first | (simp [plainName, overriddenIn]; done) | decide +kernel
theorem pd_0_0 : parseMethodDescriptor "(J)I" = some ⟨[.long], some .int⟩ := by decide +kernel
theorem ef_0 (m : MethodId) (x0 : Int64) (x1 : Int32) (x2 : Int32) : entryFrame m #[(.long x0), (.int x1), (.int x2)] maxLocals = mkF m 0 #[.val (.long x0), .second, .val (.int x1), .val (.int x2), .unset, .unset, .unset, .unset, .unset, .unset] [] := by first | (simp [entryFrame, mkF, argsToLocals, Value.category, maxLocals]; done) | rfl
set_option maxRecDepth 65536 in
set_option maxHeartbeats 40000000 in
theorem rm0a (l : Launch) (Z : State) (a0 : Array Value) (hw : ∀ d ∈ tables_1, d.before a0 Z = true) (ws : List Jvm.Cond) (q1 : Int64) (p2 : Int32) (p3 : Int32) (h0 : Heap) (n0 : Nat) (Z0 : n0 ≤ h0.size) (hc134 : ¬ ((p3 &&& (1 : Int32)) = (0 : Int32))) :
    MetFree l x (head1 (Jvm.Cond.code x code maxLocals ret :: ws) room_1) (fun a U => a = #[(.long q1), (.int p2), (.int p3)] ∧ Z.Warmed39 U.vm ∧ U.heap = h0) (fun _ _ _ _ _ => True) (fun _ U o U' => ∃ v L, o = .returned v ∧ Q0 Z q1 p2 p3 h0 n0 v U'.heap L ∧ FrameEnd U o U' L room_1.cells room_1.slots) := by
  refine MetFree.of_bodySF (plainFor_of_name pn_0) hisR ?_
  intro p e s m args below meth c s₁ Bd hml0 hP hK
  obtain ⟨rfl, hZ, hh⟩ := hP
  have hx := Bd.exec
  have hby := Bd.bytes
  have hml : c.maxLocals = 10 := hml0
  have hown : s.vm.findClass "com/example/compendio/compendio/formats/CountsDigitsPinLaw" = some m.cls := findClass_of_methodNamed Bd.named
  have hnm := (name_of_methodNamed Bd.named Bd.method).1
  have X0 : Stand p l e room_1 s m #[(.long q1), (.int p2), (.int p3)] below meth c s₁ [] 0 0 := Stand.of_body Bd
  have e0 : s₁.heap = h0 := by rw [← hh, Bd.state]; rfl
  have N0 := Fr.nil n0
  have pre0 : ∀ t, Steps p.tables e below (s₁.setTop (mkF m 0 #[.val (.long q1), .second, .val (.int p2), .val (.int p3), .unset, .unset, .unset, .unset, .unset, .unset] [])) t → Steps p.tables e below (s₁.setTop (entryFrame m #[(.long q1), (.int p2), (.int p3)] maxLocals)) t := fun t k => castTop (ef_0 m q1 p2 p3) k
  -- 3. LAWS
  obtain ⟨T4, h4, k4, X4, e4, E4, A4, st4⟩ := newP X0 hx hZ (hw _ (List.mem_of_getElem? (i := 0) rfl)) e0 (g := (mkF m 2 #[.val (.long q1), .second, .val (.int p2), .val (.int p3), .unset, .unset, .unset, .unset, .unset, .unset] [(.int (19 : Int32))])) rfl (hb hby at_2) rfl (by decide) (cap := 19) (by decide) (by decide) (by decide) (by decide)
  obtain ⟨b4, g4⟩ : ∃ z, z = h0.size := ⟨_, rfl⟩      -- the fresh array's address
  rw [← g4] at A4 st4
  have V_b4 : Arv Z h4 b4 k4 .long (19 : Int32) [(.long (0 : Int64)), (.long (0 : Int64)), (.long (0 : Int64)), (.long (0 : Int64)), (.long (0 : Int64)), (.long (0 : Int64)), (.long (0 : Int64)), (.long (0 : Int64)), (.long (0 : Int64)), (.long (0 : Int64)), (.long (0 : Int64)), (.long (0 : Int64)), (.long (0 : Int64)), (.long (0 : Int64)), (.long (0 : Int64)), (.long (0 : Int64)), (.long (0 : Int64)), (.long (0 : Int64)), (.long (0 : Int64))] (.long (0 : Int64)) := (Arv.new A4 (by decide)).pad (pad_rep [] (.long (0 : Int64)) 19)
  have g_b4 : n0 ≤ b4 := Nat.le_trans Z0 (Nat.le_of_eq g4.symm)
  have sz_b4 : h0.size ≤ b4 := (Nat.le_trans (Keep.refl h0 []).1 (Nat.le_of_eq g4.symm))
  have K4 : Keep h0 h4 [] := (Keep.refl h0 []).ext E4
  obtain ⟨cl_b4_7, Ar_b4, q_b4, S_b4, N_b4, H_b4, G_b4⟩ := V_b4      -- open the array's fact as it stands now (its cell, kind, length, elements)
  have hin7 : ¬ ((0 : Int32) < 0 ∨ cl_b4_7.slots.size ≤ ((0 : Int32)).toNatClampNeg) := inb_of S_b4 ⟨by decide, by decide⟩
  obtain ⟨T5, h5, X5, e5, W5, st5⟩ := stJ X4 hx hZ e4 Ar_b4 (j := (0 : Int32)) hin7 (g := (mkF m 7 #[.val (.long q1), .second, .val (.int p2), .val (.int p3), .unset, .unset, .unset, .unset, .unset, .unset] [(.long (1 : Int64)), (.int (0 : Int32)), (.ref b4), (.ref b4)])) rfl rfl (hb hby at_7)
  have V_b4_5 := Arv.set Ar_b4 q_b4 S_b4 N_b4 H_b4 G_b4 rfl W5 0 rfl (Nat.le_of_ble_eq_true rfl)      -- the array as it stands now (the place must lie among its first values: Arv.pad with pad_rep lengthens them)
  have K5 : Keep h0 h5 [] := K4.wr W5 (Or.inr sz_b4)
  have N5 := Fr.snoc X5 N0 g_b4
  obtain ⟨cl_b4_13, Ar_b4, q_b4, S_b4, N_b4, H_b4, G_b4⟩ := V_b4_5      -- open the array's fact as it stands now (its cell, kind, length, elements)
  have hin13 : ¬ ((1 : Int32) < 0 ∨ cl_b4_13.slots.size ≤ ((1 : Int32)).toNatClampNeg) := inb_of S_b4 ⟨by decide, by decide⟩
  obtain ⟨T6, h6, X6, e6, W6, st6⟩ := stJ X5 hx hZ e5 Ar_b4 (j := (1 : Int32)) hin13 (g := (mkF m 13 #[.val (.long q1), .second, .val (.int p2), .val (.int p3), .unset, .unset, .unset, .unset, .unset, .unset] [(.long (10 : Int64)), (.int (1 : Int32)), (.ref b4), (.ref b4)])) rfl rfl (hb hby at_13)
  have V_b4_6 := Arv.set Ar_b4 q_b4 S_b4 N_b4 H_b4 G_b4 rfl W6 1 rfl (Nat.le_of_ble_eq_true rfl)      -- the array as it stands now (the place must lie among its first values: Arv.pad with pad_rep lengthens them)
  have K6 : Keep h0 h6 [] := K5.wr W6 (Or.inr sz_b4)
  have N6 := Fr.snoc X6 N5 g_b4
  obtain ⟨cl_b4_19, Ar_b4, q_b4, S_b4, N_b4, H_b4, G_b4⟩ := V_b4_6      -- open the array's fact as it stands now (its cell, kind, length, elements)
  have hin19 : ¬ ((2 : Int32) < 0 ∨ cl_b4_19.slots.size ≤ ((2 : Int32)).toNatClampNeg) := inb_of S_b4 ⟨by decide, by decide⟩
  obtain ⟨T7, h7, X7, e7, W7, st7⟩ := stJ X6 hx hZ e6 Ar_b4 (j := (2 : Int32)) hin19 (g := (mkF m 19 #[.val (.long q1), .second, .val (.int p2), .val (.int p3), .unset, .unset, .unset, .unset, .unset, .unset] [(.long (100 : Int64)), (.int (2 : Int32)), (.ref b4), (.ref b4)])) rfl rfl (hb hby at_19)
  have V_b4_7 := Arv.set Ar_b4 q_b4 S_b4 N_b4 H_b4 G_b4 rfl W7 2 rfl (Nat.le_of_ble_eq_true rfl)      -- the array as it stands now (the place must lie among its first values: Arv.pad with pad_rep lengthens them)
  have K7 : Keep h0 h7 [] := K6.wr W7 (Or.inr sz_b4)
  have N7 := Fr.snoc X7 N6 g_b4
  obtain ⟨cl_b4_25, Ar_b4, q_b4, S_b4, N_b4, H_b4, G_b4⟩ := V_b4_7      -- open the array's fact as it stands now (its cell, kind, length, elements)
  have hin25 : ¬ ((3 : Int32) < 0 ∨ cl_b4_25.slots.size ≤ ((3 : Int32)).toNatClampNeg) := inb_of S_b4 ⟨by decide, by decide⟩
  obtain ⟨T8, h8, X8, e8, W8, st8⟩ := stJ X7 hx hZ e7 Ar_b4 (j := (3 : Int32)) hin25 (g := (mkF m 25 #[.val (.long q1), .second, .val (.int p2), .val (.int p3), .unset, .unset, .unset, .unset, .unset, .unset] [(.long (1000 : Int64)), (.int (3 : Int32)), (.ref b4), (.ref b4)])) rfl rfl (hb hby at_25)
  have V_b4_8 := Arv.set Ar_b4 q_b4 S_b4 N_b4 H_b4 G_b4 rfl W8 3 rfl (Nat.le_of_ble_eq_true rfl)      -- the array as it stands now (the place must lie among its first values: Arv.pad with pad_rep lengthens them)
  have K8 : Keep h0 h8 [] := K7.wr W8 (Or.inr sz_b4)
  have N8 := Fr.snoc X8 N7 g_b4
  obtain ⟨cl_b4_31, Ar_b4, q_b4, S_b4, N_b4, H_b4, G_b4⟩ := V_b4_8      -- open the array's fact as it stands now (its cell, kind, length, elements)
  have hin31 : ¬ ((4 : Int32) < 0 ∨ cl_b4_31.slots.size ≤ ((4 : Int32)).toNatClampNeg) := inb_of S_b4 ⟨by decide, by decide⟩
  obtain ⟨T9, h9, X9, e9, W9, st9⟩ := stJ X8 hx hZ e8 Ar_b4 (j := (4 : Int32)) hin31 (g := (mkF m 31 #[.val (.long q1), .second, .val (.int p2), .val (.int p3), .unset, .unset, .unset, .unset, .unset, .unset] [(.long (10000 : Int64)), (.int (4 : Int32)), (.ref b4), (.ref b4)])) rfl rfl (hb hby at_31)
  have V_b4_9 := Arv.set Ar_b4 q_b4 S_b4 N_b4 H_b4 G_b4 rfl W9 4 rfl (Nat.le_of_ble_eq_true rfl)      -- the array as it stands now (the place must lie among its first values: Arv.pad with pad_rep lengthens them)
  have K9 : Keep h0 h9 [] := K8.wr W9 (Or.inr sz_b4)
  have N9 := Fr.snoc X9 N8 g_b4
  obtain ⟨cl_b4_37, Ar_b4, q_b4, S_b4, N_b4, H_b4, G_b4⟩ := V_b4_9      -- open the array's fact as it stands now (its cell, kind, length, elements)
  have hin37 : ¬ ((5 : Int32) < 0 ∨ cl_b4_37.slots.size ≤ ((5 : Int32)).toNatClampNeg) := inb_of S_b4 ⟨by decide, by decide⟩
  obtain ⟨T10, h10, X10, e10, W10, st10⟩ := stJ X9 hx hZ e9 Ar_b4 (j := (5 : Int32)) hin37 (g := (mkF m 37 #[.val (.long q1), .second, .val (.int p2), .val (.int p3), .unset, .unset, .unset, .unset, .unset, .unset] [(.long (100000 : Int64)), (.int (5 : Int32)), (.ref b4), (.ref b4)])) rfl rfl (hb hby at_37)
  have V_b4_10 := Arv.set Ar_b4 q_b4 S_b4 N_b4 H_b4 G_b4 rfl W10 5 rfl (Nat.le_of_ble_eq_true rfl)      -- the array as it stands now (the place must lie among its first values: Arv.pad with pad_rep lengthens them)
  have K10 : Keep h0 h10 [] := K9.wr W10 (Or.inr sz_b4)
  have N10 := Fr.snoc X10 N9 g_b4
  obtain ⟨cl_b4_44, Ar_b4, q_b4, S_b4, N_b4, H_b4, G_b4⟩ := V_b4_10      -- open the array's fact as it stands now (its cell, kind, length, elements)
  have hin44 : ¬ ((6 : Int32) < 0 ∨ cl_b4_44.slots.size ≤ ((6 : Int32)).toNatClampNeg) := inb_of S_b4 ⟨by decide, by decide⟩
  obtain ⟨T11, h11, X11, e11, W11, st11⟩ := stJ X10 hx hZ e10 Ar_b4 (j := (6 : Int32)) hin44 (g := (mkF m 44 #[.val (.long q1), .second, .val (.int p2), .val (.int p3), .unset, .unset, .unset, .unset, .unset, .unset] [(.long (1000000 : Int64)), (.int (6 : Int32)), (.ref b4), (.ref b4)])) rfl rfl (hb hby at_44)
  have V_b4_11 := Arv.set Ar_b4 q_b4 S_b4 N_b4 H_b4 G_b4 rfl W11 6 rfl (Nat.le_of_ble_eq_true rfl)      -- the array as it stands now (the place must lie among its first values: Arv.pad with pad_rep lengthens them)
  have K11 : Keep h0 h11 [] := K10.wr W11 (Or.inr sz_b4)
  have N11 := Fr.snoc X11 N10 g_b4
  obtain ⟨cl_b4_51, Ar_b4, q_b4, S_b4, N_b4, H_b4, G_b4⟩ := V_b4_11      -- open the array's fact as it stands now (its cell, kind, length, elements)
  have hin51 : ¬ ((7 : Int32) < 0 ∨ cl_b4_51.slots.size ≤ ((7 : Int32)).toNatClampNeg) := inb_of S_b4 ⟨by decide, by decide⟩
  obtain ⟨T12, h12, X12, e12, W12, st12⟩ := stJ X11 hx hZ e11 Ar_b4 (j := (7 : Int32)) hin51 (g := (mkF m 51 #[.val (.long q1), .second, .val (.int p2), .val (.int p3), .unset, .unset, .unset, .unset, .unset, .unset] [(.long (10000000 : Int64)), (.int (7 : Int32)), (.ref b4), (.ref b4)])) rfl rfl (hb hby at_51)
  have V_b4_12 := Arv.set Ar_b4 q_b4 S_b4 N_b4 H_b4 G_b4 rfl W12 7 rfl (Nat.le_of_ble_eq_true rfl)      -- the array as it stands now (the place must lie among its first values: Arv.pad with pad_rep lengthens them)
  have K12 : Keep h0 h12 [] := K11.wr W12 (Or.inr sz_b4)
  have N12 := Fr.snoc X12 N11 g_b4
  obtain ⟨cl_b4_58, Ar_b4, q_b4, S_b4, N_b4, H_b4, G_b4⟩ := V_b4_12      -- open the array's fact as it stands now (its cell, kind, length, elements)
  have hin58 : ¬ ((8 : Int32) < 0 ∨ cl_b4_58.slots.size ≤ ((8 : Int32)).toNatClampNeg) := inb_of S_b4 ⟨by decide, by decide⟩
  obtain ⟨T13, h13, X13, e13, W13, st13⟩ := stJ X12 hx hZ e12 Ar_b4 (j := (8 : Int32)) hin58 (g := (mkF m 58 #[.val (.long q1), .second, .val (.int p2), .val (.int p3), .unset, .unset, .unset, .unset, .unset, .unset] [(.long (100000000 : Int64)), (.int (8 : Int32)), (.ref b4), (.ref b4)])) rfl rfl (hb hby at_58)
  have V_b4_13 := Arv.set Ar_b4 q_b4 S_b4 N_b4 H_b4 G_b4 rfl W13 8 rfl (Nat.le_of_ble_eq_true rfl)      -- the array as it stands now (the place must lie among its first values: Arv.pad with pad_rep lengthens them)
  have K13 : Keep h0 h13 [] := K12.wr W13 (Or.inr sz_b4)
  have N13 := Fr.snoc X13 N12 g_b4
  obtain ⟨cl_b4_65, Ar_b4, q_b4, S_b4, N_b4, H_b4, G_b4⟩ := V_b4_13      -- open the array's fact as it stands now (its cell, kind, length, elements)
  have hin65 : ¬ ((9 : Int32) < 0 ∨ cl_b4_65.slots.size ≤ ((9 : Int32)).toNatClampNeg) := inb_of S_b4 ⟨by decide, by decide⟩
  obtain ⟨T14, h14, X14, e14, W14, st14⟩ := stJ X13 hx hZ e13 Ar_b4 (j := (9 : Int32)) hin65 (g := (mkF m 65 #[.val (.long q1), .second, .val (.int p2), .val (.int p3), .unset, .unset, .unset, .unset, .unset, .unset] [(.long (1000000000 : Int64)), (.int (9 : Int32)), (.ref b4), (.ref b4)])) rfl rfl (hb hby at_65)
  have V_b4_14 := Arv.set Ar_b4 q_b4 S_b4 N_b4 H_b4 G_b4 rfl W14 9 rfl (Nat.le_of_ble_eq_true rfl)      -- the array as it stands now (the place must lie among its first values: Arv.pad with pad_rep lengthens them)
  have K14 : Keep h0 h14 [] := K13.wr W14 (Or.inr sz_b4)
  have N14 := Fr.snoc X14 N13 g_b4
  obtain ⟨cl_b4_72, Ar_b4, q_b4, S_b4, N_b4, H_b4, G_b4⟩ := V_b4_14      -- open the array's fact as it stands now (its cell, kind, length, elements)
  have hin72 : ¬ ((10 : Int32) < 0 ∨ cl_b4_72.slots.size ≤ ((10 : Int32)).toNatClampNeg) := inb_of S_b4 ⟨by decide, by decide⟩
  obtain ⟨T15, h15, X15, e15, W15, st15⟩ := stJ X14 hx hZ e14 Ar_b4 (j := (10 : Int32)) hin72 (g := (mkF m 72 #[.val (.long q1), .second, .val (.int p2), .val (.int p3), .unset, .unset, .unset, .unset, .unset, .unset] [(.long (10000000000 : Int64)), (.int (10 : Int32)), (.ref b4), (.ref b4)])) rfl rfl (hb hby at_72)
  have V_b4_15 := Arv.set Ar_b4 q_b4 S_b4 N_b4 H_b4 G_b4 rfl W15 10 rfl (Nat.le_of_ble_eq_true rfl)      -- the array as it stands now (the place must lie among its first values: Arv.pad with pad_rep lengthens them)
  have K15 : Keep h0 h15 [] := K14.wr W15 (Or.inr sz_b4)
  have N15 := Fr.snoc X15 N14 g_b4
  obtain ⟨cl_b4_79, Ar_b4, q_b4, S_b4, N_b4, H_b4, G_b4⟩ := V_b4_15      -- open the array's fact as it stands now (its cell, kind, length, elements)
  have hin79 : ¬ ((11 : Int32) < 0 ∨ cl_b4_79.slots.size ≤ ((11 : Int32)).toNatClampNeg) := inb_of S_b4 ⟨by decide, by decide⟩
  obtain ⟨T16, h16, X16, e16, W16, st16⟩ := stJ X15 hx hZ e15 Ar_b4 (j := (11 : Int32)) hin79 (g := (mkF m 79 #[.val (.long q1), .second, .val (.int p2), .val (.int p3), .unset, .unset, .unset, .unset, .unset, .unset] [(.long (100000000000 : Int64)), (.int (11 : Int32)), (.ref b4), (.ref b4)])) rfl rfl (hb hby at_79)
  have V_b4_16 := Arv.set Ar_b4 q_b4 S_b4 N_b4 H_b4 G_b4 rfl W16 11 rfl (Nat.le_of_ble_eq_true rfl)      -- the array as it stands now (the place must lie among its first values: Arv.pad with pad_rep lengthens them)
  have K16 : Keep h0 h16 [] := K15.wr W16 (Or.inr sz_b4)
  have N16 := Fr.snoc X16 N15 g_b4
  obtain ⟨cl_b4_86, Ar_b4, q_b4, S_b4, N_b4, H_b4, G_b4⟩ := V_b4_16      -- open the array's fact as it stands now (its cell, kind, length, elements)
  have hin86 : ¬ ((12 : Int32) < 0 ∨ cl_b4_86.slots.size ≤ ((12 : Int32)).toNatClampNeg) := inb_of S_b4 ⟨by decide, by decide⟩
  obtain ⟨T17, h17, X17, e17, W17, st17⟩ := stJ X16 hx hZ e16 Ar_b4 (j := (12 : Int32)) hin86 (g := (mkF m 86 #[.val (.long q1), .second, .val (.int p2), .val (.int p3), .unset, .unset, .unset, .unset, .unset, .unset] [(.long (1000000000000 : Int64)), (.int (12 : Int32)), (.ref b4), (.ref b4)])) rfl rfl (hb hby at_86)
  have V_b4_17 := Arv.set Ar_b4 q_b4 S_b4 N_b4 H_b4 G_b4 rfl W17 12 rfl (Nat.le_of_ble_eq_true rfl)      -- the array as it stands now (the place must lie among its first values: Arv.pad with pad_rep lengthens them)
  have K17 : Keep h0 h17 [] := K16.wr W17 (Or.inr sz_b4)
  have N17 := Fr.snoc X17 N16 g_b4
  obtain ⟨cl_b4_93, Ar_b4, q_b4, S_b4, N_b4, H_b4, G_b4⟩ := V_b4_17      -- open the array's fact as it stands now (its cell, kind, length, elements)
  have hin93 : ¬ ((13 : Int32) < 0 ∨ cl_b4_93.slots.size ≤ ((13 : Int32)).toNatClampNeg) := inb_of S_b4 ⟨by decide, by decide⟩
  obtain ⟨T18, h18, X18, e18, W18, st18⟩ := stJ X17 hx hZ e17 Ar_b4 (j := (13 : Int32)) hin93 (g := (mkF m 93 #[.val (.long q1), .second, .val (.int p2), .val (.int p3), .unset, .unset, .unset, .unset, .unset, .unset] [(.long (10000000000000 : Int64)), (.int (13 : Int32)), (.ref b4), (.ref b4)])) rfl rfl (hb hby at_93)
  have V_b4_18 := Arv.set Ar_b4 q_b4 S_b4 N_b4 H_b4 G_b4 rfl W18 13 rfl (Nat.le_of_ble_eq_true rfl)      -- the array as it stands now (the place must lie among its first values: Arv.pad with pad_rep lengthens them)
  have K18 : Keep h0 h18 [] := K17.wr W18 (Or.inr sz_b4)
  have N18 := Fr.snoc X18 N17 g_b4
  obtain ⟨cl_b4_100, Ar_b4, q_b4, S_b4, N_b4, H_b4, G_b4⟩ := V_b4_18      -- open the array's fact as it stands now (its cell, kind, length, elements)
  have hin100 : ¬ ((14 : Int32) < 0 ∨ cl_b4_100.slots.size ≤ ((14 : Int32)).toNatClampNeg) := inb_of S_b4 ⟨by decide, by decide⟩
  obtain ⟨T19, h19, X19, e19, W19, st19⟩ := stJ X18 hx hZ e18 Ar_b4 (j := (14 : Int32)) hin100 (g := (mkF m 100 #[.val (.long q1), .second, .val (.int p2), .val (.int p3), .unset, .unset, .unset, .unset, .unset, .unset] [(.long (100000000000000 : Int64)), (.int (14 : Int32)), (.ref b4), (.ref b4)])) rfl rfl (hb hby at_100)
  have V_b4_19 := Arv.set Ar_b4 q_b4 S_b4 N_b4 H_b4 G_b4 rfl W19 14 rfl (Nat.le_of_ble_eq_true rfl)      -- the array as it stands now (the place must lie among its first values: Arv.pad with pad_rep lengthens them)
  have K19 : Keep h0 h19 [] := K18.wr W19 (Or.inr sz_b4)
  have N19 := Fr.snoc X19 N18 g_b4
  obtain ⟨cl_b4_107, Ar_b4, q_b4, S_b4, N_b4, H_b4, G_b4⟩ := V_b4_19      -- open the array's fact as it stands now (its cell, kind, length, elements)
  have hin107 : ¬ ((15 : Int32) < 0 ∨ cl_b4_107.slots.size ≤ ((15 : Int32)).toNatClampNeg) := inb_of S_b4 ⟨by decide, by decide⟩
  obtain ⟨T20, h20, X20, e20, W20, st20⟩ := stJ X19 hx hZ e19 Ar_b4 (j := (15 : Int32)) hin107 (g := (mkF m 107 #[.val (.long q1), .second, .val (.int p2), .val (.int p3), .unset, .unset, .unset, .unset, .unset, .unset] [(.long (1000000000000000 : Int64)), (.int (15 : Int32)), (.ref b4), (.ref b4)])) rfl rfl (hb hby at_107)
  have V_b4_20 := Arv.set Ar_b4 q_b4 S_b4 N_b4 H_b4 G_b4 rfl W20 15 rfl (Nat.le_of_ble_eq_true rfl)      -- the array as it stands now (the place must lie among its first values: Arv.pad with pad_rep lengthens them)
  have K20 : Keep h0 h20 [] := K19.wr W20 (Or.inr sz_b4)
  have N20 := Fr.snoc X20 N19 g_b4
  obtain ⟨cl_b4_114, Ar_b4, q_b4, S_b4, N_b4, H_b4, G_b4⟩ := V_b4_20      -- open the array's fact as it stands now (its cell, kind, length, elements)
  have hin114 : ¬ ((16 : Int32) < 0 ∨ cl_b4_114.slots.size ≤ ((16 : Int32)).toNatClampNeg) := inb_of S_b4 ⟨by decide, by decide⟩
  obtain ⟨T21, h21, X21, e21, W21, st21⟩ := stJ X20 hx hZ e20 Ar_b4 (j := (16 : Int32)) hin114 (g := (mkF m 114 #[.val (.long q1), .second, .val (.int p2), .val (.int p3), .unset, .unset, .unset, .unset, .unset, .unset] [(.long (10000000000000000 : Int64)), (.int (16 : Int32)), (.ref b4), (.ref b4)])) rfl rfl (hb hby at_114)
  have V_b4_21 := Arv.set Ar_b4 q_b4 S_b4 N_b4 H_b4 G_b4 rfl W21 16 rfl (Nat.le_of_ble_eq_true rfl)      -- the array as it stands now (the place must lie among its first values: Arv.pad with pad_rep lengthens them)
  have K21 : Keep h0 h21 [] := K20.wr W21 (Or.inr sz_b4)
  have N21 := Fr.snoc X21 N20 g_b4
  obtain ⟨cl_b4_121, Ar_b4, q_b4, S_b4, N_b4, H_b4, G_b4⟩ := V_b4_21      -- open the array's fact as it stands now (its cell, kind, length, elements)
  have hin121 : ¬ ((17 : Int32) < 0 ∨ cl_b4_121.slots.size ≤ ((17 : Int32)).toNatClampNeg) := inb_of S_b4 ⟨by decide, by decide⟩
  obtain ⟨T22, h22, X22, e22, W22, st22⟩ := stJ X21 hx hZ e21 Ar_b4 (j := (17 : Int32)) hin121 (g := (mkF m 121 #[.val (.long q1), .second, .val (.int p2), .val (.int p3), .unset, .unset, .unset, .unset, .unset, .unset] [(.long (100000000000000000 : Int64)), (.int (17 : Int32)), (.ref b4), (.ref b4)])) rfl rfl (hb hby at_121)
  have V_b4_22 := Arv.set Ar_b4 q_b4 S_b4 N_b4 H_b4 G_b4 rfl W22 17 rfl (Nat.le_of_ble_eq_true rfl)      -- the array as it stands now (the place must lie among its first values: Arv.pad with pad_rep lengthens them)
  have K22 : Keep h0 h22 [] := K21.wr W22 (Or.inr sz_b4)
  have N22 := Fr.snoc X22 N21 g_b4
  obtain ⟨cl_b4_128, Ar_b4, q_b4, S_b4, N_b4, H_b4, G_b4⟩ := V_b4_22      -- open the array's fact as it stands now (its cell, kind, length, elements)
  have hin128 : ¬ ((18 : Int32) < 0 ∨ cl_b4_128.slots.size ≤ ((18 : Int32)).toNatClampNeg) := inb_of S_b4 ⟨by decide, by decide⟩
  obtain ⟨T23, h23, X23, e23, W23, st23⟩ := stJ X22 hx hZ e22 Ar_b4 (j := (18 : Int32)) hin128 (g := (mkF m 128 #[.val (.long q1), .second, .val (.int p2), .val (.int p3), .unset, .unset, .unset, .unset, .unset, .unset] [(.long (1000000000000000000 : Int64)), (.int (18 : Int32)), (.ref b4), (.ref b4)])) rfl rfl (hb hby at_128)
  have V_b4_23 := Arv.set Ar_b4 q_b4 S_b4 N_b4 H_b4 G_b4 rfl W23 18 rfl (Nat.le_of_ble_eq_true rfl)      -- the array as it stands now (the place must lie among its first values: Arv.pad with pad_rep lengthens them)
  have K23 : Keep h0 h23 [] := K22.wr W23 (Or.inr sz_b4)
  have N23 := Fr.snoc X23 N22 g_b4
  have VV : Arv Z h23 b4 k4 .long (19 : Int32) own_vs (.long (0 : Int64)) := V_b4_23
  obtain ⟨kk, hkk⟩ : ∃ kk : Nat, ((p2 &&& (2147483647 : Int32)) % (19 : Int32)).toInt = (kk : Int) := ⟨((p2 &&& (2147483647 : Int32)) % (19 : Int32)).toInt.toNat, by have := own_k p2; omega⟩
  have hk19 : kk < 19 := by have := own_k p2; omega
  obtain ⟨clp, Ap_b4, -, S_p4, -, H_p4, -⟩ := id VV
  have hin161 := own_in S_p4 hkk hk19
  have hat161 := own_ld S_p4 H_p4 hkk hk19
  -- pc 185: com/example/compendio/compendio/formats/Counts.digits by its contract rm1
  obtain ⟨_, _, ⟨T25, L25, k25, n25⟩, -, X25, ⟨Lc25, hQ25, l25, y25, z25⟩, st25⟩ := Jvm.LawKit.callS X23 hx (y := (⟨"com/example/compendio/compendio/formats/Counts", "digits", "(J)I"⟩ : MethodName)) hown (mvT hZ (hw _ (List.mem_of_getElem? (i := 20) rfl))) (mvT hZ (hw _ (List.mem_of_getElem? (i := 21) rfl))) (mvT hZ (hw _ (List.mem_of_getElem? (i := 22) rfl))) (mvT hZ (hw _ (List.mem_of_getElem? (i := 23) rfl))) (by decide) (backOf (W := 0) (rm1 l Z a0 hw [] ((own_pw kk) + ((((((p3.toUInt32 >>> ((1 : Int32) &&& 31).toUInt32).toInt32) &&& (3 : Int32)) % (3 : Int32)) - (1 : Int32)).toInt64)) h23 n0 (Nat.le_trans Z0 K23.1)) hZ (hw _ (List.mem_of_getElem? (i := 23) rfl)) (hw _ (List.mem_of_getElem? (i := 22) rfl)) (by decide) (by decide)) (g := (mkF m 185 #[.val (.long q1), .second, .val (.int p2), .val (.int p3), .val (.ref b4), .val (.long ((own_pw kk) + ((((((p3.toUInt32 >>> ((1 : Int32) &&& 31).toUInt32).toInt32) &&& (3 : Int32)) % (3 : Int32)) - (1 : Int32)).toInt64))), .second, .val (.int ((p2 &&& (2147483647 : Int32)) % (19 : Int32))), .val (.int (((((p3.toUInt32 >>> ((1 : Int32) &&& 31).toUInt32).toInt32) &&& (3 : Int32)) % (3 : Int32)) - (1 : Int32))), .unset] [(.long ((own_pw kk) + ((((((p3.toUInt32 >>> ((1 : Int32) &&& 31).toUInt32).toInt32) &&& (3 : Int32)) % (3 : Int32)) - (1 : Int32)).toInt64)))])) rfl (by rw [hml]; rfl) (argsL := [(.long ((own_pw kk) + ((((((p3.toUInt32 >>> ((1 : Int32) &&& 31).toUInt32).toInt32) &&& (3 : Int32)) % (3 : Int32)) - (1 : Int32)).toInt64)))]) (rest := []) (lenOf pd_0_0 rfl) rfl (by show 2 * 0 + _ ≤ _; exact Nat.le_of_eq rfl) (hb hby at_185) (fun _ _ => ⟨rfl, e23, (by decide : 1 + 0 ≤ _), (by decide : 19 + 0 ≤ _)⟩)
  dsimp only [Pt.U, Pt.locs, Pt.cells, Pt.slots] at X25 l25 y25 z25 st25 hQ25
  subst l25 y25 z25
  obtain ⟨r, rfl, hdig, N25q, hh⟩ := hQ25
  have Kc : Keep h23 T25.heap [] := by rw [hh]; exact Keep.refl _ _
  obtain ⟨cl, Ar_b4, -, S_b4, -, H_b4, -⟩ := VV.keep Kc nin0
  have N25 := Fr.app N23 N25q
  obtain ⟨fs, hr, hrun, hended, hW, hsame⟩ := X25.leave (v := some (.int (1 : Int32))) (fun h => by rw [Bd.returns] at h; cases h)
  refine ⟨_, _, pre0 _ ?_, hrun, hended, _, _, rfl, ?_, ⟨_, rfl⟩, hW, hsame.mono (by decide) (by decide)⟩
  · show Steps p.tables e below (s₁.setTop (mkF m 0 #[.val (.long q1), .second, .val (.int p2), .val (.int p3), .unset, .unset, .unset, .unset, .unset, .unset] [])) _
    refine XS.bipush X0.here hx rfl (hb hby at_0) ?_
    show Steps p.tables e below (s₁.setTop (mkF m 2 #[.val (.long q1), .second, .val (.int p2), .val (.int p3), .unset, .unset, .unset, .unset, .unset, .unset] [(.int (19 : Int32))])) _
    refine st4 _ ?_
    show Steps p.tables e below (T4.setTop (mkF m 4 #[.val (.long q1), .second, .val (.int p2), .val (.int p3), .unset, .unset, .unset, .unset, .unset, .unset] [(.ref b4)])) _
    refine XS.dup X4.here hx rfl (hb hby at_4) rfl rfl ?_
    show Steps p.tables e below (T4.setTop (mkF m 5 #[.val (.long q1), .second, .val (.int p2), .val (.int p3), .unset, .unset, .unset, .unset, .unset, .unset] [(.ref b4), (.ref b4)])) _
    refine XS.iconst X4.here hx rfl (hb hby at_5) ?_
    show Steps p.tables e below (T4.setTop (mkF m 6 #[.val (.long q1), .second, .val (.int p2), .val (.int p3), .unset, .unset, .unset, .unset, .unset, .unset] [(.int (0 : Int32)), (.ref b4), (.ref b4)])) _
    refine XS.lconst X4.here hx rfl (hb hby at_6) ?_
    show Steps p.tables e below (T4.setTop (mkF m 7 #[.val (.long q1), .second, .val (.int p2), .val (.int p3), .unset, .unset, .unset, .unset, .unset, .unset] [(.long (1 : Int64)), (.int (0 : Int32)), (.ref b4), (.ref b4)])) _
    refine st5 _ ?_
    show Steps p.tables e below (T5.setTop (mkF m 8 #[.val (.long q1), .second, .val (.int p2), .val (.int p3), .unset, .unset, .unset, .unset, .unset, .unset] [(.ref b4)])) _
    refine XS.dup X5.here hx rfl (hb hby at_8) rfl rfl ?_
    show Steps p.tables e below (T5.setTop (mkF m 9 #[.val (.long q1), .second, .val (.int p2), .val (.int p3), .unset, .unset, .unset, .unset, .unset, .unset] [(.ref b4), (.ref b4)])) _
    refine XS.iconst X5.here hx rfl (hb hby at_9) ?_
    show Steps p.tables e below (T5.setTop (mkF m 10 #[.val (.long q1), .second, .val (.int p2), .val (.int p3), .unset, .unset, .unset, .unset, .unset, .unset] [(.int (1 : Int32)), (.ref b4), (.ref b4)])) _
    refine X5.ldc2Long hx hown (mvT hZ (hw _ (List.mem_of_getElem? (i := 1) rfl))) (g := (mkF m 10 #[.val (.long q1), .second, .val (.int p2), .val (.int p3), .unset, .unset, .unset, .unset, .unset, .unset] [(.int (1 : Int32)), (.ref b4), (.ref b4)])) rfl (hb hby at_10) _ ?_
    show Steps p.tables e below (T5.setTop (mkF m 13 #[.val (.long q1), .second, .val (.int p2), .val (.int p3), .unset, .unset, .unset, .unset, .unset, .unset] [(.long (10 : Int64)), (.int (1 : Int32)), (.ref b4), (.ref b4)])) _
    refine st6 _ ?_
    show Steps p.tables e below (T6.setTop (mkF m 14 #[.val (.long q1), .second, .val (.int p2), .val (.int p3), .unset, .unset, .unset, .unset, .unset, .unset] [(.ref b4)])) _
    refine XS.dup X6.here hx rfl (hb hby at_14) rfl rfl ?_
    show Steps p.tables e below (T6.setTop (mkF m 15 #[.val (.long q1), .second, .val (.int p2), .val (.int p3), .unset, .unset, .unset, .unset, .unset, .unset] [(.ref b4), (.ref b4)])) _
    refine XS.iconst X6.here hx rfl (hb hby at_15) ?_
    show Steps p.tables e below (T6.setTop (mkF m 16 #[.val (.long q1), .second, .val (.int p2), .val (.int p3), .unset, .unset, .unset, .unset, .unset, .unset] [(.int (2 : Int32)), (.ref b4), (.ref b4)])) _
    refine X6.ldc2Long hx hown (mvT hZ (hw _ (List.mem_of_getElem? (i := 2) rfl))) (g := (mkF m 16 #[.val (.long q1), .second, .val (.int p2), .val (.int p3), .unset, .unset, .unset, .unset, .unset, .unset] [(.int (2 : Int32)), (.ref b4), (.ref b4)])) rfl (hb hby at_16) _ ?_
    show Steps p.tables e below (T6.setTop (mkF m 19 #[.val (.long q1), .second, .val (.int p2), .val (.int p3), .unset, .unset, .unset, .unset, .unset, .unset] [(.long (100 : Int64)), (.int (2 : Int32)), (.ref b4), (.ref b4)])) _
    refine st7 _ ?_
    show Steps p.tables e below (T7.setTop (mkF m 20 #[.val (.long q1), .second, .val (.int p2), .val (.int p3), .unset, .unset, .unset, .unset, .unset, .unset] [(.ref b4)])) _
    refine XS.dup X7.here hx rfl (hb hby at_20) rfl rfl ?_
    show Steps p.tables e below (T7.setTop (mkF m 21 #[.val (.long q1), .second, .val (.int p2), .val (.int p3), .unset, .unset, .unset, .unset, .unset, .unset] [(.ref b4), (.ref b4)])) _
    refine XS.iconst X7.here hx rfl (hb hby at_21) ?_
    show Steps p.tables e below (T7.setTop (mkF m 22 #[.val (.long q1), .second, .val (.int p2), .val (.int p3), .unset, .unset, .unset, .unset, .unset, .unset] [(.int (3 : Int32)), (.ref b4), (.ref b4)])) _
    refine X7.ldc2Long hx hown (mvT hZ (hw _ (List.mem_of_getElem? (i := 3) rfl))) (g := (mkF m 22 #[.val (.long q1), .second, .val (.int p2), .val (.int p3), .unset, .unset, .unset, .unset, .unset, .unset] [(.int (3 : Int32)), (.ref b4), (.ref b4)])) rfl (hb hby at_22) _ ?_
    show Steps p.tables e below (T7.setTop (mkF m 25 #[.val (.long q1), .second, .val (.int p2), .val (.int p3), .unset, .unset, .unset, .unset, .unset, .unset] [(.long (1000 : Int64)), (.int (3 : Int32)), (.ref b4), (.ref b4)])) _
    refine st8 _ ?_
    show Steps p.tables e below (T8.setTop (mkF m 26 #[.val (.long q1), .second, .val (.int p2), .val (.int p3), .unset, .unset, .unset, .unset, .unset, .unset] [(.ref b4)])) _
    refine XS.dup X8.here hx rfl (hb hby at_26) rfl rfl ?_
    show Steps p.tables e below (T8.setTop (mkF m 27 #[.val (.long q1), .second, .val (.int p2), .val (.int p3), .unset, .unset, .unset, .unset, .unset, .unset] [(.ref b4), (.ref b4)])) _
    refine XS.iconst X8.here hx rfl (hb hby at_27) ?_
    show Steps p.tables e below (T8.setTop (mkF m 28 #[.val (.long q1), .second, .val (.int p2), .val (.int p3), .unset, .unset, .unset, .unset, .unset, .unset] [(.int (4 : Int32)), (.ref b4), (.ref b4)])) _
    refine X8.ldc2Long hx hown (mvT hZ (hw _ (List.mem_of_getElem? (i := 4) rfl))) (g := (mkF m 28 #[.val (.long q1), .second, .val (.int p2), .val (.int p3), .unset, .unset, .unset, .unset, .unset, .unset] [(.int (4 : Int32)), (.ref b4), (.ref b4)])) rfl (hb hby at_28) _ ?_
    show Steps p.tables e below (T8.setTop (mkF m 31 #[.val (.long q1), .second, .val (.int p2), .val (.int p3), .unset, .unset, .unset, .unset, .unset, .unset] [(.long (10000 : Int64)), (.int (4 : Int32)), (.ref b4), (.ref b4)])) _
    refine st9 _ ?_
    show Steps p.tables e below (T9.setTop (mkF m 32 #[.val (.long q1), .second, .val (.int p2), .val (.int p3), .unset, .unset, .unset, .unset, .unset, .unset] [(.ref b4)])) _
    refine XS.dup X9.here hx rfl (hb hby at_32) rfl rfl ?_
    show Steps p.tables e below (T9.setTop (mkF m 33 #[.val (.long q1), .second, .val (.int p2), .val (.int p3), .unset, .unset, .unset, .unset, .unset, .unset] [(.ref b4), (.ref b4)])) _
    refine XS.iconst X9.here hx rfl (hb hby at_33) ?_
    show Steps p.tables e below (T9.setTop (mkF m 34 #[.val (.long q1), .second, .val (.int p2), .val (.int p3), .unset, .unset, .unset, .unset, .unset, .unset] [(.int (5 : Int32)), (.ref b4), (.ref b4)])) _
    refine X9.ldc2Long hx hown (mvT hZ (hw _ (List.mem_of_getElem? (i := 5) rfl))) (g := (mkF m 34 #[.val (.long q1), .second, .val (.int p2), .val (.int p3), .unset, .unset, .unset, .unset, .unset, .unset] [(.int (5 : Int32)), (.ref b4), (.ref b4)])) rfl (hb hby at_34) _ ?_
    show Steps p.tables e below (T9.setTop (mkF m 37 #[.val (.long q1), .second, .val (.int p2), .val (.int p3), .unset, .unset, .unset, .unset, .unset, .unset] [(.long (100000 : Int64)), (.int (5 : Int32)), (.ref b4), (.ref b4)])) _
    refine st10 _ ?_
    show Steps p.tables e below (T10.setTop (mkF m 38 #[.val (.long q1), .second, .val (.int p2), .val (.int p3), .unset, .unset, .unset, .unset, .unset, .unset] [(.ref b4)])) _
    refine XS.dup X10.here hx rfl (hb hby at_38) rfl rfl ?_
    show Steps p.tables e below (T10.setTop (mkF m 39 #[.val (.long q1), .second, .val (.int p2), .val (.int p3), .unset, .unset, .unset, .unset, .unset, .unset] [(.ref b4), (.ref b4)])) _
    refine XS.bipush X10.here hx rfl (hb hby at_39) ?_
    show Steps p.tables e below (T10.setTop (mkF m 41 #[.val (.long q1), .second, .val (.int p2), .val (.int p3), .unset, .unset, .unset, .unset, .unset, .unset] [(.int (6 : Int32)), (.ref b4), (.ref b4)])) _
    refine X10.ldc2Long hx hown (mvT hZ (hw _ (List.mem_of_getElem? (i := 6) rfl))) (g := (mkF m 41 #[.val (.long q1), .second, .val (.int p2), .val (.int p3), .unset, .unset, .unset, .unset, .unset, .unset] [(.int (6 : Int32)), (.ref b4), (.ref b4)])) rfl (hb hby at_41) _ ?_
    show Steps p.tables e below (T10.setTop (mkF m 44 #[.val (.long q1), .second, .val (.int p2), .val (.int p3), .unset, .unset, .unset, .unset, .unset, .unset] [(.long (1000000 : Int64)), (.int (6 : Int32)), (.ref b4), (.ref b4)])) _
    refine st11 _ ?_
    show Steps p.tables e below (T11.setTop (mkF m 45 #[.val (.long q1), .second, .val (.int p2), .val (.int p3), .unset, .unset, .unset, .unset, .unset, .unset] [(.ref b4)])) _
    refine XS.dup X11.here hx rfl (hb hby at_45) rfl rfl ?_
    show Steps p.tables e below (T11.setTop (mkF m 46 #[.val (.long q1), .second, .val (.int p2), .val (.int p3), .unset, .unset, .unset, .unset, .unset, .unset] [(.ref b4), (.ref b4)])) _
    refine XS.bipush X11.here hx rfl (hb hby at_46) ?_
    show Steps p.tables e below (T11.setTop (mkF m 48 #[.val (.long q1), .second, .val (.int p2), .val (.int p3), .unset, .unset, .unset, .unset, .unset, .unset] [(.int (7 : Int32)), (.ref b4), (.ref b4)])) _
    refine X11.ldc2Long hx hown (mvT hZ (hw _ (List.mem_of_getElem? (i := 7) rfl))) (g := (mkF m 48 #[.val (.long q1), .second, .val (.int p2), .val (.int p3), .unset, .unset, .unset, .unset, .unset, .unset] [(.int (7 : Int32)), (.ref b4), (.ref b4)])) rfl (hb hby at_48) _ ?_
    show Steps p.tables e below (T11.setTop (mkF m 51 #[.val (.long q1), .second, .val (.int p2), .val (.int p3), .unset, .unset, .unset, .unset, .unset, .unset] [(.long (10000000 : Int64)), (.int (7 : Int32)), (.ref b4), (.ref b4)])) _
    refine st12 _ ?_
    show Steps p.tables e below (T12.setTop (mkF m 52 #[.val (.long q1), .second, .val (.int p2), .val (.int p3), .unset, .unset, .unset, .unset, .unset, .unset] [(.ref b4)])) _
    refine XS.dup X12.here hx rfl (hb hby at_52) rfl rfl ?_
    show Steps p.tables e below (T12.setTop (mkF m 53 #[.val (.long q1), .second, .val (.int p2), .val (.int p3), .unset, .unset, .unset, .unset, .unset, .unset] [(.ref b4), (.ref b4)])) _
    refine XS.bipush X12.here hx rfl (hb hby at_53) ?_
    show Steps p.tables e below (T12.setTop (mkF m 55 #[.val (.long q1), .second, .val (.int p2), .val (.int p3), .unset, .unset, .unset, .unset, .unset, .unset] [(.int (8 : Int32)), (.ref b4), (.ref b4)])) _
    refine X12.ldc2Long hx hown (mvT hZ (hw _ (List.mem_of_getElem? (i := 8) rfl))) (g := (mkF m 55 #[.val (.long q1), .second, .val (.int p2), .val (.int p3), .unset, .unset, .unset, .unset, .unset, .unset] [(.int (8 : Int32)), (.ref b4), (.ref b4)])) rfl (hb hby at_55) _ ?_
    show Steps p.tables e below (T12.setTop (mkF m 58 #[.val (.long q1), .second, .val (.int p2), .val (.int p3), .unset, .unset, .unset, .unset, .unset, .unset] [(.long (100000000 : Int64)), (.int (8 : Int32)), (.ref b4), (.ref b4)])) _
    refine st13 _ ?_
    show Steps p.tables e below (T13.setTop (mkF m 59 #[.val (.long q1), .second, .val (.int p2), .val (.int p3), .unset, .unset, .unset, .unset, .unset, .unset] [(.ref b4)])) _
    refine XS.dup X13.here hx rfl (hb hby at_59) rfl rfl ?_
    show Steps p.tables e below (T13.setTop (mkF m 60 #[.val (.long q1), .second, .val (.int p2), .val (.int p3), .unset, .unset, .unset, .unset, .unset, .unset] [(.ref b4), (.ref b4)])) _
    refine XS.bipush X13.here hx rfl (hb hby at_60) ?_
    show Steps p.tables e below (T13.setTop (mkF m 62 #[.val (.long q1), .second, .val (.int p2), .val (.int p3), .unset, .unset, .unset, .unset, .unset, .unset] [(.int (9 : Int32)), (.ref b4), (.ref b4)])) _
    refine X13.ldc2Long hx hown (mvT hZ (hw _ (List.mem_of_getElem? (i := 9) rfl))) (g := (mkF m 62 #[.val (.long q1), .second, .val (.int p2), .val (.int p3), .unset, .unset, .unset, .unset, .unset, .unset] [(.int (9 : Int32)), (.ref b4), (.ref b4)])) rfl (hb hby at_62) _ ?_
    show Steps p.tables e below (T13.setTop (mkF m 65 #[.val (.long q1), .second, .val (.int p2), .val (.int p3), .unset, .unset, .unset, .unset, .unset, .unset] [(.long (1000000000 : Int64)), (.int (9 : Int32)), (.ref b4), (.ref b4)])) _
    refine st14 _ ?_
    show Steps p.tables e below (T14.setTop (mkF m 66 #[.val (.long q1), .second, .val (.int p2), .val (.int p3), .unset, .unset, .unset, .unset, .unset, .unset] [(.ref b4)])) _
    refine XS.dup X14.here hx rfl (hb hby at_66) rfl rfl ?_
    show Steps p.tables e below (T14.setTop (mkF m 67 #[.val (.long q1), .second, .val (.int p2), .val (.int p3), .unset, .unset, .unset, .unset, .unset, .unset] [(.ref b4), (.ref b4)])) _
    refine XS.bipush X14.here hx rfl (hb hby at_67) ?_
    show Steps p.tables e below (T14.setTop (mkF m 69 #[.val (.long q1), .second, .val (.int p2), .val (.int p3), .unset, .unset, .unset, .unset, .unset, .unset] [(.int (10 : Int32)), (.ref b4), (.ref b4)])) _
    refine X14.ldc2Long hx hown (mvT hZ (hw _ (List.mem_of_getElem? (i := 10) rfl))) (g := (mkF m 69 #[.val (.long q1), .second, .val (.int p2), .val (.int p3), .unset, .unset, .unset, .unset, .unset, .unset] [(.int (10 : Int32)), (.ref b4), (.ref b4)])) rfl (hb hby at_69) _ ?_
    show Steps p.tables e below (T14.setTop (mkF m 72 #[.val (.long q1), .second, .val (.int p2), .val (.int p3), .unset, .unset, .unset, .unset, .unset, .unset] [(.long (10000000000 : Int64)), (.int (10 : Int32)), (.ref b4), (.ref b4)])) _
    refine st15 _ ?_
    show Steps p.tables e below (T15.setTop (mkF m 73 #[.val (.long q1), .second, .val (.int p2), .val (.int p3), .unset, .unset, .unset, .unset, .unset, .unset] [(.ref b4)])) _
    refine XS.dup X15.here hx rfl (hb hby at_73) rfl rfl ?_
    show Steps p.tables e below (T15.setTop (mkF m 74 #[.val (.long q1), .second, .val (.int p2), .val (.int p3), .unset, .unset, .unset, .unset, .unset, .unset] [(.ref b4), (.ref b4)])) _
    refine XS.bipush X15.here hx rfl (hb hby at_74) ?_
    show Steps p.tables e below (T15.setTop (mkF m 76 #[.val (.long q1), .second, .val (.int p2), .val (.int p3), .unset, .unset, .unset, .unset, .unset, .unset] [(.int (11 : Int32)), (.ref b4), (.ref b4)])) _
    refine X15.ldc2Long hx hown (mvT hZ (hw _ (List.mem_of_getElem? (i := 11) rfl))) (g := (mkF m 76 #[.val (.long q1), .second, .val (.int p2), .val (.int p3), .unset, .unset, .unset, .unset, .unset, .unset] [(.int (11 : Int32)), (.ref b4), (.ref b4)])) rfl (hb hby at_76) _ ?_
    show Steps p.tables e below (T15.setTop (mkF m 79 #[.val (.long q1), .second, .val (.int p2), .val (.int p3), .unset, .unset, .unset, .unset, .unset, .unset] [(.long (100000000000 : Int64)), (.int (11 : Int32)), (.ref b4), (.ref b4)])) _
    refine st16 _ ?_
    show Steps p.tables e below (T16.setTop (mkF m 80 #[.val (.long q1), .second, .val (.int p2), .val (.int p3), .unset, .unset, .unset, .unset, .unset, .unset] [(.ref b4)])) _
    refine XS.dup X16.here hx rfl (hb hby at_80) rfl rfl ?_
    show Steps p.tables e below (T16.setTop (mkF m 81 #[.val (.long q1), .second, .val (.int p2), .val (.int p3), .unset, .unset, .unset, .unset, .unset, .unset] [(.ref b4), (.ref b4)])) _
    refine XS.bipush X16.here hx rfl (hb hby at_81) ?_
    show Steps p.tables e below (T16.setTop (mkF m 83 #[.val (.long q1), .second, .val (.int p2), .val (.int p3), .unset, .unset, .unset, .unset, .unset, .unset] [(.int (12 : Int32)), (.ref b4), (.ref b4)])) _
    refine X16.ldc2Long hx hown (mvT hZ (hw _ (List.mem_of_getElem? (i := 12) rfl))) (g := (mkF m 83 #[.val (.long q1), .second, .val (.int p2), .val (.int p3), .unset, .unset, .unset, .unset, .unset, .unset] [(.int (12 : Int32)), (.ref b4), (.ref b4)])) rfl (hb hby at_83) _ ?_
    show Steps p.tables e below (T16.setTop (mkF m 86 #[.val (.long q1), .second, .val (.int p2), .val (.int p3), .unset, .unset, .unset, .unset, .unset, .unset] [(.long (1000000000000 : Int64)), (.int (12 : Int32)), (.ref b4), (.ref b4)])) _
    refine st17 _ ?_
    show Steps p.tables e below (T17.setTop (mkF m 87 #[.val (.long q1), .second, .val (.int p2), .val (.int p3), .unset, .unset, .unset, .unset, .unset, .unset] [(.ref b4)])) _
    refine XS.dup X17.here hx rfl (hb hby at_87) rfl rfl ?_
    show Steps p.tables e below (T17.setTop (mkF m 88 #[.val (.long q1), .second, .val (.int p2), .val (.int p3), .unset, .unset, .unset, .unset, .unset, .unset] [(.ref b4), (.ref b4)])) _
    refine XS.bipush X17.here hx rfl (hb hby at_88) ?_
    show Steps p.tables e below (T17.setTop (mkF m 90 #[.val (.long q1), .second, .val (.int p2), .val (.int p3), .unset, .unset, .unset, .unset, .unset, .unset] [(.int (13 : Int32)), (.ref b4), (.ref b4)])) _
    refine X17.ldc2Long hx hown (mvT hZ (hw _ (List.mem_of_getElem? (i := 13) rfl))) (g := (mkF m 90 #[.val (.long q1), .second, .val (.int p2), .val (.int p3), .unset, .unset, .unset, .unset, .unset, .unset] [(.int (13 : Int32)), (.ref b4), (.ref b4)])) rfl (hb hby at_90) _ ?_
    show Steps p.tables e below (T17.setTop (mkF m 93 #[.val (.long q1), .second, .val (.int p2), .val (.int p3), .unset, .unset, .unset, .unset, .unset, .unset] [(.long (10000000000000 : Int64)), (.int (13 : Int32)), (.ref b4), (.ref b4)])) _
    refine st18 _ ?_
    show Steps p.tables e below (T18.setTop (mkF m 94 #[.val (.long q1), .second, .val (.int p2), .val (.int p3), .unset, .unset, .unset, .unset, .unset, .unset] [(.ref b4)])) _
    refine XS.dup X18.here hx rfl (hb hby at_94) rfl rfl ?_
    show Steps p.tables e below (T18.setTop (mkF m 95 #[.val (.long q1), .second, .val (.int p2), .val (.int p3), .unset, .unset, .unset, .unset, .unset, .unset] [(.ref b4), (.ref b4)])) _
    refine XS.bipush X18.here hx rfl (hb hby at_95) ?_
    show Steps p.tables e below (T18.setTop (mkF m 97 #[.val (.long q1), .second, .val (.int p2), .val (.int p3), .unset, .unset, .unset, .unset, .unset, .unset] [(.int (14 : Int32)), (.ref b4), (.ref b4)])) _
    refine X18.ldc2Long hx hown (mvT hZ (hw _ (List.mem_of_getElem? (i := 14) rfl))) (g := (mkF m 97 #[.val (.long q1), .second, .val (.int p2), .val (.int p3), .unset, .unset, .unset, .unset, .unset, .unset] [(.int (14 : Int32)), (.ref b4), (.ref b4)])) rfl (hb hby at_97) _ ?_
    show Steps p.tables e below (T18.setTop (mkF m 100 #[.val (.long q1), .second, .val (.int p2), .val (.int p3), .unset, .unset, .unset, .unset, .unset, .unset] [(.long (100000000000000 : Int64)), (.int (14 : Int32)), (.ref b4), (.ref b4)])) _
    refine st19 _ ?_
    show Steps p.tables e below (T19.setTop (mkF m 101 #[.val (.long q1), .second, .val (.int p2), .val (.int p3), .unset, .unset, .unset, .unset, .unset, .unset] [(.ref b4)])) _
    refine XS.dup X19.here hx rfl (hb hby at_101) rfl rfl ?_
    show Steps p.tables e below (T19.setTop (mkF m 102 #[.val (.long q1), .second, .val (.int p2), .val (.int p3), .unset, .unset, .unset, .unset, .unset, .unset] [(.ref b4), (.ref b4)])) _
    refine XS.bipush X19.here hx rfl (hb hby at_102) ?_
    show Steps p.tables e below (T19.setTop (mkF m 104 #[.val (.long q1), .second, .val (.int p2), .val (.int p3), .unset, .unset, .unset, .unset, .unset, .unset] [(.int (15 : Int32)), (.ref b4), (.ref b4)])) _
    refine X19.ldc2Long hx hown (mvT hZ (hw _ (List.mem_of_getElem? (i := 15) rfl))) (g := (mkF m 104 #[.val (.long q1), .second, .val (.int p2), .val (.int p3), .unset, .unset, .unset, .unset, .unset, .unset] [(.int (15 : Int32)), (.ref b4), (.ref b4)])) rfl (hb hby at_104) _ ?_
    show Steps p.tables e below (T19.setTop (mkF m 107 #[.val (.long q1), .second, .val (.int p2), .val (.int p3), .unset, .unset, .unset, .unset, .unset, .unset] [(.long (1000000000000000 : Int64)), (.int (15 : Int32)), (.ref b4), (.ref b4)])) _
    refine st20 _ ?_
    show Steps p.tables e below (T20.setTop (mkF m 108 #[.val (.long q1), .second, .val (.int p2), .val (.int p3), .unset, .unset, .unset, .unset, .unset, .unset] [(.ref b4)])) _
    refine XS.dup X20.here hx rfl (hb hby at_108) rfl rfl ?_
    show Steps p.tables e below (T20.setTop (mkF m 109 #[.val (.long q1), .second, .val (.int p2), .val (.int p3), .unset, .unset, .unset, .unset, .unset, .unset] [(.ref b4), (.ref b4)])) _
    refine XS.bipush X20.here hx rfl (hb hby at_109) ?_
    show Steps p.tables e below (T20.setTop (mkF m 111 #[.val (.long q1), .second, .val (.int p2), .val (.int p3), .unset, .unset, .unset, .unset, .unset, .unset] [(.int (16 : Int32)), (.ref b4), (.ref b4)])) _
    refine X20.ldc2Long hx hown (mvT hZ (hw _ (List.mem_of_getElem? (i := 16) rfl))) (g := (mkF m 111 #[.val (.long q1), .second, .val (.int p2), .val (.int p3), .unset, .unset, .unset, .unset, .unset, .unset] [(.int (16 : Int32)), (.ref b4), (.ref b4)])) rfl (hb hby at_111) _ ?_
    show Steps p.tables e below (T20.setTop (mkF m 114 #[.val (.long q1), .second, .val (.int p2), .val (.int p3), .unset, .unset, .unset, .unset, .unset, .unset] [(.long (10000000000000000 : Int64)), (.int (16 : Int32)), (.ref b4), (.ref b4)])) _
    refine st21 _ ?_
    show Steps p.tables e below (T21.setTop (mkF m 115 #[.val (.long q1), .second, .val (.int p2), .val (.int p3), .unset, .unset, .unset, .unset, .unset, .unset] [(.ref b4)])) _
    refine XS.dup X21.here hx rfl (hb hby at_115) rfl rfl ?_
    show Steps p.tables e below (T21.setTop (mkF m 116 #[.val (.long q1), .second, .val (.int p2), .val (.int p3), .unset, .unset, .unset, .unset, .unset, .unset] [(.ref b4), (.ref b4)])) _
    refine XS.bipush X21.here hx rfl (hb hby at_116) ?_
    show Steps p.tables e below (T21.setTop (mkF m 118 #[.val (.long q1), .second, .val (.int p2), .val (.int p3), .unset, .unset, .unset, .unset, .unset, .unset] [(.int (17 : Int32)), (.ref b4), (.ref b4)])) _
    refine X21.ldc2Long hx hown (mvT hZ (hw _ (List.mem_of_getElem? (i := 17) rfl))) (g := (mkF m 118 #[.val (.long q1), .second, .val (.int p2), .val (.int p3), .unset, .unset, .unset, .unset, .unset, .unset] [(.int (17 : Int32)), (.ref b4), (.ref b4)])) rfl (hb hby at_118) _ ?_
    show Steps p.tables e below (T21.setTop (mkF m 121 #[.val (.long q1), .second, .val (.int p2), .val (.int p3), .unset, .unset, .unset, .unset, .unset, .unset] [(.long (100000000000000000 : Int64)), (.int (17 : Int32)), (.ref b4), (.ref b4)])) _
    refine st22 _ ?_
    show Steps p.tables e below (T22.setTop (mkF m 122 #[.val (.long q1), .second, .val (.int p2), .val (.int p3), .unset, .unset, .unset, .unset, .unset, .unset] [(.ref b4)])) _
    refine XS.dup X22.here hx rfl (hb hby at_122) rfl rfl ?_
    show Steps p.tables e below (T22.setTop (mkF m 123 #[.val (.long q1), .second, .val (.int p2), .val (.int p3), .unset, .unset, .unset, .unset, .unset, .unset] [(.ref b4), (.ref b4)])) _
    refine XS.bipush X22.here hx rfl (hb hby at_123) ?_
    show Steps p.tables e below (T22.setTop (mkF m 125 #[.val (.long q1), .second, .val (.int p2), .val (.int p3), .unset, .unset, .unset, .unset, .unset, .unset] [(.int (18 : Int32)), (.ref b4), (.ref b4)])) _
    refine X22.ldc2Long hx hown (mvT hZ (hw _ (List.mem_of_getElem? (i := 18) rfl))) (g := (mkF m 125 #[.val (.long q1), .second, .val (.int p2), .val (.int p3), .unset, .unset, .unset, .unset, .unset, .unset] [(.int (18 : Int32)), (.ref b4), (.ref b4)])) rfl (hb hby at_125) _ ?_
    show Steps p.tables e below (T22.setTop (mkF m 128 #[.val (.long q1), .second, .val (.int p2), .val (.int p3), .unset, .unset, .unset, .unset, .unset, .unset] [(.long (1000000000000000000 : Int64)), (.int (18 : Int32)), (.ref b4), (.ref b4)])) _
    refine st23 _ ?_
    show Steps p.tables e below (T23.setTop (mkF m 129 #[.val (.long q1), .second, .val (.int p2), .val (.int p3), .unset, .unset, .unset, .unset, .unset, .unset] [(.ref b4)])) _
    refine XS.astore X23.here hx rfl (hb hby at_129) rfl rfl (l' := #[.val (.long q1), .second, .val (.int p2), .val (.int p3), .val (.ref b4), .unset, .unset, .unset, .unset, .unset]) rfl ?_
    show Steps p.tables e below (T23.setTop (mkF m 131 #[.val (.long q1), .second, .val (.int p2), .val (.int p3), .val (.ref b4), .unset, .unset, .unset, .unset, .unset] [])) _
    refine XS.iloadN X23.here hx rfl (hb hby at_131) rfl ?_
    show Steps p.tables e below (T23.setTop (mkF m 132 #[.val (.long q1), .second, .val (.int p2), .val (.int p3), .val (.ref b4), .unset, .unset, .unset, .unset, .unset] [(.int p3)])) _
    refine XS.iconst X23.here hx rfl (hb hby at_132) ?_
    show Steps p.tables e below (T23.setTop (mkF m 133 #[.val (.long q1), .second, .val (.int p2), .val (.int p3), .val (.ref b4), .unset, .unset, .unset, .unset, .unset] [(.int (1 : Int32)), (.int p3)])) _
    refine XS.iand X23.here hx rfl (hb hby at_133) rfl ?_
    show Steps p.tables e below (T23.setTop (mkF m 134 #[.val (.long q1), .second, .val (.int p2), .val (.int p3), .val (.ref b4), .unset, .unset, .unset, .unset, .unset] [(.int (p3 &&& (1 : Int32)))])) _
    refine XS.ifNo X23.here hx rfl (hb hby at_134) rfl ((if0 _ _).trans (feq hc134).1) ?_
    show Steps p.tables e below (T23.setTop (mkF m 137 #[.val (.long q1), .second, .val (.int p2), .val (.int p3), .val (.ref b4), .unset, .unset, .unset, .unset, .unset] [])) _
    refine XS.iloadN X23.here hx rfl (hb hby at_137) rfl ?_
    show Steps p.tables e below (T23.setTop (mkF m 138 #[.val (.long q1), .second, .val (.int p2), .val (.int p3), .val (.ref b4), .unset, .unset, .unset, .unset, .unset] [(.int p2)])) _
    refine X23.ldcInt hx hown (mvT hZ (hw _ (List.mem_of_getElem? (i := 19) rfl))) (g := (mkF m 138 #[.val (.long q1), .second, .val (.int p2), .val (.int p3), .val (.ref b4), .unset, .unset, .unset, .unset, .unset] [(.int p2)])) rfl (hb hby at_138) _ ?_
    show Steps p.tables e below (T23.setTop (mkF m 140 #[.val (.long q1), .second, .val (.int p2), .val (.int p3), .val (.ref b4), .unset, .unset, .unset, .unset, .unset] [(.int (2147483647 : Int32)), (.int p2)])) _
    refine XS.iand X23.here hx rfl (hb hby at_140) rfl ?_
    show Steps p.tables e below (T23.setTop (mkF m 141 #[.val (.long q1), .second, .val (.int p2), .val (.int p3), .val (.ref b4), .unset, .unset, .unset, .unset, .unset] [(.int (p2 &&& (2147483647 : Int32)))])) _
    refine XS.bipush X23.here hx rfl (hb hby at_141) ?_
    show Steps p.tables e below (T23.setTop (mkF m 143 #[.val (.long q1), .second, .val (.int p2), .val (.int p3), .val (.ref b4), .unset, .unset, .unset, .unset, .unset] [(.int (19 : Int32)), (.int (p2 &&& (2147483647 : Int32)))])) _
    have hnz143 : ¬ ((19 : Int32) = (0 : Int32)) := by decide
    refine iremM X23 hx rfl (hb hby at_143) rfl hnz143 ?_
    show Steps p.tables e below (T23.setTop (mkF m 144 #[.val (.long q1), .second, .val (.int p2), .val (.int p3), .val (.ref b4), .unset, .unset, .unset, .unset, .unset] [(.int ((p2 &&& (2147483647 : Int32)) % (19 : Int32)))])) _
    refine XS.istore X23.here hx rfl (hb hby at_144) rfl (l' := #[.val (.long q1), .second, .val (.int p2), .val (.int p3), .val (.ref b4), .unset, .unset, .val (.int ((p2 &&& (2147483647 : Int32)) % (19 : Int32))), .unset, .unset]) rfl ?_
    show Steps p.tables e below (T23.setTop (mkF m 146 #[.val (.long q1), .second, .val (.int p2), .val (.int p3), .val (.ref b4), .unset, .unset, .val (.int ((p2 &&& (2147483647 : Int32)) % (19 : Int32))), .unset, .unset] [])) _
    refine XS.iloadN X23.here hx rfl (hb hby at_146) rfl ?_
    show Steps p.tables e below (T23.setTop (mkF m 147 #[.val (.long q1), .second, .val (.int p2), .val (.int p3), .val (.ref b4), .unset, .unset, .val (.int ((p2 &&& (2147483647 : Int32)) % (19 : Int32))), .unset, .unset] [(.int p3)])) _
    refine XS.iconst X23.here hx rfl (hb hby at_147) ?_
    show Steps p.tables e below (T23.setTop (mkF m 148 #[.val (.long q1), .second, .val (.int p2), .val (.int p3), .val (.ref b4), .unset, .unset, .val (.int ((p2 &&& (2147483647 : Int32)) % (19 : Int32))), .unset, .unset] [(.int (1 : Int32)), (.int p3)])) _
    refine XS.iushr X23.here hx rfl (hb hby at_148) rfl ?_
    show Steps p.tables e below (T23.setTop (mkF m 149 #[.val (.long q1), .second, .val (.int p2), .val (.int p3), .val (.ref b4), .unset, .unset, .val (.int ((p2 &&& (2147483647 : Int32)) % (19 : Int32))), .unset, .unset] [(.int ((p3.toUInt32 >>> ((1 : Int32) &&& 31).toUInt32).toInt32))])) _
    refine XS.iconst X23.here hx rfl (hb hby at_149) ?_
    show Steps p.tables e below (T23.setTop (mkF m 150 #[.val (.long q1), .second, .val (.int p2), .val (.int p3), .val (.ref b4), .unset, .unset, .val (.int ((p2 &&& (2147483647 : Int32)) % (19 : Int32))), .unset, .unset] [(.int (3 : Int32)), (.int ((p3.toUInt32 >>> ((1 : Int32) &&& 31).toUInt32).toInt32))])) _
    refine XS.iand X23.here hx rfl (hb hby at_150) rfl ?_
    show Steps p.tables e below (T23.setTop (mkF m 151 #[.val (.long q1), .second, .val (.int p2), .val (.int p3), .val (.ref b4), .unset, .unset, .val (.int ((p2 &&& (2147483647 : Int32)) % (19 : Int32))), .unset, .unset] [(.int (((p3.toUInt32 >>> ((1 : Int32) &&& 31).toUInt32).toInt32) &&& (3 : Int32)))])) _
    refine XS.iconst X23.here hx rfl (hb hby at_151) ?_
    show Steps p.tables e below (T23.setTop (mkF m 152 #[.val (.long q1), .second, .val (.int p2), .val (.int p3), .val (.ref b4), .unset, .unset, .val (.int ((p2 &&& (2147483647 : Int32)) % (19 : Int32))), .unset, .unset] [(.int (3 : Int32)), (.int (((p3.toUInt32 >>> ((1 : Int32) &&& 31).toUInt32).toInt32) &&& (3 : Int32)))])) _
    have hnz152 : ¬ ((3 : Int32) = (0 : Int32)) := by decide
    refine iremM X23 hx rfl (hb hby at_152) rfl hnz152 ?_
    show Steps p.tables e below (T23.setTop (mkF m 153 #[.val (.long q1), .second, .val (.int p2), .val (.int p3), .val (.ref b4), .unset, .unset, .val (.int ((p2 &&& (2147483647 : Int32)) % (19 : Int32))), .unset, .unset] [(.int ((((p3.toUInt32 >>> ((1 : Int32) &&& 31).toUInt32).toInt32) &&& (3 : Int32)) % (3 : Int32)))])) _
    refine XS.iconst X23.here hx rfl (hb hby at_153) ?_
    show Steps p.tables e below (T23.setTop (mkF m 154 #[.val (.long q1), .second, .val (.int p2), .val (.int p3), .val (.ref b4), .unset, .unset, .val (.int ((p2 &&& (2147483647 : Int32)) % (19 : Int32))), .unset, .unset] [(.int (1 : Int32)), (.int ((((p3.toUInt32 >>> ((1 : Int32) &&& 31).toUInt32).toInt32) &&& (3 : Int32)) % (3 : Int32)))])) _
    refine XS.isub X23.here hx rfl (hb hby at_154) rfl ?_
    show Steps p.tables e below (T23.setTop (mkF m 155 #[.val (.long q1), .second, .val (.int p2), .val (.int p3), .val (.ref b4), .unset, .unset, .val (.int ((p2 &&& (2147483647 : Int32)) % (19 : Int32))), .unset, .unset] [(.int (((((p3.toUInt32 >>> ((1 : Int32) &&& 31).toUInt32).toInt32) &&& (3 : Int32)) % (3 : Int32)) - (1 : Int32)))])) _
    refine XS.istore X23.here hx rfl (hb hby at_155) rfl (l' := #[.val (.long q1), .second, .val (.int p2), .val (.int p3), .val (.ref b4), .unset, .unset, .val (.int ((p2 &&& (2147483647 : Int32)) % (19 : Int32))), .val (.int (((((p3.toUInt32 >>> ((1 : Int32) &&& 31).toUInt32).toInt32) &&& (3 : Int32)) % (3 : Int32)) - (1 : Int32))), .unset]) rfl ?_
    show Steps p.tables e below (T23.setTop (mkF m 157 #[.val (.long q1), .second, .val (.int p2), .val (.int p3), .val (.ref b4), .unset, .unset, .val (.int ((p2 &&& (2147483647 : Int32)) % (19 : Int32))), .val (.int (((((p3.toUInt32 >>> ((1 : Int32) &&& 31).toUInt32).toInt32) &&& (3 : Int32)) % (3 : Int32)) - (1 : Int32))), .unset] [])) _
    refine XS.aload X23.here hx rfl (hb hby at_157) rfl rfl ?_
    show Steps p.tables e below (T23.setTop (mkF m 159 #[.val (.long q1), .second, .val (.int p2), .val (.int p3), .val (.ref b4), .unset, .unset, .val (.int ((p2 &&& (2147483647 : Int32)) % (19 : Int32))), .val (.int (((((p3.toUInt32 >>> ((1 : Int32) &&& 31).toUInt32).toInt32) &&& (3 : Int32)) % (3 : Int32)) - (1 : Int32))), .unset] [(.ref b4)])) _
    refine XS.iload X23.here hx rfl (hb hby at_159) rfl ?_
    show Steps p.tables e below (T23.setTop (mkF m 161 #[.val (.long q1), .second, .val (.int p2), .val (.int p3), .val (.ref b4), .unset, .unset, .val (.int ((p2 &&& (2147483647 : Int32)) % (19 : Int32))), .val (.int (((((p3.toUInt32 >>> ((1 : Int32) &&& 31).toUInt32).toInt32) &&& (3 : Int32)) % (3 : Int32)) - (1 : Int32))), .unset] [(.int ((p2 &&& (2147483647 : Int32)) % (19 : Int32))), (.ref b4)])) _
    refine X23.laload hx (j := ((p2 &&& (2147483647 : Int32)) % (19 : Int32))) (v := (.long (own_pw kk))) (by rw [e23]; exact Ap_b4.1) (State.isArrayOf_alike hZ.alike Ap_b4.2.1) Ap_b4.2.2 hin161 hat161 (g := (mkF m 161 #[.val (.long q1), .second, .val (.int p2), .val (.int p3), .val (.ref b4), .unset, .unset, .val (.int ((p2 &&& (2147483647 : Int32)) % (19 : Int32))), .val (.int (((((p3.toUInt32 >>> ((1 : Int32) &&& 31).toUInt32).toInt32) &&& (3 : Int32)) % (3 : Int32)) - (1 : Int32))), .unset] [(.int ((p2 &&& (2147483647 : Int32)) % (19 : Int32))), (.ref b4)])) rfl rfl (hb hby at_161) _ ?_
    show Steps p.tables e below (T23.setTop (mkF m 162 #[.val (.long q1), .second, .val (.int p2), .val (.int p3), .val (.ref b4), .unset, .unset, .val (.int ((p2 &&& (2147483647 : Int32)) % (19 : Int32))), .val (.int (((((p3.toUInt32 >>> ((1 : Int32) &&& 31).toUInt32).toInt32) &&& (3 : Int32)) % (3 : Int32)) - (1 : Int32))), .unset] [(.long (own_pw kk))])) _
    refine XS.iload X23.here hx rfl (hb hby at_162) rfl ?_
    show Steps p.tables e below (T23.setTop (mkF m 164 #[.val (.long q1), .second, .val (.int p2), .val (.int p3), .val (.ref b4), .unset, .unset, .val (.int ((p2 &&& (2147483647 : Int32)) % (19 : Int32))), .val (.int (((((p3.toUInt32 >>> ((1 : Int32) &&& 31).toUInt32).toInt32) &&& (3 : Int32)) % (3 : Int32)) - (1 : Int32))), .unset] [(.int (((((p3.toUInt32 >>> ((1 : Int32) &&& 31).toUInt32).toInt32) &&& (3 : Int32)) % (3 : Int32)) - (1 : Int32))), (.long (own_pw kk))])) _
    refine XS.i2l X23.here hx rfl (hb hby at_164) rfl ?_
    show Steps p.tables e below (T23.setTop (mkF m 165 #[.val (.long q1), .second, .val (.int p2), .val (.int p3), .val (.ref b4), .unset, .unset, .val (.int ((p2 &&& (2147483647 : Int32)) % (19 : Int32))), .val (.int (((((p3.toUInt32 >>> ((1 : Int32) &&& 31).toUInt32).toInt32) &&& (3 : Int32)) % (3 : Int32)) - (1 : Int32))), .unset] [(.long ((((((p3.toUInt32 >>> ((1 : Int32) &&& 31).toUInt32).toInt32) &&& (3 : Int32)) % (3 : Int32)) - (1 : Int32)).toInt64)), (.long (own_pw kk))])) _
    refine XS.ladd X23.here hx rfl (hb hby at_165) rfl ?_
    show Steps p.tables e below (T23.setTop (mkF m 166 #[.val (.long q1), .second, .val (.int p2), .val (.int p3), .val (.ref b4), .unset, .unset, .val (.int ((p2 &&& (2147483647 : Int32)) % (19 : Int32))), .val (.int (((((p3.toUInt32 >>> ((1 : Int32) &&& 31).toUInt32).toInt32) &&& (3 : Int32)) % (3 : Int32)) - (1 : Int32))), .unset] [(.long ((own_pw kk) + ((((((p3.toUInt32 >>> ((1 : Int32) &&& 31).toUInt32).toInt32) &&& (3 : Int32)) % (3 : Int32)) - (1 : Int32)).toInt64)))])) _
    refine XS.lstore X23.here hx rfl (hb hby at_166) rfl (l' := #[.val (.long q1), .second, .val (.int p2), .val (.int p3), .val (.ref b4), .val (.long ((own_pw kk) + ((((((p3.toUInt32 >>> ((1 : Int32) &&& 31).toUInt32).toInt32) &&& (3 : Int32)) % (3 : Int32)) - (1 : Int32)).toInt64))), .second, .val (.int ((p2 &&& (2147483647 : Int32)) % (19 : Int32))), .val (.int (((((p3.toUInt32 >>> ((1 : Int32) &&& 31).toUInt32).toInt32) &&& (3 : Int32)) % (3 : Int32)) - (1 : Int32))), .unset]) rfl ?_
    show Steps p.tables e below (T23.setTop (mkF m 168 #[.val (.long q1), .second, .val (.int p2), .val (.int p3), .val (.ref b4), .val (.long ((own_pw kk) + ((((((p3.toUInt32 >>> ((1 : Int32) &&& 31).toUInt32).toInt32) &&& (3 : Int32)) % (3 : Int32)) - (1 : Int32)).toInt64))), .second, .val (.int ((p2 &&& (2147483647 : Int32)) % (19 : Int32))), .val (.int (((((p3.toUInt32 >>> ((1 : Int32) &&& 31).toUInt32).toInt32) &&& (3 : Int32)) % (3 : Int32)) - (1 : Int32))), .unset] [])) _
    refine XS.goto X23.here hx rfl (pc0 := 168) (pc' := 183) rfl (hb hby at_168) (by decide) (by decide) ?_
    show Steps p.tables e below (T23.setTop (mkF m 183 #[.val (.long q1), .second, .val (.int p2), .val (.int p3), .val (.ref b4), .val (.long ((own_pw kk) + ((((((p3.toUInt32 >>> ((1 : Int32) &&& 31).toUInt32).toInt32) &&& (3 : Int32)) % (3 : Int32)) - (1 : Int32)).toInt64))), .second, .val (.int ((p2 &&& (2147483647 : Int32)) % (19 : Int32))), .val (.int (((((p3.toUInt32 >>> ((1 : Int32) &&& 31).toUInt32).toInt32) &&& (3 : Int32)) % (3 : Int32)) - (1 : Int32))), .unset] [])) _
    refine XS.lload X23.here hx rfl (hb hby at_183) rfl ?_
    show Steps p.tables e below (T23.setTop (mkF m 185 #[.val (.long q1), .second, .val (.int p2), .val (.int p3), .val (.ref b4), .val (.long ((own_pw kk) + ((((((p3.toUInt32 >>> ((1 : Int32) &&& 31).toUInt32).toInt32) &&& (3 : Int32)) % (3 : Int32)) - (1 : Int32)).toInt64))), .second, .val (.int ((p2 &&& (2147483647 : Int32)) % (19 : Int32))), .val (.int (((((p3.toUInt32 >>> ((1 : Int32) &&& 31).toUInt32).toInt32) &&& (3 : Int32)) % (3 : Int32)) - (1 : Int32))), .unset] [(.long ((own_pw kk) + ((((((p3.toUInt32 >>> ((1 : Int32) &&& 31).toUInt32).toInt32) &&& (3 : Int32)) % (3 : Int32)) - (1 : Int32)).toInt64)))])) _
    refine st25 _ ?_
    show Steps p.tables e below (T25.setTop (mkF m 188 #[.val (.long q1), .second, .val (.int p2), .val (.int p3), .val (.ref b4), .val (.long ((own_pw kk) + ((((((p3.toUInt32 >>> ((1 : Int32) &&& 31).toUInt32).toInt32) &&& (3 : Int32)) % (3 : Int32)) - (1 : Int32)).toInt64))), .second, .val (.int ((p2 &&& (2147483647 : Int32)) % (19 : Int32))), .val (.int (((((p3.toUInt32 >>> ((1 : Int32) &&& 31).toUInt32).toInt32) &&& (3 : Int32)) % (3 : Int32)) - (1 : Int32))), .unset] [(.int (Int32.ofNat r))])) _
    refine XS.istore X25.here hx rfl (hb hby at_188) rfl (l' := #[.val (.long q1), .second, .val (.int p2), .val (.int p3), .val (.ref b4), .val (.long ((own_pw kk) + ((((((p3.toUInt32 >>> ((1 : Int32) &&& 31).toUInt32).toInt32) &&& (3 : Int32)) % (3 : Int32)) - (1 : Int32)).toInt64))), .second, .val (.int (Int32.ofNat r)), .val (.int (((((p3.toUInt32 >>> ((1 : Int32) &&& 31).toUInt32).toInt32) &&& (3 : Int32)) % (3 : Int32)) - (1 : Int32))), .unset]) rfl ?_
    show Steps p.tables e below (T25.setTop (mkF m 190 #[.val (.long q1), .second, .val (.int p2), .val (.int p3), .val (.ref b4), .val (.long ((own_pw kk) + ((((((p3.toUInt32 >>> ((1 : Int32) &&& 31).toUInt32).toInt32) &&& (3 : Int32)) % (3 : Int32)) - (1 : Int32)).toInt64))), .second, .val (.int (Int32.ofNat r)), .val (.int (((((p3.toUInt32 >>> ((1 : Int32) &&& 31).toUInt32).toInt32) &&& (3 : Int32)) % (3 : Int32)) - (1 : Int32))), .unset] [])) _
    refine XS.iload X25.here hx rfl (hb hby at_190) rfl ?_
    show Steps p.tables e below (T25.setTop (mkF m 192 #[.val (.long q1), .second, .val (.int p2), .val (.int p3), .val (.ref b4), .val (.long ((own_pw kk) + ((((((p3.toUInt32 >>> ((1 : Int32) &&& 31).toUInt32).toInt32) &&& (3 : Int32)) % (3 : Int32)) - (1 : Int32)).toInt64))), .second, .val (.int (Int32.ofNat r)), .val (.int (((((p3.toUInt32 >>> ((1 : Int32) &&& 31).toUInt32).toInt32) &&& (3 : Int32)) % (3 : Int32)) - (1 : Int32))), .unset] [(.int (Int32.ofNat r))])) _
    refine XS.iconst X25.here hx rfl (hb hby at_192) ?_
    show Steps p.tables e below (T25.setTop (mkF m 193 #[.val (.long q1), .second, .val (.int p2), .val (.int p3), .val (.ref b4), .val (.long ((own_pw kk) + ((((((p3.toUInt32 >>> ((1 : Int32) &&& 31).toUInt32).toInt32) &&& (3 : Int32)) % (3 : Int32)) - (1 : Int32)).toInt64))), .second, .val (.int (Int32.ofNat r)), .val (.int (((((p3.toUInt32 >>> ((1 : Int32) &&& 31).toUInt32).toInt32) &&& (3 : Int32)) % (3 : Int32)) - (1 : Int32))), .unset] [(.int (1 : Int32)), (.int (Int32.ofNat r))])) _
    have hc193 : ¬ ((Int32.ofNat r) < (1 : Int32)) := (own_ge hdig).1
    refine XS.icmpNo X25.here hx rfl (hb hby at_193) rfl (flt hc193).1 ?_
    show Steps p.tables e below (T25.setTop (mkF m 196 #[.val (.long q1), .second, .val (.int p2), .val (.int p3), .val (.ref b4), .val (.long ((own_pw kk) + ((((((p3.toUInt32 >>> ((1 : Int32) &&& 31).toUInt32).toInt32) &&& (3 : Int32)) % (3 : Int32)) - (1 : Int32)).toInt64))), .second, .val (.int (Int32.ofNat r)), .val (.int (((((p3.toUInt32 >>> ((1 : Int32) &&& 31).toUInt32).toInt32) &&& (3 : Int32)) % (3 : Int32)) - (1 : Int32))), .unset] [])) _
    refine XS.iload X25.here hx rfl (hb hby at_196) rfl ?_
    show Steps p.tables e below (T25.setTop (mkF m 198 #[.val (.long q1), .second, .val (.int p2), .val (.int p3), .val (.ref b4), .val (.long ((own_pw kk) + ((((((p3.toUInt32 >>> ((1 : Int32) &&& 31).toUInt32).toInt32) &&& (3 : Int32)) % (3 : Int32)) - (1 : Int32)).toInt64))), .second, .val (.int (Int32.ofNat r)), .val (.int (((((p3.toUInt32 >>> ((1 : Int32) &&& 31).toUInt32).toInt32) &&& (3 : Int32)) % (3 : Int32)) - (1 : Int32))), .unset] [(.int (Int32.ofNat r))])) _
    refine XS.bipush X25.here hx rfl (hb hby at_198) ?_
    show Steps p.tables e below (T25.setTop (mkF m 200 #[.val (.long q1), .second, .val (.int p2), .val (.int p3), .val (.ref b4), .val (.long ((own_pw kk) + ((((((p3.toUInt32 >>> ((1 : Int32) &&& 31).toUInt32).toInt32) &&& (3 : Int32)) % (3 : Int32)) - (1 : Int32)).toInt64))), .second, .val (.int (Int32.ofNat r)), .val (.int (((((p3.toUInt32 >>> ((1 : Int32) &&& 31).toUInt32).toInt32) &&& (3 : Int32)) % (3 : Int32)) - (1 : Int32))), .unset] [(.int (19 : Int32)), (.int (Int32.ofNat r))])) _
    have hc200 : ¬ ((19 : Int32) < (Int32.ofNat r)) := (own_ge hdig).2
    refine XS.icmpYes X25.here hx rfl (pc0 := 200) (pc' := 205) rfl (hb hby at_200) rfl (flt hc200).2.2.2 (by decide) (by decide) ?_
    show Steps p.tables e below (T25.setTop (mkF m 205 #[.val (.long q1), .second, .val (.int p2), .val (.int p3), .val (.ref b4), .val (.long ((own_pw kk) + ((((((p3.toUInt32 >>> ((1 : Int32) &&& 31).toUInt32).toInt32) &&& (3 : Int32)) % (3 : Int32)) - (1 : Int32)).toInt64))), .second, .val (.int (Int32.ofNat r)), .val (.int (((((p3.toUInt32 >>> ((1 : Int32) &&& 31).toUInt32).toInt32) &&& (3 : Int32)) % (3 : Int32)) - (1 : Int32))), .unset] [])) _
    refine XS.iload X25.here hx rfl (hb hby at_205) rfl ?_
    show Steps p.tables e below (T25.setTop (mkF m 207 #[.val (.long q1), .second, .val (.int p2), .val (.int p3), .val (.ref b4), .val (.long ((own_pw kk) + ((((((p3.toUInt32 >>> ((1 : Int32) &&& 31).toUInt32).toInt32) &&& (3 : Int32)) % (3 : Int32)) - (1 : Int32)).toInt64))), .second, .val (.int (Int32.ofNat r)), .val (.int (((((p3.toUInt32 >>> ((1 : Int32) &&& 31).toUInt32).toInt32) &&& (3 : Int32)) % (3 : Int32)) - (1 : Int32))), .unset] [(.int (Int32.ofNat r))])) _
    refine XS.iconst X25.here hx rfl (hb hby at_207) ?_
    show Steps p.tables e below (T25.setTop (mkF m 208 #[.val (.long q1), .second, .val (.int p2), .val (.int p3), .val (.ref b4), .val (.long ((own_pw kk) + ((((((p3.toUInt32 >>> ((1 : Int32) &&& 31).toUInt32).toInt32) &&& (3 : Int32)) % (3 : Int32)) - (1 : Int32)).toInt64))), .second, .val (.int (Int32.ofNat r)), .val (.int (((((p3.toUInt32 >>> ((1 : Int32) &&& 31).toUInt32).toInt32) &&& (3 : Int32)) % (3 : Int32)) - (1 : Int32))), .unset] [(.int (1 : Int32)), (.int (Int32.ofNat r))])) _
    by_cases hc208 : (Int32.ofNat r) = (1 : Int32)
    · refine XS.icmpYes X25.here hx rfl (pc0 := 208) (pc' := 224) rfl (hb hby at_208) rfl (teq hc208).1 (by decide) (by decide) ?_
      show Steps p.tables e below (T25.setTop (mkF m 224 #[.val (.long q1), .second, .val (.int p2), .val (.int p3), .val (.ref b4), .val (.long ((own_pw kk) + ((((((p3.toUInt32 >>> ((1 : Int32) &&& 31).toUInt32).toInt32) &&& (3 : Int32)) % (3 : Int32)) - (1 : Int32)).toInt64))), .second, .val (.int (Int32.ofNat r)), .val (.int (((((p3.toUInt32 >>> ((1 : Int32) &&& 31).toUInt32).toInt32) &&& (3 : Int32)) % (3 : Int32)) - (1 : Int32))), .unset] [])) _
      refine XS.iconst X25.here hx rfl (hb hby at_224) ?_
      show Steps p.tables e below (T25.setTop (mkF m 225 #[.val (.long q1), .second, .val (.int p2), .val (.int p3), .val (.ref b4), .val (.long ((own_pw kk) + ((((((p3.toUInt32 >>> ((1 : Int32) &&& 31).toUInt32).toInt32) &&& (3 : Int32)) % (3 : Int32)) - (1 : Int32)).toInt64))), .second, .val (.int (Int32.ofNat r)), .val (.int (((((p3.toUInt32 >>> ((1 : Int32) &&& 31).toUInt32).toInt32) &&& (3 : Int32)) % (3 : Int32)) - (1 : Int32))), .unset] [(.int (1 : Int32))])) _
      refine XS.goto X25.here hx rfl (pc0 := 225) (pc' := 229) rfl (hb hby at_225) (by decide) (by decide) ?_
      show Steps p.tables e below (T25.setTop (mkF m 229 #[.val (.long q1), .second, .val (.int p2), .val (.int p3), .val (.ref b4), .val (.long ((own_pw kk) + ((((((p3.toUInt32 >>> ((1 : Int32) &&& 31).toUInt32).toInt32) &&& (3 : Int32)) % (3 : Int32)) - (1 : Int32)).toInt64))), .second, .val (.int (Int32.ofNat r)), .val (.int (((((p3.toUInt32 >>> ((1 : Int32) &&& 31).toUInt32).toInt32) &&& (3 : Int32)) % (3 : Int32)) - (1 : Int32))), .unset] [(.int (1 : Int32))])) _
      refine XS.istore X25.here hx rfl (hb hby at_229) rfl (l' := #[.val (.long q1), .second, .val (.int p2), .val (.int p3), .val (.ref b4), .val (.long ((own_pw kk) + ((((((p3.toUInt32 >>> ((1 : Int32) &&& 31).toUInt32).toInt32) &&& (3 : Int32)) % (3 : Int32)) - (1 : Int32)).toInt64))), .second, .val (.int (Int32.ofNat r)), .val (.int (1 : Int32)), .unset]) rfl ?_
      show Steps p.tables e below (T25.setTop (mkF m 231 #[.val (.long q1), .second, .val (.int p2), .val (.int p3), .val (.ref b4), .val (.long ((own_pw kk) + ((((((p3.toUInt32 >>> ((1 : Int32) &&& 31).toUInt32).toInt32) &&& (3 : Int32)) % (3 : Int32)) - (1 : Int32)).toInt64))), .second, .val (.int (Int32.ofNat r)), .val (.int (1 : Int32)), .unset] [])) _
      refine XS.iload X25.here hx rfl (hb hby at_231) rfl ?_
      show Steps p.tables e below (T25.setTop (mkF m 233 #[.val (.long q1), .second, .val (.int p2), .val (.int p3), .val (.ref b4), .val (.long ((own_pw kk) + ((((((p3.toUInt32 >>> ((1 : Int32) &&& 31).toUInt32).toInt32) &&& (3 : Int32)) % (3 : Int32)) - (1 : Int32)).toInt64))), .second, .val (.int (Int32.ofNat r)), .val (.int (1 : Int32)), .unset] [(.int (Int32.ofNat r))])) _
      refine XS.bipush X25.here hx rfl (hb hby at_233) ?_
      show Steps p.tables e below (T25.setTop (mkF m 235 #[.val (.long q1), .second, .val (.int p2), .val (.int p3), .val (.ref b4), .val (.long ((own_pw kk) + ((((((p3.toUInt32 >>> ((1 : Int32) &&& 31).toUInt32).toInt32) &&& (3 : Int32)) % (3 : Int32)) - (1 : Int32)).toInt64))), .second, .val (.int (Int32.ofNat r)), .val (.int (1 : Int32)), .unset] [(.int (19 : Int32)), (.int (Int32.ofNat r))])) _
      by_cases hc235 : (Int32.ofNat r) = (19 : Int32)
      · refine XS.icmpYes X25.here hx rfl (pc0 := 235) (pc' := 249) rfl (hb hby at_235) rfl (teq hc235).1 (by decide) (by decide) ?_
        show Steps p.tables e below (T25.setTop (mkF m 249 #[.val (.long q1), .second, .val (.int p2), .val (.int p3), .val (.ref b4), .val (.long ((own_pw kk) + ((((((p3.toUInt32 >>> ((1 : Int32) &&& 31).toUInt32).toInt32) &&& (3 : Int32)) % (3 : Int32)) - (1 : Int32)).toInt64))), .second, .val (.int (Int32.ofNat r)), .val (.int (1 : Int32)), .unset] [])) _
        refine XS.iconst X25.here hx rfl (hb hby at_249) ?_
        show Steps p.tables e below (T25.setTop (mkF m 250 #[.val (.long q1), .second, .val (.int p2), .val (.int p3), .val (.ref b4), .val (.long ((own_pw kk) + ((((((p3.toUInt32 >>> ((1 : Int32) &&& 31).toUInt32).toInt32) &&& (3 : Int32)) % (3 : Int32)) - (1 : Int32)).toInt64))), .second, .val (.int (Int32.ofNat r)), .val (.int (1 : Int32)), .unset] [(.int (1 : Int32))])) _
        refine XS.goto X25.here hx rfl (pc0 := 250) (pc' := 254) rfl (hb hby at_250) (by decide) (by decide) ?_
        show Steps p.tables e below (T25.setTop (mkF m 254 #[.val (.long q1), .second, .val (.int p2), .val (.int p3), .val (.ref b4), .val (.long ((own_pw kk) + ((((((p3.toUInt32 >>> ((1 : Int32) &&& 31).toUInt32).toInt32) &&& (3 : Int32)) % (3 : Int32)) - (1 : Int32)).toInt64))), .second, .val (.int (Int32.ofNat r)), .val (.int (1 : Int32)), .unset] [(.int (1 : Int32))])) _
        refine XS.istore X25.here hx rfl (hb hby at_254) rfl (l' := #[.val (.long q1), .second, .val (.int p2), .val (.int p3), .val (.ref b4), .val (.long ((own_pw kk) + ((((((p3.toUInt32 >>> ((1 : Int32) &&& 31).toUInt32).toInt32) &&& (3 : Int32)) % (3 : Int32)) - (1 : Int32)).toInt64))), .second, .val (.int (Int32.ofNat r)), .val (.int (1 : Int32)), .val (.int (1 : Int32))]) rfl ?_
        show Steps p.tables e below (T25.setTop (mkF m 256 #[.val (.long q1), .second, .val (.int p2), .val (.int p3), .val (.ref b4), .val (.long ((own_pw kk) + ((((((p3.toUInt32 >>> ((1 : Int32) &&& 31).toUInt32).toInt32) &&& (3 : Int32)) % (3 : Int32)) - (1 : Int32)).toInt64))), .second, .val (.int (Int32.ofNat r)), .val (.int (1 : Int32)), .val (.int (1 : Int32))] [])) _
        refine XS.iload X25.here hx rfl (hb hby at_256) rfl ?_
        show Steps p.tables e below (T25.setTop (mkF m 258 #[.val (.long q1), .second, .val (.int p2), .val (.int p3), .val (.ref b4), .val (.long ((own_pw kk) + ((((((p3.toUInt32 >>> ((1 : Int32) &&& 31).toUInt32).toInt32) &&& (3 : Int32)) % (3 : Int32)) - (1 : Int32)).toInt64))), .second, .val (.int (Int32.ofNat r)), .val (.int (1 : Int32)), .val (.int (1 : Int32))] [(.int (1 : Int32))])) _
        have hc258 : ¬ ((1 : Int32) = (0 : Int32)) := by decide
        refine XS.ifNo X25.here hx rfl (hb hby at_258) rfl ((if0 _ _).trans (feq hc258).1) ?_
        show Steps p.tables e below (T25.setTop (mkF m 261 #[.val (.long q1), .second, .val (.int p2), .val (.int p3), .val (.ref b4), .val (.long ((own_pw kk) + ((((((p3.toUInt32 >>> ((1 : Int32) &&& 31).toUInt32).toInt32) &&& (3 : Int32)) % (3 : Int32)) - (1 : Int32)).toInt64))), .second, .val (.int (Int32.ofNat r)), .val (.int (1 : Int32)), .val (.int (1 : Int32))] [])) _
        refine XS.iload X25.here hx rfl (hb hby at_261) rfl ?_
        show Steps p.tables e below (T25.setTop (mkF m 263 #[.val (.long q1), .second, .val (.int p2), .val (.int p3), .val (.ref b4), .val (.long ((own_pw kk) + ((((((p3.toUInt32 >>> ((1 : Int32) &&& 31).toUInt32).toInt32) &&& (3 : Int32)) % (3 : Int32)) - (1 : Int32)).toInt64))), .second, .val (.int (Int32.ofNat r)), .val (.int (1 : Int32)), .val (.int (1 : Int32))] [(.int (1 : Int32))])) _
        have hc263 : ¬ ((1 : Int32) = (0 : Int32)) := by decide
        refine XS.ifNo X25.here hx rfl (hb hby at_263) rfl ((if0 _ _).trans (feq hc263).1) ?_
        show Steps p.tables e below (T25.setTop (mkF m 266 #[.val (.long q1), .second, .val (.int p2), .val (.int p3), .val (.ref b4), .val (.long ((own_pw kk) + ((((((p3.toUInt32 >>> ((1 : Int32) &&& 31).toUInt32).toInt32) &&& (3 : Int32)) % (3 : Int32)) - (1 : Int32)).toInt64))), .second, .val (.int (Int32.ofNat r)), .val (.int (1 : Int32)), .val (.int (1 : Int32))] [])) _
        refine XS.iconst X25.here hx rfl (hb hby at_266) ?_
        show Steps p.tables e below (T25.setTop (mkF m 267 #[.val (.long q1), .second, .val (.int p2), .val (.int p3), .val (.ref b4), .val (.long ((own_pw kk) + ((((((p3.toUInt32 >>> ((1 : Int32) &&& 31).toUInt32).toInt32) &&& (3 : Int32)) % (3 : Int32)) - (1 : Int32)).toInt64))), .second, .val (.int (Int32.ofNat r)), .val (.int (1 : Int32)), .val (.int (1 : Int32))] [(.int (1 : Int32))])) _
        refine XS.goto X25.here hx rfl (pc0 := 267) (pc' := 271) rfl (hb hby at_267) (by decide) (by decide) ?_
        show Steps p.tables e below (T25.setTop (mkF m 271 #[.val (.long q1), .second, .val (.int p2), .val (.int p3), .val (.ref b4), .val (.long ((own_pw kk) + ((((((p3.toUInt32 >>> ((1 : Int32) &&& 31).toUInt32).toInt32) &&& (3 : Int32)) % (3 : Int32)) - (1 : Int32)).toInt64))), .second, .val (.int (Int32.ofNat r)), .val (.int (1 : Int32)), .val (.int (1 : Int32))] [(.int (1 : Int32))])) _
        exact retN X25 hx (t := .boolean) Bd.returns (by simp) (hb hby at_271) hr
      · refine XS.icmpNo X25.here hx rfl (hb hby at_235) rfl (feq hc235).1 ?_
        show Steps p.tables e below (T25.setTop (mkF m 238 #[.val (.long q1), .second, .val (.int p2), .val (.int p3), .val (.ref b4), .val (.long ((own_pw kk) + ((((((p3.toUInt32 >>> ((1 : Int32) &&& 31).toUInt32).toInt32) &&& (3 : Int32)) % (3 : Int32)) - (1 : Int32)).toInt64))), .second, .val (.int (Int32.ofNat r)), .val (.int (1 : Int32)), .unset] [])) _
        refine XS.lload X25.here hx rfl (hb hby at_238) rfl ?_
        show Steps p.tables e below (T25.setTop (mkF m 240 #[.val (.long q1), .second, .val (.int p2), .val (.int p3), .val (.ref b4), .val (.long ((own_pw kk) + ((((((p3.toUInt32 >>> ((1 : Int32) &&& 31).toUInt32).toInt32) &&& (3 : Int32)) % (3 : Int32)) - (1 : Int32)).toInt64))), .second, .val (.int (Int32.ofNat r)), .val (.int (1 : Int32)), .unset] [(.long ((own_pw kk) + ((((((p3.toUInt32 >>> ((1 : Int32) &&& 31).toUInt32).toInt32) &&& (3 : Int32)) % (3 : Int32)) - (1 : Int32)).toInt64)))])) _
        refine XS.aload X25.here hx rfl (hb hby at_240) rfl rfl ?_
        show Steps p.tables e below (T25.setTop (mkF m 242 #[.val (.long q1), .second, .val (.int p2), .val (.int p3), .val (.ref b4), .val (.long ((own_pw kk) + ((((((p3.toUInt32 >>> ((1 : Int32) &&& 31).toUInt32).toInt32) &&& (3 : Int32)) % (3 : Int32)) - (1 : Int32)).toInt64))), .second, .val (.int (Int32.ofNat r)), .val (.int (1 : Int32)), .unset] [(.ref b4), (.long ((own_pw kk) + ((((((p3.toUInt32 >>> ((1 : Int32) &&& 31).toUInt32).toInt32) &&& (3 : Int32)) % (3 : Int32)) - (1 : Int32)).toInt64)))])) _
        refine XS.iload X25.here hx rfl (hb hby at_242) rfl ?_
        show Steps p.tables e below (T25.setTop (mkF m 244 #[.val (.long q1), .second, .val (.int p2), .val (.int p3), .val (.ref b4), .val (.long ((own_pw kk) + ((((((p3.toUInt32 >>> ((1 : Int32) &&& 31).toUInt32).toInt32) &&& (3 : Int32)) % (3 : Int32)) - (1 : Int32)).toInt64))), .second, .val (.int (Int32.ofNat r)), .val (.int (1 : Int32)), .unset] [(.int (Int32.ofNat r)), (.ref b4), (.long ((own_pw kk) + ((((((p3.toUInt32 >>> ((1 : Int32) &&& 31).toUInt32).toInt32) &&& (3 : Int32)) % (3 : Int32)) - (1 : Int32)).toInt64)))])) _
        have hat244 : cl.slots[(Int32.ofNat r).toNatClampNeg]? = some (.long (own_pw r)) := own_ld S_b4 H_b4 (own_i hdig.2.1) (own_ne19 hdig.2.1 hc235)
        have hin244 : ¬ ((Int32.ofNat r) < 0 ∨ cl.slots.size ≤ (Int32.ofNat r).toNatClampNeg) := own_in S_b4 (own_i hdig.2.1) (own_ne19 hdig.2.1 hc235)
        refine X25.laload hx (j := (Int32.ofNat r)) (v := (.long (own_pw r))) (by exact Ar_b4.1) (State.isArrayOf_alike hZ.alike Ar_b4.2.1) Ar_b4.2.2 hin244 hat244 (g := (mkF m 244 #[.val (.long q1), .second, .val (.int p2), .val (.int p3), .val (.ref b4), .val (.long ((own_pw kk) + ((((((p3.toUInt32 >>> ((1 : Int32) &&& 31).toUInt32).toInt32) &&& (3 : Int32)) % (3 : Int32)) - (1 : Int32)).toInt64))), .second, .val (.int (Int32.ofNat r)), .val (.int (1 : Int32)), .unset] [(.int (Int32.ofNat r)), (.ref b4), (.long ((own_pw kk) + ((((((p3.toUInt32 >>> ((1 : Int32) &&& 31).toUInt32).toInt32) &&& (3 : Int32)) % (3 : Int32)) - (1 : Int32)).toInt64)))])) rfl rfl (hb hby at_244) _ ?_
        show Steps p.tables e below (T25.setTop (mkF m 245 #[.val (.long q1), .second, .val (.int p2), .val (.int p3), .val (.ref b4), .val (.long ((own_pw kk) + ((((((p3.toUInt32 >>> ((1 : Int32) &&& 31).toUInt32).toInt32) &&& (3 : Int32)) % (3 : Int32)) - (1 : Int32)).toInt64))), .second, .val (.int (Int32.ofNat r)), .val (.int (1 : Int32)), .unset] [(.long (own_pw r)), (.long ((own_pw kk) + ((((((p3.toUInt32 >>> ((1 : Int32) &&& 31).toUInt32).toInt32) &&& (3 : Int32)) % (3 : Int32)) - (1 : Int32)).toInt64)))])) _
        refine XS.lcmp X25.here hx rfl (hb hby at_245) rfl ?_
        show Steps p.tables e below (T25.setTop (mkF m 246 #[.val (.long q1), .second, .val (.int p2), .val (.int p3), .val (.ref b4), .val (.long ((own_pw kk) + ((((((p3.toUInt32 >>> ((1 : Int32) &&& 31).toUInt32).toInt32) &&& (3 : Int32)) % (3 : Int32)) - (1 : Int32)).toInt64))), .second, .val (.int (Int32.ofNat r)), .val (.int (1 : Int32)), .unset] [(.int (lcmpW ((own_pw kk) + ((((((p3.toUInt32 >>> ((1 : Int32) &&& 31).toUInt32).toInt32) &&& (3 : Int32)) % (3 : Int32)) - (1 : Int32)).toInt64)) (own_pw r)))])) _
        have hc246 : (lcmpW ((own_pw kk) + ((((((p3.toUInt32 >>> ((1 : Int32) &&& 31).toUInt32).toInt32) &&& (3 : Int32)) % (3 : Int32)) - (1 : Int32)).toInt64)) (own_pw r)) < (0 : Int32) := own_high hdig hc235
        refine XS.ifNo X25.here hx rfl (hb hby at_246) rfl ((if0 _ _).trans (tlt hc246).2.1) ?_
        show Steps p.tables e below (T25.setTop (mkF m 249 #[.val (.long q1), .second, .val (.int p2), .val (.int p3), .val (.ref b4), .val (.long ((own_pw kk) + ((((((p3.toUInt32 >>> ((1 : Int32) &&& 31).toUInt32).toInt32) &&& (3 : Int32)) % (3 : Int32)) - (1 : Int32)).toInt64))), .second, .val (.int (Int32.ofNat r)), .val (.int (1 : Int32)), .unset] [])) _
        refine XS.iconst X25.here hx rfl (hb hby at_249) ?_
        show Steps p.tables e below (T25.setTop (mkF m 250 #[.val (.long q1), .second, .val (.int p2), .val (.int p3), .val (.ref b4), .val (.long ((own_pw kk) + ((((((p3.toUInt32 >>> ((1 : Int32) &&& 31).toUInt32).toInt32) &&& (3 : Int32)) % (3 : Int32)) - (1 : Int32)).toInt64))), .second, .val (.int (Int32.ofNat r)), .val (.int (1 : Int32)), .unset] [(.int (1 : Int32))])) _
        refine XS.goto X25.here hx rfl (pc0 := 250) (pc' := 254) rfl (hb hby at_250) (by decide) (by decide) ?_
        show Steps p.tables e below (T25.setTop (mkF m 254 #[.val (.long q1), .second, .val (.int p2), .val (.int p3), .val (.ref b4), .val (.long ((own_pw kk) + ((((((p3.toUInt32 >>> ((1 : Int32) &&& 31).toUInt32).toInt32) &&& (3 : Int32)) % (3 : Int32)) - (1 : Int32)).toInt64))), .second, .val (.int (Int32.ofNat r)), .val (.int (1 : Int32)), .unset] [(.int (1 : Int32))])) _
        refine XS.istore X25.here hx rfl (hb hby at_254) rfl (l' := #[.val (.long q1), .second, .val (.int p2), .val (.int p3), .val (.ref b4), .val (.long ((own_pw kk) + ((((((p3.toUInt32 >>> ((1 : Int32) &&& 31).toUInt32).toInt32) &&& (3 : Int32)) % (3 : Int32)) - (1 : Int32)).toInt64))), .second, .val (.int (Int32.ofNat r)), .val (.int (1 : Int32)), .val (.int (1 : Int32))]) rfl ?_
        show Steps p.tables e below (T25.setTop (mkF m 256 #[.val (.long q1), .second, .val (.int p2), .val (.int p3), .val (.ref b4), .val (.long ((own_pw kk) + ((((((p3.toUInt32 >>> ((1 : Int32) &&& 31).toUInt32).toInt32) &&& (3 : Int32)) % (3 : Int32)) - (1 : Int32)).toInt64))), .second, .val (.int (Int32.ofNat r)), .val (.int (1 : Int32)), .val (.int (1 : Int32))] [])) _
        refine XS.iload X25.here hx rfl (hb hby at_256) rfl ?_
        show Steps p.tables e below (T25.setTop (mkF m 258 #[.val (.long q1), .second, .val (.int p2), .val (.int p3), .val (.ref b4), .val (.long ((own_pw kk) + ((((((p3.toUInt32 >>> ((1 : Int32) &&& 31).toUInt32).toInt32) &&& (3 : Int32)) % (3 : Int32)) - (1 : Int32)).toInt64))), .second, .val (.int (Int32.ofNat r)), .val (.int (1 : Int32)), .val (.int (1 : Int32))] [(.int (1 : Int32))])) _
        have hc258 : ¬ ((1 : Int32) = (0 : Int32)) := by decide
        refine XS.ifNo X25.here hx rfl (hb hby at_258) rfl ((if0 _ _).trans (feq hc258).1) ?_
        show Steps p.tables e below (T25.setTop (mkF m 261 #[.val (.long q1), .second, .val (.int p2), .val (.int p3), .val (.ref b4), .val (.long ((own_pw kk) + ((((((p3.toUInt32 >>> ((1 : Int32) &&& 31).toUInt32).toInt32) &&& (3 : Int32)) % (3 : Int32)) - (1 : Int32)).toInt64))), .second, .val (.int (Int32.ofNat r)), .val (.int (1 : Int32)), .val (.int (1 : Int32))] [])) _
        refine XS.iload X25.here hx rfl (hb hby at_261) rfl ?_
        show Steps p.tables e below (T25.setTop (mkF m 263 #[.val (.long q1), .second, .val (.int p2), .val (.int p3), .val (.ref b4), .val (.long ((own_pw kk) + ((((((p3.toUInt32 >>> ((1 : Int32) &&& 31).toUInt32).toInt32) &&& (3 : Int32)) % (3 : Int32)) - (1 : Int32)).toInt64))), .second, .val (.int (Int32.ofNat r)), .val (.int (1 : Int32)), .val (.int (1 : Int32))] [(.int (1 : Int32))])) _
        have hc263 : ¬ ((1 : Int32) = (0 : Int32)) := by decide
        refine XS.ifNo X25.here hx rfl (hb hby at_263) rfl ((if0 _ _).trans (feq hc263).1) ?_
        show Steps p.tables e below (T25.setTop (mkF m 266 #[.val (.long q1), .second, .val (.int p2), .val (.int p3), .val (.ref b4), .val (.long ((own_pw kk) + ((((((p3.toUInt32 >>> ((1 : Int32) &&& 31).toUInt32).toInt32) &&& (3 : Int32)) % (3 : Int32)) - (1 : Int32)).toInt64))), .second, .val (.int (Int32.ofNat r)), .val (.int (1 : Int32)), .val (.int (1 : Int32))] [])) _
        refine XS.iconst X25.here hx rfl (hb hby at_266) ?_
        show Steps p.tables e below (T25.setTop (mkF m 267 #[.val (.long q1), .second, .val (.int p2), .val (.int p3), .val (.ref b4), .val (.long ((own_pw kk) + ((((((p3.toUInt32 >>> ((1 : Int32) &&& 31).toUInt32).toInt32) &&& (3 : Int32)) % (3 : Int32)) - (1 : Int32)).toInt64))), .second, .val (.int (Int32.ofNat r)), .val (.int (1 : Int32)), .val (.int (1 : Int32))] [(.int (1 : Int32))])) _
        refine XS.goto X25.here hx rfl (pc0 := 267) (pc' := 271) rfl (hb hby at_267) (by decide) (by decide) ?_
        show Steps p.tables e below (T25.setTop (mkF m 271 #[.val (.long q1), .second, .val (.int p2), .val (.int p3), .val (.ref b4), .val (.long ((own_pw kk) + ((((((p3.toUInt32 >>> ((1 : Int32) &&& 31).toUInt32).toInt32) &&& (3 : Int32)) % (3 : Int32)) - (1 : Int32)).toInt64))), .second, .val (.int (Int32.ofNat r)), .val (.int (1 : Int32)), .val (.int (1 : Int32))] [(.int (1 : Int32))])) _
        exact retN X25 hx (t := .boolean) Bd.returns (by simp) (hb hby at_271) hr
    · refine XS.icmpNo X25.here hx rfl (hb hby at_208) rfl (feq hc208).1 ?_
      show Steps p.tables e below (T25.setTop (mkF m 211 #[.val (.long q1), .second, .val (.int p2), .val (.int p3), .val (.ref b4), .val (.long ((own_pw kk) + ((((((p3.toUInt32 >>> ((1 : Int32) &&& 31).toUInt32).toInt32) &&& (3 : Int32)) % (3 : Int32)) - (1 : Int32)).toInt64))), .second, .val (.int (Int32.ofNat r)), .val (.int (((((p3.toUInt32 >>> ((1 : Int32) &&& 31).toUInt32).toInt32) &&& (3 : Int32)) % (3 : Int32)) - (1 : Int32))), .unset] [])) _
      refine XS.lload X25.here hx rfl (hb hby at_211) rfl ?_
      show Steps p.tables e below (T25.setTop (mkF m 213 #[.val (.long q1), .second, .val (.int p2), .val (.int p3), .val (.ref b4), .val (.long ((own_pw kk) + ((((((p3.toUInt32 >>> ((1 : Int32) &&& 31).toUInt32).toInt32) &&& (3 : Int32)) % (3 : Int32)) - (1 : Int32)).toInt64))), .second, .val (.int (Int32.ofNat r)), .val (.int (((((p3.toUInt32 >>> ((1 : Int32) &&& 31).toUInt32).toInt32) &&& (3 : Int32)) % (3 : Int32)) - (1 : Int32))), .unset] [(.long ((own_pw kk) + ((((((p3.toUInt32 >>> ((1 : Int32) &&& 31).toUInt32).toInt32) &&& (3 : Int32)) % (3 : Int32)) - (1 : Int32)).toInt64)))])) _
      refine XS.aload X25.here hx rfl (hb hby at_213) rfl rfl ?_
      show Steps p.tables e below (T25.setTop (mkF m 215 #[.val (.long q1), .second, .val (.int p2), .val (.int p3), .val (.ref b4), .val (.long ((own_pw kk) + ((((((p3.toUInt32 >>> ((1 : Int32) &&& 31).toUInt32).toInt32) &&& (3 : Int32)) % (3 : Int32)) - (1 : Int32)).toInt64))), .second, .val (.int (Int32.ofNat r)), .val (.int (((((p3.toUInt32 >>> ((1 : Int32) &&& 31).toUInt32).toInt32) &&& (3 : Int32)) % (3 : Int32)) - (1 : Int32))), .unset] [(.ref b4), (.long ((own_pw kk) + ((((((p3.toUInt32 >>> ((1 : Int32) &&& 31).toUInt32).toInt32) &&& (3 : Int32)) % (3 : Int32)) - (1 : Int32)).toInt64)))])) _
      refine XS.iload X25.here hx rfl (hb hby at_215) rfl ?_
      show Steps p.tables e below (T25.setTop (mkF m 217 #[.val (.long q1), .second, .val (.int p2), .val (.int p3), .val (.ref b4), .val (.long ((own_pw kk) + ((((((p3.toUInt32 >>> ((1 : Int32) &&& 31).toUInt32).toInt32) &&& (3 : Int32)) % (3 : Int32)) - (1 : Int32)).toInt64))), .second, .val (.int (Int32.ofNat r)), .val (.int (((((p3.toUInt32 >>> ((1 : Int32) &&& 31).toUInt32).toInt32) &&& (3 : Int32)) % (3 : Int32)) - (1 : Int32))), .unset] [(.int (Int32.ofNat r)), (.ref b4), (.long ((own_pw kk) + ((((((p3.toUInt32 >>> ((1 : Int32) &&& 31).toUInt32).toInt32) &&& (3 : Int32)) % (3 : Int32)) - (1 : Int32)).toInt64)))])) _
      refine XS.iconst X25.here hx rfl (hb hby at_217) ?_
      show Steps p.tables e below (T25.setTop (mkF m 218 #[.val (.long q1), .second, .val (.int p2), .val (.int p3), .val (.ref b4), .val (.long ((own_pw kk) + ((((((p3.toUInt32 >>> ((1 : Int32) &&& 31).toUInt32).toInt32) &&& (3 : Int32)) % (3 : Int32)) - (1 : Int32)).toInt64))), .second, .val (.int (Int32.ofNat r)), .val (.int (((((p3.toUInt32 >>> ((1 : Int32) &&& 31).toUInt32).toInt32) &&& (3 : Int32)) % (3 : Int32)) - (1 : Int32))), .unset] [(.int (1 : Int32)), (.int (Int32.ofNat r)), (.ref b4), (.long ((own_pw kk) + ((((((p3.toUInt32 >>> ((1 : Int32) &&& 31).toUInt32).toInt32) &&& (3 : Int32)) % (3 : Int32)) - (1 : Int32)).toInt64)))])) _
      refine XS.isub X25.here hx rfl (hb hby at_218) rfl ?_
      show Steps p.tables e below (T25.setTop (mkF m 219 #[.val (.long q1), .second, .val (.int p2), .val (.int p3), .val (.ref b4), .val (.long ((own_pw kk) + ((((((p3.toUInt32 >>> ((1 : Int32) &&& 31).toUInt32).toInt32) &&& (3 : Int32)) % (3 : Int32)) - (1 : Int32)).toInt64))), .second, .val (.int (Int32.ofNat r)), .val (.int (((((p3.toUInt32 >>> ((1 : Int32) &&& 31).toUInt32).toInt32) &&& (3 : Int32)) % (3 : Int32)) - (1 : Int32))), .unset] [(.int ((Int32.ofNat r) - (1 : Int32))), (.ref b4), (.long ((own_pw kk) + ((((((p3.toUInt32 >>> ((1 : Int32) &&& 31).toUInt32).toInt32) &&& (3 : Int32)) % (3 : Int32)) - (1 : Int32)).toInt64)))])) _
      have hat219 : cl.slots[(Int32.ofNat r - (1 : Int32)).toNatClampNeg]? = some (.long (own_pw (r - 1))) := own_ld S_b4 H_b4 (own_dec hdig.1 hdig.2.1) (by have := hdig.2.1; have := hdig.1; omega)
      have hin219 : ¬ ((Int32.ofNat r - (1 : Int32)) < 0 ∨ cl.slots.size ≤ (Int32.ofNat r - (1 : Int32)).toNatClampNeg) := own_in S_b4 (own_dec hdig.1 hdig.2.1) (by have := hdig.2.1; have := hdig.1; omega)
      refine X25.laload hx (j := ((Int32.ofNat r) - (1 : Int32))) (v := (.long (own_pw (r - 1)))) (by exact Ar_b4.1) (State.isArrayOf_alike hZ.alike Ar_b4.2.1) Ar_b4.2.2 hin219 hat219 (g := (mkF m 219 #[.val (.long q1), .second, .val (.int p2), .val (.int p3), .val (.ref b4), .val (.long ((own_pw kk) + ((((((p3.toUInt32 >>> ((1 : Int32) &&& 31).toUInt32).toInt32) &&& (3 : Int32)) % (3 : Int32)) - (1 : Int32)).toInt64))), .second, .val (.int (Int32.ofNat r)), .val (.int (((((p3.toUInt32 >>> ((1 : Int32) &&& 31).toUInt32).toInt32) &&& (3 : Int32)) % (3 : Int32)) - (1 : Int32))), .unset] [(.int ((Int32.ofNat r) - (1 : Int32))), (.ref b4), (.long ((own_pw kk) + ((((((p3.toUInt32 >>> ((1 : Int32) &&& 31).toUInt32).toInt32) &&& (3 : Int32)) % (3 : Int32)) - (1 : Int32)).toInt64)))])) rfl rfl (hb hby at_219) _ ?_
      show Steps p.tables e below (T25.setTop (mkF m 220 #[.val (.long q1), .second, .val (.int p2), .val (.int p3), .val (.ref b4), .val (.long ((own_pw kk) + ((((((p3.toUInt32 >>> ((1 : Int32) &&& 31).toUInt32).toInt32) &&& (3 : Int32)) % (3 : Int32)) - (1 : Int32)).toInt64))), .second, .val (.int (Int32.ofNat r)), .val (.int (((((p3.toUInt32 >>> ((1 : Int32) &&& 31).toUInt32).toInt32) &&& (3 : Int32)) % (3 : Int32)) - (1 : Int32))), .unset] [(.long (own_pw (r - 1))), (.long ((own_pw kk) + ((((((p3.toUInt32 >>> ((1 : Int32) &&& 31).toUInt32).toInt32) &&& (3 : Int32)) % (3 : Int32)) - (1 : Int32)).toInt64)))])) _
      refine XS.lcmp X25.here hx rfl (hb hby at_220) rfl ?_
      show Steps p.tables e below (T25.setTop (mkF m 221 #[.val (.long q1), .second, .val (.int p2), .val (.int p3), .val (.ref b4), .val (.long ((own_pw kk) + ((((((p3.toUInt32 >>> ((1 : Int32) &&& 31).toUInt32).toInt32) &&& (3 : Int32)) % (3 : Int32)) - (1 : Int32)).toInt64))), .second, .val (.int (Int32.ofNat r)), .val (.int (((((p3.toUInt32 >>> ((1 : Int32) &&& 31).toUInt32).toInt32) &&& (3 : Int32)) % (3 : Int32)) - (1 : Int32))), .unset] [(.int (lcmpW ((own_pw kk) + ((((((p3.toUInt32 >>> ((1 : Int32) &&& 31).toUInt32).toInt32) &&& (3 : Int32)) % (3 : Int32)) - (1 : Int32)).toInt64)) (own_pw (r - 1))))])) _
      have hc221 : ¬ ((lcmpW ((own_pw kk) + ((((((p3.toUInt32 >>> ((1 : Int32) &&& 31).toUInt32).toInt32) &&& (3 : Int32)) % (3 : Int32)) - (1 : Int32)).toInt64)) (own_pw (r - 1))) < (0 : Int32)) := own_low hdig hc208
      refine XS.ifNo X25.here hx rfl (hb hby at_221) rfl ((if0 _ _).trans (flt hc221).1) ?_
      show Steps p.tables e below (T25.setTop (mkF m 224 #[.val (.long q1), .second, .val (.int p2), .val (.int p3), .val (.ref b4), .val (.long ((own_pw kk) + ((((((p3.toUInt32 >>> ((1 : Int32) &&& 31).toUInt32).toInt32) &&& (3 : Int32)) % (3 : Int32)) - (1 : Int32)).toInt64))), .second, .val (.int (Int32.ofNat r)), .val (.int (((((p3.toUInt32 >>> ((1 : Int32) &&& 31).toUInt32).toInt32) &&& (3 : Int32)) % (3 : Int32)) - (1 : Int32))), .unset] [])) _
      refine XS.iconst X25.here hx rfl (hb hby at_224) ?_
      show Steps p.tables e below (T25.setTop (mkF m 225 #[.val (.long q1), .second, .val (.int p2), .val (.int p3), .val (.ref b4), .val (.long ((own_pw kk) + ((((((p3.toUInt32 >>> ((1 : Int32) &&& 31).toUInt32).toInt32) &&& (3 : Int32)) % (3 : Int32)) - (1 : Int32)).toInt64))), .second, .val (.int (Int32.ofNat r)), .val (.int (((((p3.toUInt32 >>> ((1 : Int32) &&& 31).toUInt32).toInt32) &&& (3 : Int32)) % (3 : Int32)) - (1 : Int32))), .unset] [(.int (1 : Int32))])) _
      refine XS.goto X25.here hx rfl (pc0 := 225) (pc' := 229) rfl (hb hby at_225) (by decide) (by decide) ?_
      show Steps p.tables e below (T25.setTop (mkF m 229 #[.val (.long q1), .second, .val (.int p2), .val (.int p3), .val (.ref b4), .val (.long ((own_pw kk) + ((((((p3.toUInt32 >>> ((1 : Int32) &&& 31).toUInt32).toInt32) &&& (3 : Int32)) % (3 : Int32)) - (1 : Int32)).toInt64))), .second, .val (.int (Int32.ofNat r)), .val (.int (((((p3.toUInt32 >>> ((1 : Int32) &&& 31).toUInt32).toInt32) &&& (3 : Int32)) % (3 : Int32)) - (1 : Int32))), .unset] [(.int (1 : Int32))])) _
      refine XS.istore X25.here hx rfl (hb hby at_229) rfl (l' := #[.val (.long q1), .second, .val (.int p2), .val (.int p3), .val (.ref b4), .val (.long ((own_pw kk) + ((((((p3.toUInt32 >>> ((1 : Int32) &&& 31).toUInt32).toInt32) &&& (3 : Int32)) % (3 : Int32)) - (1 : Int32)).toInt64))), .second, .val (.int (Int32.ofNat r)), .val (.int (1 : Int32)), .unset]) rfl ?_
      show Steps p.tables e below (T25.setTop (mkF m 231 #[.val (.long q1), .second, .val (.int p2), .val (.int p3), .val (.ref b4), .val (.long ((own_pw kk) + ((((((p3.toUInt32 >>> ((1 : Int32) &&& 31).toUInt32).toInt32) &&& (3 : Int32)) % (3 : Int32)) - (1 : Int32)).toInt64))), .second, .val (.int (Int32.ofNat r)), .val (.int (1 : Int32)), .unset] [])) _
      refine XS.iload X25.here hx rfl (hb hby at_231) rfl ?_
      show Steps p.tables e below (T25.setTop (mkF m 233 #[.val (.long q1), .second, .val (.int p2), .val (.int p3), .val (.ref b4), .val (.long ((own_pw kk) + ((((((p3.toUInt32 >>> ((1 : Int32) &&& 31).toUInt32).toInt32) &&& (3 : Int32)) % (3 : Int32)) - (1 : Int32)).toInt64))), .second, .val (.int (Int32.ofNat r)), .val (.int (1 : Int32)), .unset] [(.int (Int32.ofNat r))])) _
      refine XS.bipush X25.here hx rfl (hb hby at_233) ?_
      show Steps p.tables e below (T25.setTop (mkF m 235 #[.val (.long q1), .second, .val (.int p2), .val (.int p3), .val (.ref b4), .val (.long ((own_pw kk) + ((((((p3.toUInt32 >>> ((1 : Int32) &&& 31).toUInt32).toInt32) &&& (3 : Int32)) % (3 : Int32)) - (1 : Int32)).toInt64))), .second, .val (.int (Int32.ofNat r)), .val (.int (1 : Int32)), .unset] [(.int (19 : Int32)), (.int (Int32.ofNat r))])) _
      by_cases hc235 : (Int32.ofNat r) = (19 : Int32)
      · refine XS.icmpYes X25.here hx rfl (pc0 := 235) (pc' := 249) rfl (hb hby at_235) rfl (teq hc235).1 (by decide) (by decide) ?_
        show Steps p.tables e below (T25.setTop (mkF m 249 #[.val (.long q1), .second, .val (.int p2), .val (.int p3), .val (.ref b4), .val (.long ((own_pw kk) + ((((((p3.toUInt32 >>> ((1 : Int32) &&& 31).toUInt32).toInt32) &&& (3 : Int32)) % (3 : Int32)) - (1 : Int32)).toInt64))), .second, .val (.int (Int32.ofNat r)), .val (.int (1 : Int32)), .unset] [])) _
        refine XS.iconst X25.here hx rfl (hb hby at_249) ?_
        show Steps p.tables e below (T25.setTop (mkF m 250 #[.val (.long q1), .second, .val (.int p2), .val (.int p3), .val (.ref b4), .val (.long ((own_pw kk) + ((((((p3.toUInt32 >>> ((1 : Int32) &&& 31).toUInt32).toInt32) &&& (3 : Int32)) % (3 : Int32)) - (1 : Int32)).toInt64))), .second, .val (.int (Int32.ofNat r)), .val (.int (1 : Int32)), .unset] [(.int (1 : Int32))])) _
        refine XS.goto X25.here hx rfl (pc0 := 250) (pc' := 254) rfl (hb hby at_250) (by decide) (by decide) ?_
        show Steps p.tables e below (T25.setTop (mkF m 254 #[.val (.long q1), .second, .val (.int p2), .val (.int p3), .val (.ref b4), .val (.long ((own_pw kk) + ((((((p3.toUInt32 >>> ((1 : Int32) &&& 31).toUInt32).toInt32) &&& (3 : Int32)) % (3 : Int32)) - (1 : Int32)).toInt64))), .second, .val (.int (Int32.ofNat r)), .val (.int (1 : Int32)), .unset] [(.int (1 : Int32))])) _
        refine XS.istore X25.here hx rfl (hb hby at_254) rfl (l' := #[.val (.long q1), .second, .val (.int p2), .val (.int p3), .val (.ref b4), .val (.long ((own_pw kk) + ((((((p3.toUInt32 >>> ((1 : Int32) &&& 31).toUInt32).toInt32) &&& (3 : Int32)) % (3 : Int32)) - (1 : Int32)).toInt64))), .second, .val (.int (Int32.ofNat r)), .val (.int (1 : Int32)), .val (.int (1 : Int32))]) rfl ?_
        show Steps p.tables e below (T25.setTop (mkF m 256 #[.val (.long q1), .second, .val (.int p2), .val (.int p3), .val (.ref b4), .val (.long ((own_pw kk) + ((((((p3.toUInt32 >>> ((1 : Int32) &&& 31).toUInt32).toInt32) &&& (3 : Int32)) % (3 : Int32)) - (1 : Int32)).toInt64))), .second, .val (.int (Int32.ofNat r)), .val (.int (1 : Int32)), .val (.int (1 : Int32))] [])) _
        refine XS.iload X25.here hx rfl (hb hby at_256) rfl ?_
        show Steps p.tables e below (T25.setTop (mkF m 258 #[.val (.long q1), .second, .val (.int p2), .val (.int p3), .val (.ref b4), .val (.long ((own_pw kk) + ((((((p3.toUInt32 >>> ((1 : Int32) &&& 31).toUInt32).toInt32) &&& (3 : Int32)) % (3 : Int32)) - (1 : Int32)).toInt64))), .second, .val (.int (Int32.ofNat r)), .val (.int (1 : Int32)), .val (.int (1 : Int32))] [(.int (1 : Int32))])) _
        have hc258 : ¬ ((1 : Int32) = (0 : Int32)) := by decide
        refine XS.ifNo X25.here hx rfl (hb hby at_258) rfl ((if0 _ _).trans (feq hc258).1) ?_
        show Steps p.tables e below (T25.setTop (mkF m 261 #[.val (.long q1), .second, .val (.int p2), .val (.int p3), .val (.ref b4), .val (.long ((own_pw kk) + ((((((p3.toUInt32 >>> ((1 : Int32) &&& 31).toUInt32).toInt32) &&& (3 : Int32)) % (3 : Int32)) - (1 : Int32)).toInt64))), .second, .val (.int (Int32.ofNat r)), .val (.int (1 : Int32)), .val (.int (1 : Int32))] [])) _
        refine XS.iload X25.here hx rfl (hb hby at_261) rfl ?_
        show Steps p.tables e below (T25.setTop (mkF m 263 #[.val (.long q1), .second, .val (.int p2), .val (.int p3), .val (.ref b4), .val (.long ((own_pw kk) + ((((((p3.toUInt32 >>> ((1 : Int32) &&& 31).toUInt32).toInt32) &&& (3 : Int32)) % (3 : Int32)) - (1 : Int32)).toInt64))), .second, .val (.int (Int32.ofNat r)), .val (.int (1 : Int32)), .val (.int (1 : Int32))] [(.int (1 : Int32))])) _
        have hc263 : ¬ ((1 : Int32) = (0 : Int32)) := by decide
        refine XS.ifNo X25.here hx rfl (hb hby at_263) rfl ((if0 _ _).trans (feq hc263).1) ?_
        show Steps p.tables e below (T25.setTop (mkF m 266 #[.val (.long q1), .second, .val (.int p2), .val (.int p3), .val (.ref b4), .val (.long ((own_pw kk) + ((((((p3.toUInt32 >>> ((1 : Int32) &&& 31).toUInt32).toInt32) &&& (3 : Int32)) % (3 : Int32)) - (1 : Int32)).toInt64))), .second, .val (.int (Int32.ofNat r)), .val (.int (1 : Int32)), .val (.int (1 : Int32))] [])) _
        refine XS.iconst X25.here hx rfl (hb hby at_266) ?_
        show Steps p.tables e below (T25.setTop (mkF m 267 #[.val (.long q1), .second, .val (.int p2), .val (.int p3), .val (.ref b4), .val (.long ((own_pw kk) + ((((((p3.toUInt32 >>> ((1 : Int32) &&& 31).toUInt32).toInt32) &&& (3 : Int32)) % (3 : Int32)) - (1 : Int32)).toInt64))), .second, .val (.int (Int32.ofNat r)), .val (.int (1 : Int32)), .val (.int (1 : Int32))] [(.int (1 : Int32))])) _
        refine XS.goto X25.here hx rfl (pc0 := 267) (pc' := 271) rfl (hb hby at_267) (by decide) (by decide) ?_
        show Steps p.tables e below (T25.setTop (mkF m 271 #[.val (.long q1), .second, .val (.int p2), .val (.int p3), .val (.ref b4), .val (.long ((own_pw kk) + ((((((p3.toUInt32 >>> ((1 : Int32) &&& 31).toUInt32).toInt32) &&& (3 : Int32)) % (3 : Int32)) - (1 : Int32)).toInt64))), .second, .val (.int (Int32.ofNat r)), .val (.int (1 : Int32)), .val (.int (1 : Int32))] [(.int (1 : Int32))])) _
        exact retN X25 hx (t := .boolean) Bd.returns (by simp) (hb hby at_271) hr
      · refine XS.icmpNo X25.here hx rfl (hb hby at_235) rfl (feq hc235).1 ?_
        show Steps p.tables e below (T25.setTop (mkF m 238 #[.val (.long q1), .second, .val (.int p2), .val (.int p3), .val (.ref b4), .val (.long ((own_pw kk) + ((((((p3.toUInt32 >>> ((1 : Int32) &&& 31).toUInt32).toInt32) &&& (3 : Int32)) % (3 : Int32)) - (1 : Int32)).toInt64))), .second, .val (.int (Int32.ofNat r)), .val (.int (1 : Int32)), .unset] [])) _
        refine XS.lload X25.here hx rfl (hb hby at_238) rfl ?_
        show Steps p.tables e below (T25.setTop (mkF m 240 #[.val (.long q1), .second, .val (.int p2), .val (.int p3), .val (.ref b4), .val (.long ((own_pw kk) + ((((((p3.toUInt32 >>> ((1 : Int32) &&& 31).toUInt32).toInt32) &&& (3 : Int32)) % (3 : Int32)) - (1 : Int32)).toInt64))), .second, .val (.int (Int32.ofNat r)), .val (.int (1 : Int32)), .unset] [(.long ((own_pw kk) + ((((((p3.toUInt32 >>> ((1 : Int32) &&& 31).toUInt32).toInt32) &&& (3 : Int32)) % (3 : Int32)) - (1 : Int32)).toInt64)))])) _
        refine XS.aload X25.here hx rfl (hb hby at_240) rfl rfl ?_
        show Steps p.tables e below (T25.setTop (mkF m 242 #[.val (.long q1), .second, .val (.int p2), .val (.int p3), .val (.ref b4), .val (.long ((own_pw kk) + ((((((p3.toUInt32 >>> ((1 : Int32) &&& 31).toUInt32).toInt32) &&& (3 : Int32)) % (3 : Int32)) - (1 : Int32)).toInt64))), .second, .val (.int (Int32.ofNat r)), .val (.int (1 : Int32)), .unset] [(.ref b4), (.long ((own_pw kk) + ((((((p3.toUInt32 >>> ((1 : Int32) &&& 31).toUInt32).toInt32) &&& (3 : Int32)) % (3 : Int32)) - (1 : Int32)).toInt64)))])) _
        refine XS.iload X25.here hx rfl (hb hby at_242) rfl ?_
        show Steps p.tables e below (T25.setTop (mkF m 244 #[.val (.long q1), .second, .val (.int p2), .val (.int p3), .val (.ref b4), .val (.long ((own_pw kk) + ((((((p3.toUInt32 >>> ((1 : Int32) &&& 31).toUInt32).toInt32) &&& (3 : Int32)) % (3 : Int32)) - (1 : Int32)).toInt64))), .second, .val (.int (Int32.ofNat r)), .val (.int (1 : Int32)), .unset] [(.int (Int32.ofNat r)), (.ref b4), (.long ((own_pw kk) + ((((((p3.toUInt32 >>> ((1 : Int32) &&& 31).toUInt32).toInt32) &&& (3 : Int32)) % (3 : Int32)) - (1 : Int32)).toInt64)))])) _
        have hat244 : cl.slots[(Int32.ofNat r).toNatClampNeg]? = some (.long (own_pw r)) := own_ld S_b4 H_b4 (own_i hdig.2.1) (own_ne19 hdig.2.1 hc235)
        have hin244 : ¬ ((Int32.ofNat r) < 0 ∨ cl.slots.size ≤ (Int32.ofNat r).toNatClampNeg) := own_in S_b4 (own_i hdig.2.1) (own_ne19 hdig.2.1 hc235)
        refine X25.laload hx (j := (Int32.ofNat r)) (v := (.long (own_pw r))) (by exact Ar_b4.1) (State.isArrayOf_alike hZ.alike Ar_b4.2.1) Ar_b4.2.2 hin244 hat244 (g := (mkF m 244 #[.val (.long q1), .second, .val (.int p2), .val (.int p3), .val (.ref b4), .val (.long ((own_pw kk) + ((((((p3.toUInt32 >>> ((1 : Int32) &&& 31).toUInt32).toInt32) &&& (3 : Int32)) % (3 : Int32)) - (1 : Int32)).toInt64))), .second, .val (.int (Int32.ofNat r)), .val (.int (1 : Int32)), .unset] [(.int (Int32.ofNat r)), (.ref b4), (.long ((own_pw kk) + ((((((p3.toUInt32 >>> ((1 : Int32) &&& 31).toUInt32).toInt32) &&& (3 : Int32)) % (3 : Int32)) - (1 : Int32)).toInt64)))])) rfl rfl (hb hby at_244) _ ?_
        show Steps p.tables e below (T25.setTop (mkF m 245 #[.val (.long q1), .second, .val (.int p2), .val (.int p3), .val (.ref b4), .val (.long ((own_pw kk) + ((((((p3.toUInt32 >>> ((1 : Int32) &&& 31).toUInt32).toInt32) &&& (3 : Int32)) % (3 : Int32)) - (1 : Int32)).toInt64))), .second, .val (.int (Int32.ofNat r)), .val (.int (1 : Int32)), .unset] [(.long (own_pw r)), (.long ((own_pw kk) + ((((((p3.toUInt32 >>> ((1 : Int32) &&& 31).toUInt32).toInt32) &&& (3 : Int32)) % (3 : Int32)) - (1 : Int32)).toInt64)))])) _
        refine XS.lcmp X25.here hx rfl (hb hby at_245) rfl ?_
        show Steps p.tables e below (T25.setTop (mkF m 246 #[.val (.long q1), .second, .val (.int p2), .val (.int p3), .val (.ref b4), .val (.long ((own_pw kk) + ((((((p3.toUInt32 >>> ((1 : Int32) &&& 31).toUInt32).toInt32) &&& (3 : Int32)) % (3 : Int32)) - (1 : Int32)).toInt64))), .second, .val (.int (Int32.ofNat r)), .val (.int (1 : Int32)), .unset] [(.int (lcmpW ((own_pw kk) + ((((((p3.toUInt32 >>> ((1 : Int32) &&& 31).toUInt32).toInt32) &&& (3 : Int32)) % (3 : Int32)) - (1 : Int32)).toInt64)) (own_pw r)))])) _
        have hc246 : (lcmpW ((own_pw kk) + ((((((p3.toUInt32 >>> ((1 : Int32) &&& 31).toUInt32).toInt32) &&& (3 : Int32)) % (3 : Int32)) - (1 : Int32)).toInt64)) (own_pw r)) < (0 : Int32) := own_high hdig hc235
        refine XS.ifNo X25.here hx rfl (hb hby at_246) rfl ((if0 _ _).trans (tlt hc246).2.1) ?_
        show Steps p.tables e below (T25.setTop (mkF m 249 #[.val (.long q1), .second, .val (.int p2), .val (.int p3), .val (.ref b4), .val (.long ((own_pw kk) + ((((((p3.toUInt32 >>> ((1 : Int32) &&& 31).toUInt32).toInt32) &&& (3 : Int32)) % (3 : Int32)) - (1 : Int32)).toInt64))), .second, .val (.int (Int32.ofNat r)), .val (.int (1 : Int32)), .unset] [])) _
        refine XS.iconst X25.here hx rfl (hb hby at_249) ?_
        show Steps p.tables e below (T25.setTop (mkF m 250 #[.val (.long q1), .second, .val (.int p2), .val (.int p3), .val (.ref b4), .val (.long ((own_pw kk) + ((((((p3.toUInt32 >>> ((1 : Int32) &&& 31).toUInt32).toInt32) &&& (3 : Int32)) % (3 : Int32)) - (1 : Int32)).toInt64))), .second, .val (.int (Int32.ofNat r)), .val (.int (1 : Int32)), .unset] [(.int (1 : Int32))])) _
        refine XS.goto X25.here hx rfl (pc0 := 250) (pc' := 254) rfl (hb hby at_250) (by decide) (by decide) ?_
        show Steps p.tables e below (T25.setTop (mkF m 254 #[.val (.long q1), .second, .val (.int p2), .val (.int p3), .val (.ref b4), .val (.long ((own_pw kk) + ((((((p3.toUInt32 >>> ((1 : Int32) &&& 31).toUInt32).toInt32) &&& (3 : Int32)) % (3 : Int32)) - (1 : Int32)).toInt64))), .second, .val (.int (Int32.ofNat r)), .val (.int (1 : Int32)), .unset] [(.int (1 : Int32))])) _
        refine XS.istore X25.here hx rfl (hb hby at_254) rfl (l' := #[.val (.long q1), .second, .val (.int p2), .val (.int p3), .val (.ref b4), .val (.long ((own_pw kk) + ((((((p3.toUInt32 >>> ((1 : Int32) &&& 31).toUInt32).toInt32) &&& (3 : Int32)) % (3 : Int32)) - (1 : Int32)).toInt64))), .second, .val (.int (Int32.ofNat r)), .val (.int (1 : Int32)), .val (.int (1 : Int32))]) rfl ?_
        show Steps p.tables e below (T25.setTop (mkF m 256 #[.val (.long q1), .second, .val (.int p2), .val (.int p3), .val (.ref b4), .val (.long ((own_pw kk) + ((((((p3.toUInt32 >>> ((1 : Int32) &&& 31).toUInt32).toInt32) &&& (3 : Int32)) % (3 : Int32)) - (1 : Int32)).toInt64))), .second, .val (.int (Int32.ofNat r)), .val (.int (1 : Int32)), .val (.int (1 : Int32))] [])) _
        refine XS.iload X25.here hx rfl (hb hby at_256) rfl ?_
        show Steps p.tables e below (T25.setTop (mkF m 258 #[.val (.long q1), .second, .val (.int p2), .val (.int p3), .val (.ref b4), .val (.long ((own_pw kk) + ((((((p3.toUInt32 >>> ((1 : Int32) &&& 31).toUInt32).toInt32) &&& (3 : Int32)) % (3 : Int32)) - (1 : Int32)).toInt64))), .second, .val (.int (Int32.ofNat r)), .val (.int (1 : Int32)), .val (.int (1 : Int32))] [(.int (1 : Int32))])) _
        have hc258 : ¬ ((1 : Int32) = (0 : Int32)) := by decide
        refine XS.ifNo X25.here hx rfl (hb hby at_258) rfl ((if0 _ _).trans (feq hc258).1) ?_
        show Steps p.tables e below (T25.setTop (mkF m 261 #[.val (.long q1), .second, .val (.int p2), .val (.int p3), .val (.ref b4), .val (.long ((own_pw kk) + ((((((p3.toUInt32 >>> ((1 : Int32) &&& 31).toUInt32).toInt32) &&& (3 : Int32)) % (3 : Int32)) - (1 : Int32)).toInt64))), .second, .val (.int (Int32.ofNat r)), .val (.int (1 : Int32)), .val (.int (1 : Int32))] [])) _
        refine XS.iload X25.here hx rfl (hb hby at_261) rfl ?_
        show Steps p.tables e below (T25.setTop (mkF m 263 #[.val (.long q1), .second, .val (.int p2), .val (.int p3), .val (.ref b4), .val (.long ((own_pw kk) + ((((((p3.toUInt32 >>> ((1 : Int32) &&& 31).toUInt32).toInt32) &&& (3 : Int32)) % (3 : Int32)) - (1 : Int32)).toInt64))), .second, .val (.int (Int32.ofNat r)), .val (.int (1 : Int32)), .val (.int (1 : Int32))] [(.int (1 : Int32))])) _
        have hc263 : ¬ ((1 : Int32) = (0 : Int32)) := by decide
        refine XS.ifNo X25.here hx rfl (hb hby at_263) rfl ((if0 _ _).trans (feq hc263).1) ?_
        show Steps p.tables e below (T25.setTop (mkF m 266 #[.val (.long q1), .second, .val (.int p2), .val (.int p3), .val (.ref b4), .val (.long ((own_pw kk) + ((((((p3.toUInt32 >>> ((1 : Int32) &&& 31).toUInt32).toInt32) &&& (3 : Int32)) % (3 : Int32)) - (1 : Int32)).toInt64))), .second, .val (.int (Int32.ofNat r)), .val (.int (1 : Int32)), .val (.int (1 : Int32))] [])) _
        refine XS.iconst X25.here hx rfl (hb hby at_266) ?_
        show Steps p.tables e below (T25.setTop (mkF m 267 #[.val (.long q1), .second, .val (.int p2), .val (.int p3), .val (.ref b4), .val (.long ((own_pw kk) + ((((((p3.toUInt32 >>> ((1 : Int32) &&& 31).toUInt32).toInt32) &&& (3 : Int32)) % (3 : Int32)) - (1 : Int32)).toInt64))), .second, .val (.int (Int32.ofNat r)), .val (.int (1 : Int32)), .val (.int (1 : Int32))] [(.int (1 : Int32))])) _
        refine XS.goto X25.here hx rfl (pc0 := 267) (pc' := 271) rfl (hb hby at_267) (by decide) (by decide) ?_
        show Steps p.tables e below (T25.setTop (mkF m 271 #[.val (.long q1), .second, .val (.int p2), .val (.int p3), .val (.ref b4), .val (.long ((own_pw kk) + ((((((p3.toUInt32 >>> ((1 : Int32) &&& 31).toUInt32).toInt32) &&& (3 : Int32)) % (3 : Int32)) - (1 : Int32)).toInt64))), .second, .val (.int (Int32.ofNat r)), .val (.int (1 : Int32)), .val (.int (1 : Int32))] [(.int (1 : Int32))])) _
        exact retN X25 hx (t := .boolean) Bd.returns (by simp) (hb hby at_271) hr
  · show Q0 Z q1 p2 p3 h0 n0 _ T25.heap _
    exact ⟨rfl, N25⟩
set_option maxRecDepth 65536 in
set_option maxHeartbeats 40000000 in
theorem rm0b (l : Launch) (Z : State) (a0 : Array Value) (hw : ∀ d ∈ tables_1, d.before a0 Z = true) (ws : List Jvm.Cond) (q1 : Int64) (p2 : Int32) (p3 : Int32) (h0 : Heap) (n0 : Nat) (Z0 : n0 ≤ h0.size) (hc134 : (p3 &&& (1 : Int32)) = (0 : Int32)) :
    MetFree l x (head1 (Jvm.Cond.code x code maxLocals ret :: ws) room_1) (fun a U => a = #[(.long q1), (.int p2), (.int p3)] ∧ Z.Warmed39 U.vm ∧ U.heap = h0) (fun _ _ _ _ _ => True) (fun _ U o U' => ∃ v L, o = .returned v ∧ Q0 Z q1 p2 p3 h0 n0 v U'.heap L ∧ FrameEnd U o U' L room_1.cells room_1.slots) := by
  refine MetFree.of_bodySF (plainFor_of_name pn_0) hisR ?_
  intro p e s m args below meth c s₁ Bd hml0 hP hK
  obtain ⟨rfl, hZ, hh⟩ := hP
  have hx := Bd.exec
  have hby := Bd.bytes
  have hml : c.maxLocals = 10 := hml0
  have hown : s.vm.findClass "com/example/compendio/compendio/formats/CountsDigitsPinLaw" = some m.cls := findClass_of_methodNamed Bd.named
  have hnm := (name_of_methodNamed Bd.named Bd.method).1
  have X0 : Stand p l e room_1 s m #[(.long q1), (.int p2), (.int p3)] below meth c s₁ [] 0 0 := Stand.of_body Bd
  have e0 : s₁.heap = h0 := by rw [← hh, Bd.state]; rfl
  have N0 := Fr.nil n0
  have pre0 : ∀ t, Steps p.tables e below (s₁.setTop (mkF m 0 #[.val (.long q1), .second, .val (.int p2), .val (.int p3), .unset, .unset, .unset, .unset, .unset, .unset] [])) t → Steps p.tables e below (s₁.setTop (entryFrame m #[(.long q1), (.int p2), (.int p3)] maxLocals)) t := fun t k => castTop (ef_0 m q1 p2 p3) k
  -- 3. LAWS
  obtain ⟨T4, h4, k4, X4, e4, E4, A4, st4⟩ := newP X0 hx hZ (hw _ (List.mem_of_getElem? (i := 0) rfl)) e0 (g := (mkF m 2 #[.val (.long q1), .second, .val (.int p2), .val (.int p3), .unset, .unset, .unset, .unset, .unset, .unset] [(.int (19 : Int32))])) rfl (hb hby at_2) rfl (by decide) (cap := 19) (by decide) (by decide) (by decide) (by decide)
  obtain ⟨b4, g4⟩ : ∃ z, z = h0.size := ⟨_, rfl⟩      -- the fresh array's address
  rw [← g4] at A4 st4
  have V_b4 : Arv Z h4 b4 k4 .long (19 : Int32) [(.long (0 : Int64)), (.long (0 : Int64)), (.long (0 : Int64)), (.long (0 : Int64)), (.long (0 : Int64)), (.long (0 : Int64)), (.long (0 : Int64)), (.long (0 : Int64)), (.long (0 : Int64)), (.long (0 : Int64)), (.long (0 : Int64)), (.long (0 : Int64)), (.long (0 : Int64)), (.long (0 : Int64)), (.long (0 : Int64)), (.long (0 : Int64)), (.long (0 : Int64)), (.long (0 : Int64)), (.long (0 : Int64))] (.long (0 : Int64)) := (Arv.new A4 (by decide)).pad (pad_rep [] (.long (0 : Int64)) 19)
  have g_b4 : n0 ≤ b4 := Nat.le_trans Z0 (Nat.le_of_eq g4.symm)
  have sz_b4 : h0.size ≤ b4 := (Nat.le_trans (Keep.refl h0 []).1 (Nat.le_of_eq g4.symm))
  have K4 : Keep h0 h4 [] := (Keep.refl h0 []).ext E4
  obtain ⟨cl_b4_7, Ar_b4, q_b4, S_b4, N_b4, H_b4, G_b4⟩ := V_b4      -- open the array's fact as it stands now (its cell, kind, length, elements)
  have hin7 : ¬ ((0 : Int32) < 0 ∨ cl_b4_7.slots.size ≤ ((0 : Int32)).toNatClampNeg) := inb_of S_b4 ⟨by decide, by decide⟩
  obtain ⟨T5, h5, X5, e5, W5, st5⟩ := stJ X4 hx hZ e4 Ar_b4 (j := (0 : Int32)) hin7 (g := (mkF m 7 #[.val (.long q1), .second, .val (.int p2), .val (.int p3), .unset, .unset, .unset, .unset, .unset, .unset] [(.long (1 : Int64)), (.int (0 : Int32)), (.ref b4), (.ref b4)])) rfl rfl (hb hby at_7)
  have V_b4_5 := Arv.set Ar_b4 q_b4 S_b4 N_b4 H_b4 G_b4 rfl W5 0 rfl (Nat.le_of_ble_eq_true rfl)      -- the array as it stands now (the place must lie among its first values: Arv.pad with pad_rep lengthens them)
  have K5 : Keep h0 h5 [] := K4.wr W5 (Or.inr sz_b4)
  have N5 := Fr.snoc X5 N0 g_b4
  obtain ⟨cl_b4_13, Ar_b4, q_b4, S_b4, N_b4, H_b4, G_b4⟩ := V_b4_5      -- open the array's fact as it stands now (its cell, kind, length, elements)
  have hin13 : ¬ ((1 : Int32) < 0 ∨ cl_b4_13.slots.size ≤ ((1 : Int32)).toNatClampNeg) := inb_of S_b4 ⟨by decide, by decide⟩
  obtain ⟨T6, h6, X6, e6, W6, st6⟩ := stJ X5 hx hZ e5 Ar_b4 (j := (1 : Int32)) hin13 (g := (mkF m 13 #[.val (.long q1), .second, .val (.int p2), .val (.int p3), .unset, .unset, .unset, .unset, .unset, .unset] [(.long (10 : Int64)), (.int (1 : Int32)), (.ref b4), (.ref b4)])) rfl rfl (hb hby at_13)
  have V_b4_6 := Arv.set Ar_b4 q_b4 S_b4 N_b4 H_b4 G_b4 rfl W6 1 rfl (Nat.le_of_ble_eq_true rfl)      -- the array as it stands now (the place must lie among its first values: Arv.pad with pad_rep lengthens them)
  have K6 : Keep h0 h6 [] := K5.wr W6 (Or.inr sz_b4)
  have N6 := Fr.snoc X6 N5 g_b4
  obtain ⟨cl_b4_19, Ar_b4, q_b4, S_b4, N_b4, H_b4, G_b4⟩ := V_b4_6      -- open the array's fact as it stands now (its cell, kind, length, elements)
  have hin19 : ¬ ((2 : Int32) < 0 ∨ cl_b4_19.slots.size ≤ ((2 : Int32)).toNatClampNeg) := inb_of S_b4 ⟨by decide, by decide⟩
  obtain ⟨T7, h7, X7, e7, W7, st7⟩ := stJ X6 hx hZ e6 Ar_b4 (j := (2 : Int32)) hin19 (g := (mkF m 19 #[.val (.long q1), .second, .val (.int p2), .val (.int p3), .unset, .unset, .unset, .unset, .unset, .unset] [(.long (100 : Int64)), (.int (2 : Int32)), (.ref b4), (.ref b4)])) rfl rfl (hb hby at_19)
  have V_b4_7 := Arv.set Ar_b4 q_b4 S_b4 N_b4 H_b4 G_b4 rfl W7 2 rfl (Nat.le_of_ble_eq_true rfl)      -- the array as it stands now (the place must lie among its first values: Arv.pad with pad_rep lengthens them)
  have K7 : Keep h0 h7 [] := K6.wr W7 (Or.inr sz_b4)
  have N7 := Fr.snoc X7 N6 g_b4
  obtain ⟨cl_b4_25, Ar_b4, q_b4, S_b4, N_b4, H_b4, G_b4⟩ := V_b4_7      -- open the array's fact as it stands now (its cell, kind, length, elements)
  have hin25 : ¬ ((3 : Int32) < 0 ∨ cl_b4_25.slots.size ≤ ((3 : Int32)).toNatClampNeg) := inb_of S_b4 ⟨by decide, by decide⟩
  obtain ⟨T8, h8, X8, e8, W8, st8⟩ := stJ X7 hx hZ e7 Ar_b4 (j := (3 : Int32)) hin25 (g := (mkF m 25 #[.val (.long q1), .second, .val (.int p2), .val (.int p3), .unset, .unset, .unset, .unset, .unset, .unset] [(.long (1000 : Int64)), (.int (3 : Int32)), (.ref b4), (.ref b4)])) rfl rfl (hb hby at_25)
  have V_b4_8 := Arv.set Ar_b4 q_b4 S_b4 N_b4 H_b4 G_b4 rfl W8 3 rfl (Nat.le_of_ble_eq_true rfl)      -- the array as it stands now (the place must lie among its first values: Arv.pad with pad_rep lengthens them)
  have K8 : Keep h0 h8 [] := K7.wr W8 (Or.inr sz_b4)
  have N8 := Fr.snoc X8 N7 g_b4
  obtain ⟨cl_b4_31, Ar_b4, q_b4, S_b4, N_b4, H_b4, G_b4⟩ := V_b4_8      -- open the array's fact as it stands now (its cell, kind, length, elements)
  have hin31 : ¬ ((4 : Int32) < 0 ∨ cl_b4_31.slots.size ≤ ((4 : Int32)).toNatClampNeg) := inb_of S_b4 ⟨by decide, by decide⟩
  obtain ⟨T9, h9, X9, e9, W9, st9⟩ := stJ X8 hx hZ e8 Ar_b4 (j := (4 : Int32)) hin31 (g := (mkF m 31 #[.val (.long q1), .second, .val (.int p2), .val (.int p3), .unset, .unset, .unset, .unset, .unset, .unset] [(.long (10000 : Int64)), (.int (4 : Int32)), (.ref b4), (.ref b4)])) rfl rfl (hb hby at_31)
  have V_b4_9 := Arv.set Ar_b4 q_b4 S_b4 N_b4 H_b4 G_b4 rfl W9 4 rfl (Nat.le_of_ble_eq_true rfl)      -- the array as it stands now (the place must lie among its first values: Arv.pad with pad_rep lengthens them)
  have K9 : Keep h0 h9 [] := K8.wr W9 (Or.inr sz_b4)
  have N9 := Fr.snoc X9 N8 g_b4
  obtain ⟨cl_b4_37, Ar_b4, q_b4, S_b4, N_b4, H_b4, G_b4⟩ := V_b4_9      -- open the array's fact as it stands now (its cell, kind, length, elements)
  have hin37 : ¬ ((5 : Int32) < 0 ∨ cl_b4_37.slots.size ≤ ((5 : Int32)).toNatClampNeg) := inb_of S_b4 ⟨by decide, by decide⟩
  obtain ⟨T10, h10, X10, e10, W10, st10⟩ := stJ X9 hx hZ e9 Ar_b4 (j := (5 : Int32)) hin37 (g := (mkF m 37 #[.val (.long q1), .second, .val (.int p2), .val (.int p3), .unset, .unset, .unset, .unset, .unset, .unset] [(.long (100000 : Int64)), (.int (5 : Int32)), (.ref b4), (.ref b4)])) rfl rfl (hb hby at_37)
  have V_b4_10 := Arv.set Ar_b4 q_b4 S_b4 N_b4 H_b4 G_b4 rfl W10 5 rfl (Nat.le_of_ble_eq_true rfl)      -- the array as it stands now (the place must lie among its first values: Arv.pad with pad_rep lengthens them)
  have K10 : Keep h0 h10 [] := K9.wr W10 (Or.inr sz_b4)
  have N10 := Fr.snoc X10 N9 g_b4
  obtain ⟨cl_b4_44, Ar_b4, q_b4, S_b4, N_b4, H_b4, G_b4⟩ := V_b4_10      -- open the array's fact as it stands now (its cell, kind, length, elements)
  have hin44 : ¬ ((6 : Int32) < 0 ∨ cl_b4_44.slots.size ≤ ((6 : Int32)).toNatClampNeg) := inb_of S_b4 ⟨by decide, by decide⟩
  obtain ⟨T11, h11, X11, e11, W11, st11⟩ := stJ X10 hx hZ e10 Ar_b4 (j := (6 : Int32)) hin44 (g := (mkF m 44 #[.val (.long q1), .second, .val (.int p2), .val (.int p3), .unset, .unset, .unset, .unset, .unset, .unset] [(.long (1000000 : Int64)), (.int (6 : Int32)), (.ref b4), (.ref b4)])) rfl rfl (hb hby at_44)
  have V_b4_11 := Arv.set Ar_b4 q_b4 S_b4 N_b4 H_b4 G_b4 rfl W11 6 rfl (Nat.le_of_ble_eq_true rfl)      -- the array as it stands now (the place must lie among its first values: Arv.pad with pad_rep lengthens them)
  have K11 : Keep h0 h11 [] := K10.wr W11 (Or.inr sz_b4)
  have N11 := Fr.snoc X11 N10 g_b4
  obtain ⟨cl_b4_51, Ar_b4, q_b4, S_b4, N_b4, H_b4, G_b4⟩ := V_b4_11      -- open the array's fact as it stands now (its cell, kind, length, elements)
  have hin51 : ¬ ((7 : Int32) < 0 ∨ cl_b4_51.slots.size ≤ ((7 : Int32)).toNatClampNeg) := inb_of S_b4 ⟨by decide, by decide⟩
  obtain ⟨T12, h12, X12, e12, W12, st12⟩ := stJ X11 hx hZ e11 Ar_b4 (j := (7 : Int32)) hin51 (g := (mkF m 51 #[.val (.long q1), .second, .val (.int p2), .val (.int p3), .unset, .unset, .unset, .unset, .unset, .unset] [(.long (10000000 : Int64)), (.int (7 : Int32)), (.ref b4), (.ref b4)])) rfl rfl (hb hby at_51)
  have V_b4_12 := Arv.set Ar_b4 q_b4 S_b4 N_b4 H_b4 G_b4 rfl W12 7 rfl (Nat.le_of_ble_eq_true rfl)      -- the array as it stands now (the place must lie among its first values: Arv.pad with pad_rep lengthens them)
  have K12 : Keep h0 h12 [] := K11.wr W12 (Or.inr sz_b4)
  have N12 := Fr.snoc X12 N11 g_b4
  obtain ⟨cl_b4_58, Ar_b4, q_b4, S_b4, N_b4, H_b4, G_b4⟩ := V_b4_12      -- open the array's fact as it stands now (its cell, kind, length, elements)
  have hin58 : ¬ ((8 : Int32) < 0 ∨ cl_b4_58.slots.size ≤ ((8 : Int32)).toNatClampNeg) := inb_of S_b4 ⟨by decide, by decide⟩
  obtain ⟨T13, h13, X13, e13, W13, st13⟩ := stJ X12 hx hZ e12 Ar_b4 (j := (8 : Int32)) hin58 (g := (mkF m 58 #[.val (.long q1), .second, .val (.int p2), .val (.int p3), .unset, .unset, .unset, .unset, .unset, .unset] [(.long (100000000 : Int64)), (.int (8 : Int32)), (.ref b4), (.ref b4)])) rfl rfl (hb hby at_58)
  have V_b4_13 := Arv.set Ar_b4 q_b4 S_b4 N_b4 H_b4 G_b4 rfl W13 8 rfl (Nat.le_of_ble_eq_true rfl)      -- the array as it stands now (the place must lie among its first values: Arv.pad with pad_rep lengthens them)
  have K13 : Keep h0 h13 [] := K12.wr W13 (Or.inr sz_b4)
  have N13 := Fr.snoc X13 N12 g_b4
  obtain ⟨cl_b4_65, Ar_b4, q_b4, S_b4, N_b4, H_b4, G_b4⟩ := V_b4_13      -- open the array's fact as it stands now (its cell, kind, length, elements)
  have hin65 : ¬ ((9 : Int32) < 0 ∨ cl_b4_65.slots.size ≤ ((9 : Int32)).toNatClampNeg) := inb_of S_b4 ⟨by decide, by decide⟩
  obtain ⟨T14, h14, X14, e14, W14, st14⟩ := stJ X13 hx hZ e13 Ar_b4 (j := (9 : Int32)) hin65 (g := (mkF m 65 #[.val (.long q1), .second, .val (.int p2), .val (.int p3), .unset, .unset, .unset, .unset, .unset, .unset] [(.long (1000000000 : Int64)), (.int (9 : Int32)), (.ref b4), (.ref b4)])) rfl rfl (hb hby at_65)
  have V_b4_14 := Arv.set Ar_b4 q_b4 S_b4 N_b4 H_b4 G_b4 rfl W14 9 rfl (Nat.le_of_ble_eq_true rfl)      -- the array as it stands now (the place must lie among its first values: Arv.pad with pad_rep lengthens them)
  have K14 : Keep h0 h14 [] := K13.wr W14 (Or.inr sz_b4)
  have N14 := Fr.snoc X14 N13 g_b4
  obtain ⟨cl_b4_72, Ar_b4, q_b4, S_b4, N_b4, H_b4, G_b4⟩ := V_b4_14      -- open the array's fact as it stands now (its cell, kind, length, elements)
  have hin72 : ¬ ((10 : Int32) < 0 ∨ cl_b4_72.slots.size ≤ ((10 : Int32)).toNatClampNeg) := inb_of S_b4 ⟨by decide, by decide⟩
  obtain ⟨T15, h15, X15, e15, W15, st15⟩ := stJ X14 hx hZ e14 Ar_b4 (j := (10 : Int32)) hin72 (g := (mkF m 72 #[.val (.long q1), .second, .val (.int p2), .val (.int p3), .unset, .unset, .unset, .unset, .unset, .unset] [(.long (10000000000 : Int64)), (.int (10 : Int32)), (.ref b4), (.ref b4)])) rfl rfl (hb hby at_72)
  have V_b4_15 := Arv.set Ar_b4 q_b4 S_b4 N_b4 H_b4 G_b4 rfl W15 10 rfl (Nat.le_of_ble_eq_true rfl)      -- the array as it stands now (the place must lie among its first values: Arv.pad with pad_rep lengthens them)
  have K15 : Keep h0 h15 [] := K14.wr W15 (Or.inr sz_b4)
  have N15 := Fr.snoc X15 N14 g_b4
  obtain ⟨cl_b4_79, Ar_b4, q_b4, S_b4, N_b4, H_b4, G_b4⟩ := V_b4_15      -- open the array's fact as it stands now (its cell, kind, length, elements)
  have hin79 : ¬ ((11 : Int32) < 0 ∨ cl_b4_79.slots.size ≤ ((11 : Int32)).toNatClampNeg) := inb_of S_b4 ⟨by decide, by decide⟩
  obtain ⟨T16, h16, X16, e16, W16, st16⟩ := stJ X15 hx hZ e15 Ar_b4 (j := (11 : Int32)) hin79 (g := (mkF m 79 #[.val (.long q1), .second, .val (.int p2), .val (.int p3), .unset, .unset, .unset, .unset, .unset, .unset] [(.long (100000000000 : Int64)), (.int (11 : Int32)), (.ref b4), (.ref b4)])) rfl rfl (hb hby at_79)
  have V_b4_16 := Arv.set Ar_b4 q_b4 S_b4 N_b4 H_b4 G_b4 rfl W16 11 rfl (Nat.le_of_ble_eq_true rfl)      -- the array as it stands now (the place must lie among its first values: Arv.pad with pad_rep lengthens them)
  have K16 : Keep h0 h16 [] := K15.wr W16 (Or.inr sz_b4)
  have N16 := Fr.snoc X16 N15 g_b4
  obtain ⟨cl_b4_86, Ar_b4, q_b4, S_b4, N_b4, H_b4, G_b4⟩ := V_b4_16      -- open the array's fact as it stands now (its cell, kind, length, elements)
  have hin86 : ¬ ((12 : Int32) < 0 ∨ cl_b4_86.slots.size ≤ ((12 : Int32)).toNatClampNeg) := inb_of S_b4 ⟨by decide, by decide⟩
  obtain ⟨T17, h17, X17, e17, W17, st17⟩ := stJ X16 hx hZ e16 Ar_b4 (j := (12 : Int32)) hin86 (g := (mkF m 86 #[.val (.long q1), .second, .val (.int p2), .val (.int p3), .unset, .unset, .unset, .unset, .unset, .unset] [(.long (1000000000000 : Int64)), (.int (12 : Int32)), (.ref b4), (.ref b4)])) rfl rfl (hb hby at_86)
  have V_b4_17 := Arv.set Ar_b4 q_b4 S_b4 N_b4 H_b4 G_b4 rfl W17 12 rfl (Nat.le_of_ble_eq_true rfl)      -- the array as it stands now (the place must lie among its first values: Arv.pad with pad_rep lengthens them)
  have K17 : Keep h0 h17 [] := K16.wr W17 (Or.inr sz_b4)
  have N17 := Fr.snoc X17 N16 g_b4
  obtain ⟨cl_b4_93, Ar_b4, q_b4, S_b4, N_b4, H_b4, G_b4⟩ := V_b4_17      -- open the array's fact as it stands now (its cell, kind, length, elements)
  have hin93 : ¬ ((13 : Int32) < 0 ∨ cl_b4_93.slots.size ≤ ((13 : Int32)).toNatClampNeg) := inb_of S_b4 ⟨by decide, by decide⟩
  obtain ⟨T18, h18, X18, e18, W18, st18⟩ := stJ X17 hx hZ e17 Ar_b4 (j := (13 : Int32)) hin93 (g := (mkF m 93 #[.val (.long q1), .second, .val (.int p2), .val (.int p3), .unset, .unset, .unset, .unset, .unset, .unset] [(.long (10000000000000 : Int64)), (.int (13 : Int32)), (.ref b4), (.ref b4)])) rfl rfl (hb hby at_93)
  have V_b4_18 := Arv.set Ar_b4 q_b4 S_b4 N_b4 H_b4 G_b4 rfl W18 13 rfl (Nat.le_of_ble_eq_true rfl)      -- the array as it stands now (the place must lie among its first values: Arv.pad with pad_rep lengthens them)
  have K18 : Keep h0 h18 [] := K17.wr W18 (Or.inr sz_b4)
  have N18 := Fr.snoc X18 N17 g_b4
  obtain ⟨cl_b4_100, Ar_b4, q_b4, S_b4, N_b4, H_b4, G_b4⟩ := V_b4_18      -- open the array's fact as it stands now (its cell, kind, length, elements)
  have hin100 : ¬ ((14 : Int32) < 0 ∨ cl_b4_100.slots.size ≤ ((14 : Int32)).toNatClampNeg) := inb_of S_b4 ⟨by decide, by decide⟩
  obtain ⟨T19, h19, X19, e19, W19, st19⟩ := stJ X18 hx hZ e18 Ar_b4 (j := (14 : Int32)) hin100 (g := (mkF m 100 #[.val (.long q1), .second, .val (.int p2), .val (.int p3), .unset, .unset, .unset, .unset, .unset, .unset] [(.long (100000000000000 : Int64)), (.int (14 : Int32)), (.ref b4), (.ref b4)])) rfl rfl (hb hby at_100)
  have V_b4_19 := Arv.set Ar_b4 q_b4 S_b4 N_b4 H_b4 G_b4 rfl W19 14 rfl (Nat.le_of_ble_eq_true rfl)      -- the array as it stands now (the place must lie among its first values: Arv.pad with pad_rep lengthens them)
  have K19 : Keep h0 h19 [] := K18.wr W19 (Or.inr sz_b4)
  have N19 := Fr.snoc X19 N18 g_b4
  obtain ⟨cl_b4_107, Ar_b4, q_b4, S_b4, N_b4, H_b4, G_b4⟩ := V_b4_19      -- open the array's fact as it stands now (its cell, kind, length, elements)
  have hin107 : ¬ ((15 : Int32) < 0 ∨ cl_b4_107.slots.size ≤ ((15 : Int32)).toNatClampNeg) := inb_of S_b4 ⟨by decide, by decide⟩
  obtain ⟨T20, h20, X20, e20, W20, st20⟩ := stJ X19 hx hZ e19 Ar_b4 (j := (15 : Int32)) hin107 (g := (mkF m 107 #[.val (.long q1), .second, .val (.int p2), .val (.int p3), .unset, .unset, .unset, .unset, .unset, .unset] [(.long (1000000000000000 : Int64)), (.int (15 : Int32)), (.ref b4), (.ref b4)])) rfl rfl (hb hby at_107)
  have V_b4_20 := Arv.set Ar_b4 q_b4 S_b4 N_b4 H_b4 G_b4 rfl W20 15 rfl (Nat.le_of_ble_eq_true rfl)      -- the array as it stands now (the place must lie among its first values: Arv.pad with pad_rep lengthens them)
  have K20 : Keep h0 h20 [] := K19.wr W20 (Or.inr sz_b4)
  have N20 := Fr.snoc X20 N19 g_b4
  obtain ⟨cl_b4_114, Ar_b4, q_b4, S_b4, N_b4, H_b4, G_b4⟩ := V_b4_20      -- open the array's fact as it stands now (its cell, kind, length, elements)
  have hin114 : ¬ ((16 : Int32) < 0 ∨ cl_b4_114.slots.size ≤ ((16 : Int32)).toNatClampNeg) := inb_of S_b4 ⟨by decide, by decide⟩
  obtain ⟨T21, h21, X21, e21, W21, st21⟩ := stJ X20 hx hZ e20 Ar_b4 (j := (16 : Int32)) hin114 (g := (mkF m 114 #[.val (.long q1), .second, .val (.int p2), .val (.int p3), .unset, .unset, .unset, .unset, .unset, .unset] [(.long (10000000000000000 : Int64)), (.int (16 : Int32)), (.ref b4), (.ref b4)])) rfl rfl (hb hby at_114)
  have V_b4_21 := Arv.set Ar_b4 q_b4 S_b4 N_b4 H_b4 G_b4 rfl W21 16 rfl (Nat.le_of_ble_eq_true rfl)      -- the array as it stands now (the place must lie among its first values: Arv.pad with pad_rep lengthens them)
  have K21 : Keep h0 h21 [] := K20.wr W21 (Or.inr sz_b4)
  have N21 := Fr.snoc X21 N20 g_b4
  obtain ⟨cl_b4_121, Ar_b4, q_b4, S_b4, N_b4, H_b4, G_b4⟩ := V_b4_21      -- open the array's fact as it stands now (its cell, kind, length, elements)
  have hin121 : ¬ ((17 : Int32) < 0 ∨ cl_b4_121.slots.size ≤ ((17 : Int32)).toNatClampNeg) := inb_of S_b4 ⟨by decide, by decide⟩
  obtain ⟨T22, h22, X22, e22, W22, st22⟩ := stJ X21 hx hZ e21 Ar_b4 (j := (17 : Int32)) hin121 (g := (mkF m 121 #[.val (.long q1), .second, .val (.int p2), .val (.int p3), .unset, .unset, .unset, .unset, .unset, .unset] [(.long (100000000000000000 : Int64)), (.int (17 : Int32)), (.ref b4), (.ref b4)])) rfl rfl (hb hby at_121)
  have V_b4_22 := Arv.set Ar_b4 q_b4 S_b4 N_b4 H_b4 G_b4 rfl W22 17 rfl (Nat.le_of_ble_eq_true rfl)      -- the array as it stands now (the place must lie among its first values: Arv.pad with pad_rep lengthens them)
  have K22 : Keep h0 h22 [] := K21.wr W22 (Or.inr sz_b4)
  have N22 := Fr.snoc X22 N21 g_b4
  obtain ⟨cl_b4_128, Ar_b4, q_b4, S_b4, N_b4, H_b4, G_b4⟩ := V_b4_22      -- open the array's fact as it stands now (its cell, kind, length, elements)
  have hin128 : ¬ ((18 : Int32) < 0 ∨ cl_b4_128.slots.size ≤ ((18 : Int32)).toNatClampNeg) := inb_of S_b4 ⟨by decide, by decide⟩
  obtain ⟨T23, h23, X23, e23, W23, st23⟩ := stJ X22 hx hZ e22 Ar_b4 (j := (18 : Int32)) hin128 (g := (mkF m 128 #[.val (.long q1), .second, .val (.int p2), .val (.int p3), .unset, .unset, .unset, .unset, .unset, .unset] [(.long (1000000000000000000 : Int64)), (.int (18 : Int32)), (.ref b4), (.ref b4)])) rfl rfl (hb hby at_128)
  have V_b4_23 := Arv.set Ar_b4 q_b4 S_b4 N_b4 H_b4 G_b4 rfl W23 18 rfl (Nat.le_of_ble_eq_true rfl)      -- the array as it stands now (the place must lie among its first values: Arv.pad with pad_rep lengthens them)
  have K23 : Keep h0 h23 [] := K22.wr W23 (Or.inr sz_b4)
  have N23 := Fr.snoc X23 N22 g_b4
  have VV : Arv Z h23 b4 k4 .long (19 : Int32) own_vs (.long (0 : Int64)) := V_b4_23
  -- pc 185: com/example/compendio/compendio/formats/Counts.digits by its contract rm1
  obtain ⟨_, _, ⟨T24, L24, k24, n24⟩, -, X24, ⟨Lc24, hQ24, l24, y24, z24⟩, st24⟩ := Jvm.LawKit.callS X23 hx (y := (⟨"com/example/compendio/compendio/formats/Counts", "digits", "(J)I"⟩ : MethodName)) hown (mvT hZ (hw _ (List.mem_of_getElem? (i := 20) rfl))) (mvT hZ (hw _ (List.mem_of_getElem? (i := 21) rfl))) (mvT hZ (hw _ (List.mem_of_getElem? (i := 22) rfl))) (mvT hZ (hw _ (List.mem_of_getElem? (i := 23) rfl))) (by decide) (backOf (W := 0) (rm1 l Z a0 hw [] (((q1 &&& (9223372036854775807 : Int64)).toUInt64 >>> ((p2 &&& (63 : Int32)) &&& 0x3f).toInt64.toUInt64).toInt64) h23 n0 (Nat.le_trans Z0 K23.1)) hZ (hw _ (List.mem_of_getElem? (i := 23) rfl)) (hw _ (List.mem_of_getElem? (i := 22) rfl)) (by decide) (by decide)) (g := (mkF m 185 #[.val (.long q1), .second, .val (.int p2), .val (.int p3), .val (.ref b4), .val (.long (((q1 &&& (9223372036854775807 : Int64)).toUInt64 >>> ((p2 &&& (63 : Int32)) &&& 0x3f).toInt64.toUInt64).toInt64)), .second, .unset, .unset, .unset] [(.long (((q1 &&& (9223372036854775807 : Int64)).toUInt64 >>> ((p2 &&& (63 : Int32)) &&& 0x3f).toInt64.toUInt64).toInt64))])) rfl (by rw [hml]; rfl) (argsL := [(.long (((q1 &&& (9223372036854775807 : Int64)).toUInt64 >>> ((p2 &&& (63 : Int32)) &&& 0x3f).toInt64.toUInt64).toInt64))]) (rest := []) (lenOf pd_0_0 rfl) rfl (by show 2 * 0 + _ ≤ _; exact Nat.le_of_eq rfl) (hb hby at_185) (fun _ _ => ⟨rfl, e23, (by decide : 1 + 0 ≤ _), (by decide : 19 + 0 ≤ _)⟩)
  dsimp only [Pt.U, Pt.locs, Pt.cells, Pt.slots] at X24 l24 y24 z24 st24 hQ24
  subst l24 y24 z24
  obtain ⟨r, rfl, hdig, N24q, hh⟩ := hQ24
  have Kc : Keep h23 T24.heap [] := by rw [hh]; exact Keep.refl _ _
  obtain ⟨cl, Ar_b4, -, S_b4, -, H_b4, -⟩ := VV.keep Kc nin0
  have N24 := Fr.app N23 N24q
  obtain ⟨fs, hr, hrun, hended, hW, hsame⟩ := X24.leave (v := some (.int (1 : Int32))) (fun h => by rw [Bd.returns] at h; cases h)
  refine ⟨_, _, pre0 _ ?_, hrun, hended, _, _, rfl, ?_, ⟨_, rfl⟩, hW, hsame.mono (by decide) (by decide)⟩
  · show Steps p.tables e below (s₁.setTop (mkF m 0 #[.val (.long q1), .second, .val (.int p2), .val (.int p3), .unset, .unset, .unset, .unset, .unset, .unset] [])) _
    refine XS.bipush X0.here hx rfl (hb hby at_0) ?_
    show Steps p.tables e below (s₁.setTop (mkF m 2 #[.val (.long q1), .second, .val (.int p2), .val (.int p3), .unset, .unset, .unset, .unset, .unset, .unset] [(.int (19 : Int32))])) _
    refine st4 _ ?_
    show Steps p.tables e below (T4.setTop (mkF m 4 #[.val (.long q1), .second, .val (.int p2), .val (.int p3), .unset, .unset, .unset, .unset, .unset, .unset] [(.ref b4)])) _
    refine XS.dup X4.here hx rfl (hb hby at_4) rfl rfl ?_
    show Steps p.tables e below (T4.setTop (mkF m 5 #[.val (.long q1), .second, .val (.int p2), .val (.int p3), .unset, .unset, .unset, .unset, .unset, .unset] [(.ref b4), (.ref b4)])) _
    refine XS.iconst X4.here hx rfl (hb hby at_5) ?_
    show Steps p.tables e below (T4.setTop (mkF m 6 #[.val (.long q1), .second, .val (.int p2), .val (.int p3), .unset, .unset, .unset, .unset, .unset, .unset] [(.int (0 : Int32)), (.ref b4), (.ref b4)])) _
    refine XS.lconst X4.here hx rfl (hb hby at_6) ?_
    show Steps p.tables e below (T4.setTop (mkF m 7 #[.val (.long q1), .second, .val (.int p2), .val (.int p3), .unset, .unset, .unset, .unset, .unset, .unset] [(.long (1 : Int64)), (.int (0 : Int32)), (.ref b4), (.ref b4)])) _
    refine st5 _ ?_
    show Steps p.tables e below (T5.setTop (mkF m 8 #[.val (.long q1), .second, .val (.int p2), .val (.int p3), .unset, .unset, .unset, .unset, .unset, .unset] [(.ref b4)])) _
    refine XS.dup X5.here hx rfl (hb hby at_8) rfl rfl ?_
    show Steps p.tables e below (T5.setTop (mkF m 9 #[.val (.long q1), .second, .val (.int p2), .val (.int p3), .unset, .unset, .unset, .unset, .unset, .unset] [(.ref b4), (.ref b4)])) _
    refine XS.iconst X5.here hx rfl (hb hby at_9) ?_
    show Steps p.tables e below (T5.setTop (mkF m 10 #[.val (.long q1), .second, .val (.int p2), .val (.int p3), .unset, .unset, .unset, .unset, .unset, .unset] [(.int (1 : Int32)), (.ref b4), (.ref b4)])) _
    refine X5.ldc2Long hx hown (mvT hZ (hw _ (List.mem_of_getElem? (i := 1) rfl))) (g := (mkF m 10 #[.val (.long q1), .second, .val (.int p2), .val (.int p3), .unset, .unset, .unset, .unset, .unset, .unset] [(.int (1 : Int32)), (.ref b4), (.ref b4)])) rfl (hb hby at_10) _ ?_
    show Steps p.tables e below (T5.setTop (mkF m 13 #[.val (.long q1), .second, .val (.int p2), .val (.int p3), .unset, .unset, .unset, .unset, .unset, .unset] [(.long (10 : Int64)), (.int (1 : Int32)), (.ref b4), (.ref b4)])) _
    refine st6 _ ?_
    show Steps p.tables e below (T6.setTop (mkF m 14 #[.val (.long q1), .second, .val (.int p2), .val (.int p3), .unset, .unset, .unset, .unset, .unset, .unset] [(.ref b4)])) _
    refine XS.dup X6.here hx rfl (hb hby at_14) rfl rfl ?_
    show Steps p.tables e below (T6.setTop (mkF m 15 #[.val (.long q1), .second, .val (.int p2), .val (.int p3), .unset, .unset, .unset, .unset, .unset, .unset] [(.ref b4), (.ref b4)])) _
    refine XS.iconst X6.here hx rfl (hb hby at_15) ?_
    show Steps p.tables e below (T6.setTop (mkF m 16 #[.val (.long q1), .second, .val (.int p2), .val (.int p3), .unset, .unset, .unset, .unset, .unset, .unset] [(.int (2 : Int32)), (.ref b4), (.ref b4)])) _
    refine X6.ldc2Long hx hown (mvT hZ (hw _ (List.mem_of_getElem? (i := 2) rfl))) (g := (mkF m 16 #[.val (.long q1), .second, .val (.int p2), .val (.int p3), .unset, .unset, .unset, .unset, .unset, .unset] [(.int (2 : Int32)), (.ref b4), (.ref b4)])) rfl (hb hby at_16) _ ?_
    show Steps p.tables e below (T6.setTop (mkF m 19 #[.val (.long q1), .second, .val (.int p2), .val (.int p3), .unset, .unset, .unset, .unset, .unset, .unset] [(.long (100 : Int64)), (.int (2 : Int32)), (.ref b4), (.ref b4)])) _
    refine st7 _ ?_
    show Steps p.tables e below (T7.setTop (mkF m 20 #[.val (.long q1), .second, .val (.int p2), .val (.int p3), .unset, .unset, .unset, .unset, .unset, .unset] [(.ref b4)])) _
    refine XS.dup X7.here hx rfl (hb hby at_20) rfl rfl ?_
    show Steps p.tables e below (T7.setTop (mkF m 21 #[.val (.long q1), .second, .val (.int p2), .val (.int p3), .unset, .unset, .unset, .unset, .unset, .unset] [(.ref b4), (.ref b4)])) _
    refine XS.iconst X7.here hx rfl (hb hby at_21) ?_
    show Steps p.tables e below (T7.setTop (mkF m 22 #[.val (.long q1), .second, .val (.int p2), .val (.int p3), .unset, .unset, .unset, .unset, .unset, .unset] [(.int (3 : Int32)), (.ref b4), (.ref b4)])) _
    refine X7.ldc2Long hx hown (mvT hZ (hw _ (List.mem_of_getElem? (i := 3) rfl))) (g := (mkF m 22 #[.val (.long q1), .second, .val (.int p2), .val (.int p3), .unset, .unset, .unset, .unset, .unset, .unset] [(.int (3 : Int32)), (.ref b4), (.ref b4)])) rfl (hb hby at_22) _ ?_
    show Steps p.tables e below (T7.setTop (mkF m 25 #[.val (.long q1), .second, .val (.int p2), .val (.int p3), .unset, .unset, .unset, .unset, .unset, .unset] [(.long (1000 : Int64)), (.int (3 : Int32)), (.ref b4), (.ref b4)])) _
    refine st8 _ ?_
    show Steps p.tables e below (T8.setTop (mkF m 26 #[.val (.long q1), .second, .val (.int p2), .val (.int p3), .unset, .unset, .unset, .unset, .unset, .unset] [(.ref b4)])) _
    refine XS.dup X8.here hx rfl (hb hby at_26) rfl rfl ?_
    show Steps p.tables e below (T8.setTop (mkF m 27 #[.val (.long q1), .second, .val (.int p2), .val (.int p3), .unset, .unset, .unset, .unset, .unset, .unset] [(.ref b4), (.ref b4)])) _
    refine XS.iconst X8.here hx rfl (hb hby at_27) ?_
    show Steps p.tables e below (T8.setTop (mkF m 28 #[.val (.long q1), .second, .val (.int p2), .val (.int p3), .unset, .unset, .unset, .unset, .unset, .unset] [(.int (4 : Int32)), (.ref b4), (.ref b4)])) _
    refine X8.ldc2Long hx hown (mvT hZ (hw _ (List.mem_of_getElem? (i := 4) rfl))) (g := (mkF m 28 #[.val (.long q1), .second, .val (.int p2), .val (.int p3), .unset, .unset, .unset, .unset, .unset, .unset] [(.int (4 : Int32)), (.ref b4), (.ref b4)])) rfl (hb hby at_28) _ ?_
    show Steps p.tables e below (T8.setTop (mkF m 31 #[.val (.long q1), .second, .val (.int p2), .val (.int p3), .unset, .unset, .unset, .unset, .unset, .unset] [(.long (10000 : Int64)), (.int (4 : Int32)), (.ref b4), (.ref b4)])) _
    refine st9 _ ?_
    show Steps p.tables e below (T9.setTop (mkF m 32 #[.val (.long q1), .second, .val (.int p2), .val (.int p3), .unset, .unset, .unset, .unset, .unset, .unset] [(.ref b4)])) _
    refine XS.dup X9.here hx rfl (hb hby at_32) rfl rfl ?_
    show Steps p.tables e below (T9.setTop (mkF m 33 #[.val (.long q1), .second, .val (.int p2), .val (.int p3), .unset, .unset, .unset, .unset, .unset, .unset] [(.ref b4), (.ref b4)])) _
    refine XS.iconst X9.here hx rfl (hb hby at_33) ?_
    show Steps p.tables e below (T9.setTop (mkF m 34 #[.val (.long q1), .second, .val (.int p2), .val (.int p3), .unset, .unset, .unset, .unset, .unset, .unset] [(.int (5 : Int32)), (.ref b4), (.ref b4)])) _
    refine X9.ldc2Long hx hown (mvT hZ (hw _ (List.mem_of_getElem? (i := 5) rfl))) (g := (mkF m 34 #[.val (.long q1), .second, .val (.int p2), .val (.int p3), .unset, .unset, .unset, .unset, .unset, .unset] [(.int (5 : Int32)), (.ref b4), (.ref b4)])) rfl (hb hby at_34) _ ?_
    show Steps p.tables e below (T9.setTop (mkF m 37 #[.val (.long q1), .second, .val (.int p2), .val (.int p3), .unset, .unset, .unset, .unset, .unset, .unset] [(.long (100000 : Int64)), (.int (5 : Int32)), (.ref b4), (.ref b4)])) _
    refine st10 _ ?_
    show Steps p.tables e below (T10.setTop (mkF m 38 #[.val (.long q1), .second, .val (.int p2), .val (.int p3), .unset, .unset, .unset, .unset, .unset, .unset] [(.ref b4)])) _
    refine XS.dup X10.here hx rfl (hb hby at_38) rfl rfl ?_
    show Steps p.tables e below (T10.setTop (mkF m 39 #[.val (.long q1), .second, .val (.int p2), .val (.int p3), .unset, .unset, .unset, .unset, .unset, .unset] [(.ref b4), (.ref b4)])) _
    refine XS.bipush X10.here hx rfl (hb hby at_39) ?_
    show Steps p.tables e below (T10.setTop (mkF m 41 #[.val (.long q1), .second, .val (.int p2), .val (.int p3), .unset, .unset, .unset, .unset, .unset, .unset] [(.int (6 : Int32)), (.ref b4), (.ref b4)])) _
    refine X10.ldc2Long hx hown (mvT hZ (hw _ (List.mem_of_getElem? (i := 6) rfl))) (g := (mkF m 41 #[.val (.long q1), .second, .val (.int p2), .val (.int p3), .unset, .unset, .unset, .unset, .unset, .unset] [(.int (6 : Int32)), (.ref b4), (.ref b4)])) rfl (hb hby at_41) _ ?_
    show Steps p.tables e below (T10.setTop (mkF m 44 #[.val (.long q1), .second, .val (.int p2), .val (.int p3), .unset, .unset, .unset, .unset, .unset, .unset] [(.long (1000000 : Int64)), (.int (6 : Int32)), (.ref b4), (.ref b4)])) _
    refine st11 _ ?_
    show Steps p.tables e below (T11.setTop (mkF m 45 #[.val (.long q1), .second, .val (.int p2), .val (.int p3), .unset, .unset, .unset, .unset, .unset, .unset] [(.ref b4)])) _
    refine XS.dup X11.here hx rfl (hb hby at_45) rfl rfl ?_
    show Steps p.tables e below (T11.setTop (mkF m 46 #[.val (.long q1), .second, .val (.int p2), .val (.int p3), .unset, .unset, .unset, .unset, .unset, .unset] [(.ref b4), (.ref b4)])) _
    refine XS.bipush X11.here hx rfl (hb hby at_46) ?_
    show Steps p.tables e below (T11.setTop (mkF m 48 #[.val (.long q1), .second, .val (.int p2), .val (.int p3), .unset, .unset, .unset, .unset, .unset, .unset] [(.int (7 : Int32)), (.ref b4), (.ref b4)])) _
    refine X11.ldc2Long hx hown (mvT hZ (hw _ (List.mem_of_getElem? (i := 7) rfl))) (g := (mkF m 48 #[.val (.long q1), .second, .val (.int p2), .val (.int p3), .unset, .unset, .unset, .unset, .unset, .unset] [(.int (7 : Int32)), (.ref b4), (.ref b4)])) rfl (hb hby at_48) _ ?_
    show Steps p.tables e below (T11.setTop (mkF m 51 #[.val (.long q1), .second, .val (.int p2), .val (.int p3), .unset, .unset, .unset, .unset, .unset, .unset] [(.long (10000000 : Int64)), (.int (7 : Int32)), (.ref b4), (.ref b4)])) _
    refine st12 _ ?_
    show Steps p.tables e below (T12.setTop (mkF m 52 #[.val (.long q1), .second, .val (.int p2), .val (.int p3), .unset, .unset, .unset, .unset, .unset, .unset] [(.ref b4)])) _
    refine XS.dup X12.here hx rfl (hb hby at_52) rfl rfl ?_
    show Steps p.tables e below (T12.setTop (mkF m 53 #[.val (.long q1), .second, .val (.int p2), .val (.int p3), .unset, .unset, .unset, .unset, .unset, .unset] [(.ref b4), (.ref b4)])) _
    refine XS.bipush X12.here hx rfl (hb hby at_53) ?_
    show Steps p.tables e below (T12.setTop (mkF m 55 #[.val (.long q1), .second, .val (.int p2), .val (.int p3), .unset, .unset, .unset, .unset, .unset, .unset] [(.int (8 : Int32)), (.ref b4), (.ref b4)])) _
    refine X12.ldc2Long hx hown (mvT hZ (hw _ (List.mem_of_getElem? (i := 8) rfl))) (g := (mkF m 55 #[.val (.long q1), .second, .val (.int p2), .val (.int p3), .unset, .unset, .unset, .unset, .unset, .unset] [(.int (8 : Int32)), (.ref b4), (.ref b4)])) rfl (hb hby at_55) _ ?_
    show Steps p.tables e below (T12.setTop (mkF m 58 #[.val (.long q1), .second, .val (.int p2), .val (.int p3), .unset, .unset, .unset, .unset, .unset, .unset] [(.long (100000000 : Int64)), (.int (8 : Int32)), (.ref b4), (.ref b4)])) _
    refine st13 _ ?_
    show Steps p.tables e below (T13.setTop (mkF m 59 #[.val (.long q1), .second, .val (.int p2), .val (.int p3), .unset, .unset, .unset, .unset, .unset, .unset] [(.ref b4)])) _
    refine XS.dup X13.here hx rfl (hb hby at_59) rfl rfl ?_
    show Steps p.tables e below (T13.setTop (mkF m 60 #[.val (.long q1), .second, .val (.int p2), .val (.int p3), .unset, .unset, .unset, .unset, .unset, .unset] [(.ref b4), (.ref b4)])) _
    refine XS.bipush X13.here hx rfl (hb hby at_60) ?_
    show Steps p.tables e below (T13.setTop (mkF m 62 #[.val (.long q1), .second, .val (.int p2), .val (.int p3), .unset, .unset, .unset, .unset, .unset, .unset] [(.int (9 : Int32)), (.ref b4), (.ref b4)])) _
    refine X13.ldc2Long hx hown (mvT hZ (hw _ (List.mem_of_getElem? (i := 9) rfl))) (g := (mkF m 62 #[.val (.long q1), .second, .val (.int p2), .val (.int p3), .unset, .unset, .unset, .unset, .unset, .unset] [(.int (9 : Int32)), (.ref b4), (.ref b4)])) rfl (hb hby at_62) _ ?_
    show Steps p.tables e below (T13.setTop (mkF m 65 #[.val (.long q1), .second, .val (.int p2), .val (.int p3), .unset, .unset, .unset, .unset, .unset, .unset] [(.long (1000000000 : Int64)), (.int (9 : Int32)), (.ref b4), (.ref b4)])) _
    refine st14 _ ?_
    show Steps p.tables e below (T14.setTop (mkF m 66 #[.val (.long q1), .second, .val (.int p2), .val (.int p3), .unset, .unset, .unset, .unset, .unset, .unset] [(.ref b4)])) _
    refine XS.dup X14.here hx rfl (hb hby at_66) rfl rfl ?_
    show Steps p.tables e below (T14.setTop (mkF m 67 #[.val (.long q1), .second, .val (.int p2), .val (.int p3), .unset, .unset, .unset, .unset, .unset, .unset] [(.ref b4), (.ref b4)])) _
    refine XS.bipush X14.here hx rfl (hb hby at_67) ?_
    show Steps p.tables e below (T14.setTop (mkF m 69 #[.val (.long q1), .second, .val (.int p2), .val (.int p3), .unset, .unset, .unset, .unset, .unset, .unset] [(.int (10 : Int32)), (.ref b4), (.ref b4)])) _
    refine X14.ldc2Long hx hown (mvT hZ (hw _ (List.mem_of_getElem? (i := 10) rfl))) (g := (mkF m 69 #[.val (.long q1), .second, .val (.int p2), .val (.int p3), .unset, .unset, .unset, .unset, .unset, .unset] [(.int (10 : Int32)), (.ref b4), (.ref b4)])) rfl (hb hby at_69) _ ?_
    show Steps p.tables e below (T14.setTop (mkF m 72 #[.val (.long q1), .second, .val (.int p2), .val (.int p3), .unset, .unset, .unset, .unset, .unset, .unset] [(.long (10000000000 : Int64)), (.int (10 : Int32)), (.ref b4), (.ref b4)])) _
    refine st15 _ ?_
    show Steps p.tables e below (T15.setTop (mkF m 73 #[.val (.long q1), .second, .val (.int p2), .val (.int p3), .unset, .unset, .unset, .unset, .unset, .unset] [(.ref b4)])) _
    refine XS.dup X15.here hx rfl (hb hby at_73) rfl rfl ?_
    show Steps p.tables e below (T15.setTop (mkF m 74 #[.val (.long q1), .second, .val (.int p2), .val (.int p3), .unset, .unset, .unset, .unset, .unset, .unset] [(.ref b4), (.ref b4)])) _
    refine XS.bipush X15.here hx rfl (hb hby at_74) ?_
    show Steps p.tables e below (T15.setTop (mkF m 76 #[.val (.long q1), .second, .val (.int p2), .val (.int p3), .unset, .unset, .unset, .unset, .unset, .unset] [(.int (11 : Int32)), (.ref b4), (.ref b4)])) _
    refine X15.ldc2Long hx hown (mvT hZ (hw _ (List.mem_of_getElem? (i := 11) rfl))) (g := (mkF m 76 #[.val (.long q1), .second, .val (.int p2), .val (.int p3), .unset, .unset, .unset, .unset, .unset, .unset] [(.int (11 : Int32)), (.ref b4), (.ref b4)])) rfl (hb hby at_76) _ ?_
    show Steps p.tables e below (T15.setTop (mkF m 79 #[.val (.long q1), .second, .val (.int p2), .val (.int p3), .unset, .unset, .unset, .unset, .unset, .unset] [(.long (100000000000 : Int64)), (.int (11 : Int32)), (.ref b4), (.ref b4)])) _
    refine st16 _ ?_
    show Steps p.tables e below (T16.setTop (mkF m 80 #[.val (.long q1), .second, .val (.int p2), .val (.int p3), .unset, .unset, .unset, .unset, .unset, .unset] [(.ref b4)])) _
    refine XS.dup X16.here hx rfl (hb hby at_80) rfl rfl ?_
    show Steps p.tables e below (T16.setTop (mkF m 81 #[.val (.long q1), .second, .val (.int p2), .val (.int p3), .unset, .unset, .unset, .unset, .unset, .unset] [(.ref b4), (.ref b4)])) _
    refine XS.bipush X16.here hx rfl (hb hby at_81) ?_
    show Steps p.tables e below (T16.setTop (mkF m 83 #[.val (.long q1), .second, .val (.int p2), .val (.int p3), .unset, .unset, .unset, .unset, .unset, .unset] [(.int (12 : Int32)), (.ref b4), (.ref b4)])) _
    refine X16.ldc2Long hx hown (mvT hZ (hw _ (List.mem_of_getElem? (i := 12) rfl))) (g := (mkF m 83 #[.val (.long q1), .second, .val (.int p2), .val (.int p3), .unset, .unset, .unset, .unset, .unset, .unset] [(.int (12 : Int32)), (.ref b4), (.ref b4)])) rfl (hb hby at_83) _ ?_
    show Steps p.tables e below (T16.setTop (mkF m 86 #[.val (.long q1), .second, .val (.int p2), .val (.int p3), .unset, .unset, .unset, .unset, .unset, .unset] [(.long (1000000000000 : Int64)), (.int (12 : Int32)), (.ref b4), (.ref b4)])) _
    refine st17 _ ?_
    show Steps p.tables e below (T17.setTop (mkF m 87 #[.val (.long q1), .second, .val (.int p2), .val (.int p3), .unset, .unset, .unset, .unset, .unset, .unset] [(.ref b4)])) _
    refine XS.dup X17.here hx rfl (hb hby at_87) rfl rfl ?_
    show Steps p.tables e below (T17.setTop (mkF m 88 #[.val (.long q1), .second, .val (.int p2), .val (.int p3), .unset, .unset, .unset, .unset, .unset, .unset] [(.ref b4), (.ref b4)])) _
    refine XS.bipush X17.here hx rfl (hb hby at_88) ?_
    show Steps p.tables e below (T17.setTop (mkF m 90 #[.val (.long q1), .second, .val (.int p2), .val (.int p3), .unset, .unset, .unset, .unset, .unset, .unset] [(.int (13 : Int32)), (.ref b4), (.ref b4)])) _
    refine X17.ldc2Long hx hown (mvT hZ (hw _ (List.mem_of_getElem? (i := 13) rfl))) (g := (mkF m 90 #[.val (.long q1), .second, .val (.int p2), .val (.int p3), .unset, .unset, .unset, .unset, .unset, .unset] [(.int (13 : Int32)), (.ref b4), (.ref b4)])) rfl (hb hby at_90) _ ?_
    show Steps p.tables e below (T17.setTop (mkF m 93 #[.val (.long q1), .second, .val (.int p2), .val (.int p3), .unset, .unset, .unset, .unset, .unset, .unset] [(.long (10000000000000 : Int64)), (.int (13 : Int32)), (.ref b4), (.ref b4)])) _
    refine st18 _ ?_
    show Steps p.tables e below (T18.setTop (mkF m 94 #[.val (.long q1), .second, .val (.int p2), .val (.int p3), .unset, .unset, .unset, .unset, .unset, .unset] [(.ref b4)])) _
    refine XS.dup X18.here hx rfl (hb hby at_94) rfl rfl ?_
    show Steps p.tables e below (T18.setTop (mkF m 95 #[.val (.long q1), .second, .val (.int p2), .val (.int p3), .unset, .unset, .unset, .unset, .unset, .unset] [(.ref b4), (.ref b4)])) _
    refine XS.bipush X18.here hx rfl (hb hby at_95) ?_
    show Steps p.tables e below (T18.setTop (mkF m 97 #[.val (.long q1), .second, .val (.int p2), .val (.int p3), .unset, .unset, .unset, .unset, .unset, .unset] [(.int (14 : Int32)), (.ref b4), (.ref b4)])) _
    refine X18.ldc2Long hx hown (mvT hZ (hw _ (List.mem_of_getElem? (i := 14) rfl))) (g := (mkF m 97 #[.val (.long q1), .second, .val (.int p2), .val (.int p3), .unset, .unset, .unset, .unset, .unset, .unset] [(.int (14 : Int32)), (.ref b4), (.ref b4)])) rfl (hb hby at_97) _ ?_
    show Steps p.tables e below (T18.setTop (mkF m 100 #[.val (.long q1), .second, .val (.int p2), .val (.int p3), .unset, .unset, .unset, .unset, .unset, .unset] [(.long (100000000000000 : Int64)), (.int (14 : Int32)), (.ref b4), (.ref b4)])) _
    refine st19 _ ?_
    show Steps p.tables e below (T19.setTop (mkF m 101 #[.val (.long q1), .second, .val (.int p2), .val (.int p3), .unset, .unset, .unset, .unset, .unset, .unset] [(.ref b4)])) _
    refine XS.dup X19.here hx rfl (hb hby at_101) rfl rfl ?_
    show Steps p.tables e below (T19.setTop (mkF m 102 #[.val (.long q1), .second, .val (.int p2), .val (.int p3), .unset, .unset, .unset, .unset, .unset, .unset] [(.ref b4), (.ref b4)])) _
    refine XS.bipush X19.here hx rfl (hb hby at_102) ?_
    show Steps p.tables e below (T19.setTop (mkF m 104 #[.val (.long q1), .second, .val (.int p2), .val (.int p3), .unset, .unset, .unset, .unset, .unset, .unset] [(.int (15 : Int32)), (.ref b4), (.ref b4)])) _
    refine X19.ldc2Long hx hown (mvT hZ (hw _ (List.mem_of_getElem? (i := 15) rfl))) (g := (mkF m 104 #[.val (.long q1), .second, .val (.int p2), .val (.int p3), .unset, .unset, .unset, .unset, .unset, .unset] [(.int (15 : Int32)), (.ref b4), (.ref b4)])) rfl (hb hby at_104) _ ?_
    show Steps p.tables e below (T19.setTop (mkF m 107 #[.val (.long q1), .second, .val (.int p2), .val (.int p3), .unset, .unset, .unset, .unset, .unset, .unset] [(.long (1000000000000000 : Int64)), (.int (15 : Int32)), (.ref b4), (.ref b4)])) _
    refine st20 _ ?_
    show Steps p.tables e below (T20.setTop (mkF m 108 #[.val (.long q1), .second, .val (.int p2), .val (.int p3), .unset, .unset, .unset, .unset, .unset, .unset] [(.ref b4)])) _
    refine XS.dup X20.here hx rfl (hb hby at_108) rfl rfl ?_
    show Steps p.tables e below (T20.setTop (mkF m 109 #[.val (.long q1), .second, .val (.int p2), .val (.int p3), .unset, .unset, .unset, .unset, .unset, .unset] [(.ref b4), (.ref b4)])) _
    refine XS.bipush X20.here hx rfl (hb hby at_109) ?_
    show Steps p.tables e below (T20.setTop (mkF m 111 #[.val (.long q1), .second, .val (.int p2), .val (.int p3), .unset, .unset, .unset, .unset, .unset, .unset] [(.int (16 : Int32)), (.ref b4), (.ref b4)])) _
    refine X20.ldc2Long hx hown (mvT hZ (hw _ (List.mem_of_getElem? (i := 16) rfl))) (g := (mkF m 111 #[.val (.long q1), .second, .val (.int p2), .val (.int p3), .unset, .unset, .unset, .unset, .unset, .unset] [(.int (16 : Int32)), (.ref b4), (.ref b4)])) rfl (hb hby at_111) _ ?_
    show Steps p.tables e below (T20.setTop (mkF m 114 #[.val (.long q1), .second, .val (.int p2), .val (.int p3), .unset, .unset, .unset, .unset, .unset, .unset] [(.long (10000000000000000 : Int64)), (.int (16 : Int32)), (.ref b4), (.ref b4)])) _
    refine st21 _ ?_
    show Steps p.tables e below (T21.setTop (mkF m 115 #[.val (.long q1), .second, .val (.int p2), .val (.int p3), .unset, .unset, .unset, .unset, .unset, .unset] [(.ref b4)])) _
    refine XS.dup X21.here hx rfl (hb hby at_115) rfl rfl ?_
    show Steps p.tables e below (T21.setTop (mkF m 116 #[.val (.long q1), .second, .val (.int p2), .val (.int p3), .unset, .unset, .unset, .unset, .unset, .unset] [(.ref b4), (.ref b4)])) _
    refine XS.bipush X21.here hx rfl (hb hby at_116) ?_
    show Steps p.tables e below (T21.setTop (mkF m 118 #[.val (.long q1), .second, .val (.int p2), .val (.int p3), .unset, .unset, .unset, .unset, .unset, .unset] [(.int (17 : Int32)), (.ref b4), (.ref b4)])) _
    refine X21.ldc2Long hx hown (mvT hZ (hw _ (List.mem_of_getElem? (i := 17) rfl))) (g := (mkF m 118 #[.val (.long q1), .second, .val (.int p2), .val (.int p3), .unset, .unset, .unset, .unset, .unset, .unset] [(.int (17 : Int32)), (.ref b4), (.ref b4)])) rfl (hb hby at_118) _ ?_
    show Steps p.tables e below (T21.setTop (mkF m 121 #[.val (.long q1), .second, .val (.int p2), .val (.int p3), .unset, .unset, .unset, .unset, .unset, .unset] [(.long (100000000000000000 : Int64)), (.int (17 : Int32)), (.ref b4), (.ref b4)])) _
    refine st22 _ ?_
    show Steps p.tables e below (T22.setTop (mkF m 122 #[.val (.long q1), .second, .val (.int p2), .val (.int p3), .unset, .unset, .unset, .unset, .unset, .unset] [(.ref b4)])) _
    refine XS.dup X22.here hx rfl (hb hby at_122) rfl rfl ?_
    show Steps p.tables e below (T22.setTop (mkF m 123 #[.val (.long q1), .second, .val (.int p2), .val (.int p3), .unset, .unset, .unset, .unset, .unset, .unset] [(.ref b4), (.ref b4)])) _
    refine XS.bipush X22.here hx rfl (hb hby at_123) ?_
    show Steps p.tables e below (T22.setTop (mkF m 125 #[.val (.long q1), .second, .val (.int p2), .val (.int p3), .unset, .unset, .unset, .unset, .unset, .unset] [(.int (18 : Int32)), (.ref b4), (.ref b4)])) _
    refine X22.ldc2Long hx hown (mvT hZ (hw _ (List.mem_of_getElem? (i := 18) rfl))) (g := (mkF m 125 #[.val (.long q1), .second, .val (.int p2), .val (.int p3), .unset, .unset, .unset, .unset, .unset, .unset] [(.int (18 : Int32)), (.ref b4), (.ref b4)])) rfl (hb hby at_125) _ ?_
    show Steps p.tables e below (T22.setTop (mkF m 128 #[.val (.long q1), .second, .val (.int p2), .val (.int p3), .unset, .unset, .unset, .unset, .unset, .unset] [(.long (1000000000000000000 : Int64)), (.int (18 : Int32)), (.ref b4), (.ref b4)])) _
    refine st23 _ ?_
    show Steps p.tables e below (T23.setTop (mkF m 129 #[.val (.long q1), .second, .val (.int p2), .val (.int p3), .unset, .unset, .unset, .unset, .unset, .unset] [(.ref b4)])) _
    refine XS.astore X23.here hx rfl (hb hby at_129) rfl rfl (l' := #[.val (.long q1), .second, .val (.int p2), .val (.int p3), .val (.ref b4), .unset, .unset, .unset, .unset, .unset]) rfl ?_
    show Steps p.tables e below (T23.setTop (mkF m 131 #[.val (.long q1), .second, .val (.int p2), .val (.int p3), .val (.ref b4), .unset, .unset, .unset, .unset, .unset] [])) _
    refine XS.iloadN X23.here hx rfl (hb hby at_131) rfl ?_
    show Steps p.tables e below (T23.setTop (mkF m 132 #[.val (.long q1), .second, .val (.int p2), .val (.int p3), .val (.ref b4), .unset, .unset, .unset, .unset, .unset] [(.int p3)])) _
    refine XS.iconst X23.here hx rfl (hb hby at_132) ?_
    show Steps p.tables e below (T23.setTop (mkF m 133 #[.val (.long q1), .second, .val (.int p2), .val (.int p3), .val (.ref b4), .unset, .unset, .unset, .unset, .unset] [(.int (1 : Int32)), (.int p3)])) _
    refine XS.iand X23.here hx rfl (hb hby at_133) rfl ?_
    show Steps p.tables e below (T23.setTop (mkF m 134 #[.val (.long q1), .second, .val (.int p2), .val (.int p3), .val (.ref b4), .unset, .unset, .unset, .unset, .unset] [(.int (p3 &&& (1 : Int32)))])) _
    refine XS.ifYes X23.here hx rfl (pc0 := 134) (pc' := 171) rfl (hb hby at_134) rfl ((if0 _ _).trans (teq hc134).1) (by decide) (by decide) ?_
    show Steps p.tables e below (T23.setTop (mkF m 171 #[.val (.long q1), .second, .val (.int p2), .val (.int p3), .val (.ref b4), .unset, .unset, .unset, .unset, .unset] [])) _
    refine XS.lloadN X23.here hx rfl (hb hby at_171) rfl ?_
    show Steps p.tables e below (T23.setTop (mkF m 172 #[.val (.long q1), .second, .val (.int p2), .val (.int p3), .val (.ref b4), .unset, .unset, .unset, .unset, .unset] [(.long q1)])) _
    refine X23.ldc2Long hx hown (mvT hZ (hw _ (List.mem_of_getElem? (i := 25) rfl))) (g := (mkF m 172 #[.val (.long q1), .second, .val (.int p2), .val (.int p3), .val (.ref b4), .unset, .unset, .unset, .unset, .unset] [(.long q1)])) rfl (hb hby at_172) _ ?_
    show Steps p.tables e below (T23.setTop (mkF m 175 #[.val (.long q1), .second, .val (.int p2), .val (.int p3), .val (.ref b4), .unset, .unset, .unset, .unset, .unset] [(.long (9223372036854775807 : Int64)), (.long q1)])) _
    refine XS.land X23.here hx rfl (hb hby at_175) rfl ?_
    show Steps p.tables e below (T23.setTop (mkF m 176 #[.val (.long q1), .second, .val (.int p2), .val (.int p3), .val (.ref b4), .unset, .unset, .unset, .unset, .unset] [(.long (q1 &&& (9223372036854775807 : Int64)))])) _
    refine XS.iloadN X23.here hx rfl (hb hby at_176) rfl ?_
    show Steps p.tables e below (T23.setTop (mkF m 177 #[.val (.long q1), .second, .val (.int p2), .val (.int p3), .val (.ref b4), .unset, .unset, .unset, .unset, .unset] [(.int p2), (.long (q1 &&& (9223372036854775807 : Int64)))])) _
    refine XS.bipush X23.here hx rfl (hb hby at_177) ?_
    show Steps p.tables e below (T23.setTop (mkF m 179 #[.val (.long q1), .second, .val (.int p2), .val (.int p3), .val (.ref b4), .unset, .unset, .unset, .unset, .unset] [(.int (63 : Int32)), (.int p2), (.long (q1 &&& (9223372036854775807 : Int64)))])) _
    refine XS.iand X23.here hx rfl (hb hby at_179) rfl ?_
    show Steps p.tables e below (T23.setTop (mkF m 180 #[.val (.long q1), .second, .val (.int p2), .val (.int p3), .val (.ref b4), .unset, .unset, .unset, .unset, .unset] [(.int (p2 &&& (63 : Int32))), (.long (q1 &&& (9223372036854775807 : Int64)))])) _
    refine XS.lushr X23.here hx rfl (hb hby at_180) rfl ?_
    show Steps p.tables e below (T23.setTop (mkF m 181 #[.val (.long q1), .second, .val (.int p2), .val (.int p3), .val (.ref b4), .unset, .unset, .unset, .unset, .unset] [(.long (((q1 &&& (9223372036854775807 : Int64)).toUInt64 >>> ((p2 &&& (63 : Int32)) &&& 0x3f).toInt64.toUInt64).toInt64))])) _
    refine XS.lstore X23.here hx rfl (hb hby at_181) rfl (l' := #[.val (.long q1), .second, .val (.int p2), .val (.int p3), .val (.ref b4), .val (.long (((q1 &&& (9223372036854775807 : Int64)).toUInt64 >>> ((p2 &&& (63 : Int32)) &&& 0x3f).toInt64.toUInt64).toInt64)), .second, .unset, .unset, .unset]) rfl ?_
    show Steps p.tables e below (T23.setTop (mkF m 183 #[.val (.long q1), .second, .val (.int p2), .val (.int p3), .val (.ref b4), .val (.long (((q1 &&& (9223372036854775807 : Int64)).toUInt64 >>> ((p2 &&& (63 : Int32)) &&& 0x3f).toInt64.toUInt64).toInt64)), .second, .unset, .unset, .unset] [])) _
    refine XS.lload X23.here hx rfl (hb hby at_183) rfl ?_
    show Steps p.tables e below (T23.setTop (mkF m 185 #[.val (.long q1), .second, .val (.int p2), .val (.int p3), .val (.ref b4), .val (.long (((q1 &&& (9223372036854775807 : Int64)).toUInt64 >>> ((p2 &&& (63 : Int32)) &&& 0x3f).toInt64.toUInt64).toInt64)), .second, .unset, .unset, .unset] [(.long (((q1 &&& (9223372036854775807 : Int64)).toUInt64 >>> ((p2 &&& (63 : Int32)) &&& 0x3f).toInt64.toUInt64).toInt64))])) _
    refine st24 _ ?_
    show Steps p.tables e below (T24.setTop (mkF m 188 #[.val (.long q1), .second, .val (.int p2), .val (.int p3), .val (.ref b4), .val (.long (((q1 &&& (9223372036854775807 : Int64)).toUInt64 >>> ((p2 &&& (63 : Int32)) &&& 0x3f).toInt64.toUInt64).toInt64)), .second, .unset, .unset, .unset] [(.int (Int32.ofNat r))])) _
    refine XS.istore X24.here hx rfl (hb hby at_188) rfl (l' := #[.val (.long q1), .second, .val (.int p2), .val (.int p3), .val (.ref b4), .val (.long (((q1 &&& (9223372036854775807 : Int64)).toUInt64 >>> ((p2 &&& (63 : Int32)) &&& 0x3f).toInt64.toUInt64).toInt64)), .second, .val (.int (Int32.ofNat r)), .unset, .unset]) rfl ?_
    show Steps p.tables e below (T24.setTop (mkF m 190 #[.val (.long q1), .second, .val (.int p2), .val (.int p3), .val (.ref b4), .val (.long (((q1 &&& (9223372036854775807 : Int64)).toUInt64 >>> ((p2 &&& (63 : Int32)) &&& 0x3f).toInt64.toUInt64).toInt64)), .second, .val (.int (Int32.ofNat r)), .unset, .unset] [])) _
    refine XS.iload X24.here hx rfl (hb hby at_190) rfl ?_
    show Steps p.tables e below (T24.setTop (mkF m 192 #[.val (.long q1), .second, .val (.int p2), .val (.int p3), .val (.ref b4), .val (.long (((q1 &&& (9223372036854775807 : Int64)).toUInt64 >>> ((p2 &&& (63 : Int32)) &&& 0x3f).toInt64.toUInt64).toInt64)), .second, .val (.int (Int32.ofNat r)), .unset, .unset] [(.int (Int32.ofNat r))])) _
    refine XS.iconst X24.here hx rfl (hb hby at_192) ?_
    show Steps p.tables e below (T24.setTop (mkF m 193 #[.val (.long q1), .second, .val (.int p2), .val (.int p3), .val (.ref b4), .val (.long (((q1 &&& (9223372036854775807 : Int64)).toUInt64 >>> ((p2 &&& (63 : Int32)) &&& 0x3f).toInt64.toUInt64).toInt64)), .second, .val (.int (Int32.ofNat r)), .unset, .unset] [(.int (1 : Int32)), (.int (Int32.ofNat r))])) _
    have hc193 : ¬ ((Int32.ofNat r) < (1 : Int32)) := (own_ge hdig).1
    refine XS.icmpNo X24.here hx rfl (hb hby at_193) rfl (flt hc193).1 ?_
    show Steps p.tables e below (T24.setTop (mkF m 196 #[.val (.long q1), .second, .val (.int p2), .val (.int p3), .val (.ref b4), .val (.long (((q1 &&& (9223372036854775807 : Int64)).toUInt64 >>> ((p2 &&& (63 : Int32)) &&& 0x3f).toInt64.toUInt64).toInt64)), .second, .val (.int (Int32.ofNat r)), .unset, .unset] [])) _
    refine XS.iload X24.here hx rfl (hb hby at_196) rfl ?_
    show Steps p.tables e below (T24.setTop (mkF m 198 #[.val (.long q1), .second, .val (.int p2), .val (.int p3), .val (.ref b4), .val (.long (((q1 &&& (9223372036854775807 : Int64)).toUInt64 >>> ((p2 &&& (63 : Int32)) &&& 0x3f).toInt64.toUInt64).toInt64)), .second, .val (.int (Int32.ofNat r)), .unset, .unset] [(.int (Int32.ofNat r))])) _
    refine XS.bipush X24.here hx rfl (hb hby at_198) ?_
    show Steps p.tables e below (T24.setTop (mkF m 200 #[.val (.long q1), .second, .val (.int p2), .val (.int p3), .val (.ref b4), .val (.long (((q1 &&& (9223372036854775807 : Int64)).toUInt64 >>> ((p2 &&& (63 : Int32)) &&& 0x3f).toInt64.toUInt64).toInt64)), .second, .val (.int (Int32.ofNat r)), .unset, .unset] [(.int (19 : Int32)), (.int (Int32.ofNat r))])) _
    have hc200 : ¬ ((19 : Int32) < (Int32.ofNat r)) := (own_ge hdig).2
    refine XS.icmpYes X24.here hx rfl (pc0 := 200) (pc' := 205) rfl (hb hby at_200) rfl (flt hc200).2.2.2 (by decide) (by decide) ?_
    show Steps p.tables e below (T24.setTop (mkF m 205 #[.val (.long q1), .second, .val (.int p2), .val (.int p3), .val (.ref b4), .val (.long (((q1 &&& (9223372036854775807 : Int64)).toUInt64 >>> ((p2 &&& (63 : Int32)) &&& 0x3f).toInt64.toUInt64).toInt64)), .second, .val (.int (Int32.ofNat r)), .unset, .unset] [])) _
    refine XS.iload X24.here hx rfl (hb hby at_205) rfl ?_
    show Steps p.tables e below (T24.setTop (mkF m 207 #[.val (.long q1), .second, .val (.int p2), .val (.int p3), .val (.ref b4), .val (.long (((q1 &&& (9223372036854775807 : Int64)).toUInt64 >>> ((p2 &&& (63 : Int32)) &&& 0x3f).toInt64.toUInt64).toInt64)), .second, .val (.int (Int32.ofNat r)), .unset, .unset] [(.int (Int32.ofNat r))])) _
    refine XS.iconst X24.here hx rfl (hb hby at_207) ?_
    show Steps p.tables e below (T24.setTop (mkF m 208 #[.val (.long q1), .second, .val (.int p2), .val (.int p3), .val (.ref b4), .val (.long (((q1 &&& (9223372036854775807 : Int64)).toUInt64 >>> ((p2 &&& (63 : Int32)) &&& 0x3f).toInt64.toUInt64).toInt64)), .second, .val (.int (Int32.ofNat r)), .unset, .unset] [(.int (1 : Int32)), (.int (Int32.ofNat r))])) _
    by_cases hc208 : (Int32.ofNat r) = (1 : Int32)
    · refine XS.icmpYes X24.here hx rfl (pc0 := 208) (pc' := 224) rfl (hb hby at_208) rfl (teq hc208).1 (by decide) (by decide) ?_
      show Steps p.tables e below (T24.setTop (mkF m 224 #[.val (.long q1), .second, .val (.int p2), .val (.int p3), .val (.ref b4), .val (.long (((q1 &&& (9223372036854775807 : Int64)).toUInt64 >>> ((p2 &&& (63 : Int32)) &&& 0x3f).toInt64.toUInt64).toInt64)), .second, .val (.int (Int32.ofNat r)), .unset, .unset] [])) _
      refine XS.iconst X24.here hx rfl (hb hby at_224) ?_
      show Steps p.tables e below (T24.setTop (mkF m 225 #[.val (.long q1), .second, .val (.int p2), .val (.int p3), .val (.ref b4), .val (.long (((q1 &&& (9223372036854775807 : Int64)).toUInt64 >>> ((p2 &&& (63 : Int32)) &&& 0x3f).toInt64.toUInt64).toInt64)), .second, .val (.int (Int32.ofNat r)), .unset, .unset] [(.int (1 : Int32))])) _
      refine XS.goto X24.here hx rfl (pc0 := 225) (pc' := 229) rfl (hb hby at_225) (by decide) (by decide) ?_
      show Steps p.tables e below (T24.setTop (mkF m 229 #[.val (.long q1), .second, .val (.int p2), .val (.int p3), .val (.ref b4), .val (.long (((q1 &&& (9223372036854775807 : Int64)).toUInt64 >>> ((p2 &&& (63 : Int32)) &&& 0x3f).toInt64.toUInt64).toInt64)), .second, .val (.int (Int32.ofNat r)), .unset, .unset] [(.int (1 : Int32))])) _
      refine XS.istore X24.here hx rfl (hb hby at_229) rfl (l' := #[.val (.long q1), .second, .val (.int p2), .val (.int p3), .val (.ref b4), .val (.long (((q1 &&& (9223372036854775807 : Int64)).toUInt64 >>> ((p2 &&& (63 : Int32)) &&& 0x3f).toInt64.toUInt64).toInt64)), .second, .val (.int (Int32.ofNat r)), .val (.int (1 : Int32)), .unset]) rfl ?_
      show Steps p.tables e below (T24.setTop (mkF m 231 #[.val (.long q1), .second, .val (.int p2), .val (.int p3), .val (.ref b4), .val (.long (((q1 &&& (9223372036854775807 : Int64)).toUInt64 >>> ((p2 &&& (63 : Int32)) &&& 0x3f).toInt64.toUInt64).toInt64)), .second, .val (.int (Int32.ofNat r)), .val (.int (1 : Int32)), .unset] [])) _
      refine XS.iload X24.here hx rfl (hb hby at_231) rfl ?_
      show Steps p.tables e below (T24.setTop (mkF m 233 #[.val (.long q1), .second, .val (.int p2), .val (.int p3), .val (.ref b4), .val (.long (((q1 &&& (9223372036854775807 : Int64)).toUInt64 >>> ((p2 &&& (63 : Int32)) &&& 0x3f).toInt64.toUInt64).toInt64)), .second, .val (.int (Int32.ofNat r)), .val (.int (1 : Int32)), .unset] [(.int (Int32.ofNat r))])) _
      refine XS.bipush X24.here hx rfl (hb hby at_233) ?_
      show Steps p.tables e below (T24.setTop (mkF m 235 #[.val (.long q1), .second, .val (.int p2), .val (.int p3), .val (.ref b4), .val (.long (((q1 &&& (9223372036854775807 : Int64)).toUInt64 >>> ((p2 &&& (63 : Int32)) &&& 0x3f).toInt64.toUInt64).toInt64)), .second, .val (.int (Int32.ofNat r)), .val (.int (1 : Int32)), .unset] [(.int (19 : Int32)), (.int (Int32.ofNat r))])) _
      by_cases hc235 : (Int32.ofNat r) = (19 : Int32)
      · refine XS.icmpYes X24.here hx rfl (pc0 := 235) (pc' := 249) rfl (hb hby at_235) rfl (teq hc235).1 (by decide) (by decide) ?_
        show Steps p.tables e below (T24.setTop (mkF m 249 #[.val (.long q1), .second, .val (.int p2), .val (.int p3), .val (.ref b4), .val (.long (((q1 &&& (9223372036854775807 : Int64)).toUInt64 >>> ((p2 &&& (63 : Int32)) &&& 0x3f).toInt64.toUInt64).toInt64)), .second, .val (.int (Int32.ofNat r)), .val (.int (1 : Int32)), .unset] [])) _
        refine XS.iconst X24.here hx rfl (hb hby at_249) ?_
        show Steps p.tables e below (T24.setTop (mkF m 250 #[.val (.long q1), .second, .val (.int p2), .val (.int p3), .val (.ref b4), .val (.long (((q1 &&& (9223372036854775807 : Int64)).toUInt64 >>> ((p2 &&& (63 : Int32)) &&& 0x3f).toInt64.toUInt64).toInt64)), .second, .val (.int (Int32.ofNat r)), .val (.int (1 : Int32)), .unset] [(.int (1 : Int32))])) _
        refine XS.goto X24.here hx rfl (pc0 := 250) (pc' := 254) rfl (hb hby at_250) (by decide) (by decide) ?_
        show Steps p.tables e below (T24.setTop (mkF m 254 #[.val (.long q1), .second, .val (.int p2), .val (.int p3), .val (.ref b4), .val (.long (((q1 &&& (9223372036854775807 : Int64)).toUInt64 >>> ((p2 &&& (63 : Int32)) &&& 0x3f).toInt64.toUInt64).toInt64)), .second, .val (.int (Int32.ofNat r)), .val (.int (1 : Int32)), .unset] [(.int (1 : Int32))])) _
        refine XS.istore X24.here hx rfl (hb hby at_254) rfl (l' := #[.val (.long q1), .second, .val (.int p2), .val (.int p3), .val (.ref b4), .val (.long (((q1 &&& (9223372036854775807 : Int64)).toUInt64 >>> ((p2 &&& (63 : Int32)) &&& 0x3f).toInt64.toUInt64).toInt64)), .second, .val (.int (Int32.ofNat r)), .val (.int (1 : Int32)), .val (.int (1 : Int32))]) rfl ?_
        show Steps p.tables e below (T24.setTop (mkF m 256 #[.val (.long q1), .second, .val (.int p2), .val (.int p3), .val (.ref b4), .val (.long (((q1 &&& (9223372036854775807 : Int64)).toUInt64 >>> ((p2 &&& (63 : Int32)) &&& 0x3f).toInt64.toUInt64).toInt64)), .second, .val (.int (Int32.ofNat r)), .val (.int (1 : Int32)), .val (.int (1 : Int32))] [])) _
        refine XS.iload X24.here hx rfl (hb hby at_256) rfl ?_
        show Steps p.tables e below (T24.setTop (mkF m 258 #[.val (.long q1), .second, .val (.int p2), .val (.int p3), .val (.ref b4), .val (.long (((q1 &&& (9223372036854775807 : Int64)).toUInt64 >>> ((p2 &&& (63 : Int32)) &&& 0x3f).toInt64.toUInt64).toInt64)), .second, .val (.int (Int32.ofNat r)), .val (.int (1 : Int32)), .val (.int (1 : Int32))] [(.int (1 : Int32))])) _
        have hc258 : ¬ ((1 : Int32) = (0 : Int32)) := by decide
        refine XS.ifNo X24.here hx rfl (hb hby at_258) rfl ((if0 _ _).trans (feq hc258).1) ?_
        show Steps p.tables e below (T24.setTop (mkF m 261 #[.val (.long q1), .second, .val (.int p2), .val (.int p3), .val (.ref b4), .val (.long (((q1 &&& (9223372036854775807 : Int64)).toUInt64 >>> ((p2 &&& (63 : Int32)) &&& 0x3f).toInt64.toUInt64).toInt64)), .second, .val (.int (Int32.ofNat r)), .val (.int (1 : Int32)), .val (.int (1 : Int32))] [])) _
        refine XS.iload X24.here hx rfl (hb hby at_261) rfl ?_
        show Steps p.tables e below (T24.setTop (mkF m 263 #[.val (.long q1), .second, .val (.int p2), .val (.int p3), .val (.ref b4), .val (.long (((q1 &&& (9223372036854775807 : Int64)).toUInt64 >>> ((p2 &&& (63 : Int32)) &&& 0x3f).toInt64.toUInt64).toInt64)), .second, .val (.int (Int32.ofNat r)), .val (.int (1 : Int32)), .val (.int (1 : Int32))] [(.int (1 : Int32))])) _
        have hc263 : ¬ ((1 : Int32) = (0 : Int32)) := by decide
        refine XS.ifNo X24.here hx rfl (hb hby at_263) rfl ((if0 _ _).trans (feq hc263).1) ?_
        show Steps p.tables e below (T24.setTop (mkF m 266 #[.val (.long q1), .second, .val (.int p2), .val (.int p3), .val (.ref b4), .val (.long (((q1 &&& (9223372036854775807 : Int64)).toUInt64 >>> ((p2 &&& (63 : Int32)) &&& 0x3f).toInt64.toUInt64).toInt64)), .second, .val (.int (Int32.ofNat r)), .val (.int (1 : Int32)), .val (.int (1 : Int32))] [])) _
        refine XS.iconst X24.here hx rfl (hb hby at_266) ?_
        show Steps p.tables e below (T24.setTop (mkF m 267 #[.val (.long q1), .second, .val (.int p2), .val (.int p3), .val (.ref b4), .val (.long (((q1 &&& (9223372036854775807 : Int64)).toUInt64 >>> ((p2 &&& (63 : Int32)) &&& 0x3f).toInt64.toUInt64).toInt64)), .second, .val (.int (Int32.ofNat r)), .val (.int (1 : Int32)), .val (.int (1 : Int32))] [(.int (1 : Int32))])) _
        refine XS.goto X24.here hx rfl (pc0 := 267) (pc' := 271) rfl (hb hby at_267) (by decide) (by decide) ?_
        show Steps p.tables e below (T24.setTop (mkF m 271 #[.val (.long q1), .second, .val (.int p2), .val (.int p3), .val (.ref b4), .val (.long (((q1 &&& (9223372036854775807 : Int64)).toUInt64 >>> ((p2 &&& (63 : Int32)) &&& 0x3f).toInt64.toUInt64).toInt64)), .second, .val (.int (Int32.ofNat r)), .val (.int (1 : Int32)), .val (.int (1 : Int32))] [(.int (1 : Int32))])) _
        exact retN X24 hx (t := .boolean) Bd.returns (by simp) (hb hby at_271) hr
      · refine XS.icmpNo X24.here hx rfl (hb hby at_235) rfl (feq hc235).1 ?_
        show Steps p.tables e below (T24.setTop (mkF m 238 #[.val (.long q1), .second, .val (.int p2), .val (.int p3), .val (.ref b4), .val (.long (((q1 &&& (9223372036854775807 : Int64)).toUInt64 >>> ((p2 &&& (63 : Int32)) &&& 0x3f).toInt64.toUInt64).toInt64)), .second, .val (.int (Int32.ofNat r)), .val (.int (1 : Int32)), .unset] [])) _
        refine XS.lload X24.here hx rfl (hb hby at_238) rfl ?_
        show Steps p.tables e below (T24.setTop (mkF m 240 #[.val (.long q1), .second, .val (.int p2), .val (.int p3), .val (.ref b4), .val (.long (((q1 &&& (9223372036854775807 : Int64)).toUInt64 >>> ((p2 &&& (63 : Int32)) &&& 0x3f).toInt64.toUInt64).toInt64)), .second, .val (.int (Int32.ofNat r)), .val (.int (1 : Int32)), .unset] [(.long (((q1 &&& (9223372036854775807 : Int64)).toUInt64 >>> ((p2 &&& (63 : Int32)) &&& 0x3f).toInt64.toUInt64).toInt64))])) _
        refine XS.aload X24.here hx rfl (hb hby at_240) rfl rfl ?_
        show Steps p.tables e below (T24.setTop (mkF m 242 #[.val (.long q1), .second, .val (.int p2), .val (.int p3), .val (.ref b4), .val (.long (((q1 &&& (9223372036854775807 : Int64)).toUInt64 >>> ((p2 &&& (63 : Int32)) &&& 0x3f).toInt64.toUInt64).toInt64)), .second, .val (.int (Int32.ofNat r)), .val (.int (1 : Int32)), .unset] [(.ref b4), (.long (((q1 &&& (9223372036854775807 : Int64)).toUInt64 >>> ((p2 &&& (63 : Int32)) &&& 0x3f).toInt64.toUInt64).toInt64))])) _
        refine XS.iload X24.here hx rfl (hb hby at_242) rfl ?_
        show Steps p.tables e below (T24.setTop (mkF m 244 #[.val (.long q1), .second, .val (.int p2), .val (.int p3), .val (.ref b4), .val (.long (((q1 &&& (9223372036854775807 : Int64)).toUInt64 >>> ((p2 &&& (63 : Int32)) &&& 0x3f).toInt64.toUInt64).toInt64)), .second, .val (.int (Int32.ofNat r)), .val (.int (1 : Int32)), .unset] [(.int (Int32.ofNat r)), (.ref b4), (.long (((q1 &&& (9223372036854775807 : Int64)).toUInt64 >>> ((p2 &&& (63 : Int32)) &&& 0x3f).toInt64.toUInt64).toInt64))])) _
        have hat244 : cl.slots[(Int32.ofNat r).toNatClampNeg]? = some (.long (own_pw r)) := own_ld S_b4 H_b4 (own_i hdig.2.1) (own_ne19 hdig.2.1 hc235)
        have hin244 : ¬ ((Int32.ofNat r) < 0 ∨ cl.slots.size ≤ (Int32.ofNat r).toNatClampNeg) := own_in S_b4 (own_i hdig.2.1) (own_ne19 hdig.2.1 hc235)
        refine X24.laload hx (j := (Int32.ofNat r)) (v := (.long (own_pw r))) (by exact Ar_b4.1) (State.isArrayOf_alike hZ.alike Ar_b4.2.1) Ar_b4.2.2 hin244 hat244 (g := (mkF m 244 #[.val (.long q1), .second, .val (.int p2), .val (.int p3), .val (.ref b4), .val (.long (((q1 &&& (9223372036854775807 : Int64)).toUInt64 >>> ((p2 &&& (63 : Int32)) &&& 0x3f).toInt64.toUInt64).toInt64)), .second, .val (.int (Int32.ofNat r)), .val (.int (1 : Int32)), .unset] [(.int (Int32.ofNat r)), (.ref b4), (.long (((q1 &&& (9223372036854775807 : Int64)).toUInt64 >>> ((p2 &&& (63 : Int32)) &&& 0x3f).toInt64.toUInt64).toInt64))])) rfl rfl (hb hby at_244) _ ?_
        show Steps p.tables e below (T24.setTop (mkF m 245 #[.val (.long q1), .second, .val (.int p2), .val (.int p3), .val (.ref b4), .val (.long (((q1 &&& (9223372036854775807 : Int64)).toUInt64 >>> ((p2 &&& (63 : Int32)) &&& 0x3f).toInt64.toUInt64).toInt64)), .second, .val (.int (Int32.ofNat r)), .val (.int (1 : Int32)), .unset] [(.long (own_pw r)), (.long (((q1 &&& (9223372036854775807 : Int64)).toUInt64 >>> ((p2 &&& (63 : Int32)) &&& 0x3f).toInt64.toUInt64).toInt64))])) _
        refine XS.lcmp X24.here hx rfl (hb hby at_245) rfl ?_
        show Steps p.tables e below (T24.setTop (mkF m 246 #[.val (.long q1), .second, .val (.int p2), .val (.int p3), .val (.ref b4), .val (.long (((q1 &&& (9223372036854775807 : Int64)).toUInt64 >>> ((p2 &&& (63 : Int32)) &&& 0x3f).toInt64.toUInt64).toInt64)), .second, .val (.int (Int32.ofNat r)), .val (.int (1 : Int32)), .unset] [(.int (lcmpW (((q1 &&& (9223372036854775807 : Int64)).toUInt64 >>> ((p2 &&& (63 : Int32)) &&& 0x3f).toInt64.toUInt64).toInt64) (own_pw r)))])) _
        have hc246 : (lcmpW (((q1 &&& (9223372036854775807 : Int64)).toUInt64 >>> ((p2 &&& (63 : Int32)) &&& 0x3f).toInt64.toUInt64).toInt64) (own_pw r)) < (0 : Int32) := own_high hdig hc235
        refine XS.ifNo X24.here hx rfl (hb hby at_246) rfl ((if0 _ _).trans (tlt hc246).2.1) ?_
        show Steps p.tables e below (T24.setTop (mkF m 249 #[.val (.long q1), .second, .val (.int p2), .val (.int p3), .val (.ref b4), .val (.long (((q1 &&& (9223372036854775807 : Int64)).toUInt64 >>> ((p2 &&& (63 : Int32)) &&& 0x3f).toInt64.toUInt64).toInt64)), .second, .val (.int (Int32.ofNat r)), .val (.int (1 : Int32)), .unset] [])) _
        refine XS.iconst X24.here hx rfl (hb hby at_249) ?_
        show Steps p.tables e below (T24.setTop (mkF m 250 #[.val (.long q1), .second, .val (.int p2), .val (.int p3), .val (.ref b4), .val (.long (((q1 &&& (9223372036854775807 : Int64)).toUInt64 >>> ((p2 &&& (63 : Int32)) &&& 0x3f).toInt64.toUInt64).toInt64)), .second, .val (.int (Int32.ofNat r)), .val (.int (1 : Int32)), .unset] [(.int (1 : Int32))])) _
        refine XS.goto X24.here hx rfl (pc0 := 250) (pc' := 254) rfl (hb hby at_250) (by decide) (by decide) ?_
        show Steps p.tables e below (T24.setTop (mkF m 254 #[.val (.long q1), .second, .val (.int p2), .val (.int p3), .val (.ref b4), .val (.long (((q1 &&& (9223372036854775807 : Int64)).toUInt64 >>> ((p2 &&& (63 : Int32)) &&& 0x3f).toInt64.toUInt64).toInt64)), .second, .val (.int (Int32.ofNat r)), .val (.int (1 : Int32)), .unset] [(.int (1 : Int32))])) _
        refine XS.istore X24.here hx rfl (hb hby at_254) rfl (l' := #[.val (.long q1), .second, .val (.int p2), .val (.int p3), .val (.ref b4), .val (.long (((q1 &&& (9223372036854775807 : Int64)).toUInt64 >>> ((p2 &&& (63 : Int32)) &&& 0x3f).toInt64.toUInt64).toInt64)), .second, .val (.int (Int32.ofNat r)), .val (.int (1 : Int32)), .val (.int (1 : Int32))]) rfl ?_
        show Steps p.tables e below (T24.setTop (mkF m 256 #[.val (.long q1), .second, .val (.int p2), .val (.int p3), .val (.ref b4), .val (.long (((q1 &&& (9223372036854775807 : Int64)).toUInt64 >>> ((p2 &&& (63 : Int32)) &&& 0x3f).toInt64.toUInt64).toInt64)), .second, .val (.int (Int32.ofNat r)), .val (.int (1 : Int32)), .val (.int (1 : Int32))] [])) _
        refine XS.iload X24.here hx rfl (hb hby at_256) rfl ?_
        show Steps p.tables e below (T24.setTop (mkF m 258 #[.val (.long q1), .second, .val (.int p2), .val (.int p3), .val (.ref b4), .val (.long (((q1 &&& (9223372036854775807 : Int64)).toUInt64 >>> ((p2 &&& (63 : Int32)) &&& 0x3f).toInt64.toUInt64).toInt64)), .second, .val (.int (Int32.ofNat r)), .val (.int (1 : Int32)), .val (.int (1 : Int32))] [(.int (1 : Int32))])) _
        have hc258 : ¬ ((1 : Int32) = (0 : Int32)) := by decide
        refine XS.ifNo X24.here hx rfl (hb hby at_258) rfl ((if0 _ _).trans (feq hc258).1) ?_
        show Steps p.tables e below (T24.setTop (mkF m 261 #[.val (.long q1), .second, .val (.int p2), .val (.int p3), .val (.ref b4), .val (.long (((q1 &&& (9223372036854775807 : Int64)).toUInt64 >>> ((p2 &&& (63 : Int32)) &&& 0x3f).toInt64.toUInt64).toInt64)), .second, .val (.int (Int32.ofNat r)), .val (.int (1 : Int32)), .val (.int (1 : Int32))] [])) _
        refine XS.iload X24.here hx rfl (hb hby at_261) rfl ?_
        show Steps p.tables e below (T24.setTop (mkF m 263 #[.val (.long q1), .second, .val (.int p2), .val (.int p3), .val (.ref b4), .val (.long (((q1 &&& (9223372036854775807 : Int64)).toUInt64 >>> ((p2 &&& (63 : Int32)) &&& 0x3f).toInt64.toUInt64).toInt64)), .second, .val (.int (Int32.ofNat r)), .val (.int (1 : Int32)), .val (.int (1 : Int32))] [(.int (1 : Int32))])) _
        have hc263 : ¬ ((1 : Int32) = (0 : Int32)) := by decide
        refine XS.ifNo X24.here hx rfl (hb hby at_263) rfl ((if0 _ _).trans (feq hc263).1) ?_
        show Steps p.tables e below (T24.setTop (mkF m 266 #[.val (.long q1), .second, .val (.int p2), .val (.int p3), .val (.ref b4), .val (.long (((q1 &&& (9223372036854775807 : Int64)).toUInt64 >>> ((p2 &&& (63 : Int32)) &&& 0x3f).toInt64.toUInt64).toInt64)), .second, .val (.int (Int32.ofNat r)), .val (.int (1 : Int32)), .val (.int (1 : Int32))] [])) _
        refine XS.iconst X24.here hx rfl (hb hby at_266) ?_
        show Steps p.tables e below (T24.setTop (mkF m 267 #[.val (.long q1), .second, .val (.int p2), .val (.int p3), .val (.ref b4), .val (.long (((q1 &&& (9223372036854775807 : Int64)).toUInt64 >>> ((p2 &&& (63 : Int32)) &&& 0x3f).toInt64.toUInt64).toInt64)), .second, .val (.int (Int32.ofNat r)), .val (.int (1 : Int32)), .val (.int (1 : Int32))] [(.int (1 : Int32))])) _
        refine XS.goto X24.here hx rfl (pc0 := 267) (pc' := 271) rfl (hb hby at_267) (by decide) (by decide) ?_
        show Steps p.tables e below (T24.setTop (mkF m 271 #[.val (.long q1), .second, .val (.int p2), .val (.int p3), .val (.ref b4), .val (.long (((q1 &&& (9223372036854775807 : Int64)).toUInt64 >>> ((p2 &&& (63 : Int32)) &&& 0x3f).toInt64.toUInt64).toInt64)), .second, .val (.int (Int32.ofNat r)), .val (.int (1 : Int32)), .val (.int (1 : Int32))] [(.int (1 : Int32))])) _
        exact retN X24 hx (t := .boolean) Bd.returns (by simp) (hb hby at_271) hr
    · refine XS.icmpNo X24.here hx rfl (hb hby at_208) rfl (feq hc208).1 ?_
      show Steps p.tables e below (T24.setTop (mkF m 211 #[.val (.long q1), .second, .val (.int p2), .val (.int p3), .val (.ref b4), .val (.long (((q1 &&& (9223372036854775807 : Int64)).toUInt64 >>> ((p2 &&& (63 : Int32)) &&& 0x3f).toInt64.toUInt64).toInt64)), .second, .val (.int (Int32.ofNat r)), .unset, .unset] [])) _
      refine XS.lload X24.here hx rfl (hb hby at_211) rfl ?_
      show Steps p.tables e below (T24.setTop (mkF m 213 #[.val (.long q1), .second, .val (.int p2), .val (.int p3), .val (.ref b4), .val (.long (((q1 &&& (9223372036854775807 : Int64)).toUInt64 >>> ((p2 &&& (63 : Int32)) &&& 0x3f).toInt64.toUInt64).toInt64)), .second, .val (.int (Int32.ofNat r)), .unset, .unset] [(.long (((q1 &&& (9223372036854775807 : Int64)).toUInt64 >>> ((p2 &&& (63 : Int32)) &&& 0x3f).toInt64.toUInt64).toInt64))])) _
      refine XS.aload X24.here hx rfl (hb hby at_213) rfl rfl ?_
      show Steps p.tables e below (T24.setTop (mkF m 215 #[.val (.long q1), .second, .val (.int p2), .val (.int p3), .val (.ref b4), .val (.long (((q1 &&& (9223372036854775807 : Int64)).toUInt64 >>> ((p2 &&& (63 : Int32)) &&& 0x3f).toInt64.toUInt64).toInt64)), .second, .val (.int (Int32.ofNat r)), .unset, .unset] [(.ref b4), (.long (((q1 &&& (9223372036854775807 : Int64)).toUInt64 >>> ((p2 &&& (63 : Int32)) &&& 0x3f).toInt64.toUInt64).toInt64))])) _
      refine XS.iload X24.here hx rfl (hb hby at_215) rfl ?_
      show Steps p.tables e below (T24.setTop (mkF m 217 #[.val (.long q1), .second, .val (.int p2), .val (.int p3), .val (.ref b4), .val (.long (((q1 &&& (9223372036854775807 : Int64)).toUInt64 >>> ((p2 &&& (63 : Int32)) &&& 0x3f).toInt64.toUInt64).toInt64)), .second, .val (.int (Int32.ofNat r)), .unset, .unset] [(.int (Int32.ofNat r)), (.ref b4), (.long (((q1 &&& (9223372036854775807 : Int64)).toUInt64 >>> ((p2 &&& (63 : Int32)) &&& 0x3f).toInt64.toUInt64).toInt64))])) _
      refine XS.iconst X24.here hx rfl (hb hby at_217) ?_
      show Steps p.tables e below (T24.setTop (mkF m 218 #[.val (.long q1), .second, .val (.int p2), .val (.int p3), .val (.ref b4), .val (.long (((q1 &&& (9223372036854775807 : Int64)).toUInt64 >>> ((p2 &&& (63 : Int32)) &&& 0x3f).toInt64.toUInt64).toInt64)), .second, .val (.int (Int32.ofNat r)), .unset, .unset] [(.int (1 : Int32)), (.int (Int32.ofNat r)), (.ref b4), (.long (((q1 &&& (9223372036854775807 : Int64)).toUInt64 >>> ((p2 &&& (63 : Int32)) &&& 0x3f).toInt64.toUInt64).toInt64))])) _
      refine XS.isub X24.here hx rfl (hb hby at_218) rfl ?_
      show Steps p.tables e below (T24.setTop (mkF m 219 #[.val (.long q1), .second, .val (.int p2), .val (.int p3), .val (.ref b4), .val (.long (((q1 &&& (9223372036854775807 : Int64)).toUInt64 >>> ((p2 &&& (63 : Int32)) &&& 0x3f).toInt64.toUInt64).toInt64)), .second, .val (.int (Int32.ofNat r)), .unset, .unset] [(.int ((Int32.ofNat r) - (1 : Int32))), (.ref b4), (.long (((q1 &&& (9223372036854775807 : Int64)).toUInt64 >>> ((p2 &&& (63 : Int32)) &&& 0x3f).toInt64.toUInt64).toInt64))])) _
      have hat219 : cl.slots[(Int32.ofNat r - (1 : Int32)).toNatClampNeg]? = some (.long (own_pw (r - 1))) := own_ld S_b4 H_b4 (own_dec hdig.1 hdig.2.1) (by have := hdig.2.1; have := hdig.1; omega)
      have hin219 : ¬ ((Int32.ofNat r - (1 : Int32)) < 0 ∨ cl.slots.size ≤ (Int32.ofNat r - (1 : Int32)).toNatClampNeg) := own_in S_b4 (own_dec hdig.1 hdig.2.1) (by have := hdig.2.1; have := hdig.1; omega)
      refine X24.laload hx (j := ((Int32.ofNat r) - (1 : Int32))) (v := (.long (own_pw (r - 1)))) (by exact Ar_b4.1) (State.isArrayOf_alike hZ.alike Ar_b4.2.1) Ar_b4.2.2 hin219 hat219 (g := (mkF m 219 #[.val (.long q1), .second, .val (.int p2), .val (.int p3), .val (.ref b4), .val (.long (((q1 &&& (9223372036854775807 : Int64)).toUInt64 >>> ((p2 &&& (63 : Int32)) &&& 0x3f).toInt64.toUInt64).toInt64)), .second, .val (.int (Int32.ofNat r)), .unset, .unset] [(.int ((Int32.ofNat r) - (1 : Int32))), (.ref b4), (.long (((q1 &&& (9223372036854775807 : Int64)).toUInt64 >>> ((p2 &&& (63 : Int32)) &&& 0x3f).toInt64.toUInt64).toInt64))])) rfl rfl (hb hby at_219) _ ?_
      show Steps p.tables e below (T24.setTop (mkF m 220 #[.val (.long q1), .second, .val (.int p2), .val (.int p3), .val (.ref b4), .val (.long (((q1 &&& (9223372036854775807 : Int64)).toUInt64 >>> ((p2 &&& (63 : Int32)) &&& 0x3f).toInt64.toUInt64).toInt64)), .second, .val (.int (Int32.ofNat r)), .unset, .unset] [(.long (own_pw (r - 1))), (.long (((q1 &&& (9223372036854775807 : Int64)).toUInt64 >>> ((p2 &&& (63 : Int32)) &&& 0x3f).toInt64.toUInt64).toInt64))])) _
      refine XS.lcmp X24.here hx rfl (hb hby at_220) rfl ?_
      show Steps p.tables e below (T24.setTop (mkF m 221 #[.val (.long q1), .second, .val (.int p2), .val (.int p3), .val (.ref b4), .val (.long (((q1 &&& (9223372036854775807 : Int64)).toUInt64 >>> ((p2 &&& (63 : Int32)) &&& 0x3f).toInt64.toUInt64).toInt64)), .second, .val (.int (Int32.ofNat r)), .unset, .unset] [(.int (lcmpW (((q1 &&& (9223372036854775807 : Int64)).toUInt64 >>> ((p2 &&& (63 : Int32)) &&& 0x3f).toInt64.toUInt64).toInt64) (own_pw (r - 1))))])) _
      have hc221 : ¬ ((lcmpW (((q1 &&& (9223372036854775807 : Int64)).toUInt64 >>> ((p2 &&& (63 : Int32)) &&& 0x3f).toInt64.toUInt64).toInt64) (own_pw (r - 1))) < (0 : Int32)) := own_low hdig hc208
      refine XS.ifNo X24.here hx rfl (hb hby at_221) rfl ((if0 _ _).trans (flt hc221).1) ?_
      show Steps p.tables e below (T24.setTop (mkF m 224 #[.val (.long q1), .second, .val (.int p2), .val (.int p3), .val (.ref b4), .val (.long (((q1 &&& (9223372036854775807 : Int64)).toUInt64 >>> ((p2 &&& (63 : Int32)) &&& 0x3f).toInt64.toUInt64).toInt64)), .second, .val (.int (Int32.ofNat r)), .unset, .unset] [])) _
      refine XS.iconst X24.here hx rfl (hb hby at_224) ?_
      show Steps p.tables e below (T24.setTop (mkF m 225 #[.val (.long q1), .second, .val (.int p2), .val (.int p3), .val (.ref b4), .val (.long (((q1 &&& (9223372036854775807 : Int64)).toUInt64 >>> ((p2 &&& (63 : Int32)) &&& 0x3f).toInt64.toUInt64).toInt64)), .second, .val (.int (Int32.ofNat r)), .unset, .unset] [(.int (1 : Int32))])) _
      refine XS.goto X24.here hx rfl (pc0 := 225) (pc' := 229) rfl (hb hby at_225) (by decide) (by decide) ?_
      show Steps p.tables e below (T24.setTop (mkF m 229 #[.val (.long q1), .second, .val (.int p2), .val (.int p3), .val (.ref b4), .val (.long (((q1 &&& (9223372036854775807 : Int64)).toUInt64 >>> ((p2 &&& (63 : Int32)) &&& 0x3f).toInt64.toUInt64).toInt64)), .second, .val (.int (Int32.ofNat r)), .unset, .unset] [(.int (1 : Int32))])) _
      refine XS.istore X24.here hx rfl (hb hby at_229) rfl (l' := #[.val (.long q1), .second, .val (.int p2), .val (.int p3), .val (.ref b4), .val (.long (((q1 &&& (9223372036854775807 : Int64)).toUInt64 >>> ((p2 &&& (63 : Int32)) &&& 0x3f).toInt64.toUInt64).toInt64)), .second, .val (.int (Int32.ofNat r)), .val (.int (1 : Int32)), .unset]) rfl ?_
      show Steps p.tables e below (T24.setTop (mkF m 231 #[.val (.long q1), .second, .val (.int p2), .val (.int p3), .val (.ref b4), .val (.long (((q1 &&& (9223372036854775807 : Int64)).toUInt64 >>> ((p2 &&& (63 : Int32)) &&& 0x3f).toInt64.toUInt64).toInt64)), .second, .val (.int (Int32.ofNat r)), .val (.int (1 : Int32)), .unset] [])) _
      refine XS.iload X24.here hx rfl (hb hby at_231) rfl ?_
      show Steps p.tables e below (T24.setTop (mkF m 233 #[.val (.long q1), .second, .val (.int p2), .val (.int p3), .val (.ref b4), .val (.long (((q1 &&& (9223372036854775807 : Int64)).toUInt64 >>> ((p2 &&& (63 : Int32)) &&& 0x3f).toInt64.toUInt64).toInt64)), .second, .val (.int (Int32.ofNat r)), .val (.int (1 : Int32)), .unset] [(.int (Int32.ofNat r))])) _
      refine XS.bipush X24.here hx rfl (hb hby at_233) ?_
      show Steps p.tables e below (T24.setTop (mkF m 235 #[.val (.long q1), .second, .val (.int p2), .val (.int p3), .val (.ref b4), .val (.long (((q1 &&& (9223372036854775807 : Int64)).toUInt64 >>> ((p2 &&& (63 : Int32)) &&& 0x3f).toInt64.toUInt64).toInt64)), .second, .val (.int (Int32.ofNat r)), .val (.int (1 : Int32)), .unset] [(.int (19 : Int32)), (.int (Int32.ofNat r))])) _
      by_cases hc235 : (Int32.ofNat r) = (19 : Int32)
      · refine XS.icmpYes X24.here hx rfl (pc0 := 235) (pc' := 249) rfl (hb hby at_235) rfl (teq hc235).1 (by decide) (by decide) ?_
        show Steps p.tables e below (T24.setTop (mkF m 249 #[.val (.long q1), .second, .val (.int p2), .val (.int p3), .val (.ref b4), .val (.long (((q1 &&& (9223372036854775807 : Int64)).toUInt64 >>> ((p2 &&& (63 : Int32)) &&& 0x3f).toInt64.toUInt64).toInt64)), .second, .val (.int (Int32.ofNat r)), .val (.int (1 : Int32)), .unset] [])) _
        refine XS.iconst X24.here hx rfl (hb hby at_249) ?_
        show Steps p.tables e below (T24.setTop (mkF m 250 #[.val (.long q1), .second, .val (.int p2), .val (.int p3), .val (.ref b4), .val (.long (((q1 &&& (9223372036854775807 : Int64)).toUInt64 >>> ((p2 &&& (63 : Int32)) &&& 0x3f).toInt64.toUInt64).toInt64)), .second, .val (.int (Int32.ofNat r)), .val (.int (1 : Int32)), .unset] [(.int (1 : Int32))])) _
        refine XS.goto X24.here hx rfl (pc0 := 250) (pc' := 254) rfl (hb hby at_250) (by decide) (by decide) ?_
        show Steps p.tables e below (T24.setTop (mkF m 254 #[.val (.long q1), .second, .val (.int p2), .val (.int p3), .val (.ref b4), .val (.long (((q1 &&& (9223372036854775807 : Int64)).toUInt64 >>> ((p2 &&& (63 : Int32)) &&& 0x3f).toInt64.toUInt64).toInt64)), .second, .val (.int (Int32.ofNat r)), .val (.int (1 : Int32)), .unset] [(.int (1 : Int32))])) _
        refine XS.istore X24.here hx rfl (hb hby at_254) rfl (l' := #[.val (.long q1), .second, .val (.int p2), .val (.int p3), .val (.ref b4), .val (.long (((q1 &&& (9223372036854775807 : Int64)).toUInt64 >>> ((p2 &&& (63 : Int32)) &&& 0x3f).toInt64.toUInt64).toInt64)), .second, .val (.int (Int32.ofNat r)), .val (.int (1 : Int32)), .val (.int (1 : Int32))]) rfl ?_
        show Steps p.tables e below (T24.setTop (mkF m 256 #[.val (.long q1), .second, .val (.int p2), .val (.int p3), .val (.ref b4), .val (.long (((q1 &&& (9223372036854775807 : Int64)).toUInt64 >>> ((p2 &&& (63 : Int32)) &&& 0x3f).toInt64.toUInt64).toInt64)), .second, .val (.int (Int32.ofNat r)), .val (.int (1 : Int32)), .val (.int (1 : Int32))] [])) _
        refine XS.iload X24.here hx rfl (hb hby at_256) rfl ?_
        show Steps p.tables e below (T24.setTop (mkF m 258 #[.val (.long q1), .second, .val (.int p2), .val (.int p3), .val (.ref b4), .val (.long (((q1 &&& (9223372036854775807 : Int64)).toUInt64 >>> ((p2 &&& (63 : Int32)) &&& 0x3f).toInt64.toUInt64).toInt64)), .second, .val (.int (Int32.ofNat r)), .val (.int (1 : Int32)), .val (.int (1 : Int32))] [(.int (1 : Int32))])) _
        have hc258 : ¬ ((1 : Int32) = (0 : Int32)) := by decide
        refine XS.ifNo X24.here hx rfl (hb hby at_258) rfl ((if0 _ _).trans (feq hc258).1) ?_
        show Steps p.tables e below (T24.setTop (mkF m 261 #[.val (.long q1), .second, .val (.int p2), .val (.int p3), .val (.ref b4), .val (.long (((q1 &&& (9223372036854775807 : Int64)).toUInt64 >>> ((p2 &&& (63 : Int32)) &&& 0x3f).toInt64.toUInt64).toInt64)), .second, .val (.int (Int32.ofNat r)), .val (.int (1 : Int32)), .val (.int (1 : Int32))] [])) _
        refine XS.iload X24.here hx rfl (hb hby at_261) rfl ?_
        show Steps p.tables e below (T24.setTop (mkF m 263 #[.val (.long q1), .second, .val (.int p2), .val (.int p3), .val (.ref b4), .val (.long (((q1 &&& (9223372036854775807 : Int64)).toUInt64 >>> ((p2 &&& (63 : Int32)) &&& 0x3f).toInt64.toUInt64).toInt64)), .second, .val (.int (Int32.ofNat r)), .val (.int (1 : Int32)), .val (.int (1 : Int32))] [(.int (1 : Int32))])) _
        have hc263 : ¬ ((1 : Int32) = (0 : Int32)) := by decide
        refine XS.ifNo X24.here hx rfl (hb hby at_263) rfl ((if0 _ _).trans (feq hc263).1) ?_
        show Steps p.tables e below (T24.setTop (mkF m 266 #[.val (.long q1), .second, .val (.int p2), .val (.int p3), .val (.ref b4), .val (.long (((q1 &&& (9223372036854775807 : Int64)).toUInt64 >>> ((p2 &&& (63 : Int32)) &&& 0x3f).toInt64.toUInt64).toInt64)), .second, .val (.int (Int32.ofNat r)), .val (.int (1 : Int32)), .val (.int (1 : Int32))] [])) _
        refine XS.iconst X24.here hx rfl (hb hby at_266) ?_
        show Steps p.tables e below (T24.setTop (mkF m 267 #[.val (.long q1), .second, .val (.int p2), .val (.int p3), .val (.ref b4), .val (.long (((q1 &&& (9223372036854775807 : Int64)).toUInt64 >>> ((p2 &&& (63 : Int32)) &&& 0x3f).toInt64.toUInt64).toInt64)), .second, .val (.int (Int32.ofNat r)), .val (.int (1 : Int32)), .val (.int (1 : Int32))] [(.int (1 : Int32))])) _
        refine XS.goto X24.here hx rfl (pc0 := 267) (pc' := 271) rfl (hb hby at_267) (by decide) (by decide) ?_
        show Steps p.tables e below (T24.setTop (mkF m 271 #[.val (.long q1), .second, .val (.int p2), .val (.int p3), .val (.ref b4), .val (.long (((q1 &&& (9223372036854775807 : Int64)).toUInt64 >>> ((p2 &&& (63 : Int32)) &&& 0x3f).toInt64.toUInt64).toInt64)), .second, .val (.int (Int32.ofNat r)), .val (.int (1 : Int32)), .val (.int (1 : Int32))] [(.int (1 : Int32))])) _
        exact retN X24 hx (t := .boolean) Bd.returns (by simp) (hb hby at_271) hr
      · refine XS.icmpNo X24.here hx rfl (hb hby at_235) rfl (feq hc235).1 ?_
        show Steps p.tables e below (T24.setTop (mkF m 238 #[.val (.long q1), .second, .val (.int p2), .val (.int p3), .val (.ref b4), .val (.long (((q1 &&& (9223372036854775807 : Int64)).toUInt64 >>> ((p2 &&& (63 : Int32)) &&& 0x3f).toInt64.toUInt64).toInt64)), .second, .val (.int (Int32.ofNat r)), .val (.int (1 : Int32)), .unset] [])) _
        refine XS.lload X24.here hx rfl (hb hby at_238) rfl ?_
        show Steps p.tables e below (T24.setTop (mkF m 240 #[.val (.long q1), .second, .val (.int p2), .val (.int p3), .val (.ref b4), .val (.long (((q1 &&& (9223372036854775807 : Int64)).toUInt64 >>> ((p2 &&& (63 : Int32)) &&& 0x3f).toInt64.toUInt64).toInt64)), .second, .val (.int (Int32.ofNat r)), .val (.int (1 : Int32)), .unset] [(.long (((q1 &&& (9223372036854775807 : Int64)).toUInt64 >>> ((p2 &&& (63 : Int32)) &&& 0x3f).toInt64.toUInt64).toInt64))])) _
        refine XS.aload X24.here hx rfl (hb hby at_240) rfl rfl ?_
        show Steps p.tables e below (T24.setTop (mkF m 242 #[.val (.long q1), .second, .val (.int p2), .val (.int p3), .val (.ref b4), .val (.long (((q1 &&& (9223372036854775807 : Int64)).toUInt64 >>> ((p2 &&& (63 : Int32)) &&& 0x3f).toInt64.toUInt64).toInt64)), .second, .val (.int (Int32.ofNat r)), .val (.int (1 : Int32)), .unset] [(.ref b4), (.long (((q1 &&& (9223372036854775807 : Int64)).toUInt64 >>> ((p2 &&& (63 : Int32)) &&& 0x3f).toInt64.toUInt64).toInt64))])) _
        refine XS.iload X24.here hx rfl (hb hby at_242) rfl ?_
        show Steps p.tables e below (T24.setTop (mkF m 244 #[.val (.long q1), .second, .val (.int p2), .val (.int p3), .val (.ref b4), .val (.long (((q1 &&& (9223372036854775807 : Int64)).toUInt64 >>> ((p2 &&& (63 : Int32)) &&& 0x3f).toInt64.toUInt64).toInt64)), .second, .val (.int (Int32.ofNat r)), .val (.int (1 : Int32)), .unset] [(.int (Int32.ofNat r)), (.ref b4), (.long (((q1 &&& (9223372036854775807 : Int64)).toUInt64 >>> ((p2 &&& (63 : Int32)) &&& 0x3f).toInt64.toUInt64).toInt64))])) _
        have hat244 : cl.slots[(Int32.ofNat r).toNatClampNeg]? = some (.long (own_pw r)) := own_ld S_b4 H_b4 (own_i hdig.2.1) (own_ne19 hdig.2.1 hc235)
        have hin244 : ¬ ((Int32.ofNat r) < 0 ∨ cl.slots.size ≤ (Int32.ofNat r).toNatClampNeg) := own_in S_b4 (own_i hdig.2.1) (own_ne19 hdig.2.1 hc235)
        refine X24.laload hx (j := (Int32.ofNat r)) (v := (.long (own_pw r))) (by exact Ar_b4.1) (State.isArrayOf_alike hZ.alike Ar_b4.2.1) Ar_b4.2.2 hin244 hat244 (g := (mkF m 244 #[.val (.long q1), .second, .val (.int p2), .val (.int p3), .val (.ref b4), .val (.long (((q1 &&& (9223372036854775807 : Int64)).toUInt64 >>> ((p2 &&& (63 : Int32)) &&& 0x3f).toInt64.toUInt64).toInt64)), .second, .val (.int (Int32.ofNat r)), .val (.int (1 : Int32)), .unset] [(.int (Int32.ofNat r)), (.ref b4), (.long (((q1 &&& (9223372036854775807 : Int64)).toUInt64 >>> ((p2 &&& (63 : Int32)) &&& 0x3f).toInt64.toUInt64).toInt64))])) rfl rfl (hb hby at_244) _ ?_
        show Steps p.tables e below (T24.setTop (mkF m 245 #[.val (.long q1), .second, .val (.int p2), .val (.int p3), .val (.ref b4), .val (.long (((q1 &&& (9223372036854775807 : Int64)).toUInt64 >>> ((p2 &&& (63 : Int32)) &&& 0x3f).toInt64.toUInt64).toInt64)), .second, .val (.int (Int32.ofNat r)), .val (.int (1 : Int32)), .unset] [(.long (own_pw r)), (.long (((q1 &&& (9223372036854775807 : Int64)).toUInt64 >>> ((p2 &&& (63 : Int32)) &&& 0x3f).toInt64.toUInt64).toInt64))])) _
        refine XS.lcmp X24.here hx rfl (hb hby at_245) rfl ?_
        show Steps p.tables e below (T24.setTop (mkF m 246 #[.val (.long q1), .second, .val (.int p2), .val (.int p3), .val (.ref b4), .val (.long (((q1 &&& (9223372036854775807 : Int64)).toUInt64 >>> ((p2 &&& (63 : Int32)) &&& 0x3f).toInt64.toUInt64).toInt64)), .second, .val (.int (Int32.ofNat r)), .val (.int (1 : Int32)), .unset] [(.int (lcmpW (((q1 &&& (9223372036854775807 : Int64)).toUInt64 >>> ((p2 &&& (63 : Int32)) &&& 0x3f).toInt64.toUInt64).toInt64) (own_pw r)))])) _
        have hc246 : (lcmpW (((q1 &&& (9223372036854775807 : Int64)).toUInt64 >>> ((p2 &&& (63 : Int32)) &&& 0x3f).toInt64.toUInt64).toInt64) (own_pw r)) < (0 : Int32) := own_high hdig hc235
        refine XS.ifNo X24.here hx rfl (hb hby at_246) rfl ((if0 _ _).trans (tlt hc246).2.1) ?_
        show Steps p.tables e below (T24.setTop (mkF m 249 #[.val (.long q1), .second, .val (.int p2), .val (.int p3), .val (.ref b4), .val (.long (((q1 &&& (9223372036854775807 : Int64)).toUInt64 >>> ((p2 &&& (63 : Int32)) &&& 0x3f).toInt64.toUInt64).toInt64)), .second, .val (.int (Int32.ofNat r)), .val (.int (1 : Int32)), .unset] [])) _
        refine XS.iconst X24.here hx rfl (hb hby at_249) ?_
        show Steps p.tables e below (T24.setTop (mkF m 250 #[.val (.long q1), .second, .val (.int p2), .val (.int p3), .val (.ref b4), .val (.long (((q1 &&& (9223372036854775807 : Int64)).toUInt64 >>> ((p2 &&& (63 : Int32)) &&& 0x3f).toInt64.toUInt64).toInt64)), .second, .val (.int (Int32.ofNat r)), .val (.int (1 : Int32)), .unset] [(.int (1 : Int32))])) _
        refine XS.goto X24.here hx rfl (pc0 := 250) (pc' := 254) rfl (hb hby at_250) (by decide) (by decide) ?_
        show Steps p.tables e below (T24.setTop (mkF m 254 #[.val (.long q1), .second, .val (.int p2), .val (.int p3), .val (.ref b4), .val (.long (((q1 &&& (9223372036854775807 : Int64)).toUInt64 >>> ((p2 &&& (63 : Int32)) &&& 0x3f).toInt64.toUInt64).toInt64)), .second, .val (.int (Int32.ofNat r)), .val (.int (1 : Int32)), .unset] [(.int (1 : Int32))])) _
        refine XS.istore X24.here hx rfl (hb hby at_254) rfl (l' := #[.val (.long q1), .second, .val (.int p2), .val (.int p3), .val (.ref b4), .val (.long (((q1 &&& (9223372036854775807 : Int64)).toUInt64 >>> ((p2 &&& (63 : Int32)) &&& 0x3f).toInt64.toUInt64).toInt64)), .second, .val (.int (Int32.ofNat r)), .val (.int (1 : Int32)), .val (.int (1 : Int32))]) rfl ?_
        show Steps p.tables e below (T24.setTop (mkF m 256 #[.val (.long q1), .second, .val (.int p2), .val (.int p3), .val (.ref b4), .val (.long (((q1 &&& (9223372036854775807 : Int64)).toUInt64 >>> ((p2 &&& (63 : Int32)) &&& 0x3f).toInt64.toUInt64).toInt64)), .second, .val (.int (Int32.ofNat r)), .val (.int (1 : Int32)), .val (.int (1 : Int32))] [])) _
        refine XS.iload X24.here hx rfl (hb hby at_256) rfl ?_
        show Steps p.tables e below (T24.setTop (mkF m 258 #[.val (.long q1), .second, .val (.int p2), .val (.int p3), .val (.ref b4), .val (.long (((q1 &&& (9223372036854775807 : Int64)).toUInt64 >>> ((p2 &&& (63 : Int32)) &&& 0x3f).toInt64.toUInt64).toInt64)), .second, .val (.int (Int32.ofNat r)), .val (.int (1 : Int32)), .val (.int (1 : Int32))] [(.int (1 : Int32))])) _
        have hc258 : ¬ ((1 : Int32) = (0 : Int32)) := by decide
        refine XS.ifNo X24.here hx rfl (hb hby at_258) rfl ((if0 _ _).trans (feq hc258).1) ?_
        show Steps p.tables e below (T24.setTop (mkF m 261 #[.val (.long q1), .second, .val (.int p2), .val (.int p3), .val (.ref b4), .val (.long (((q1 &&& (9223372036854775807 : Int64)).toUInt64 >>> ((p2 &&& (63 : Int32)) &&& 0x3f).toInt64.toUInt64).toInt64)), .second, .val (.int (Int32.ofNat r)), .val (.int (1 : Int32)), .val (.int (1 : Int32))] [])) _
        refine XS.iload X24.here hx rfl (hb hby at_261) rfl ?_
        show Steps p.tables e below (T24.setTop (mkF m 263 #[.val (.long q1), .second, .val (.int p2), .val (.int p3), .val (.ref b4), .val (.long (((q1 &&& (9223372036854775807 : Int64)).toUInt64 >>> ((p2 &&& (63 : Int32)) &&& 0x3f).toInt64.toUInt64).toInt64)), .second, .val (.int (Int32.ofNat r)), .val (.int (1 : Int32)), .val (.int (1 : Int32))] [(.int (1 : Int32))])) _
        have hc263 : ¬ ((1 : Int32) = (0 : Int32)) := by decide
        refine XS.ifNo X24.here hx rfl (hb hby at_263) rfl ((if0 _ _).trans (feq hc263).1) ?_
        show Steps p.tables e below (T24.setTop (mkF m 266 #[.val (.long q1), .second, .val (.int p2), .val (.int p3), .val (.ref b4), .val (.long (((q1 &&& (9223372036854775807 : Int64)).toUInt64 >>> ((p2 &&& (63 : Int32)) &&& 0x3f).toInt64.toUInt64).toInt64)), .second, .val (.int (Int32.ofNat r)), .val (.int (1 : Int32)), .val (.int (1 : Int32))] [])) _
        refine XS.iconst X24.here hx rfl (hb hby at_266) ?_
        show Steps p.tables e below (T24.setTop (mkF m 267 #[.val (.long q1), .second, .val (.int p2), .val (.int p3), .val (.ref b4), .val (.long (((q1 &&& (9223372036854775807 : Int64)).toUInt64 >>> ((p2 &&& (63 : Int32)) &&& 0x3f).toInt64.toUInt64).toInt64)), .second, .val (.int (Int32.ofNat r)), .val (.int (1 : Int32)), .val (.int (1 : Int32))] [(.int (1 : Int32))])) _
        refine XS.goto X24.here hx rfl (pc0 := 267) (pc' := 271) rfl (hb hby at_267) (by decide) (by decide) ?_
        show Steps p.tables e below (T24.setTop (mkF m 271 #[.val (.long q1), .second, .val (.int p2), .val (.int p3), .val (.ref b4), .val (.long (((q1 &&& (9223372036854775807 : Int64)).toUInt64 >>> ((p2 &&& (63 : Int32)) &&& 0x3f).toInt64.toUInt64).toInt64)), .second, .val (.int (Int32.ofNat r)), .val (.int (1 : Int32)), .val (.int (1 : Int32))] [(.int (1 : Int32))])) _
        exact retN X24 hx (t := .boolean) Bd.returns (by simp) (hb hby at_271) hr
  · show Q0 Z q1 p2 p3 h0 n0 _ T24.heap _
    exact ⟨rfl, N24⟩
theorem rm0 (l : Launch) (Z : State) (a0 : Array Value) (hw : ∀ d ∈ tables_1, d.before a0 Z = true) (ws : List Jvm.Cond) (q1 : Int64) (p2 : Int32) (p3 : Int32) (h0 : Heap) (n0 : Nat) (Z0 : n0 ≤ h0.size) :
    MetFree l x (head1 (Jvm.Cond.code x code maxLocals ret :: ws) room_1) (fun a U => a = #[(.long q1), (.int p2), (.int p3)] ∧ Z.Warmed39 U.vm ∧ U.heap = h0) (fun _ _ _ _ _ => True) (fun _ U o U' => ∃ v L, o = .returned v ∧ Q0 Z q1 p2 p3 h0 n0 v U'.heap L ∧ FrameEnd U o U' L room_1.cells room_1.slots) := by
  by_cases hc134 : (p3 &&& (1 : Int32)) = (0 : Int32)
  · exact rm0b l Z a0 hw ws q1 p2 p3 h0 n0 Z0 hc134
  · exact rm0a l Z a0 hw ws q1 p2 p3 h0 n0 Z0 hc134
-- 5. FROM THE CASE'S WORDS TO rm0, AND THE OWED THEOREMS
set_option maxRecDepth 65536 in
set_option maxHeartbeats 40000000 in
theorem comes_1 {Post : Tables → Env → Array Value → State → Outcome → State → Prop} (hpost : ∀ tb e args s v u, (limb_1_1.after args s (.returned v) u = true ∧ limb_1_2.after args s (.returned v) u = true ∧ True) → FrameEnd s (.returned v) u (Jvm.fieldLocs frame_1_writes args s ++ Jvm.arrayLocs frame_1_arrays args s ++ Jvm.staticLocs frame_1_statics s) 16 128 → Post tb e args s (.returned v) u) :
    ArmFor flags0 classFile x code maxLocals ret World_1 tables_1 room_1 Calls_1 rest_1 Pre_1 Post := by
  intro l hfl _ _ p e ha hc hk s m args below hf hA hF happ hP
  obtain ⟨hcalls, hrest, hpre⟩ := hP
  obtain ⟨-, -, -, hnamed, -, -, -, hat⟩ := (Spec.applies_iff hf).mp happ
  obtain ⟨hg, hn⟩ := and_e (Cond.before_iff.mp (show (Jvm.Cond.and given_1 narrow_1).before args s = true from hpre))
  obtain ⟨g25, g26⟩ := and_e hg
  obtain ⟨g27, g28⟩ := and_e g26
  obtain ⟨g29, g30⟩ := and_e g28
  obtain ⟨w0, w1, w2, rfl⟩ : ∃ w0 w1 w2 : Value, args = #[w0, w1, w2] := by
    have hs : args.size = 3 := by simpa [Cond.value, given_1] using g25
    obtain ⟨L⟩ := args
    match L, hs with
    | [w0, w1, w2], _ => exact ⟨w0, w1, w2, rfl⟩
  have hw := fun d (hd : d ∈ tables_1) => atoms_spec (ws := Jvm.Cond.code x code maxLocals ret :: tables_1) hat d (List.mem_cons_of_mem _ hd)
  have hfit : Fit s := fun {y c} hc i hi => by
    obtain ⟨ha, rfl⟩ := Array.getElem?_eq_some_iff.mp hc
    have q := List.all_eq_true.mp ((Array.all_eq_true_iff_forall_mem.mp hF) _ (Array.getElem_mem ha)) i (List.mem_range.mpr hi)
    simpa [Array.getElem?_eq_getElem hi] using q
  obtain ⟨i0, ei0⟩ := isL_v g27
  obtain rfl : w0 = (.long i0) := Option.some.inj ei0
  obtain ⟨i1, ei1⟩ := is_v g29
  obtain rfl : w1 = (.int i1) := Option.some.inj ei1
  obtain ⟨i2, ei2⟩ := is_v g30
  obtain rfl : w2 = (.int i2) := Option.some.inj ei2
  obtain ⟨n, o, h1, h2, h3, _, L, rfl, ⟨rfl, N⟩, hq⟩ := rm0 l s _ hw tables_1 i0 i1 i2 s.heap s.heap.size (Nat.le_refl _) p e ha hc hk s m _ below hf ((Spec.applies_iff_loose hf).mp happ).1 ⟨rfl, State.Warmed39.refl s, rfl⟩ trivial
  refine ⟨n, _, h1, h2, h3, hpost _ _ _ _ _ _ ⟨Cond.after_iff.mpr rfl, Cond.after_iff.mpr (eq_i res_at (Term.int_eval (1)) rfl), trivial⟩ ⟨hq.1, hq.2.1, (hq.2.2.sift fun y hy => Or.inr (N y hy)).mono (by decide) (by decide)⟩⟩
theorem main_1_1 : Claimed_1_1 := comes_1 fun _ _ _ _ _ _ h hF => ⟨h.1, hF⟩
theorem main_1_2 : Claimed_1_2 := comes_1 fun _ _ _ _ _ _ h hF => ⟨h.2.1, hF⟩
-- 6. THE WITNESS: 'witness <made dir> --arg ..' lays it behind; then: end Jvm.Pilot.@@N@@
end Jvm.Pilot.@@N@@
namespace Jvm.Pilot.@@N@@
open Jvm Jvm.ClassFile Sem Op Lib Jvm.Free Jvm.Stand Jvm.Pilot.@@N@@.Jvm.D
/-! MADE BY PROGRAM (witnessworld.py) out of the Statement's table words and the real class files: 11 classes; the members and pool entries that the words name. The judged class is class 1, her method 1. -/
namespace start1
open Jvm.ClassFile
def u (s : String) : CpInfo := .utf8 (stringToUtf16 s)
/-- a pool by its gaps: so many unusable entries, then the entry; so many at the end -/
def gap : Nat → List CpInfo → List CpInfo
  | 0, r => r
  | n + 1, r => .unusable :: gap n r
def poolList (es : List (Nat × CpInfo)) (last : Nat) : List CpInfo := es.foldr (fun e r => gap e.1 (e.2 :: r)) (gap last [])
def pool (es : List (Nat × CpInfo)) (last : Nat) : Array CpInfo := ⟨poolList es last⟩
def fileOf (pool : Array CpInfo) (this : Nat) (attrs : Array Attribute := #[]) (ms : Array MethodInfo := #[]) (fl : Nat := 33) (sup : Nat := 0) (ifs : Array Nat := #[]) (fds : Array FieldInfo := #[]) : ClassFile where
  minorVersion := 0
  majorVersion := 65
  constantPool := pool
  accessFlags := fl
  thisClass := this
  superClass := sup
  interfaces := ifs
  fields := fds
  methods := ms
  attributes := attrs
def plain (name : String) (sup : Option ClassId) : Class where
  name := name
  kind := .ordinary
  loader := none
  accessFlags := 33
  super := sup
  interfaces := #[]
  cf := none
  fields := #[]
  methods := #[]
  instanceTypes := #[]
  staticTypes := #[]
  resolved := #[]
  callSites := []
  init := .initialized
  statics := none
  mirror := none

def pool0 : Array CpInfo := pool [(5, u "<init>"), (0, u "()V"), (1, .class_ 10), (1, u "java/lang/Object")] 113

def k0m0 : Method := { name := "<init>", desc := "()V", sig := { parameters := [], returnType := none }, accessFlags := 1, code := none }
/-- java/lang/Object -/
def k0 : Class := { plain "java/lang/Object" none with
  accessFlags := 33
  interfaces := #[]
  cf := some (fileOf pool0 8 #[] #[{ accessFlags := 1, nameIndex := 5, descriptorIndex := 6, attributes := #[] }] 33 0 #[] #[])
  fields := #[]
  methods := #[k0m0]
  instanceTypes := #[]
  staticTypes := #[]
  resolved := Array.replicate 124 none
  statics := none }

def pool1 : Array CpInfo := pool [(2, .class_ 4), (1, u "java/lang/Object"), (0, u "<init>"), (0, u "()V"), (0, .long 10), (1, .long 100), (1, .long 1000), (1, .long 10000), (1, .long 100000), (1, .long 1000000), (1, .long 10000000), (1, .long 100000000), (1, .long 1000000000), (1, .long 10000000000), (1, .long 100000000000), (1, .long 1000000000000), (1, .long 10000000000000), (1, .long 100000000000000), (1, .long 1000000000000000), (1, .long 10000000000000000), (1, .long 100000000000000000), (1, .long 1000000000000000000), (1, .integer 2147483647), (2, .long 9223372036854775807), (1, .methodref 49 50), (0, .class_ 51), (0, .nameAndType 52 53), (0, u "com/example/compendio/compendio/formats/Counts"), (0, u "digits"), (0, u "(J)I"), (0, .class_ 55), (0, u "com/example/compendio/compendio/formats/CountsDigitsPinLaw"), (2, u "law"), (0, u "(JII)Z")] 5

def k1m0 : Method := { name := "<init>", desc := "()V", sig := { parameters := [], returnType := none }, accessFlags := 1, code := none }
def k1c1 : Code := { maxStack := 5, maxLocals := 10, code := code, exceptionTable := #[], attributes := #[] }
def k1m1 : Method := { name := "law", desc := "(JII)Z", sig := { parameters := [.long, .int, .int], returnType := some .boolean }, accessFlags := 9, code := some k1c1 }
/-- com/example/compendio/compendio/formats/CountsDigitsPinLaw -/
def k1 : Class := { plain "com/example/compendio/compendio/formats/CountsDigitsPinLaw" (some 0) with
  accessFlags := 49
  interfaces := #[]
  cf := some (fileOf pool1 54 #[] #[{ accessFlags := 1, nameIndex := 5, descriptorIndex := 6, attributes := #[] }, { accessFlags := 9, nameIndex := 58, descriptorIndex := 59, attributes := #[] }] 49 2 #[] #[])
  fields := #[]
  methods := #[k1m0, k1m1]
  instanceTypes := #[]
  staticTypes := #[]
  resolved := Array.replicate 65 none
  statics := none }

def pool2 : Array CpInfo := pool [(2, .class_ 4), (1, u "java/lang/Object"), (0, u "<init>"), (0, u "()V"), (6, .class_ 14), (0, u "com/example/compendio/compendio/formats/Counts"), (8, .long 10), (38, u "SHARE_RATIO"), (0, u "Ljava/util/regex/Pattern;"), (29, u "digits"), (0, u "(J)I"), (16, u "DIGIT_PAIRS"), (0, u "[B"), (11, u "MAX_DIGITS"), (0, u "I")] 33

def k2m0 : Method := { name := "<init>", desc := "()V", sig := { parameters := [], returnType := none }, accessFlags := 2, code := none }
def k2c1 : Code := { maxStack := 4, maxLocals := 5, code := prog_94_method_8_code, exceptionTable := #[], attributes := #[] }
def k2m1 : Method := { name := "digits", desc := "(J)I", sig := { parameters := [.long], returnType := some .int }, accessFlags := 8, code := some k2c1 }
/-- com/example/compendio/compendio/formats/Counts -/
def k2 : Class := { plain "com/example/compendio/compendio/formats/Counts" (some 0) with
  accessFlags := 49
  interfaces := #[]
  cf := some (fileOf pool2 13 #[] #[{ accessFlags := 2, nameIndex := 5, descriptorIndex := 6, attributes := #[] }, { accessFlags := 8, nameIndex := 93, descriptorIndex := 94, attributes := #[] }] 49 2 #[] #[{ accessFlags := 24, nameIndex := 124, descriptorIndex := 125, attributes := #[] }, { accessFlags := 26, nameIndex := 111, descriptorIndex := 112, attributes := #[] }, { accessFlags := 26, nameIndex := 62, descriptorIndex := 63, attributes := #[] }])
  fields := #[{ name := "MAX_DIGITS", type := .int, accessFlags := 24, slot := 0, constantValue := 0 }, { name := "DIGIT_PAIRS", type := (.array .byte), accessFlags := 26, slot := 1, constantValue := 0 }, { name := "SHARE_RATIO", type := (.object "java/util/regex/Pattern"), accessFlags := 26, slot := 2, constantValue := 0 }]
  methods := #[k2m0, k2m1]
  instanceTypes := #[]
  staticTypes := #[.int, (.array .byte), (.object "java/util/regex/Pattern")]
  resolved := Array.replicate 159 none
  statics := none }

def pool3 : Array CpInfo := pool [(1, u "java/lang/Cloneable"), (0, .class_ 1), (0, u "java/lang/Object"), (0, .class_ 3)] 3

/-- java/lang/Cloneable -/
def k3 : Class := { plain "java/lang/Cloneable" (some 0) with
  accessFlags := 1537
  interfaces := #[]
  cf := some (fileOf pool3 2 #[] #[] 1537 4 #[] #[])
  fields := #[]
  methods := #[]
  instanceTypes := #[]
  staticTypes := #[]
  resolved := Array.replicate 8 none
  statics := none }

def pool4 : Array CpInfo := pool [(1, u "java/io/Serializable"), (0, .class_ 1), (0, u "java/lang/Object"), (0, .class_ 3)] 3

/-- java/io/Serializable -/
def k4 : Class := { plain "java/io/Serializable" (some 0) with
  accessFlags := 1537
  interfaces := #[]
  cf := some (fileOf pool4 2 #[] #[] 1537 4 #[] #[])
  fields := #[]
  methods := #[]
  instanceTypes := #[]
  staticTypes := #[]
  resolved := Array.replicate 8 none
  statics := none }

/-- the primitive byte -/
def k5 : Class := { plain "byte" none with kind := .primitive 'B', accessFlags := 0x411 }
/-- [B -/
def k6 : Class := { plain "[B" (some 0) with kind := .array 5 .byte, interfaces := #[3, 4], accessFlags := 1041 }

/-- the primitive int -/
def k7 : Class := { plain "int" none with kind := .primitive 'I', accessFlags := 0x411 }
/-- [I -/
def k8 : Class := { plain "[I" (some 0) with kind := .array 7 .int, interfaces := #[3, 4], accessFlags := 1041 }

/-- the primitive long -/
def k9 : Class := { plain "long" none with kind := .primitive 'J', accessFlags := 0x411 }
/-- [J -/
def k10 : Class := { plain "[J" (some 0) with kind := .array 9 .long, interfaces := #[3, 4], accessFlags := 1041 }

def heap : Heap := #[]
def classes : Array Class := #[k0, k1, k2, k3, k4, k5, k6, k7, k8, k9, k10]
def interned : List (Array UInt16 × Addr) := []
def slotsUsed : Nat := 0
def theMethod : MethodId := ⟨1, 1⟩
def args0 : Array Value := #[.long 50000000, .int 1, .int 0]
def aboutOver (below : List Frame) : State where
  vm := { classes := classes, interned := interned.toArray }
  heap := heap
  slotsUsed := slotsUsed
  threads := #[{ frames := .invoking theMethod args0 :: below }]
def below0 : List Frame := [.native { method := ⟨0, 0⟩, args := #[] }]
def about1 : State := aboutOver below0
def p0 : Program := .bare "" "" ""
def e0 : Env := launch0.env 0 0 0
theorem w_frames : about1.frames = Frame.invoking theMethod args0 :: below0 := rfl
set_option maxRecDepth 65536 in
theorem w_args : argsFit about1.vm theMethod args0 = true := by decide +kernel
set_option maxRecDepth 65536 in
theorem w_heap : heapFits about1 = true := by decide +kernel
set_option maxRecDepth 65536 in
theorem w_runnable : about1.curStatus? = some .runnable := by decide +kernel
set_option maxRecDepth 65536 in
theorem w_alone : about1.alone = true := by decide +kernel
set_option maxRecDepth 65536 in
theorem w_named : about1.methodNamed? x = some theMethod := by decide +kernel
set_option maxRecDepth 65536 in
theorem w_hears : about1.hears theMethod below0 = true := by decide +kernel
set_option maxRecDepth 65536 in
theorem w_ripe : about1.ripe theMethod args0 below0 = true := by decide +kernel
theorem w_running : about1.status = .running := rfl
set_option maxRecDepth 65536 in
theorem w_room : about1.hasRoom e0.platform room_1 = true :=
  launch0.hasRoom_least _ room_1 (by decide +kernel) (by decide +kernel) (by decide +kernel) (by decide +kernel) (by decide +kernel) (by decide +kernel)
theorem allAtoms_all (ts : List Jvm.Cond) (a : Array Jvm.Value) (st : Jvm.State) : (allAtoms ts).before a st = ts.all (fun c => c.before a st) := by
  induction ts with
  | nil => rfl
  | cons c t ih =>
    show (Jvm.Cond.and c (allAtoms t)).before a st = _
    rw [Jvm.Cond.before_and, ih, List.all_cons]
def words1 : List Jvm.Cond := Jvm.Cond.code x code maxLocals ret :: tables_1
/-- a 'code' word, met by the world's own term for the bytes: nothing is compared byte by byte -/
theorem code_word {y : MethodName} {bytes : ByteArray} {mx : Nat} {rt : Option FieldType} {a : Array Value} {s : State} {m : MethodId} {meth : Method} {c : Code} (h1 : s.methodNamed? y = some m) (h2 : s.vm.method? m = some meth) (h3 : meth.code = some c) (h4 : c.code = bytes)
    (h5 : (c.maxLocals == mx && c.exceptionTable.isEmpty && decide (c.maxStack ≤ mostOperands) && decide (meth.sig.returnType = rt) && !meth.locks && decide (parseMethodDescriptor y.desc = some meth.sig)) = true) : (Jvm.Cond.code y bytes mx rt).before a s = true := by
  simp only [Bool.and_eq_true, beq_iff_eq, Bool.not_eq_true', decide_eq_true_eq] at h5
  obtain ⟨⟨⟨⟨⟨g1, g2⟩, g3⟩, g4⟩, g5⟩, g6⟩ := h5
  simp [Cond.before, Cond.holds, Cond.value, h1, h2, h3, h4, g1, g2, g3, g4, g5, g6]
def isCode : Jvm.Cond → Bool
  | .code _ _ _ _ => true
  | _ => false
theorem all_split {L : List Jvm.Cond} {P : Jvm.Cond → Bool} (h1 : L.all (fun c => isCode c || P c) = true) (h2 : ∀ c ∈ L.filter isCode, P c = true) : L.all P = true := by
  refine List.all_eq_true.mpr fun c hc => ?_
  have h := List.all_eq_true.mp h1 c hc
  rcases Bool.eq_false_or_eq_true (isCode c) with hi | hi
  · exact h2 c (List.mem_filter.mpr ⟨hc, hi⟩)
  · simpa [hi] using h
set_option maxRecDepth 65536 in
theorem w_c0 : (Jvm.Cond.code x code maxLocals ret).before args0 about1 = true := code_word (m := ⟨1, 1⟩) (meth := k1m1) (c := k1c1) (by decide +kernel) rfl rfl rfl (by decide +kernel)
set_option maxRecDepth 65536 in
theorem w_c1 : (Jvm.Cond.code ({ cls := "com/example/compendio/compendio/formats/Counts", name := "digits", desc := "(J)I" } : Jvm.MethodName) prog_94_method_8_code (5 : Nat) (Option.some Jvm.ClassFile.FieldType.int)).before args0 about1 = true := code_word (m := ⟨2, 1⟩) (meth := k2m1) (c := k2c1) (by decide +kernel) rfl rfl rfl (by decide +kernel)
def codes1 : List Jvm.Cond := [Jvm.Cond.code x code maxLocals ret, Jvm.Cond.code ({ cls := "com/example/compendio/compendio/formats/Counts", name := "digits", desc := "(J)I" } : Jvm.MethodName) prog_94_method_8_code (5 : Nat) (Option.some Jvm.ClassFile.FieldType.int)]
set_option maxRecDepth 65536 in
theorem codes_eq : words1.filter isCode = codes1 := rfl
theorem w_codes : ∀ c ∈ words1.filter isCode, c.before args0 about1 = true := by
  rw [codes_eq]
  intro c hc
  simp only [codes1, List.mem_cons, List.not_mem_nil, or_false] at hc
  rcases hc with rfl | rfl
  · exact w_c0
  · exact w_c1
set_option maxRecDepth 65536 in
theorem w_t1 : (words1.take 24).all (fun c => isCode c || c.before args0 about1) = true := by decide +kernel
set_option maxRecDepth 65536 in
theorem w_t2 : (words1.drop 24).all (fun c => isCode c || c.before args0 about1) = true := by decide +kernel
theorem w_tables : (allAtoms (Jvm.Cond.code x code maxLocals ret :: tables_1)).before args0 about1 = true := by
  rw [allAtoms_all]
  show words1.all (fun c => c.before args0 about1) = true
  refine all_split ?_ w_codes
  rw [← List.take_append_drop 24 words1, List.all_append, w_t1, w_t2]
  rfl
set_option maxRecDepth 65536 in
theorem w_case : (Jvm.Cond.and given_1 narrow_1).before args0 about1 = true := by decide +kernel
theorem w_applies : (headSpec (Jvm.Cond.code x code maxLocals ret :: tables_1) room_1).applies x e0.platform about1 = true :=
  (Spec.applies_iff w_frames).mpr ⟨w_running, w_runnable, w_alone, w_named, w_hears, w_ripe, w_room, w_tables⟩
theorem atStart : AtStart classFile x code maxLocals ret World_1 tables_1 room_1 Calls_1 rest_1 Pre_1 launch0 p0 e0 about1 theMethod args0 below0 :=
  ⟨lists_1, trivial, launch0.admits_env _ _ _, launch0.least_env, fairChoices_fair.cas, fairChoices_fair.clock, w_frames, w_args, w_heap, w_applies, trivial, trivial, w_case⟩
end start1
theorem witness_1 : WitnessClaimed_1 := ⟨start1.p0, start1.e0, start1.about1, start1.theMethod, start1.args0, start1.below0, start1.atStart⟩
end Jvm.Pilot.@@N@@
