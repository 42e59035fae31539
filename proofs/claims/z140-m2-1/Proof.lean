import JvmDerived
import JvmDerived.Pilot.@@N@@Statement
import JvmDerived.Pilot.@@N@@Code
set_option linter.unusedVariables false
set_option linter.unusedSimpArgs false
namespace Jvm.RoadKit
open Sem ClassFile Op Lib Jvm.Stand Jvm.Free Jvm.LawKit
section New
variable {p : Program} {l : Launch} {e : Env} {R : Room} {s : State} {m : MethodId} {args : Array Value} {below : List Frame} {meth : Method} {c : Code} {T : State} {locs : List Loc} {cells slots : Nat}
theorem retI (X : Stand p l e R s m args below meth c T locs cells slots) (hx : p.tables.exec = Jvm.exec) {pc : Nat} {Ls : Array Slot} {z : Int32} {rest : List Value} (hret : meth.sig.returnType = some .int) (hd : decode c.code pc = .ok (.ireturn, 1)) {fs : List Frame}
    (hl : ∀ (f : JFrame) (acts : List Action), f.method = m → f.locked = none → f.entered = [] → (doReturn e (T.setTop f) acts (some (.int z))).1 = T.setFrames fs) : Steps p.tables e below (T.setTop (mkF m pc Ls (.int z :: rest))) (T.setFrames fs) := by
  have hm' : T.vm.method? m = some meth := X.method'
  have hn : narrow .int (.int z) = .int z := rfl
  show Steps p.tables e below (T.setTop { method := m, pc := pc, locals := Ls, stack := _ :: rest, locked := none }) _
  jvm_step X.here [X.here.top, hx, hd, hm', hret, hn]
  first | (intro acts; rw [hl _ acts rfl rfl rfl]) | rw [hl _ _ rfl rfl rfl]
  exact Steps.refl _
end New
end Jvm.RoadKit
namespace Jvm.Pilot.@@N@@
open Jvm Jvm.ClassFile Sem Op Lib Jvm.Free Jvm.Stand Jvm.LawKit Jvm.RoadKit Bundle Jvm.Pilot.@@N@@.Jvm.D
/-- the array b: eight bytes, g 0 .. g 7 -/
def own_B (Z : State) (h : Heap) (b : Addr) (cl : Cell) (g : Nat → Int32) : Prop := Arr Z h b cl .byte ∧ cl.slots.size = 8 ∧ ∀ k, k < 8 → cl.slots[k]? = some (.int (g k)) ∧ (g k).toInt8.toInt32 = g k
theorem own_B_keep {Z : State} {h h' : Heap} {b : Addr} {cl : Cell} {g : Nat → Int32} {ws : List Addr} (F : own_B Z h b cl g) (K : Keep h h' ws) (q : b ∉ ws) : own_B Z h' b cl g := ⟨⟨K.2.1 b cl F.1.1 q, F.1.2⟩, F.2⟩
theorem own_B_other {Z : State} {h h' : Heap} {a b : Addr} {cl : Cell} {g : Nat → Int32} {sl : Nat} {v : Value} (F : own_B Z h b cl g) (W : Wr h h' a sl v) (q : b ≠ a) : own_B Z h' b cl g := ⟨F.1.other W q, F.2⟩
theorem own_byte {x : Int32} (h : fits .byte (.int x) = true) : x.toInt8.toInt32 = x := by
  obtain ⟨h1, h2⟩ := rng_byte h
  rw [Int32.lt_iff_toInt_lt] at h1 h2
  have a := c_i2b x
  have e1 : (-128 : Int32).toInt = -128 := by decide
  have e2 : (127 : Int32).toInt = 127 := by decide
  exact Int32.toInt_inj.mp (by omega)
theorem own_open {Z : State} {h : Heap} {b : Addr} {k : ClassId} {vs : List Value} {d : Value} (V : Arv Z h b k .byte (8 : Int32) vs d) : ∃ (cl : Cell) (g : Nat → Int32), own_B Z h b cl g ∧ ∀ k, k < 8 → vs.getD k d = .int (g k) := by
  obtain ⟨c, A, -, S, -, H, G⟩ := V
  have S3 : c.slots.size = 8 := by rw [S]; decide
  have key : ∀ k, k < 8 → ∃ x : Int32, vs.getD k d = .int x ∧ x.toInt8.toInt32 = x := by
    intro k hk
    have f := G k (by rw [S3]; exact hk)
    cases hv : vs.getD k d with
    | int x => rw [hv] at f; exact ⟨x, rfl, own_byte f⟩
    | _ => rw [hv] at f; simp [fits] at f
  refine ⟨c, fun k => match vs.getD k d with | .int x => x | _ => 0, ⟨A, S3, fun k hk => ?_⟩, fun k hk => ?_⟩
  · obtain ⟨x, h1, h2⟩ := key k hk
    have := H k (by rw [S3]; exact hk)
    simp only [h1] at this ⊢
    exact ⟨this, h2⟩
  · obtain ⟨x, h1, h2⟩ := key k hk
    simp only [h1]
theorem own_i {r : Nat} (h : r ≤ 20) : (Int32.ofNat r).toInt = (r : Int) := Int32.toInt_ofNat_of_lt (by omega)
theorem own_n {r : Nat} (h : r ≤ 20) : (Int32.ofNat r).toNatClampNeg = r := by
  show (Int32.ofNat r).toInt.toNat = r; rw [own_i h]; rfl
theorem own_lt {a b : Nat} (ha : a ≤ 20) (hb : b ≤ 20) : Int32.ofNat a < Int32.ofNat b ↔ a < b := by
  rw [Int32.lt_iff_toInt_lt, own_i ha, own_i hb]; omega
theorem own_add (i j : Nat) : Int32.ofNat i + Int32.ofNat j = Int32.ofNat (i + j) := (Int32.ofNat_add i j).symm
theorem own_in {cl : Cell} {j : Int32} {k : Nat} (S : cl.slots.size = 8) (hj : j = Int32.ofNat k) (hk : k < 8) : ¬ (j < 0 ∨ cl.slots.size ≤ j.toNatClampNeg) := by
  subst hj
  rw [own_n (by omega), S, Int32.lt_iff_toInt_lt, own_i (by omega)]
  have e : (0 : Int32).toInt = 0 := by decide
  omega
theorem own_inS {cl : Cell} {j : Int32} {k : Nat} (S : cl.slots.size = (8 : Int32).toNatClampNeg) (hj : j = Int32.ofNat k) (hk : k < 8) : ¬ (j < 0 ∨ cl.slots.size ≤ j.toNatClampNeg) := own_in (by rw [S]; decide) hj hk
theorem own_nS {j : Int32} {k : Nat} (hj : j = Int32.ofNat k) (hk : k < 8) : j.toNatClampNeg = k := by rw [hj]; exact own_n (by omega)
theorem own_at {Z : State} {h : Heap} {b : Addr} {cl : Cell} {g : Nat → Int32} {j : Int32} {k : Nat} (F : own_B Z h b cl g) (hj : j = Int32.ofNat k) (hk : k < 8) : cl.slots[j.toNatClampNeg]? = some (.int (g k)) := by
  rw [own_nS hj hk]; exact (F.2.2 k hk).1
theorem own_r5 (g : Int32) : ∃ k : Nat, k ≤ 4 ∧ ((g &&& (7 : Int32)) % (5 : Int32)) = Int32.ofNat k := by
  have a := c_mask g 7 3 (by decide) (by decide)
  have b := (c_irem (g &&& 7) 5 5 (by decide)).1 (by rw [a]; omega)
  obtain ⟨k, hk⟩ : ∃ k : Nat, ((g &&& (7 : Int32)) % (5 : Int32)).toInt = (k : Int) := ⟨((g &&& (7 : Int32)) % (5 : Int32)).toInt.toNat, by omega⟩
  have h5 : k ≤ 4 := by omega
  exact ⟨k, h5, Int32.toInt_inj.mp (by rw [hk, own_i (by omega)])⟩
theorem own_d255 (g : Int32) : 0 ≤ (g &&& (255 : Int32)).toInt ∧ (g &&& (255 : Int32)).toInt ≤ 255 := by
  have a := c_mask g 255 8 (by decide) (by decide)
  rw [a]; omega
/-- a byte turned by d and cut to a byte again is the same just where d is 0 -/
theorem own_eqv {x d : Int32} (hx : x.toInt8.toInt32 = x) (hd : 0 ≤ d.toInt ∧ d.toInt ≤ 255) : x = nar .byte ((x ^^^ d).toInt8.toInt32) ↔ d = 0 := by
  show x = (x ^^^ d).toInt8.toInt32.toInt8.toInt32 ↔ d = 0
  rw [Int8.toInt8_toInt32]
  constructor
  · intro h
    have h1 : x.toInt8 = (x ^^^ d).toInt8 := by
      have := congrArg Int32.toInt8 h
      rwa [Int8.toInt8_toInt32] at this
    rw [Int32.toInt8_xor] at h1
    have h2 : d.toInt8 = 0 := by
      have h3 : x.toInt8 ^^^ x.toInt8 = x.toInt8 ^^^ (x.toInt8 ^^^ d.toInt8) := congrArg (x.toInt8 ^^^ ·) h1
      rw [← Int8.xor_assoc, Int8.xor_self, Int8.zero_xor] at h3
      exact h3.symm
    have a := c_i2b d
    rw [h2] at a
    have e : (0 : Int8).toInt32.toInt = 0 := by decide
    have e0 : (0 : Int32).toInt = 0 := by decide
    exact Int32.toInt_inj.mp (by omega)
  · rintro rfl
    rw [Int32.xor_zero, hx]
theorem own_get4 (vs : List Value) (f : Nat) (h : vs.length = 8) (hf : f + 3 < 8) (v0 v1 v2 v3 d : Value) :
    ((((vs.set (f + 0) v0).set (f + 1) v1).set (f + 2) v2).set (f + 3) v3).getD (f + 0) d = v0 ∧ ((((vs.set (f + 0) v0).set (f + 1) v1).set (f + 2) v2).set (f + 3) v3).getD (f + 1) d = v1 ∧ ((((vs.set (f + 0) v0).set (f + 1) v1).set (f + 2) v2).set (f + 3) v3).getD (f + 2) d = v2 ∧ ((((vs.set (f + 0) v0).set (f + 1) v1).set (f + 2) v2).set (f + 3) v3).getD (f + 3) d = v3 := by
  have l0 : f + 0 < vs.length := by omega
  have l1 : f + 1 < (vs.set (f + 0) v0).length := by rw [List.length_set]; omega
  have l2 : f + 2 < ((vs.set (f + 0) v0).set (f + 1) v1).length := by rw [List.length_set, List.length_set]; omega
  have l3 : f + 3 < (((vs.set (f + 0) v0).set (f + 1) v1).set (f + 2) v2).length := by rw [List.length_set, List.length_set, List.length_set]; omega
  refine ⟨?_, ?_, ?_, ?_⟩ <;> rw [List.getD_eq_getElem?_getD]
  · rw [List.getElem?_set_ne (by omega), List.getElem?_set_ne (by omega), List.getElem?_set_ne (by omega), List.getElem?_set_self l0]; rfl
  · rw [List.getElem?_set_ne (by omega), List.getElem?_set_ne (by omega), List.getElem?_set_self l1]; rfl
  · rw [List.getElem?_set_ne (by omega), List.getElem?_set_self l2]; rfl
  · rw [List.getElem?_set_self l3]; rfl
/-- what 'same' answers -/
def own_same (x y : Nat → Int32) (fA fB n : Nat) (r : Int32) : Prop := (r = 1 ∧ ∀ i, i < n → x (fA + i) = y (fB + i)) ∨ (r = 0 ∧ ∃ i, i < n ∧ ¬ x (fA + i) = y (fB + i))
/-- the i-th clause of what the law expects -/
abbrev own_c (cN k : Nat) (d : Int32) : Prop := cN < k ∨ d = 0
def own_ex (cN : Nat) (d0 d1 d2 d3 : Int32) : Int32 := if own_c cN 1 d0 ∧ own_c cN 2 d1 ∧ own_c cN 3 d2 ∧ own_c cN 4 d3 then 1 else 0
theorem own_fin {x y : Nat → Int32} {fA fB cN : Nat} {r d0 d1 d2 d3 : Int32} (hc : cN ≤ 4) (h : own_same x y fA fB cN r) (e0 : x (fA + 0) = y (fB + 0) ↔ d0 = 0) (e1 : x (fA + 1) = y (fB + 1) ↔ d1 = 0) (e2 : x (fA + 2) = y (fB + 2) ↔ d2 = 0) (e3 : x (fA + 3) = y (fB + 3) ↔ d3 = 0) : r = own_ex cN d0 d1 d2 d3 := by
  rcases h with ⟨rfl, h⟩ | ⟨rfl, i, hi, h⟩
  · refine (if_pos ⟨?_, ?_, ?_, ?_⟩).symm
    · rcases Nat.lt_or_ge 0 cN with q | q
      · exact Or.inr (e0.mp (h 0 q))
      · exact Or.inl (by omega)
    · rcases Nat.lt_or_ge 1 cN with q | q
      · exact Or.inr (e1.mp (h 1 q))
      · exact Or.inl (by omega)
    · rcases Nat.lt_or_ge 2 cN with q | q
      · exact Or.inr (e2.mp (h 2 q))
      · exact Or.inl (by omega)
    · rcases Nat.lt_or_ge 3 cN with q | q
      · exact Or.inr (e3.mp (h 3 q))
      · exact Or.inl (by omega)
  · refine (if_neg fun ⟨c0, c1, c2, c3⟩ => ?_).symm
    rcases (show i = 0 ∨ i = 1 ∨ i = 2 ∨ i = 3 by omega) with rfl | rfl | rfl | rfl
    · rcases c0 with q | q
      · omega
      · exact h (e0.mpr q)
    · rcases c1 with q | q
      · omega
      · exact h (e1.mpr q)
    · rcases c2 with q | q
      · omega
      · exact h (e2.mpr q)
    · rcases c3 with q | q
      · omega
      · exact h (e3.mpr q)
theorem d1_0 : decode method_2_code 0 = .ok (.lload_n 0, 1) := by decide +kernel
theorem d1_1 : decode method_2_code 1 = .ok (.bipush 8, 2) := by decide +kernel
theorem d1_3 : decode method_2_code 3 = .ok (.iload_n 2, 1) := by decide +kernel
theorem d1_4 : decode method_2_code 4 = .ok (.imul, 1) := by decide +kernel
theorem d1_5 : decode method_2_code 5 = .ok (.lushr, 1) := by decide +kernel
theorem d1_6 : decode method_2_code 6 = .ok (.l2i, 1) := by decide +kernel
theorem d1_7 : decode method_2_code 7 = .ok (.i2b, 1) := by decide +kernel
theorem d1_8 : decode method_2_code 8 = .ok (.ireturn, 1) := by decide +kernel
theorem pn_1 : plainName "com/example/lean_relay/leanrelay/octets/ScanSamePinLaw" = true := by first | (simp [plainName, overriddenIn]; done) | decide +kernel
theorem ef_1 (m : MethodId) (x0 : Int64) (x1 : Int32) : entryFrame m #[(.long x0), (.int x1)] 3 = mkF m 0 #[.val (.long x0), .second, .val (.int x1)] [] := by first | (simp [entryFrame, mkF, argsToLocals, Value.category]; done) | rfl
def Q1 (Z : State) (q1 : Int64) (p2 : Int32) (h0 : Heap) (n0 : Nat) (v : Option Value) (h : Heap) (L : List Loc) : Prop := ∃ z : Int32, v = some (.int z) ∧ Fr n0 L ∧ h = h0
set_option maxRecDepth 65536 in
set_option maxHeartbeats 40000000 in
theorem rm1 (l : Launch) (Z : State) (a0 : Array Value) (hw : ∀ d ∈ tables_1, d.before a0 Z = true) (ws : List Jvm.Cond) (q1 : Int64) (p2 : Int32) (h0 : Heap) (n0 : Nat) (Z0 : n0 ≤ h0.size) :
    MetFree l (⟨"com/example/lean_relay/leanrelay/octets/ScanSamePinLaw", "at", "(JI)B"⟩ : MethodName) (head1 (Jvm.Cond.code (⟨"com/example/lean_relay/leanrelay/octets/ScanSamePinLaw", "at", "(JI)B"⟩ : MethodName) method_2_code 3 (some .byte) :: ws) ({ frames := 0, cells := 0, slots := 0, locals := 0 } : Room)) (fun a U => a = #[(.long q1), (.int p2)] ∧ Z.Warmed39 U.vm ∧ U.heap = h0) (fun _ _ _ _ _ => True) (fun _ U o U' => ∃ v L, o = .returned v ∧ Q1 Z q1 p2 h0 n0 v U'.heap L ∧ FrameEnd U o U' L ({ frames := 0, cells := 0, slots := 0, locals := 0 } : Room).cells ({ frames := 0, cells := 0, slots := 0, locals := 0 } : Room).slots) := by
  refine MetFree.of_bodySF (plainFor_of_name pn_1) hisR ?_
  intro p e s m args below meth c s₁ Bd hml0 hP hK
  obtain ⟨rfl, hZ, hh⟩ := hP
  have hx := Bd.exec
  have hby := Bd.bytes
  have hml : c.maxLocals = 3 := hml0
  have hown : s.vm.findClass "com/example/lean_relay/leanrelay/octets/ScanSamePinLaw" = some m.cls := findClass_of_methodNamed Bd.named
  have hnm := (name_of_methodNamed Bd.named Bd.method).1
  have X0 : Stand p l e ({ frames := 0, cells := 0, slots := 0, locals := 0 } : Room) s m #[(.long q1), (.int p2)] below meth c s₁ [] 0 0 := Stand.of_body Bd
  have e0 : s₁.heap = h0 := by rw [← hh, Bd.state]; rfl
  have N0 := Fr.nil n0
  have pre0 : ∀ t, Steps p.tables e below (s₁.setTop (mkF m 0 #[.val (.long q1), .second, .val (.int p2)] [])) t → Steps p.tables e below (s₁.setTop (entryFrame m #[(.long q1), (.int p2)] 3)) t := fun t k => castTop (ef_1 m q1 p2) k
  -- 3. LAWS

  obtain ⟨fs, hr, hrun, hended, hW, hsame⟩ := X0.leave (v := some (.int (nar .byte (((((q1.toUInt64 >>> (((8 : Int32) * p2) &&& 0x3f).toInt64.toUInt64).toInt64).toInt32).toInt8.toInt32))))) (fun h => by rw [Bd.returns] at h; cases h)
  refine ⟨_, _, pre0 _ ?_, hrun, hended, _, _, rfl, ?_, ⟨_, rfl⟩, hW, hsame.mono (by decide) (by decide)⟩
  -- 4. STEPS
  · show Steps p.tables e below (s₁.setTop (mkF m 0 #[.val (.long q1), .second, .val (.int p2)] [])) _
    refine XS.lloadN X0.here hx rfl (hb hby d1_0) rfl ?_
    show Steps p.tables e below (s₁.setTop (mkF m 1 #[.val (.long q1), .second, .val (.int p2)] [(.long q1)])) _
    refine XS.bipush X0.here hx rfl (hb hby d1_1) ?_
    show Steps p.tables e below (s₁.setTop (mkF m 3 #[.val (.long q1), .second, .val (.int p2)] [(.int (8 : Int32)), (.long q1)])) _
    refine XS.iloadN X0.here hx rfl (hb hby d1_3) rfl ?_
    show Steps p.tables e below (s₁.setTop (mkF m 4 #[.val (.long q1), .second, .val (.int p2)] [(.int p2), (.int (8 : Int32)), (.long q1)])) _
    refine XS.imul X0.here hx rfl (hb hby d1_4) rfl ?_
    show Steps p.tables e below (s₁.setTop (mkF m 5 #[.val (.long q1), .second, .val (.int p2)] [(.int ((8 : Int32) * p2)), (.long q1)])) _
    refine XS.lushr X0.here hx rfl (hb hby d1_5) rfl ?_
    show Steps p.tables e below (s₁.setTop (mkF m 6 #[.val (.long q1), .second, .val (.int p2)] [(.long ((q1.toUInt64 >>> (((8 : Int32) * p2) &&& 0x3f).toInt64.toUInt64).toInt64))])) _
    refine XS.l2i X0.here hx rfl (hb hby d1_6) rfl ?_
    show Steps p.tables e below (s₁.setTop (mkF m 7 #[.val (.long q1), .second, .val (.int p2)] [(.int (((q1.toUInt64 >>> (((8 : Int32) * p2) &&& 0x3f).toInt64.toUInt64).toInt64).toInt32))])) _
    refine XS.i2b X0.here hx rfl (hb hby d1_7) rfl ?_
    show Steps p.tables e below (s₁.setTop (mkF m 8 #[.val (.long q1), .second, .val (.int p2)] [(.int ((((q1.toUInt64 >>> (((8 : Int32) * p2) &&& 0x3f).toInt64.toUInt64).toInt64).toInt32).toInt8.toInt32))])) _
    exact retN X0 hx (t := .byte) Bd.returns (by simp) (hb hby d1_8) hr
  · show Q1 Z q1 p2 h0 n0 _ s₁.heap _
    rw [e0]
    exact ⟨_, rfl, N0, rfl⟩
theorem d2_0 : decode method_3_code 0 = .ok (.iload_n 1, 1) := by decide +kernel
theorem d2_1 : decode method_3_code 1 = .ok (.bipush 9, 2) := by decide +kernel
theorem d2_3 : decode method_3_code 3 = .ok (.iload_n 2, 1) := by decide +kernel
theorem d2_4 : decode method_3_code 4 = .ok (.iadd, 1) := by decide +kernel
theorem d2_5 : decode method_3_code 5 = .ok (.iushr, 1) := by decide +kernel
theorem d2_6 : decode method_3_code 6 = .ok (.iconst 1, 1) := by decide +kernel
theorem d2_7 : decode method_3_code 7 = .ok (.iand, 1) := by decide +kernel
theorem d2_8 : decode method_3_code 8 = .ok (.ifCond .eq 5, 3) := by decide +kernel
theorem d2_13 : decode method_3_code 13 = .ok (.iload_n 0, 1) := by decide +kernel
theorem d2_14 : decode method_3_code 14 = .ok (.bipush 8, 2) := by decide +kernel
theorem d2_16 : decode method_3_code 16 = .ok (.iload_n 2, 1) := by decide +kernel
theorem d2_17 : decode method_3_code 17 = .ok (.imul, 1) := by decide +kernel
theorem d2_18 : decode method_3_code 18 = .ok (.iushr, 1) := by decide +kernel
theorem d2_19 : decode method_3_code 19 = .ok (.sipush 255, 3) := by decide +kernel
theorem d2_22 : decode method_3_code 22 = .ok (.iand, 1) := by decide +kernel
theorem d2_23 : decode method_3_code 23 = .ok (.ireturn, 1) := by decide +kernel
theorem pn_2 : plainName "com/example/lean_relay/leanrelay/octets/ScanSamePinLaw" = true := by first | (simp [plainName, overriddenIn]; done) | decide +kernel
theorem ef_2 (m : MethodId) (x0 : Int32) (x1 : Int32) (x2 : Int32) : entryFrame m #[(.int x0), (.int x1), (.int x2)] 3 = mkF m 0 #[.val (.int x0), .val (.int x1), .val (.int x2)] [] := by first | (simp [entryFrame, mkF, argsToLocals, Value.category]; done) | rfl
def Q2 (Z : State) (p1 : Int32) (p2 : Int32) (p3 : Int32) (h0 : Heap) (n0 : Nat) (v : Option Value) (h : Heap) (L : List Loc) : Prop := ∃ z : Int32, v = some (.int z) ∧ (0 ≤ z.toInt ∧ z.toInt ≤ 255) ∧ Fr n0 L ∧ h = h0
set_option maxRecDepth 65536 in
set_option maxHeartbeats 40000000 in
theorem rm2a (l : Launch) (Z : State) (a0 : Array Value) (hw : ∀ d ∈ tables_1, d.before a0 Z = true) (ws : List Jvm.Cond) (p1 : Int32) (p2 : Int32) (p3 : Int32) (h0 : Heap) (n0 : Nat) (Z0 : n0 ≤ h0.size) (hc8 : (((p2.toUInt32 >>> (((9 : Int32) + p3) &&& 31).toUInt32).toInt32) &&& (1 : Int32)) = (0 : Int32)) :
    MetFree l (⟨"com/example/lean_relay/leanrelay/octets/ScanSamePinLaw", "diff", "(III)I"⟩ : MethodName) (head1 (Jvm.Cond.code (⟨"com/example/lean_relay/leanrelay/octets/ScanSamePinLaw", "diff", "(III)I"⟩ : MethodName) method_3_code 3 (some .int) :: ws) ({ frames := 0, cells := 0, slots := 0, locals := 0 } : Room)) (fun a U => a = #[(.int p1), (.int p2), (.int p3)] ∧ Z.Warmed39 U.vm ∧ U.heap = h0) (fun _ _ _ _ _ => True) (fun _ U o U' => ∃ v L, o = .returned v ∧ Q2 Z p1 p2 p3 h0 n0 v U'.heap L ∧ FrameEnd U o U' L ({ frames := 0, cells := 0, slots := 0, locals := 0 } : Room).cells ({ frames := 0, cells := 0, slots := 0, locals := 0 } : Room).slots) := by
  refine MetFree.of_bodySF (plainFor_of_name pn_2) hisR ?_
  intro p e s m args below meth c s₁ Bd hml0 hP hK
  obtain ⟨rfl, hZ, hh⟩ := hP
  have hx := Bd.exec
  have hby := Bd.bytes
  have hml : c.maxLocals = 3 := hml0
  have hown : s.vm.findClass "com/example/lean_relay/leanrelay/octets/ScanSamePinLaw" = some m.cls := findClass_of_methodNamed Bd.named
  have hnm := (name_of_methodNamed Bd.named Bd.method).1
  have X0 : Stand p l e ({ frames := 0, cells := 0, slots := 0, locals := 0 } : Room) s m #[(.int p1), (.int p2), (.int p3)] below meth c s₁ [] 0 0 := Stand.of_body Bd
  have e0 : s₁.heap = h0 := by rw [← hh, Bd.state]; rfl
  have N0 := Fr.nil n0
  have pre0 : ∀ t, Steps p.tables e below (s₁.setTop (mkF m 0 #[.val (.int p1), .val (.int p2), .val (.int p3)] [])) t → Steps p.tables e below (s₁.setTop (entryFrame m #[(.int p1), (.int p2), (.int p3)] 3)) t := fun t k => castTop (ef_2 m p1 p2 p3) k
  -- 3. LAWS

  obtain ⟨fs, hr, hrun, hended, hW, hsame⟩ := X0.leave (v := some (.int (((p1.toUInt32 >>> (((8 : Int32) * p3) &&& 31).toUInt32).toInt32) &&& (255 : Int32)))) (fun h => by rw [Bd.returns] at h; cases h)
  refine ⟨_, _, pre0 _ ?_, hrun, hended, _, _, rfl, ?_, ⟨_, rfl⟩, hW, hsame.mono (by decide) (by decide)⟩
  -- 4. STEPS
  · show Steps p.tables e below (s₁.setTop (mkF m 0 #[.val (.int p1), .val (.int p2), .val (.int p3)] [])) _
    refine XS.iloadN X0.here hx rfl (hb hby d2_0) rfl ?_
    show Steps p.tables e below (s₁.setTop (mkF m 1 #[.val (.int p1), .val (.int p2), .val (.int p3)] [(.int p2)])) _
    refine XS.bipush X0.here hx rfl (hb hby d2_1) ?_
    show Steps p.tables e below (s₁.setTop (mkF m 3 #[.val (.int p1), .val (.int p2), .val (.int p3)] [(.int (9 : Int32)), (.int p2)])) _
    refine XS.iloadN X0.here hx rfl (hb hby d2_3) rfl ?_
    show Steps p.tables e below (s₁.setTop (mkF m 4 #[.val (.int p1), .val (.int p2), .val (.int p3)] [(.int p3), (.int (9 : Int32)), (.int p2)])) _
    refine XS.iadd X0.here hx rfl (hb hby d2_4) rfl ?_
    show Steps p.tables e below (s₁.setTop (mkF m 5 #[.val (.int p1), .val (.int p2), .val (.int p3)] [(.int ((9 : Int32) + p3)), (.int p2)])) _
    refine XS.iushr X0.here hx rfl (hb hby d2_5) rfl ?_
    show Steps p.tables e below (s₁.setTop (mkF m 6 #[.val (.int p1), .val (.int p2), .val (.int p3)] [(.int ((p2.toUInt32 >>> (((9 : Int32) + p3) &&& 31).toUInt32).toInt32))])) _
    refine XS.iconst X0.here hx rfl (hb hby d2_6) ?_
    show Steps p.tables e below (s₁.setTop (mkF m 7 #[.val (.int p1), .val (.int p2), .val (.int p3)] [(.int (1 : Int32)), (.int ((p2.toUInt32 >>> (((9 : Int32) + p3) &&& 31).toUInt32).toInt32))])) _
    refine XS.iand X0.here hx rfl (hb hby d2_7) rfl ?_
    show Steps p.tables e below (s₁.setTop (mkF m 8 #[.val (.int p1), .val (.int p2), .val (.int p3)] [(.int (((p2.toUInt32 >>> (((9 : Int32) + p3) &&& 31).toUInt32).toInt32) &&& (1 : Int32)))])) _
    refine XS.ifYes X0.here hx rfl (pc0 := 8) (pc' := 13) rfl (hb hby d2_8) rfl ((if0 _ _).trans (teq hc8).1) (by decide) (by decide) ?_
    show Steps p.tables e below (s₁.setTop (mkF m 13 #[.val (.int p1), .val (.int p2), .val (.int p3)] [])) _
    refine XS.iloadN X0.here hx rfl (hb hby d2_13) rfl ?_
    show Steps p.tables e below (s₁.setTop (mkF m 14 #[.val (.int p1), .val (.int p2), .val (.int p3)] [(.int p1)])) _
    refine XS.bipush X0.here hx rfl (hb hby d2_14) ?_
    show Steps p.tables e below (s₁.setTop (mkF m 16 #[.val (.int p1), .val (.int p2), .val (.int p3)] [(.int (8 : Int32)), (.int p1)])) _
    refine XS.iloadN X0.here hx rfl (hb hby d2_16) rfl ?_
    show Steps p.tables e below (s₁.setTop (mkF m 17 #[.val (.int p1), .val (.int p2), .val (.int p3)] [(.int p3), (.int (8 : Int32)), (.int p1)])) _
    refine XS.imul X0.here hx rfl (hb hby d2_17) rfl ?_
    show Steps p.tables e below (s₁.setTop (mkF m 18 #[.val (.int p1), .val (.int p2), .val (.int p3)] [(.int ((8 : Int32) * p3)), (.int p1)])) _
    refine XS.iushr X0.here hx rfl (hb hby d2_18) rfl ?_
    show Steps p.tables e below (s₁.setTop (mkF m 19 #[.val (.int p1), .val (.int p2), .val (.int p3)] [(.int ((p1.toUInt32 >>> (((8 : Int32) * p3) &&& 31).toUInt32).toInt32))])) _
    refine XS.sipush X0.here hx rfl (hb hby d2_19) ?_
    show Steps p.tables e below (s₁.setTop (mkF m 22 #[.val (.int p1), .val (.int p2), .val (.int p3)] [(.int (255 : Int32)), (.int ((p1.toUInt32 >>> (((8 : Int32) * p3) &&& 31).toUInt32).toInt32))])) _
    refine XS.iand X0.here hx rfl (hb hby d2_22) rfl ?_
    show Steps p.tables e below (s₁.setTop (mkF m 23 #[.val (.int p1), .val (.int p2), .val (.int p3)] [(.int (((p1.toUInt32 >>> (((8 : Int32) * p3) &&& 31).toUInt32).toInt32) &&& (255 : Int32)))])) _
    exact retI X0 hx Bd.returns (hb hby d2_23) hr      -- retI stands in the head ('lawwalk <made dir>' prints it)
  · show Q2 Z p1 p2 p3 h0 n0 _ s₁.heap _
    rw [e0]
    exact ⟨_, rfl, own_d255 _, N0, rfl⟩
theorem d2_11 : decode method_3_code 11 = .ok (.iconst 0, 1) := by decide +kernel
theorem d2_12 : decode method_3_code 12 = .ok (.ireturn, 1) := by decide +kernel
set_option maxRecDepth 65536 in
set_option maxHeartbeats 40000000 in
theorem rm2b (l : Launch) (Z : State) (a0 : Array Value) (hw : ∀ d ∈ tables_1, d.before a0 Z = true) (ws : List Jvm.Cond) (p1 : Int32) (p2 : Int32) (p3 : Int32) (h0 : Heap) (n0 : Nat) (Z0 : n0 ≤ h0.size) (hc8 : ¬ ((((p2.toUInt32 >>> (((9 : Int32) + p3) &&& 31).toUInt32).toInt32) &&& (1 : Int32)) = (0 : Int32))) :
    MetFree l (⟨"com/example/lean_relay/leanrelay/octets/ScanSamePinLaw", "diff", "(III)I"⟩ : MethodName) (head1 (Jvm.Cond.code (⟨"com/example/lean_relay/leanrelay/octets/ScanSamePinLaw", "diff", "(III)I"⟩ : MethodName) method_3_code 3 (some .int) :: ws) ({ frames := 0, cells := 0, slots := 0, locals := 0 } : Room)) (fun a U => a = #[(.int p1), (.int p2), (.int p3)] ∧ Z.Warmed39 U.vm ∧ U.heap = h0) (fun _ _ _ _ _ => True) (fun _ U o U' => ∃ v L, o = .returned v ∧ Q2 Z p1 p2 p3 h0 n0 v U'.heap L ∧ FrameEnd U o U' L ({ frames := 0, cells := 0, slots := 0, locals := 0 } : Room).cells ({ frames := 0, cells := 0, slots := 0, locals := 0 } : Room).slots) := by
  refine MetFree.of_bodySF (plainFor_of_name pn_2) hisR ?_
  intro p e s m args below meth c s₁ Bd hml0 hP hK
  obtain ⟨rfl, hZ, hh⟩ := hP
  have hx := Bd.exec
  have hby := Bd.bytes
  have hml : c.maxLocals = 3 := hml0
  have hown : s.vm.findClass "com/example/lean_relay/leanrelay/octets/ScanSamePinLaw" = some m.cls := findClass_of_methodNamed Bd.named
  have hnm := (name_of_methodNamed Bd.named Bd.method).1
  have X0 : Stand p l e ({ frames := 0, cells := 0, slots := 0, locals := 0 } : Room) s m #[(.int p1), (.int p2), (.int p3)] below meth c s₁ [] 0 0 := Stand.of_body Bd
  have e0 : s₁.heap = h0 := by rw [← hh, Bd.state]; rfl
  have N0 := Fr.nil n0
  have pre0 : ∀ t, Steps p.tables e below (s₁.setTop (mkF m 0 #[.val (.int p1), .val (.int p2), .val (.int p3)] [])) t → Steps p.tables e below (s₁.setTop (entryFrame m #[(.int p1), (.int p2), (.int p3)] 3)) t := fun t k => castTop (ef_2 m p1 p2 p3) k
  -- 3. LAWS

  obtain ⟨fs, hr, hrun, hended, hW, hsame⟩ := X0.leave (v := some (.int (0 : Int32))) (fun h => by rw [Bd.returns] at h; cases h)
  refine ⟨_, _, pre0 _ ?_, hrun, hended, _, _, rfl, ?_, ⟨_, rfl⟩, hW, hsame.mono (by decide) (by decide)⟩
  -- 4. STEPS
  · show Steps p.tables e below (s₁.setTop (mkF m 0 #[.val (.int p1), .val (.int p2), .val (.int p3)] [])) _
    refine XS.iloadN X0.here hx rfl (hb hby d2_0) rfl ?_
    show Steps p.tables e below (s₁.setTop (mkF m 1 #[.val (.int p1), .val (.int p2), .val (.int p3)] [(.int p2)])) _
    refine XS.bipush X0.here hx rfl (hb hby d2_1) ?_
    show Steps p.tables e below (s₁.setTop (mkF m 3 #[.val (.int p1), .val (.int p2), .val (.int p3)] [(.int (9 : Int32)), (.int p2)])) _
    refine XS.iloadN X0.here hx rfl (hb hby d2_3) rfl ?_
    show Steps p.tables e below (s₁.setTop (mkF m 4 #[.val (.int p1), .val (.int p2), .val (.int p3)] [(.int p3), (.int (9 : Int32)), (.int p2)])) _
    refine XS.iadd X0.here hx rfl (hb hby d2_4) rfl ?_
    show Steps p.tables e below (s₁.setTop (mkF m 5 #[.val (.int p1), .val (.int p2), .val (.int p3)] [(.int ((9 : Int32) + p3)), (.int p2)])) _
    refine XS.iushr X0.here hx rfl (hb hby d2_5) rfl ?_
    show Steps p.tables e below (s₁.setTop (mkF m 6 #[.val (.int p1), .val (.int p2), .val (.int p3)] [(.int ((p2.toUInt32 >>> (((9 : Int32) + p3) &&& 31).toUInt32).toInt32))])) _
    refine XS.iconst X0.here hx rfl (hb hby d2_6) ?_
    show Steps p.tables e below (s₁.setTop (mkF m 7 #[.val (.int p1), .val (.int p2), .val (.int p3)] [(.int (1 : Int32)), (.int ((p2.toUInt32 >>> (((9 : Int32) + p3) &&& 31).toUInt32).toInt32))])) _
    refine XS.iand X0.here hx rfl (hb hby d2_7) rfl ?_
    show Steps p.tables e below (s₁.setTop (mkF m 8 #[.val (.int p1), .val (.int p2), .val (.int p3)] [(.int (((p2.toUInt32 >>> (((9 : Int32) + p3) &&& 31).toUInt32).toInt32) &&& (1 : Int32)))])) _
    refine XS.ifNo X0.here hx rfl (hb hby d2_8) rfl ((if0 _ _).trans (feq hc8).1) ?_
    show Steps p.tables e below (s₁.setTop (mkF m 11 #[.val (.int p1), .val (.int p2), .val (.int p3)] [])) _
    refine XS.iconst X0.here hx rfl (hb hby d2_11) ?_
    show Steps p.tables e below (s₁.setTop (mkF m 12 #[.val (.int p1), .val (.int p2), .val (.int p3)] [(.int (0 : Int32))])) _
    exact retI X0 hx Bd.returns (hb hby d2_12) hr      -- retI stands in the head ('lawwalk <made dir>' prints it)
  · show Q2 Z p1 p2 p3 h0 n0 _ s₁.heap _
    rw [e0]
    exact ⟨_, rfl, by decide, N0, rfl⟩
theorem rm2 (l : Launch) (Z : State) (a0 : Array Value) (hw : ∀ d ∈ tables_1, d.before a0 Z = true) (ws : List Jvm.Cond) (p1 : Int32) (p2 : Int32) (p3 : Int32) (h0 : Heap) (n0 : Nat) (Z0 : n0 ≤ h0.size) :
    MetFree l (⟨"com/example/lean_relay/leanrelay/octets/ScanSamePinLaw", "diff", "(III)I"⟩ : MethodName) (head1 (Jvm.Cond.code (⟨"com/example/lean_relay/leanrelay/octets/ScanSamePinLaw", "diff", "(III)I"⟩ : MethodName) method_3_code 3 (some .int) :: ws) ({ frames := 0, cells := 0, slots := 0, locals := 0 } : Room)) (fun a U => a = #[(.int p1), (.int p2), (.int p3)] ∧ Z.Warmed39 U.vm ∧ U.heap = h0) (fun _ _ _ _ _ => True) (fun _ U o U' => ∃ v L, o = .returned v ∧ Q2 Z p1 p2 p3 h0 n0 v U'.heap L ∧ FrameEnd U o U' L ({ frames := 0, cells := 0, slots := 0, locals := 0 } : Room).cells ({ frames := 0, cells := 0, slots := 0, locals := 0 } : Room).slots) := by
  by_cases hc8 : (((p2.toUInt32 >>> (((9 : Int32) + p3) &&& 31).toUInt32).toInt32) &&& (1 : Int32)) = (0 : Int32)
  · exact rm2a l Z a0 hw ws p1 p2 p3 h0 n0 Z0 hc8
  · exact rm2b l Z a0 hw ws p1 p2 p3 h0 n0 Z0 hc8
theorem d3_6 : decode prog_120_method_3_code 6 = .ok (.iload 6, 2) := by decide +kernel
theorem d3_8 : decode prog_120_method_3_code 8 = .ok (.iload 4, 2) := by decide +kernel
theorem d3_10 : decode prog_120_method_3_code 10 = .ok (.if_icmp .ge 36, 3) := by decide +kernel
theorem d3_13 : decode prog_120_method_3_code 13 = .ok (.iload 5, 2) := by decide +kernel
theorem d3_15 : decode prog_120_method_3_code 15 = .ok (.ifCond .eq 31, 3) := by decide +kernel
theorem d3_18 : decode prog_120_method_3_code 18 = .ok (.aload_n 0, 1) := by decide +kernel
theorem d3_19 : decode prog_120_method_3_code 19 = .ok (.iload_n 1, 1) := by decide +kernel
theorem d3_20 : decode prog_120_method_3_code 20 = .ok (.iload 6, 2) := by decide +kernel
theorem d3_22 : decode prog_120_method_3_code 22 = .ok (.iadd, 1) := by decide +kernel
theorem d3_23 : decode prog_120_method_3_code 23 = .ok (.baload, 1) := by decide +kernel
theorem d3_24 : decode prog_120_method_3_code 24 = .ok (.aload_n 2, 1) := by decide +kernel
theorem d3_25 : decode prog_120_method_3_code 25 = .ok (.iload_n 3, 1) := by decide +kernel
theorem d3_26 : decode prog_120_method_3_code 26 = .ok (.iload 6, 2) := by decide +kernel
theorem d3_28 : decode prog_120_method_3_code 28 = .ok (.iadd, 1) := by decide +kernel
theorem d3_29 : decode prog_120_method_3_code 29 = .ok (.baload, 1) := by decide +kernel
theorem d3_30 : decode prog_120_method_3_code 30 = .ok (.if_icmp .ne 7, 3) := by decide +kernel
theorem d3_33 : decode prog_120_method_3_code 33 = .ok (.iconst 1, 1) := by decide +kernel
theorem d3_34 : decode prog_120_method_3_code 34 = .ok (.goto 4, 3) := by decide +kernel
theorem d3_38 : decode prog_120_method_3_code 38 = .ok (.istore 5, 2) := by decide +kernel
theorem d3_40 : decode prog_120_method_3_code 40 = .ok (.iinc 6 1, 3) := by decide +kernel
theorem d3_43 : decode prog_120_method_3_code 43 = .ok (.goto (-37), 3) := by decide +kernel
set_option maxRecDepth 65536 in
set_option maxHeartbeats 40000000 in
theorem own_t1 {p : Program} {l : Launch} {e : Env} {R : Room} {s : State} {m : MethodId} {args : Array Value} {below : List Frame} {meth : Method} {c : Code} {T0 : State} {locs : List Loc} {cells slots : Nat} {Z : State} {a0 : Array Value} {h0 : Heap} (o0 : Addr) (i1 : Int32) (o2 : Addr) (i3 : Int32) (i4 : Int32) (i5 : Int32) (i6 : Int32) (w6 : Int32) (cl_o0 : Cell) (w7 : Int32) (cl_o2 : Cell)
    (X0 : Stand p l e R s m args below meth c T0 locs cells slots) (hx : p.tables.exec = Jvm.exec) (hZ : Z.Warmed39 s.vm) (hw : ∀ d ∈ tables_1, d.before a0 Z = true) (hby : c.code = prog_120_method_3_code) (hml : c.maxLocals = 7) (hown : s.vm.findClass "com/example/lean_relay/leanrelay/octets/Scan" = some m.cls) (e0 : T0.heap = h0) (Ar_o0 : Arr Z h0 o0 cl_o0 .byte) (hin23 : ¬ ((i1 + i6) < 0 ∨ cl_o0.slots.size ≤ ((i1 + i6)).toNatClampNeg)) (hat23 : cl_o0.slots[((i1 + i6)).toNatClampNeg]? = some (.int w6)) (Ar_o2 : Arr Z h0 o2 cl_o2 .byte) (hin29 : ¬ ((i3 + i6) < 0 ∨ cl_o2.slots.size ≤ ((i3 + i6)).toNatClampNeg)) (hat29 : cl_o2.slots[((i3 + i6)).toNatClampNeg]? = some (.int w7)) (hc10 : i6 < i4) (hc15 : ¬ (i5 = (0 : Int32))) (hc30 : w6 = w7) :
    ∀ target, Steps p.tables e below (T0.setTop (mkF m 6 #[.val (.ref o0), .val (.int i1), .val (.ref o2), .val (.int i3), .val (.int i4), .val (.int (1 : Int32)), .val (.int (i6 + (1 : Int32)))] [])) target → Steps p.tables e below (T0.setTop (mkF m 6 #[.val (.ref o0), .val (.int i1), .val (.ref o2), .val (.int i3), .val (.int i4), .val (.int i5), .val (.int i6)] [])) target := by
  -- 3. LAWS

  intro target kt
  -- 4. STEPS
  show Steps p.tables e below (T0.setTop (mkF m 6 #[.val (.ref o0), .val (.int i1), .val (.ref o2), .val (.int i3), .val (.int i4), .val (.int i5), .val (.int i6)] [])) _
  refine XS.iload X0.here hx rfl (hb hby d3_6) rfl ?_
  show Steps p.tables e below (T0.setTop (mkF m 8 #[.val (.ref o0), .val (.int i1), .val (.ref o2), .val (.int i3), .val (.int i4), .val (.int i5), .val (.int i6)] [(.int i6)])) _
  refine XS.iload X0.here hx rfl (hb hby d3_8) rfl ?_
  show Steps p.tables e below (T0.setTop (mkF m 10 #[.val (.ref o0), .val (.int i1), .val (.ref o2), .val (.int i3), .val (.int i4), .val (.int i5), .val (.int i6)] [(.int i4), (.int i6)])) _
  refine XS.icmpNo X0.here hx rfl (hb hby d3_10) rfl (tlt hc10).2.1 ?_
  show Steps p.tables e below (T0.setTop (mkF m 13 #[.val (.ref o0), .val (.int i1), .val (.ref o2), .val (.int i3), .val (.int i4), .val (.int i5), .val (.int i6)] [])) _
  refine XS.iload X0.here hx rfl (hb hby d3_13) rfl ?_
  show Steps p.tables e below (T0.setTop (mkF m 15 #[.val (.ref o0), .val (.int i1), .val (.ref o2), .val (.int i3), .val (.int i4), .val (.int i5), .val (.int i6)] [(.int i5)])) _
  refine XS.ifNo X0.here hx rfl (hb hby d3_15) rfl ((if0 _ _).trans (feq hc15).1) ?_
  show Steps p.tables e below (T0.setTop (mkF m 18 #[.val (.ref o0), .val (.int i1), .val (.ref o2), .val (.int i3), .val (.int i4), .val (.int i5), .val (.int i6)] [])) _
  refine XS.aloadN X0.here hx rfl (hb hby d3_18) rfl rfl ?_
  show Steps p.tables e below (T0.setTop (mkF m 19 #[.val (.ref o0), .val (.int i1), .val (.ref o2), .val (.int i3), .val (.int i4), .val (.int i5), .val (.int i6)] [(.ref o0)])) _
  refine XS.iloadN X0.here hx rfl (hb hby d3_19) rfl ?_
  show Steps p.tables e below (T0.setTop (mkF m 20 #[.val (.ref o0), .val (.int i1), .val (.ref o2), .val (.int i3), .val (.int i4), .val (.int i5), .val (.int i6)] [(.int i1), (.ref o0)])) _
  refine XS.iload X0.here hx rfl (hb hby d3_20) rfl ?_
  show Steps p.tables e below (T0.setTop (mkF m 22 #[.val (.ref o0), .val (.int i1), .val (.ref o2), .val (.int i3), .val (.int i4), .val (.int i5), .val (.int i6)] [(.int i6), (.int i1), (.ref o0)])) _
  refine XS.iadd X0.here hx rfl (hb hby d3_22) rfl ?_
  show Steps p.tables e below (T0.setTop (mkF m 23 #[.val (.ref o0), .val (.int i1), .val (.ref o2), .val (.int i3), .val (.int i4), .val (.int i5), .val (.int i6)] [(.int (i1 + i6)), (.ref o0)])) _
  refine X0.baloadBytes hx (j := (i1 + i6)) (v := (.int w6)) (by rw [e0]; exact Ar_o0.1) (State.isArrayOf_alike hZ.alike Ar_o0.2.1) Ar_o0.2.2 hin23 hat23 (g := (mkF m 23 #[.val (.ref o0), .val (.int i1), .val (.ref o2), .val (.int i3), .val (.int i4), .val (.int i5), .val (.int i6)] [(.int (i1 + i6)), (.ref o0)])) rfl rfl (hb hby d3_23) _ ?_
  show Steps p.tables e below (T0.setTop (mkF m 24 #[.val (.ref o0), .val (.int i1), .val (.ref o2), .val (.int i3), .val (.int i4), .val (.int i5), .val (.int i6)] [(.int w6)])) _
  refine XS.aloadN X0.here hx rfl (hb hby d3_24) rfl rfl ?_
  show Steps p.tables e below (T0.setTop (mkF m 25 #[.val (.ref o0), .val (.int i1), .val (.ref o2), .val (.int i3), .val (.int i4), .val (.int i5), .val (.int i6)] [(.ref o2), (.int w6)])) _
  refine XS.iloadN X0.here hx rfl (hb hby d3_25) rfl ?_
  show Steps p.tables e below (T0.setTop (mkF m 26 #[.val (.ref o0), .val (.int i1), .val (.ref o2), .val (.int i3), .val (.int i4), .val (.int i5), .val (.int i6)] [(.int i3), (.ref o2), (.int w6)])) _
  refine XS.iload X0.here hx rfl (hb hby d3_26) rfl ?_
  show Steps p.tables e below (T0.setTop (mkF m 28 #[.val (.ref o0), .val (.int i1), .val (.ref o2), .val (.int i3), .val (.int i4), .val (.int i5), .val (.int i6)] [(.int i6), (.int i3), (.ref o2), (.int w6)])) _
  refine XS.iadd X0.here hx rfl (hb hby d3_28) rfl ?_
  show Steps p.tables e below (T0.setTop (mkF m 29 #[.val (.ref o0), .val (.int i1), .val (.ref o2), .val (.int i3), .val (.int i4), .val (.int i5), .val (.int i6)] [(.int (i3 + i6)), (.ref o2), (.int w6)])) _
  refine X0.baloadBytes hx (j := (i3 + i6)) (v := (.int w7)) (by rw [e0]; exact Ar_o2.1) (State.isArrayOf_alike hZ.alike Ar_o2.2.1) Ar_o2.2.2 hin29 hat29 (g := (mkF m 29 #[.val (.ref o0), .val (.int i1), .val (.ref o2), .val (.int i3), .val (.int i4), .val (.int i5), .val (.int i6)] [(.int (i3 + i6)), (.ref o2), (.int w6)])) rfl rfl (hb hby d3_29) _ ?_
  show Steps p.tables e below (T0.setTop (mkF m 30 #[.val (.ref o0), .val (.int i1), .val (.ref o2), .val (.int i3), .val (.int i4), .val (.int i5), .val (.int i6)] [(.int w7), (.int w6)])) _
  refine XS.icmpNo X0.here hx rfl (hb hby d3_30) rfl (teq hc30).2 ?_
  show Steps p.tables e below (T0.setTop (mkF m 33 #[.val (.ref o0), .val (.int i1), .val (.ref o2), .val (.int i3), .val (.int i4), .val (.int i5), .val (.int i6)] [])) _
  refine XS.iconst X0.here hx rfl (hb hby d3_33) ?_
  show Steps p.tables e below (T0.setTop (mkF m 34 #[.val (.ref o0), .val (.int i1), .val (.ref o2), .val (.int i3), .val (.int i4), .val (.int i5), .val (.int i6)] [(.int (1 : Int32))])) _
  refine XS.goto X0.here hx rfl (pc0 := 34) (pc' := 38) rfl (hb hby d3_34) (by decide) (by decide) ?_
  show Steps p.tables e below (T0.setTop (mkF m 38 #[.val (.ref o0), .val (.int i1), .val (.ref o2), .val (.int i3), .val (.int i4), .val (.int i5), .val (.int i6)] [(.int (1 : Int32))])) _
  refine XS.istore X0.here hx rfl (hb hby d3_38) rfl (l' := #[.val (.ref o0), .val (.int i1), .val (.ref o2), .val (.int i3), .val (.int i4), .val (.int (1 : Int32)), .val (.int i6)]) rfl ?_
  show Steps p.tables e below (T0.setTop (mkF m 40 #[.val (.ref o0), .val (.int i1), .val (.ref o2), .val (.int i3), .val (.int i4), .val (.int (1 : Int32)), .val (.int i6)] [])) _
  refine XS.iinc X0.here hx rfl (hb hby d3_40) rfl (l' := #[.val (.ref o0), .val (.int i1), .val (.ref o2), .val (.int i3), .val (.int i4), .val (.int (1 : Int32)), .val (.int (i6 + (1 : Int32)))]) rfl ?_
  show Steps p.tables e below (T0.setTop (mkF m 43 #[.val (.ref o0), .val (.int i1), .val (.ref o2), .val (.int i3), .val (.int i4), .val (.int (1 : Int32)), .val (.int (i6 + (1 : Int32)))] [])) _
  refine XS.goto X0.here hx rfl (pc0 := 43) (pc' := 6) rfl (hb hby d3_43) (by decide) (by decide) ?_
  exact kt
theorem d3_37 : decode prog_120_method_3_code 37 = .ok (.iconst 0, 1) := by decide +kernel
set_option maxRecDepth 65536 in
set_option maxHeartbeats 40000000 in
theorem own_t0 {p : Program} {l : Launch} {e : Env} {R : Room} {s : State} {m : MethodId} {args : Array Value} {below : List Frame} {meth : Method} {c : Code} {T0 : State} {locs : List Loc} {cells slots : Nat} {Z : State} {a0 : Array Value} {h0 : Heap} (o0 : Addr) (i1 : Int32) (o2 : Addr) (i3 : Int32) (i4 : Int32) (i5 : Int32) (i6 : Int32) (w6 : Int32) (cl_o0 : Cell) (w7 : Int32) (cl_o2 : Cell)
    (X0 : Stand p l e R s m args below meth c T0 locs cells slots) (hx : p.tables.exec = Jvm.exec) (hZ : Z.Warmed39 s.vm) (hw : ∀ d ∈ tables_1, d.before a0 Z = true) (hby : c.code = prog_120_method_3_code) (hml : c.maxLocals = 7) (hown : s.vm.findClass "com/example/lean_relay/leanrelay/octets/Scan" = some m.cls) (e0 : T0.heap = h0) (Ar_o0 : Arr Z h0 o0 cl_o0 .byte) (hin23 : ¬ ((i1 + i6) < 0 ∨ cl_o0.slots.size ≤ ((i1 + i6)).toNatClampNeg)) (hat23 : cl_o0.slots[((i1 + i6)).toNatClampNeg]? = some (.int w6)) (Ar_o2 : Arr Z h0 o2 cl_o2 .byte) (hin29 : ¬ ((i3 + i6) < 0 ∨ cl_o2.slots.size ≤ ((i3 + i6)).toNatClampNeg)) (hat29 : cl_o2.slots[((i3 + i6)).toNatClampNeg]? = some (.int w7)) (hc10 : i6 < i4) (hc15 : ¬ (i5 = (0 : Int32))) (hc30 : ¬ (w6 = w7)) :
    ∀ target, Steps p.tables e below (T0.setTop (mkF m 6 #[.val (.ref o0), .val (.int i1), .val (.ref o2), .val (.int i3), .val (.int i4), .val (.int (0 : Int32)), .val (.int (i6 + (1 : Int32)))] [])) target → Steps p.tables e below (T0.setTop (mkF m 6 #[.val (.ref o0), .val (.int i1), .val (.ref o2), .val (.int i3), .val (.int i4), .val (.int i5), .val (.int i6)] [])) target := by
  -- 3. LAWS

  intro target kt
  -- 4. STEPS
  show Steps p.tables e below (T0.setTop (mkF m 6 #[.val (.ref o0), .val (.int i1), .val (.ref o2), .val (.int i3), .val (.int i4), .val (.int i5), .val (.int i6)] [])) _
  refine XS.iload X0.here hx rfl (hb hby d3_6) rfl ?_
  show Steps p.tables e below (T0.setTop (mkF m 8 #[.val (.ref o0), .val (.int i1), .val (.ref o2), .val (.int i3), .val (.int i4), .val (.int i5), .val (.int i6)] [(.int i6)])) _
  refine XS.iload X0.here hx rfl (hb hby d3_8) rfl ?_
  show Steps p.tables e below (T0.setTop (mkF m 10 #[.val (.ref o0), .val (.int i1), .val (.ref o2), .val (.int i3), .val (.int i4), .val (.int i5), .val (.int i6)] [(.int i4), (.int i6)])) _
  refine XS.icmpNo X0.here hx rfl (hb hby d3_10) rfl (tlt hc10).2.1 ?_
  show Steps p.tables e below (T0.setTop (mkF m 13 #[.val (.ref o0), .val (.int i1), .val (.ref o2), .val (.int i3), .val (.int i4), .val (.int i5), .val (.int i6)] [])) _
  refine XS.iload X0.here hx rfl (hb hby d3_13) rfl ?_
  show Steps p.tables e below (T0.setTop (mkF m 15 #[.val (.ref o0), .val (.int i1), .val (.ref o2), .val (.int i3), .val (.int i4), .val (.int i5), .val (.int i6)] [(.int i5)])) _
  refine XS.ifNo X0.here hx rfl (hb hby d3_15) rfl ((if0 _ _).trans (feq hc15).1) ?_
  show Steps p.tables e below (T0.setTop (mkF m 18 #[.val (.ref o0), .val (.int i1), .val (.ref o2), .val (.int i3), .val (.int i4), .val (.int i5), .val (.int i6)] [])) _
  refine XS.aloadN X0.here hx rfl (hb hby d3_18) rfl rfl ?_
  show Steps p.tables e below (T0.setTop (mkF m 19 #[.val (.ref o0), .val (.int i1), .val (.ref o2), .val (.int i3), .val (.int i4), .val (.int i5), .val (.int i6)] [(.ref o0)])) _
  refine XS.iloadN X0.here hx rfl (hb hby d3_19) rfl ?_
  show Steps p.tables e below (T0.setTop (mkF m 20 #[.val (.ref o0), .val (.int i1), .val (.ref o2), .val (.int i3), .val (.int i4), .val (.int i5), .val (.int i6)] [(.int i1), (.ref o0)])) _
  refine XS.iload X0.here hx rfl (hb hby d3_20) rfl ?_
  show Steps p.tables e below (T0.setTop (mkF m 22 #[.val (.ref o0), .val (.int i1), .val (.ref o2), .val (.int i3), .val (.int i4), .val (.int i5), .val (.int i6)] [(.int i6), (.int i1), (.ref o0)])) _
  refine XS.iadd X0.here hx rfl (hb hby d3_22) rfl ?_
  show Steps p.tables e below (T0.setTop (mkF m 23 #[.val (.ref o0), .val (.int i1), .val (.ref o2), .val (.int i3), .val (.int i4), .val (.int i5), .val (.int i6)] [(.int (i1 + i6)), (.ref o0)])) _
  refine X0.baloadBytes hx (j := (i1 + i6)) (v := (.int w6)) (by rw [e0]; exact Ar_o0.1) (State.isArrayOf_alike hZ.alike Ar_o0.2.1) Ar_o0.2.2 hin23 hat23 (g := (mkF m 23 #[.val (.ref o0), .val (.int i1), .val (.ref o2), .val (.int i3), .val (.int i4), .val (.int i5), .val (.int i6)] [(.int (i1 + i6)), (.ref o0)])) rfl rfl (hb hby d3_23) _ ?_
  show Steps p.tables e below (T0.setTop (mkF m 24 #[.val (.ref o0), .val (.int i1), .val (.ref o2), .val (.int i3), .val (.int i4), .val (.int i5), .val (.int i6)] [(.int w6)])) _
  refine XS.aloadN X0.here hx rfl (hb hby d3_24) rfl rfl ?_
  show Steps p.tables e below (T0.setTop (mkF m 25 #[.val (.ref o0), .val (.int i1), .val (.ref o2), .val (.int i3), .val (.int i4), .val (.int i5), .val (.int i6)] [(.ref o2), (.int w6)])) _
  refine XS.iloadN X0.here hx rfl (hb hby d3_25) rfl ?_
  show Steps p.tables e below (T0.setTop (mkF m 26 #[.val (.ref o0), .val (.int i1), .val (.ref o2), .val (.int i3), .val (.int i4), .val (.int i5), .val (.int i6)] [(.int i3), (.ref o2), (.int w6)])) _
  refine XS.iload X0.here hx rfl (hb hby d3_26) rfl ?_
  show Steps p.tables e below (T0.setTop (mkF m 28 #[.val (.ref o0), .val (.int i1), .val (.ref o2), .val (.int i3), .val (.int i4), .val (.int i5), .val (.int i6)] [(.int i6), (.int i3), (.ref o2), (.int w6)])) _
  refine XS.iadd X0.here hx rfl (hb hby d3_28) rfl ?_
  show Steps p.tables e below (T0.setTop (mkF m 29 #[.val (.ref o0), .val (.int i1), .val (.ref o2), .val (.int i3), .val (.int i4), .val (.int i5), .val (.int i6)] [(.int (i3 + i6)), (.ref o2), (.int w6)])) _
  refine X0.baloadBytes hx (j := (i3 + i6)) (v := (.int w7)) (by rw [e0]; exact Ar_o2.1) (State.isArrayOf_alike hZ.alike Ar_o2.2.1) Ar_o2.2.2 hin29 hat29 (g := (mkF m 29 #[.val (.ref o0), .val (.int i1), .val (.ref o2), .val (.int i3), .val (.int i4), .val (.int i5), .val (.int i6)] [(.int (i3 + i6)), (.ref o2), (.int w6)])) rfl rfl (hb hby d3_29) _ ?_
  show Steps p.tables e below (T0.setTop (mkF m 30 #[.val (.ref o0), .val (.int i1), .val (.ref o2), .val (.int i3), .val (.int i4), .val (.int i5), .val (.int i6)] [(.int w7), (.int w6)])) _
  refine XS.icmpYes X0.here hx rfl (pc0 := 30) (pc' := 37) rfl (hb hby d3_30) rfl (feq hc30).2 (by decide) (by decide) ?_
  show Steps p.tables e below (T0.setTop (mkF m 37 #[.val (.ref o0), .val (.int i1), .val (.ref o2), .val (.int i3), .val (.int i4), .val (.int i5), .val (.int i6)] [])) _
  refine XS.iconst X0.here hx rfl (hb hby d3_37) ?_
  show Steps p.tables e below (T0.setTop (mkF m 38 #[.val (.ref o0), .val (.int i1), .val (.ref o2), .val (.int i3), .val (.int i4), .val (.int i5), .val (.int i6)] [(.int (0 : Int32))])) _
  refine XS.istore X0.here hx rfl (hb hby d3_38) rfl (l' := #[.val (.ref o0), .val (.int i1), .val (.ref o2), .val (.int i3), .val (.int i4), .val (.int (0 : Int32)), .val (.int i6)]) rfl ?_
  show Steps p.tables e below (T0.setTop (mkF m 40 #[.val (.ref o0), .val (.int i1), .val (.ref o2), .val (.int i3), .val (.int i4), .val (.int (0 : Int32)), .val (.int i6)] [])) _
  refine XS.iinc X0.here hx rfl (hb hby d3_40) rfl (l' := #[.val (.ref o0), .val (.int i1), .val (.ref o2), .val (.int i3), .val (.int i4), .val (.int (0 : Int32)), .val (.int (i6 + (1 : Int32)))]) rfl ?_
  show Steps p.tables e below (T0.setTop (mkF m 43 #[.val (.ref o0), .val (.int i1), .val (.ref o2), .val (.int i3), .val (.int i4), .val (.int (0 : Int32)), .val (.int (i6 + (1 : Int32)))] [])) _
  refine XS.goto X0.here hx rfl (pc0 := 43) (pc' := 6) rfl (hb hby d3_43) (by decide) (by decide) ?_
  exact kt
set_option maxRecDepth 65536 in
set_option maxHeartbeats 40000000 in
theorem own_l1 {p : Program} {l : Launch} {e : Env} {R : Room} {s : State} {m : MethodId} {args : Array Value} {below : List Frame} {meth : Method} {c : Code} {T0 : State} {locs : List Loc} {cells slots : Nat} {Z : State} {a0 : Array Value} {h0 : Heap} (s0 : Slot) (s1 : Slot) (s2 : Slot) (s3 : Slot) (i4 : Int32) (s5 : Slot) (i6 : Int32)
    (X0 : Stand p l e R s m args below meth c T0 locs cells slots) (hx : p.tables.exec = Jvm.exec) (hZ : Z.Warmed39 s.vm) (hw : ∀ d ∈ tables_1, d.before a0 Z = true) (hby : c.code = prog_120_method_3_code) (hml : c.maxLocals = 7) (hown : s.vm.findClass "com/example/lean_relay/leanrelay/octets/Scan" = some m.cls) (e0 : T0.heap = h0) (hc10 : ¬ (i6 < i4)) :
    ∀ target, Steps p.tables e below (T0.setTop (mkF m 46 #[s0, s1, s2, s3, .val (.int i4), s5, .val (.int i6)] [])) target → Steps p.tables e below (T0.setTop (mkF m 6 #[s0, s1, s2, s3, .val (.int i4), s5, .val (.int i6)] [])) target := by
  -- 3. LAWS

  intro target kt
  -- 4. STEPS
  show Steps p.tables e below (T0.setTop (mkF m 6 #[s0, s1, s2, s3, .val (.int i4), s5, .val (.int i6)] [])) _
  refine XS.iload X0.here hx rfl (hb hby d3_6) rfl ?_
  show Steps p.tables e below (T0.setTop (mkF m 8 #[s0, s1, s2, s3, .val (.int i4), s5, .val (.int i6)] [(.int i6)])) _
  refine XS.iload X0.here hx rfl (hb hby d3_8) rfl ?_
  show Steps p.tables e below (T0.setTop (mkF m 10 #[s0, s1, s2, s3, .val (.int i4), s5, .val (.int i6)] [(.int i4), (.int i6)])) _
  refine XS.icmpYes X0.here hx rfl (pc0 := 10) (pc' := 46) rfl (hb hby d3_10) rfl (flt hc10).2.1 (by decide) (by decide) ?_
  exact kt
set_option maxRecDepth 65536 in
set_option maxHeartbeats 40000000 in
theorem own_l0 {p : Program} {l : Launch} {e : Env} {R : Room} {s : State} {m : MethodId} {args : Array Value} {below : List Frame} {meth : Method} {c : Code} {T0 : State} {locs : List Loc} {cells slots : Nat} {Z : State} {a0 : Array Value} {h0 : Heap} (s0 : Slot) (s1 : Slot) (s2 : Slot) (s3 : Slot) (i4 : Int32) (i5 : Int32) (i6 : Int32)
    (X0 : Stand p l e R s m args below meth c T0 locs cells slots) (hx : p.tables.exec = Jvm.exec) (hZ : Z.Warmed39 s.vm) (hw : ∀ d ∈ tables_1, d.before a0 Z = true) (hby : c.code = prog_120_method_3_code) (hml : c.maxLocals = 7) (hown : s.vm.findClass "com/example/lean_relay/leanrelay/octets/Scan" = some m.cls) (e0 : T0.heap = h0) (hc10 : i6 < i4) (hc15 : i5 = (0 : Int32)) :
    ∀ target, Steps p.tables e below (T0.setTop (mkF m 46 #[s0, s1, s2, s3, .val (.int i4), .val (.int i5), .val (.int i6)] [])) target → Steps p.tables e below (T0.setTop (mkF m 6 #[s0, s1, s2, s3, .val (.int i4), .val (.int i5), .val (.int i6)] [])) target := by
  -- 3. LAWS

  intro target kt
  -- 4. STEPS
  show Steps p.tables e below (T0.setTop (mkF m 6 #[s0, s1, s2, s3, .val (.int i4), .val (.int i5), .val (.int i6)] [])) _
  refine XS.iload X0.here hx rfl (hb hby d3_6) rfl ?_
  show Steps p.tables e below (T0.setTop (mkF m 8 #[s0, s1, s2, s3, .val (.int i4), .val (.int i5), .val (.int i6)] [(.int i6)])) _
  refine XS.iload X0.here hx rfl (hb hby d3_8) rfl ?_
  show Steps p.tables e below (T0.setTop (mkF m 10 #[s0, s1, s2, s3, .val (.int i4), .val (.int i5), .val (.int i6)] [(.int i4), (.int i6)])) _
  refine XS.icmpNo X0.here hx rfl (hb hby d3_10) rfl (tlt hc10).2.1 ?_
  show Steps p.tables e below (T0.setTop (mkF m 13 #[s0, s1, s2, s3, .val (.int i4), .val (.int i5), .val (.int i6)] [])) _
  refine XS.iload X0.here hx rfl (hb hby d3_13) rfl ?_
  show Steps p.tables e below (T0.setTop (mkF m 15 #[s0, s1, s2, s3, .val (.int i4), .val (.int i5), .val (.int i6)] [(.int i5)])) _
  refine XS.ifYes X0.here hx rfl (pc0 := 15) (pc' := 46) rfl (hb hby d3_15) rfl ((if0 _ _).trans (teq hc15).1) (by decide) (by decide) ?_
  exact kt
theorem own_loop {p : Program} {l : Launch} {e : Env} {R : Room} {s : State} {m : MethodId} {args : Array Value} {below : List Frame} {meth : Method} {c : Code} {T0 : State} {locs : List Loc} {cells slots : Nat} {Z : State} {a0 : Array Value} {h0 : Heap} (o0 o2 : Addr) (clx cly : Cell) (x y : Nat → Int32) (fA fB cN : Nat)
    (X0 : Stand p l e R s m args below meth c T0 locs cells slots) (hx : p.tables.exec = Jvm.exec) (hZ : Z.Warmed39 s.vm) (hw : ∀ d ∈ tables_1, d.before a0 Z = true) (hby : c.code = prog_120_method_3_code) (hml : c.maxLocals = 7) (hown : s.vm.findClass "com/example/lean_relay/leanrelay/octets/Scan" = some m.cls) (e0 : T0.heap = h0) (Bx : own_B Z h0 o0 clx x) (By : own_B Z h0 o2 cly y) (hA : fA + cN ≤ 8) (hB : fB + cN ≤ 8) :
    ∀ (k i : Nat) (sm : Int32), i + k = cN → own_same x y fA fB i sm →
      ∃ (r : Int32) (j : Nat), own_same x y fA fB cN r ∧ ∀ target, Steps p.tables e below (T0.setTop (mkF m 46 #[.val (.ref o0), .val (.int (Int32.ofNat fA)), .val (.ref o2), .val (.int (Int32.ofNat fB)), .val (.int (Int32.ofNat cN)), .val (.int r), .val (.int (Int32.ofNat j))] [])) target → Steps p.tables e below (T0.setTop (mkF m 6 #[.val (.ref o0), .val (.int (Int32.ofNat fA)), .val (.ref o2), .val (.int (Int32.ofNat fB)), .val (.int (Int32.ofNat cN)), .val (.int sm), .val (.int (Int32.ofNat i))] [])) target := by
  intro k
  induction k with
  | zero =>
    intro i sm h1 h2
    have hi : i = cN := by omega
    subst hi
    exact ⟨sm, i, h2, own_l1 _ _ _ _ (Int32.ofNat i) _ (Int32.ofNat i) X0 hx hZ hw hby hml hown e0 (by rw [own_lt (by omega) (by omega)]; omega)⟩
  | succ k ih =>
    intro i sm h1 h2
    have hlt : Int32.ofNat i < Int32.ofNat cN := (own_lt (by omega) (by omega)).mpr (by omega)
    rcases h2 with ⟨rfl, h2⟩ | ⟨rfl, j, hj, h2⟩
    · have ea := own_add fA i
      have eb := own_add fB i
      by_cases hq : x (fA + i) = y (fB + i)
      · obtain ⟨r, j, hr, st⟩ := ih (i + 1) 1 (by omega) (Or.inl ⟨rfl, fun a ha => by
          rcases Nat.lt_or_ge a i with q | q
          · exact h2 a q
          · have : a = i := by omega
            subst this; exact hq⟩)
        refine ⟨r, j, hr, fun target kt => ?_⟩
        refine own_t1 o0 (Int32.ofNat fA) o2 (Int32.ofNat fB) (Int32.ofNat cN) 1 (Int32.ofNat i) (x (fA + i)) clx (y (fB + i)) cly X0 hx hZ hw hby hml hown e0 Bx.1 (own_in Bx.2.1 ea (by omega)) (own_at Bx ea (by omega)) By.1 (own_in By.2.1 eb (by omega)) (own_at By eb (by omega)) hlt (by decide) hq target ?_
        rw [show Int32.ofNat i + (1 : Int32) = Int32.ofNat (i + 1) from own_add i 1]
        exact st target kt
      · obtain ⟨r, j, hr, st⟩ := ih (i + 1) 0 (by omega) (Or.inr ⟨rfl, i, by omega, hq⟩)
        refine ⟨r, j, hr, fun target kt => ?_⟩
        refine own_t0 o0 (Int32.ofNat fA) o2 (Int32.ofNat fB) (Int32.ofNat cN) 1 (Int32.ofNat i) (x (fA + i)) clx (y (fB + i)) cly X0 hx hZ hw hby hml hown e0 Bx.1 (own_in Bx.2.1 ea (by omega)) (own_at Bx ea (by omega)) By.1 (own_in By.2.1 eb (by omega)) (own_at By eb (by omega)) hlt (by decide) hq target ?_
        rw [show Int32.ofNat i + (1 : Int32) = Int32.ofNat (i + 1) from own_add i 1]
        exact st target kt
    · exact ⟨0, i, Or.inr ⟨rfl, j, by omega, h2⟩, own_l0 _ _ _ _ (Int32.ofNat cN) 0 (Int32.ofNat i) X0 hx hZ hw hby hml hown e0 hlt rfl⟩
theorem d3_0 : decode prog_120_method_3_code 0 = .ok (.iconst 1, 1) := by decide +kernel
theorem d3_1 : decode prog_120_method_3_code 1 = .ok (.istore 5, 2) := by decide +kernel
theorem d3_3 : decode prog_120_method_3_code 3 = .ok (.iconst 0, 1) := by decide +kernel
theorem d3_4 : decode prog_120_method_3_code 4 = .ok (.istore 6, 2) := by decide +kernel
theorem d3_46 : decode prog_120_method_3_code 46 = .ok (.iload 5, 2) := by decide +kernel
theorem d3_48 : decode prog_120_method_3_code 48 = .ok (.ireturn, 1) := by decide +kernel
theorem pn_3 : plainName "com/example/lean_relay/leanrelay/octets/Scan" = true := by first | (simp [plainName, overriddenIn]; done) | decide +kernel
theorem ef_3 (m : MethodId) (x0 : Addr) (x1 : Int32) (x2 : Addr) (x3 : Int32) (x4 : Int32) : entryFrame m #[(.ref x0), (.int x1), (.ref x2), (.int x3), (.int x4)] 7 = mkF m 0 #[.val (.ref x0), .val (.int x1), .val (.ref x2), .val (.int x3), .val (.int x4), .unset, .unset] [] := by first | (simp [entryFrame, mkF, argsToLocals, Value.category]; done) | rfl
def Q3 (Z : State) (x y : Nat → Int32) (fA fB cN : Nat) (h0 : Heap) (n0 : Nat) (v : Option Value) (h : Heap) (L : List Loc) : Prop := ∃ r : Int32, v = some (.int r) ∧ own_same x y fA fB cN r ∧ Fr n0 L ∧ h = h0
set_option maxRecDepth 65536 in
set_option maxHeartbeats 40000000 in
theorem rm3 (l : Launch) (Z : State) (a0 : Array Value) (hw : ∀ d ∈ tables_1, d.before a0 Z = true) (ws : List Jvm.Cond) (a1 a3 : Addr) (clx cly : Cell) (x y : Nat → Int32) (fA fB cN : Nat) (h0 : Heap) (n0 : Nat) (Z0 : n0 ≤ h0.size) (Bx : own_B Z h0 a1 clx x) (By : own_B Z h0 a3 cly y) (hA : fA + cN ≤ 8) (hB : fB + cN ≤ 8) :
    MetFree l (⟨"com/example/lean_relay/leanrelay/octets/Scan", "same", "([BI[BII)Z"⟩ : MethodName) (head1 (Jvm.Cond.code (⟨"com/example/lean_relay/leanrelay/octets/Scan", "same", "([BI[BII)Z"⟩ : MethodName) prog_120_method_3_code 7 (some .boolean) :: ws) ({ frames := 0, cells := 0, slots := 0, locals := 0 } : Room)) (fun a U => a = #[(.ref a1), (.int (Int32.ofNat fA)), (.ref a3), (.int (Int32.ofNat fB)), (.int (Int32.ofNat cN))] ∧ Z.Warmed39 U.vm ∧ U.heap = h0) (fun _ _ _ _ _ => True) (fun _ U o U' => ∃ v L, o = .returned v ∧ Q3 Z x y fA fB cN h0 n0 v U'.heap L ∧ FrameEnd U o U' L ({ frames := 0, cells := 0, slots := 0, locals := 0 } : Room).cells ({ frames := 0, cells := 0, slots := 0, locals := 0 } : Room).slots) := by
  refine MetFree.of_bodySF (plainFor_of_name pn_3) hisR ?_
  intro p e s m args below meth c s₁ Bd hml0 hP hK
  obtain ⟨rfl, hZ, hh⟩ := hP
  have hx := Bd.exec
  have hby := Bd.bytes
  have hml : c.maxLocals = 7 := hml0
  have hown : s.vm.findClass "com/example/lean_relay/leanrelay/octets/Scan" = some m.cls := findClass_of_methodNamed Bd.named
  have hnm := (name_of_methodNamed Bd.named Bd.method).1
  have X0 : Stand p l e ({ frames := 0, cells := 0, slots := 0, locals := 0 } : Room) s m #[(.ref a1), (.int (Int32.ofNat fA)), (.ref a3), (.int (Int32.ofNat fB)), (.int (Int32.ofNat cN))] below meth c s₁ [] 0 0 := Stand.of_body Bd
  have e0 : s₁.heap = h0 := by rw [← hh, Bd.state]; rfl
  have N0 := Fr.nil n0
  have pre0 : ∀ t, Steps p.tables e below (s₁.setTop (mkF m 0 #[.val (.ref a1), .val (.int (Int32.ofNat fA)), .val (.ref a3), .val (.int (Int32.ofNat fB)), .val (.int (Int32.ofNat cN)), .unset, .unset] [])) t → Steps p.tables e below (s₁.setTop (entryFrame m #[(.ref a1), (.int (Int32.ofNat fA)), (.ref a3), (.int (Int32.ofNat fB)), (.int (Int32.ofNat cN))] 7)) t := fun t k => castTop (ef_3 m a1 (Int32.ofNat fA) a3 (Int32.ofNat fB) (Int32.ofNat cN)) k
  obtain ⟨r, j, hr1, stl⟩ := own_loop a1 a3 clx cly x y fA fB cN X0 hx hZ hw hby hml hown e0 Bx By hA hB cN 0 1 (Nat.zero_add _) (Or.inl ⟨rfl, fun i hi => absurd hi (Nat.not_lt_zero _)⟩)
  have hnar : nar .boolean r = r := by rcases hr1 with ⟨rfl, -⟩ | ⟨rfl, -⟩ <;> rfl
  obtain ⟨fs, hr, hrun, hended, hW, hsame⟩ := X0.leave (v := some (.int (nar .boolean r))) (fun h => by rw [Bd.returns] at h; cases h)
  refine ⟨_, _, pre0 _ ?_, hrun, hended, _, _, rfl, ?_, ⟨_, rfl⟩, hW, hsame.mono (by decide) (by decide)⟩
  · show Steps p.tables e below (s₁.setTop (mkF m 0 #[.val (.ref a1), .val (.int (Int32.ofNat fA)), .val (.ref a3), .val (.int (Int32.ofNat fB)), .val (.int (Int32.ofNat cN)), .unset, .unset] [])) _
    refine XS.iconst X0.here hx rfl (hb hby d3_0) ?_
    show Steps p.tables e below (s₁.setTop (mkF m 1 #[.val (.ref a1), .val (.int (Int32.ofNat fA)), .val (.ref a3), .val (.int (Int32.ofNat fB)), .val (.int (Int32.ofNat cN)), .unset, .unset] [(.int (1 : Int32))])) _
    refine XS.istore X0.here hx rfl (hb hby d3_1) rfl (l' := #[.val (.ref a1), .val (.int (Int32.ofNat fA)), .val (.ref a3), .val (.int (Int32.ofNat fB)), .val (.int (Int32.ofNat cN)), .val (.int (1 : Int32)), .unset]) rfl ?_
    show Steps p.tables e below (s₁.setTop (mkF m 3 #[.val (.ref a1), .val (.int (Int32.ofNat fA)), .val (.ref a3), .val (.int (Int32.ofNat fB)), .val (.int (Int32.ofNat cN)), .val (.int (1 : Int32)), .unset] [])) _
    refine XS.iconst X0.here hx rfl (hb hby d3_3) ?_
    show Steps p.tables e below (s₁.setTop (mkF m 4 #[.val (.ref a1), .val (.int (Int32.ofNat fA)), .val (.ref a3), .val (.int (Int32.ofNat fB)), .val (.int (Int32.ofNat cN)), .val (.int (1 : Int32)), .unset] [(.int (0 : Int32))])) _
    refine XS.istore X0.here hx rfl (hb hby d3_4) rfl (l' := #[.val (.ref a1), .val (.int (Int32.ofNat fA)), .val (.ref a3), .val (.int (Int32.ofNat fB)), .val (.int (Int32.ofNat cN)), .val (.int (1 : Int32)), .val (.int (0 : Int32))]) rfl ?_
    show Steps p.tables e below (s₁.setTop (mkF m 6 #[.val (.ref a1), .val (.int (Int32.ofNat fA)), .val (.ref a3), .val (.int (Int32.ofNat fB)), .val (.int (Int32.ofNat cN)), .val (.int (1 : Int32)), .val (.int (0 : Int32))] [])) _
    refine stl _ ?_
    show Steps p.tables e below (s₁.setTop (mkF m 46 #[.val (.ref a1), .val (.int (Int32.ofNat fA)), .val (.ref a3), .val (.int (Int32.ofNat fB)), .val (.int (Int32.ofNat cN)), .val (.int r), .val (.int (Int32.ofNat j))] [])) _
    refine XS.iload X0.here hx rfl (hb hby d3_46) rfl ?_
    show Steps p.tables e below (s₁.setTop (mkF m 48 #[.val (.ref a1), .val (.int (Int32.ofNat fA)), .val (.ref a3), .val (.int (Int32.ofNat fB)), .val (.int (Int32.ofNat cN)), .val (.int r), .val (.int (Int32.ofNat j))] [(.int r)])) _
    exact retN X0 hx (t := .boolean) Bd.returns (by simp) (hb hby d3_48) hr
  · show Q3 Z x y fA fB cN h0 n0 _ s₁.heap _
    rw [e0]
    exact ⟨r, by rw [hnar], hr1, N0, rfl⟩
theorem pn_0 : plainName "com/example/lean_relay/leanrelay/octets/ScanSamePinLaw" = true := by first | (simp [plainName, overriddenIn]; done) | decide +kernel
theorem pd_0_0 : parseMethodDescriptor "(JI)B" = some ⟨[.long, .int], some .byte⟩ := by decide +kernel
theorem pd_0_1 : parseMethodDescriptor "(III)I" = some ⟨[.int, .int, .int], some .int⟩ := by decide +kernel
theorem pd_0_2 : parseMethodDescriptor "([BI[BII)Z" = some ⟨[(.array .byte), .int, (.array .byte), .int, .int], some .boolean⟩ := by decide +kernel
theorem ef_0 (m : MethodId) (x0 : Int64) (x1 : Int64) (x2 : Int32) (x3 : Int32) : entryFrame m #[(.long x0), (.long x1), (.int x2), (.int x3)] maxLocals = mkF m 0 #[.val (.long x0), .second, .val (.long x1), .second, .val (.int x2), .val (.int x3), .unset, .unset, .unset, .unset, .unset, .unset, .unset, .unset, .unset, .unset, .unset] [] := by first | (simp [entryFrame, mkF, argsToLocals, Value.category, maxLocals]; done) | rfl
set_option maxRecDepth 65536 in
set_option maxHeartbeats 40000000 in
theorem own_fill1 {p : Program} {l : Launch} {e : Env} {s : State} {m : MethodId} {args : Array Value} {below : List Frame} {meth : Method} {c : Code} {Z : State} {a0 : Array Value} {h0 : Heap} {n0 : Nat} {q1 q2 : Int64} {p3 p4 : Int32} {s₁ : State} (X0 : Stand p l e room_1 s m args below meth c s₁ [] 0 0) (hx : p.tables.exec = Jvm.exec) (hZ : Z.Warmed39 s.vm) (hw : ∀ d ∈ tables_1, d.before a0 Z = true) (hby : c.code = code) (hml : c.maxLocals = 17) (hown : s.vm.findClass "com/example/lean_relay/leanrelay/octets/ScanSamePinLaw" = some m.cls) (Z0 : n0 ≤ h0.size) (e0 : s₁.heap = h0) (N0 : Fr n0 []) :
    ∃ (T22 : State) (locs22 : List Loc) (b5 b6 : Addr) (k6 : ClassId) (clx : Cell) (x : Nat → Int32), Stand p l e room_1 s m args below meth c T22 locs22 2 16 ∧ Fr n0 locs22 ∧ Keep h0 T22.heap [] ∧ own_B Z T22.heap b5 clx x ∧ Arv Z T22.heap b6 k6 .byte (8 : Int32) [(.int (0 : Int32)), (.int (0 : Int32)), (.int (0 : Int32)), (.int (0 : Int32)), (.int (0 : Int32)), (.int (0 : Int32)), (.int (0 : Int32)), (.int (0 : Int32))] (.int (0 : Int32)) ∧ b5 ≠ b6 ∧ h0.size ≤ b6 ∧ n0 ≤ b6 ∧
      ∀ target, Steps p.tables e below (T22.setTop (mkF m 88 #[.val (.long q1), .second, .val (.long q2), .second, .val (.int p3), .val (.int p4), .val (.ref b5), .val (.ref b6), .unset, .unset, .unset, .unset, .unset, .unset, .unset, .unset, .unset] [])) target → Steps p.tables e below (s₁.setTop (mkF m 0 #[.val (.long q1), .second, .val (.long q2), .second, .val (.int p3), .val (.int p4), .unset, .unset, .unset, .unset, .unset, .unset, .unset, .unset, .unset, .unset, .unset] [])) target := by
  obtain ⟨T5, h5, k5, X5, e5, E5, A5, st5⟩ := newP X0 hx hZ (hw _ (List.mem_of_getElem? (i := 0) rfl)) e0 (g := (mkF m 2 #[.val (.long q1), .second, .val (.long q2), .second, .val (.int p3), .val (.int p4), .unset, .unset, .unset, .unset, .unset, .unset, .unset, .unset, .unset, .unset, .unset] [(.int (8 : Int32))])) rfl (hb hby at_2) rfl (by decide) (cap := 8) (by decide) (by decide) (by decide) (by decide)
  obtain ⟨b5, g5⟩ : ∃ z, z = h0.size := ⟨_, rfl⟩      -- the fresh array's address
  rw [← g5] at A5 st5
  have V_b5 : Arv Z h5 b5 k5 .byte (8 : Int32) [(.int (0 : Int32)), (.int (0 : Int32)), (.int (0 : Int32)), (.int (0 : Int32)), (.int (0 : Int32)), (.int (0 : Int32)), (.int (0 : Int32)), (.int (0 : Int32))] (.int (0 : Int32)) := (Arv.new A5 (by decide)).pad (pad_rep [] (.int (0 : Int32)) 8)
  have g_b5 : n0 ≤ b5 := Nat.le_trans Z0 (Nat.le_of_eq g5.symm)
  have sz_b5 : h0.size ≤ b5 := (Nat.le_trans (Keep.refl h0 []).1 (Nat.le_of_eq g5.symm))
  have K5 : Keep h0 h5 [] := (Keep.refl h0 []).ext E5
  obtain ⟨T6, h6, k6, X6, e6, E6, A6, st6⟩ := newP X5 hx hZ (hw _ (List.mem_of_getElem? (i := 0) rfl)) e5 (g := (mkF m 8 #[.val (.long q1), .second, .val (.long q2), .second, .val (.int p3), .val (.int p4), .val (.ref b5), .unset, .unset, .unset, .unset, .unset, .unset, .unset, .unset, .unset, .unset] [(.int (8 : Int32))])) rfl (hb hby at_8) rfl (by decide) (cap := 8) (by decide) (by decide) (by decide) (by decide)
  obtain ⟨b6, g6⟩ : ∃ z, z = h5.size := ⟨_, rfl⟩      -- the fresh array's address
  rw [← g6] at A6 st6
  have V_b6 : Arv Z h6 b6 k6 .byte (8 : Int32) [(.int (0 : Int32)), (.int (0 : Int32)), (.int (0 : Int32)), (.int (0 : Int32)), (.int (0 : Int32)), (.int (0 : Int32)), (.int (0 : Int32)), (.int (0 : Int32))] (.int (0 : Int32)) := (Arv.new A6 (by decide)).pad (pad_rep [] (.int (0 : Int32)) 8)
  have g_b6 : n0 ≤ b6 := Nat.le_trans (Nat.le_trans Z0 E5.1) (Nat.le_of_eq g6.symm)
  have sz_b6 : h0.size ≤ b6 := (Nat.le_trans K5.1 (Nat.le_of_eq g6.symm))
  have K6 : Keep h0 h6 [] := K5.ext E6
  have hne56 : b5 ≠ b6 := Nat.ne_of_lt (Nat.lt_of_lt_of_le V_b5.lt (Nat.le_of_eq g6.symm))
  -- pc 17: com/example/lean_relay/leanrelay/octets/ScanSamePinLaw.at by its contract rm1
  obtain ⟨_, _, ⟨T7, L7, k7, n7⟩, -, X7, ⟨Lc7, hQ7, l7, y7, z7⟩, st7⟩ := Jvm.LawKit.callS X6 hx (y := (⟨"com/example/lean_relay/leanrelay/octets/ScanSamePinLaw", "at", "(JI)B"⟩ : MethodName)) hown (mvT hZ (hw _ (List.mem_of_getElem? (i := 1) rfl))) (mvT hZ (hw _ (List.mem_of_getElem? (i := 2) rfl))) (mvT hZ (hw _ (List.mem_of_getElem? (i := 3) rfl))) (mvT hZ (hw _ (List.mem_of_getElem? (i := 4) rfl))) (by decide) (backOf (W := 2) (rm1 l Z a0 hw [] q1 (0 : Int32) h6 n0 (Nat.le_trans Z0 K6.1)) hZ (hw _ (List.mem_of_getElem? (i := 4) rfl)) (hw _ (List.mem_of_getElem? (i := 3) rfl)) (by decide) (by decide)) (g := (mkF m 17 #[.val (.long q1), .second, .val (.long q2), .second, .val (.int p3), .val (.int p4), .val (.ref b5), .val (.ref b6), .unset, .unset, .unset, .unset, .unset, .unset, .unset, .unset, .unset] [(.int (0 : Int32)), (.long q1), (.int (0 : Int32)), (.ref b5)])) rfl (by rw [hml]; rfl) (argsL := [(.long q1), (.int (0 : Int32))]) (rest := [(.int (0 : Int32)), (.ref b5)]) (lenOf pd_0_0 rfl) rfl (by show 2 * 0 + _ ≤ _; exact Nat.le_of_eq rfl) (hb hby at_17) (fun _ _ => ⟨rfl, e6, (by decide : 2 + 0 ≤ _), (by decide : 16 + 0 ≤ _)⟩)
  dsimp only [Pt.U, Pt.locs, Pt.cells, Pt.slots] at X7 l7 y7 z7 st7 hQ7
  subst l7 y7 z7
  obtain ⟨z7, rfl, N7q, hh7⟩ := hQ7
  have Kc7 : Keep h6 T7.heap [] := by rw [hh7]; exact Keep.refl _ _
  have Kh7 : Keep h0 T7.heap [] := by rw [hh7]; exact K6
  have N7 := Fr.app N0 N7q
  obtain ⟨cl_b5_20, Ar_b5, q_b5, S_b5, N_b5, H_b5, G_b5⟩ := ((V_b5.ext E6).keep Kc7 nin0)      -- open the array's fact as it stands now (its cell, kind, length, elements)
  have hin20 : ¬ ((0 : Int32) < 0 ∨ cl_b5_20.slots.size ≤ ((0 : Int32)).toNatClampNeg) := inb_of S_b5 ⟨by decide, by decide⟩
  obtain ⟨T8, h8, X8, e8, W8, st8⟩ := stB X7 hx hZ rfl Ar_b5 (j := (0 : Int32)) hin20 (g := (mkF m 20 #[.val (.long q1), .second, .val (.long q2), .second, .val (.int p3), .val (.int p4), .val (.ref b5), .val (.ref b6), .unset, .unset, .unset, .unset, .unset, .unset, .unset, .unset, .unset] [(.int z7), (.int (0 : Int32)), (.ref b5)])) rfl rfl (hb hby at_20)
  have V_b5_8 := Arv.set Ar_b5 q_b5 S_b5 N_b5 H_b5 G_b5 (fits_nar_byte _) W8 0 rfl (Nat.le_of_ble_eq_true rfl)      -- the array as it stands now (the place must lie among its first values: Arv.pad with pad_rep lengthens them)
  have K8 : Keep h0 h8 [] := Kh7.wr W8 (Or.inr sz_b5)
  have N8 := Fr.snoc X8 N7 g_b5
  -- pc 26: com/example/lean_relay/leanrelay/octets/ScanSamePinLaw.at by its contract rm1
  obtain ⟨_, _, ⟨T9, L9, k9, n9⟩, -, X9, ⟨Lc9, hQ9, l9, y9, z9⟩, st9⟩ := Jvm.LawKit.callS X8 hx (y := (⟨"com/example/lean_relay/leanrelay/octets/ScanSamePinLaw", "at", "(JI)B"⟩ : MethodName)) hown (mvT hZ (hw _ (List.mem_of_getElem? (i := 1) rfl))) (mvT hZ (hw _ (List.mem_of_getElem? (i := 2) rfl))) (mvT hZ (hw _ (List.mem_of_getElem? (i := 3) rfl))) (mvT hZ (hw _ (List.mem_of_getElem? (i := 4) rfl))) (by decide) (backOf (W := 2) (rm1 l Z a0 hw [] q1 (1 : Int32) h8 n0 (Nat.le_trans Z0 K8.1)) hZ (hw _ (List.mem_of_getElem? (i := 4) rfl)) (hw _ (List.mem_of_getElem? (i := 3) rfl)) (by decide) (by decide)) (g := (mkF m 26 #[.val (.long q1), .second, .val (.long q2), .second, .val (.int p3), .val (.int p4), .val (.ref b5), .val (.ref b6), .unset, .unset, .unset, .unset, .unset, .unset, .unset, .unset, .unset] [(.int (1 : Int32)), (.long q1), (.int (1 : Int32)), (.ref b5)])) rfl (by rw [hml]; rfl) (argsL := [(.long q1), (.int (1 : Int32))]) (rest := [(.int (1 : Int32)), (.ref b5)]) (lenOf pd_0_0 rfl) rfl (by show 2 * 0 + _ ≤ _; exact Nat.le_of_eq rfl) (hb hby at_26) (fun _ _ => ⟨rfl, e8, (by decide : 2 + 0 ≤ _), (by decide : 16 + 0 ≤ _)⟩)
  dsimp only [Pt.U, Pt.locs, Pt.cells, Pt.slots] at X9 l9 y9 z9 st9 hQ9
  subst l9 y9 z9
  obtain ⟨z9, rfl, N9q, hh9⟩ := hQ9
  have Kc9 : Keep h8 T9.heap [] := by rw [hh9]; exact Keep.refl _ _
  have Kh9 : Keep h0 T9.heap [] := by rw [hh9]; exact K8
  have N9 := Fr.app N8 N9q
  obtain ⟨cl_b5_29, Ar_b5, q_b5, S_b5, N_b5, H_b5, G_b5⟩ := (V_b5_8.keep Kc9 nin0)      -- open the array's fact as it stands now (its cell, kind, length, elements)
  have hin29 : ¬ ((1 : Int32) < 0 ∨ cl_b5_29.slots.size ≤ ((1 : Int32)).toNatClampNeg) := inb_of S_b5 ⟨by decide, by decide⟩
  obtain ⟨T10, h10, X10, e10, W10, st10⟩ := stB X9 hx hZ rfl Ar_b5 (j := (1 : Int32)) hin29 (g := (mkF m 29 #[.val (.long q1), .second, .val (.long q2), .second, .val (.int p3), .val (.int p4), .val (.ref b5), .val (.ref b6), .unset, .unset, .unset, .unset, .unset, .unset, .unset, .unset, .unset] [(.int z9), (.int (1 : Int32)), (.ref b5)])) rfl rfl (hb hby at_29)
  have V_b5_10 := Arv.set Ar_b5 q_b5 S_b5 N_b5 H_b5 G_b5 (fits_nar_byte _) W10 1 rfl (Nat.le_of_ble_eq_true rfl)      -- the array as it stands now (the place must lie among its first values: Arv.pad with pad_rep lengthens them)
  have K10 : Keep h0 h10 [] := Kh9.wr W10 (Or.inr sz_b5)
  have N10 := Fr.snoc X10 N9 g_b5
  -- pc 35: com/example/lean_relay/leanrelay/octets/ScanSamePinLaw.at by its contract rm1
  obtain ⟨_, _, ⟨T11, L11, k11, n11⟩, -, X11, ⟨Lc11, hQ11, l11, y11, z11⟩, st11⟩ := Jvm.LawKit.callS X10 hx (y := (⟨"com/example/lean_relay/leanrelay/octets/ScanSamePinLaw", "at", "(JI)B"⟩ : MethodName)) hown (mvT hZ (hw _ (List.mem_of_getElem? (i := 1) rfl))) (mvT hZ (hw _ (List.mem_of_getElem? (i := 2) rfl))) (mvT hZ (hw _ (List.mem_of_getElem? (i := 3) rfl))) (mvT hZ (hw _ (List.mem_of_getElem? (i := 4) rfl))) (by decide) (backOf (W := 2) (rm1 l Z a0 hw [] q1 (2 : Int32) h10 n0 (Nat.le_trans Z0 K10.1)) hZ (hw _ (List.mem_of_getElem? (i := 4) rfl)) (hw _ (List.mem_of_getElem? (i := 3) rfl)) (by decide) (by decide)) (g := (mkF m 35 #[.val (.long q1), .second, .val (.long q2), .second, .val (.int p3), .val (.int p4), .val (.ref b5), .val (.ref b6), .unset, .unset, .unset, .unset, .unset, .unset, .unset, .unset, .unset] [(.int (2 : Int32)), (.long q1), (.int (2 : Int32)), (.ref b5)])) rfl (by rw [hml]; rfl) (argsL := [(.long q1), (.int (2 : Int32))]) (rest := [(.int (2 : Int32)), (.ref b5)]) (lenOf pd_0_0 rfl) rfl (by show 2 * 0 + _ ≤ _; exact Nat.le_of_eq rfl) (hb hby at_35) (fun _ _ => ⟨rfl, e10, (by decide : 2 + 0 ≤ _), (by decide : 16 + 0 ≤ _)⟩)
  dsimp only [Pt.U, Pt.locs, Pt.cells, Pt.slots] at X11 l11 y11 z11 st11 hQ11
  subst l11 y11 z11
  obtain ⟨z11, rfl, N11q, hh11⟩ := hQ11
  have Kc11 : Keep h10 T11.heap [] := by rw [hh11]; exact Keep.refl _ _
  have Kh11 : Keep h0 T11.heap [] := by rw [hh11]; exact K10
  have N11 := Fr.app N10 N11q
  obtain ⟨cl_b5_38, Ar_b5, q_b5, S_b5, N_b5, H_b5, G_b5⟩ := (V_b5_10.keep Kc11 nin0)      -- open the array's fact as it stands now (its cell, kind, length, elements)
  have hin38 : ¬ ((2 : Int32) < 0 ∨ cl_b5_38.slots.size ≤ ((2 : Int32)).toNatClampNeg) := inb_of S_b5 ⟨by decide, by decide⟩
  obtain ⟨T12, h12, X12, e12, W12, st12⟩ := stB X11 hx hZ rfl Ar_b5 (j := (2 : Int32)) hin38 (g := (mkF m 38 #[.val (.long q1), .second, .val (.long q2), .second, .val (.int p3), .val (.int p4), .val (.ref b5), .val (.ref b6), .unset, .unset, .unset, .unset, .unset, .unset, .unset, .unset, .unset] [(.int z11), (.int (2 : Int32)), (.ref b5)])) rfl rfl (hb hby at_38)
  have V_b5_12 := Arv.set Ar_b5 q_b5 S_b5 N_b5 H_b5 G_b5 (fits_nar_byte _) W12 2 rfl (Nat.le_of_ble_eq_true rfl)      -- the array as it stands now (the place must lie among its first values: Arv.pad with pad_rep lengthens them)
  have K12 : Keep h0 h12 [] := Kh11.wr W12 (Or.inr sz_b5)
  have N12 := Fr.snoc X12 N11 g_b5
  -- pc 44: com/example/lean_relay/leanrelay/octets/ScanSamePinLaw.at by its contract rm1
  obtain ⟨_, _, ⟨T13, L13, k13, n13⟩, -, X13, ⟨Lc13, hQ13, l13, y13, z13⟩, st13⟩ := Jvm.LawKit.callS X12 hx (y := (⟨"com/example/lean_relay/leanrelay/octets/ScanSamePinLaw", "at", "(JI)B"⟩ : MethodName)) hown (mvT hZ (hw _ (List.mem_of_getElem? (i := 1) rfl))) (mvT hZ (hw _ (List.mem_of_getElem? (i := 2) rfl))) (mvT hZ (hw _ (List.mem_of_getElem? (i := 3) rfl))) (mvT hZ (hw _ (List.mem_of_getElem? (i := 4) rfl))) (by decide) (backOf (W := 2) (rm1 l Z a0 hw [] q1 (3 : Int32) h12 n0 (Nat.le_trans Z0 K12.1)) hZ (hw _ (List.mem_of_getElem? (i := 4) rfl)) (hw _ (List.mem_of_getElem? (i := 3) rfl)) (by decide) (by decide)) (g := (mkF m 44 #[.val (.long q1), .second, .val (.long q2), .second, .val (.int p3), .val (.int p4), .val (.ref b5), .val (.ref b6), .unset, .unset, .unset, .unset, .unset, .unset, .unset, .unset, .unset] [(.int (3 : Int32)), (.long q1), (.int (3 : Int32)), (.ref b5)])) rfl (by rw [hml]; rfl) (argsL := [(.long q1), (.int (3 : Int32))]) (rest := [(.int (3 : Int32)), (.ref b5)]) (lenOf pd_0_0 rfl) rfl (by show 2 * 0 + _ ≤ _; exact Nat.le_of_eq rfl) (hb hby at_44) (fun _ _ => ⟨rfl, e12, (by decide : 2 + 0 ≤ _), (by decide : 16 + 0 ≤ _)⟩)
  dsimp only [Pt.U, Pt.locs, Pt.cells, Pt.slots] at X13 l13 y13 z13 st13 hQ13
  subst l13 y13 z13
  obtain ⟨z13, rfl, N13q, hh13⟩ := hQ13
  have Kc13 : Keep h12 T13.heap [] := by rw [hh13]; exact Keep.refl _ _
  have Kh13 : Keep h0 T13.heap [] := by rw [hh13]; exact K12
  have N13 := Fr.app N12 N13q
  obtain ⟨cl_b5_47, Ar_b5, q_b5, S_b5, N_b5, H_b5, G_b5⟩ := (V_b5_12.keep Kc13 nin0)      -- open the array's fact as it stands now (its cell, kind, length, elements)
  have hin47 : ¬ ((3 : Int32) < 0 ∨ cl_b5_47.slots.size ≤ ((3 : Int32)).toNatClampNeg) := inb_of S_b5 ⟨by decide, by decide⟩
  obtain ⟨T14, h14, X14, e14, W14, st14⟩ := stB X13 hx hZ rfl Ar_b5 (j := (3 : Int32)) hin47 (g := (mkF m 47 #[.val (.long q1), .second, .val (.long q2), .second, .val (.int p3), .val (.int p4), .val (.ref b5), .val (.ref b6), .unset, .unset, .unset, .unset, .unset, .unset, .unset, .unset, .unset] [(.int z13), (.int (3 : Int32)), (.ref b5)])) rfl rfl (hb hby at_47)
  have V_b5_14 := Arv.set Ar_b5 q_b5 S_b5 N_b5 H_b5 G_b5 (fits_nar_byte _) W14 3 rfl (Nat.le_of_ble_eq_true rfl)      -- the array as it stands now (the place must lie among its first values: Arv.pad with pad_rep lengthens them)
  have K14 : Keep h0 h14 [] := Kh13.wr W14 (Or.inr sz_b5)
  have N14 := Fr.snoc X14 N13 g_b5
  -- pc 53: com/example/lean_relay/leanrelay/octets/ScanSamePinLaw.at by its contract rm1
  obtain ⟨_, _, ⟨T15, L15, k15, n15⟩, -, X15, ⟨Lc15, hQ15, l15, y15, z15⟩, st15⟩ := Jvm.LawKit.callS X14 hx (y := (⟨"com/example/lean_relay/leanrelay/octets/ScanSamePinLaw", "at", "(JI)B"⟩ : MethodName)) hown (mvT hZ (hw _ (List.mem_of_getElem? (i := 1) rfl))) (mvT hZ (hw _ (List.mem_of_getElem? (i := 2) rfl))) (mvT hZ (hw _ (List.mem_of_getElem? (i := 3) rfl))) (mvT hZ (hw _ (List.mem_of_getElem? (i := 4) rfl))) (by decide) (backOf (W := 2) (rm1 l Z a0 hw [] q1 (4 : Int32) h14 n0 (Nat.le_trans Z0 K14.1)) hZ (hw _ (List.mem_of_getElem? (i := 4) rfl)) (hw _ (List.mem_of_getElem? (i := 3) rfl)) (by decide) (by decide)) (g := (mkF m 53 #[.val (.long q1), .second, .val (.long q2), .second, .val (.int p3), .val (.int p4), .val (.ref b5), .val (.ref b6), .unset, .unset, .unset, .unset, .unset, .unset, .unset, .unset, .unset] [(.int (4 : Int32)), (.long q1), (.int (4 : Int32)), (.ref b5)])) rfl (by rw [hml]; rfl) (argsL := [(.long q1), (.int (4 : Int32))]) (rest := [(.int (4 : Int32)), (.ref b5)]) (lenOf pd_0_0 rfl) rfl (by show 2 * 0 + _ ≤ _; exact Nat.le_of_eq rfl) (hb hby at_53) (fun _ _ => ⟨rfl, e14, (by decide : 2 + 0 ≤ _), (by decide : 16 + 0 ≤ _)⟩)
  dsimp only [Pt.U, Pt.locs, Pt.cells, Pt.slots] at X15 l15 y15 z15 st15 hQ15
  subst l15 y15 z15
  obtain ⟨z15, rfl, N15q, hh15⟩ := hQ15
  have Kc15 : Keep h14 T15.heap [] := by rw [hh15]; exact Keep.refl _ _
  have Kh15 : Keep h0 T15.heap [] := by rw [hh15]; exact K14
  have N15 := Fr.app N14 N15q
  obtain ⟨cl_b5_56, Ar_b5, q_b5, S_b5, N_b5, H_b5, G_b5⟩ := (V_b5_14.keep Kc15 nin0)      -- open the array's fact as it stands now (its cell, kind, length, elements)
  have hin56 : ¬ ((4 : Int32) < 0 ∨ cl_b5_56.slots.size ≤ ((4 : Int32)).toNatClampNeg) := inb_of S_b5 ⟨by decide, by decide⟩
  obtain ⟨T16, h16, X16, e16, W16, st16⟩ := stB X15 hx hZ rfl Ar_b5 (j := (4 : Int32)) hin56 (g := (mkF m 56 #[.val (.long q1), .second, .val (.long q2), .second, .val (.int p3), .val (.int p4), .val (.ref b5), .val (.ref b6), .unset, .unset, .unset, .unset, .unset, .unset, .unset, .unset, .unset] [(.int z15), (.int (4 : Int32)), (.ref b5)])) rfl rfl (hb hby at_56)
  have V_b5_16 := Arv.set Ar_b5 q_b5 S_b5 N_b5 H_b5 G_b5 (fits_nar_byte _) W16 4 rfl (Nat.le_of_ble_eq_true rfl)      -- the array as it stands now (the place must lie among its first values: Arv.pad with pad_rep lengthens them)
  have K16 : Keep h0 h16 [] := Kh15.wr W16 (Or.inr sz_b5)
  have N16 := Fr.snoc X16 N15 g_b5
  -- pc 62: com/example/lean_relay/leanrelay/octets/ScanSamePinLaw.at by its contract rm1
  obtain ⟨_, _, ⟨T17, L17, k17, n17⟩, -, X17, ⟨Lc17, hQ17, l17, y17, z17⟩, st17⟩ := Jvm.LawKit.callS X16 hx (y := (⟨"com/example/lean_relay/leanrelay/octets/ScanSamePinLaw", "at", "(JI)B"⟩ : MethodName)) hown (mvT hZ (hw _ (List.mem_of_getElem? (i := 1) rfl))) (mvT hZ (hw _ (List.mem_of_getElem? (i := 2) rfl))) (mvT hZ (hw _ (List.mem_of_getElem? (i := 3) rfl))) (mvT hZ (hw _ (List.mem_of_getElem? (i := 4) rfl))) (by decide) (backOf (W := 2) (rm1 l Z a0 hw [] q1 (5 : Int32) h16 n0 (Nat.le_trans Z0 K16.1)) hZ (hw _ (List.mem_of_getElem? (i := 4) rfl)) (hw _ (List.mem_of_getElem? (i := 3) rfl)) (by decide) (by decide)) (g := (mkF m 62 #[.val (.long q1), .second, .val (.long q2), .second, .val (.int p3), .val (.int p4), .val (.ref b5), .val (.ref b6), .unset, .unset, .unset, .unset, .unset, .unset, .unset, .unset, .unset] [(.int (5 : Int32)), (.long q1), (.int (5 : Int32)), (.ref b5)])) rfl (by rw [hml]; rfl) (argsL := [(.long q1), (.int (5 : Int32))]) (rest := [(.int (5 : Int32)), (.ref b5)]) (lenOf pd_0_0 rfl) rfl (by show 2 * 0 + _ ≤ _; exact Nat.le_of_eq rfl) (hb hby at_62) (fun _ _ => ⟨rfl, e16, (by decide : 2 + 0 ≤ _), (by decide : 16 + 0 ≤ _)⟩)
  dsimp only [Pt.U, Pt.locs, Pt.cells, Pt.slots] at X17 l17 y17 z17 st17 hQ17
  subst l17 y17 z17
  obtain ⟨z17, rfl, N17q, hh17⟩ := hQ17
  have Kc17 : Keep h16 T17.heap [] := by rw [hh17]; exact Keep.refl _ _
  have Kh17 : Keep h0 T17.heap [] := by rw [hh17]; exact K16
  have N17 := Fr.app N16 N17q
  obtain ⟨cl_b5_65, Ar_b5, q_b5, S_b5, N_b5, H_b5, G_b5⟩ := (V_b5_16.keep Kc17 nin0)      -- open the array's fact as it stands now (its cell, kind, length, elements)
  have hin65 : ¬ ((5 : Int32) < 0 ∨ cl_b5_65.slots.size ≤ ((5 : Int32)).toNatClampNeg) := inb_of S_b5 ⟨by decide, by decide⟩
  obtain ⟨T18, h18, X18, e18, W18, st18⟩ := stB X17 hx hZ rfl Ar_b5 (j := (5 : Int32)) hin65 (g := (mkF m 65 #[.val (.long q1), .second, .val (.long q2), .second, .val (.int p3), .val (.int p4), .val (.ref b5), .val (.ref b6), .unset, .unset, .unset, .unset, .unset, .unset, .unset, .unset, .unset] [(.int z17), (.int (5 : Int32)), (.ref b5)])) rfl rfl (hb hby at_65)
  have V_b5_18 := Arv.set Ar_b5 q_b5 S_b5 N_b5 H_b5 G_b5 (fits_nar_byte _) W18 5 rfl (Nat.le_of_ble_eq_true rfl)      -- the array as it stands now (the place must lie among its first values: Arv.pad with pad_rep lengthens them)
  have K18 : Keep h0 h18 [] := Kh17.wr W18 (Or.inr sz_b5)
  have N18 := Fr.snoc X18 N17 g_b5
  -- pc 73: com/example/lean_relay/leanrelay/octets/ScanSamePinLaw.at by its contract rm1
  obtain ⟨_, _, ⟨T19, L19, k19, n19⟩, -, X19, ⟨Lc19, hQ19, l19, y19, z19⟩, st19⟩ := Jvm.LawKit.callS X18 hx (y := (⟨"com/example/lean_relay/leanrelay/octets/ScanSamePinLaw", "at", "(JI)B"⟩ : MethodName)) hown (mvT hZ (hw _ (List.mem_of_getElem? (i := 1) rfl))) (mvT hZ (hw _ (List.mem_of_getElem? (i := 2) rfl))) (mvT hZ (hw _ (List.mem_of_getElem? (i := 3) rfl))) (mvT hZ (hw _ (List.mem_of_getElem? (i := 4) rfl))) (by decide) (backOf (W := 2) (rm1 l Z a0 hw [] q1 (6 : Int32) h18 n0 (Nat.le_trans Z0 K18.1)) hZ (hw _ (List.mem_of_getElem? (i := 4) rfl)) (hw _ (List.mem_of_getElem? (i := 3) rfl)) (by decide) (by decide)) (g := (mkF m 73 #[.val (.long q1), .second, .val (.long q2), .second, .val (.int p3), .val (.int p4), .val (.ref b5), .val (.ref b6), .unset, .unset, .unset, .unset, .unset, .unset, .unset, .unset, .unset] [(.int (6 : Int32)), (.long q1), (.int (6 : Int32)), (.ref b5)])) rfl (by rw [hml]; rfl) (argsL := [(.long q1), (.int (6 : Int32))]) (rest := [(.int (6 : Int32)), (.ref b5)]) (lenOf pd_0_0 rfl) rfl (by show 2 * 0 + _ ≤ _; exact Nat.le_of_eq rfl) (hb hby at_73) (fun _ _ => ⟨rfl, e18, (by decide : 2 + 0 ≤ _), (by decide : 16 + 0 ≤ _)⟩)
  dsimp only [Pt.U, Pt.locs, Pt.cells, Pt.slots] at X19 l19 y19 z19 st19 hQ19
  subst l19 y19 z19
  obtain ⟨z19, rfl, N19q, hh19⟩ := hQ19
  have Kc19 : Keep h18 T19.heap [] := by rw [hh19]; exact Keep.refl _ _
  have Kh19 : Keep h0 T19.heap [] := by rw [hh19]; exact K18
  have N19 := Fr.app N18 N19q
  obtain ⟨cl_b5_76, Ar_b5, q_b5, S_b5, N_b5, H_b5, G_b5⟩ := (V_b5_18.keep Kc19 nin0)      -- open the array's fact as it stands now (its cell, kind, length, elements)
  have hin76 : ¬ ((6 : Int32) < 0 ∨ cl_b5_76.slots.size ≤ ((6 : Int32)).toNatClampNeg) := inb_of S_b5 ⟨by decide, by decide⟩
  obtain ⟨T20, h20, X20, e20, W20, st20⟩ := stB X19 hx hZ rfl Ar_b5 (j := (6 : Int32)) hin76 (g := (mkF m 76 #[.val (.long q1), .second, .val (.long q2), .second, .val (.int p3), .val (.int p4), .val (.ref b5), .val (.ref b6), .unset, .unset, .unset, .unset, .unset, .unset, .unset, .unset, .unset] [(.int z19), (.int (6 : Int32)), (.ref b5)])) rfl rfl (hb hby at_76)
  have V_b5_20 := Arv.set Ar_b5 q_b5 S_b5 N_b5 H_b5 G_b5 (fits_nar_byte _) W20 6 rfl (Nat.le_of_ble_eq_true rfl)      -- the array as it stands now (the place must lie among its first values: Arv.pad with pad_rep lengthens them)
  have K20 : Keep h0 h20 [] := Kh19.wr W20 (Or.inr sz_b5)
  have N20 := Fr.snoc X20 N19 g_b5
  -- pc 84: com/example/lean_relay/leanrelay/octets/ScanSamePinLaw.at by its contract rm1
  obtain ⟨_, _, ⟨T21, L21, k21, n21⟩, -, X21, ⟨Lc21, hQ21, l21, y21, z21⟩, st21⟩ := Jvm.LawKit.callS X20 hx (y := (⟨"com/example/lean_relay/leanrelay/octets/ScanSamePinLaw", "at", "(JI)B"⟩ : MethodName)) hown (mvT hZ (hw _ (List.mem_of_getElem? (i := 1) rfl))) (mvT hZ (hw _ (List.mem_of_getElem? (i := 2) rfl))) (mvT hZ (hw _ (List.mem_of_getElem? (i := 3) rfl))) (mvT hZ (hw _ (List.mem_of_getElem? (i := 4) rfl))) (by decide) (backOf (W := 2) (rm1 l Z a0 hw [] q1 (7 : Int32) h20 n0 (Nat.le_trans Z0 K20.1)) hZ (hw _ (List.mem_of_getElem? (i := 4) rfl)) (hw _ (List.mem_of_getElem? (i := 3) rfl)) (by decide) (by decide)) (g := (mkF m 84 #[.val (.long q1), .second, .val (.long q2), .second, .val (.int p3), .val (.int p4), .val (.ref b5), .val (.ref b6), .unset, .unset, .unset, .unset, .unset, .unset, .unset, .unset, .unset] [(.int (7 : Int32)), (.long q1), (.int (7 : Int32)), (.ref b5)])) rfl (by rw [hml]; rfl) (argsL := [(.long q1), (.int (7 : Int32))]) (rest := [(.int (7 : Int32)), (.ref b5)]) (lenOf pd_0_0 rfl) rfl (by show 2 * 0 + _ ≤ _; exact Nat.le_of_eq rfl) (hb hby at_84) (fun _ _ => ⟨rfl, e20, (by decide : 2 + 0 ≤ _), (by decide : 16 + 0 ≤ _)⟩)
  dsimp only [Pt.U, Pt.locs, Pt.cells, Pt.slots] at X21 l21 y21 z21 st21 hQ21
  subst l21 y21 z21
  obtain ⟨z21, rfl, N21q, hh21⟩ := hQ21
  have Kc21 : Keep h20 T21.heap [] := by rw [hh21]; exact Keep.refl _ _
  have Kh21 : Keep h0 T21.heap [] := by rw [hh21]; exact K20
  have N21 := Fr.app N20 N21q
  obtain ⟨cl_b5_87, Ar_b5, q_b5, S_b5, N_b5, H_b5, G_b5⟩ := (V_b5_20.keep Kc21 nin0)      -- open the array's fact as it stands now (its cell, kind, length, elements)
  have hin87 : ¬ ((7 : Int32) < 0 ∨ cl_b5_87.slots.size ≤ ((7 : Int32)).toNatClampNeg) := inb_of S_b5 ⟨by decide, by decide⟩
  obtain ⟨T22, h22, X22, e22, W22, st22⟩ := stB X21 hx hZ rfl Ar_b5 (j := (7 : Int32)) hin87 (g := (mkF m 87 #[.val (.long q1), .second, .val (.long q2), .second, .val (.int p3), .val (.int p4), .val (.ref b5), .val (.ref b6), .unset, .unset, .unset, .unset, .unset, .unset, .unset, .unset, .unset] [(.int z21), (.int (7 : Int32)), (.ref b5)])) rfl rfl (hb hby at_87)
  have V_b5_22 := Arv.set Ar_b5 q_b5 S_b5 N_b5 H_b5 G_b5 (fits_nar_byte _) W22 7 rfl (Nat.le_of_ble_eq_true rfl)      -- the array as it stands now (the place must lie among its first values: Arv.pad with pad_rep lengthens them)
  have K22 : Keep h0 h22 [] := Kh21.wr W22 (Or.inr sz_b5)
  have N22 := Fr.snoc X22 N21 g_b5
  obtain ⟨clx, x, Bx, -⟩ := own_open V_b5_22
  have V6 := ((((((((((((((((V_b6.keep Kc7 nin0).other W8 hne56.symm).keep Kc9 nin0).other W10 hne56.symm).keep Kc11 nin0).other W12 hne56.symm).keep Kc13 nin0).other W14 hne56.symm).keep Kc15 nin0).other W16 hne56.symm).keep Kc17 nin0).other W18 hne56.symm).keep Kc19 nin0).other W20 hne56.symm).keep Kc21 nin0).other W22 hne56.symm)
  refine ⟨T22, _, b5, b6, k6, clx, x, X22, N22, by rw [e22]; exact K22, by rw [e22]; exact Bx, by rw [e22]; exact V6, hne56, sz_b6, g_b6, fun target kt => ?_⟩
  show Steps p.tables e below (s₁.setTop (mkF m 0 #[.val (.long q1), .second, .val (.long q2), .second, .val (.int p3), .val (.int p4), .unset, .unset, .unset, .unset, .unset, .unset, .unset, .unset, .unset, .unset, .unset] [])) _
  refine XS.bipush X0.here hx rfl (hb hby at_0) ?_
  show Steps p.tables e below (s₁.setTop (mkF m 2 #[.val (.long q1), .second, .val (.long q2), .second, .val (.int p3), .val (.int p4), .unset, .unset, .unset, .unset, .unset, .unset, .unset, .unset, .unset, .unset, .unset] [(.int (8 : Int32))])) _
  refine st5 _ ?_
  show Steps p.tables e below (T5.setTop (mkF m 4 #[.val (.long q1), .second, .val (.long q2), .second, .val (.int p3), .val (.int p4), .unset, .unset, .unset, .unset, .unset, .unset, .unset, .unset, .unset, .unset, .unset] [(.ref b5)])) _
  refine XS.astore X5.here hx rfl (hb hby at_4) rfl rfl (l' := #[.val (.long q1), .second, .val (.long q2), .second, .val (.int p3), .val (.int p4), .val (.ref b5), .unset, .unset, .unset, .unset, .unset, .unset, .unset, .unset, .unset, .unset]) rfl ?_
  show Steps p.tables e below (T5.setTop (mkF m 6 #[.val (.long q1), .second, .val (.long q2), .second, .val (.int p3), .val (.int p4), .val (.ref b5), .unset, .unset, .unset, .unset, .unset, .unset, .unset, .unset, .unset, .unset] [])) _
  refine XS.bipush X5.here hx rfl (hb hby at_6) ?_
  show Steps p.tables e below (T5.setTop (mkF m 8 #[.val (.long q1), .second, .val (.long q2), .second, .val (.int p3), .val (.int p4), .val (.ref b5), .unset, .unset, .unset, .unset, .unset, .unset, .unset, .unset, .unset, .unset] [(.int (8 : Int32))])) _
  refine st6 _ ?_
  show Steps p.tables e below (T6.setTop (mkF m 10 #[.val (.long q1), .second, .val (.long q2), .second, .val (.int p3), .val (.int p4), .val (.ref b5), .unset, .unset, .unset, .unset, .unset, .unset, .unset, .unset, .unset, .unset] [(.ref b6)])) _
  refine XS.astore X6.here hx rfl (hb hby at_10) rfl rfl (l' := #[.val (.long q1), .second, .val (.long q2), .second, .val (.int p3), .val (.int p4), .val (.ref b5), .val (.ref b6), .unset, .unset, .unset, .unset, .unset, .unset, .unset, .unset, .unset]) rfl ?_
  show Steps p.tables e below (T6.setTop (mkF m 12 #[.val (.long q1), .second, .val (.long q2), .second, .val (.int p3), .val (.int p4), .val (.ref b5), .val (.ref b6), .unset, .unset, .unset, .unset, .unset, .unset, .unset, .unset, .unset] [])) _
  refine XS.aload X6.here hx rfl (hb hby at_12) rfl rfl ?_
  show Steps p.tables e below (T6.setTop (mkF m 14 #[.val (.long q1), .second, .val (.long q2), .second, .val (.int p3), .val (.int p4), .val (.ref b5), .val (.ref b6), .unset, .unset, .unset, .unset, .unset, .unset, .unset, .unset, .unset] [(.ref b5)])) _
  refine XS.iconst X6.here hx rfl (hb hby at_14) ?_
  show Steps p.tables e below (T6.setTop (mkF m 15 #[.val (.long q1), .second, .val (.long q2), .second, .val (.int p3), .val (.int p4), .val (.ref b5), .val (.ref b6), .unset, .unset, .unset, .unset, .unset, .unset, .unset, .unset, .unset] [(.int (0 : Int32)), (.ref b5)])) _
  refine XS.lloadN X6.here hx rfl (hb hby at_15) rfl ?_
  show Steps p.tables e below (T6.setTop (mkF m 16 #[.val (.long q1), .second, .val (.long q2), .second, .val (.int p3), .val (.int p4), .val (.ref b5), .val (.ref b6), .unset, .unset, .unset, .unset, .unset, .unset, .unset, .unset, .unset] [(.long q1), (.int (0 : Int32)), (.ref b5)])) _
  refine XS.iconst X6.here hx rfl (hb hby at_16) ?_
  show Steps p.tables e below (T6.setTop (mkF m 17 #[.val (.long q1), .second, .val (.long q2), .second, .val (.int p3), .val (.int p4), .val (.ref b5), .val (.ref b6), .unset, .unset, .unset, .unset, .unset, .unset, .unset, .unset, .unset] [(.int (0 : Int32)), (.long q1), (.int (0 : Int32)), (.ref b5)])) _
  refine st7 _ ?_
  show Steps p.tables e below (T7.setTop (mkF m 20 #[.val (.long q1), .second, .val (.long q2), .second, .val (.int p3), .val (.int p4), .val (.ref b5), .val (.ref b6), .unset, .unset, .unset, .unset, .unset, .unset, .unset, .unset, .unset] [(.int z7), (.int (0 : Int32)), (.ref b5)])) _
  refine st8 _ ?_
  show Steps p.tables e below (T8.setTop (mkF m 21 #[.val (.long q1), .second, .val (.long q2), .second, .val (.int p3), .val (.int p4), .val (.ref b5), .val (.ref b6), .unset, .unset, .unset, .unset, .unset, .unset, .unset, .unset, .unset] [])) _
  refine XS.aload X8.here hx rfl (hb hby at_21) rfl rfl ?_
  show Steps p.tables e below (T8.setTop (mkF m 23 #[.val (.long q1), .second, .val (.long q2), .second, .val (.int p3), .val (.int p4), .val (.ref b5), .val (.ref b6), .unset, .unset, .unset, .unset, .unset, .unset, .unset, .unset, .unset] [(.ref b5)])) _
  refine XS.iconst X8.here hx rfl (hb hby at_23) ?_
  show Steps p.tables e below (T8.setTop (mkF m 24 #[.val (.long q1), .second, .val (.long q2), .second, .val (.int p3), .val (.int p4), .val (.ref b5), .val (.ref b6), .unset, .unset, .unset, .unset, .unset, .unset, .unset, .unset, .unset] [(.int (1 : Int32)), (.ref b5)])) _
  refine XS.lloadN X8.here hx rfl (hb hby at_24) rfl ?_
  show Steps p.tables e below (T8.setTop (mkF m 25 #[.val (.long q1), .second, .val (.long q2), .second, .val (.int p3), .val (.int p4), .val (.ref b5), .val (.ref b6), .unset, .unset, .unset, .unset, .unset, .unset, .unset, .unset, .unset] [(.long q1), (.int (1 : Int32)), (.ref b5)])) _
  refine XS.iconst X8.here hx rfl (hb hby at_25) ?_
  show Steps p.tables e below (T8.setTop (mkF m 26 #[.val (.long q1), .second, .val (.long q2), .second, .val (.int p3), .val (.int p4), .val (.ref b5), .val (.ref b6), .unset, .unset, .unset, .unset, .unset, .unset, .unset, .unset, .unset] [(.int (1 : Int32)), (.long q1), (.int (1 : Int32)), (.ref b5)])) _
  refine st9 _ ?_
  show Steps p.tables e below (T9.setTop (mkF m 29 #[.val (.long q1), .second, .val (.long q2), .second, .val (.int p3), .val (.int p4), .val (.ref b5), .val (.ref b6), .unset, .unset, .unset, .unset, .unset, .unset, .unset, .unset, .unset] [(.int z9), (.int (1 : Int32)), (.ref b5)])) _
  refine st10 _ ?_
  show Steps p.tables e below (T10.setTop (mkF m 30 #[.val (.long q1), .second, .val (.long q2), .second, .val (.int p3), .val (.int p4), .val (.ref b5), .val (.ref b6), .unset, .unset, .unset, .unset, .unset, .unset, .unset, .unset, .unset] [])) _
  refine XS.aload X10.here hx rfl (hb hby at_30) rfl rfl ?_
  show Steps p.tables e below (T10.setTop (mkF m 32 #[.val (.long q1), .second, .val (.long q2), .second, .val (.int p3), .val (.int p4), .val (.ref b5), .val (.ref b6), .unset, .unset, .unset, .unset, .unset, .unset, .unset, .unset, .unset] [(.ref b5)])) _
  refine XS.iconst X10.here hx rfl (hb hby at_32) ?_
  show Steps p.tables e below (T10.setTop (mkF m 33 #[.val (.long q1), .second, .val (.long q2), .second, .val (.int p3), .val (.int p4), .val (.ref b5), .val (.ref b6), .unset, .unset, .unset, .unset, .unset, .unset, .unset, .unset, .unset] [(.int (2 : Int32)), (.ref b5)])) _
  refine XS.lloadN X10.here hx rfl (hb hby at_33) rfl ?_
  show Steps p.tables e below (T10.setTop (mkF m 34 #[.val (.long q1), .second, .val (.long q2), .second, .val (.int p3), .val (.int p4), .val (.ref b5), .val (.ref b6), .unset, .unset, .unset, .unset, .unset, .unset, .unset, .unset, .unset] [(.long q1), (.int (2 : Int32)), (.ref b5)])) _
  refine XS.iconst X10.here hx rfl (hb hby at_34) ?_
  show Steps p.tables e below (T10.setTop (mkF m 35 #[.val (.long q1), .second, .val (.long q2), .second, .val (.int p3), .val (.int p4), .val (.ref b5), .val (.ref b6), .unset, .unset, .unset, .unset, .unset, .unset, .unset, .unset, .unset] [(.int (2 : Int32)), (.long q1), (.int (2 : Int32)), (.ref b5)])) _
  refine st11 _ ?_
  show Steps p.tables e below (T11.setTop (mkF m 38 #[.val (.long q1), .second, .val (.long q2), .second, .val (.int p3), .val (.int p4), .val (.ref b5), .val (.ref b6), .unset, .unset, .unset, .unset, .unset, .unset, .unset, .unset, .unset] [(.int z11), (.int (2 : Int32)), (.ref b5)])) _
  refine st12 _ ?_
  show Steps p.tables e below (T12.setTop (mkF m 39 #[.val (.long q1), .second, .val (.long q2), .second, .val (.int p3), .val (.int p4), .val (.ref b5), .val (.ref b6), .unset, .unset, .unset, .unset, .unset, .unset, .unset, .unset, .unset] [])) _
  refine XS.aload X12.here hx rfl (hb hby at_39) rfl rfl ?_
  show Steps p.tables e below (T12.setTop (mkF m 41 #[.val (.long q1), .second, .val (.long q2), .second, .val (.int p3), .val (.int p4), .val (.ref b5), .val (.ref b6), .unset, .unset, .unset, .unset, .unset, .unset, .unset, .unset, .unset] [(.ref b5)])) _
  refine XS.iconst X12.here hx rfl (hb hby at_41) ?_
  show Steps p.tables e below (T12.setTop (mkF m 42 #[.val (.long q1), .second, .val (.long q2), .second, .val (.int p3), .val (.int p4), .val (.ref b5), .val (.ref b6), .unset, .unset, .unset, .unset, .unset, .unset, .unset, .unset, .unset] [(.int (3 : Int32)), (.ref b5)])) _
  refine XS.lloadN X12.here hx rfl (hb hby at_42) rfl ?_
  show Steps p.tables e below (T12.setTop (mkF m 43 #[.val (.long q1), .second, .val (.long q2), .second, .val (.int p3), .val (.int p4), .val (.ref b5), .val (.ref b6), .unset, .unset, .unset, .unset, .unset, .unset, .unset, .unset, .unset] [(.long q1), (.int (3 : Int32)), (.ref b5)])) _
  refine XS.iconst X12.here hx rfl (hb hby at_43) ?_
  show Steps p.tables e below (T12.setTop (mkF m 44 #[.val (.long q1), .second, .val (.long q2), .second, .val (.int p3), .val (.int p4), .val (.ref b5), .val (.ref b6), .unset, .unset, .unset, .unset, .unset, .unset, .unset, .unset, .unset] [(.int (3 : Int32)), (.long q1), (.int (3 : Int32)), (.ref b5)])) _
  refine st13 _ ?_
  show Steps p.tables e below (T13.setTop (mkF m 47 #[.val (.long q1), .second, .val (.long q2), .second, .val (.int p3), .val (.int p4), .val (.ref b5), .val (.ref b6), .unset, .unset, .unset, .unset, .unset, .unset, .unset, .unset, .unset] [(.int z13), (.int (3 : Int32)), (.ref b5)])) _
  refine st14 _ ?_
  show Steps p.tables e below (T14.setTop (mkF m 48 #[.val (.long q1), .second, .val (.long q2), .second, .val (.int p3), .val (.int p4), .val (.ref b5), .val (.ref b6), .unset, .unset, .unset, .unset, .unset, .unset, .unset, .unset, .unset] [])) _
  refine XS.aload X14.here hx rfl (hb hby at_48) rfl rfl ?_
  show Steps p.tables e below (T14.setTop (mkF m 50 #[.val (.long q1), .second, .val (.long q2), .second, .val (.int p3), .val (.int p4), .val (.ref b5), .val (.ref b6), .unset, .unset, .unset, .unset, .unset, .unset, .unset, .unset, .unset] [(.ref b5)])) _
  refine XS.iconst X14.here hx rfl (hb hby at_50) ?_
  show Steps p.tables e below (T14.setTop (mkF m 51 #[.val (.long q1), .second, .val (.long q2), .second, .val (.int p3), .val (.int p4), .val (.ref b5), .val (.ref b6), .unset, .unset, .unset, .unset, .unset, .unset, .unset, .unset, .unset] [(.int (4 : Int32)), (.ref b5)])) _
  refine XS.lloadN X14.here hx rfl (hb hby at_51) rfl ?_
  show Steps p.tables e below (T14.setTop (mkF m 52 #[.val (.long q1), .second, .val (.long q2), .second, .val (.int p3), .val (.int p4), .val (.ref b5), .val (.ref b6), .unset, .unset, .unset, .unset, .unset, .unset, .unset, .unset, .unset] [(.long q1), (.int (4 : Int32)), (.ref b5)])) _
  refine XS.iconst X14.here hx rfl (hb hby at_52) ?_
  show Steps p.tables e below (T14.setTop (mkF m 53 #[.val (.long q1), .second, .val (.long q2), .second, .val (.int p3), .val (.int p4), .val (.ref b5), .val (.ref b6), .unset, .unset, .unset, .unset, .unset, .unset, .unset, .unset, .unset] [(.int (4 : Int32)), (.long q1), (.int (4 : Int32)), (.ref b5)])) _
  refine st15 _ ?_
  show Steps p.tables e below (T15.setTop (mkF m 56 #[.val (.long q1), .second, .val (.long q2), .second, .val (.int p3), .val (.int p4), .val (.ref b5), .val (.ref b6), .unset, .unset, .unset, .unset, .unset, .unset, .unset, .unset, .unset] [(.int z15), (.int (4 : Int32)), (.ref b5)])) _
  refine st16 _ ?_
  show Steps p.tables e below (T16.setTop (mkF m 57 #[.val (.long q1), .second, .val (.long q2), .second, .val (.int p3), .val (.int p4), .val (.ref b5), .val (.ref b6), .unset, .unset, .unset, .unset, .unset, .unset, .unset, .unset, .unset] [])) _
  refine XS.aload X16.here hx rfl (hb hby at_57) rfl rfl ?_
  show Steps p.tables e below (T16.setTop (mkF m 59 #[.val (.long q1), .second, .val (.long q2), .second, .val (.int p3), .val (.int p4), .val (.ref b5), .val (.ref b6), .unset, .unset, .unset, .unset, .unset, .unset, .unset, .unset, .unset] [(.ref b5)])) _
  refine XS.iconst X16.here hx rfl (hb hby at_59) ?_
  show Steps p.tables e below (T16.setTop (mkF m 60 #[.val (.long q1), .second, .val (.long q2), .second, .val (.int p3), .val (.int p4), .val (.ref b5), .val (.ref b6), .unset, .unset, .unset, .unset, .unset, .unset, .unset, .unset, .unset] [(.int (5 : Int32)), (.ref b5)])) _
  refine XS.lloadN X16.here hx rfl (hb hby at_60) rfl ?_
  show Steps p.tables e below (T16.setTop (mkF m 61 #[.val (.long q1), .second, .val (.long q2), .second, .val (.int p3), .val (.int p4), .val (.ref b5), .val (.ref b6), .unset, .unset, .unset, .unset, .unset, .unset, .unset, .unset, .unset] [(.long q1), (.int (5 : Int32)), (.ref b5)])) _
  refine XS.iconst X16.here hx rfl (hb hby at_61) ?_
  show Steps p.tables e below (T16.setTop (mkF m 62 #[.val (.long q1), .second, .val (.long q2), .second, .val (.int p3), .val (.int p4), .val (.ref b5), .val (.ref b6), .unset, .unset, .unset, .unset, .unset, .unset, .unset, .unset, .unset] [(.int (5 : Int32)), (.long q1), (.int (5 : Int32)), (.ref b5)])) _
  refine st17 _ ?_
  show Steps p.tables e below (T17.setTop (mkF m 65 #[.val (.long q1), .second, .val (.long q2), .second, .val (.int p3), .val (.int p4), .val (.ref b5), .val (.ref b6), .unset, .unset, .unset, .unset, .unset, .unset, .unset, .unset, .unset] [(.int z17), (.int (5 : Int32)), (.ref b5)])) _
  refine st18 _ ?_
  show Steps p.tables e below (T18.setTop (mkF m 66 #[.val (.long q1), .second, .val (.long q2), .second, .val (.int p3), .val (.int p4), .val (.ref b5), .val (.ref b6), .unset, .unset, .unset, .unset, .unset, .unset, .unset, .unset, .unset] [])) _
  refine XS.aload X18.here hx rfl (hb hby at_66) rfl rfl ?_
  show Steps p.tables e below (T18.setTop (mkF m 68 #[.val (.long q1), .second, .val (.long q2), .second, .val (.int p3), .val (.int p4), .val (.ref b5), .val (.ref b6), .unset, .unset, .unset, .unset, .unset, .unset, .unset, .unset, .unset] [(.ref b5)])) _
  refine XS.bipush X18.here hx rfl (hb hby at_68) ?_
  show Steps p.tables e below (T18.setTop (mkF m 70 #[.val (.long q1), .second, .val (.long q2), .second, .val (.int p3), .val (.int p4), .val (.ref b5), .val (.ref b6), .unset, .unset, .unset, .unset, .unset, .unset, .unset, .unset, .unset] [(.int (6 : Int32)), (.ref b5)])) _
  refine XS.lloadN X18.here hx rfl (hb hby at_70) rfl ?_
  show Steps p.tables e below (T18.setTop (mkF m 71 #[.val (.long q1), .second, .val (.long q2), .second, .val (.int p3), .val (.int p4), .val (.ref b5), .val (.ref b6), .unset, .unset, .unset, .unset, .unset, .unset, .unset, .unset, .unset] [(.long q1), (.int (6 : Int32)), (.ref b5)])) _
  refine XS.bipush X18.here hx rfl (hb hby at_71) ?_
  show Steps p.tables e below (T18.setTop (mkF m 73 #[.val (.long q1), .second, .val (.long q2), .second, .val (.int p3), .val (.int p4), .val (.ref b5), .val (.ref b6), .unset, .unset, .unset, .unset, .unset, .unset, .unset, .unset, .unset] [(.int (6 : Int32)), (.long q1), (.int (6 : Int32)), (.ref b5)])) _
  refine st19 _ ?_
  show Steps p.tables e below (T19.setTop (mkF m 76 #[.val (.long q1), .second, .val (.long q2), .second, .val (.int p3), .val (.int p4), .val (.ref b5), .val (.ref b6), .unset, .unset, .unset, .unset, .unset, .unset, .unset, .unset, .unset] [(.int z19), (.int (6 : Int32)), (.ref b5)])) _
  refine st20 _ ?_
  show Steps p.tables e below (T20.setTop (mkF m 77 #[.val (.long q1), .second, .val (.long q2), .second, .val (.int p3), .val (.int p4), .val (.ref b5), .val (.ref b6), .unset, .unset, .unset, .unset, .unset, .unset, .unset, .unset, .unset] [])) _
  refine XS.aload X20.here hx rfl (hb hby at_77) rfl rfl ?_
  show Steps p.tables e below (T20.setTop (mkF m 79 #[.val (.long q1), .second, .val (.long q2), .second, .val (.int p3), .val (.int p4), .val (.ref b5), .val (.ref b6), .unset, .unset, .unset, .unset, .unset, .unset, .unset, .unset, .unset] [(.ref b5)])) _
  refine XS.bipush X20.here hx rfl (hb hby at_79) ?_
  show Steps p.tables e below (T20.setTop (mkF m 81 #[.val (.long q1), .second, .val (.long q2), .second, .val (.int p3), .val (.int p4), .val (.ref b5), .val (.ref b6), .unset, .unset, .unset, .unset, .unset, .unset, .unset, .unset, .unset] [(.int (7 : Int32)), (.ref b5)])) _
  refine XS.lloadN X20.here hx rfl (hb hby at_81) rfl ?_
  show Steps p.tables e below (T20.setTop (mkF m 82 #[.val (.long q1), .second, .val (.long q2), .second, .val (.int p3), .val (.int p4), .val (.ref b5), .val (.ref b6), .unset, .unset, .unset, .unset, .unset, .unset, .unset, .unset, .unset] [(.long q1), (.int (7 : Int32)), (.ref b5)])) _
  refine XS.bipush X20.here hx rfl (hb hby at_82) ?_
  show Steps p.tables e below (T20.setTop (mkF m 84 #[.val (.long q1), .second, .val (.long q2), .second, .val (.int p3), .val (.int p4), .val (.ref b5), .val (.ref b6), .unset, .unset, .unset, .unset, .unset, .unset, .unset, .unset, .unset] [(.int (7 : Int32)), (.long q1), (.int (7 : Int32)), (.ref b5)])) _
  refine st21 _ ?_
  show Steps p.tables e below (T21.setTop (mkF m 87 #[.val (.long q1), .second, .val (.long q2), .second, .val (.int p3), .val (.int p4), .val (.ref b5), .val (.ref b6), .unset, .unset, .unset, .unset, .unset, .unset, .unset, .unset, .unset] [(.int z21), (.int (7 : Int32)), (.ref b5)])) _
  refine st22 _ ?_
  show Steps p.tables e below (T22.setTop (mkF m 88 #[.val (.long q1), .second, .val (.long q2), .second, .val (.int p3), .val (.int p4), .val (.ref b5), .val (.ref b6), .unset, .unset, .unset, .unset, .unset, .unset, .unset, .unset, .unset] [])) _
  exact kt
set_option maxRecDepth 65536 in
set_option maxHeartbeats 40000000 in
theorem own_fill2 {p : Program} {l : Launch} {e : Env} {s : State} {m : MethodId} {args : Array Value} {below : List Frame} {meth : Method} {c : Code} {Z : State} {a0 : Array Value} {h0 : Heap} {n0 : Nat} {q1 q2 : Int64} {p3 p4 : Int32} {T22 : State} {h22 : Heap} {locs22 : List Loc} {b5 b6 : Addr} {k6 : ClassId} {clx : Cell} {x : Nat → Int32} (X22 : Stand p l e room_1 s m args below meth c T22 locs22 2 16) (hx : p.tables.exec = Jvm.exec) (hZ : Z.Warmed39 s.vm) (hw : ∀ d ∈ tables_1, d.before a0 Z = true) (hby : c.code = code) (hml : c.maxLocals = 17) (hown : s.vm.findClass "com/example/lean_relay/leanrelay/octets/ScanSamePinLaw" = some m.cls) (Z0 : n0 ≤ h0.size) (e22 : T22.heap = h22) (N22 : Fr n0 locs22) (K22 : Keep h0 h22 []) (Bx : own_B Z h22 b5 clx x) (V_b6 : Arv Z h22 b6 k6 .byte (8 : Int32) [(.int (0 : Int32)), (.int (0 : Int32)), (.int (0 : Int32)), (.int (0 : Int32)), (.int (0 : Int32)), (.int (0 : Int32)), (.int (0 : Int32)), (.int (0 : Int32))] (.int (0 : Int32))) (hne56 : b5 ≠ b6) (sz_b6 : h0.size ≤ b6) (g_b6 : n0 ≤ b6) :
    ∃ (T38 : State) (locs38 : List Loc) (vs0 : List Value), Stand p l e room_1 s m args below meth c T38 locs38 2 16 ∧ Fr n0 locs38 ∧ Keep h0 T38.heap [] ∧ own_B Z T38.heap b5 clx x ∧ vs0.length = 8 ∧ Arv Z T38.heap b6 k6 .byte (8 : Int32) vs0 (.int (0 : Int32)) ∧
      ∀ target, Steps p.tables e below (T38.setTop (mkF m 164 #[.val (.long q1), .second, .val (.long q2), .second, .val (.int p3), .val (.int p4), .val (.ref b5), .val (.ref b6), .unset, .unset, .unset, .unset, .unset, .unset, .unset, .unset, .unset] [])) target → Steps p.tables e below (T22.setTop (mkF m 88 #[.val (.long q1), .second, .val (.long q2), .second, .val (.int p3), .val (.int p4), .val (.ref b5), .val (.ref b6), .unset, .unset, .unset, .unset, .unset, .unset, .unset, .unset, .unset] [])) target := by
  -- pc 93: com/example/lean_relay/leanrelay/octets/ScanSamePinLaw.at by its contract rm1
  obtain ⟨_, _, ⟨T23, L23, k23, n23⟩, -, X23, ⟨Lc23, hQ23, l23, y23, z23⟩, st23⟩ := Jvm.LawKit.callS X22 hx (y := (⟨"com/example/lean_relay/leanrelay/octets/ScanSamePinLaw", "at", "(JI)B"⟩ : MethodName)) hown (mvT hZ (hw _ (List.mem_of_getElem? (i := 1) rfl))) (mvT hZ (hw _ (List.mem_of_getElem? (i := 2) rfl))) (mvT hZ (hw _ (List.mem_of_getElem? (i := 3) rfl))) (mvT hZ (hw _ (List.mem_of_getElem? (i := 4) rfl))) (by decide) (backOf (W := 2) (rm1 l Z a0 hw [] q2 (0 : Int32) h22 n0 (Nat.le_trans Z0 K22.1)) hZ (hw _ (List.mem_of_getElem? (i := 4) rfl)) (hw _ (List.mem_of_getElem? (i := 3) rfl)) (by decide) (by decide)) (g := (mkF m 93 #[.val (.long q1), .second, .val (.long q2), .second, .val (.int p3), .val (.int p4), .val (.ref b5), .val (.ref b6), .unset, .unset, .unset, .unset, .unset, .unset, .unset, .unset, .unset] [(.int (0 : Int32)), (.long q2), (.int (0 : Int32)), (.ref b6)])) rfl (by rw [hml]; rfl) (argsL := [(.long q2), (.int (0 : Int32))]) (rest := [(.int (0 : Int32)), (.ref b6)]) (lenOf pd_0_0 rfl) rfl (by show 2 * 0 + _ ≤ _; exact Nat.le_of_eq rfl) (hb hby at_93) (fun _ _ => ⟨rfl, e22, (by decide : 2 + 0 ≤ _), (by decide : 16 + 0 ≤ _)⟩)
  dsimp only [Pt.U, Pt.locs, Pt.cells, Pt.slots] at X23 l23 y23 z23 st23 hQ23
  subst l23 y23 z23
  obtain ⟨z23, rfl, N23q, hh23⟩ := hQ23
  have Kc23 : Keep h22 T23.heap [] := by rw [hh23]; exact Keep.refl _ _
  have Kh23 : Keep h0 T23.heap [] := by rw [hh23]; exact K22
  have N23 := Fr.app N22 N23q
  obtain ⟨cl_b6_96, Ar_b6, q_b6, S_b6, N_b6, H_b6, G_b6⟩ := V_b6.keep Kc23 nin0
  have hin96 : ¬ ((0 : Int32) < 0 ∨ cl_b6_96.slots.size ≤ ((0 : Int32)).toNatClampNeg) := inb_of S_b6 ⟨by decide, by decide⟩
  obtain ⟨T24, h24, X24, e24, W24, st24⟩ := stB X23 hx hZ rfl Ar_b6 (j := (0 : Int32)) hin96 (g := (mkF m 96 #[.val (.long q1), .second, .val (.long q2), .second, .val (.int p3), .val (.int p4), .val (.ref b5), .val (.ref b6), .unset, .unset, .unset, .unset, .unset, .unset, .unset, .unset, .unset] [(.int z23), (.int (0 : Int32)), (.ref b6)])) rfl rfl (hb hby at_96)
  have V_b6_24 := Arv.set Ar_b6 q_b6 S_b6 N_b6 H_b6 G_b6 (fits_nar_byte _) W24 0 rfl (Nat.le_of_ble_eq_true rfl)      -- the array as it stands now (the place must lie among its first values: Arv.pad with pad_rep lengthens them)
  have K24 : Keep h0 h24 [] := Kh23.wr W24 (Or.inr sz_b6)
  have N24 := Fr.snoc X24 N23 g_b6
  -- pc 102: com/example/lean_relay/leanrelay/octets/ScanSamePinLaw.at by its contract rm1
  obtain ⟨_, _, ⟨T25, L25, k25, n25⟩, -, X25, ⟨Lc25, hQ25, l25, y25, z25⟩, st25⟩ := Jvm.LawKit.callS X24 hx (y := (⟨"com/example/lean_relay/leanrelay/octets/ScanSamePinLaw", "at", "(JI)B"⟩ : MethodName)) hown (mvT hZ (hw _ (List.mem_of_getElem? (i := 1) rfl))) (mvT hZ (hw _ (List.mem_of_getElem? (i := 2) rfl))) (mvT hZ (hw _ (List.mem_of_getElem? (i := 3) rfl))) (mvT hZ (hw _ (List.mem_of_getElem? (i := 4) rfl))) (by decide) (backOf (W := 2) (rm1 l Z a0 hw [] q2 (1 : Int32) h24 n0 (Nat.le_trans Z0 K24.1)) hZ (hw _ (List.mem_of_getElem? (i := 4) rfl)) (hw _ (List.mem_of_getElem? (i := 3) rfl)) (by decide) (by decide)) (g := (mkF m 102 #[.val (.long q1), .second, .val (.long q2), .second, .val (.int p3), .val (.int p4), .val (.ref b5), .val (.ref b6), .unset, .unset, .unset, .unset, .unset, .unset, .unset, .unset, .unset] [(.int (1 : Int32)), (.long q2), (.int (1 : Int32)), (.ref b6)])) rfl (by rw [hml]; rfl) (argsL := [(.long q2), (.int (1 : Int32))]) (rest := [(.int (1 : Int32)), (.ref b6)]) (lenOf pd_0_0 rfl) rfl (by show 2 * 0 + _ ≤ _; exact Nat.le_of_eq rfl) (hb hby at_102) (fun _ _ => ⟨rfl, e24, (by decide : 2 + 0 ≤ _), (by decide : 16 + 0 ≤ _)⟩)
  dsimp only [Pt.U, Pt.locs, Pt.cells, Pt.slots] at X25 l25 y25 z25 st25 hQ25
  subst l25 y25 z25
  obtain ⟨z25, rfl, N25q, hh25⟩ := hQ25
  have Kc25 : Keep h24 T25.heap [] := by rw [hh25]; exact Keep.refl _ _
  have Kh25 : Keep h0 T25.heap [] := by rw [hh25]; exact K24
  have N25 := Fr.app N24 N25q
  obtain ⟨cl_b6_105, Ar_b6, q_b6, S_b6, N_b6, H_b6, G_b6⟩ := (V_b6_24.keep Kc25 nin0)      -- open the array's fact as it stands now (its cell, kind, length, elements)
  have hin105 : ¬ ((1 : Int32) < 0 ∨ cl_b6_105.slots.size ≤ ((1 : Int32)).toNatClampNeg) := inb_of S_b6 ⟨by decide, by decide⟩
  obtain ⟨T26, h26, X26, e26, W26, st26⟩ := stB X25 hx hZ rfl Ar_b6 (j := (1 : Int32)) hin105 (g := (mkF m 105 #[.val (.long q1), .second, .val (.long q2), .second, .val (.int p3), .val (.int p4), .val (.ref b5), .val (.ref b6), .unset, .unset, .unset, .unset, .unset, .unset, .unset, .unset, .unset] [(.int z25), (.int (1 : Int32)), (.ref b6)])) rfl rfl (hb hby at_105)
  have V_b6_26 := Arv.set Ar_b6 q_b6 S_b6 N_b6 H_b6 G_b6 (fits_nar_byte _) W26 1 rfl (Nat.le_of_ble_eq_true rfl)      -- the array as it stands now (the place must lie among its first values: Arv.pad with pad_rep lengthens them)
  have K26 : Keep h0 h26 [] := Kh25.wr W26 (Or.inr sz_b6)
  have N26 := Fr.snoc X26 N25 g_b6
  -- pc 111: com/example/lean_relay/leanrelay/octets/ScanSamePinLaw.at by its contract rm1
  obtain ⟨_, _, ⟨T27, L27, k27, n27⟩, -, X27, ⟨Lc27, hQ27, l27, y27, z27⟩, st27⟩ := Jvm.LawKit.callS X26 hx (y := (⟨"com/example/lean_relay/leanrelay/octets/ScanSamePinLaw", "at", "(JI)B"⟩ : MethodName)) hown (mvT hZ (hw _ (List.mem_of_getElem? (i := 1) rfl))) (mvT hZ (hw _ (List.mem_of_getElem? (i := 2) rfl))) (mvT hZ (hw _ (List.mem_of_getElem? (i := 3) rfl))) (mvT hZ (hw _ (List.mem_of_getElem? (i := 4) rfl))) (by decide) (backOf (W := 2) (rm1 l Z a0 hw [] q2 (2 : Int32) h26 n0 (Nat.le_trans Z0 K26.1)) hZ (hw _ (List.mem_of_getElem? (i := 4) rfl)) (hw _ (List.mem_of_getElem? (i := 3) rfl)) (by decide) (by decide)) (g := (mkF m 111 #[.val (.long q1), .second, .val (.long q2), .second, .val (.int p3), .val (.int p4), .val (.ref b5), .val (.ref b6), .unset, .unset, .unset, .unset, .unset, .unset, .unset, .unset, .unset] [(.int (2 : Int32)), (.long q2), (.int (2 : Int32)), (.ref b6)])) rfl (by rw [hml]; rfl) (argsL := [(.long q2), (.int (2 : Int32))]) (rest := [(.int (2 : Int32)), (.ref b6)]) (lenOf pd_0_0 rfl) rfl (by show 2 * 0 + _ ≤ _; exact Nat.le_of_eq rfl) (hb hby at_111) (fun _ _ => ⟨rfl, e26, (by decide : 2 + 0 ≤ _), (by decide : 16 + 0 ≤ _)⟩)
  dsimp only [Pt.U, Pt.locs, Pt.cells, Pt.slots] at X27 l27 y27 z27 st27 hQ27
  subst l27 y27 z27
  obtain ⟨z27, rfl, N27q, hh27⟩ := hQ27
  have Kc27 : Keep h26 T27.heap [] := by rw [hh27]; exact Keep.refl _ _
  have Kh27 : Keep h0 T27.heap [] := by rw [hh27]; exact K26
  have N27 := Fr.app N26 N27q
  obtain ⟨cl_b6_114, Ar_b6, q_b6, S_b6, N_b6, H_b6, G_b6⟩ := (V_b6_26.keep Kc27 nin0)      -- open the array's fact as it stands now (its cell, kind, length, elements)
  have hin114 : ¬ ((2 : Int32) < 0 ∨ cl_b6_114.slots.size ≤ ((2 : Int32)).toNatClampNeg) := inb_of S_b6 ⟨by decide, by decide⟩
  obtain ⟨T28, h28, X28, e28, W28, st28⟩ := stB X27 hx hZ rfl Ar_b6 (j := (2 : Int32)) hin114 (g := (mkF m 114 #[.val (.long q1), .second, .val (.long q2), .second, .val (.int p3), .val (.int p4), .val (.ref b5), .val (.ref b6), .unset, .unset, .unset, .unset, .unset, .unset, .unset, .unset, .unset] [(.int z27), (.int (2 : Int32)), (.ref b6)])) rfl rfl (hb hby at_114)
  have V_b6_28 := Arv.set Ar_b6 q_b6 S_b6 N_b6 H_b6 G_b6 (fits_nar_byte _) W28 2 rfl (Nat.le_of_ble_eq_true rfl)      -- the array as it stands now (the place must lie among its first values: Arv.pad with pad_rep lengthens them)
  have K28 : Keep h0 h28 [] := Kh27.wr W28 (Or.inr sz_b6)
  have N28 := Fr.snoc X28 N27 g_b6
  -- pc 120: com/example/lean_relay/leanrelay/octets/ScanSamePinLaw.at by its contract rm1
  obtain ⟨_, _, ⟨T29, L29, k29, n29⟩, -, X29, ⟨Lc29, hQ29, l29, y29, z29⟩, st29⟩ := Jvm.LawKit.callS X28 hx (y := (⟨"com/example/lean_relay/leanrelay/octets/ScanSamePinLaw", "at", "(JI)B"⟩ : MethodName)) hown (mvT hZ (hw _ (List.mem_of_getElem? (i := 1) rfl))) (mvT hZ (hw _ (List.mem_of_getElem? (i := 2) rfl))) (mvT hZ (hw _ (List.mem_of_getElem? (i := 3) rfl))) (mvT hZ (hw _ (List.mem_of_getElem? (i := 4) rfl))) (by decide) (backOf (W := 2) (rm1 l Z a0 hw [] q2 (3 : Int32) h28 n0 (Nat.le_trans Z0 K28.1)) hZ (hw _ (List.mem_of_getElem? (i := 4) rfl)) (hw _ (List.mem_of_getElem? (i := 3) rfl)) (by decide) (by decide)) (g := (mkF m 120 #[.val (.long q1), .second, .val (.long q2), .second, .val (.int p3), .val (.int p4), .val (.ref b5), .val (.ref b6), .unset, .unset, .unset, .unset, .unset, .unset, .unset, .unset, .unset] [(.int (3 : Int32)), (.long q2), (.int (3 : Int32)), (.ref b6)])) rfl (by rw [hml]; rfl) (argsL := [(.long q2), (.int (3 : Int32))]) (rest := [(.int (3 : Int32)), (.ref b6)]) (lenOf pd_0_0 rfl) rfl (by show 2 * 0 + _ ≤ _; exact Nat.le_of_eq rfl) (hb hby at_120) (fun _ _ => ⟨rfl, e28, (by decide : 2 + 0 ≤ _), (by decide : 16 + 0 ≤ _)⟩)
  dsimp only [Pt.U, Pt.locs, Pt.cells, Pt.slots] at X29 l29 y29 z29 st29 hQ29
  subst l29 y29 z29
  obtain ⟨z29, rfl, N29q, hh29⟩ := hQ29
  have Kc29 : Keep h28 T29.heap [] := by rw [hh29]; exact Keep.refl _ _
  have Kh29 : Keep h0 T29.heap [] := by rw [hh29]; exact K28
  have N29 := Fr.app N28 N29q
  obtain ⟨cl_b6_123, Ar_b6, q_b6, S_b6, N_b6, H_b6, G_b6⟩ := (V_b6_28.keep Kc29 nin0)      -- open the array's fact as it stands now (its cell, kind, length, elements)
  have hin123 : ¬ ((3 : Int32) < 0 ∨ cl_b6_123.slots.size ≤ ((3 : Int32)).toNatClampNeg) := inb_of S_b6 ⟨by decide, by decide⟩
  obtain ⟨T30, h30, X30, e30, W30, st30⟩ := stB X29 hx hZ rfl Ar_b6 (j := (3 : Int32)) hin123 (g := (mkF m 123 #[.val (.long q1), .second, .val (.long q2), .second, .val (.int p3), .val (.int p4), .val (.ref b5), .val (.ref b6), .unset, .unset, .unset, .unset, .unset, .unset, .unset, .unset, .unset] [(.int z29), (.int (3 : Int32)), (.ref b6)])) rfl rfl (hb hby at_123)
  have V_b6_30 := Arv.set Ar_b6 q_b6 S_b6 N_b6 H_b6 G_b6 (fits_nar_byte _) W30 3 rfl (Nat.le_of_ble_eq_true rfl)      -- the array as it stands now (the place must lie among its first values: Arv.pad with pad_rep lengthens them)
  have K30 : Keep h0 h30 [] := Kh29.wr W30 (Or.inr sz_b6)
  have N30 := Fr.snoc X30 N29 g_b6
  -- pc 129: com/example/lean_relay/leanrelay/octets/ScanSamePinLaw.at by its contract rm1
  obtain ⟨_, _, ⟨T31, L31, k31, n31⟩, -, X31, ⟨Lc31, hQ31, l31, y31, z31⟩, st31⟩ := Jvm.LawKit.callS X30 hx (y := (⟨"com/example/lean_relay/leanrelay/octets/ScanSamePinLaw", "at", "(JI)B"⟩ : MethodName)) hown (mvT hZ (hw _ (List.mem_of_getElem? (i := 1) rfl))) (mvT hZ (hw _ (List.mem_of_getElem? (i := 2) rfl))) (mvT hZ (hw _ (List.mem_of_getElem? (i := 3) rfl))) (mvT hZ (hw _ (List.mem_of_getElem? (i := 4) rfl))) (by decide) (backOf (W := 2) (rm1 l Z a0 hw [] q2 (4 : Int32) h30 n0 (Nat.le_trans Z0 K30.1)) hZ (hw _ (List.mem_of_getElem? (i := 4) rfl)) (hw _ (List.mem_of_getElem? (i := 3) rfl)) (by decide) (by decide)) (g := (mkF m 129 #[.val (.long q1), .second, .val (.long q2), .second, .val (.int p3), .val (.int p4), .val (.ref b5), .val (.ref b6), .unset, .unset, .unset, .unset, .unset, .unset, .unset, .unset, .unset] [(.int (4 : Int32)), (.long q2), (.int (4 : Int32)), (.ref b6)])) rfl (by rw [hml]; rfl) (argsL := [(.long q2), (.int (4 : Int32))]) (rest := [(.int (4 : Int32)), (.ref b6)]) (lenOf pd_0_0 rfl) rfl (by show 2 * 0 + _ ≤ _; exact Nat.le_of_eq rfl) (hb hby at_129) (fun _ _ => ⟨rfl, e30, (by decide : 2 + 0 ≤ _), (by decide : 16 + 0 ≤ _)⟩)
  dsimp only [Pt.U, Pt.locs, Pt.cells, Pt.slots] at X31 l31 y31 z31 st31 hQ31
  subst l31 y31 z31
  obtain ⟨z31, rfl, N31q, hh31⟩ := hQ31
  have Kc31 : Keep h30 T31.heap [] := by rw [hh31]; exact Keep.refl _ _
  have Kh31 : Keep h0 T31.heap [] := by rw [hh31]; exact K30
  have N31 := Fr.app N30 N31q
  obtain ⟨cl_b6_132, Ar_b6, q_b6, S_b6, N_b6, H_b6, G_b6⟩ := (V_b6_30.keep Kc31 nin0)      -- open the array's fact as it stands now (its cell, kind, length, elements)
  have hin132 : ¬ ((4 : Int32) < 0 ∨ cl_b6_132.slots.size ≤ ((4 : Int32)).toNatClampNeg) := inb_of S_b6 ⟨by decide, by decide⟩
  obtain ⟨T32, h32, X32, e32, W32, st32⟩ := stB X31 hx hZ rfl Ar_b6 (j := (4 : Int32)) hin132 (g := (mkF m 132 #[.val (.long q1), .second, .val (.long q2), .second, .val (.int p3), .val (.int p4), .val (.ref b5), .val (.ref b6), .unset, .unset, .unset, .unset, .unset, .unset, .unset, .unset, .unset] [(.int z31), (.int (4 : Int32)), (.ref b6)])) rfl rfl (hb hby at_132)
  have V_b6_32 := Arv.set Ar_b6 q_b6 S_b6 N_b6 H_b6 G_b6 (fits_nar_byte _) W32 4 rfl (Nat.le_of_ble_eq_true rfl)      -- the array as it stands now (the place must lie among its first values: Arv.pad with pad_rep lengthens them)
  have K32 : Keep h0 h32 [] := Kh31.wr W32 (Or.inr sz_b6)
  have N32 := Fr.snoc X32 N31 g_b6
  -- pc 138: com/example/lean_relay/leanrelay/octets/ScanSamePinLaw.at by its contract rm1
  obtain ⟨_, _, ⟨T33, L33, k33, n33⟩, -, X33, ⟨Lc33, hQ33, l33, y33, z33⟩, st33⟩ := Jvm.LawKit.callS X32 hx (y := (⟨"com/example/lean_relay/leanrelay/octets/ScanSamePinLaw", "at", "(JI)B"⟩ : MethodName)) hown (mvT hZ (hw _ (List.mem_of_getElem? (i := 1) rfl))) (mvT hZ (hw _ (List.mem_of_getElem? (i := 2) rfl))) (mvT hZ (hw _ (List.mem_of_getElem? (i := 3) rfl))) (mvT hZ (hw _ (List.mem_of_getElem? (i := 4) rfl))) (by decide) (backOf (W := 2) (rm1 l Z a0 hw [] q2 (5 : Int32) h32 n0 (Nat.le_trans Z0 K32.1)) hZ (hw _ (List.mem_of_getElem? (i := 4) rfl)) (hw _ (List.mem_of_getElem? (i := 3) rfl)) (by decide) (by decide)) (g := (mkF m 138 #[.val (.long q1), .second, .val (.long q2), .second, .val (.int p3), .val (.int p4), .val (.ref b5), .val (.ref b6), .unset, .unset, .unset, .unset, .unset, .unset, .unset, .unset, .unset] [(.int (5 : Int32)), (.long q2), (.int (5 : Int32)), (.ref b6)])) rfl (by rw [hml]; rfl) (argsL := [(.long q2), (.int (5 : Int32))]) (rest := [(.int (5 : Int32)), (.ref b6)]) (lenOf pd_0_0 rfl) rfl (by show 2 * 0 + _ ≤ _; exact Nat.le_of_eq rfl) (hb hby at_138) (fun _ _ => ⟨rfl, e32, (by decide : 2 + 0 ≤ _), (by decide : 16 + 0 ≤ _)⟩)
  dsimp only [Pt.U, Pt.locs, Pt.cells, Pt.slots] at X33 l33 y33 z33 st33 hQ33
  subst l33 y33 z33
  obtain ⟨z33, rfl, N33q, hh33⟩ := hQ33
  have Kc33 : Keep h32 T33.heap [] := by rw [hh33]; exact Keep.refl _ _
  have Kh33 : Keep h0 T33.heap [] := by rw [hh33]; exact K32
  have N33 := Fr.app N32 N33q
  obtain ⟨cl_b6_141, Ar_b6, q_b6, S_b6, N_b6, H_b6, G_b6⟩ := (V_b6_32.keep Kc33 nin0)      -- open the array's fact as it stands now (its cell, kind, length, elements)
  have hin141 : ¬ ((5 : Int32) < 0 ∨ cl_b6_141.slots.size ≤ ((5 : Int32)).toNatClampNeg) := inb_of S_b6 ⟨by decide, by decide⟩
  obtain ⟨T34, h34, X34, e34, W34, st34⟩ := stB X33 hx hZ rfl Ar_b6 (j := (5 : Int32)) hin141 (g := (mkF m 141 #[.val (.long q1), .second, .val (.long q2), .second, .val (.int p3), .val (.int p4), .val (.ref b5), .val (.ref b6), .unset, .unset, .unset, .unset, .unset, .unset, .unset, .unset, .unset] [(.int z33), (.int (5 : Int32)), (.ref b6)])) rfl rfl (hb hby at_141)
  have V_b6_34 := Arv.set Ar_b6 q_b6 S_b6 N_b6 H_b6 G_b6 (fits_nar_byte _) W34 5 rfl (Nat.le_of_ble_eq_true rfl)      -- the array as it stands now (the place must lie among its first values: Arv.pad with pad_rep lengthens them)
  have K34 : Keep h0 h34 [] := Kh33.wr W34 (Or.inr sz_b6)
  have N34 := Fr.snoc X34 N33 g_b6
  -- pc 149: com/example/lean_relay/leanrelay/octets/ScanSamePinLaw.at by its contract rm1
  obtain ⟨_, _, ⟨T35, L35, k35, n35⟩, -, X35, ⟨Lc35, hQ35, l35, y35, z35⟩, st35⟩ := Jvm.LawKit.callS X34 hx (y := (⟨"com/example/lean_relay/leanrelay/octets/ScanSamePinLaw", "at", "(JI)B"⟩ : MethodName)) hown (mvT hZ (hw _ (List.mem_of_getElem? (i := 1) rfl))) (mvT hZ (hw _ (List.mem_of_getElem? (i := 2) rfl))) (mvT hZ (hw _ (List.mem_of_getElem? (i := 3) rfl))) (mvT hZ (hw _ (List.mem_of_getElem? (i := 4) rfl))) (by decide) (backOf (W := 2) (rm1 l Z a0 hw [] q2 (6 : Int32) h34 n0 (Nat.le_trans Z0 K34.1)) hZ (hw _ (List.mem_of_getElem? (i := 4) rfl)) (hw _ (List.mem_of_getElem? (i := 3) rfl)) (by decide) (by decide)) (g := (mkF m 149 #[.val (.long q1), .second, .val (.long q2), .second, .val (.int p3), .val (.int p4), .val (.ref b5), .val (.ref b6), .unset, .unset, .unset, .unset, .unset, .unset, .unset, .unset, .unset] [(.int (6 : Int32)), (.long q2), (.int (6 : Int32)), (.ref b6)])) rfl (by rw [hml]; rfl) (argsL := [(.long q2), (.int (6 : Int32))]) (rest := [(.int (6 : Int32)), (.ref b6)]) (lenOf pd_0_0 rfl) rfl (by show 2 * 0 + _ ≤ _; exact Nat.le_of_eq rfl) (hb hby at_149) (fun _ _ => ⟨rfl, e34, (by decide : 2 + 0 ≤ _), (by decide : 16 + 0 ≤ _)⟩)
  dsimp only [Pt.U, Pt.locs, Pt.cells, Pt.slots] at X35 l35 y35 z35 st35 hQ35
  subst l35 y35 z35
  obtain ⟨z35, rfl, N35q, hh35⟩ := hQ35
  have Kc35 : Keep h34 T35.heap [] := by rw [hh35]; exact Keep.refl _ _
  have Kh35 : Keep h0 T35.heap [] := by rw [hh35]; exact K34
  have N35 := Fr.app N34 N35q
  obtain ⟨cl_b6_152, Ar_b6, q_b6, S_b6, N_b6, H_b6, G_b6⟩ := (V_b6_34.keep Kc35 nin0)      -- open the array's fact as it stands now (its cell, kind, length, elements)
  have hin152 : ¬ ((6 : Int32) < 0 ∨ cl_b6_152.slots.size ≤ ((6 : Int32)).toNatClampNeg) := inb_of S_b6 ⟨by decide, by decide⟩
  obtain ⟨T36, h36, X36, e36, W36, st36⟩ := stB X35 hx hZ rfl Ar_b6 (j := (6 : Int32)) hin152 (g := (mkF m 152 #[.val (.long q1), .second, .val (.long q2), .second, .val (.int p3), .val (.int p4), .val (.ref b5), .val (.ref b6), .unset, .unset, .unset, .unset, .unset, .unset, .unset, .unset, .unset] [(.int z35), (.int (6 : Int32)), (.ref b6)])) rfl rfl (hb hby at_152)
  have V_b6_36 := Arv.set Ar_b6 q_b6 S_b6 N_b6 H_b6 G_b6 (fits_nar_byte _) W36 6 rfl (Nat.le_of_ble_eq_true rfl)      -- the array as it stands now (the place must lie among its first values: Arv.pad with pad_rep lengthens them)
  have K36 : Keep h0 h36 [] := Kh35.wr W36 (Or.inr sz_b6)
  have N36 := Fr.snoc X36 N35 g_b6
  -- pc 160: com/example/lean_relay/leanrelay/octets/ScanSamePinLaw.at by its contract rm1
  obtain ⟨_, _, ⟨T37, L37, k37, n37⟩, -, X37, ⟨Lc37, hQ37, l37, y37, z37⟩, st37⟩ := Jvm.LawKit.callS X36 hx (y := (⟨"com/example/lean_relay/leanrelay/octets/ScanSamePinLaw", "at", "(JI)B"⟩ : MethodName)) hown (mvT hZ (hw _ (List.mem_of_getElem? (i := 1) rfl))) (mvT hZ (hw _ (List.mem_of_getElem? (i := 2) rfl))) (mvT hZ (hw _ (List.mem_of_getElem? (i := 3) rfl))) (mvT hZ (hw _ (List.mem_of_getElem? (i := 4) rfl))) (by decide) (backOf (W := 2) (rm1 l Z a0 hw [] q2 (7 : Int32) h36 n0 (Nat.le_trans Z0 K36.1)) hZ (hw _ (List.mem_of_getElem? (i := 4) rfl)) (hw _ (List.mem_of_getElem? (i := 3) rfl)) (by decide) (by decide)) (g := (mkF m 160 #[.val (.long q1), .second, .val (.long q2), .second, .val (.int p3), .val (.int p4), .val (.ref b5), .val (.ref b6), .unset, .unset, .unset, .unset, .unset, .unset, .unset, .unset, .unset] [(.int (7 : Int32)), (.long q2), (.int (7 : Int32)), (.ref b6)])) rfl (by rw [hml]; rfl) (argsL := [(.long q2), (.int (7 : Int32))]) (rest := [(.int (7 : Int32)), (.ref b6)]) (lenOf pd_0_0 rfl) rfl (by show 2 * 0 + _ ≤ _; exact Nat.le_of_eq rfl) (hb hby at_160) (fun _ _ => ⟨rfl, e36, (by decide : 2 + 0 ≤ _), (by decide : 16 + 0 ≤ _)⟩)
  dsimp only [Pt.U, Pt.locs, Pt.cells, Pt.slots] at X37 l37 y37 z37 st37 hQ37
  subst l37 y37 z37
  obtain ⟨z37, rfl, N37q, hh37⟩ := hQ37
  have Kc37 : Keep h36 T37.heap [] := by rw [hh37]; exact Keep.refl _ _
  have Kh37 : Keep h0 T37.heap [] := by rw [hh37]; exact K36
  have N37 := Fr.app N36 N37q
  obtain ⟨cl_b6_163, Ar_b6, q_b6, S_b6, N_b6, H_b6, G_b6⟩ := (V_b6_36.keep Kc37 nin0)      -- open the array's fact as it stands now (its cell, kind, length, elements)
  have hin163 : ¬ ((7 : Int32) < 0 ∨ cl_b6_163.slots.size ≤ ((7 : Int32)).toNatClampNeg) := inb_of S_b6 ⟨by decide, by decide⟩
  obtain ⟨T38, h38, X38, e38, W38, st38⟩ := stB X37 hx hZ rfl Ar_b6 (j := (7 : Int32)) hin163 (g := (mkF m 163 #[.val (.long q1), .second, .val (.long q2), .second, .val (.int p3), .val (.int p4), .val (.ref b5), .val (.ref b6), .unset, .unset, .unset, .unset, .unset, .unset, .unset, .unset, .unset] [(.int z37), (.int (7 : Int32)), (.ref b6)])) rfl rfl (hb hby at_163)
  have V_b6_38 := Arv.set Ar_b6 q_b6 S_b6 N_b6 H_b6 G_b6 (fits_nar_byte _) W38 7 rfl (Nat.le_of_ble_eq_true rfl)      -- the array as it stands now (the place must lie among its first values: Arv.pad with pad_rep lengthens them)
  have K38 : Keep h0 h38 [] := Kh37.wr W38 (Or.inr sz_b6)
  have N38 := Fr.snoc X38 N37 g_b6
  refine ⟨T38, _, _, X38, N38, by rw [e38]; exact K38, by rw [e38]; exact (own_B_other (own_B_keep (own_B_other (own_B_keep (own_B_other (own_B_keep (own_B_other (own_B_keep (own_B_other (own_B_keep (own_B_other (own_B_keep (own_B_other (own_B_keep (own_B_other (own_B_keep Bx Kc23 nin0) W24 hne56) Kc25 nin0) W26 hne56) Kc27 nin0) W28 hne56) Kc29 nin0) W30 hne56) Kc31 nin0) W32 hne56) Kc33 nin0) W34 hne56) Kc35 nin0) W36 hne56) Kc37 nin0) W38 hne56), ?_, by rw [e38]; exact V_b6_38, fun target kt => ?_⟩
  · rfl
  show Steps p.tables e below (T22.setTop (mkF m 88 #[.val (.long q1), .second, .val (.long q2), .second, .val (.int p3), .val (.int p4), .val (.ref b5), .val (.ref b6), .unset, .unset, .unset, .unset, .unset, .unset, .unset, .unset, .unset] [])) _
  refine XS.aload X22.here hx rfl (hb hby at_88) rfl rfl ?_
  show Steps p.tables e below (T22.setTop (mkF m 90 #[.val (.long q1), .second, .val (.long q2), .second, .val (.int p3), .val (.int p4), .val (.ref b5), .val (.ref b6), .unset, .unset, .unset, .unset, .unset, .unset, .unset, .unset, .unset] [(.ref b6)])) _
  refine XS.iconst X22.here hx rfl (hb hby at_90) ?_
  show Steps p.tables e below (T22.setTop (mkF m 91 #[.val (.long q1), .second, .val (.long q2), .second, .val (.int p3), .val (.int p4), .val (.ref b5), .val (.ref b6), .unset, .unset, .unset, .unset, .unset, .unset, .unset, .unset, .unset] [(.int (0 : Int32)), (.ref b6)])) _
  refine XS.lloadN X22.here hx rfl (hb hby at_91) rfl ?_
  show Steps p.tables e below (T22.setTop (mkF m 92 #[.val (.long q1), .second, .val (.long q2), .second, .val (.int p3), .val (.int p4), .val (.ref b5), .val (.ref b6), .unset, .unset, .unset, .unset, .unset, .unset, .unset, .unset, .unset] [(.long q2), (.int (0 : Int32)), (.ref b6)])) _
  refine XS.iconst X22.here hx rfl (hb hby at_92) ?_
  show Steps p.tables e below (T22.setTop (mkF m 93 #[.val (.long q1), .second, .val (.long q2), .second, .val (.int p3), .val (.int p4), .val (.ref b5), .val (.ref b6), .unset, .unset, .unset, .unset, .unset, .unset, .unset, .unset, .unset] [(.int (0 : Int32)), (.long q2), (.int (0 : Int32)), (.ref b6)])) _
  refine st23 _ ?_
  show Steps p.tables e below (T23.setTop (mkF m 96 #[.val (.long q1), .second, .val (.long q2), .second, .val (.int p3), .val (.int p4), .val (.ref b5), .val (.ref b6), .unset, .unset, .unset, .unset, .unset, .unset, .unset, .unset, .unset] [(.int z23), (.int (0 : Int32)), (.ref b6)])) _
  refine st24 _ ?_
  show Steps p.tables e below (T24.setTop (mkF m 97 #[.val (.long q1), .second, .val (.long q2), .second, .val (.int p3), .val (.int p4), .val (.ref b5), .val (.ref b6), .unset, .unset, .unset, .unset, .unset, .unset, .unset, .unset, .unset] [])) _
  refine XS.aload X24.here hx rfl (hb hby at_97) rfl rfl ?_
  show Steps p.tables e below (T24.setTop (mkF m 99 #[.val (.long q1), .second, .val (.long q2), .second, .val (.int p3), .val (.int p4), .val (.ref b5), .val (.ref b6), .unset, .unset, .unset, .unset, .unset, .unset, .unset, .unset, .unset] [(.ref b6)])) _
  refine XS.iconst X24.here hx rfl (hb hby at_99) ?_
  show Steps p.tables e below (T24.setTop (mkF m 100 #[.val (.long q1), .second, .val (.long q2), .second, .val (.int p3), .val (.int p4), .val (.ref b5), .val (.ref b6), .unset, .unset, .unset, .unset, .unset, .unset, .unset, .unset, .unset] [(.int (1 : Int32)), (.ref b6)])) _
  refine XS.lloadN X24.here hx rfl (hb hby at_100) rfl ?_
  show Steps p.tables e below (T24.setTop (mkF m 101 #[.val (.long q1), .second, .val (.long q2), .second, .val (.int p3), .val (.int p4), .val (.ref b5), .val (.ref b6), .unset, .unset, .unset, .unset, .unset, .unset, .unset, .unset, .unset] [(.long q2), (.int (1 : Int32)), (.ref b6)])) _
  refine XS.iconst X24.here hx rfl (hb hby at_101) ?_
  show Steps p.tables e below (T24.setTop (mkF m 102 #[.val (.long q1), .second, .val (.long q2), .second, .val (.int p3), .val (.int p4), .val (.ref b5), .val (.ref b6), .unset, .unset, .unset, .unset, .unset, .unset, .unset, .unset, .unset] [(.int (1 : Int32)), (.long q2), (.int (1 : Int32)), (.ref b6)])) _
  refine st25 _ ?_
  show Steps p.tables e below (T25.setTop (mkF m 105 #[.val (.long q1), .second, .val (.long q2), .second, .val (.int p3), .val (.int p4), .val (.ref b5), .val (.ref b6), .unset, .unset, .unset, .unset, .unset, .unset, .unset, .unset, .unset] [(.int z25), (.int (1 : Int32)), (.ref b6)])) _
  refine st26 _ ?_
  show Steps p.tables e below (T26.setTop (mkF m 106 #[.val (.long q1), .second, .val (.long q2), .second, .val (.int p3), .val (.int p4), .val (.ref b5), .val (.ref b6), .unset, .unset, .unset, .unset, .unset, .unset, .unset, .unset, .unset] [])) _
  refine XS.aload X26.here hx rfl (hb hby at_106) rfl rfl ?_
  show Steps p.tables e below (T26.setTop (mkF m 108 #[.val (.long q1), .second, .val (.long q2), .second, .val (.int p3), .val (.int p4), .val (.ref b5), .val (.ref b6), .unset, .unset, .unset, .unset, .unset, .unset, .unset, .unset, .unset] [(.ref b6)])) _
  refine XS.iconst X26.here hx rfl (hb hby at_108) ?_
  show Steps p.tables e below (T26.setTop (mkF m 109 #[.val (.long q1), .second, .val (.long q2), .second, .val (.int p3), .val (.int p4), .val (.ref b5), .val (.ref b6), .unset, .unset, .unset, .unset, .unset, .unset, .unset, .unset, .unset] [(.int (2 : Int32)), (.ref b6)])) _
  refine XS.lloadN X26.here hx rfl (hb hby at_109) rfl ?_
  show Steps p.tables e below (T26.setTop (mkF m 110 #[.val (.long q1), .second, .val (.long q2), .second, .val (.int p3), .val (.int p4), .val (.ref b5), .val (.ref b6), .unset, .unset, .unset, .unset, .unset, .unset, .unset, .unset, .unset] [(.long q2), (.int (2 : Int32)), (.ref b6)])) _
  refine XS.iconst X26.here hx rfl (hb hby at_110) ?_
  show Steps p.tables e below (T26.setTop (mkF m 111 #[.val (.long q1), .second, .val (.long q2), .second, .val (.int p3), .val (.int p4), .val (.ref b5), .val (.ref b6), .unset, .unset, .unset, .unset, .unset, .unset, .unset, .unset, .unset] [(.int (2 : Int32)), (.long q2), (.int (2 : Int32)), (.ref b6)])) _
  refine st27 _ ?_
  show Steps p.tables e below (T27.setTop (mkF m 114 #[.val (.long q1), .second, .val (.long q2), .second, .val (.int p3), .val (.int p4), .val (.ref b5), .val (.ref b6), .unset, .unset, .unset, .unset, .unset, .unset, .unset, .unset, .unset] [(.int z27), (.int (2 : Int32)), (.ref b6)])) _
  refine st28 _ ?_
  show Steps p.tables e below (T28.setTop (mkF m 115 #[.val (.long q1), .second, .val (.long q2), .second, .val (.int p3), .val (.int p4), .val (.ref b5), .val (.ref b6), .unset, .unset, .unset, .unset, .unset, .unset, .unset, .unset, .unset] [])) _
  refine XS.aload X28.here hx rfl (hb hby at_115) rfl rfl ?_
  show Steps p.tables e below (T28.setTop (mkF m 117 #[.val (.long q1), .second, .val (.long q2), .second, .val (.int p3), .val (.int p4), .val (.ref b5), .val (.ref b6), .unset, .unset, .unset, .unset, .unset, .unset, .unset, .unset, .unset] [(.ref b6)])) _
  refine XS.iconst X28.here hx rfl (hb hby at_117) ?_
  show Steps p.tables e below (T28.setTop (mkF m 118 #[.val (.long q1), .second, .val (.long q2), .second, .val (.int p3), .val (.int p4), .val (.ref b5), .val (.ref b6), .unset, .unset, .unset, .unset, .unset, .unset, .unset, .unset, .unset] [(.int (3 : Int32)), (.ref b6)])) _
  refine XS.lloadN X28.here hx rfl (hb hby at_118) rfl ?_
  show Steps p.tables e below (T28.setTop (mkF m 119 #[.val (.long q1), .second, .val (.long q2), .second, .val (.int p3), .val (.int p4), .val (.ref b5), .val (.ref b6), .unset, .unset, .unset, .unset, .unset, .unset, .unset, .unset, .unset] [(.long q2), (.int (3 : Int32)), (.ref b6)])) _
  refine XS.iconst X28.here hx rfl (hb hby at_119) ?_
  show Steps p.tables e below (T28.setTop (mkF m 120 #[.val (.long q1), .second, .val (.long q2), .second, .val (.int p3), .val (.int p4), .val (.ref b5), .val (.ref b6), .unset, .unset, .unset, .unset, .unset, .unset, .unset, .unset, .unset] [(.int (3 : Int32)), (.long q2), (.int (3 : Int32)), (.ref b6)])) _
  refine st29 _ ?_
  show Steps p.tables e below (T29.setTop (mkF m 123 #[.val (.long q1), .second, .val (.long q2), .second, .val (.int p3), .val (.int p4), .val (.ref b5), .val (.ref b6), .unset, .unset, .unset, .unset, .unset, .unset, .unset, .unset, .unset] [(.int z29), (.int (3 : Int32)), (.ref b6)])) _
  refine st30 _ ?_
  show Steps p.tables e below (T30.setTop (mkF m 124 #[.val (.long q1), .second, .val (.long q2), .second, .val (.int p3), .val (.int p4), .val (.ref b5), .val (.ref b6), .unset, .unset, .unset, .unset, .unset, .unset, .unset, .unset, .unset] [])) _
  refine XS.aload X30.here hx rfl (hb hby at_124) rfl rfl ?_
  show Steps p.tables e below (T30.setTop (mkF m 126 #[.val (.long q1), .second, .val (.long q2), .second, .val (.int p3), .val (.int p4), .val (.ref b5), .val (.ref b6), .unset, .unset, .unset, .unset, .unset, .unset, .unset, .unset, .unset] [(.ref b6)])) _
  refine XS.iconst X30.here hx rfl (hb hby at_126) ?_
  show Steps p.tables e below (T30.setTop (mkF m 127 #[.val (.long q1), .second, .val (.long q2), .second, .val (.int p3), .val (.int p4), .val (.ref b5), .val (.ref b6), .unset, .unset, .unset, .unset, .unset, .unset, .unset, .unset, .unset] [(.int (4 : Int32)), (.ref b6)])) _
  refine XS.lloadN X30.here hx rfl (hb hby at_127) rfl ?_
  show Steps p.tables e below (T30.setTop (mkF m 128 #[.val (.long q1), .second, .val (.long q2), .second, .val (.int p3), .val (.int p4), .val (.ref b5), .val (.ref b6), .unset, .unset, .unset, .unset, .unset, .unset, .unset, .unset, .unset] [(.long q2), (.int (4 : Int32)), (.ref b6)])) _
  refine XS.iconst X30.here hx rfl (hb hby at_128) ?_
  show Steps p.tables e below (T30.setTop (mkF m 129 #[.val (.long q1), .second, .val (.long q2), .second, .val (.int p3), .val (.int p4), .val (.ref b5), .val (.ref b6), .unset, .unset, .unset, .unset, .unset, .unset, .unset, .unset, .unset] [(.int (4 : Int32)), (.long q2), (.int (4 : Int32)), (.ref b6)])) _
  refine st31 _ ?_
  show Steps p.tables e below (T31.setTop (mkF m 132 #[.val (.long q1), .second, .val (.long q2), .second, .val (.int p3), .val (.int p4), .val (.ref b5), .val (.ref b6), .unset, .unset, .unset, .unset, .unset, .unset, .unset, .unset, .unset] [(.int z31), (.int (4 : Int32)), (.ref b6)])) _
  refine st32 _ ?_
  show Steps p.tables e below (T32.setTop (mkF m 133 #[.val (.long q1), .second, .val (.long q2), .second, .val (.int p3), .val (.int p4), .val (.ref b5), .val (.ref b6), .unset, .unset, .unset, .unset, .unset, .unset, .unset, .unset, .unset] [])) _
  refine XS.aload X32.here hx rfl (hb hby at_133) rfl rfl ?_
  show Steps p.tables e below (T32.setTop (mkF m 135 #[.val (.long q1), .second, .val (.long q2), .second, .val (.int p3), .val (.int p4), .val (.ref b5), .val (.ref b6), .unset, .unset, .unset, .unset, .unset, .unset, .unset, .unset, .unset] [(.ref b6)])) _
  refine XS.iconst X32.here hx rfl (hb hby at_135) ?_
  show Steps p.tables e below (T32.setTop (mkF m 136 #[.val (.long q1), .second, .val (.long q2), .second, .val (.int p3), .val (.int p4), .val (.ref b5), .val (.ref b6), .unset, .unset, .unset, .unset, .unset, .unset, .unset, .unset, .unset] [(.int (5 : Int32)), (.ref b6)])) _
  refine XS.lloadN X32.here hx rfl (hb hby at_136) rfl ?_
  show Steps p.tables e below (T32.setTop (mkF m 137 #[.val (.long q1), .second, .val (.long q2), .second, .val (.int p3), .val (.int p4), .val (.ref b5), .val (.ref b6), .unset, .unset, .unset, .unset, .unset, .unset, .unset, .unset, .unset] [(.long q2), (.int (5 : Int32)), (.ref b6)])) _
  refine XS.iconst X32.here hx rfl (hb hby at_137) ?_
  show Steps p.tables e below (T32.setTop (mkF m 138 #[.val (.long q1), .second, .val (.long q2), .second, .val (.int p3), .val (.int p4), .val (.ref b5), .val (.ref b6), .unset, .unset, .unset, .unset, .unset, .unset, .unset, .unset, .unset] [(.int (5 : Int32)), (.long q2), (.int (5 : Int32)), (.ref b6)])) _
  refine st33 _ ?_
  show Steps p.tables e below (T33.setTop (mkF m 141 #[.val (.long q1), .second, .val (.long q2), .second, .val (.int p3), .val (.int p4), .val (.ref b5), .val (.ref b6), .unset, .unset, .unset, .unset, .unset, .unset, .unset, .unset, .unset] [(.int z33), (.int (5 : Int32)), (.ref b6)])) _
  refine st34 _ ?_
  show Steps p.tables e below (T34.setTop (mkF m 142 #[.val (.long q1), .second, .val (.long q2), .second, .val (.int p3), .val (.int p4), .val (.ref b5), .val (.ref b6), .unset, .unset, .unset, .unset, .unset, .unset, .unset, .unset, .unset] [])) _
  refine XS.aload X34.here hx rfl (hb hby at_142) rfl rfl ?_
  show Steps p.tables e below (T34.setTop (mkF m 144 #[.val (.long q1), .second, .val (.long q2), .second, .val (.int p3), .val (.int p4), .val (.ref b5), .val (.ref b6), .unset, .unset, .unset, .unset, .unset, .unset, .unset, .unset, .unset] [(.ref b6)])) _
  refine XS.bipush X34.here hx rfl (hb hby at_144) ?_
  show Steps p.tables e below (T34.setTop (mkF m 146 #[.val (.long q1), .second, .val (.long q2), .second, .val (.int p3), .val (.int p4), .val (.ref b5), .val (.ref b6), .unset, .unset, .unset, .unset, .unset, .unset, .unset, .unset, .unset] [(.int (6 : Int32)), (.ref b6)])) _
  refine XS.lloadN X34.here hx rfl (hb hby at_146) rfl ?_
  show Steps p.tables e below (T34.setTop (mkF m 147 #[.val (.long q1), .second, .val (.long q2), .second, .val (.int p3), .val (.int p4), .val (.ref b5), .val (.ref b6), .unset, .unset, .unset, .unset, .unset, .unset, .unset, .unset, .unset] [(.long q2), (.int (6 : Int32)), (.ref b6)])) _
  refine XS.bipush X34.here hx rfl (hb hby at_147) ?_
  show Steps p.tables e below (T34.setTop (mkF m 149 #[.val (.long q1), .second, .val (.long q2), .second, .val (.int p3), .val (.int p4), .val (.ref b5), .val (.ref b6), .unset, .unset, .unset, .unset, .unset, .unset, .unset, .unset, .unset] [(.int (6 : Int32)), (.long q2), (.int (6 : Int32)), (.ref b6)])) _
  refine st35 _ ?_
  show Steps p.tables e below (T35.setTop (mkF m 152 #[.val (.long q1), .second, .val (.long q2), .second, .val (.int p3), .val (.int p4), .val (.ref b5), .val (.ref b6), .unset, .unset, .unset, .unset, .unset, .unset, .unset, .unset, .unset] [(.int z35), (.int (6 : Int32)), (.ref b6)])) _
  refine st36 _ ?_
  show Steps p.tables e below (T36.setTop (mkF m 153 #[.val (.long q1), .second, .val (.long q2), .second, .val (.int p3), .val (.int p4), .val (.ref b5), .val (.ref b6), .unset, .unset, .unset, .unset, .unset, .unset, .unset, .unset, .unset] [])) _
  refine XS.aload X36.here hx rfl (hb hby at_153) rfl rfl ?_
  show Steps p.tables e below (T36.setTop (mkF m 155 #[.val (.long q1), .second, .val (.long q2), .second, .val (.int p3), .val (.int p4), .val (.ref b5), .val (.ref b6), .unset, .unset, .unset, .unset, .unset, .unset, .unset, .unset, .unset] [(.ref b6)])) _
  refine XS.bipush X36.here hx rfl (hb hby at_155) ?_
  show Steps p.tables e below (T36.setTop (mkF m 157 #[.val (.long q1), .second, .val (.long q2), .second, .val (.int p3), .val (.int p4), .val (.ref b5), .val (.ref b6), .unset, .unset, .unset, .unset, .unset, .unset, .unset, .unset, .unset] [(.int (7 : Int32)), (.ref b6)])) _
  refine XS.lloadN X36.here hx rfl (hb hby at_157) rfl ?_
  show Steps p.tables e below (T36.setTop (mkF m 158 #[.val (.long q1), .second, .val (.long q2), .second, .val (.int p3), .val (.int p4), .val (.ref b5), .val (.ref b6), .unset, .unset, .unset, .unset, .unset, .unset, .unset, .unset, .unset] [(.long q2), (.int (7 : Int32)), (.ref b6)])) _
  refine XS.bipush X36.here hx rfl (hb hby at_158) ?_
  show Steps p.tables e below (T36.setTop (mkF m 160 #[.val (.long q1), .second, .val (.long q2), .second, .val (.int p3), .val (.int p4), .val (.ref b5), .val (.ref b6), .unset, .unset, .unset, .unset, .unset, .unset, .unset, .unset, .unset] [(.int (7 : Int32)), (.long q2), (.int (7 : Int32)), (.ref b6)])) _
  refine st37 _ ?_
  show Steps p.tables e below (T37.setTop (mkF m 163 #[.val (.long q1), .second, .val (.long q2), .second, .val (.int p3), .val (.int p4), .val (.ref b5), .val (.ref b6), .unset, .unset, .unset, .unset, .unset, .unset, .unset, .unset, .unset] [(.int z37), (.int (7 : Int32)), (.ref b6)])) _
  refine st38 _ ?_
  show Steps p.tables e below (T38.setTop (mkF m 164 #[.val (.long q1), .second, .val (.long q2), .second, .val (.int p3), .val (.int p4), .val (.ref b5), .val (.ref b6), .unset, .unset, .unset, .unset, .unset, .unset, .unset, .unset, .unset] [])) _
  exact kt
def Q0 (Z : State) (q1 : Int64) (q2 : Int64) (p3 : Int32) (p4 : Int32) (h0 : Heap) (n0 : Nat) (v : Option Value) (h : Heap) (L : List Loc) : Prop := v = some (.int (1 : Int32)) ∧ Fr n0 L
set_option maxRecDepth 65536 in
set_option maxHeartbeats 40000000 in
theorem rm0 (l : Launch) (Z : State) (a0 : Array Value) (hw : ∀ d ∈ tables_1, d.before a0 Z = true) (ws : List Jvm.Cond) (q1 : Int64) (q2 : Int64) (p3 : Int32) (p4 : Int32) (h0 : Heap) (n0 : Nat) (Z0 : n0 ≤ h0.size) :
    MetFree l x (head1 (Jvm.Cond.code x code maxLocals ret :: ws) room_1) (fun a U => a = #[(.long q1), (.long q2), (.int p3), (.int p4)] ∧ Z.Warmed39 U.vm ∧ U.heap = h0) (fun _ _ _ _ _ => True) (fun _ U o U' => ∃ v L, o = .returned v ∧ Q0 Z q1 q2 p3 p4 h0 n0 v U'.heap L ∧ FrameEnd U o U' L room_1.cells room_1.slots) := by
  refine MetFree.of_bodySF (plainFor_of_name pn_0) hisR ?_
  intro p e s m args below meth c s₁ Bd hml0 hP hK
  obtain ⟨rfl, hZ, hh⟩ := hP
  have hx := Bd.exec
  have hby := Bd.bytes
  have hml : c.maxLocals = 17 := hml0
  have hown : s.vm.findClass "com/example/lean_relay/leanrelay/octets/ScanSamePinLaw" = some m.cls := findClass_of_methodNamed Bd.named
  have hnm := (name_of_methodNamed Bd.named Bd.method).1
  have X0 : Stand p l e room_1 s m #[(.long q1), (.long q2), (.int p3), (.int p4)] below meth c s₁ [] 0 0 := Stand.of_body Bd
  have e0 : s₁.heap = h0 := by rw [← hh, Bd.state]; rfl
  have N0 := Fr.nil n0
  have pre0 : ∀ t, Steps p.tables e below (s₁.setTop (mkF m 0 #[.val (.long q1), .second, .val (.long q2), .second, .val (.int p3), .val (.int p4), .unset, .unset, .unset, .unset, .unset, .unset, .unset, .unset, .unset, .unset, .unset] [])) t → Steps p.tables e below (s₁.setTop (entryFrame m #[(.long q1), (.long q2), (.int p3), (.int p4)] maxLocals)) t := fun t k => castTop (ef_0 m q1 q2 p3 p4) k
  obtain ⟨fA, hfA, hA⟩ := own_r5 p4
  obtain ⟨fB, hfB, hB⟩ := own_r5 ((p4.toUInt32 >>> ((3 : Int32) &&& 31).toUInt32).toInt32)
  obtain ⟨cN, hc4, hC⟩ := own_r5 ((p4.toUInt32 >>> ((6 : Int32) &&& 31).toUInt32).toInt32)
  obtain ⟨T22, locs22, b5, b6, k6, clx, x, X22, N22, K22, Bx22, V22, hne56, sz_b6, g_b6, stp1⟩ := own_fill1 (q1 := q1) (q2 := q2) (p3 := p3) (p4 := p4) X0 hx hZ hw hby hml hown Z0 e0 N0
  obtain ⟨T38, locs38, vs0, X38, N38, K38, Bx38, hvs0, V38, stp2⟩ := own_fill2 (q1 := q1) (q2 := q2) (p3 := p3) (p4 := p4) X22 hx hZ hw hby hml hown Z0 rfl N22 K22 Bx22 V22 hne56 sz_b6 g_b6
  obtain ⟨h38, e38⟩ : ∃ h, T38.heap = h := ⟨_, rfl⟩
  rw [e38] at K38 Bx38 V38
  -- pc 201: com/example/lean_relay/leanrelay/octets/ScanSamePinLaw.diff by its contract rm2
  obtain ⟨_, _, ⟨T39, L39, k39, n39⟩, -, X39, ⟨Lc39, hQ39, l39, y39, z39⟩, st39⟩ := Jvm.LawKit.callS X38 hx (y := (⟨"com/example/lean_relay/leanrelay/octets/ScanSamePinLaw", "diff", "(III)I"⟩ : MethodName)) hown (mvT hZ (hw _ (List.mem_of_getElem? (i := 5) rfl))) (mvT hZ (hw _ (List.mem_of_getElem? (i := 6) rfl))) (mvT hZ (hw _ (List.mem_of_getElem? (i := 3) rfl))) (mvT hZ (hw _ (List.mem_of_getElem? (i := 7) rfl))) (by decide) (backOf (W := 0) (rm2 l Z a0 hw [] p3 p4 (0 : Int32) h38 n0 (Nat.le_trans Z0 K38.1)) hZ (hw _ (List.mem_of_getElem? (i := 7) rfl)) (hw _ (List.mem_of_getElem? (i := 3) rfl)) (by decide) (by decide)) (g := (mkF m 201 #[.val (.long q1), .second, .val (.long q2), .second, .val (.int p3), .val (.int p4), .val (.ref b5), .val (.ref b6), .val (.int (Int32.ofNat fA)), .val (.int (Int32.ofNat fB)), .val (.int (Int32.ofNat cN)), .unset, .unset, .unset, .unset, .unset, .unset] [(.int (0 : Int32)), (.int p4), (.int p3)])) rfl (by rw [hml]; rfl) (argsL := [(.int p3), (.int p4), (.int (0 : Int32))]) (rest := []) (lenOf pd_0_1 rfl) rfl (by show 2 * 0 + _ ≤ _; exact Nat.le_of_eq rfl) (hb hby at_201) (fun _ _ => ⟨rfl, e38, (by decide : 2 + 0 ≤ _), (by decide : 16 + 0 ≤ _)⟩)
  dsimp only [Pt.U, Pt.locs, Pt.cells, Pt.slots] at X39 l39 y39 z39 st39 hQ39
  subst l39 y39 z39
  obtain ⟨dz0, rfl, hd0, N39q, hh39⟩ := hQ39
  have Kc39 : Keep h38 T39.heap [] := by rw [hh39]; exact Keep.refl _ _
  have Kh39 : Keep h0 T39.heap [] := by rw [hh39]; exact K38
  have N39 := Fr.app N38 N39q
  -- pc 211: com/example/lean_relay/leanrelay/octets/ScanSamePinLaw.diff by its contract rm2
  obtain ⟨_, _, ⟨T40, L40, k40, n40⟩, -, X40, ⟨Lc40, hQ40, l40, y40, z40⟩, st40⟩ := Jvm.LawKit.callS X39 hx (y := (⟨"com/example/lean_relay/leanrelay/octets/ScanSamePinLaw", "diff", "(III)I"⟩ : MethodName)) hown (mvT hZ (hw _ (List.mem_of_getElem? (i := 5) rfl))) (mvT hZ (hw _ (List.mem_of_getElem? (i := 6) rfl))) (mvT hZ (hw _ (List.mem_of_getElem? (i := 3) rfl))) (mvT hZ (hw _ (List.mem_of_getElem? (i := 7) rfl))) (by decide) (backOf (W := 0) (rm2 l Z a0 hw [] p3 p4 (1 : Int32) T39.heap n0 (Nat.le_trans Z0 Kh39.1)) hZ (hw _ (List.mem_of_getElem? (i := 7) rfl)) (hw _ (List.mem_of_getElem? (i := 3) rfl)) (by decide) (by decide)) (g := (mkF m 211 #[.val (.long q1), .second, .val (.long q2), .second, .val (.int p3), .val (.int p4), .val (.ref b5), .val (.ref b6), .val (.int (Int32.ofNat fA)), .val (.int (Int32.ofNat fB)), .val (.int (Int32.ofNat cN)), .val (.int dz0), .unset, .unset, .unset, .unset, .unset] [(.int (1 : Int32)), (.int p4), (.int p3)])) rfl (by rw [hml]; rfl) (argsL := [(.int p3), (.int p4), (.int (1 : Int32))]) (rest := []) (lenOf pd_0_1 rfl) rfl (by show 2 * 0 + _ ≤ _; exact Nat.le_of_eq rfl) (hb hby at_211) (fun _ _ => ⟨rfl, rfl, (by decide : 2 + 0 ≤ _), (by decide : 16 + 0 ≤ _)⟩)
  dsimp only [Pt.U, Pt.locs, Pt.cells, Pt.slots] at X40 l40 y40 z40 st40 hQ40
  subst l40 y40 z40
  obtain ⟨dz1, rfl, hd1, N40q, hh40⟩ := hQ40
  have Kc40 : Keep T39.heap T40.heap [] := by rw [hh40]; exact Keep.refl _ _
  have Kh40 : Keep h0 T40.heap [] := by rw [hh40]; exact Kh39
  have N40 := Fr.app N39 N40q
  -- pc 221: com/example/lean_relay/leanrelay/octets/ScanSamePinLaw.diff by its contract rm2
  obtain ⟨_, _, ⟨T41, L41, k41, n41⟩, -, X41, ⟨Lc41, hQ41, l41, y41, z41⟩, st41⟩ := Jvm.LawKit.callS X40 hx (y := (⟨"com/example/lean_relay/leanrelay/octets/ScanSamePinLaw", "diff", "(III)I"⟩ : MethodName)) hown (mvT hZ (hw _ (List.mem_of_getElem? (i := 5) rfl))) (mvT hZ (hw _ (List.mem_of_getElem? (i := 6) rfl))) (mvT hZ (hw _ (List.mem_of_getElem? (i := 3) rfl))) (mvT hZ (hw _ (List.mem_of_getElem? (i := 7) rfl))) (by decide) (backOf (W := 0) (rm2 l Z a0 hw [] p3 p4 (2 : Int32) T40.heap n0 (Nat.le_trans Z0 Kh40.1)) hZ (hw _ (List.mem_of_getElem? (i := 7) rfl)) (hw _ (List.mem_of_getElem? (i := 3) rfl)) (by decide) (by decide)) (g := (mkF m 221 #[.val (.long q1), .second, .val (.long q2), .second, .val (.int p3), .val (.int p4), .val (.ref b5), .val (.ref b6), .val (.int (Int32.ofNat fA)), .val (.int (Int32.ofNat fB)), .val (.int (Int32.ofNat cN)), .val (.int dz0), .val (.int dz1), .unset, .unset, .unset, .unset] [(.int (2 : Int32)), (.int p4), (.int p3)])) rfl (by rw [hml]; rfl) (argsL := [(.int p3), (.int p4), (.int (2 : Int32))]) (rest := []) (lenOf pd_0_1 rfl) rfl (by show 2 * 0 + _ ≤ _; exact Nat.le_of_eq rfl) (hb hby at_221) (fun _ _ => ⟨rfl, rfl, (by decide : 2 + 0 ≤ _), (by decide : 16 + 0 ≤ _)⟩)
  dsimp only [Pt.U, Pt.locs, Pt.cells, Pt.slots] at X41 l41 y41 z41 st41 hQ41
  subst l41 y41 z41
  obtain ⟨dz2, rfl, hd2, N41q, hh41⟩ := hQ41
  have Kc41 : Keep T40.heap T41.heap [] := by rw [hh41]; exact Keep.refl _ _
  have Kh41 : Keep h0 T41.heap [] := by rw [hh41]; exact Kh40
  have N41 := Fr.app N40 N41q
  -- pc 231: com/example/lean_relay/leanrelay/octets/ScanSamePinLaw.diff by its contract rm2
  obtain ⟨_, _, ⟨T42, L42, k42, n42⟩, -, X42, ⟨Lc42, hQ42, l42, y42, z42⟩, st42⟩ := Jvm.LawKit.callS X41 hx (y := (⟨"com/example/lean_relay/leanrelay/octets/ScanSamePinLaw", "diff", "(III)I"⟩ : MethodName)) hown (mvT hZ (hw _ (List.mem_of_getElem? (i := 5) rfl))) (mvT hZ (hw _ (List.mem_of_getElem? (i := 6) rfl))) (mvT hZ (hw _ (List.mem_of_getElem? (i := 3) rfl))) (mvT hZ (hw _ (List.mem_of_getElem? (i := 7) rfl))) (by decide) (backOf (W := 0) (rm2 l Z a0 hw [] p3 p4 (3 : Int32) T41.heap n0 (Nat.le_trans Z0 Kh41.1)) hZ (hw _ (List.mem_of_getElem? (i := 7) rfl)) (hw _ (List.mem_of_getElem? (i := 3) rfl)) (by decide) (by decide)) (g := (mkF m 231 #[.val (.long q1), .second, .val (.long q2), .second, .val (.int p3), .val (.int p4), .val (.ref b5), .val (.ref b6), .val (.int (Int32.ofNat fA)), .val (.int (Int32.ofNat fB)), .val (.int (Int32.ofNat cN)), .val (.int dz0), .val (.int dz1), .val (.int dz2), .unset, .unset, .unset] [(.int (3 : Int32)), (.int p4), (.int p3)])) rfl (by rw [hml]; rfl) (argsL := [(.int p3), (.int p4), (.int (3 : Int32))]) (rest := []) (lenOf pd_0_1 rfl) rfl (by show 2 * 0 + _ ≤ _; exact Nat.le_of_eq rfl) (hb hby at_231) (fun _ _ => ⟨rfl, rfl, (by decide : 2 + 0 ≤ _), (by decide : 16 + 0 ≤ _)⟩)
  dsimp only [Pt.U, Pt.locs, Pt.cells, Pt.slots] at X42 l42 y42 z42 st42 hQ42
  subst l42 y42 z42
  obtain ⟨dz3, rfl, hd3, N42q, hh42⟩ := hQ42
  have Kc42 : Keep T41.heap T42.heap [] := by rw [hh42]; exact Keep.refl _ _
  have Kh42 : Keep h0 T42.heap [] := by rw [hh42]; exact Kh41
  have N42 := Fr.app N41 N42q
  have Bx := own_B_keep (own_B_keep (own_B_keep (own_B_keep Bx38 Kc39 nin0) Kc40 nin0) Kc41 nin0) Kc42 nin0
  have V0 := (((V38.keep Kc39 nin0).keep Kc40 nin0).keep Kc41 nin0).keep Kc42 nin0
  obtain ⟨cl_b6_249, Ar_b6, q_b6, S_b6, N_b6, H_b6, G_b6⟩ := V0
  have hin249 : ¬ ((Int32.ofNat fB) < 0 ∨ cl_b6_249.slots.size ≤ ((Int32.ofNat fB)).toNatClampNeg) := own_inS S_b6 (k := fB + 0) rfl (by omega)
  obtain ⟨T44, h44, X44, e44, W44, st44⟩ := stB X42 hx hZ rfl Ar_b6 (j := (Int32.ofNat fB)) hin249 (g := (mkF m 249 #[.val (.long q1), .second, .val (.long q2), .second, .val (.int p3), .val (.int p4), .val (.ref b5), .val (.ref b6), .val (.int (Int32.ofNat fA)), .val (.int (Int32.ofNat fB)), .val (.int (Int32.ofNat cN)), .val (.int dz0), .val (.int dz1), .val (.int dz2), .val (.int dz3), .unset, .unset] [(.int (((x (fA + 0)) ^^^ dz0).toInt8.toInt32)), (.int (Int32.ofNat fB)), (.ref b6)])) rfl rfl (hb hby at_249)
  have V_b6_44 := Arv.set Ar_b6 q_b6 S_b6 N_b6 H_b6 G_b6 (fits_nar_byte _) W44 (fB + 0) (own_nS (k := fB + 0) rfl (by omega)) (by rw [hvs0]; omega)
  have Bx44 := own_B_other Bx W44 hne56
  have K44 : Keep h0 h44 [] := Kh42.wr W44 (Or.inr sz_b6)
  have N44 := Fr.snoc X44 N42 g_b6
  obtain ⟨cl_b6_267, Ar_b6, q_b6, S_b6, N_b6, H_b6, G_b6⟩ := V_b6_44      -- open the array's fact as it stands now (its cell, kind, length, elements)
  have hin267 : ¬ (((Int32.ofNat fB) + (1 : Int32)) < 0 ∨ cl_b6_267.slots.size ≤ (((Int32.ofNat fB) + (1 : Int32))).toNatClampNeg) := own_inS S_b6 (own_add fB 1) (by omega)
  obtain ⟨T46, h46, X46, e46, W46, st46⟩ := stB X44 hx hZ e44 Ar_b6 (j := ((Int32.ofNat fB) + (1 : Int32))) hin267 (g := (mkF m 267 #[.val (.long q1), .second, .val (.long q2), .second, .val (.int p3), .val (.int p4), .val (.ref b5), .val (.ref b6), .val (.int (Int32.ofNat fA)), .val (.int (Int32.ofNat fB)), .val (.int (Int32.ofNat cN)), .val (.int dz0), .val (.int dz1), .val (.int dz2), .val (.int dz3), .unset, .unset] [(.int (((x (fA + 1)) ^^^ dz1).toInt8.toInt32)), (.int ((Int32.ofNat fB) + (1 : Int32))), (.ref b6)])) rfl rfl (hb hby at_267)
  have V_b6_46 := Arv.set Ar_b6 q_b6 S_b6 N_b6 H_b6 G_b6 (fits_nar_byte _) W46 (fB + 1) (own_nS (own_add fB 1) (by omega)) (by rw [List.length_set, hvs0]; omega)
  have Bx46 := own_B_other Bx44 W46 hne56
  have K46 : Keep h0 h46 [] := K44.wr W46 (Or.inr sz_b6)
  have N46 := Fr.snoc X46 N44 g_b6
  obtain ⟨cl_b6_285, Ar_b6, q_b6, S_b6, N_b6, H_b6, G_b6⟩ := V_b6_46      -- open the array's fact as it stands now (its cell, kind, length, elements)
  have hin285 : ¬ (((Int32.ofNat fB) + (2 : Int32)) < 0 ∨ cl_b6_285.slots.size ≤ (((Int32.ofNat fB) + (2 : Int32))).toNatClampNeg) := own_inS S_b6 (own_add fB 2) (by omega)
  obtain ⟨T48, h48, X48, e48, W48, st48⟩ := stB X46 hx hZ e46 Ar_b6 (j := ((Int32.ofNat fB) + (2 : Int32))) hin285 (g := (mkF m 285 #[.val (.long q1), .second, .val (.long q2), .second, .val (.int p3), .val (.int p4), .val (.ref b5), .val (.ref b6), .val (.int (Int32.ofNat fA)), .val (.int (Int32.ofNat fB)), .val (.int (Int32.ofNat cN)), .val (.int dz0), .val (.int dz1), .val (.int dz2), .val (.int dz3), .unset, .unset] [(.int (((x (fA + 2)) ^^^ dz2).toInt8.toInt32)), (.int ((Int32.ofNat fB) + (2 : Int32))), (.ref b6)])) rfl rfl (hb hby at_285)
  have V_b6_48 := Arv.set Ar_b6 q_b6 S_b6 N_b6 H_b6 G_b6 (fits_nar_byte _) W48 (fB + 2) (own_nS (own_add fB 2) (by omega)) (by rw [List.length_set, List.length_set, hvs0]; omega)
  have Bx48 := own_B_other Bx46 W48 hne56
  have K48 : Keep h0 h48 [] := K46.wr W48 (Or.inr sz_b6)
  have N48 := Fr.snoc X48 N46 g_b6
  obtain ⟨cl_b6_303, Ar_b6, q_b6, S_b6, N_b6, H_b6, G_b6⟩ := V_b6_48      -- open the array's fact as it stands now (its cell, kind, length, elements)
  have hin303 : ¬ (((Int32.ofNat fB) + (3 : Int32)) < 0 ∨ cl_b6_303.slots.size ≤ (((Int32.ofNat fB) + (3 : Int32))).toNatClampNeg) := own_inS S_b6 (own_add fB 3) (by omega)
  obtain ⟨T50, h50, X50, e50, W50, st50⟩ := stB X48 hx hZ e48 Ar_b6 (j := ((Int32.ofNat fB) + (3 : Int32))) hin303 (g := (mkF m 303 #[.val (.long q1), .second, .val (.long q2), .second, .val (.int p3), .val (.int p4), .val (.ref b5), .val (.ref b6), .val (.int (Int32.ofNat fA)), .val (.int (Int32.ofNat fB)), .val (.int (Int32.ofNat cN)), .val (.int dz0), .val (.int dz1), .val (.int dz2), .val (.int dz3), .unset, .unset] [(.int (((x (fA + 3)) ^^^ dz3).toInt8.toInt32)), (.int ((Int32.ofNat fB) + (3 : Int32))), (.ref b6)])) rfl rfl (hb hby at_303)
  have V_b6_50 := Arv.set Ar_b6 q_b6 S_b6 N_b6 H_b6 G_b6 (fits_nar_byte _) W50 (fB + 3) (own_nS (own_add fB 3) (by omega)) (by rw [List.length_set, List.length_set, List.length_set, hvs0]; omega)
  have Bx50 := own_B_other Bx48 W50 hne56
  obtain ⟨cly, y, By, hget⟩ := own_open V_b6_50
  have hg4 := own_get4 vs0 fB hvs0 (by omega) (.int (nar .byte ((x (fA + 0) ^^^ dz0).toInt8.toInt32))) (.int (nar .byte ((x (fA + 1) ^^^ dz1).toInt8.toInt32))) (.int (nar .byte ((x (fA + 2) ^^^ dz2).toInt8.toInt32))) (.int (nar .byte ((x (fA + 3) ^^^ dz3).toInt8.toInt32))) (.int (0 : Int32))
  have hy0 : x (fA + 0) = y (fB + 0) ↔ dz0 = 0 := by
    rw [← Value.int.inj (hg4.1.symm.trans (hget (fB + 0) (by omega)))]
    exact own_eqv (Bx.2.2 (fA + 0) (by omega)).2 hd0
  have hy1 : x (fA + 1) = y (fB + 1) ↔ dz1 = 0 := by
    rw [← Value.int.inj (hg4.2.1.symm.trans (hget (fB + 1) (by omega)))]
    exact own_eqv (Bx.2.2 (fA + 1) (by omega)).2 hd1
  have hy2 : x (fA + 2) = y (fB + 2) ↔ dz2 = 0 := by
    rw [← Value.int.inj (hg4.2.2.1.symm.trans (hget (fB + 2) (by omega)))]
    exact own_eqv (Bx.2.2 (fA + 2) (by omega)).2 hd2
  have hy3 : x (fA + 3) = y (fB + 3) ↔ dz3 = 0 := by
    rw [← Value.int.inj (hg4.2.2.2.symm.trans (hget (fB + 3) (by omega)))]
    exact own_eqv (Bx.2.2 (fA + 3) (by omega)).2 hd3
  have K50 : Keep h0 h50 [] := K48.wr W50 (Or.inr sz_b6)
  have N50 := Fr.snoc X50 N48 g_b6
  -- pc 365: com/example/lean_relay/leanrelay/octets/Scan.same by its contract rm3
  obtain ⟨_, _, ⟨T51, L51, k51, n51⟩, -, X51, ⟨Lc51, hQ51, l51, y51, z51⟩, st51⟩ := Jvm.LawKit.callS X50 hx (y := (⟨"com/example/lean_relay/leanrelay/octets/Scan", "same", "([BI[BII)Z"⟩ : MethodName)) hown (mvT hZ (hw _ (List.mem_of_getElem? (i := 8) rfl))) (mvT hZ (hw _ (List.mem_of_getElem? (i := 9) rfl))) (mvT hZ (hw _ (List.mem_of_getElem? (i := 10) rfl))) (mvT hZ (hw _ (List.mem_of_getElem? (i := 11) rfl))) (by decide) (backOf (W := 0) (rm3 l Z a0 hw [] b5 b6 clx cly x y fA fB cN h50 n0 (Nat.le_trans Z0 K50.1) Bx50 By (by omega) (by omega)) hZ (hw _ (List.mem_of_getElem? (i := 11) rfl)) (hw _ (List.mem_of_getElem? (i := 10) rfl)) (by decide) (by decide)) (g := (mkF m 365 #[.val (.long q1), .second, .val (.long q2), .second, .val (.int p3), .val (.int p4), .val (.ref b5), .val (.ref b6), .val (.int (Int32.ofNat fA)), .val (.int (Int32.ofNat fB)), .val (.int (Int32.ofNat cN)), .val (.int dz0), .val (.int dz1), .val (.int dz2), .val (.int dz3), .val (.int (own_ex cN dz0 dz1 dz2 dz3)), .unset] [(.int (Int32.ofNat cN)), (.int (Int32.ofNat fB)), (.ref b6), (.int (Int32.ofNat fA)), (.ref b5)])) rfl (by rw [hml]; rfl) (argsL := [(.ref b5), (.int (Int32.ofNat fA)), (.ref b6), (.int (Int32.ofNat fB)), (.int (Int32.ofNat cN))]) (rest := []) (lenOf pd_0_2 rfl) rfl (by show 2 * 0 + _ ≤ _; exact Nat.le_of_eq rfl) (hb hby at_365) (fun _ _ => ⟨rfl, e50, (by decide : 2 + 0 ≤ _), (by decide : 16 + 0 ≤ _)⟩)
  dsimp only [Pt.U, Pt.locs, Pt.cells, Pt.slots] at X51 l51 y51 z51 st51 hQ51
  subst l51 y51 z51
  obtain ⟨r, rfl, hsame1, N51q, hh51⟩ := hQ51
  have hre : r = own_ex cN dz0 dz1 dz2 dz3 := own_fin hc4 hsame1 hy0 hy1 hy2 hy3
  have N51 := Fr.app N50 N51q
  have dia : ∀ t, Steps p.tables e below (T50.setTop (mkF m 355 #[.val (.long q1), .second, .val (.long q2), .second, .val (.int p3), .val (.int p4), .val (.ref b5), .val (.ref b6), .val (.int (Int32.ofNat fA)), .val (.int (Int32.ofNat fB)), .val (.int (Int32.ofNat cN)), .val (.int dz0), .val (.int dz1), .val (.int dz2), .val (.int dz3), .val (.int (own_ex cN dz0 dz1 dz2 dz3)), .unset] [])) t → Steps p.tables e below (T50.setTop (mkF m 304 #[.val (.long q1), .second, .val (.long q2), .second, .val (.int p3), .val (.int p4), .val (.ref b5), .val (.ref b6), .val (.int (Int32.ofNat fA)), .val (.int (Int32.ofNat fB)), .val (.int (Int32.ofNat cN)), .val (.int dz0), .val (.int dz1), .val (.int dz2), .val (.int dz3), .unset, .unset] [])) t := by
    intro t kt
    have sg0 : own_c cN 1 dz0 → ∀ t, Steps p.tables e below (T50.setTop (mkF m 315 #[.val (.long q1), .second, .val (.long q2), .second, .val (.int p3), .val (.int p4), .val (.ref b5), .val (.ref b6), .val (.int (Int32.ofNat fA)), .val (.int (Int32.ofNat fB)), .val (.int (Int32.ofNat cN)), .val (.int dz0), .val (.int dz1), .val (.int dz2), .val (.int dz3), .unset, .unset] [])) t → Steps p.tables e below (T50.setTop (mkF m 304 #[.val (.long q1), .second, .val (.long q2), .second, .val (.int p3), .val (.int p4), .val (.ref b5), .val (.ref b6), .val (.int (Int32.ofNat fA)), .val (.int (Int32.ofNat fB)), .val (.int (Int32.ofNat cN)), .val (.int dz0), .val (.int dz1), .val (.int dz2), .val (.int dz3), .unset, .unset] [])) t := by
      intro hq t kt
      by_cases hc307 : (Int32.ofNat cN) < (1 : Int32)
      · show Steps p.tables e below (T50.setTop (mkF m 304 #[.val (.long q1), .second, .val (.long q2), .second, .val (.int p3), .val (.int p4), .val (.ref b5), .val (.ref b6), .val (.int (Int32.ofNat fA)), .val (.int (Int32.ofNat fB)), .val (.int (Int32.ofNat cN)), .val (.int dz0), .val (.int dz1), .val (.int dz2), .val (.int dz3), .unset, .unset] [])) _
        refine XS.iload X50.here hx rfl (hb hby at_304) rfl ?_
        show Steps p.tables e below (T50.setTop (mkF m 306 #[.val (.long q1), .second, .val (.long q2), .second, .val (.int p3), .val (.int p4), .val (.ref b5), .val (.ref b6), .val (.int (Int32.ofNat fA)), .val (.int (Int32.ofNat fB)), .val (.int (Int32.ofNat cN)), .val (.int dz0), .val (.int dz1), .val (.int dz2), .val (.int dz3), .unset, .unset] [(.int (Int32.ofNat cN))])) _
        refine XS.iconst X50.here hx rfl (hb hby at_306) ?_
        show Steps p.tables e below (T50.setTop (mkF m 307 #[.val (.long q1), .second, .val (.long q2), .second, .val (.int p3), .val (.int p4), .val (.ref b5), .val (.ref b6), .val (.int (Int32.ofNat fA)), .val (.int (Int32.ofNat fB)), .val (.int (Int32.ofNat cN)), .val (.int dz0), .val (.int dz1), .val (.int dz2), .val (.int dz3), .unset, .unset] [(.int (1 : Int32)), (.int (Int32.ofNat cN))])) _
        refine XS.icmpYes X50.here hx rfl (pc0 := 307) (pc' := 315) rfl (hb hby at_307) rfl (tlt hc307).1 (by decide) (by decide) ?_
        exact kt
      · have hc312 : dz0 = (0 : Int32) := Or.resolve_left hq fun z => hc307 ((own_lt (by omega) (b := 1) (by omega)).mpr z)
        show Steps p.tables e below (T50.setTop (mkF m 304 #[.val (.long q1), .second, .val (.long q2), .second, .val (.int p3), .val (.int p4), .val (.ref b5), .val (.ref b6), .val (.int (Int32.ofNat fA)), .val (.int (Int32.ofNat fB)), .val (.int (Int32.ofNat cN)), .val (.int dz0), .val (.int dz1), .val (.int dz2), .val (.int dz3), .unset, .unset] [])) _
        refine XS.iload X50.here hx rfl (hb hby at_304) rfl ?_
        show Steps p.tables e below (T50.setTop (mkF m 306 #[.val (.long q1), .second, .val (.long q2), .second, .val (.int p3), .val (.int p4), .val (.ref b5), .val (.ref b6), .val (.int (Int32.ofNat fA)), .val (.int (Int32.ofNat fB)), .val (.int (Int32.ofNat cN)), .val (.int dz0), .val (.int dz1), .val (.int dz2), .val (.int dz3), .unset, .unset] [(.int (Int32.ofNat cN))])) _
        refine XS.iconst X50.here hx rfl (hb hby at_306) ?_
        show Steps p.tables e below (T50.setTop (mkF m 307 #[.val (.long q1), .second, .val (.long q2), .second, .val (.int p3), .val (.int p4), .val (.ref b5), .val (.ref b6), .val (.int (Int32.ofNat fA)), .val (.int (Int32.ofNat fB)), .val (.int (Int32.ofNat cN)), .val (.int dz0), .val (.int dz1), .val (.int dz2), .val (.int dz3), .unset, .unset] [(.int (1 : Int32)), (.int (Int32.ofNat cN))])) _
        refine XS.icmpNo X50.here hx rfl (hb hby at_307) rfl (flt hc307).1 ?_
        show Steps p.tables e below (T50.setTop (mkF m 310 #[.val (.long q1), .second, .val (.long q2), .second, .val (.int p3), .val (.int p4), .val (.ref b5), .val (.ref b6), .val (.int (Int32.ofNat fA)), .val (.int (Int32.ofNat fB)), .val (.int (Int32.ofNat cN)), .val (.int dz0), .val (.int dz1), .val (.int dz2), .val (.int dz3), .unset, .unset] [])) _
        refine XS.iload X50.here hx rfl (hb hby at_310) rfl ?_
        show Steps p.tables e below (T50.setTop (mkF m 312 #[.val (.long q1), .second, .val (.long q2), .second, .val (.int p3), .val (.int p4), .val (.ref b5), .val (.ref b6), .val (.int (Int32.ofNat fA)), .val (.int (Int32.ofNat fB)), .val (.int (Int32.ofNat cN)), .val (.int dz0), .val (.int dz1), .val (.int dz2), .val (.int dz3), .unset, .unset] [(.int dz0)])) _
        refine XS.ifNo X50.here hx rfl (hb hby at_312) rfl ((if0 _ _).trans (teq hc312).2) ?_
        exact kt
    have sf0 : ¬ own_c cN 1 dz0 → ∀ t, Steps p.tables e below (T50.setTop (mkF m 352 #[.val (.long q1), .second, .val (.long q2), .second, .val (.int p3), .val (.int p4), .val (.ref b5), .val (.ref b6), .val (.int (Int32.ofNat fA)), .val (.int (Int32.ofNat fB)), .val (.int (Int32.ofNat cN)), .val (.int dz0), .val (.int dz1), .val (.int dz2), .val (.int dz3), .unset, .unset] [])) t → Steps p.tables e below (T50.setTop (mkF m 304 #[.val (.long q1), .second, .val (.long q2), .second, .val (.int p3), .val (.int p4), .val (.ref b5), .val (.ref b6), .val (.int (Int32.ofNat fA)), .val (.int (Int32.ofNat fB)), .val (.int (Int32.ofNat cN)), .val (.int dz0), .val (.int dz1), .val (.int dz2), .val (.int dz3), .unset, .unset] [])) t := by
      intro hq t kt
      have hc307 : ¬ ((Int32.ofNat cN) < (1 : Int32)) := fun z => hq (Or.inl ((own_lt (by omega) (b := 1) (by omega)).mp z))
      have hc312 : ¬ (dz0 = (0 : Int32)) := fun z => hq (Or.inr z)
      show Steps p.tables e below (T50.setTop (mkF m 304 #[.val (.long q1), .second, .val (.long q2), .second, .val (.int p3), .val (.int p4), .val (.ref b5), .val (.ref b6), .val (.int (Int32.ofNat fA)), .val (.int (Int32.ofNat fB)), .val (.int (Int32.ofNat cN)), .val (.int dz0), .val (.int dz1), .val (.int dz2), .val (.int dz3), .unset, .unset] [])) _
      refine XS.iload X50.here hx rfl (hb hby at_304) rfl ?_
      show Steps p.tables e below (T50.setTop (mkF m 306 #[.val (.long q1), .second, .val (.long q2), .second, .val (.int p3), .val (.int p4), .val (.ref b5), .val (.ref b6), .val (.int (Int32.ofNat fA)), .val (.int (Int32.ofNat fB)), .val (.int (Int32.ofNat cN)), .val (.int dz0), .val (.int dz1), .val (.int dz2), .val (.int dz3), .unset, .unset] [(.int (Int32.ofNat cN))])) _
      refine XS.iconst X50.here hx rfl (hb hby at_306) ?_
      show Steps p.tables e below (T50.setTop (mkF m 307 #[.val (.long q1), .second, .val (.long q2), .second, .val (.int p3), .val (.int p4), .val (.ref b5), .val (.ref b6), .val (.int (Int32.ofNat fA)), .val (.int (Int32.ofNat fB)), .val (.int (Int32.ofNat cN)), .val (.int dz0), .val (.int dz1), .val (.int dz2), .val (.int dz3), .unset, .unset] [(.int (1 : Int32)), (.int (Int32.ofNat cN))])) _
      refine XS.icmpNo X50.here hx rfl (hb hby at_307) rfl (flt hc307).1 ?_
      show Steps p.tables e below (T50.setTop (mkF m 310 #[.val (.long q1), .second, .val (.long q2), .second, .val (.int p3), .val (.int p4), .val (.ref b5), .val (.ref b6), .val (.int (Int32.ofNat fA)), .val (.int (Int32.ofNat fB)), .val (.int (Int32.ofNat cN)), .val (.int dz0), .val (.int dz1), .val (.int dz2), .val (.int dz3), .unset, .unset] [])) _
      refine XS.iload X50.here hx rfl (hb hby at_310) rfl ?_
      show Steps p.tables e below (T50.setTop (mkF m 312 #[.val (.long q1), .second, .val (.long q2), .second, .val (.int p3), .val (.int p4), .val (.ref b5), .val (.ref b6), .val (.int (Int32.ofNat fA)), .val (.int (Int32.ofNat fB)), .val (.int (Int32.ofNat cN)), .val (.int dz0), .val (.int dz1), .val (.int dz2), .val (.int dz3), .unset, .unset] [(.int dz0)])) _
      refine XS.ifYes X50.here hx rfl (pc0 := 312) (pc' := 352) rfl (hb hby at_312) rfl ((if0 _ _).trans (feq hc312).2) (by decide) (by decide) ?_
      exact kt
    have sg1 : own_c cN 2 dz1 → ∀ t, Steps p.tables e below (T50.setTop (mkF m 326 #[.val (.long q1), .second, .val (.long q2), .second, .val (.int p3), .val (.int p4), .val (.ref b5), .val (.ref b6), .val (.int (Int32.ofNat fA)), .val (.int (Int32.ofNat fB)), .val (.int (Int32.ofNat cN)), .val (.int dz0), .val (.int dz1), .val (.int dz2), .val (.int dz3), .unset, .unset] [])) t → Steps p.tables e below (T50.setTop (mkF m 315 #[.val (.long q1), .second, .val (.long q2), .second, .val (.int p3), .val (.int p4), .val (.ref b5), .val (.ref b6), .val (.int (Int32.ofNat fA)), .val (.int (Int32.ofNat fB)), .val (.int (Int32.ofNat cN)), .val (.int dz0), .val (.int dz1), .val (.int dz2), .val (.int dz3), .unset, .unset] [])) t := by
      intro hq t kt
      by_cases hc318 : (Int32.ofNat cN) < (2 : Int32)
      · show Steps p.tables e below (T50.setTop (mkF m 315 #[.val (.long q1), .second, .val (.long q2), .second, .val (.int p3), .val (.int p4), .val (.ref b5), .val (.ref b6), .val (.int (Int32.ofNat fA)), .val (.int (Int32.ofNat fB)), .val (.int (Int32.ofNat cN)), .val (.int dz0), .val (.int dz1), .val (.int dz2), .val (.int dz3), .unset, .unset] [])) _
        refine XS.iload X50.here hx rfl (hb hby at_315) rfl ?_
        show Steps p.tables e below (T50.setTop (mkF m 317 #[.val (.long q1), .second, .val (.long q2), .second, .val (.int p3), .val (.int p4), .val (.ref b5), .val (.ref b6), .val (.int (Int32.ofNat fA)), .val (.int (Int32.ofNat fB)), .val (.int (Int32.ofNat cN)), .val (.int dz0), .val (.int dz1), .val (.int dz2), .val (.int dz3), .unset, .unset] [(.int (Int32.ofNat cN))])) _
        refine XS.iconst X50.here hx rfl (hb hby at_317) ?_
        show Steps p.tables e below (T50.setTop (mkF m 318 #[.val (.long q1), .second, .val (.long q2), .second, .val (.int p3), .val (.int p4), .val (.ref b5), .val (.ref b6), .val (.int (Int32.ofNat fA)), .val (.int (Int32.ofNat fB)), .val (.int (Int32.ofNat cN)), .val (.int dz0), .val (.int dz1), .val (.int dz2), .val (.int dz3), .unset, .unset] [(.int (2 : Int32)), (.int (Int32.ofNat cN))])) _
        refine XS.icmpYes X50.here hx rfl (pc0 := 318) (pc' := 326) rfl (hb hby at_318) rfl (tlt hc318).1 (by decide) (by decide) ?_
        exact kt
      · have hc323 : dz1 = (0 : Int32) := Or.resolve_left hq fun z => hc318 ((own_lt (by omega) (b := 2) (by omega)).mpr z)
        show Steps p.tables e below (T50.setTop (mkF m 315 #[.val (.long q1), .second, .val (.long q2), .second, .val (.int p3), .val (.int p4), .val (.ref b5), .val (.ref b6), .val (.int (Int32.ofNat fA)), .val (.int (Int32.ofNat fB)), .val (.int (Int32.ofNat cN)), .val (.int dz0), .val (.int dz1), .val (.int dz2), .val (.int dz3), .unset, .unset] [])) _
        refine XS.iload X50.here hx rfl (hb hby at_315) rfl ?_
        show Steps p.tables e below (T50.setTop (mkF m 317 #[.val (.long q1), .second, .val (.long q2), .second, .val (.int p3), .val (.int p4), .val (.ref b5), .val (.ref b6), .val (.int (Int32.ofNat fA)), .val (.int (Int32.ofNat fB)), .val (.int (Int32.ofNat cN)), .val (.int dz0), .val (.int dz1), .val (.int dz2), .val (.int dz3), .unset, .unset] [(.int (Int32.ofNat cN))])) _
        refine XS.iconst X50.here hx rfl (hb hby at_317) ?_
        show Steps p.tables e below (T50.setTop (mkF m 318 #[.val (.long q1), .second, .val (.long q2), .second, .val (.int p3), .val (.int p4), .val (.ref b5), .val (.ref b6), .val (.int (Int32.ofNat fA)), .val (.int (Int32.ofNat fB)), .val (.int (Int32.ofNat cN)), .val (.int dz0), .val (.int dz1), .val (.int dz2), .val (.int dz3), .unset, .unset] [(.int (2 : Int32)), (.int (Int32.ofNat cN))])) _
        refine XS.icmpNo X50.here hx rfl (hb hby at_318) rfl (flt hc318).1 ?_
        show Steps p.tables e below (T50.setTop (mkF m 321 #[.val (.long q1), .second, .val (.long q2), .second, .val (.int p3), .val (.int p4), .val (.ref b5), .val (.ref b6), .val (.int (Int32.ofNat fA)), .val (.int (Int32.ofNat fB)), .val (.int (Int32.ofNat cN)), .val (.int dz0), .val (.int dz1), .val (.int dz2), .val (.int dz3), .unset, .unset] [])) _
        refine XS.iload X50.here hx rfl (hb hby at_321) rfl ?_
        show Steps p.tables e below (T50.setTop (mkF m 323 #[.val (.long q1), .second, .val (.long q2), .second, .val (.int p3), .val (.int p4), .val (.ref b5), .val (.ref b6), .val (.int (Int32.ofNat fA)), .val (.int (Int32.ofNat fB)), .val (.int (Int32.ofNat cN)), .val (.int dz0), .val (.int dz1), .val (.int dz2), .val (.int dz3), .unset, .unset] [(.int dz1)])) _
        refine XS.ifNo X50.here hx rfl (hb hby at_323) rfl ((if0 _ _).trans (teq hc323).2) ?_
        exact kt
    have sf1 : ¬ own_c cN 2 dz1 → ∀ t, Steps p.tables e below (T50.setTop (mkF m 352 #[.val (.long q1), .second, .val (.long q2), .second, .val (.int p3), .val (.int p4), .val (.ref b5), .val (.ref b6), .val (.int (Int32.ofNat fA)), .val (.int (Int32.ofNat fB)), .val (.int (Int32.ofNat cN)), .val (.int dz0), .val (.int dz1), .val (.int dz2), .val (.int dz3), .unset, .unset] [])) t → Steps p.tables e below (T50.setTop (mkF m 315 #[.val (.long q1), .second, .val (.long q2), .second, .val (.int p3), .val (.int p4), .val (.ref b5), .val (.ref b6), .val (.int (Int32.ofNat fA)), .val (.int (Int32.ofNat fB)), .val (.int (Int32.ofNat cN)), .val (.int dz0), .val (.int dz1), .val (.int dz2), .val (.int dz3), .unset, .unset] [])) t := by
      intro hq t kt
      have hc318 : ¬ ((Int32.ofNat cN) < (2 : Int32)) := fun z => hq (Or.inl ((own_lt (by omega) (b := 2) (by omega)).mp z))
      have hc323 : ¬ (dz1 = (0 : Int32)) := fun z => hq (Or.inr z)
      show Steps p.tables e below (T50.setTop (mkF m 315 #[.val (.long q1), .second, .val (.long q2), .second, .val (.int p3), .val (.int p4), .val (.ref b5), .val (.ref b6), .val (.int (Int32.ofNat fA)), .val (.int (Int32.ofNat fB)), .val (.int (Int32.ofNat cN)), .val (.int dz0), .val (.int dz1), .val (.int dz2), .val (.int dz3), .unset, .unset] [])) _
      refine XS.iload X50.here hx rfl (hb hby at_315) rfl ?_
      show Steps p.tables e below (T50.setTop (mkF m 317 #[.val (.long q1), .second, .val (.long q2), .second, .val (.int p3), .val (.int p4), .val (.ref b5), .val (.ref b6), .val (.int (Int32.ofNat fA)), .val (.int (Int32.ofNat fB)), .val (.int (Int32.ofNat cN)), .val (.int dz0), .val (.int dz1), .val (.int dz2), .val (.int dz3), .unset, .unset] [(.int (Int32.ofNat cN))])) _
      refine XS.iconst X50.here hx rfl (hb hby at_317) ?_
      show Steps p.tables e below (T50.setTop (mkF m 318 #[.val (.long q1), .second, .val (.long q2), .second, .val (.int p3), .val (.int p4), .val (.ref b5), .val (.ref b6), .val (.int (Int32.ofNat fA)), .val (.int (Int32.ofNat fB)), .val (.int (Int32.ofNat cN)), .val (.int dz0), .val (.int dz1), .val (.int dz2), .val (.int dz3), .unset, .unset] [(.int (2 : Int32)), (.int (Int32.ofNat cN))])) _
      refine XS.icmpNo X50.here hx rfl (hb hby at_318) rfl (flt hc318).1 ?_
      show Steps p.tables e below (T50.setTop (mkF m 321 #[.val (.long q1), .second, .val (.long q2), .second, .val (.int p3), .val (.int p4), .val (.ref b5), .val (.ref b6), .val (.int (Int32.ofNat fA)), .val (.int (Int32.ofNat fB)), .val (.int (Int32.ofNat cN)), .val (.int dz0), .val (.int dz1), .val (.int dz2), .val (.int dz3), .unset, .unset] [])) _
      refine XS.iload X50.here hx rfl (hb hby at_321) rfl ?_
      show Steps p.tables e below (T50.setTop (mkF m 323 #[.val (.long q1), .second, .val (.long q2), .second, .val (.int p3), .val (.int p4), .val (.ref b5), .val (.ref b6), .val (.int (Int32.ofNat fA)), .val (.int (Int32.ofNat fB)), .val (.int (Int32.ofNat cN)), .val (.int dz0), .val (.int dz1), .val (.int dz2), .val (.int dz3), .unset, .unset] [(.int dz1)])) _
      refine XS.ifYes X50.here hx rfl (pc0 := 323) (pc' := 352) rfl (hb hby at_323) rfl ((if0 _ _).trans (feq hc323).2) (by decide) (by decide) ?_
      exact kt
    have sg2 : own_c cN 3 dz2 → ∀ t, Steps p.tables e below (T50.setTop (mkF m 337 #[.val (.long q1), .second, .val (.long q2), .second, .val (.int p3), .val (.int p4), .val (.ref b5), .val (.ref b6), .val (.int (Int32.ofNat fA)), .val (.int (Int32.ofNat fB)), .val (.int (Int32.ofNat cN)), .val (.int dz0), .val (.int dz1), .val (.int dz2), .val (.int dz3), .unset, .unset] [])) t → Steps p.tables e below (T50.setTop (mkF m 326 #[.val (.long q1), .second, .val (.long q2), .second, .val (.int p3), .val (.int p4), .val (.ref b5), .val (.ref b6), .val (.int (Int32.ofNat fA)), .val (.int (Int32.ofNat fB)), .val (.int (Int32.ofNat cN)), .val (.int dz0), .val (.int dz1), .val (.int dz2), .val (.int dz3), .unset, .unset] [])) t := by
      intro hq t kt
      by_cases hc329 : (Int32.ofNat cN) < (3 : Int32)
      · show Steps p.tables e below (T50.setTop (mkF m 326 #[.val (.long q1), .second, .val (.long q2), .second, .val (.int p3), .val (.int p4), .val (.ref b5), .val (.ref b6), .val (.int (Int32.ofNat fA)), .val (.int (Int32.ofNat fB)), .val (.int (Int32.ofNat cN)), .val (.int dz0), .val (.int dz1), .val (.int dz2), .val (.int dz3), .unset, .unset] [])) _
        refine XS.iload X50.here hx rfl (hb hby at_326) rfl ?_
        show Steps p.tables e below (T50.setTop (mkF m 328 #[.val (.long q1), .second, .val (.long q2), .second, .val (.int p3), .val (.int p4), .val (.ref b5), .val (.ref b6), .val (.int (Int32.ofNat fA)), .val (.int (Int32.ofNat fB)), .val (.int (Int32.ofNat cN)), .val (.int dz0), .val (.int dz1), .val (.int dz2), .val (.int dz3), .unset, .unset] [(.int (Int32.ofNat cN))])) _
        refine XS.iconst X50.here hx rfl (hb hby at_328) ?_
        show Steps p.tables e below (T50.setTop (mkF m 329 #[.val (.long q1), .second, .val (.long q2), .second, .val (.int p3), .val (.int p4), .val (.ref b5), .val (.ref b6), .val (.int (Int32.ofNat fA)), .val (.int (Int32.ofNat fB)), .val (.int (Int32.ofNat cN)), .val (.int dz0), .val (.int dz1), .val (.int dz2), .val (.int dz3), .unset, .unset] [(.int (3 : Int32)), (.int (Int32.ofNat cN))])) _
        refine XS.icmpYes X50.here hx rfl (pc0 := 329) (pc' := 337) rfl (hb hby at_329) rfl (tlt hc329).1 (by decide) (by decide) ?_
        exact kt
      · have hc334 : dz2 = (0 : Int32) := Or.resolve_left hq fun z => hc329 ((own_lt (by omega) (b := 3) (by omega)).mpr z)
        show Steps p.tables e below (T50.setTop (mkF m 326 #[.val (.long q1), .second, .val (.long q2), .second, .val (.int p3), .val (.int p4), .val (.ref b5), .val (.ref b6), .val (.int (Int32.ofNat fA)), .val (.int (Int32.ofNat fB)), .val (.int (Int32.ofNat cN)), .val (.int dz0), .val (.int dz1), .val (.int dz2), .val (.int dz3), .unset, .unset] [])) _
        refine XS.iload X50.here hx rfl (hb hby at_326) rfl ?_
        show Steps p.tables e below (T50.setTop (mkF m 328 #[.val (.long q1), .second, .val (.long q2), .second, .val (.int p3), .val (.int p4), .val (.ref b5), .val (.ref b6), .val (.int (Int32.ofNat fA)), .val (.int (Int32.ofNat fB)), .val (.int (Int32.ofNat cN)), .val (.int dz0), .val (.int dz1), .val (.int dz2), .val (.int dz3), .unset, .unset] [(.int (Int32.ofNat cN))])) _
        refine XS.iconst X50.here hx rfl (hb hby at_328) ?_
        show Steps p.tables e below (T50.setTop (mkF m 329 #[.val (.long q1), .second, .val (.long q2), .second, .val (.int p3), .val (.int p4), .val (.ref b5), .val (.ref b6), .val (.int (Int32.ofNat fA)), .val (.int (Int32.ofNat fB)), .val (.int (Int32.ofNat cN)), .val (.int dz0), .val (.int dz1), .val (.int dz2), .val (.int dz3), .unset, .unset] [(.int (3 : Int32)), (.int (Int32.ofNat cN))])) _
        refine XS.icmpNo X50.here hx rfl (hb hby at_329) rfl (flt hc329).1 ?_
        show Steps p.tables e below (T50.setTop (mkF m 332 #[.val (.long q1), .second, .val (.long q2), .second, .val (.int p3), .val (.int p4), .val (.ref b5), .val (.ref b6), .val (.int (Int32.ofNat fA)), .val (.int (Int32.ofNat fB)), .val (.int (Int32.ofNat cN)), .val (.int dz0), .val (.int dz1), .val (.int dz2), .val (.int dz3), .unset, .unset] [])) _
        refine XS.iload X50.here hx rfl (hb hby at_332) rfl ?_
        show Steps p.tables e below (T50.setTop (mkF m 334 #[.val (.long q1), .second, .val (.long q2), .second, .val (.int p3), .val (.int p4), .val (.ref b5), .val (.ref b6), .val (.int (Int32.ofNat fA)), .val (.int (Int32.ofNat fB)), .val (.int (Int32.ofNat cN)), .val (.int dz0), .val (.int dz1), .val (.int dz2), .val (.int dz3), .unset, .unset] [(.int dz2)])) _
        refine XS.ifNo X50.here hx rfl (hb hby at_334) rfl ((if0 _ _).trans (teq hc334).2) ?_
        exact kt
    have sf2 : ¬ own_c cN 3 dz2 → ∀ t, Steps p.tables e below (T50.setTop (mkF m 352 #[.val (.long q1), .second, .val (.long q2), .second, .val (.int p3), .val (.int p4), .val (.ref b5), .val (.ref b6), .val (.int (Int32.ofNat fA)), .val (.int (Int32.ofNat fB)), .val (.int (Int32.ofNat cN)), .val (.int dz0), .val (.int dz1), .val (.int dz2), .val (.int dz3), .unset, .unset] [])) t → Steps p.tables e below (T50.setTop (mkF m 326 #[.val (.long q1), .second, .val (.long q2), .second, .val (.int p3), .val (.int p4), .val (.ref b5), .val (.ref b6), .val (.int (Int32.ofNat fA)), .val (.int (Int32.ofNat fB)), .val (.int (Int32.ofNat cN)), .val (.int dz0), .val (.int dz1), .val (.int dz2), .val (.int dz3), .unset, .unset] [])) t := by
      intro hq t kt
      have hc329 : ¬ ((Int32.ofNat cN) < (3 : Int32)) := fun z => hq (Or.inl ((own_lt (by omega) (b := 3) (by omega)).mp z))
      have hc334 : ¬ (dz2 = (0 : Int32)) := fun z => hq (Or.inr z)
      show Steps p.tables e below (T50.setTop (mkF m 326 #[.val (.long q1), .second, .val (.long q2), .second, .val (.int p3), .val (.int p4), .val (.ref b5), .val (.ref b6), .val (.int (Int32.ofNat fA)), .val (.int (Int32.ofNat fB)), .val (.int (Int32.ofNat cN)), .val (.int dz0), .val (.int dz1), .val (.int dz2), .val (.int dz3), .unset, .unset] [])) _
      refine XS.iload X50.here hx rfl (hb hby at_326) rfl ?_
      show Steps p.tables e below (T50.setTop (mkF m 328 #[.val (.long q1), .second, .val (.long q2), .second, .val (.int p3), .val (.int p4), .val (.ref b5), .val (.ref b6), .val (.int (Int32.ofNat fA)), .val (.int (Int32.ofNat fB)), .val (.int (Int32.ofNat cN)), .val (.int dz0), .val (.int dz1), .val (.int dz2), .val (.int dz3), .unset, .unset] [(.int (Int32.ofNat cN))])) _
      refine XS.iconst X50.here hx rfl (hb hby at_328) ?_
      show Steps p.tables e below (T50.setTop (mkF m 329 #[.val (.long q1), .second, .val (.long q2), .second, .val (.int p3), .val (.int p4), .val (.ref b5), .val (.ref b6), .val (.int (Int32.ofNat fA)), .val (.int (Int32.ofNat fB)), .val (.int (Int32.ofNat cN)), .val (.int dz0), .val (.int dz1), .val (.int dz2), .val (.int dz3), .unset, .unset] [(.int (3 : Int32)), (.int (Int32.ofNat cN))])) _
      refine XS.icmpNo X50.here hx rfl (hb hby at_329) rfl (flt hc329).1 ?_
      show Steps p.tables e below (T50.setTop (mkF m 332 #[.val (.long q1), .second, .val (.long q2), .second, .val (.int p3), .val (.int p4), .val (.ref b5), .val (.ref b6), .val (.int (Int32.ofNat fA)), .val (.int (Int32.ofNat fB)), .val (.int (Int32.ofNat cN)), .val (.int dz0), .val (.int dz1), .val (.int dz2), .val (.int dz3), .unset, .unset] [])) _
      refine XS.iload X50.here hx rfl (hb hby at_332) rfl ?_
      show Steps p.tables e below (T50.setTop (mkF m 334 #[.val (.long q1), .second, .val (.long q2), .second, .val (.int p3), .val (.int p4), .val (.ref b5), .val (.ref b6), .val (.int (Int32.ofNat fA)), .val (.int (Int32.ofNat fB)), .val (.int (Int32.ofNat cN)), .val (.int dz0), .val (.int dz1), .val (.int dz2), .val (.int dz3), .unset, .unset] [(.int dz2)])) _
      refine XS.ifYes X50.here hx rfl (pc0 := 334) (pc' := 352) rfl (hb hby at_334) rfl ((if0 _ _).trans (feq hc334).2) (by decide) (by decide) ?_
      exact kt
    have sg3 : own_c cN 4 dz3 → ∀ t, Steps p.tables e below (T50.setTop (mkF m 348 #[.val (.long q1), .second, .val (.long q2), .second, .val (.int p3), .val (.int p4), .val (.ref b5), .val (.ref b6), .val (.int (Int32.ofNat fA)), .val (.int (Int32.ofNat fB)), .val (.int (Int32.ofNat cN)), .val (.int dz0), .val (.int dz1), .val (.int dz2), .val (.int dz3), .unset, .unset] [])) t → Steps p.tables e below (T50.setTop (mkF m 337 #[.val (.long q1), .second, .val (.long q2), .second, .val (.int p3), .val (.int p4), .val (.ref b5), .val (.ref b6), .val (.int (Int32.ofNat fA)), .val (.int (Int32.ofNat fB)), .val (.int (Int32.ofNat cN)), .val (.int dz0), .val (.int dz1), .val (.int dz2), .val (.int dz3), .unset, .unset] [])) t := by
      intro hq t kt
      by_cases hc340 : (Int32.ofNat cN) < (4 : Int32)
      · show Steps p.tables e below (T50.setTop (mkF m 337 #[.val (.long q1), .second, .val (.long q2), .second, .val (.int p3), .val (.int p4), .val (.ref b5), .val (.ref b6), .val (.int (Int32.ofNat fA)), .val (.int (Int32.ofNat fB)), .val (.int (Int32.ofNat cN)), .val (.int dz0), .val (.int dz1), .val (.int dz2), .val (.int dz3), .unset, .unset] [])) _
        refine XS.iload X50.here hx rfl (hb hby at_337) rfl ?_
        show Steps p.tables e below (T50.setTop (mkF m 339 #[.val (.long q1), .second, .val (.long q2), .second, .val (.int p3), .val (.int p4), .val (.ref b5), .val (.ref b6), .val (.int (Int32.ofNat fA)), .val (.int (Int32.ofNat fB)), .val (.int (Int32.ofNat cN)), .val (.int dz0), .val (.int dz1), .val (.int dz2), .val (.int dz3), .unset, .unset] [(.int (Int32.ofNat cN))])) _
        refine XS.iconst X50.here hx rfl (hb hby at_339) ?_
        show Steps p.tables e below (T50.setTop (mkF m 340 #[.val (.long q1), .second, .val (.long q2), .second, .val (.int p3), .val (.int p4), .val (.ref b5), .val (.ref b6), .val (.int (Int32.ofNat fA)), .val (.int (Int32.ofNat fB)), .val (.int (Int32.ofNat cN)), .val (.int dz0), .val (.int dz1), .val (.int dz2), .val (.int dz3), .unset, .unset] [(.int (4 : Int32)), (.int (Int32.ofNat cN))])) _
        refine XS.icmpYes X50.here hx rfl (pc0 := 340) (pc' := 348) rfl (hb hby at_340) rfl (tlt hc340).1 (by decide) (by decide) ?_
        exact kt
      · have hc345 : dz3 = (0 : Int32) := Or.resolve_left hq fun z => hc340 ((own_lt (by omega) (b := 4) (by omega)).mpr z)
        show Steps p.tables e below (T50.setTop (mkF m 337 #[.val (.long q1), .second, .val (.long q2), .second, .val (.int p3), .val (.int p4), .val (.ref b5), .val (.ref b6), .val (.int (Int32.ofNat fA)), .val (.int (Int32.ofNat fB)), .val (.int (Int32.ofNat cN)), .val (.int dz0), .val (.int dz1), .val (.int dz2), .val (.int dz3), .unset, .unset] [])) _
        refine XS.iload X50.here hx rfl (hb hby at_337) rfl ?_
        show Steps p.tables e below (T50.setTop (mkF m 339 #[.val (.long q1), .second, .val (.long q2), .second, .val (.int p3), .val (.int p4), .val (.ref b5), .val (.ref b6), .val (.int (Int32.ofNat fA)), .val (.int (Int32.ofNat fB)), .val (.int (Int32.ofNat cN)), .val (.int dz0), .val (.int dz1), .val (.int dz2), .val (.int dz3), .unset, .unset] [(.int (Int32.ofNat cN))])) _
        refine XS.iconst X50.here hx rfl (hb hby at_339) ?_
        show Steps p.tables e below (T50.setTop (mkF m 340 #[.val (.long q1), .second, .val (.long q2), .second, .val (.int p3), .val (.int p4), .val (.ref b5), .val (.ref b6), .val (.int (Int32.ofNat fA)), .val (.int (Int32.ofNat fB)), .val (.int (Int32.ofNat cN)), .val (.int dz0), .val (.int dz1), .val (.int dz2), .val (.int dz3), .unset, .unset] [(.int (4 : Int32)), (.int (Int32.ofNat cN))])) _
        refine XS.icmpNo X50.here hx rfl (hb hby at_340) rfl (flt hc340).1 ?_
        show Steps p.tables e below (T50.setTop (mkF m 343 #[.val (.long q1), .second, .val (.long q2), .second, .val (.int p3), .val (.int p4), .val (.ref b5), .val (.ref b6), .val (.int (Int32.ofNat fA)), .val (.int (Int32.ofNat fB)), .val (.int (Int32.ofNat cN)), .val (.int dz0), .val (.int dz1), .val (.int dz2), .val (.int dz3), .unset, .unset] [])) _
        refine XS.iload X50.here hx rfl (hb hby at_343) rfl ?_
        show Steps p.tables e below (T50.setTop (mkF m 345 #[.val (.long q1), .second, .val (.long q2), .second, .val (.int p3), .val (.int p4), .val (.ref b5), .val (.ref b6), .val (.int (Int32.ofNat fA)), .val (.int (Int32.ofNat fB)), .val (.int (Int32.ofNat cN)), .val (.int dz0), .val (.int dz1), .val (.int dz2), .val (.int dz3), .unset, .unset] [(.int dz3)])) _
        refine XS.ifNo X50.here hx rfl (hb hby at_345) rfl ((if0 _ _).trans (teq hc345).2) ?_
        exact kt
    have sf3 : ¬ own_c cN 4 dz3 → ∀ t, Steps p.tables e below (T50.setTop (mkF m 352 #[.val (.long q1), .second, .val (.long q2), .second, .val (.int p3), .val (.int p4), .val (.ref b5), .val (.ref b6), .val (.int (Int32.ofNat fA)), .val (.int (Int32.ofNat fB)), .val (.int (Int32.ofNat cN)), .val (.int dz0), .val (.int dz1), .val (.int dz2), .val (.int dz3), .unset, .unset] [])) t → Steps p.tables e below (T50.setTop (mkF m 337 #[.val (.long q1), .second, .val (.long q2), .second, .val (.int p3), .val (.int p4), .val (.ref b5), .val (.ref b6), .val (.int (Int32.ofNat fA)), .val (.int (Int32.ofNat fB)), .val (.int (Int32.ofNat cN)), .val (.int dz0), .val (.int dz1), .val (.int dz2), .val (.int dz3), .unset, .unset] [])) t := by
      intro hq t kt
      have hc340 : ¬ ((Int32.ofNat cN) < (4 : Int32)) := fun z => hq (Or.inl ((own_lt (by omega) (b := 4) (by omega)).mp z))
      have hc345 : ¬ (dz3 = (0 : Int32)) := fun z => hq (Or.inr z)
      show Steps p.tables e below (T50.setTop (mkF m 337 #[.val (.long q1), .second, .val (.long q2), .second, .val (.int p3), .val (.int p4), .val (.ref b5), .val (.ref b6), .val (.int (Int32.ofNat fA)), .val (.int (Int32.ofNat fB)), .val (.int (Int32.ofNat cN)), .val (.int dz0), .val (.int dz1), .val (.int dz2), .val (.int dz3), .unset, .unset] [])) _
      refine XS.iload X50.here hx rfl (hb hby at_337) rfl ?_
      show Steps p.tables e below (T50.setTop (mkF m 339 #[.val (.long q1), .second, .val (.long q2), .second, .val (.int p3), .val (.int p4), .val (.ref b5), .val (.ref b6), .val (.int (Int32.ofNat fA)), .val (.int (Int32.ofNat fB)), .val (.int (Int32.ofNat cN)), .val (.int dz0), .val (.int dz1), .val (.int dz2), .val (.int dz3), .unset, .unset] [(.int (Int32.ofNat cN))])) _
      refine XS.iconst X50.here hx rfl (hb hby at_339) ?_
      show Steps p.tables e below (T50.setTop (mkF m 340 #[.val (.long q1), .second, .val (.long q2), .second, .val (.int p3), .val (.int p4), .val (.ref b5), .val (.ref b6), .val (.int (Int32.ofNat fA)), .val (.int (Int32.ofNat fB)), .val (.int (Int32.ofNat cN)), .val (.int dz0), .val (.int dz1), .val (.int dz2), .val (.int dz3), .unset, .unset] [(.int (4 : Int32)), (.int (Int32.ofNat cN))])) _
      refine XS.icmpNo X50.here hx rfl (hb hby at_340) rfl (flt hc340).1 ?_
      show Steps p.tables e below (T50.setTop (mkF m 343 #[.val (.long q1), .second, .val (.long q2), .second, .val (.int p3), .val (.int p4), .val (.ref b5), .val (.ref b6), .val (.int (Int32.ofNat fA)), .val (.int (Int32.ofNat fB)), .val (.int (Int32.ofNat cN)), .val (.int dz0), .val (.int dz1), .val (.int dz2), .val (.int dz3), .unset, .unset] [])) _
      refine XS.iload X50.here hx rfl (hb hby at_343) rfl ?_
      show Steps p.tables e below (T50.setTop (mkF m 345 #[.val (.long q1), .second, .val (.long q2), .second, .val (.int p3), .val (.int p4), .val (.ref b5), .val (.ref b6), .val (.int (Int32.ofNat fA)), .val (.int (Int32.ofNat fB)), .val (.int (Int32.ofNat cN)), .val (.int dz0), .val (.int dz1), .val (.int dz2), .val (.int dz3), .unset, .unset] [(.int dz3)])) _
      refine XS.ifYes X50.here hx rfl (pc0 := 345) (pc' := 352) rfl (hb hby at_345) rfl ((if0 _ _).trans (feq hc345).2) (by decide) (by decide) ?_
      exact kt
    have s1 : ∀ t, Steps p.tables e below (T50.setTop (mkF m 355 #[.val (.long q1), .second, .val (.long q2), .second, .val (.int p3), .val (.int p4), .val (.ref b5), .val (.ref b6), .val (.int (Int32.ofNat fA)), .val (.int (Int32.ofNat fB)), .val (.int (Int32.ofNat cN)), .val (.int dz0), .val (.int dz1), .val (.int dz2), .val (.int dz3), .val (.int (1 : Int32)), .unset] [])) t → Steps p.tables e below (T50.setTop (mkF m 348 #[.val (.long q1), .second, .val (.long q2), .second, .val (.int p3), .val (.int p4), .val (.ref b5), .val (.ref b6), .val (.int (Int32.ofNat fA)), .val (.int (Int32.ofNat fB)), .val (.int (Int32.ofNat cN)), .val (.int dz0), .val (.int dz1), .val (.int dz2), .val (.int dz3), .unset, .unset] [])) t := by
      intro t kt
      show Steps p.tables e below (T50.setTop (mkF m 348 #[.val (.long q1), .second, .val (.long q2), .second, .val (.int p3), .val (.int p4), .val (.ref b5), .val (.ref b6), .val (.int (Int32.ofNat fA)), .val (.int (Int32.ofNat fB)), .val (.int (Int32.ofNat cN)), .val (.int dz0), .val (.int dz1), .val (.int dz2), .val (.int dz3), .unset, .unset] [])) _
      refine XS.iconst X50.here hx rfl (hb hby at_348) ?_
      show Steps p.tables e below (T50.setTop (mkF m 349 #[.val (.long q1), .second, .val (.long q2), .second, .val (.int p3), .val (.int p4), .val (.ref b5), .val (.ref b6), .val (.int (Int32.ofNat fA)), .val (.int (Int32.ofNat fB)), .val (.int (Int32.ofNat cN)), .val (.int dz0), .val (.int dz1), .val (.int dz2), .val (.int dz3), .unset, .unset] [(.int (1 : Int32))])) _
      refine XS.goto X50.here hx rfl (pc0 := 349) (pc' := 353) rfl (hb hby at_349) (by decide) (by decide) ?_
      show Steps p.tables e below (T50.setTop (mkF m 353 #[.val (.long q1), .second, .val (.long q2), .second, .val (.int p3), .val (.int p4), .val (.ref b5), .val (.ref b6), .val (.int (Int32.ofNat fA)), .val (.int (Int32.ofNat fB)), .val (.int (Int32.ofNat cN)), .val (.int dz0), .val (.int dz1), .val (.int dz2), .val (.int dz3), .unset, .unset] [(.int (1 : Int32))])) _
      refine XS.istore X50.here hx rfl (hb hby at_353) rfl (l' := #[.val (.long q1), .second, .val (.long q2), .second, .val (.int p3), .val (.int p4), .val (.ref b5), .val (.ref b6), .val (.int (Int32.ofNat fA)), .val (.int (Int32.ofNat fB)), .val (.int (Int32.ofNat cN)), .val (.int dz0), .val (.int dz1), .val (.int dz2), .val (.int dz3), .val (.int (1 : Int32)), .unset]) rfl ?_
      exact kt
    have s0 : ∀ t, Steps p.tables e below (T50.setTop (mkF m 355 #[.val (.long q1), .second, .val (.long q2), .second, .val (.int p3), .val (.int p4), .val (.ref b5), .val (.ref b6), .val (.int (Int32.ofNat fA)), .val (.int (Int32.ofNat fB)), .val (.int (Int32.ofNat cN)), .val (.int dz0), .val (.int dz1), .val (.int dz2), .val (.int dz3), .val (.int (0 : Int32)), .unset] [])) t → Steps p.tables e below (T50.setTop (mkF m 352 #[.val (.long q1), .second, .val (.long q2), .second, .val (.int p3), .val (.int p4), .val (.ref b5), .val (.ref b6), .val (.int (Int32.ofNat fA)), .val (.int (Int32.ofNat fB)), .val (.int (Int32.ofNat cN)), .val (.int dz0), .val (.int dz1), .val (.int dz2), .val (.int dz3), .unset, .unset] [])) t := by
      intro t kt
      show Steps p.tables e below (T50.setTop (mkF m 352 #[.val (.long q1), .second, .val (.long q2), .second, .val (.int p3), .val (.int p4), .val (.ref b5), .val (.ref b6), .val (.int (Int32.ofNat fA)), .val (.int (Int32.ofNat fB)), .val (.int (Int32.ofNat cN)), .val (.int dz0), .val (.int dz1), .val (.int dz2), .val (.int dz3), .unset, .unset] [])) _
      refine XS.iconst X50.here hx rfl (hb hby at_352) ?_
      show Steps p.tables e below (T50.setTop (mkF m 353 #[.val (.long q1), .second, .val (.long q2), .second, .val (.int p3), .val (.int p4), .val (.ref b5), .val (.ref b6), .val (.int (Int32.ofNat fA)), .val (.int (Int32.ofNat fB)), .val (.int (Int32.ofNat cN)), .val (.int dz0), .val (.int dz1), .val (.int dz2), .val (.int dz3), .unset, .unset] [(.int (0 : Int32))])) _
      refine XS.istore X50.here hx rfl (hb hby at_353) rfl (l' := #[.val (.long q1), .second, .val (.long q2), .second, .val (.int p3), .val (.int p4), .val (.ref b5), .val (.ref b6), .val (.int (Int32.ofNat fA)), .val (.int (Int32.ofNat fB)), .val (.int (Int32.ofNat cN)), .val (.int dz0), .val (.int dz1), .val (.int dz2), .val (.int dz3), .val (.int (0 : Int32)), .unset]) rfl ?_
      exact kt
    by_cases q0 : own_c cN 1 dz0
    · by_cases q1 : own_c cN 2 dz1
      · by_cases q2 : own_c cN 3 dz2
        · by_cases q3 : own_c cN 4 dz3
          · rw [show own_ex cN dz0 dz1 dz2 dz3 = (1 : Int32) from if_pos ⟨q0, q1, q2, q3⟩] at kt
            exact sg0 q0 _ (sg1 q1 _ (sg2 q2 _ (sg3 q3 _ (s1 _ kt))))
          · rw [show own_ex cN dz0 dz1 dz2 dz3 = (0 : Int32) from if_neg fun z => q3 z.2.2.2] at kt
            exact sg0 q0 _ (sg1 q1 _ (sg2 q2 _ (sf3 q3 _ (s0 _ kt))))
        · rw [show own_ex cN dz0 dz1 dz2 dz3 = (0 : Int32) from if_neg fun z => q2 z.2.2.1] at kt
          exact sg0 q0 _ (sg1 q1 _ (sf2 q2 _ (s0 _ kt)))
      · rw [show own_ex cN dz0 dz1 dz2 dz3 = (0 : Int32) from if_neg fun z => q1 z.2.1] at kt
        exact sg0 q0 _ (sf1 q1 _ (s0 _ kt))
    · rw [show own_ex cN dz0 dz1 dz2 dz3 = (0 : Int32) from if_neg fun z => q0 z.1] at kt
      exact sf0 q0 _ (s0 _ kt)
  obtain ⟨fs, hr, hrun, hended, hW, hsame⟩ := X51.leave (v := some (.int (1 : Int32))) (fun h => by rw [Bd.returns] at h; cases h)
  refine ⟨_, _, pre0 _ ?_, hrun, hended, _, _, rfl, ?_, ⟨_, rfl⟩, hW, hsame.mono (by decide) (by decide)⟩
  · show Steps p.tables e below (s₁.setTop (mkF m 0 #[.val (.long q1), .second, .val (.long q2), .second, .val (.int p3), .val (.int p4), .unset, .unset, .unset, .unset, .unset, .unset, .unset, .unset, .unset, .unset, .unset] [])) _
    refine stp1 _ ?_
    refine stp2 _ ?_
    show Steps p.tables e below (T38.setTop (mkF m 164 #[.val (.long q1), .second, .val (.long q2), .second, .val (.int p3), .val (.int p4), .val (.ref b5), .val (.ref b6), .unset, .unset, .unset, .unset, .unset, .unset, .unset, .unset, .unset] [])) _
    refine XS.iload X38.here hx rfl (hb hby at_164) rfl ?_
    show Steps p.tables e below (T38.setTop (mkF m 166 #[.val (.long q1), .second, .val (.long q2), .second, .val (.int p3), .val (.int p4), .val (.ref b5), .val (.ref b6), .unset, .unset, .unset, .unset, .unset, .unset, .unset, .unset, .unset] [(.int p4)])) _
    refine XS.bipush X38.here hx rfl (hb hby at_166) ?_
    show Steps p.tables e below (T38.setTop (mkF m 168 #[.val (.long q1), .second, .val (.long q2), .second, .val (.int p3), .val (.int p4), .val (.ref b5), .val (.ref b6), .unset, .unset, .unset, .unset, .unset, .unset, .unset, .unset, .unset] [(.int (7 : Int32)), (.int p4)])) _
    refine XS.iand X38.here hx rfl (hb hby at_168) rfl ?_
    show Steps p.tables e below (T38.setTop (mkF m 169 #[.val (.long q1), .second, .val (.long q2), .second, .val (.int p3), .val (.int p4), .val (.ref b5), .val (.ref b6), .unset, .unset, .unset, .unset, .unset, .unset, .unset, .unset, .unset] [(.int (p4 &&& (7 : Int32)))])) _
    refine XS.iconst X38.here hx rfl (hb hby at_169) ?_
    show Steps p.tables e below (T38.setTop (mkF m 170 #[.val (.long q1), .second, .val (.long q2), .second, .val (.int p3), .val (.int p4), .val (.ref b5), .val (.ref b6), .unset, .unset, .unset, .unset, .unset, .unset, .unset, .unset, .unset] [(.int (5 : Int32)), (.int (p4 &&& (7 : Int32)))])) _
    refine iremM X38 hx rfl (hb hby at_170) rfl (by decide) ?_
    show Steps p.tables e below (T38.setTop (mkF m 171 #[.val (.long q1), .second, .val (.long q2), .second, .val (.int p3), .val (.int p4), .val (.ref b5), .val (.ref b6), .unset, .unset, .unset, .unset, .unset, .unset, .unset, .unset, .unset] [(.int ((p4 &&& (7 : Int32)) % (5 : Int32)))])) _
    refine XS.istore X38.here hx rfl (hb hby at_171) rfl (l' := #[.val (.long q1), .second, .val (.long q2), .second, .val (.int p3), .val (.int p4), .val (.ref b5), .val (.ref b6), .val (.int ((p4 &&& (7 : Int32)) % (5 : Int32))), .unset, .unset, .unset, .unset, .unset, .unset, .unset, .unset]) rfl ?_
    show Steps p.tables e below (T38.setTop (mkF m 173 #[.val (.long q1), .second, .val (.long q2), .second, .val (.int p3), .val (.int p4), .val (.ref b5), .val (.ref b6), .val (.int ((p4 &&& (7 : Int32)) % (5 : Int32))), .unset, .unset, .unset, .unset, .unset, .unset, .unset, .unset] [])) _
    refine XS.iload X38.here hx rfl (hb hby at_173) rfl ?_
    show Steps p.tables e below (T38.setTop (mkF m 175 #[.val (.long q1), .second, .val (.long q2), .second, .val (.int p3), .val (.int p4), .val (.ref b5), .val (.ref b6), .val (.int ((p4 &&& (7 : Int32)) % (5 : Int32))), .unset, .unset, .unset, .unset, .unset, .unset, .unset, .unset] [(.int p4)])) _
    refine XS.iconst X38.here hx rfl (hb hby at_175) ?_
    show Steps p.tables e below (T38.setTop (mkF m 176 #[.val (.long q1), .second, .val (.long q2), .second, .val (.int p3), .val (.int p4), .val (.ref b5), .val (.ref b6), .val (.int ((p4 &&& (7 : Int32)) % (5 : Int32))), .unset, .unset, .unset, .unset, .unset, .unset, .unset, .unset] [(.int (3 : Int32)), (.int p4)])) _
    refine XS.iushr X38.here hx rfl (hb hby at_176) rfl ?_
    show Steps p.tables e below (T38.setTop (mkF m 177 #[.val (.long q1), .second, .val (.long q2), .second, .val (.int p3), .val (.int p4), .val (.ref b5), .val (.ref b6), .val (.int ((p4 &&& (7 : Int32)) % (5 : Int32))), .unset, .unset, .unset, .unset, .unset, .unset, .unset, .unset] [(.int ((p4.toUInt32 >>> ((3 : Int32) &&& 31).toUInt32).toInt32))])) _
    refine XS.bipush X38.here hx rfl (hb hby at_177) ?_
    show Steps p.tables e below (T38.setTop (mkF m 179 #[.val (.long q1), .second, .val (.long q2), .second, .val (.int p3), .val (.int p4), .val (.ref b5), .val (.ref b6), .val (.int ((p4 &&& (7 : Int32)) % (5 : Int32))), .unset, .unset, .unset, .unset, .unset, .unset, .unset, .unset] [(.int (7 : Int32)), (.int ((p4.toUInt32 >>> ((3 : Int32) &&& 31).toUInt32).toInt32))])) _
    refine XS.iand X38.here hx rfl (hb hby at_179) rfl ?_
    show Steps p.tables e below (T38.setTop (mkF m 180 #[.val (.long q1), .second, .val (.long q2), .second, .val (.int p3), .val (.int p4), .val (.ref b5), .val (.ref b6), .val (.int ((p4 &&& (7 : Int32)) % (5 : Int32))), .unset, .unset, .unset, .unset, .unset, .unset, .unset, .unset] [(.int (((p4.toUInt32 >>> ((3 : Int32) &&& 31).toUInt32).toInt32) &&& (7 : Int32)))])) _
    refine XS.iconst X38.here hx rfl (hb hby at_180) ?_
    show Steps p.tables e below (T38.setTop (mkF m 181 #[.val (.long q1), .second, .val (.long q2), .second, .val (.int p3), .val (.int p4), .val (.ref b5), .val (.ref b6), .val (.int ((p4 &&& (7 : Int32)) % (5 : Int32))), .unset, .unset, .unset, .unset, .unset, .unset, .unset, .unset] [(.int (5 : Int32)), (.int (((p4.toUInt32 >>> ((3 : Int32) &&& 31).toUInt32).toInt32) &&& (7 : Int32)))])) _
    refine iremM X38 hx rfl (hb hby at_181) rfl (by decide) ?_
    show Steps p.tables e below (T38.setTop (mkF m 182 #[.val (.long q1), .second, .val (.long q2), .second, .val (.int p3), .val (.int p4), .val (.ref b5), .val (.ref b6), .val (.int ((p4 &&& (7 : Int32)) % (5 : Int32))), .unset, .unset, .unset, .unset, .unset, .unset, .unset, .unset] [(.int ((((p4.toUInt32 >>> ((3 : Int32) &&& 31).toUInt32).toInt32) &&& (7 : Int32)) % (5 : Int32)))])) _
    refine XS.istore X38.here hx rfl (hb hby at_182) rfl (l' := #[.val (.long q1), .second, .val (.long q2), .second, .val (.int p3), .val (.int p4), .val (.ref b5), .val (.ref b6), .val (.int ((p4 &&& (7 : Int32)) % (5 : Int32))), .val (.int ((((p4.toUInt32 >>> ((3 : Int32) &&& 31).toUInt32).toInt32) &&& (7 : Int32)) % (5 : Int32))), .unset, .unset, .unset, .unset, .unset, .unset, .unset]) rfl ?_
    show Steps p.tables e below (T38.setTop (mkF m 184 #[.val (.long q1), .second, .val (.long q2), .second, .val (.int p3), .val (.int p4), .val (.ref b5), .val (.ref b6), .val (.int ((p4 &&& (7 : Int32)) % (5 : Int32))), .val (.int ((((p4.toUInt32 >>> ((3 : Int32) &&& 31).toUInt32).toInt32) &&& (7 : Int32)) % (5 : Int32))), .unset, .unset, .unset, .unset, .unset, .unset, .unset] [])) _
    refine XS.iload X38.here hx rfl (hb hby at_184) rfl ?_
    show Steps p.tables e below (T38.setTop (mkF m 186 #[.val (.long q1), .second, .val (.long q2), .second, .val (.int p3), .val (.int p4), .val (.ref b5), .val (.ref b6), .val (.int ((p4 &&& (7 : Int32)) % (5 : Int32))), .val (.int ((((p4.toUInt32 >>> ((3 : Int32) &&& 31).toUInt32).toInt32) &&& (7 : Int32)) % (5 : Int32))), .unset, .unset, .unset, .unset, .unset, .unset, .unset] [(.int p4)])) _
    refine XS.bipush X38.here hx rfl (hb hby at_186) ?_
    show Steps p.tables e below (T38.setTop (mkF m 188 #[.val (.long q1), .second, .val (.long q2), .second, .val (.int p3), .val (.int p4), .val (.ref b5), .val (.ref b6), .val (.int ((p4 &&& (7 : Int32)) % (5 : Int32))), .val (.int ((((p4.toUInt32 >>> ((3 : Int32) &&& 31).toUInt32).toInt32) &&& (7 : Int32)) % (5 : Int32))), .unset, .unset, .unset, .unset, .unset, .unset, .unset] [(.int (6 : Int32)), (.int p4)])) _
    refine XS.iushr X38.here hx rfl (hb hby at_188) rfl ?_
    show Steps p.tables e below (T38.setTop (mkF m 189 #[.val (.long q1), .second, .val (.long q2), .second, .val (.int p3), .val (.int p4), .val (.ref b5), .val (.ref b6), .val (.int ((p4 &&& (7 : Int32)) % (5 : Int32))), .val (.int ((((p4.toUInt32 >>> ((3 : Int32) &&& 31).toUInt32).toInt32) &&& (7 : Int32)) % (5 : Int32))), .unset, .unset, .unset, .unset, .unset, .unset, .unset] [(.int ((p4.toUInt32 >>> ((6 : Int32) &&& 31).toUInt32).toInt32))])) _
    refine XS.bipush X38.here hx rfl (hb hby at_189) ?_
    show Steps p.tables e below (T38.setTop (mkF m 191 #[.val (.long q1), .second, .val (.long q2), .second, .val (.int p3), .val (.int p4), .val (.ref b5), .val (.ref b6), .val (.int ((p4 &&& (7 : Int32)) % (5 : Int32))), .val (.int ((((p4.toUInt32 >>> ((3 : Int32) &&& 31).toUInt32).toInt32) &&& (7 : Int32)) % (5 : Int32))), .unset, .unset, .unset, .unset, .unset, .unset, .unset] [(.int (7 : Int32)), (.int ((p4.toUInt32 >>> ((6 : Int32) &&& 31).toUInt32).toInt32))])) _
    refine XS.iand X38.here hx rfl (hb hby at_191) rfl ?_
    show Steps p.tables e below (T38.setTop (mkF m 192 #[.val (.long q1), .second, .val (.long q2), .second, .val (.int p3), .val (.int p4), .val (.ref b5), .val (.ref b6), .val (.int ((p4 &&& (7 : Int32)) % (5 : Int32))), .val (.int ((((p4.toUInt32 >>> ((3 : Int32) &&& 31).toUInt32).toInt32) &&& (7 : Int32)) % (5 : Int32))), .unset, .unset, .unset, .unset, .unset, .unset, .unset] [(.int (((p4.toUInt32 >>> ((6 : Int32) &&& 31).toUInt32).toInt32) &&& (7 : Int32)))])) _
    refine XS.iconst X38.here hx rfl (hb hby at_192) ?_
    show Steps p.tables e below (T38.setTop (mkF m 193 #[.val (.long q1), .second, .val (.long q2), .second, .val (.int p3), .val (.int p4), .val (.ref b5), .val (.ref b6), .val (.int ((p4 &&& (7 : Int32)) % (5 : Int32))), .val (.int ((((p4.toUInt32 >>> ((3 : Int32) &&& 31).toUInt32).toInt32) &&& (7 : Int32)) % (5 : Int32))), .unset, .unset, .unset, .unset, .unset, .unset, .unset] [(.int (5 : Int32)), (.int (((p4.toUInt32 >>> ((6 : Int32) &&& 31).toUInt32).toInt32) &&& (7 : Int32)))])) _
    refine iremM X38 hx rfl (hb hby at_193) rfl (by decide) ?_
    show Steps p.tables e below (T38.setTop (mkF m 194 #[.val (.long q1), .second, .val (.long q2), .second, .val (.int p3), .val (.int p4), .val (.ref b5), .val (.ref b6), .val (.int ((p4 &&& (7 : Int32)) % (5 : Int32))), .val (.int ((((p4.toUInt32 >>> ((3 : Int32) &&& 31).toUInt32).toInt32) &&& (7 : Int32)) % (5 : Int32))), .unset, .unset, .unset, .unset, .unset, .unset, .unset] [(.int ((((p4.toUInt32 >>> ((6 : Int32) &&& 31).toUInt32).toInt32) &&& (7 : Int32)) % (5 : Int32)))])) _
    refine XS.istore X38.here hx rfl (hb hby at_194) rfl (l' := #[.val (.long q1), .second, .val (.long q2), .second, .val (.int p3), .val (.int p4), .val (.ref b5), .val (.ref b6), .val (.int ((p4 &&& (7 : Int32)) % (5 : Int32))), .val (.int ((((p4.toUInt32 >>> ((3 : Int32) &&& 31).toUInt32).toInt32) &&& (7 : Int32)) % (5 : Int32))), .val (.int ((((p4.toUInt32 >>> ((6 : Int32) &&& 31).toUInt32).toInt32) &&& (7 : Int32)) % (5 : Int32))), .unset, .unset, .unset, .unset, .unset, .unset]) rfl ?_
    show Steps p.tables e below (T38.setTop (mkF m 196 #[.val (.long q1), .second, .val (.long q2), .second, .val (.int p3), .val (.int p4), .val (.ref b5), .val (.ref b6), .val (.int ((p4 &&& (7 : Int32)) % (5 : Int32))), .val (.int ((((p4.toUInt32 >>> ((3 : Int32) &&& 31).toUInt32).toInt32) &&& (7 : Int32)) % (5 : Int32))), .val (.int ((((p4.toUInt32 >>> ((6 : Int32) &&& 31).toUInt32).toInt32) &&& (7 : Int32)) % (5 : Int32))), .unset, .unset, .unset, .unset, .unset, .unset] [])) _
    rw [hA, hB, hC]
    show Steps p.tables e below (T38.setTop (mkF m 196 #[.val (.long q1), .second, .val (.long q2), .second, .val (.int p3), .val (.int p4), .val (.ref b5), .val (.ref b6), .val (.int (Int32.ofNat fA)), .val (.int (Int32.ofNat fB)), .val (.int (Int32.ofNat cN)), .unset, .unset, .unset, .unset, .unset, .unset] [])) _
    refine XS.iload X38.here hx rfl (hb hby at_196) rfl ?_
    show Steps p.tables e below (T38.setTop (mkF m 198 #[.val (.long q1), .second, .val (.long q2), .second, .val (.int p3), .val (.int p4), .val (.ref b5), .val (.ref b6), .val (.int (Int32.ofNat fA)), .val (.int (Int32.ofNat fB)), .val (.int (Int32.ofNat cN)), .unset, .unset, .unset, .unset, .unset, .unset] [(.int p3)])) _
    refine XS.iload X38.here hx rfl (hb hby at_198) rfl ?_
    show Steps p.tables e below (T38.setTop (mkF m 200 #[.val (.long q1), .second, .val (.long q2), .second, .val (.int p3), .val (.int p4), .val (.ref b5), .val (.ref b6), .val (.int (Int32.ofNat fA)), .val (.int (Int32.ofNat fB)), .val (.int (Int32.ofNat cN)), .unset, .unset, .unset, .unset, .unset, .unset] [(.int p4), (.int p3)])) _
    refine XS.iconst X38.here hx rfl (hb hby at_200) ?_
    show Steps p.tables e below (T38.setTop (mkF m 201 #[.val (.long q1), .second, .val (.long q2), .second, .val (.int p3), .val (.int p4), .val (.ref b5), .val (.ref b6), .val (.int (Int32.ofNat fA)), .val (.int (Int32.ofNat fB)), .val (.int (Int32.ofNat cN)), .unset, .unset, .unset, .unset, .unset, .unset] [(.int (0 : Int32)), (.int p4), (.int p3)])) _
    refine st39 _ ?_
    show Steps p.tables e below (T39.setTop (mkF m 204 #[.val (.long q1), .second, .val (.long q2), .second, .val (.int p3), .val (.int p4), .val (.ref b5), .val (.ref b6), .val (.int (Int32.ofNat fA)), .val (.int (Int32.ofNat fB)), .val (.int (Int32.ofNat cN)), .unset, .unset, .unset, .unset, .unset, .unset] [(.int dz0)])) _
    refine XS.istore X39.here hx rfl (hb hby at_204) rfl (l' := #[.val (.long q1), .second, .val (.long q2), .second, .val (.int p3), .val (.int p4), .val (.ref b5), .val (.ref b6), .val (.int (Int32.ofNat fA)), .val (.int (Int32.ofNat fB)), .val (.int (Int32.ofNat cN)), .val (.int dz0), .unset, .unset, .unset, .unset, .unset]) rfl ?_
    show Steps p.tables e below (T39.setTop (mkF m 206 #[.val (.long q1), .second, .val (.long q2), .second, .val (.int p3), .val (.int p4), .val (.ref b5), .val (.ref b6), .val (.int (Int32.ofNat fA)), .val (.int (Int32.ofNat fB)), .val (.int (Int32.ofNat cN)), .val (.int dz0), .unset, .unset, .unset, .unset, .unset] [])) _
    refine XS.iload X39.here hx rfl (hb hby at_206) rfl ?_
    show Steps p.tables e below (T39.setTop (mkF m 208 #[.val (.long q1), .second, .val (.long q2), .second, .val (.int p3), .val (.int p4), .val (.ref b5), .val (.ref b6), .val (.int (Int32.ofNat fA)), .val (.int (Int32.ofNat fB)), .val (.int (Int32.ofNat cN)), .val (.int dz0), .unset, .unset, .unset, .unset, .unset] [(.int p3)])) _
    refine XS.iload X39.here hx rfl (hb hby at_208) rfl ?_
    show Steps p.tables e below (T39.setTop (mkF m 210 #[.val (.long q1), .second, .val (.long q2), .second, .val (.int p3), .val (.int p4), .val (.ref b5), .val (.ref b6), .val (.int (Int32.ofNat fA)), .val (.int (Int32.ofNat fB)), .val (.int (Int32.ofNat cN)), .val (.int dz0), .unset, .unset, .unset, .unset, .unset] [(.int p4), (.int p3)])) _
    refine XS.iconst X39.here hx rfl (hb hby at_210) ?_
    show Steps p.tables e below (T39.setTop (mkF m 211 #[.val (.long q1), .second, .val (.long q2), .second, .val (.int p3), .val (.int p4), .val (.ref b5), .val (.ref b6), .val (.int (Int32.ofNat fA)), .val (.int (Int32.ofNat fB)), .val (.int (Int32.ofNat cN)), .val (.int dz0), .unset, .unset, .unset, .unset, .unset] [(.int (1 : Int32)), (.int p4), (.int p3)])) _
    refine st40 _ ?_
    show Steps p.tables e below (T40.setTop (mkF m 214 #[.val (.long q1), .second, .val (.long q2), .second, .val (.int p3), .val (.int p4), .val (.ref b5), .val (.ref b6), .val (.int (Int32.ofNat fA)), .val (.int (Int32.ofNat fB)), .val (.int (Int32.ofNat cN)), .val (.int dz0), .unset, .unset, .unset, .unset, .unset] [(.int dz1)])) _
    refine XS.istore X40.here hx rfl (hb hby at_214) rfl (l' := #[.val (.long q1), .second, .val (.long q2), .second, .val (.int p3), .val (.int p4), .val (.ref b5), .val (.ref b6), .val (.int (Int32.ofNat fA)), .val (.int (Int32.ofNat fB)), .val (.int (Int32.ofNat cN)), .val (.int dz0), .val (.int dz1), .unset, .unset, .unset, .unset]) rfl ?_
    show Steps p.tables e below (T40.setTop (mkF m 216 #[.val (.long q1), .second, .val (.long q2), .second, .val (.int p3), .val (.int p4), .val (.ref b5), .val (.ref b6), .val (.int (Int32.ofNat fA)), .val (.int (Int32.ofNat fB)), .val (.int (Int32.ofNat cN)), .val (.int dz0), .val (.int dz1), .unset, .unset, .unset, .unset] [])) _
    refine XS.iload X40.here hx rfl (hb hby at_216) rfl ?_
    show Steps p.tables e below (T40.setTop (mkF m 218 #[.val (.long q1), .second, .val (.long q2), .second, .val (.int p3), .val (.int p4), .val (.ref b5), .val (.ref b6), .val (.int (Int32.ofNat fA)), .val (.int (Int32.ofNat fB)), .val (.int (Int32.ofNat cN)), .val (.int dz0), .val (.int dz1), .unset, .unset, .unset, .unset] [(.int p3)])) _
    refine XS.iload X40.here hx rfl (hb hby at_218) rfl ?_
    show Steps p.tables e below (T40.setTop (mkF m 220 #[.val (.long q1), .second, .val (.long q2), .second, .val (.int p3), .val (.int p4), .val (.ref b5), .val (.ref b6), .val (.int (Int32.ofNat fA)), .val (.int (Int32.ofNat fB)), .val (.int (Int32.ofNat cN)), .val (.int dz0), .val (.int dz1), .unset, .unset, .unset, .unset] [(.int p4), (.int p3)])) _
    refine XS.iconst X40.here hx rfl (hb hby at_220) ?_
    show Steps p.tables e below (T40.setTop (mkF m 221 #[.val (.long q1), .second, .val (.long q2), .second, .val (.int p3), .val (.int p4), .val (.ref b5), .val (.ref b6), .val (.int (Int32.ofNat fA)), .val (.int (Int32.ofNat fB)), .val (.int (Int32.ofNat cN)), .val (.int dz0), .val (.int dz1), .unset, .unset, .unset, .unset] [(.int (2 : Int32)), (.int p4), (.int p3)])) _
    refine st41 _ ?_
    show Steps p.tables e below (T41.setTop (mkF m 224 #[.val (.long q1), .second, .val (.long q2), .second, .val (.int p3), .val (.int p4), .val (.ref b5), .val (.ref b6), .val (.int (Int32.ofNat fA)), .val (.int (Int32.ofNat fB)), .val (.int (Int32.ofNat cN)), .val (.int dz0), .val (.int dz1), .unset, .unset, .unset, .unset] [(.int dz2)])) _
    refine XS.istore X41.here hx rfl (hb hby at_224) rfl (l' := #[.val (.long q1), .second, .val (.long q2), .second, .val (.int p3), .val (.int p4), .val (.ref b5), .val (.ref b6), .val (.int (Int32.ofNat fA)), .val (.int (Int32.ofNat fB)), .val (.int (Int32.ofNat cN)), .val (.int dz0), .val (.int dz1), .val (.int dz2), .unset, .unset, .unset]) rfl ?_
    show Steps p.tables e below (T41.setTop (mkF m 226 #[.val (.long q1), .second, .val (.long q2), .second, .val (.int p3), .val (.int p4), .val (.ref b5), .val (.ref b6), .val (.int (Int32.ofNat fA)), .val (.int (Int32.ofNat fB)), .val (.int (Int32.ofNat cN)), .val (.int dz0), .val (.int dz1), .val (.int dz2), .unset, .unset, .unset] [])) _
    refine XS.iload X41.here hx rfl (hb hby at_226) rfl ?_
    show Steps p.tables e below (T41.setTop (mkF m 228 #[.val (.long q1), .second, .val (.long q2), .second, .val (.int p3), .val (.int p4), .val (.ref b5), .val (.ref b6), .val (.int (Int32.ofNat fA)), .val (.int (Int32.ofNat fB)), .val (.int (Int32.ofNat cN)), .val (.int dz0), .val (.int dz1), .val (.int dz2), .unset, .unset, .unset] [(.int p3)])) _
    refine XS.iload X41.here hx rfl (hb hby at_228) rfl ?_
    show Steps p.tables e below (T41.setTop (mkF m 230 #[.val (.long q1), .second, .val (.long q2), .second, .val (.int p3), .val (.int p4), .val (.ref b5), .val (.ref b6), .val (.int (Int32.ofNat fA)), .val (.int (Int32.ofNat fB)), .val (.int (Int32.ofNat cN)), .val (.int dz0), .val (.int dz1), .val (.int dz2), .unset, .unset, .unset] [(.int p4), (.int p3)])) _
    refine XS.iconst X41.here hx rfl (hb hby at_230) ?_
    show Steps p.tables e below (T41.setTop (mkF m 231 #[.val (.long q1), .second, .val (.long q2), .second, .val (.int p3), .val (.int p4), .val (.ref b5), .val (.ref b6), .val (.int (Int32.ofNat fA)), .val (.int (Int32.ofNat fB)), .val (.int (Int32.ofNat cN)), .val (.int dz0), .val (.int dz1), .val (.int dz2), .unset, .unset, .unset] [(.int (3 : Int32)), (.int p4), (.int p3)])) _
    refine st42 _ ?_
    show Steps p.tables e below (T42.setTop (mkF m 234 #[.val (.long q1), .second, .val (.long q2), .second, .val (.int p3), .val (.int p4), .val (.ref b5), .val (.ref b6), .val (.int (Int32.ofNat fA)), .val (.int (Int32.ofNat fB)), .val (.int (Int32.ofNat cN)), .val (.int dz0), .val (.int dz1), .val (.int dz2), .unset, .unset, .unset] [(.int dz3)])) _
    refine XS.istore X42.here hx rfl (hb hby at_234) rfl (l' := #[.val (.long q1), .second, .val (.long q2), .second, .val (.int p3), .val (.int p4), .val (.ref b5), .val (.ref b6), .val (.int (Int32.ofNat fA)), .val (.int (Int32.ofNat fB)), .val (.int (Int32.ofNat cN)), .val (.int dz0), .val (.int dz1), .val (.int dz2), .val (.int dz3), .unset, .unset]) rfl ?_
    show Steps p.tables e below (T42.setTop (mkF m 236 #[.val (.long q1), .second, .val (.long q2), .second, .val (.int p3), .val (.int p4), .val (.ref b5), .val (.ref b6), .val (.int (Int32.ofNat fA)), .val (.int (Int32.ofNat fB)), .val (.int (Int32.ofNat cN)), .val (.int dz0), .val (.int dz1), .val (.int dz2), .val (.int dz3), .unset, .unset] [])) _
    refine XS.aload X42.here hx rfl (hb hby at_236) rfl rfl ?_
    show Steps p.tables e below (T42.setTop (mkF m 238 #[.val (.long q1), .second, .val (.long q2), .second, .val (.int p3), .val (.int p4), .val (.ref b5), .val (.ref b6), .val (.int (Int32.ofNat fA)), .val (.int (Int32.ofNat fB)), .val (.int (Int32.ofNat cN)), .val (.int dz0), .val (.int dz1), .val (.int dz2), .val (.int dz3), .unset, .unset] [(.ref b6)])) _
    refine XS.iload X42.here hx rfl (hb hby at_238) rfl ?_
    show Steps p.tables e below (T42.setTop (mkF m 240 #[.val (.long q1), .second, .val (.long q2), .second, .val (.int p3), .val (.int p4), .val (.ref b5), .val (.ref b6), .val (.int (Int32.ofNat fA)), .val (.int (Int32.ofNat fB)), .val (.int (Int32.ofNat cN)), .val (.int dz0), .val (.int dz1), .val (.int dz2), .val (.int dz3), .unset, .unset] [(.int (Int32.ofNat fB)), (.ref b6)])) _
    refine XS.aload X42.here hx rfl (hb hby at_240) rfl rfl ?_
    show Steps p.tables e below (T42.setTop (mkF m 242 #[.val (.long q1), .second, .val (.long q2), .second, .val (.int p3), .val (.int p4), .val (.ref b5), .val (.ref b6), .val (.int (Int32.ofNat fA)), .val (.int (Int32.ofNat fB)), .val (.int (Int32.ofNat cN)), .val (.int dz0), .val (.int dz1), .val (.int dz2), .val (.int dz3), .unset, .unset] [(.ref b5), (.int (Int32.ofNat fB)), (.ref b6)])) _
    refine XS.iload X42.here hx rfl (hb hby at_242) rfl ?_
    show Steps p.tables e below (T42.setTop (mkF m 244 #[.val (.long q1), .second, .val (.long q2), .second, .val (.int p3), .val (.int p4), .val (.ref b5), .val (.ref b6), .val (.int (Int32.ofNat fA)), .val (.int (Int32.ofNat fB)), .val (.int (Int32.ofNat cN)), .val (.int dz0), .val (.int dz1), .val (.int dz2), .val (.int dz3), .unset, .unset] [(.int (Int32.ofNat fA)), (.ref b5), (.int (Int32.ofNat fB)), (.ref b6)])) _
    refine X42.baloadBytes hx (j := (Int32.ofNat fA)) (v := (.int (x (fA + 0)))) (by exact Bx.1.1) (State.isArrayOf_alike hZ.alike Bx.1.2.1) Bx.1.2.2 (own_in Bx.2.1 (k := fA + 0) rfl (by omega)) (own_at Bx (k := fA + 0) rfl (by omega)) (g := (mkF m 244 #[.val (.long q1), .second, .val (.long q2), .second, .val (.int p3), .val (.int p4), .val (.ref b5), .val (.ref b6), .val (.int (Int32.ofNat fA)), .val (.int (Int32.ofNat fB)), .val (.int (Int32.ofNat cN)), .val (.int dz0), .val (.int dz1), .val (.int dz2), .val (.int dz3), .unset, .unset] [(.int (Int32.ofNat fA)), (.ref b5), (.int (Int32.ofNat fB)), (.ref b6)])) rfl rfl (hb hby at_244) _ ?_
    show Steps p.tables e below (T42.setTop (mkF m 245 #[.val (.long q1), .second, .val (.long q2), .second, .val (.int p3), .val (.int p4), .val (.ref b5), .val (.ref b6), .val (.int (Int32.ofNat fA)), .val (.int (Int32.ofNat fB)), .val (.int (Int32.ofNat cN)), .val (.int dz0), .val (.int dz1), .val (.int dz2), .val (.int dz3), .unset, .unset] [(.int (x (fA + 0))), (.int (Int32.ofNat fB)), (.ref b6)])) _
    refine XS.iload X42.here hx rfl (hb hby at_245) rfl ?_
    show Steps p.tables e below (T42.setTop (mkF m 247 #[.val (.long q1), .second, .val (.long q2), .second, .val (.int p3), .val (.int p4), .val (.ref b5), .val (.ref b6), .val (.int (Int32.ofNat fA)), .val (.int (Int32.ofNat fB)), .val (.int (Int32.ofNat cN)), .val (.int dz0), .val (.int dz1), .val (.int dz2), .val (.int dz3), .unset, .unset] [(.int dz0), (.int (x (fA + 0))), (.int (Int32.ofNat fB)), (.ref b6)])) _
    refine XS.ixor X42.here hx rfl (hb hby at_247) rfl ?_
    show Steps p.tables e below (T42.setTop (mkF m 248 #[.val (.long q1), .second, .val (.long q2), .second, .val (.int p3), .val (.int p4), .val (.ref b5), .val (.ref b6), .val (.int (Int32.ofNat fA)), .val (.int (Int32.ofNat fB)), .val (.int (Int32.ofNat cN)), .val (.int dz0), .val (.int dz1), .val (.int dz2), .val (.int dz3), .unset, .unset] [(.int ((x (fA + 0)) ^^^ dz0)), (.int (Int32.ofNat fB)), (.ref b6)])) _
    refine XS.i2b X42.here hx rfl (hb hby at_248) rfl ?_
    show Steps p.tables e below (T42.setTop (mkF m 249 #[.val (.long q1), .second, .val (.long q2), .second, .val (.int p3), .val (.int p4), .val (.ref b5), .val (.ref b6), .val (.int (Int32.ofNat fA)), .val (.int (Int32.ofNat fB)), .val (.int (Int32.ofNat cN)), .val (.int dz0), .val (.int dz1), .val (.int dz2), .val (.int dz3), .unset, .unset] [(.int (((x (fA + 0)) ^^^ dz0).toInt8.toInt32)), (.int (Int32.ofNat fB)), (.ref b6)])) _
    refine st44 _ ?_
    show Steps p.tables e below (T44.setTop (mkF m 250 #[.val (.long q1), .second, .val (.long q2), .second, .val (.int p3), .val (.int p4), .val (.ref b5), .val (.ref b6), .val (.int (Int32.ofNat fA)), .val (.int (Int32.ofNat fB)), .val (.int (Int32.ofNat cN)), .val (.int dz0), .val (.int dz1), .val (.int dz2), .val (.int dz3), .unset, .unset] [])) _
    refine XS.aload X44.here hx rfl (hb hby at_250) rfl rfl ?_
    show Steps p.tables e below (T44.setTop (mkF m 252 #[.val (.long q1), .second, .val (.long q2), .second, .val (.int p3), .val (.int p4), .val (.ref b5), .val (.ref b6), .val (.int (Int32.ofNat fA)), .val (.int (Int32.ofNat fB)), .val (.int (Int32.ofNat cN)), .val (.int dz0), .val (.int dz1), .val (.int dz2), .val (.int dz3), .unset, .unset] [(.ref b6)])) _
    refine XS.iload X44.here hx rfl (hb hby at_252) rfl ?_
    show Steps p.tables e below (T44.setTop (mkF m 254 #[.val (.long q1), .second, .val (.long q2), .second, .val (.int p3), .val (.int p4), .val (.ref b5), .val (.ref b6), .val (.int (Int32.ofNat fA)), .val (.int (Int32.ofNat fB)), .val (.int (Int32.ofNat cN)), .val (.int dz0), .val (.int dz1), .val (.int dz2), .val (.int dz3), .unset, .unset] [(.int (Int32.ofNat fB)), (.ref b6)])) _
    refine XS.iconst X44.here hx rfl (hb hby at_254) ?_
    show Steps p.tables e below (T44.setTop (mkF m 255 #[.val (.long q1), .second, .val (.long q2), .second, .val (.int p3), .val (.int p4), .val (.ref b5), .val (.ref b6), .val (.int (Int32.ofNat fA)), .val (.int (Int32.ofNat fB)), .val (.int (Int32.ofNat cN)), .val (.int dz0), .val (.int dz1), .val (.int dz2), .val (.int dz3), .unset, .unset] [(.int (1 : Int32)), (.int (Int32.ofNat fB)), (.ref b6)])) _
    refine XS.iadd X44.here hx rfl (hb hby at_255) rfl ?_
    show Steps p.tables e below (T44.setTop (mkF m 256 #[.val (.long q1), .second, .val (.long q2), .second, .val (.int p3), .val (.int p4), .val (.ref b5), .val (.ref b6), .val (.int (Int32.ofNat fA)), .val (.int (Int32.ofNat fB)), .val (.int (Int32.ofNat cN)), .val (.int dz0), .val (.int dz1), .val (.int dz2), .val (.int dz3), .unset, .unset] [(.int ((Int32.ofNat fB) + (1 : Int32))), (.ref b6)])) _
    refine XS.aload X44.here hx rfl (hb hby at_256) rfl rfl ?_
    show Steps p.tables e below (T44.setTop (mkF m 258 #[.val (.long q1), .second, .val (.long q2), .second, .val (.int p3), .val (.int p4), .val (.ref b5), .val (.ref b6), .val (.int (Int32.ofNat fA)), .val (.int (Int32.ofNat fB)), .val (.int (Int32.ofNat cN)), .val (.int dz0), .val (.int dz1), .val (.int dz2), .val (.int dz3), .unset, .unset] [(.ref b5), (.int ((Int32.ofNat fB) + (1 : Int32))), (.ref b6)])) _
    refine XS.iload X44.here hx rfl (hb hby at_258) rfl ?_
    show Steps p.tables e below (T44.setTop (mkF m 260 #[.val (.long q1), .second, .val (.long q2), .second, .val (.int p3), .val (.int p4), .val (.ref b5), .val (.ref b6), .val (.int (Int32.ofNat fA)), .val (.int (Int32.ofNat fB)), .val (.int (Int32.ofNat cN)), .val (.int dz0), .val (.int dz1), .val (.int dz2), .val (.int dz3), .unset, .unset] [(.int (Int32.ofNat fA)), (.ref b5), (.int ((Int32.ofNat fB) + (1 : Int32))), (.ref b6)])) _
    refine XS.iconst X44.here hx rfl (hb hby at_260) ?_
    show Steps p.tables e below (T44.setTop (mkF m 261 #[.val (.long q1), .second, .val (.long q2), .second, .val (.int p3), .val (.int p4), .val (.ref b5), .val (.ref b6), .val (.int (Int32.ofNat fA)), .val (.int (Int32.ofNat fB)), .val (.int (Int32.ofNat cN)), .val (.int dz0), .val (.int dz1), .val (.int dz2), .val (.int dz3), .unset, .unset] [(.int (1 : Int32)), (.int (Int32.ofNat fA)), (.ref b5), (.int ((Int32.ofNat fB) + (1 : Int32))), (.ref b6)])) _
    refine XS.iadd X44.here hx rfl (hb hby at_261) rfl ?_
    show Steps p.tables e below (T44.setTop (mkF m 262 #[.val (.long q1), .second, .val (.long q2), .second, .val (.int p3), .val (.int p4), .val (.ref b5), .val (.ref b6), .val (.int (Int32.ofNat fA)), .val (.int (Int32.ofNat fB)), .val (.int (Int32.ofNat cN)), .val (.int dz0), .val (.int dz1), .val (.int dz2), .val (.int dz3), .unset, .unset] [(.int ((Int32.ofNat fA) + (1 : Int32))), (.ref b5), (.int ((Int32.ofNat fB) + (1 : Int32))), (.ref b6)])) _
    refine X44.baloadBytes hx (j := ((Int32.ofNat fA) + (1 : Int32))) (v := (.int (x (fA + 1)))) (by rw [e44]; exact Bx44.1.1) (State.isArrayOf_alike hZ.alike Bx44.1.2.1) Bx44.1.2.2 (own_in Bx44.2.1 (own_add fA 1) (by omega)) (own_at Bx44 (own_add fA 1) (by omega)) (g := (mkF m 262 #[.val (.long q1), .second, .val (.long q2), .second, .val (.int p3), .val (.int p4), .val (.ref b5), .val (.ref b6), .val (.int (Int32.ofNat fA)), .val (.int (Int32.ofNat fB)), .val (.int (Int32.ofNat cN)), .val (.int dz0), .val (.int dz1), .val (.int dz2), .val (.int dz3), .unset, .unset] [(.int ((Int32.ofNat fA) + (1 : Int32))), (.ref b5), (.int ((Int32.ofNat fB) + (1 : Int32))), (.ref b6)])) rfl rfl (hb hby at_262) _ ?_
    show Steps p.tables e below (T44.setTop (mkF m 263 #[.val (.long q1), .second, .val (.long q2), .second, .val (.int p3), .val (.int p4), .val (.ref b5), .val (.ref b6), .val (.int (Int32.ofNat fA)), .val (.int (Int32.ofNat fB)), .val (.int (Int32.ofNat cN)), .val (.int dz0), .val (.int dz1), .val (.int dz2), .val (.int dz3), .unset, .unset] [(.int (x (fA + 1))), (.int ((Int32.ofNat fB) + (1 : Int32))), (.ref b6)])) _
    refine XS.iload X44.here hx rfl (hb hby at_263) rfl ?_
    show Steps p.tables e below (T44.setTop (mkF m 265 #[.val (.long q1), .second, .val (.long q2), .second, .val (.int p3), .val (.int p4), .val (.ref b5), .val (.ref b6), .val (.int (Int32.ofNat fA)), .val (.int (Int32.ofNat fB)), .val (.int (Int32.ofNat cN)), .val (.int dz0), .val (.int dz1), .val (.int dz2), .val (.int dz3), .unset, .unset] [(.int dz1), (.int (x (fA + 1))), (.int ((Int32.ofNat fB) + (1 : Int32))), (.ref b6)])) _
    refine XS.ixor X44.here hx rfl (hb hby at_265) rfl ?_
    show Steps p.tables e below (T44.setTop (mkF m 266 #[.val (.long q1), .second, .val (.long q2), .second, .val (.int p3), .val (.int p4), .val (.ref b5), .val (.ref b6), .val (.int (Int32.ofNat fA)), .val (.int (Int32.ofNat fB)), .val (.int (Int32.ofNat cN)), .val (.int dz0), .val (.int dz1), .val (.int dz2), .val (.int dz3), .unset, .unset] [(.int ((x (fA + 1)) ^^^ dz1)), (.int ((Int32.ofNat fB) + (1 : Int32))), (.ref b6)])) _
    refine XS.i2b X44.here hx rfl (hb hby at_266) rfl ?_
    show Steps p.tables e below (T44.setTop (mkF m 267 #[.val (.long q1), .second, .val (.long q2), .second, .val (.int p3), .val (.int p4), .val (.ref b5), .val (.ref b6), .val (.int (Int32.ofNat fA)), .val (.int (Int32.ofNat fB)), .val (.int (Int32.ofNat cN)), .val (.int dz0), .val (.int dz1), .val (.int dz2), .val (.int dz3), .unset, .unset] [(.int (((x (fA + 1)) ^^^ dz1).toInt8.toInt32)), (.int ((Int32.ofNat fB) + (1 : Int32))), (.ref b6)])) _
    refine st46 _ ?_
    show Steps p.tables e below (T46.setTop (mkF m 268 #[.val (.long q1), .second, .val (.long q2), .second, .val (.int p3), .val (.int p4), .val (.ref b5), .val (.ref b6), .val (.int (Int32.ofNat fA)), .val (.int (Int32.ofNat fB)), .val (.int (Int32.ofNat cN)), .val (.int dz0), .val (.int dz1), .val (.int dz2), .val (.int dz3), .unset, .unset] [])) _
    refine XS.aload X46.here hx rfl (hb hby at_268) rfl rfl ?_
    show Steps p.tables e below (T46.setTop (mkF m 270 #[.val (.long q1), .second, .val (.long q2), .second, .val (.int p3), .val (.int p4), .val (.ref b5), .val (.ref b6), .val (.int (Int32.ofNat fA)), .val (.int (Int32.ofNat fB)), .val (.int (Int32.ofNat cN)), .val (.int dz0), .val (.int dz1), .val (.int dz2), .val (.int dz3), .unset, .unset] [(.ref b6)])) _
    refine XS.iload X46.here hx rfl (hb hby at_270) rfl ?_
    show Steps p.tables e below (T46.setTop (mkF m 272 #[.val (.long q1), .second, .val (.long q2), .second, .val (.int p3), .val (.int p4), .val (.ref b5), .val (.ref b6), .val (.int (Int32.ofNat fA)), .val (.int (Int32.ofNat fB)), .val (.int (Int32.ofNat cN)), .val (.int dz0), .val (.int dz1), .val (.int dz2), .val (.int dz3), .unset, .unset] [(.int (Int32.ofNat fB)), (.ref b6)])) _
    refine XS.iconst X46.here hx rfl (hb hby at_272) ?_
    show Steps p.tables e below (T46.setTop (mkF m 273 #[.val (.long q1), .second, .val (.long q2), .second, .val (.int p3), .val (.int p4), .val (.ref b5), .val (.ref b6), .val (.int (Int32.ofNat fA)), .val (.int (Int32.ofNat fB)), .val (.int (Int32.ofNat cN)), .val (.int dz0), .val (.int dz1), .val (.int dz2), .val (.int dz3), .unset, .unset] [(.int (2 : Int32)), (.int (Int32.ofNat fB)), (.ref b6)])) _
    refine XS.iadd X46.here hx rfl (hb hby at_273) rfl ?_
    show Steps p.tables e below (T46.setTop (mkF m 274 #[.val (.long q1), .second, .val (.long q2), .second, .val (.int p3), .val (.int p4), .val (.ref b5), .val (.ref b6), .val (.int (Int32.ofNat fA)), .val (.int (Int32.ofNat fB)), .val (.int (Int32.ofNat cN)), .val (.int dz0), .val (.int dz1), .val (.int dz2), .val (.int dz3), .unset, .unset] [(.int ((Int32.ofNat fB) + (2 : Int32))), (.ref b6)])) _
    refine XS.aload X46.here hx rfl (hb hby at_274) rfl rfl ?_
    show Steps p.tables e below (T46.setTop (mkF m 276 #[.val (.long q1), .second, .val (.long q2), .second, .val (.int p3), .val (.int p4), .val (.ref b5), .val (.ref b6), .val (.int (Int32.ofNat fA)), .val (.int (Int32.ofNat fB)), .val (.int (Int32.ofNat cN)), .val (.int dz0), .val (.int dz1), .val (.int dz2), .val (.int dz3), .unset, .unset] [(.ref b5), (.int ((Int32.ofNat fB) + (2 : Int32))), (.ref b6)])) _
    refine XS.iload X46.here hx rfl (hb hby at_276) rfl ?_
    show Steps p.tables e below (T46.setTop (mkF m 278 #[.val (.long q1), .second, .val (.long q2), .second, .val (.int p3), .val (.int p4), .val (.ref b5), .val (.ref b6), .val (.int (Int32.ofNat fA)), .val (.int (Int32.ofNat fB)), .val (.int (Int32.ofNat cN)), .val (.int dz0), .val (.int dz1), .val (.int dz2), .val (.int dz3), .unset, .unset] [(.int (Int32.ofNat fA)), (.ref b5), (.int ((Int32.ofNat fB) + (2 : Int32))), (.ref b6)])) _
    refine XS.iconst X46.here hx rfl (hb hby at_278) ?_
    show Steps p.tables e below (T46.setTop (mkF m 279 #[.val (.long q1), .second, .val (.long q2), .second, .val (.int p3), .val (.int p4), .val (.ref b5), .val (.ref b6), .val (.int (Int32.ofNat fA)), .val (.int (Int32.ofNat fB)), .val (.int (Int32.ofNat cN)), .val (.int dz0), .val (.int dz1), .val (.int dz2), .val (.int dz3), .unset, .unset] [(.int (2 : Int32)), (.int (Int32.ofNat fA)), (.ref b5), (.int ((Int32.ofNat fB) + (2 : Int32))), (.ref b6)])) _
    refine XS.iadd X46.here hx rfl (hb hby at_279) rfl ?_
    show Steps p.tables e below (T46.setTop (mkF m 280 #[.val (.long q1), .second, .val (.long q2), .second, .val (.int p3), .val (.int p4), .val (.ref b5), .val (.ref b6), .val (.int (Int32.ofNat fA)), .val (.int (Int32.ofNat fB)), .val (.int (Int32.ofNat cN)), .val (.int dz0), .val (.int dz1), .val (.int dz2), .val (.int dz3), .unset, .unset] [(.int ((Int32.ofNat fA) + (2 : Int32))), (.ref b5), (.int ((Int32.ofNat fB) + (2 : Int32))), (.ref b6)])) _
    refine X46.baloadBytes hx (j := ((Int32.ofNat fA) + (2 : Int32))) (v := (.int (x (fA + 2)))) (by rw [e46]; exact Bx46.1.1) (State.isArrayOf_alike hZ.alike Bx46.1.2.1) Bx46.1.2.2 (own_in Bx46.2.1 (own_add fA 2) (by omega)) (own_at Bx46 (own_add fA 2) (by omega)) (g := (mkF m 280 #[.val (.long q1), .second, .val (.long q2), .second, .val (.int p3), .val (.int p4), .val (.ref b5), .val (.ref b6), .val (.int (Int32.ofNat fA)), .val (.int (Int32.ofNat fB)), .val (.int (Int32.ofNat cN)), .val (.int dz0), .val (.int dz1), .val (.int dz2), .val (.int dz3), .unset, .unset] [(.int ((Int32.ofNat fA) + (2 : Int32))), (.ref b5), (.int ((Int32.ofNat fB) + (2 : Int32))), (.ref b6)])) rfl rfl (hb hby at_280) _ ?_
    show Steps p.tables e below (T46.setTop (mkF m 281 #[.val (.long q1), .second, .val (.long q2), .second, .val (.int p3), .val (.int p4), .val (.ref b5), .val (.ref b6), .val (.int (Int32.ofNat fA)), .val (.int (Int32.ofNat fB)), .val (.int (Int32.ofNat cN)), .val (.int dz0), .val (.int dz1), .val (.int dz2), .val (.int dz3), .unset, .unset] [(.int (x (fA + 2))), (.int ((Int32.ofNat fB) + (2 : Int32))), (.ref b6)])) _
    refine XS.iload X46.here hx rfl (hb hby at_281) rfl ?_
    show Steps p.tables e below (T46.setTop (mkF m 283 #[.val (.long q1), .second, .val (.long q2), .second, .val (.int p3), .val (.int p4), .val (.ref b5), .val (.ref b6), .val (.int (Int32.ofNat fA)), .val (.int (Int32.ofNat fB)), .val (.int (Int32.ofNat cN)), .val (.int dz0), .val (.int dz1), .val (.int dz2), .val (.int dz3), .unset, .unset] [(.int dz2), (.int (x (fA + 2))), (.int ((Int32.ofNat fB) + (2 : Int32))), (.ref b6)])) _
    refine XS.ixor X46.here hx rfl (hb hby at_283) rfl ?_
    show Steps p.tables e below (T46.setTop (mkF m 284 #[.val (.long q1), .second, .val (.long q2), .second, .val (.int p3), .val (.int p4), .val (.ref b5), .val (.ref b6), .val (.int (Int32.ofNat fA)), .val (.int (Int32.ofNat fB)), .val (.int (Int32.ofNat cN)), .val (.int dz0), .val (.int dz1), .val (.int dz2), .val (.int dz3), .unset, .unset] [(.int ((x (fA + 2)) ^^^ dz2)), (.int ((Int32.ofNat fB) + (2 : Int32))), (.ref b6)])) _
    refine XS.i2b X46.here hx rfl (hb hby at_284) rfl ?_
    show Steps p.tables e below (T46.setTop (mkF m 285 #[.val (.long q1), .second, .val (.long q2), .second, .val (.int p3), .val (.int p4), .val (.ref b5), .val (.ref b6), .val (.int (Int32.ofNat fA)), .val (.int (Int32.ofNat fB)), .val (.int (Int32.ofNat cN)), .val (.int dz0), .val (.int dz1), .val (.int dz2), .val (.int dz3), .unset, .unset] [(.int (((x (fA + 2)) ^^^ dz2).toInt8.toInt32)), (.int ((Int32.ofNat fB) + (2 : Int32))), (.ref b6)])) _
    refine st48 _ ?_
    show Steps p.tables e below (T48.setTop (mkF m 286 #[.val (.long q1), .second, .val (.long q2), .second, .val (.int p3), .val (.int p4), .val (.ref b5), .val (.ref b6), .val (.int (Int32.ofNat fA)), .val (.int (Int32.ofNat fB)), .val (.int (Int32.ofNat cN)), .val (.int dz0), .val (.int dz1), .val (.int dz2), .val (.int dz3), .unset, .unset] [])) _
    refine XS.aload X48.here hx rfl (hb hby at_286) rfl rfl ?_
    show Steps p.tables e below (T48.setTop (mkF m 288 #[.val (.long q1), .second, .val (.long q2), .second, .val (.int p3), .val (.int p4), .val (.ref b5), .val (.ref b6), .val (.int (Int32.ofNat fA)), .val (.int (Int32.ofNat fB)), .val (.int (Int32.ofNat cN)), .val (.int dz0), .val (.int dz1), .val (.int dz2), .val (.int dz3), .unset, .unset] [(.ref b6)])) _
    refine XS.iload X48.here hx rfl (hb hby at_288) rfl ?_
    show Steps p.tables e below (T48.setTop (mkF m 290 #[.val (.long q1), .second, .val (.long q2), .second, .val (.int p3), .val (.int p4), .val (.ref b5), .val (.ref b6), .val (.int (Int32.ofNat fA)), .val (.int (Int32.ofNat fB)), .val (.int (Int32.ofNat cN)), .val (.int dz0), .val (.int dz1), .val (.int dz2), .val (.int dz3), .unset, .unset] [(.int (Int32.ofNat fB)), (.ref b6)])) _
    refine XS.iconst X48.here hx rfl (hb hby at_290) ?_
    show Steps p.tables e below (T48.setTop (mkF m 291 #[.val (.long q1), .second, .val (.long q2), .second, .val (.int p3), .val (.int p4), .val (.ref b5), .val (.ref b6), .val (.int (Int32.ofNat fA)), .val (.int (Int32.ofNat fB)), .val (.int (Int32.ofNat cN)), .val (.int dz0), .val (.int dz1), .val (.int dz2), .val (.int dz3), .unset, .unset] [(.int (3 : Int32)), (.int (Int32.ofNat fB)), (.ref b6)])) _
    refine XS.iadd X48.here hx rfl (hb hby at_291) rfl ?_
    show Steps p.tables e below (T48.setTop (mkF m 292 #[.val (.long q1), .second, .val (.long q2), .second, .val (.int p3), .val (.int p4), .val (.ref b5), .val (.ref b6), .val (.int (Int32.ofNat fA)), .val (.int (Int32.ofNat fB)), .val (.int (Int32.ofNat cN)), .val (.int dz0), .val (.int dz1), .val (.int dz2), .val (.int dz3), .unset, .unset] [(.int ((Int32.ofNat fB) + (3 : Int32))), (.ref b6)])) _
    refine XS.aload X48.here hx rfl (hb hby at_292) rfl rfl ?_
    show Steps p.tables e below (T48.setTop (mkF m 294 #[.val (.long q1), .second, .val (.long q2), .second, .val (.int p3), .val (.int p4), .val (.ref b5), .val (.ref b6), .val (.int (Int32.ofNat fA)), .val (.int (Int32.ofNat fB)), .val (.int (Int32.ofNat cN)), .val (.int dz0), .val (.int dz1), .val (.int dz2), .val (.int dz3), .unset, .unset] [(.ref b5), (.int ((Int32.ofNat fB) + (3 : Int32))), (.ref b6)])) _
    refine XS.iload X48.here hx rfl (hb hby at_294) rfl ?_
    show Steps p.tables e below (T48.setTop (mkF m 296 #[.val (.long q1), .second, .val (.long q2), .second, .val (.int p3), .val (.int p4), .val (.ref b5), .val (.ref b6), .val (.int (Int32.ofNat fA)), .val (.int (Int32.ofNat fB)), .val (.int (Int32.ofNat cN)), .val (.int dz0), .val (.int dz1), .val (.int dz2), .val (.int dz3), .unset, .unset] [(.int (Int32.ofNat fA)), (.ref b5), (.int ((Int32.ofNat fB) + (3 : Int32))), (.ref b6)])) _
    refine XS.iconst X48.here hx rfl (hb hby at_296) ?_
    show Steps p.tables e below (T48.setTop (mkF m 297 #[.val (.long q1), .second, .val (.long q2), .second, .val (.int p3), .val (.int p4), .val (.ref b5), .val (.ref b6), .val (.int (Int32.ofNat fA)), .val (.int (Int32.ofNat fB)), .val (.int (Int32.ofNat cN)), .val (.int dz0), .val (.int dz1), .val (.int dz2), .val (.int dz3), .unset, .unset] [(.int (3 : Int32)), (.int (Int32.ofNat fA)), (.ref b5), (.int ((Int32.ofNat fB) + (3 : Int32))), (.ref b6)])) _
    refine XS.iadd X48.here hx rfl (hb hby at_297) rfl ?_
    show Steps p.tables e below (T48.setTop (mkF m 298 #[.val (.long q1), .second, .val (.long q2), .second, .val (.int p3), .val (.int p4), .val (.ref b5), .val (.ref b6), .val (.int (Int32.ofNat fA)), .val (.int (Int32.ofNat fB)), .val (.int (Int32.ofNat cN)), .val (.int dz0), .val (.int dz1), .val (.int dz2), .val (.int dz3), .unset, .unset] [(.int ((Int32.ofNat fA) + (3 : Int32))), (.ref b5), (.int ((Int32.ofNat fB) + (3 : Int32))), (.ref b6)])) _
    refine X48.baloadBytes hx (j := ((Int32.ofNat fA) + (3 : Int32))) (v := (.int (x (fA + 3)))) (by rw [e48]; exact Bx48.1.1) (State.isArrayOf_alike hZ.alike Bx48.1.2.1) Bx48.1.2.2 (own_in Bx48.2.1 (own_add fA 3) (by omega)) (own_at Bx48 (own_add fA 3) (by omega)) (g := (mkF m 298 #[.val (.long q1), .second, .val (.long q2), .second, .val (.int p3), .val (.int p4), .val (.ref b5), .val (.ref b6), .val (.int (Int32.ofNat fA)), .val (.int (Int32.ofNat fB)), .val (.int (Int32.ofNat cN)), .val (.int dz0), .val (.int dz1), .val (.int dz2), .val (.int dz3), .unset, .unset] [(.int ((Int32.ofNat fA) + (3 : Int32))), (.ref b5), (.int ((Int32.ofNat fB) + (3 : Int32))), (.ref b6)])) rfl rfl (hb hby at_298) _ ?_
    show Steps p.tables e below (T48.setTop (mkF m 299 #[.val (.long q1), .second, .val (.long q2), .second, .val (.int p3), .val (.int p4), .val (.ref b5), .val (.ref b6), .val (.int (Int32.ofNat fA)), .val (.int (Int32.ofNat fB)), .val (.int (Int32.ofNat cN)), .val (.int dz0), .val (.int dz1), .val (.int dz2), .val (.int dz3), .unset, .unset] [(.int (x (fA + 3))), (.int ((Int32.ofNat fB) + (3 : Int32))), (.ref b6)])) _
    refine XS.iload X48.here hx rfl (hb hby at_299) rfl ?_
    show Steps p.tables e below (T48.setTop (mkF m 301 #[.val (.long q1), .second, .val (.long q2), .second, .val (.int p3), .val (.int p4), .val (.ref b5), .val (.ref b6), .val (.int (Int32.ofNat fA)), .val (.int (Int32.ofNat fB)), .val (.int (Int32.ofNat cN)), .val (.int dz0), .val (.int dz1), .val (.int dz2), .val (.int dz3), .unset, .unset] [(.int dz3), (.int (x (fA + 3))), (.int ((Int32.ofNat fB) + (3 : Int32))), (.ref b6)])) _
    refine XS.ixor X48.here hx rfl (hb hby at_301) rfl ?_
    show Steps p.tables e below (T48.setTop (mkF m 302 #[.val (.long q1), .second, .val (.long q2), .second, .val (.int p3), .val (.int p4), .val (.ref b5), .val (.ref b6), .val (.int (Int32.ofNat fA)), .val (.int (Int32.ofNat fB)), .val (.int (Int32.ofNat cN)), .val (.int dz0), .val (.int dz1), .val (.int dz2), .val (.int dz3), .unset, .unset] [(.int ((x (fA + 3)) ^^^ dz3)), (.int ((Int32.ofNat fB) + (3 : Int32))), (.ref b6)])) _
    refine XS.i2b X48.here hx rfl (hb hby at_302) rfl ?_
    show Steps p.tables e below (T48.setTop (mkF m 303 #[.val (.long q1), .second, .val (.long q2), .second, .val (.int p3), .val (.int p4), .val (.ref b5), .val (.ref b6), .val (.int (Int32.ofNat fA)), .val (.int (Int32.ofNat fB)), .val (.int (Int32.ofNat cN)), .val (.int dz0), .val (.int dz1), .val (.int dz2), .val (.int dz3), .unset, .unset] [(.int (((x (fA + 3)) ^^^ dz3).toInt8.toInt32)), (.int ((Int32.ofNat fB) + (3 : Int32))), (.ref b6)])) _
    refine st50 _ ?_
    show Steps p.tables e below (T50.setTop (mkF m 304 #[.val (.long q1), .second, .val (.long q2), .second, .val (.int p3), .val (.int p4), .val (.ref b5), .val (.ref b6), .val (.int (Int32.ofNat fA)), .val (.int (Int32.ofNat fB)), .val (.int (Int32.ofNat cN)), .val (.int dz0), .val (.int dz1), .val (.int dz2), .val (.int dz3), .unset, .unset] [])) _
    refine dia _ ?_
    show Steps p.tables e below (T50.setTop (mkF m 355 #[.val (.long q1), .second, .val (.long q2), .second, .val (.int p3), .val (.int p4), .val (.ref b5), .val (.ref b6), .val (.int (Int32.ofNat fA)), .val (.int (Int32.ofNat fB)), .val (.int (Int32.ofNat cN)), .val (.int dz0), .val (.int dz1), .val (.int dz2), .val (.int dz3), .val (.int (own_ex cN dz0 dz1 dz2 dz3)), .unset] [])) _
    refine XS.aload X50.here hx rfl (hb hby at_355) rfl rfl ?_
    show Steps p.tables e below (T50.setTop (mkF m 357 #[.val (.long q1), .second, .val (.long q2), .second, .val (.int p3), .val (.int p4), .val (.ref b5), .val (.ref b6), .val (.int (Int32.ofNat fA)), .val (.int (Int32.ofNat fB)), .val (.int (Int32.ofNat cN)), .val (.int dz0), .val (.int dz1), .val (.int dz2), .val (.int dz3), .val (.int (own_ex cN dz0 dz1 dz2 dz3)), .unset] [(.ref b5)])) _
    refine XS.iload X50.here hx rfl (hb hby at_357) rfl ?_
    show Steps p.tables e below (T50.setTop (mkF m 359 #[.val (.long q1), .second, .val (.long q2), .second, .val (.int p3), .val (.int p4), .val (.ref b5), .val (.ref b6), .val (.int (Int32.ofNat fA)), .val (.int (Int32.ofNat fB)), .val (.int (Int32.ofNat cN)), .val (.int dz0), .val (.int dz1), .val (.int dz2), .val (.int dz3), .val (.int (own_ex cN dz0 dz1 dz2 dz3)), .unset] [(.int (Int32.ofNat fA)), (.ref b5)])) _
    refine XS.aload X50.here hx rfl (hb hby at_359) rfl rfl ?_
    show Steps p.tables e below (T50.setTop (mkF m 361 #[.val (.long q1), .second, .val (.long q2), .second, .val (.int p3), .val (.int p4), .val (.ref b5), .val (.ref b6), .val (.int (Int32.ofNat fA)), .val (.int (Int32.ofNat fB)), .val (.int (Int32.ofNat cN)), .val (.int dz0), .val (.int dz1), .val (.int dz2), .val (.int dz3), .val (.int (own_ex cN dz0 dz1 dz2 dz3)), .unset] [(.ref b6), (.int (Int32.ofNat fA)), (.ref b5)])) _
    refine XS.iload X50.here hx rfl (hb hby at_361) rfl ?_
    show Steps p.tables e below (T50.setTop (mkF m 363 #[.val (.long q1), .second, .val (.long q2), .second, .val (.int p3), .val (.int p4), .val (.ref b5), .val (.ref b6), .val (.int (Int32.ofNat fA)), .val (.int (Int32.ofNat fB)), .val (.int (Int32.ofNat cN)), .val (.int dz0), .val (.int dz1), .val (.int dz2), .val (.int dz3), .val (.int (own_ex cN dz0 dz1 dz2 dz3)), .unset] [(.int (Int32.ofNat fB)), (.ref b6), (.int (Int32.ofNat fA)), (.ref b5)])) _
    refine XS.iload X50.here hx rfl (hb hby at_363) rfl ?_
    show Steps p.tables e below (T50.setTop (mkF m 365 #[.val (.long q1), .second, .val (.long q2), .second, .val (.int p3), .val (.int p4), .val (.ref b5), .val (.ref b6), .val (.int (Int32.ofNat fA)), .val (.int (Int32.ofNat fB)), .val (.int (Int32.ofNat cN)), .val (.int dz0), .val (.int dz1), .val (.int dz2), .val (.int dz3), .val (.int (own_ex cN dz0 dz1 dz2 dz3)), .unset] [(.int (Int32.ofNat cN)), (.int (Int32.ofNat fB)), (.ref b6), (.int (Int32.ofNat fA)), (.ref b5)])) _
    refine st51 _ ?_
    show Steps p.tables e below (T51.setTop (mkF m 368 #[.val (.long q1), .second, .val (.long q2), .second, .val (.int p3), .val (.int p4), .val (.ref b5), .val (.ref b6), .val (.int (Int32.ofNat fA)), .val (.int (Int32.ofNat fB)), .val (.int (Int32.ofNat cN)), .val (.int dz0), .val (.int dz1), .val (.int dz2), .val (.int dz3), .val (.int (own_ex cN dz0 dz1 dz2 dz3)), .unset] [(.int r)])) _
    refine XS.istore X51.here hx rfl (hb hby at_368) rfl (l' := #[.val (.long q1), .second, .val (.long q2), .second, .val (.int p3), .val (.int p4), .val (.ref b5), .val (.ref b6), .val (.int (Int32.ofNat fA)), .val (.int (Int32.ofNat fB)), .val (.int (Int32.ofNat cN)), .val (.int dz0), .val (.int dz1), .val (.int dz2), .val (.int dz3), .val (.int (own_ex cN dz0 dz1 dz2 dz3)), .val (.int r)]) rfl ?_
    show Steps p.tables e below (T51.setTop (mkF m 370 #[.val (.long q1), .second, .val (.long q2), .second, .val (.int p3), .val (.int p4), .val (.ref b5), .val (.ref b6), .val (.int (Int32.ofNat fA)), .val (.int (Int32.ofNat fB)), .val (.int (Int32.ofNat cN)), .val (.int dz0), .val (.int dz1), .val (.int dz2), .val (.int dz3), .val (.int (own_ex cN dz0 dz1 dz2 dz3)), .val (.int r)] [])) _
    refine XS.iload X51.here hx rfl (hb hby at_370) rfl ?_
    show Steps p.tables e below (T51.setTop (mkF m 372 #[.val (.long q1), .second, .val (.long q2), .second, .val (.int p3), .val (.int p4), .val (.ref b5), .val (.ref b6), .val (.int (Int32.ofNat fA)), .val (.int (Int32.ofNat fB)), .val (.int (Int32.ofNat cN)), .val (.int dz0), .val (.int dz1), .val (.int dz2), .val (.int dz3), .val (.int (own_ex cN dz0 dz1 dz2 dz3)), .val (.int r)] [(.int r)])) _
    refine XS.iload X51.here hx rfl (hb hby at_372) rfl ?_
    show Steps p.tables e below (T51.setTop (mkF m 374 #[.val (.long q1), .second, .val (.long q2), .second, .val (.int p3), .val (.int p4), .val (.ref b5), .val (.ref b6), .val (.int (Int32.ofNat fA)), .val (.int (Int32.ofNat fB)), .val (.int (Int32.ofNat cN)), .val (.int dz0), .val (.int dz1), .val (.int dz2), .val (.int dz3), .val (.int (own_ex cN dz0 dz1 dz2 dz3)), .val (.int r)] [(.int (own_ex cN dz0 dz1 dz2 dz3)), (.int r)])) _
    refine XS.icmpNo X51.here hx rfl (hb hby at_374) rfl (teq hre).2 ?_
    show Steps p.tables e below (T51.setTop (mkF m 377 #[.val (.long q1), .second, .val (.long q2), .second, .val (.int p3), .val (.int p4), .val (.ref b5), .val (.ref b6), .val (.int (Int32.ofNat fA)), .val (.int (Int32.ofNat fB)), .val (.int (Int32.ofNat cN)), .val (.int dz0), .val (.int dz1), .val (.int dz2), .val (.int dz3), .val (.int (own_ex cN dz0 dz1 dz2 dz3)), .val (.int r)] [])) _
    refine XS.iconst X51.here hx rfl (hb hby at_377) ?_
    show Steps p.tables e below (T51.setTop (mkF m 378 #[.val (.long q1), .second, .val (.long q2), .second, .val (.int p3), .val (.int p4), .val (.ref b5), .val (.ref b6), .val (.int (Int32.ofNat fA)), .val (.int (Int32.ofNat fB)), .val (.int (Int32.ofNat cN)), .val (.int dz0), .val (.int dz1), .val (.int dz2), .val (.int dz3), .val (.int (own_ex cN dz0 dz1 dz2 dz3)), .val (.int r)] [(.int (1 : Int32))])) _
    refine XS.goto X51.here hx rfl (pc0 := 378) (pc' := 382) rfl (hb hby at_378) (by decide) (by decide) ?_
    show Steps p.tables e below (T51.setTop (mkF m 382 #[.val (.long q1), .second, .val (.long q2), .second, .val (.int p3), .val (.int p4), .val (.ref b5), .val (.ref b6), .val (.int (Int32.ofNat fA)), .val (.int (Int32.ofNat fB)), .val (.int (Int32.ofNat cN)), .val (.int dz0), .val (.int dz1), .val (.int dz2), .val (.int dz3), .val (.int (own_ex cN dz0 dz1 dz2 dz3)), .val (.int r)] [(.int (1 : Int32))])) _
    exact retN X51 hx (t := .boolean) Bd.returns (by simp) (hb hby at_382) hr
  · show Q0 Z q1 q2 p3 p4 h0 n0 _ T51.heap _
    exact ⟨rfl, N51⟩
-- 5. FROM THE CASE'S WORDS TO rm0, AND THE OWED THEOREMS
set_option maxRecDepth 65536 in
set_option maxHeartbeats 40000000 in
theorem comes_1 {Post : Tables → Env → Array Value → State → Outcome → State → Prop} (hpost : ∀ tb e args s v u, (limb_1_1.after args s (.returned v) u = true ∧ limb_1_2.after args s (.returned v) u = true ∧ True) → FrameEnd s (.returned v) u (Jvm.fieldLocs frame_1_writes args s ++ Jvm.arrayLocs frame_1_arrays args s ++ Jvm.staticLocs frame_1_statics s) 16 128 → Post tb e args s (.returned v) u) :
    ArmFor flags0 classFile x code maxLocals ret World_1 tables_1 room_1 Calls_1 rest_1 Pre_1 Post := by
  intro l hfl _ _ p e ha hc hk s m args below hf hA hF happ hP
  obtain ⟨hcalls, hrest, hpre⟩ := hP
  obtain ⟨-, -, -, hnamed, -, -, -, hat⟩ := (Spec.applies_iff hf).mp happ
  obtain ⟨hg, hn⟩ := and_e (Cond.before_iff.mp (show (Jvm.Cond.and given_1 narrow_1).before args s = true from hpre))
  obtain ⟨g52, g53⟩ := and_e hg
  obtain ⟨g54, g55⟩ := and_e g53
  obtain ⟨g56, g57⟩ := and_e g55
  obtain ⟨g58, g59⟩ := and_e g57
  obtain ⟨w0, w1, w2, w3, rfl⟩ : ∃ w0 w1 w2 w3 : Value, args = #[w0, w1, w2, w3] := by
    have hs : args.size = 4 := by simpa [Cond.value, given_1] using g52
    obtain ⟨L⟩ := args
    match L, hs with
    | [w0, w1, w2, w3], _ => exact ⟨w0, w1, w2, w3, rfl⟩
  have hw := fun d (hd : d ∈ tables_1) => atoms_spec (ws := Jvm.Cond.code x code maxLocals ret :: tables_1) hat d (List.mem_cons_of_mem _ hd)
  have hfit : Fit s := fun {y c} hc i hi => by
    obtain ⟨ha, rfl⟩ := Array.getElem?_eq_some_iff.mp hc
    have q := List.all_eq_true.mp ((Array.all_eq_true_iff_forall_mem.mp hF) _ (Array.getElem_mem ha)) i (List.mem_range.mpr hi)
    simpa [Array.getElem?_eq_getElem hi] using q
  obtain ⟨i0, ei0⟩ := isL_v g54
  obtain rfl : w0 = (.long i0) := Option.some.inj ei0
  obtain ⟨i1, ei1⟩ := isL_v g56
  obtain rfl : w1 = (.long i1) := Option.some.inj ei1
  obtain ⟨i2, ei2⟩ := is_v g58
  obtain rfl : w2 = (.int i2) := Option.some.inj ei2
  obtain ⟨i3, ei3⟩ := is_v g59
  obtain rfl : w3 = (.int i3) := Option.some.inj ei3
  obtain ⟨n, o, h1, h2, h3, _, L, rfl, ⟨rfl, N⟩, hq⟩ := rm0 l s _ hw tables_1 i0 i1 i2 i3 s.heap s.heap.size (Nat.le_refl _) p e ha hc hk s m _ below hf ((Spec.applies_iff_loose hf).mp happ).1 ⟨rfl, State.Warmed39.refl s, rfl⟩ trivial
  refine ⟨n, _, h1, h2, h3, hpost _ _ _ _ _ _ ⟨Cond.after_iff.mpr rfl, Cond.after_iff.mpr (eq_i res_at (Term.int_eval (1)) rfl), trivial⟩ ⟨hq.1, hq.2.1, (hq.2.2.sift fun y hy => Or.inr (N y hy)).mono (by decide) (by decide)⟩⟩
theorem main_1_1 : Claimed_1_1 := comes_1 fun _ _ _ _ _ _ h hF => ⟨h.1, hF⟩
theorem main_1_2 : Claimed_1_2 := comes_1 fun _ _ _ _ _ _ h hF => ⟨h.2.1, hF⟩
-- 6. THE WITNESS: 'witness <made dir> --arg ..' lays it behind; then: end Jvm.Pilot.@@N@@
end Jvm.Pilot.@@N@@
namespace Jvm.Pilot.@@N@@
open Jvm Jvm.ClassFile Sem Op Lib Jvm.Free Jvm.Stand Jvm.Pilot.@@N@@.Jvm.D
/-! MADE BY PROGRAM (witnessworld.py) out of the Statement's table words and the real class files: 9 classes; the members and pool entries that the words name. The judged class is class 1, her method 3. -/
namespace start1
open Jvm.ClassFile
def u (s : String) : CpInfo := .utf8 (stringToUtf16 s)
/-- a pool by its gaps: so many unusable entries, then the entry; so many at the end -/
def gap : Nat → List CpInfo → List CpInfo
  | 0, r => r
  | n + 1, r => .unusable :: gap n r
def poolList (es : List (Nat × CpInfo)) (last : Nat) : List CpInfo := es.foldr (fun e r => gap e.1 (e.2 :: r)) (gap last [])
def pool (es : List (Nat × CpInfo)) (last : Nat) : Array CpInfo := ⟨poolList es last⟩
def fileOf (pool : Array CpInfo) (this : Nat) (attrs : Array Attribute := #[]) (ms : Array MethodInfo := #[]) (fl : Nat := 33) (sup : Nat := 0) (ifs : Array Nat := #[]) (fds : Array FieldInfo := #[]) : ClassFile where
  minorVersion := 0
  majorVersion := 65
  constantPool := pool
  accessFlags := fl
  thisClass := this
  superClass := sup
  interfaces := ifs
  fields := fds
  methods := ms
  attributes := attrs
def plain (name : String) (sup : Option ClassId) : Class where
  name := name
  kind := .ordinary
  loader := none
  accessFlags := 33
  super := sup
  interfaces := #[]
  cf := none
  fields := #[]
  methods := #[]
  instanceTypes := #[]
  staticTypes := #[]
  resolved := #[]
  callSites := []
  init := .initialized
  statics := none
  mirror := none

def pool0 : Array CpInfo := pool [(5, u "<init>"), (0, u "()V"), (1, .class_ 10), (1, u "java/lang/Object")] 113

def k0m0 : Method := { name := "<init>", desc := "()V", sig := { parameters := [], returnType := none }, accessFlags := 1, code := none }
/-- java/lang/Object -/
def k0 : Class := { plain "java/lang/Object" none with
  accessFlags := 33
  interfaces := #[]
  cf := some (fileOf pool0 8 #[] #[{ accessFlags := 1, nameIndex := 5, descriptorIndex := 6, attributes := #[] }] 33 0 #[] #[])
  fields := #[]
  methods := #[k0m0]
  instanceTypes := #[]
  staticTypes := #[]
  resolved := Array.replicate 124 none
  statics := none }

def pool1 : Array CpInfo := pool [(2, .class_ 4), (1, u "java/lang/Object"), (0, u "<init>"), (0, u "()V"), (0, .methodref 8 9), (0, .class_ 10), (0, .nameAndType 11 12), (0, u "com/example/lean_relay/leanrelay/octets/ScanSamePinLaw"), (0, u "at"), (0, u "(JI)B"), (0, .methodref 8 14), (0, .nameAndType 15 16), (0, u "diff"), (0, u "(III)I"), (0, .methodref 18 19), (0, .class_ 20), (0, .nameAndType 21 22), (0, u "com/example/lean_relay/leanrelay/octets/Scan"), (0, u "same"), (0, u "([BI[BII)Z"), (3, u "law"), (0, u "(JJII)Z")] 4

def k1m0 : Method := { name := "<init>", desc := "()V", sig := { parameters := [], returnType := none }, accessFlags := 2, code := none }
def k1c1 : Code := { maxStack := 4, maxLocals := 3, code := method_2_code, exceptionTable := #[], attributes := #[] }
def k1m1 : Method := { name := "at", desc := "(JI)B", sig := { parameters := [.long, .int], returnType := some .byte }, accessFlags := 10, code := some k1c1 }
def k1c2 : Code := { maxStack := 3, maxLocals := 3, code := method_3_code, exceptionTable := #[], attributes := #[] }
def k1m2 : Method := { name := "diff", desc := "(III)I", sig := { parameters := [.int, .int, .int], returnType := some .int }, accessFlags := 10, code := some k1c2 }
def k1c3 : Code := { maxStack := 5, maxLocals := 17, code := code, exceptionTable := #[], attributes := #[] }
def k1m3 : Method := { name := "law", desc := "(JJII)Z", sig := { parameters := [.long, .long, .int, .int], returnType := some .boolean }, accessFlags := 9, code := some k1c3 }
/-- com/example/lean_relay/leanrelay/octets/ScanSamePinLaw -/
def k1 : Class := { plain "com/example/lean_relay/leanrelay/octets/ScanSamePinLaw" (some 0) with
  accessFlags := 49
  interfaces := #[]
  cf := some (fileOf pool1 8 #[] #[{ accessFlags := 2, nameIndex := 5, descriptorIndex := 6, attributes := #[] }, { accessFlags := 10, nameIndex := 11, descriptorIndex := 12, attributes := #[] }, { accessFlags := 10, nameIndex := 15, descriptorIndex := 16, attributes := #[] }, { accessFlags := 9, nameIndex := 26, descriptorIndex := 27, attributes := #[] }] 49 2 #[] #[])
  fields := #[]
  methods := #[k1m0, k1m1, k1m2, k1m3]
  instanceTypes := #[]
  staticTypes := #[]
  resolved := Array.replicate 32 none
  statics := none }

def pool2 : Array CpInfo := pool [(2, .class_ 4), (1, u "java/lang/Object"), (0, u "<init>"), (0, u "()V"), (1, .class_ 10), (1, u "com/example/lean_relay/leanrelay/octets/Scan"), (0, u "made"), (0, u "I"), (8, .class_ 23), (1, u "com/example/lean_relay/leanrelay/octets/Scan$Longs"), (10, u "ONES"), (0, u "J"), (1, u "HIGHS"), (0, u "BEFORE_LONGS"), (3, u "same"), (0, u "([BI[BII)Z")] 11

def k2m0 : Method := { name := "<init>", desc := "()V", sig := { parameters := [], returnType := none }, accessFlags := 2, code := none }
def k2c1 : Code := { maxStack := 4, maxLocals := 7, code := prog_120_method_3_code, exceptionTable := #[], attributes := #[] }
def k2m1 : Method := { name := "same", desc := "([BI[BII)Z", sig := { parameters := [(.array .byte), .int, (.array .byte), .int, .int], returnType := some .boolean }, accessFlags := 9, code := some k2c1 }
/-- com/example/lean_relay/leanrelay/octets/Scan -/
def k2 : Class := { plain "com/example/lean_relay/leanrelay/octets/Scan" (some 0) with
  accessFlags := 49
  interfaces := #[]
  cf := some (fileOf pool2 8 #[.nestMembers #[21]] #[{ accessFlags := 2, nameIndex := 5, descriptorIndex := 6, attributes := #[] }, { accessFlags := 9, nameIndex := 42, descriptorIndex := 43, attributes := #[] }] 49 2 #[] #[{ accessFlags := 24, nameIndex := 34, descriptorIndex := 35, attributes := #[] }, { accessFlags := 24, nameIndex := 37, descriptorIndex := 35, attributes := #[] }, { accessFlags := 24, nameIndex := 38, descriptorIndex := 12, attributes := #[] }, { accessFlags := 10, nameIndex := 11, descriptorIndex := 12, attributes := #[] }])
  fields := #[{ name := "ONES", type := .long, accessFlags := 24, slot := 0, constantValue := 0 }, { name := "HIGHS", type := .long, accessFlags := 24, slot := 1, constantValue := 0 }, { name := "BEFORE_LONGS", type := .int, accessFlags := 24, slot := 2, constantValue := 0 }, { name := "made", type := .int, accessFlags := 10, slot := 3, constantValue := 0 }]
  methods := #[k2m0, k2m1]
  instanceTypes := #[]
  staticTypes := #[.long, .long, .int, .int]
  resolved := Array.replicate 55 none
  statics := none }

def pool3 : Array CpInfo := pool [(1, u "java/lang/Cloneable"), (0, .class_ 1), (0, u "java/lang/Object"), (0, .class_ 3)] 3

/-- java/lang/Cloneable -/
def k3 : Class := { plain "java/lang/Cloneable" (some 0) with
  accessFlags := 1537
  interfaces := #[]
  cf := some (fileOf pool3 2 #[] #[] 1537 4 #[] #[])
  fields := #[]
  methods := #[]
  instanceTypes := #[]
  staticTypes := #[]
  resolved := Array.replicate 8 none
  statics := none }

def pool4 : Array CpInfo := pool [(1, u "java/io/Serializable"), (0, .class_ 1), (0, u "java/lang/Object"), (0, .class_ 3)] 3

/-- java/io/Serializable -/
def k4 : Class := { plain "java/io/Serializable" (some 0) with
  accessFlags := 1537
  interfaces := #[]
  cf := some (fileOf pool4 2 #[] #[] 1537 4 #[] #[])
  fields := #[]
  methods := #[]
  instanceTypes := #[]
  staticTypes := #[]
  resolved := Array.replicate 8 none
  statics := none }

/-- the primitive byte -/
def k5 : Class := { plain "byte" none with kind := .primitive 'B', accessFlags := 0x411 }
/-- [B -/
def k6 : Class := { plain "[B" (some 0) with kind := .array 5 .byte, interfaces := #[3, 4], accessFlags := 1041 }

/-- the primitive int -/
def k7 : Class := { plain "int" none with kind := .primitive 'I', accessFlags := 0x411 }
/-- [I -/
def k8 : Class := { plain "[I" (some 0) with kind := .array 7 .int, interfaces := #[3, 4], accessFlags := 1041 }

def heap : Heap := #[]
def classes : Array Class := #[k0, k1, k2, k3, k4, k5, k6, k7, k8]
def interned : List (Array UInt16 × Addr) := []
def slotsUsed : Nat := 0
def theMethod : MethodId := ⟨1, 3⟩
def args0 : Array Value := #[.long 5, .long 7, .int 3, .int 4]
def aboutOver (below : List Frame) : State where
  vm := { classes := classes, interned := interned.toArray }
  heap := heap
  slotsUsed := slotsUsed
  threads := #[{ frames := .invoking theMethod args0 :: below }]
def below0 : List Frame := [.native { method := ⟨0, 0⟩, args := #[] }]
def about1 : State := aboutOver below0
def p0 : Program := .bare "" "" ""
def e0 : Env := launch0.env 0 0 0
theorem w_frames : about1.frames = Frame.invoking theMethod args0 :: below0 := rfl
set_option maxRecDepth 65536 in
theorem w_args : argsFit about1.vm theMethod args0 = true := by decide +kernel
set_option maxRecDepth 65536 in
theorem w_heap : heapFits about1 = true := by decide +kernel
set_option maxRecDepth 65536 in
theorem w_runnable : about1.curStatus? = some .runnable := by decide +kernel
set_option maxRecDepth 65536 in
theorem w_alone : about1.alone = true := by decide +kernel
set_option maxRecDepth 65536 in
theorem w_named : about1.methodNamed? x = some theMethod := by decide +kernel
set_option maxRecDepth 65536 in
theorem w_hears : about1.hears theMethod below0 = true := by decide +kernel
set_option maxRecDepth 65536 in
theorem w_ripe : about1.ripe theMethod args0 below0 = true := by decide +kernel
theorem w_running : about1.status = .running := rfl
set_option maxRecDepth 65536 in
theorem w_room : about1.hasRoom e0.platform room_1 = true :=
  launch0.hasRoom_least _ room_1 (by decide +kernel) (by decide +kernel) (by decide +kernel) (by decide +kernel) (by decide +kernel) (by decide +kernel)
theorem allAtoms_all (ts : List Jvm.Cond) (a : Array Jvm.Value) (st : Jvm.State) : (allAtoms ts).before a st = ts.all (fun c => c.before a st) := by
  induction ts with
  | nil => rfl
  | cons c t ih =>
    show (Jvm.Cond.and c (allAtoms t)).before a st = _
    rw [Jvm.Cond.before_and, ih, List.all_cons]
def words1 : List Jvm.Cond := Jvm.Cond.code x code maxLocals ret :: tables_1
/-- a 'code' word, met by the world's own term for the bytes: nothing is compared byte by byte -/
theorem code_word {y : MethodName} {bytes : ByteArray} {mx : Nat} {rt : Option FieldType} {a : Array Value} {s : State} {m : MethodId} {meth : Method} {c : Code} (h1 : s.methodNamed? y = some m) (h2 : s.vm.method? m = some meth) (h3 : meth.code = some c) (h4 : c.code = bytes)
    (h5 : (c.maxLocals == mx && c.exceptionTable.isEmpty && decide (c.maxStack ≤ mostOperands) && decide (meth.sig.returnType = rt) && !meth.locks && decide (parseMethodDescriptor y.desc = some meth.sig)) = true) : (Jvm.Cond.code y bytes mx rt).before a s = true := by
  simp only [Bool.and_eq_true, beq_iff_eq, Bool.not_eq_true', decide_eq_true_eq] at h5
  obtain ⟨⟨⟨⟨⟨g1, g2⟩, g3⟩, g4⟩, g5⟩, g6⟩ := h5
  simp [Cond.before, Cond.holds, Cond.value, h1, h2, h3, h4, g1, g2, g3, g4, g5, g6]
def isCode : Jvm.Cond → Bool
  | .code _ _ _ _ => true
  | _ => false
theorem all_split {L : List Jvm.Cond} {P : Jvm.Cond → Bool} (h1 : L.all (fun c => isCode c || P c) = true) (h2 : ∀ c ∈ L.filter isCode, P c = true) : L.all P = true := by
  refine List.all_eq_true.mpr fun c hc => ?_
  have h := List.all_eq_true.mp h1 c hc
  rcases Bool.eq_false_or_eq_true (isCode c) with hi | hi
  · exact h2 c (List.mem_filter.mpr ⟨hc, hi⟩)
  · simpa [hi] using h
set_option maxRecDepth 65536 in
theorem w_c0 : (Jvm.Cond.code x code maxLocals ret).before args0 about1 = true := code_word (m := ⟨1, 3⟩) (meth := k1m3) (c := k1c3) (by decide +kernel) rfl rfl rfl (by decide +kernel)
set_option maxRecDepth 65536 in
theorem w_c1 : (Jvm.Cond.code ({ cls := "com/example/lean_relay/leanrelay/octets/ScanSamePinLaw", name := "at", desc := "(JI)B" } : Jvm.MethodName) method_2_code (3 : Nat) (Option.some Jvm.ClassFile.FieldType.byte)).before args0 about1 = true := code_word (m := ⟨1, 1⟩) (meth := k1m1) (c := k1c1) (by decide +kernel) rfl rfl rfl (by decide +kernel)
set_option maxRecDepth 65536 in
theorem w_c2 : (Jvm.Cond.code ({ cls := "com/example/lean_relay/leanrelay/octets/ScanSamePinLaw", name := "diff", desc := "(III)I" } : Jvm.MethodName) method_3_code (3 : Nat) (Option.some Jvm.ClassFile.FieldType.int)).before args0 about1 = true := code_word (m := ⟨1, 2⟩) (meth := k1m2) (c := k1c2) (by decide +kernel) rfl rfl rfl (by decide +kernel)
set_option maxRecDepth 65536 in
theorem w_c3 : (Jvm.Cond.code ({ cls := "com/example/lean_relay/leanrelay/octets/Scan", name := "same", desc := "([BI[BII)Z" } : Jvm.MethodName) prog_120_method_3_code (7 : Nat) (Option.some Jvm.ClassFile.FieldType.boolean)).before args0 about1 = true := code_word (m := ⟨2, 1⟩) (meth := k2m1) (c := k2c1) (by decide +kernel) rfl rfl rfl (by decide +kernel)
def codes1 : List Jvm.Cond := [Jvm.Cond.code x code maxLocals ret, Jvm.Cond.code ({ cls := "com/example/lean_relay/leanrelay/octets/ScanSamePinLaw", name := "at", desc := "(JI)B" } : Jvm.MethodName) method_2_code (3 : Nat) (Option.some Jvm.ClassFile.FieldType.byte), Jvm.Cond.code ({ cls := "com/example/lean_relay/leanrelay/octets/ScanSamePinLaw", name := "diff", desc := "(III)I" } : Jvm.MethodName) method_3_code (3 : Nat) (Option.some Jvm.ClassFile.FieldType.int), Jvm.Cond.code ({ cls := "com/example/lean_relay/leanrelay/octets/Scan", name := "same", desc := "([BI[BII)Z" } : Jvm.MethodName) prog_120_method_3_code (7 : Nat) (Option.some Jvm.ClassFile.FieldType.boolean)]
set_option maxRecDepth 65536 in
theorem codes_eq : words1.filter isCode = codes1 := rfl
theorem w_codes : ∀ c ∈ words1.filter isCode, c.before args0 about1 = true := by
  rw [codes_eq]
  intro c hc
  simp only [codes1, List.mem_cons, List.not_mem_nil, or_false] at hc
  rcases hc with rfl | rfl | rfl | rfl
  · exact w_c0
  · exact w_c1
  · exact w_c2
  · exact w_c3
set_option maxRecDepth 65536 in
theorem w_t1 : words1.all (fun c => isCode c || c.before args0 about1) = true := by decide +kernel
theorem w_tables : (allAtoms (Jvm.Cond.code x code maxLocals ret :: tables_1)).before args0 about1 = true := by
  rw [allAtoms_all]
  show words1.all (fun c => c.before args0 about1) = true
  refine all_split ?_ w_codes
  rw [w_t1]
set_option maxRecDepth 65536 in
theorem w_case : (Jvm.Cond.and given_1 narrow_1).before args0 about1 = true := by decide +kernel
theorem w_applies : (headSpec (Jvm.Cond.code x code maxLocals ret :: tables_1) room_1).applies x e0.platform about1 = true :=
  (Spec.applies_iff w_frames).mpr ⟨w_running, w_runnable, w_alone, w_named, w_hears, w_ripe, w_room, w_tables⟩
theorem atStart : AtStart classFile x code maxLocals ret World_1 tables_1 room_1 Calls_1 rest_1 Pre_1 launch0 p0 e0 about1 theMethod args0 below0 :=
  ⟨lists_1, trivial, launch0.admits_env _ _ _, launch0.least_env, fairChoices_fair.cas, fairChoices_fair.clock, w_frames, w_args, w_heap, w_applies, trivial, trivial, w_case⟩
end start1
theorem witness_1 : WitnessClaimed_1 := ⟨start1.p0, start1.e0, start1.about1, start1.theMethod, start1.args0, start1.below0, start1.atStart⟩
end Jvm.Pilot.@@N@@
