import JvmDerived
import JvmDerived.Pilot.@@N@@Statement
import JvmDerived.Pilot.@@N@@Code
set_option linter.unusedVariables false
set_option linter.unusedSimpArgs false
namespace Jvm.RoadKit
open Sem ClassFile Op Lib Jvm.Stand Jvm.Free Jvm.LawKit
section New
variable {p : Program} {l : Launch} {e : Env} {R : Room} {s : State} {m : MethodId} {args : Array Value} {below : List Frame} {meth : Method} {c : Code} {T : State} {locs : List Loc} {cells slots : Nat}
theorem retI (X : Stand p l e R s m args below meth c T locs cells slots) (hx : p.tables.exec = Jvm.exec) {pc : Nat} {Ls : Array Slot} {z : Int32} {rest : List Value} (hret : meth.sig.returnType = some .int) (hd : decode c.code pc = .ok (.ireturn, 1)) {fs : List Frame}
    (hl : ∀ (f : JFrame) (acts : List Action), f.method = m → f.locked = none → f.entered = [] → (doReturn e (T.setTop f) acts (some (.int z))).1 = T.setFrames fs) : Steps p.tables e below (T.setTop (mkF m pc Ls (.int z :: rest))) (T.setFrames fs) := by
  have hm' : T.vm.method? m = some meth := X.method'
  have hn : narrow .int (.int z) = .int z := rfl
  show Steps p.tables e below (T.setTop { method := m, pc := pc, locals := Ls, stack := _ :: rest, locked := none }) _
  jvm_step X.here [X.here.top, hx, hd, hm', hret, hn]
  first | (intro acts; rw [hl _ acts rfl rfl rfl]) | rw [hl _ _ rfl rfl rfl]
  exact Steps.refl _
end New
end Jvm.RoadKit
namespace Jvm.Pilot.@@N@@
open Jvm Jvm.ClassFile Sem Op Lib Jvm.Free Jvm.Stand Jvm.LawKit Jvm.RoadKit Bundle Jvm.Pilot.@@N@@.Jvm.D
/-- the word 'selects' of a private method, out of its own words and of another method's 'selects' of the same class -/
theorem own_selects {s : State} {args : Array Value} {y y2 : MethodName} (hc : y2.cls = y.cls) (w : (Jvm.Cond.selects y2.cls y2 y2).before args s = true) (hi : (Jvm.Cond.instanceMethod y).before args s = true) (hp : (Jvm.Cond.privateMethod y).before args s = true) (hx : y.cls ≠ "java/lang/invoke/MethodHandle" ∧ y.cls ≠ "java/lang/invoke/VarHandle") : (Jvm.Cond.selects y.cls y y).before args s = true := by
  obtain ⟨mk, methM, hnamed, hmethM, -, -⟩ := Cond.instanceMethod_spec hi
  obtain ⟨c2, r2, m2, h1, -, h3, -, kP, hkP, hkPi⟩ := Cond.selects_spec w
  have e1 := findClass_of_methodNamed hnamed
  have e2 := findClass_of_methodNamed h3
  rw [hc, e1] at e2
  have ec : mk.cls = m2.cls := Option.some.inj e2
  rw [← ec] at hkP
  have hf := State.methodFound?_of_named hnamed hx
  have hs : selectMethod {} s.vm mk.cls mk = .method mk := selectMethod_private hmethM (Cond.privateMethod_at hp mk methM hnamed hmethM)
  simp [Cond.before, Cond.holds, Cond.value, e1, hf, hnamed, hs, hkP, hkPi]
/-- a decoder over the array b: where it stands, where it ends; no file -/
def own_D (Z : State) (h : Heap) (a b : Addr) (P L : Int32) : Prop := Exa Z h a "com/example/melete/melete/index/Decoder" ∧ Fld Z h a "com/example/melete/melete/index/Decoder" "bytes" "[B" (.ref b) ∧ Fld Z h a "com/example/melete/melete/index/Decoder" "position" "I" (.int P) ∧ Fld Z h a "com/example/melete/melete/index/Decoder" "limit" "I" (.int L) ∧ Fld Z h a "com/example/melete/melete/index/Decoder" "next" "J" (.long (0 : Int64)) ∧ Fld Z h a "com/example/melete/melete/index/Decoder" "end" "J" (.long (0 : Int64))
theorem own_D_keep {Z : State} {h h' : Heap} {a b : Addr} {P L : Int32} {ws : List Addr} (F : own_D Z h a b P L) (K : Keep h h' ws) (q : a ∉ ws) : own_D Z h' a b P L := ⟨F.1.keep K, F.2.1.keep K q, F.2.2.1.keep K q, F.2.2.2.1.keep K q, F.2.2.2.2.1.keep K q, F.2.2.2.2.2.keep K q⟩
/-- the array b: three bytes, g 0, g 1, g 2 -/
def own_B (Z : State) (h : Heap) (b : Addr) (cl : Cell) (g : Nat → Int32) : Prop := Arr Z h b cl .byte ∧ cl.slots.size = 3 ∧ ∀ k, k < 3 → cl.slots[k]? = some (.int (g k)) ∧ (g k).toInt8.toInt32 = g k
theorem own_B_keep {Z : State} {h h' : Heap} {b : Addr} {cl : Cell} {g : Nat → Int32} {ws : List Addr} (F : own_B Z h b cl g) (K : Keep h h' ws) (q : b ∉ ws) : own_B Z h' b cl g := ⟨⟨K.2.1 b cl F.1.1 q, F.1.2⟩, F.2⟩
theorem own_B_ext {Z : State} {h h' : Heap} {b : Addr} {cl : Cell} {g : Nat → Int32} (F : own_B Z h b cl g) (E : Ext h h') : own_B Z h' b cl g := ⟨F.1.ext E, F.2⟩
theorem own_byte {x : Int32} (h : fits .byte (.int x) = true) : x.toInt8.toInt32 = x := by
  obtain ⟨h1, h2⟩ := rng_byte h
  rw [Int32.lt_iff_toInt_lt] at h1 h2
  have a := c_i2b x
  have e1 : (-128 : Int32).toInt = -128 := by decide
  have e2 : (127 : Int32).toInt = 127 := by decide
  exact Int32.toInt_inj.mp (by omega)
theorem own_open {Z : State} {h : Heap} {b : Addr} {k : ClassId} {vs : List Value} {d : Value} (V : Arv Z h b k .byte (3 : Int32) vs d) : ∃ (cl : Cell) (g : Nat → Int32), own_B Z h b cl g ∧ ∀ k, k < 3 → vs.getD k d = .int (g k) := by
  obtain ⟨c, A, -, S, -, H, G⟩ := V
  have S3 : c.slots.size = 3 := by rw [S]; decide
  have key : ∀ k, k < 3 → ∃ x : Int32, vs.getD k d = .int x ∧ x.toInt8.toInt32 = x := by
    intro k hk
    have f := G k (by rw [S3]; exact hk)
    cases hv : vs.getD k d with
    | int x => rw [hv] at f; exact ⟨x, rfl, own_byte f⟩
    | _ => rw [hv] at f; simp [fits] at f
  refine ⟨c, fun k => match vs.getD k d with | .int x => x | _ => 0, ⟨A, S3, fun k hk => ?_⟩, fun k hk => ?_⟩
  · obtain ⟨x, h1, h2⟩ := key k hk
    have := H k (by rw [S3]; exact hk)
    simp only [h1] at this ⊢
    exact ⟨this, h2⟩
  · obtain ⟨x, h1, h2⟩ := key k hk
    simp only [h1]
theorem own_i {r : Nat} (h : r ≤ 7) : (Int32.ofNat r).toInt = (r : Int) := Int32.toInt_ofNat_of_lt (by omega)
theorem own_n {r : Nat} (h : r ≤ 7) : (Int32.ofNat r).toNatClampNeg = r := by
  show (Int32.ofNat r).toInt.toNat = r; rw [own_i h]; rfl
theorem own_lt {a b : Nat} (ha : a ≤ 7) (hb : b ≤ 7) : Int32.ofNat a < Int32.ofNat b ↔ a < b := by
  rw [Int32.lt_iff_toInt_lt, own_i ha, own_i hb]; omega
theorem own_add (i j : Nat) : Int32.ofNat i + Int32.ofNat j = Int32.ofNat (i + j) := (Int32.ofNat_add i j).symm
theorem own_dec {r : Nat} (h1 : 1 ≤ r) (h : r ≤ 7) : Int32.ofNat r - (1 : Int32) = Int32.ofNat (r - 1) := by
  apply Int32.toInt_inj.mp
  have a := c_isub (Int32.ofNat r) 1
  have b := own_i h
  have b2 := own_i (r := r - 1) (by omega)
  have e : (1 : Int32).toInt = 1 := by decide
  have d := rng32 (Int32.ofNat r - 1)
  omega
theorem own_ne {a b : Nat} (ha : a ≤ 7) (hb : b ≤ 7) (h : a ≠ b) : ¬ Int32.ofNat a = Int32.ofNat b := fun q => h (by
  have := congrArg Int32.toInt q
  rw [own_i ha, own_i hb] at this; omega)
theorem own_in {cl : Cell} {k : Nat} (S : cl.slots.size = 3) (hk : k < 3) : ¬ (Int32.ofNat k < 0 ∨ cl.slots.size ≤ (Int32.ofNat k).toNatClampNeg) := by
  rw [own_n (by omega), S, Int32.lt_iff_toInt_lt, own_i (by omega)]
  have e : (0 : Int32).toInt = 0 := by decide
  omega
theorem own_at {Z : State} {h : Heap} {b : Addr} {cl : Cell} {g : Nat → Int32} {k : Nat} (F : own_B Z h b cl g) (hk : k < 3) : cl.slots[(Int32.ofNat k).toNatClampNeg]? = some (.int (g k)) := by
  rw [own_n (by omega)]; exact (F.2.2 k hk).1
/-- what hasRemaining answers -/
def own_r (P L : Int32) : Int32 := if P < L then 1 else 0
theorem own_msk (w : Int32) : ¬ (nar .byte ((w &&& (127 : Int32)).toInt8.toInt32)) < 0 := by
  show ¬ ((w &&& (127 : Int32)).toInt8.toInt32.toInt8.toInt32) < 0
  have a := c_mask w 127 7 (by decide) (by decide)
  have b := c_i2b (w &&& 127)
  have c := c_i2b (w &&& 127).toInt8.toInt32
  rw [Int32.lt_iff_toInt_lt]
  have e : (0 : Int32).toInt = 0 := by decide
  omega
/-- the law's start and end, as naturals -/
theorem own_se (p1 p2 : Int32) : ∃ sN lN : Nat, sN < 4 ∧ sN + lN ≤ 3 ∧ ((p1 &&& (2147483647 : Int32)) % (4 : Int32)) = Int32.ofNat sN ∧ ¬ (((4 : Int32) - Int32.ofNat sN) = (0 : Int32)) ∧ ((p2 &&& (2147483647 : Int32)) % ((4 : Int32) - Int32.ofNat sN)) = Int32.ofNat lN := by
  have a := c_mask p1 2147483647 31 (by decide) (by decide)
  have b := (c_irem (p1 &&& 2147483647) 4 4 (by decide)).1 (by rw [a]; omega)
  have a2 := c_mask p2 2147483647 31 (by decide) (by decide)
  obtain ⟨sN, hs⟩ : ∃ sN : Nat, ((p1 &&& (2147483647 : Int32)) % (4 : Int32)).toInt = (sN : Int) := ⟨((p1 &&& (2147483647 : Int32)) % (4 : Int32)).toInt.toNat, by omega⟩
  have h4 : sN < 4 := by omega
  have e4 : (4 : Int32).toInt = 4 := by decide
  have e0 : (0 : Int32).toInt = 0 := by decide
  have i1 := own_i (r := sN) (by omega)
  have d := c_isub 4 (Int32.ofNat sN)
  have r := rng32 (4 - Int32.ofNat sN)
  have d4 : (4 - Int32.ofNat sN).toInt = 4 - (sN : Int) := by omega
  have b2 := (c_irem (p2 &&& 2147483647) (4 - Int32.ofNat sN) (4 - (sN : Int)) d4).1 (by rw [a2]; omega)
  have m1 := Int.emod_nonneg (p2 &&& 2147483647).toInt (b := 4 - (sN : Int)) (by omega)
  have m2 := Int.emod_lt_of_pos (p2 &&& 2147483647).toInt (b := 4 - (sN : Int)) (by omega)
  obtain ⟨lN, hl⟩ : ∃ lN : Nat, ((p2 &&& (2147483647 : Int32)) % ((4 : Int32) - Int32.ofNat sN)).toInt = (lN : Int) := ⟨((p2 &&& (2147483647 : Int32)) % ((4 : Int32) - Int32.ofNat sN)).toInt.toNat, by omega⟩
  refine ⟨sN, lN, h4, by omega, Int32.toInt_inj.mp (by omega), fun q => ?_, Int32.toInt_inj.mp ?_⟩
  · rw [q] at d4; omega
  · rw [hl, own_i (by omega)]
theorem d1_0 : decode prog_13_method_1_code 0 = .ok (.aload_n 0, 1) := by decide +kernel
theorem d1_1 : decode prog_13_method_1_code 1 = .ok (.invokespecial 1, 3) := by decide +kernel
theorem d1_4 : decode prog_13_method_1_code 4 = .ok (.aload_n 0, 1) := by decide +kernel
theorem d1_5 : decode prog_13_method_1_code 5 = .ok (.aload_n 1, 1) := by decide +kernel
theorem d1_6 : decode prog_13_method_1_code 6 = .ok (.putfield 7, 3) := by decide +kernel
theorem d1_9 : decode prog_13_method_1_code 9 = .ok (.aload_n 0, 1) := by decide +kernel
theorem d1_10 : decode prog_13_method_1_code 10 = .ok (.iload_n 2, 1) := by decide +kernel
theorem d1_11 : decode prog_13_method_1_code 11 = .ok (.putfield 13, 3) := by decide +kernel
theorem d1_14 : decode prog_13_method_1_code 14 = .ok (.aload_n 0, 1) := by decide +kernel
theorem d1_15 : decode prog_13_method_1_code 15 = .ok (.iload_n 3, 1) := by decide +kernel
theorem d1_16 : decode prog_13_method_1_code 16 = .ok (.putfield 17, 3) := by decide +kernel
theorem d1_19 : decode prog_13_method_1_code 19 = .ok (.aload_n 0, 1) := by decide +kernel
theorem d1_20 : decode prog_13_method_1_code 20 = .ok (.aconst_null, 1) := by decide +kernel
theorem d1_21 : decode prog_13_method_1_code 21 = .ok (.putfield 20, 3) := by decide +kernel
theorem d1_24 : decode prog_13_method_1_code 24 = .ok (.aload_n 0, 1) := by decide +kernel
theorem d1_25 : decode prog_13_method_1_code 25 = .ok (.lconst 0, 1) := by decide +kernel
theorem d1_26 : decode prog_13_method_1_code 26 = .ok (.putfield 24, 3) := by decide +kernel
theorem d1_29 : decode prog_13_method_1_code 29 = .ok (.return_, 1) := by decide +kernel
theorem pn_1 : plainName "com/example/melete/melete/index/Decoder" = true := by first | (simp [plainName, overriddenIn]; done) | decide +kernel
theorem ef_1 (m : MethodId) (x0 : Addr) (x1 : Addr) (x2 : Int32) (x3 : Int32) : entryFrame m #[(.ref x0), (.ref x1), (.int x2), (.int x3)] 4 = mkF m 0 #[.val (.ref x0), .val (.ref x1), .val (.int x2), .val (.int x3)] [] := by first | (simp [entryFrame, mkF, argsToLocals, Value.category]; done) | rfl
def Q1 (Z : State) (a1 : Addr) (a2 : Addr) (p3 : Int32) (p4 : Int32) (u_bytes_a1 : Value) (u_position_a1 : Value) (u_limit_a1 : Value) (u_channel_a1 : Value) (u_end_a1 : Value) (h0 : Heap) (n0 : Nat) (v : Option Value) (h : Heap) (L : List Loc) : Prop := v = none ∧ Fr n0 L ∧ Keep h0 h [a1] ∧ own_D Z h a1 a2 p3 p4
set_option maxRecDepth 65536 in
set_option maxHeartbeats 40000000 in
theorem rm1 (l : Launch) (Z : State) (a0 : Array Value) (hw : ∀ d ∈ tables_1, d.before a0 Z = true) (ws : List Jvm.Cond) (a1 : Addr) (a2 : Addr) (p3 : Int32) (p4 : Int32) (u_bytes_a1 : Value) (u_position_a1 : Value) (u_limit_a1 : Value) (u_channel_a1 : Value) (u_end_a1 : Value) (h0 : Heap) (n0 : Nat) (Z0 : n0 ≤ h0.size) (E_a1 : Exa Z h0 a1 "com/example/melete/melete/index/Decoder") (F_bytes_a1 : Fld Z h0 a1 "com/example/melete/melete/index/Decoder" "bytes" "[B" u_bytes_a1) (g_a1 : n0 ≤ a1) (F_position_a1 : Fld Z h0 a1 "com/example/melete/melete/index/Decoder" "position" "I" u_position_a1) (F_limit_a1 : Fld Z h0 a1 "com/example/melete/melete/index/Decoder" "limit" "I" u_limit_a1) (F_channel_a1 : Fld Z h0 a1 "com/example/melete/melete/index/Decoder" "channel" "Ljava/nio/channels/FileChannel;" u_channel_a1) (F_end_a1 : Fld Z h0 a1 "com/example/melete/melete/index/Decoder" "end" "J" u_end_a1) (F_next_a1 : Fld Z h0 a1 "com/example/melete/melete/index/Decoder" "next" "J" (.long (0 : Int64))) :
    MetFree l (⟨"com/example/melete/melete/index/Decoder", "<init>", "([BII)V"⟩ : MethodName) (head1 (Jvm.Cond.code (⟨"com/example/melete/melete/index/Decoder", "<init>", "([BII)V"⟩ : MethodName) prog_13_method_1_code 4 none :: ws) ({ frames := 1, cells := 0, slots := 0, locals := 12 } : Room)) (fun a U => a = #[(.ref a1), (.ref a2), (.int p3), (.int p4)] ∧ Z.Warmed39 U.vm ∧ U.heap = h0) (fun _ _ _ _ _ => True) (fun _ U o U' => ∃ v L, o = .returned v ∧ Q1 Z a1 a2 p3 p4 u_bytes_a1 u_position_a1 u_limit_a1 u_channel_a1 u_end_a1 h0 n0 v U'.heap L ∧ FrameEnd U o U' L ({ frames := 1, cells := 0, slots := 0, locals := 12 } : Room).cells ({ frames := 1, cells := 0, slots := 0, locals := 12 } : Room).slots) := by
  refine MetFree.of_bodySF (plainFor_of_name pn_1) hisR ?_
  intro p e s m args below meth c s₁ Bd hml0 hP hK
  obtain ⟨rfl, hZ, hh⟩ := hP
  have hx := Bd.exec
  have hby := Bd.bytes
  have hml : c.maxLocals = 4 := hml0
  have hown : s.vm.findClass "com/example/melete/melete/index/Decoder" = some m.cls := findClass_of_methodNamed Bd.named
  have hnm := (name_of_methodNamed Bd.named Bd.method).1
  have X0 : Stand p l e ({ frames := 1, cells := 0, slots := 0, locals := 12 } : Room) s m #[(.ref a1), (.ref a2), (.int p3), (.int p4)] below meth c s₁ [] 0 0 := Stand.of_body Bd
  have e0 : s₁.heap = h0 := by rw [← hh, Bd.state]; rfl
  have N0 := Fr.nil n0
  have pre0 : ∀ t, Steps p.tables e below (s₁.setTop (mkF m 0 #[.val (.ref a1), .val (.ref a2), .val (.int p3), .val (.int p4)] [])) t → Steps p.tables e below (s₁.setTop (entryFrame m #[(.ref a1), (.ref a2), (.int p3), (.int p4)] 4)) t := fun t k => castTop (ef_1 m a1 a2 p3 p4) k
  -- 3. LAWS
  obtain ⟨T5, X5, e5, st5⟩ := initO X0 hx hZ hown (hw _ (List.mem_of_getElem? (i := 8) rfl)) (hw _ (List.mem_of_getElem? (i := 9) rfl)) (hw _ (List.mem_of_getElem? (i := 10) rfl)) e0 (g := (mkF m 1 #[.val (.ref a1), .val (.ref a2), .val (.int p3), .val (.int p4)] [(.ref a1)])) rfl (by rw [hml]; rfl) rfl (hb hby d1_1) (by decide) (W := 0) (by show 2 * 0 + _ ≤ _; exact Nat.le_of_eq rfl) (by decide)
  obtain ⟨T6, h6, X6, e6, W6, st6⟩ := putF X5 hx hZ hown (host := "") (Or.inl (hw _ (List.mem_of_getElem? (i := 11) rfl))) Via.refl e5 F_bytes_a1 E_a1 (Or.inr ⟨(hw _ (List.mem_of_getElem? (i := 12) rfl)), rfl, hnm⟩) (hw _ (List.mem_of_getElem? (i := 3) rfl)) (ty := (.array .byte)) (by decide) rfl rfl (g := (mkF m 6 #[.val (.ref a1), .val (.ref a2), .val (.int p3), .val (.int p4)] [(.ref a2), (.ref a1)])) rfl rfl (hb hby d1_6)
  have Fw6 := F_bytes_a1.same W6      -- the field now holds (.ref a2)
  have K6 : Keep h0 h6 [a1] := (Keep.refl h0 [a1]).wr W6 (Or.inl (List.mem_of_getElem? (i := 0) rfl))
  have N6 := Fr.snoc X6 N0 g_a1
  obtain ⟨T7, h7, X7, e7, W7, st7⟩ := putF X6 hx hZ hown (host := "") (Or.inl (hw _ (List.mem_of_getElem? (i := 13) rfl))) Via.refl e6 (F_position_a1.other W6 (Or.inr (slot_ne (Or.inl (hw _ (List.mem_of_getElem? (i := 14) rfl))) (Or.inr (hw _ (List.mem_of_getElem? (i := 12) rfl))) (by decide) (t := .int) (t' := (.array .byte)) (by decide) (by decide)))) (E_a1.wr W6) (Or.inl (hw _ (List.mem_of_getElem? (i := 14) rfl))) (hw _ (List.mem_of_getElem? (i := 3) rfl)) (ty := .int) (by decide) rfl rfl (g := (mkF m 11 #[.val (.ref a1), .val (.ref a2), .val (.int p3), .val (.int p4)] [(.int p3), (.ref a1)])) rfl rfl (hb hby d1_11)
  have Fw7 := (F_position_a1.other W6 (Or.inr (slot_ne (Or.inl (hw _ (List.mem_of_getElem? (i := 14) rfl))) (Or.inr (hw _ (List.mem_of_getElem? (i := 12) rfl))) (by decide) (t := .int) (t' := (.array .byte)) (by decide) (by decide)))).same W7      -- the field now holds (.int p3)
  have K7 : Keep h0 h7 [a1] := K6.wr W7 (Or.inl (List.mem_of_getElem? (i := 0) rfl))
  have N7 := Fr.snoc X7 N6 g_a1
  obtain ⟨T8, h8, X8, e8, W8, st8⟩ := putF X7 hx hZ hown (host := "") (Or.inl (hw _ (List.mem_of_getElem? (i := 15) rfl))) Via.refl e7 ((F_limit_a1.other W6 (Or.inr (slot_ne (Or.inl (hw _ (List.mem_of_getElem? (i := 16) rfl))) (Or.inr (hw _ (List.mem_of_getElem? (i := 12) rfl))) (by decide) (t := .int) (t' := (.array .byte)) (by decide) (by decide)))).other W7 (Or.inr (slot_ne (Or.inl (hw _ (List.mem_of_getElem? (i := 16) rfl))) (Or.inl (hw _ (List.mem_of_getElem? (i := 14) rfl))) (by decide) (t := .int) (t' := .int) (by decide) (by decide)))) ((E_a1.wr W6).wr W7) (Or.inl (hw _ (List.mem_of_getElem? (i := 16) rfl))) (hw _ (List.mem_of_getElem? (i := 3) rfl)) (ty := .int) (by decide) rfl rfl (g := (mkF m 16 #[.val (.ref a1), .val (.ref a2), .val (.int p3), .val (.int p4)] [(.int p4), (.ref a1)])) rfl rfl (hb hby d1_16)
  have Fw8 := ((F_limit_a1.other W6 (Or.inr (slot_ne (Or.inl (hw _ (List.mem_of_getElem? (i := 16) rfl))) (Or.inr (hw _ (List.mem_of_getElem? (i := 12) rfl))) (by decide) (t := .int) (t' := (.array .byte)) (by decide) (by decide)))).other W7 (Or.inr (slot_ne (Or.inl (hw _ (List.mem_of_getElem? (i := 16) rfl))) (Or.inl (hw _ (List.mem_of_getElem? (i := 14) rfl))) (by decide) (t := .int) (t' := .int) (by decide) (by decide)))).same W8      -- the field now holds (.int p4)
  have K8 : Keep h0 h8 [a1] := K7.wr W8 (Or.inl (List.mem_of_getElem? (i := 0) rfl))
  have N8 := Fr.snoc X8 N7 g_a1
  obtain ⟨T9, h9, X9, e9, W9, st9⟩ := putF X8 hx hZ hown (host := "") (Or.inl (hw _ (List.mem_of_getElem? (i := 17) rfl))) Via.refl e8 (((F_channel_a1.other W6 (Or.inr (slot_ne (Or.inr (hw _ (List.mem_of_getElem? (i := 18) rfl))) (Or.inr (hw _ (List.mem_of_getElem? (i := 12) rfl))) (by decide) (t := (.object "java/nio/channels/FileChannel")) (t' := (.array .byte)) (by decide) (by decide)))).other W7 (Or.inr (slot_ne (Or.inr (hw _ (List.mem_of_getElem? (i := 18) rfl))) (Or.inl (hw _ (List.mem_of_getElem? (i := 14) rfl))) (by decide) (t := (.object "java/nio/channels/FileChannel")) (t' := .int) (by decide) (by decide)))).other W8 (Or.inr (slot_ne (Or.inr (hw _ (List.mem_of_getElem? (i := 18) rfl))) (Or.inl (hw _ (List.mem_of_getElem? (i := 16) rfl))) (by decide) (t := (.object "java/nio/channels/FileChannel")) (t' := .int) (by decide) (by decide)))) (((E_a1.wr W6).wr W7).wr W8) (Or.inr ⟨(hw _ (List.mem_of_getElem? (i := 18) rfl)), rfl, hnm⟩) (hw _ (List.mem_of_getElem? (i := 3) rfl)) (ty := (.object "java/nio/channels/FileChannel")) (by decide) rfl rfl (g := (mkF m 21 #[.val (.ref a1), .val (.ref a2), .val (.int p3), .val (.int p4)] [.null, (.ref a1)])) rfl rfl (hb hby d1_21)
  have Fw9 := (((F_channel_a1.other W6 (Or.inr (slot_ne (Or.inr (hw _ (List.mem_of_getElem? (i := 18) rfl))) (Or.inr (hw _ (List.mem_of_getElem? (i := 12) rfl))) (by decide) (t := (.object "java/nio/channels/FileChannel")) (t' := (.array .byte)) (by decide) (by decide)))).other W7 (Or.inr (slot_ne (Or.inr (hw _ (List.mem_of_getElem? (i := 18) rfl))) (Or.inl (hw _ (List.mem_of_getElem? (i := 14) rfl))) (by decide) (t := (.object "java/nio/channels/FileChannel")) (t' := .int) (by decide) (by decide)))).other W8 (Or.inr (slot_ne (Or.inr (hw _ (List.mem_of_getElem? (i := 18) rfl))) (Or.inl (hw _ (List.mem_of_getElem? (i := 16) rfl))) (by decide) (t := (.object "java/nio/channels/FileChannel")) (t' := .int) (by decide) (by decide)))).same W9      -- the field now holds .null
  have K9 : Keep h0 h9 [a1] := K8.wr W9 (Or.inl (List.mem_of_getElem? (i := 0) rfl))
  have N9 := Fr.snoc X9 N8 g_a1
  obtain ⟨T10, h10, X10, e10, W10, st10⟩ := putF X9 hx hZ hown (host := "") (Or.inl (hw _ (List.mem_of_getElem? (i := 19) rfl))) Via.refl e9 ((((F_end_a1.other W6 (Or.inr (slot_ne (Or.inr (hw _ (List.mem_of_getElem? (i := 20) rfl))) (Or.inr (hw _ (List.mem_of_getElem? (i := 12) rfl))) (by decide) (t := .long) (t' := (.array .byte)) (by decide) (by decide)))).other W7 (Or.inr (slot_ne (Or.inr (hw _ (List.mem_of_getElem? (i := 20) rfl))) (Or.inl (hw _ (List.mem_of_getElem? (i := 14) rfl))) (by decide) (t := .long) (t' := .int) (by decide) (by decide)))).other W8 (Or.inr (slot_ne (Or.inr (hw _ (List.mem_of_getElem? (i := 20) rfl))) (Or.inl (hw _ (List.mem_of_getElem? (i := 16) rfl))) (by decide) (t := .long) (t' := .int) (by decide) (by decide)))).other W9 (Or.inr (slot_ne (Or.inr (hw _ (List.mem_of_getElem? (i := 20) rfl))) (Or.inr (hw _ (List.mem_of_getElem? (i := 18) rfl))) (by decide) (t := .long) (t' := (.object "java/nio/channels/FileChannel")) (by decide) (by decide)))) ((((E_a1.wr W6).wr W7).wr W8).wr W9) (Or.inr ⟨(hw _ (List.mem_of_getElem? (i := 20) rfl)), rfl, hnm⟩) (hw _ (List.mem_of_getElem? (i := 3) rfl)) (ty := .long) (by decide) rfl rfl (g := (mkF m 26 #[.val (.ref a1), .val (.ref a2), .val (.int p3), .val (.int p4)] [(.long (0 : Int64)), (.ref a1)])) rfl rfl (hb hby d1_26)
  have Fw10 := ((((F_end_a1.other W6 (Or.inr (slot_ne (Or.inr (hw _ (List.mem_of_getElem? (i := 20) rfl))) (Or.inr (hw _ (List.mem_of_getElem? (i := 12) rfl))) (by decide) (t := .long) (t' := (.array .byte)) (by decide) (by decide)))).other W7 (Or.inr (slot_ne (Or.inr (hw _ (List.mem_of_getElem? (i := 20) rfl))) (Or.inl (hw _ (List.mem_of_getElem? (i := 14) rfl))) (by decide) (t := .long) (t' := .int) (by decide) (by decide)))).other W8 (Or.inr (slot_ne (Or.inr (hw _ (List.mem_of_getElem? (i := 20) rfl))) (Or.inl (hw _ (List.mem_of_getElem? (i := 16) rfl))) (by decide) (t := .long) (t' := .int) (by decide) (by decide)))).other W9 (Or.inr (slot_ne (Or.inr (hw _ (List.mem_of_getElem? (i := 20) rfl))) (Or.inr (hw _ (List.mem_of_getElem? (i := 18) rfl))) (by decide) (t := .long) (t' := (.object "java/nio/channels/FileChannel")) (by decide) (by decide)))).same W10      -- the field now holds (.long (0 : Int64))
  have K10 : Keep h0 h10 [a1] := K9.wr W10 (Or.inl (List.mem_of_getElem? (i := 0) rfl))
  have N10 := Fr.snoc X10 N9 g_a1
  obtain ⟨fs, hr, hrun, hended, hW, hsame⟩ := X10.leave (v := none) (fun _ => rfl)
  refine ⟨_, _, pre0 _ ?_, hrun, hended, _, _, rfl, ?_, ⟨_, rfl⟩, hW, hsame.mono (by decide) (by decide)⟩
  -- 4. STEPS
  · show Steps p.tables e below (s₁.setTop (mkF m 0 #[.val (.ref a1), .val (.ref a2), .val (.int p3), .val (.int p4)] [])) _
    refine XS.aloadN X0.here hx rfl (hb hby d1_0) rfl rfl ?_
    show Steps p.tables e below (s₁.setTop (mkF m 1 #[.val (.ref a1), .val (.ref a2), .val (.int p3), .val (.int p4)] [(.ref a1)])) _
    refine st5 _ ?_
    show Steps p.tables e below (T5.setTop (mkF m 4 #[.val (.ref a1), .val (.ref a2), .val (.int p3), .val (.int p4)] [])) _
    refine XS.aloadN X5.here hx rfl (hb hby d1_4) rfl rfl ?_
    show Steps p.tables e below (T5.setTop (mkF m 5 #[.val (.ref a1), .val (.ref a2), .val (.int p3), .val (.int p4)] [(.ref a1)])) _
    refine XS.aloadN X5.here hx rfl (hb hby d1_5) rfl rfl ?_
    show Steps p.tables e below (T5.setTop (mkF m 6 #[.val (.ref a1), .val (.ref a2), .val (.int p3), .val (.int p4)] [(.ref a2), (.ref a1)])) _
    refine st6 _ ?_
    show Steps p.tables e below (T6.setTop (mkF m 9 #[.val (.ref a1), .val (.ref a2), .val (.int p3), .val (.int p4)] [])) _
    refine XS.aloadN X6.here hx rfl (hb hby d1_9) rfl rfl ?_
    show Steps p.tables e below (T6.setTop (mkF m 10 #[.val (.ref a1), .val (.ref a2), .val (.int p3), .val (.int p4)] [(.ref a1)])) _
    refine XS.iloadN X6.here hx rfl (hb hby d1_10) rfl ?_
    show Steps p.tables e below (T6.setTop (mkF m 11 #[.val (.ref a1), .val (.ref a2), .val (.int p3), .val (.int p4)] [(.int p3), (.ref a1)])) _
    refine st7 _ ?_
    show Steps p.tables e below (T7.setTop (mkF m 14 #[.val (.ref a1), .val (.ref a2), .val (.int p3), .val (.int p4)] [])) _
    refine XS.aloadN X7.here hx rfl (hb hby d1_14) rfl rfl ?_
    show Steps p.tables e below (T7.setTop (mkF m 15 #[.val (.ref a1), .val (.ref a2), .val (.int p3), .val (.int p4)] [(.ref a1)])) _
    refine XS.iloadN X7.here hx rfl (hb hby d1_15) rfl ?_
    show Steps p.tables e below (T7.setTop (mkF m 16 #[.val (.ref a1), .val (.ref a2), .val (.int p3), .val (.int p4)] [(.int p4), (.ref a1)])) _
    refine st8 _ ?_
    show Steps p.tables e below (T8.setTop (mkF m 19 #[.val (.ref a1), .val (.ref a2), .val (.int p3), .val (.int p4)] [])) _
    refine XS.aloadN X8.here hx rfl (hb hby d1_19) rfl rfl ?_
    show Steps p.tables e below (T8.setTop (mkF m 20 #[.val (.ref a1), .val (.ref a2), .val (.int p3), .val (.int p4)] [(.ref a1)])) _
    refine XS.aconstNull X8.here hx rfl (hb hby d1_20) ?_
    show Steps p.tables e below (T8.setTop (mkF m 21 #[.val (.ref a1), .val (.ref a2), .val (.int p3), .val (.int p4)] [.null, (.ref a1)])) _
    refine st9 _ ?_
    show Steps p.tables e below (T9.setTop (mkF m 24 #[.val (.ref a1), .val (.ref a2), .val (.int p3), .val (.int p4)] [])) _
    refine XS.aloadN X9.here hx rfl (hb hby d1_24) rfl rfl ?_
    show Steps p.tables e below (T9.setTop (mkF m 25 #[.val (.ref a1), .val (.ref a2), .val (.int p3), .val (.int p4)] [(.ref a1)])) _
    refine XS.lconst X9.here hx rfl (hb hby d1_25) ?_
    show Steps p.tables e below (T9.setTop (mkF m 26 #[.val (.ref a1), .val (.ref a2), .val (.int p3), .val (.int p4)] [(.long (0 : Int64)), (.ref a1)])) _
    refine st10 _ ?_
    show Steps p.tables e below (T10.setTop (mkF m 29 #[.val (.ref a1), .val (.ref a2), .val (.int p3), .val (.int p4)] [])) _
    exact X10.returnOut hx Bd.returns (hb hby d1_29) hr
  · show Q1 Z a1 a2 p3 p4 u_bytes_a1 u_position_a1 u_limit_a1 u_channel_a1 u_end_a1 h0 n0 _ T10.heap _
    rw [e10]
    exact ⟨rfl, N10, K10, (((((E_a1.wr W6).wr W7).wr W8).wr W9).wr W10), ((((Fw6.other W7 (Or.inr (slot_ne (Or.inr (hw _ (List.mem_of_getElem? (i := 12) rfl))) (Or.inl (hw _ (List.mem_of_getElem? (i := 14) rfl))) (by decide) (t := (.array .byte)) (t' := .int) (by decide) (by decide)))).other W8 (Or.inr (slot_ne (Or.inr (hw _ (List.mem_of_getElem? (i := 12) rfl))) (Or.inl (hw _ (List.mem_of_getElem? (i := 16) rfl))) (by decide) (t := (.array .byte)) (t' := .int) (by decide) (by decide)))).other W9 (Or.inr (slot_ne (Or.inr (hw _ (List.mem_of_getElem? (i := 12) rfl))) (Or.inr (hw _ (List.mem_of_getElem? (i := 18) rfl))) (by decide) (t := (.array .byte)) (t' := (.object "java/nio/channels/FileChannel")) (by decide) (by decide)))).other W10 (Or.inr (slot_ne (Or.inr (hw _ (List.mem_of_getElem? (i := 12) rfl))) (Or.inr (hw _ (List.mem_of_getElem? (i := 20) rfl))) (by decide) (t := (.array .byte)) (t' := .long) (by decide) (by decide)))), (((Fw7.other W8 (Or.inr (slot_ne (Or.inl (hw _ (List.mem_of_getElem? (i := 14) rfl))) (Or.inl (hw _ (List.mem_of_getElem? (i := 16) rfl))) (by decide) (t := .int) (t' := .int) (by decide) (by decide)))).other W9 (Or.inr (slot_ne (Or.inl (hw _ (List.mem_of_getElem? (i := 14) rfl))) (Or.inr (hw _ (List.mem_of_getElem? (i := 18) rfl))) (by decide) (t := .int) (t' := (.object "java/nio/channels/FileChannel")) (by decide) (by decide)))).other W10 (Or.inr (slot_ne (Or.inl (hw _ (List.mem_of_getElem? (i := 14) rfl))) (Or.inr (hw _ (List.mem_of_getElem? (i := 20) rfl))) (by decide) (t := .int) (t' := .long) (by decide) (by decide)))), ((Fw8.other W9 (Or.inr (slot_ne (Or.inl (hw _ (List.mem_of_getElem? (i := 16) rfl))) (Or.inr (hw _ (List.mem_of_getElem? (i := 18) rfl))) (by decide) (t := .int) (t' := (.object "java/nio/channels/FileChannel")) (by decide) (by decide)))).other W10 (Or.inr (slot_ne (Or.inl (hw _ (List.mem_of_getElem? (i := 16) rfl))) (Or.inr (hw _ (List.mem_of_getElem? (i := 20) rfl))) (by decide) (t := .int) (t' := .long) (by decide) (by decide)))), (((((F_next_a1.other W6 (Or.inr (slot_ne (Or.inl (hw _ (List.mem_of_getElem? (i := 36) rfl))) (Or.inr (hw _ (List.mem_of_getElem? (i := 12) rfl))) (by decide) (t := .long) (t' := (.array .byte)) (by decide) (by decide)))).other W7 (Or.inr (slot_ne (Or.inl (hw _ (List.mem_of_getElem? (i := 36) rfl))) (Or.inl (hw _ (List.mem_of_getElem? (i := 14) rfl))) (by decide) (t := .long) (t' := .int) (by decide) (by decide)))).other W8 (Or.inr (slot_ne (Or.inl (hw _ (List.mem_of_getElem? (i := 36) rfl))) (Or.inl (hw _ (List.mem_of_getElem? (i := 16) rfl))) (by decide) (t := .long) (t' := .int) (by decide) (by decide)))).other W9 (Or.inr (slot_ne (Or.inl (hw _ (List.mem_of_getElem? (i := 36) rfl))) (Or.inr (hw _ (List.mem_of_getElem? (i := 18) rfl))) (by decide) (t := .long) (t' := (.object "java/nio/channels/FileChannel")) (by decide) (by decide)))).other W10 (Or.inr (slot_ne (Or.inl (hw _ (List.mem_of_getElem? (i := 36) rfl))) (Or.inr (hw _ (List.mem_of_getElem? (i := 20) rfl))) (by decide) (t := .long) (t' := .long) (by decide) (by decide)))), Fw10⟩
theorem d3_0 : decode prog_13_method_6_code 0 = .ok (.aload_n 0, 1) := by decide +kernel
theorem d3_1 : decode prog_13_method_6_code 1 = .ok (.getfield 13, 3) := by decide +kernel
theorem d3_4 : decode prog_13_method_6_code 4 = .ok (.aload_n 0, 1) := by decide +kernel
theorem d3_5 : decode prog_13_method_6_code 5 = .ok (.getfield 17, 3) := by decide +kernel
theorem d3_8 : decode prog_13_method_6_code 8 = .ok (.if_icmp .lt 15, 3) := by decide +kernel
theorem d3_23 : decode prog_13_method_6_code 23 = .ok (.iconst 1, 1) := by decide +kernel
theorem d3_24 : decode prog_13_method_6_code 24 = .ok (.goto 4, 3) := by decide +kernel
theorem d3_28 : decode prog_13_method_6_code 28 = .ok (.ireturn, 1) := by decide +kernel
theorem pn_3 : plainName "com/example/melete/melete/index/Decoder" = true := by first | (simp [plainName, overriddenIn]; done) | decide +kernel
theorem ef_3 (m : MethodId) (x0 : Addr) : entryFrame m #[(.ref x0)] 1 = mkF m 0 #[.val (.ref x0)] [] := by first | (simp [entryFrame, mkF, argsToLocals, Value.category]; done) | rfl
def Q3 (Z : State) (r : Int32) (h0 : Heap) (n0 : Nat) (v : Option Value) (h : Heap) (L : List Loc) : Prop := v = some (.int r) ∧ Fr n0 L ∧ h = h0
set_option maxRecDepth 65536 in
set_option maxHeartbeats 40000000 in
theorem rm3a (l : Launch) (Z : State) (a0 : Array Value) (hw : ∀ d ∈ tables_1, d.before a0 Z = true) (ws : List Jvm.Cond) (a1 : Addr) (w2 : Int32) (w4 : Int32) (h0 : Heap) (n0 : Nat) (Z0 : n0 ≤ h0.size) (F_position_a1 : Fld Z h0 a1 "com/example/melete/melete/index/Decoder" "position" "I" (.int w2)) (F_limit_a1 : Fld Z h0 a1 "com/example/melete/melete/index/Decoder" "limit" "I" (.int w4)) (hc8 : w2 < w4) :
    MetFree l (⟨"com/example/melete/melete/index/Decoder", "hasRemaining", "()Z"⟩ : MethodName) (head1 (Jvm.Cond.code (⟨"com/example/melete/melete/index/Decoder", "hasRemaining", "()Z"⟩ : MethodName) prog_13_method_6_code 1 (some .boolean) :: ws) ({ frames := 0, cells := 0, slots := 0, locals := 0 } : Room)) (fun a U => a = #[(.ref a1)] ∧ Z.Warmed39 U.vm ∧ U.heap = h0) (fun _ _ _ _ _ => True) (fun _ U o U' => ∃ v L, o = .returned v ∧ Q3 Z (own_r w2 w4) h0 n0 v U'.heap L ∧ FrameEnd U o U' L ({ frames := 0, cells := 0, slots := 0, locals := 0 } : Room).cells ({ frames := 0, cells := 0, slots := 0, locals := 0 } : Room).slots) := by
  refine MetFree.of_bodySF (plainFor_of_name pn_3) hisR ?_
  intro p e s m args below meth c s₁ Bd hml0 hP hK
  obtain ⟨rfl, hZ, hh⟩ := hP
  have hx := Bd.exec
  have hby := Bd.bytes
  have hml : c.maxLocals = 1 := hml0
  have hown : s.vm.findClass "com/example/melete/melete/index/Decoder" = some m.cls := findClass_of_methodNamed Bd.named
  have hnm := (name_of_methodNamed Bd.named Bd.method).1
  have X0 : Stand p l e ({ frames := 0, cells := 0, slots := 0, locals := 0 } : Room) s m #[(.ref a1)] below meth c s₁ [] 0 0 := Stand.of_body Bd
  have e0 : s₁.heap = h0 := by rw [← hh, Bd.state]; rfl
  have N0 := Fr.nil n0
  have pre0 : ∀ t, Steps p.tables e below (s₁.setTop (mkF m 0 #[.val (.ref a1)] [])) t → Steps p.tables e below (s₁.setTop (entryFrame m #[(.ref a1)] 1)) t := fun t k => castTop (ef_3 m a1) k
  -- 3. LAWS
  obtain ⟨T3, X3, e3, st3⟩ := getF X0 hx hZ hown (host := "") (Or.inl (hw _ (List.mem_of_getElem? (i := 13) rfl))) Via.refl e0 F_position_a1 (g := (mkF m 1 #[.val (.ref a1)] [(.ref a1)])) rfl rfl (hb hby d3_1)
  obtain ⟨T5, X5, e5, st5⟩ := getF X3 hx hZ hown (host := "") (Or.inl (hw _ (List.mem_of_getElem? (i := 15) rfl))) Via.refl e3 F_limit_a1 (g := (mkF m 5 #[.val (.ref a1)] [(.ref a1), (.int w2)])) rfl rfl (hb hby d3_5)
  obtain ⟨fs, hr, hrun, hended, hW, hsame⟩ := X5.leave (v := some (.int (1 : Int32))) (fun h => by rw [Bd.returns] at h; cases h)
  refine ⟨_, _, pre0 _ ?_, hrun, hended, _, _, rfl, ?_, ⟨_, rfl⟩, hW, hsame.mono (by decide) (by decide)⟩
  -- 4. STEPS
  · show Steps p.tables e below (s₁.setTop (mkF m 0 #[.val (.ref a1)] [])) _
    refine XS.aloadN X0.here hx rfl (hb hby d3_0) rfl rfl ?_
    show Steps p.tables e below (s₁.setTop (mkF m 1 #[.val (.ref a1)] [(.ref a1)])) _
    refine st3 _ ?_
    show Steps p.tables e below (T3.setTop (mkF m 4 #[.val (.ref a1)] [(.int w2)])) _
    refine XS.aloadN X3.here hx rfl (hb hby d3_4) rfl rfl ?_
    show Steps p.tables e below (T3.setTop (mkF m 5 #[.val (.ref a1)] [(.ref a1), (.int w2)])) _
    refine st5 _ ?_
    show Steps p.tables e below (T5.setTop (mkF m 8 #[.val (.ref a1)] [(.int w4), (.int w2)])) _
    refine XS.icmpYes X5.here hx rfl (pc0 := 8) (pc' := 23) rfl (hb hby d3_8) rfl (tlt hc8).1 (by decide) (by decide) ?_
    show Steps p.tables e below (T5.setTop (mkF m 23 #[.val (.ref a1)] [])) _
    refine XS.iconst X5.here hx rfl (hb hby d3_23) ?_
    show Steps p.tables e below (T5.setTop (mkF m 24 #[.val (.ref a1)] [(.int (1 : Int32))])) _
    refine XS.goto X5.here hx rfl (pc0 := 24) (pc' := 28) rfl (hb hby d3_24) (by decide) (by decide) ?_
    show Steps p.tables e below (T5.setTop (mkF m 28 #[.val (.ref a1)] [(.int (1 : Int32))])) _
    exact retN X5 hx (t := .boolean) Bd.returns (by simp) (hb hby d3_28) hr
  · show Q3 Z (own_r w2 w4) h0 n0 _ T5.heap _
    rw [e5]
    exact ⟨by simp [own_r, hc8], N0, rfl⟩
theorem d3_11 : decode prog_13_method_6_code 11 = .ok (.aload_n 0, 1) := by decide +kernel
theorem d3_12 : decode prog_13_method_6_code 12 = .ok (.getfield 36, 3) := by decide +kernel
theorem d3_15 : decode prog_13_method_6_code 15 = .ok (.aload_n 0, 1) := by decide +kernel
theorem d3_16 : decode prog_13_method_6_code 16 = .ok (.getfield 24, 3) := by decide +kernel
theorem d3_19 : decode prog_13_method_6_code 19 = .ok (.lcmp, 1) := by decide +kernel
theorem d3_20 : decode prog_13_method_6_code 20 = .ok (.ifCond .ge 7, 3) := by decide +kernel
theorem d3_27 : decode prog_13_method_6_code 27 = .ok (.iconst 0, 1) := by decide +kernel
set_option maxRecDepth 65536 in
set_option maxHeartbeats 40000000 in
theorem rm3b (l : Launch) (Z : State) (a0 : Array Value) (hw : ∀ d ∈ tables_1, d.before a0 Z = true) (ws : List Jvm.Cond) (a1 : Addr) (w2 : Int32) (w4 : Int32) (w6 : Int64) (w8 : Int64) (h0 : Heap) (n0 : Nat) (Z0 : n0 ≤ h0.size) (F_position_a1 : Fld Z h0 a1 "com/example/melete/melete/index/Decoder" "position" "I" (.int w2)) (F_limit_a1 : Fld Z h0 a1 "com/example/melete/melete/index/Decoder" "limit" "I" (.int w4)) (F_next_a1 : Fld Z h0 a1 "com/example/melete/melete/index/Decoder" "next" "J" (.long w6)) (F_end_a1 : Fld Z h0 a1 "com/example/melete/melete/index/Decoder" "end" "J" (.long w8)) (hc8 : ¬ (w2 < w4)) (hc20 : ¬ ((lcmpW w6 w8) < (0 : Int32))) :
    MetFree l (⟨"com/example/melete/melete/index/Decoder", "hasRemaining", "()Z"⟩ : MethodName) (head1 (Jvm.Cond.code (⟨"com/example/melete/melete/index/Decoder", "hasRemaining", "()Z"⟩ : MethodName) prog_13_method_6_code 1 (some .boolean) :: ws) ({ frames := 0, cells := 0, slots := 0, locals := 0 } : Room)) (fun a U => a = #[(.ref a1)] ∧ Z.Warmed39 U.vm ∧ U.heap = h0) (fun _ _ _ _ _ => True) (fun _ U o U' => ∃ v L, o = .returned v ∧ Q3 Z (own_r w2 w4) h0 n0 v U'.heap L ∧ FrameEnd U o U' L ({ frames := 0, cells := 0, slots := 0, locals := 0 } : Room).cells ({ frames := 0, cells := 0, slots := 0, locals := 0 } : Room).slots) := by
  refine MetFree.of_bodySF (plainFor_of_name pn_3) hisR ?_
  intro p e s m args below meth c s₁ Bd hml0 hP hK
  obtain ⟨rfl, hZ, hh⟩ := hP
  have hx := Bd.exec
  have hby := Bd.bytes
  have hml : c.maxLocals = 1 := hml0
  have hown : s.vm.findClass "com/example/melete/melete/index/Decoder" = some m.cls := findClass_of_methodNamed Bd.named
  have hnm := (name_of_methodNamed Bd.named Bd.method).1
  have X0 : Stand p l e ({ frames := 0, cells := 0, slots := 0, locals := 0 } : Room) s m #[(.ref a1)] below meth c s₁ [] 0 0 := Stand.of_body Bd
  have e0 : s₁.heap = h0 := by rw [← hh, Bd.state]; rfl
  have N0 := Fr.nil n0
  have pre0 : ∀ t, Steps p.tables e below (s₁.setTop (mkF m 0 #[.val (.ref a1)] [])) t → Steps p.tables e below (s₁.setTop (entryFrame m #[(.ref a1)] 1)) t := fun t k => castTop (ef_3 m a1) k
  -- 3. LAWS
  obtain ⟨T3, X3, e3, st3⟩ := getF X0 hx hZ hown (host := "") (Or.inl (hw _ (List.mem_of_getElem? (i := 13) rfl))) Via.refl e0 F_position_a1 (g := (mkF m 1 #[.val (.ref a1)] [(.ref a1)])) rfl rfl (hb hby d3_1)
  obtain ⟨T5, X5, e5, st5⟩ := getF X3 hx hZ hown (host := "") (Or.inl (hw _ (List.mem_of_getElem? (i := 15) rfl))) Via.refl e3 F_limit_a1 (g := (mkF m 5 #[.val (.ref a1)] [(.ref a1), (.int w2)])) rfl rfl (hb hby d3_5)
  obtain ⟨T7, X7, e7, st7⟩ := getF X5 hx hZ hown (host := "") (Or.inl (hw _ (List.mem_of_getElem? (i := 35) rfl))) Via.refl e5 F_next_a1 (g := (mkF m 12 #[.val (.ref a1)] [(.ref a1)])) rfl rfl (hb hby d3_12)
  obtain ⟨T9, X9, e9, st9⟩ := getF X7 hx hZ hown (host := "") (Or.inl (hw _ (List.mem_of_getElem? (i := 19) rfl))) Via.refl e7 F_end_a1 (g := (mkF m 16 #[.val (.ref a1)] [(.ref a1), (.long w6)])) rfl rfl (hb hby d3_16)
  obtain ⟨fs, hr, hrun, hended, hW, hsame⟩ := X9.leave (v := some (.int (0 : Int32))) (fun h => by rw [Bd.returns] at h; cases h)
  refine ⟨_, _, pre0 _ ?_, hrun, hended, _, _, rfl, ?_, ⟨_, rfl⟩, hW, hsame.mono (by decide) (by decide)⟩
  -- 4. STEPS
  · show Steps p.tables e below (s₁.setTop (mkF m 0 #[.val (.ref a1)] [])) _
    refine XS.aloadN X0.here hx rfl (hb hby d3_0) rfl rfl ?_
    show Steps p.tables e below (s₁.setTop (mkF m 1 #[.val (.ref a1)] [(.ref a1)])) _
    refine st3 _ ?_
    show Steps p.tables e below (T3.setTop (mkF m 4 #[.val (.ref a1)] [(.int w2)])) _
    refine XS.aloadN X3.here hx rfl (hb hby d3_4) rfl rfl ?_
    show Steps p.tables e below (T3.setTop (mkF m 5 #[.val (.ref a1)] [(.ref a1), (.int w2)])) _
    refine st5 _ ?_
    show Steps p.tables e below (T5.setTop (mkF m 8 #[.val (.ref a1)] [(.int w4), (.int w2)])) _
    refine XS.icmpNo X5.here hx rfl (hb hby d3_8) rfl (flt hc8).1 ?_
    show Steps p.tables e below (T5.setTop (mkF m 11 #[.val (.ref a1)] [])) _
    refine XS.aloadN X5.here hx rfl (hb hby d3_11) rfl rfl ?_
    show Steps p.tables e below (T5.setTop (mkF m 12 #[.val (.ref a1)] [(.ref a1)])) _
    refine st7 _ ?_
    show Steps p.tables e below (T7.setTop (mkF m 15 #[.val (.ref a1)] [(.long w6)])) _
    refine XS.aloadN X7.here hx rfl (hb hby d3_15) rfl rfl ?_
    show Steps p.tables e below (T7.setTop (mkF m 16 #[.val (.ref a1)] [(.ref a1), (.long w6)])) _
    refine st9 _ ?_
    show Steps p.tables e below (T9.setTop (mkF m 19 #[.val (.ref a1)] [(.long w8), (.long w6)])) _
    refine XS.lcmp X9.here hx rfl (hb hby d3_19) rfl ?_
    show Steps p.tables e below (T9.setTop (mkF m 20 #[.val (.ref a1)] [(.int (lcmpW w6 w8))])) _
    refine XS.ifYes X9.here hx rfl (pc0 := 20) (pc' := 27) rfl (hb hby d3_20) rfl ((if0 _ _).trans (flt hc20).2.1) (by decide) (by decide) ?_
    show Steps p.tables e below (T9.setTop (mkF m 27 #[.val (.ref a1)] [])) _
    refine XS.iconst X9.here hx rfl (hb hby d3_27) ?_
    show Steps p.tables e below (T9.setTop (mkF m 28 #[.val (.ref a1)] [(.int (0 : Int32))])) _
    exact retN X9 hx (t := .boolean) Bd.returns (by simp) (hb hby d3_28) hr
  · show Q3 Z (own_r w2 w4) h0 n0 _ T9.heap _
    rw [e9]
    exact ⟨by simp [own_r, hc8], N0, rfl⟩
theorem rm3 (l : Launch) (Z : State) (a0 : Array Value) (hw : ∀ d ∈ tables_1, d.before a0 Z = true) (ws : List Jvm.Cond) (a1 : Addr) (b : Addr) (P Lm : Int32) (h0 : Heap) (n0 : Nat) (Z0 : n0 ≤ h0.size) (D0 : own_D Z h0 a1 b P Lm) :
    MetFree l (⟨"com/example/melete/melete/index/Decoder", "hasRemaining", "()Z"⟩ : MethodName) (head1 (Jvm.Cond.code (⟨"com/example/melete/melete/index/Decoder", "hasRemaining", "()Z"⟩ : MethodName) prog_13_method_6_code 1 (some .boolean) :: ws) ({ frames := 0, cells := 0, slots := 0, locals := 0 } : Room)) (fun a U => a = #[(.ref a1)] ∧ Z.Warmed39 U.vm ∧ U.heap = h0) (fun _ _ _ _ _ => True) (fun _ U o U' => ∃ v L, o = .returned v ∧ Q3 Z (own_r P Lm) h0 n0 v U'.heap L ∧ FrameEnd U o U' L ({ frames := 0, cells := 0, slots := 0, locals := 0 } : Room).cells ({ frames := 0, cells := 0, slots := 0, locals := 0 } : Room).slots) := by
  obtain ⟨-, -, F1, F2, F3, F4⟩ := D0
  by_cases hc8 : P < Lm
  · exact rm3a l Z a0 hw ws a1 P Lm h0 n0 Z0 F1 F2 hc8
  · exact rm3b l Z a0 hw ws a1 P Lm (0 : Int64) (0 : Int64) h0 n0 Z0 F1 F2 F3 F4 hc8 (by decide)
theorem d5_0 : decode prog_13_method_7_code 0 = .ok (.aload_n 0, 1) := by decide +kernel
theorem d5_1 : decode prog_13_method_7_code 1 = .ok (.getfield 13, 3) := by decide +kernel
theorem d5_4 : decode prog_13_method_7_code 4 = .ok (.aload_n 0, 1) := by decide +kernel
theorem d5_5 : decode prog_13_method_7_code 5 = .ok (.getfield 17, 3) := by decide +kernel
theorem d5_8 : decode prog_13_method_7_code 8 = .ok (.if_icmp .ne 7, 3) := by decide +kernel
theorem d5_15 : decode prog_13_method_7_code 15 = .ok (.aload_n 0, 1) := by decide +kernel
theorem d5_16 : decode prog_13_method_7_code 16 = .ok (.getfield 7, 3) := by decide +kernel
theorem d5_19 : decode prog_13_method_7_code 19 = .ok (.aload_n 0, 1) := by decide +kernel
theorem d5_20 : decode prog_13_method_7_code 20 = .ok (.dup, 1) := by decide +kernel
theorem d5_21 : decode prog_13_method_7_code 21 = .ok (.getfield 13, 3) := by decide +kernel
theorem d5_24 : decode prog_13_method_7_code 24 = .ok (.dup_x1, 1) := by decide +kernel
theorem d5_25 : decode prog_13_method_7_code 25 = .ok (.iconst 1, 1) := by decide +kernel
theorem d5_26 : decode prog_13_method_7_code 26 = .ok (.iadd, 1) := by decide +kernel
theorem d5_27 : decode prog_13_method_7_code 27 = .ok (.putfield 13, 3) := by decide +kernel
theorem d5_30 : decode prog_13_method_7_code 30 = .ok (.baload, 1) := by decide +kernel
theorem d5_31 : decode prog_13_method_7_code 31 = .ok (.ireturn, 1) := by decide +kernel
theorem pn_5 : plainName "com/example/melete/melete/index/Decoder" = true := by first | (simp [plainName, overriddenIn]; done) | decide +kernel
theorem ef_5 (m : MethodId) (x0 : Addr) : entryFrame m #[(.ref x0)] 1 = mkF m 0 #[.val (.ref x0)] [] := by first | (simp [entryFrame, mkF, argsToLocals, Value.category]; done) | rfl
def Q5 (Z : State) (a1 b : Addr) (w P L : Int32) (h0 : Heap) (n0 : Nat) (v : Option Value) (h : Heap) (L' : List Loc) : Prop := v = some (.int w) ∧ Fr n0 L' ∧ Keep h0 h [a1] ∧ own_D Z h a1 b (P + (1 : Int32)) L
set_option maxRecDepth 65536 in
set_option maxHeartbeats 40000000 in
theorem rm5 (l : Launch) (Z : State) (a0 : Array Value) (hw : ∀ d ∈ tables_1, d.before a0 Z = true) (ws : List Jvm.Cond) (a1 : Addr) (w2 : Int32) (w4 : Int32) (w6 : Addr) (w10 : Int32) (cl_w6 : Cell) (h0 : Heap) (n0 : Nat) (Z0 : n0 ≤ h0.size) (F_position_a1 : Fld Z h0 a1 "com/example/melete/melete/index/Decoder" "position" "I" (.int w2)) (F_limit_a1 : Fld Z h0 a1 "com/example/melete/melete/index/Decoder" "limit" "I" (.int w4)) (F_bytes_a1 : Fld Z h0 a1 "com/example/melete/melete/index/Decoder" "bytes" "[B" (.ref w6)) (E_a1 : Exa Z h0 a1 "com/example/melete/melete/index/Decoder") (g_a1 : n0 ≤ a1) (Ar_w6 : Arr Z h0 w6 cl_w6 .byte) (hin30 : ¬ (w2 < 0 ∨ cl_w6.slots.size ≤ (w2).toNatClampNeg)) (hat30 : cl_w6.slots[(w2).toNatClampNeg]? = some (.int w10)) (hc8 : ¬ (w2 = w4)) (F_next_a1 : Fld Z h0 a1 "com/example/melete/melete/index/Decoder" "next" "J" (.long (0 : Int64))) (F_end_a1 : Fld Z h0 a1 "com/example/melete/melete/index/Decoder" "end" "J" (.long (0 : Int64))) (hne : w6 ≠ a1) (h8 : w10.toInt8.toInt32 = w10) :
    MetFree l (⟨"com/example/melete/melete/index/Decoder", "readByte", "()B"⟩ : MethodName) (head1 (Jvm.Cond.code (⟨"com/example/melete/melete/index/Decoder", "readByte", "()B"⟩ : MethodName) prog_13_method_7_code 1 (some .byte) :: ws) ({ frames := 0, cells := 0, slots := 0, locals := 0 } : Room)) (fun a U => a = #[(.ref a1)] ∧ Z.Warmed39 U.vm ∧ U.heap = h0) (fun _ _ _ _ _ => True) (fun _ U o U' => ∃ v L, o = .returned v ∧ Q5 Z a1 w6 w10 w2 w4 h0 n0 v U'.heap L ∧ FrameEnd U o U' L ({ frames := 0, cells := 0, slots := 0, locals := 0 } : Room).cells ({ frames := 0, cells := 0, slots := 0, locals := 0 } : Room).slots) := by
  refine MetFree.of_bodySF (plainFor_of_name pn_5) hisR ?_
  intro p e s m args below meth c s₁ Bd hml0 hP hK
  obtain ⟨rfl, hZ, hh⟩ := hP
  have hx := Bd.exec
  have hby := Bd.bytes
  have hml : c.maxLocals = 1 := hml0
  have hown : s.vm.findClass "com/example/melete/melete/index/Decoder" = some m.cls := findClass_of_methodNamed Bd.named
  have hnm := (name_of_methodNamed Bd.named Bd.method).1
  have X0 : Stand p l e ({ frames := 0, cells := 0, slots := 0, locals := 0 } : Room) s m #[(.ref a1)] below meth c s₁ [] 0 0 := Stand.of_body Bd
  have e0 : s₁.heap = h0 := by rw [← hh, Bd.state]; rfl
  have N0 := Fr.nil n0
  have pre0 : ∀ t, Steps p.tables e below (s₁.setTop (mkF m 0 #[.val (.ref a1)] [])) t → Steps p.tables e below (s₁.setTop (entryFrame m #[(.ref a1)] 1)) t := fun t k => castTop (ef_5 m a1) k
  -- 3. LAWS
  obtain ⟨T3, X3, e3, st3⟩ := getF X0 hx hZ hown (host := "") (Or.inl (hw _ (List.mem_of_getElem? (i := 13) rfl))) Via.refl e0 F_position_a1 (g := (mkF m 1 #[.val (.ref a1)] [(.ref a1)])) rfl rfl (hb hby d5_1)
  obtain ⟨T5, X5, e5, st5⟩ := getF X3 hx hZ hown (host := "") (Or.inl (hw _ (List.mem_of_getElem? (i := 15) rfl))) Via.refl e3 F_limit_a1 (g := (mkF m 5 #[.val (.ref a1)] [(.ref a1), (.int w2)])) rfl rfl (hb hby d5_5)
  obtain ⟨T7, X7, e7, st7⟩ := getF X5 hx hZ hown (host := "") (Or.inl (hw _ (List.mem_of_getElem? (i := 11) rfl))) Via.refl e5 F_bytes_a1 (g := (mkF m 16 #[.val (.ref a1)] [(.ref a1)])) rfl rfl (hb hby d5_16)
  obtain ⟨T8, X8, e8, st8⟩ := getF X7 hx hZ hown (host := "") (Or.inl (hw _ (List.mem_of_getElem? (i := 13) rfl))) Via.refl e7 F_position_a1 (g := (mkF m 21 #[.val (.ref a1)] [(.ref a1), (.ref a1), (.ref w6)])) rfl rfl (hb hby d5_21)
  obtain ⟨T9, h9, X9, e9, W9, st9⟩ := putF X8 hx hZ hown (host := "") (Or.inl (hw _ (List.mem_of_getElem? (i := 13) rfl))) Via.refl e8 F_position_a1 E_a1 (Or.inl (hw _ (List.mem_of_getElem? (i := 14) rfl))) (hw _ (List.mem_of_getElem? (i := 3) rfl)) (ty := .int) (by decide) rfl rfl (g := (mkF m 27 #[.val (.ref a1)] [(.int (w2 + (1 : Int32))), (.ref a1), (.int w2), (.ref w6)])) rfl rfl (hb hby d5_27)
  have Fw9 := F_position_a1.same W9      -- the field now holds (.int (w2 + (1 : Int32)))
  have K9 : Keep h0 h9 [a1] := (Keep.refl h0 [a1]).wr W9 (Or.inl (List.mem_of_getElem? (i := 0) rfl))
  have N9 := Fr.snoc X9 N0 g_a1
  have Ar9 := Ar_w6.other W9 hne
  obtain ⟨fs, hr, hrun, hended, hW, hsame⟩ := X9.leave (v := some (.int (nar .byte w10))) (fun h => by rw [Bd.returns] at h; cases h)
  refine ⟨_, _, pre0 _ ?_, hrun, hended, _, _, rfl, ?_, ⟨_, rfl⟩, hW, hsame.mono (by decide) (by decide)⟩
  -- 4. STEPS
  · show Steps p.tables e below (s₁.setTop (mkF m 0 #[.val (.ref a1)] [])) _
    refine XS.aloadN X0.here hx rfl (hb hby d5_0) rfl rfl ?_
    show Steps p.tables e below (s₁.setTop (mkF m 1 #[.val (.ref a1)] [(.ref a1)])) _
    refine st3 _ ?_
    show Steps p.tables e below (T3.setTop (mkF m 4 #[.val (.ref a1)] [(.int w2)])) _
    refine XS.aloadN X3.here hx rfl (hb hby d5_4) rfl rfl ?_
    show Steps p.tables e below (T3.setTop (mkF m 5 #[.val (.ref a1)] [(.ref a1), (.int w2)])) _
    refine st5 _ ?_
    show Steps p.tables e below (T5.setTop (mkF m 8 #[.val (.ref a1)] [(.int w4), (.int w2)])) _
    refine XS.icmpYes X5.here hx rfl (pc0 := 8) (pc' := 15) rfl (hb hby d5_8) rfl (feq hc8).2 (by decide) (by decide) ?_
    show Steps p.tables e below (T5.setTop (mkF m 15 #[.val (.ref a1)] [])) _
    refine XS.aloadN X5.here hx rfl (hb hby d5_15) rfl rfl ?_
    show Steps p.tables e below (T5.setTop (mkF m 16 #[.val (.ref a1)] [(.ref a1)])) _
    refine st7 _ ?_
    show Steps p.tables e below (T7.setTop (mkF m 19 #[.val (.ref a1)] [(.ref w6)])) _
    refine XS.aloadN X7.here hx rfl (hb hby d5_19) rfl rfl ?_
    show Steps p.tables e below (T7.setTop (mkF m 20 #[.val (.ref a1)] [(.ref a1), (.ref w6)])) _
    refine XS.dup X7.here hx rfl (hb hby d5_20) rfl rfl ?_
    show Steps p.tables e below (T7.setTop (mkF m 21 #[.val (.ref a1)] [(.ref a1), (.ref a1), (.ref w6)])) _
    refine st8 _ ?_
    show Steps p.tables e below (T8.setTop (mkF m 24 #[.val (.ref a1)] [(.int w2), (.ref a1), (.ref w6)])) _
    refine XS.dupX1 X8.here hx rfl (hb hby d5_24) rfl rfl rfl ?_
    show Steps p.tables e below (T8.setTop (mkF m 25 #[.val (.ref a1)] [(.int w2), (.ref a1), (.int w2), (.ref w6)])) _
    refine XS.iconst X8.here hx rfl (hb hby d5_25) ?_
    show Steps p.tables e below (T8.setTop (mkF m 26 #[.val (.ref a1)] [(.int (1 : Int32)), (.int w2), (.ref a1), (.int w2), (.ref w6)])) _
    refine XS.iadd X8.here hx rfl (hb hby d5_26) rfl ?_
    show Steps p.tables e below (T8.setTop (mkF m 27 #[.val (.ref a1)] [(.int (w2 + (1 : Int32))), (.ref a1), (.int w2), (.ref w6)])) _
    refine st9 _ ?_
    show Steps p.tables e below (T9.setTop (mkF m 30 #[.val (.ref a1)] [(.int w2), (.ref w6)])) _
    refine X9.baloadBytes hx (j := w2) (v := (.int w10)) (by rw [e9]; exact Ar9.1) (State.isArrayOf_alike hZ.alike Ar9.2.1) Ar9.2.2 hin30 hat30 (g := (mkF m 30 #[.val (.ref a1)] [(.int w2), (.ref w6)])) rfl rfl (hb hby d5_30) _ ?_
    show Steps p.tables e below (T9.setTop (mkF m 31 #[.val (.ref a1)] [(.int w10)])) _
    exact retN X9 hx (t := .byte) Bd.returns (by simp) (hb hby d5_31) hr
  · show Q5 Z a1 w6 w10 w2 w4 h0 n0 _ T9.heap _
    rw [e9]
    exact ⟨congrArg (fun z => some (Value.int z)) h8, N9, K9, E_a1.wr W9, F_bytes_a1.other W9 (Or.inr (slot_ne (Or.inr (hw _ (List.mem_of_getElem? (i := 12) rfl))) (Or.inl (hw _ (List.mem_of_getElem? (i := 14) rfl))) (by decide) (t := (.array .byte)) (t' := .int) (by decide) (by decide))), Fw9, F_limit_a1.other W9 (Or.inr (slot_ne (Or.inl (hw _ (List.mem_of_getElem? (i := 16) rfl))) (Or.inl (hw _ (List.mem_of_getElem? (i := 14) rfl))) (by decide) (t := .int) (t' := .int) (by decide) (by decide))), F_next_a1.other W9 (Or.inr (slot_ne (Or.inl (hw _ (List.mem_of_getElem? (i := 36) rfl))) (Or.inl (hw _ (List.mem_of_getElem? (i := 14) rfl))) (by decide) (t := .long) (t' := .int) (by decide) (by decide))), F_end_a1.other W9 (Or.inr (slot_ne (Or.inr (hw _ (List.mem_of_getElem? (i := 20) rfl))) (Or.inl (hw _ (List.mem_of_getElem? (i := 14) rfl))) (by decide) (t := .long) (t' := .int) (by decide) (by decide)))⟩
theorem d4_4 : decode prog_13_method_3_code 4 = .ok (.aload_n 0, 1) := by decide +kernel
theorem d4_5 : decode prog_13_method_3_code 5 = .ok (.invokevirtual 39, 3) := by decide +kernel
theorem d4_8 : decode prog_13_method_3_code 8 = .ok (.istore 4, 2) := by decide +kernel
theorem d4_10 : decode prog_13_method_3_code 10 = .ok (.lload_n 1, 1) := by decide +kernel
theorem d4_11 : decode prog_13_method_3_code 11 = .ok (.iload 4, 2) := by decide +kernel
theorem d4_13 : decode prog_13_method_3_code 13 = .ok (.bipush 127, 2) := by decide +kernel
theorem d4_15 : decode prog_13_method_3_code 15 = .ok (.iand, 1) := by decide +kernel
theorem d4_16 : decode prog_13_method_3_code 16 = .ok (.i2l, 1) := by decide +kernel
theorem d4_17 : decode prog_13_method_3_code 17 = .ok (.iload_n 3, 1) := by decide +kernel
theorem d4_18 : decode prog_13_method_3_code 18 = .ok (.lshl, 1) := by decide +kernel
theorem d4_19 : decode prog_13_method_3_code 19 = .ok (.lor, 1) := by decide +kernel
theorem d4_20 : decode prog_13_method_3_code 20 = .ok (.lstore_n 1, 1) := by decide +kernel
theorem d4_21 : decode prog_13_method_3_code 21 = .ok (.iinc 3 7, 3) := by decide +kernel
theorem d4_24 : decode prog_13_method_3_code 24 = .ok (.iload 4, 2) := by decide +kernel
theorem d4_26 : decode prog_13_method_3_code 26 = .ok (.ifCond .lt (-22), 3) := by decide +kernel
theorem pd_4_4 : parseMethodDescriptor "()B" = some ⟨[], some .byte⟩ := by decide +kernel
theorem os4_8 {z0 : Value} {z1 : Value} {z3 : Value} {s4 : Slot} {v : Int32} (h : One s4) : storeLocals #[.val z0, .val z1, .second, .val z3, s4] 4 (.int v) = some #[.val z0, .val z1, .second, .val z3, .val (.int v)] := by
  rcases h with rfl | ⟨w, rfl, hw⟩
  · rfl
  · cases w <;> first | rfl | (simp [Value.category] at hw)
set_option maxRecDepth 65536 in
set_option maxHeartbeats 40000000 in
theorem own_turn {p : Program} {l : Launch} {e : Env} {s : State} {m : MethodId} {args : Array Value} {below : List Frame} {meth : Method} {c : Code} {T0 : State} {locs : List Loc} {Z : State} {a0 : Array Value} {h0 : Heap} (o0 : Addr) (j1 : Int64) (i3 : Int32) (s4 : Slot)
    (X0 : Stand p l e ({ frames := 1, cells := 0, slots := 0, locals := 12 } : Room) s m args below meth c T0 locs 0 0) (hx : p.tables.exec = Jvm.exec) (hZ : Z.Warmed39 s.vm) (hw : ∀ d ∈ tables_1, d.before a0 Z = true) (hby : c.code = prog_13_method_3_code) (hml : c.maxLocals = 5) (hown : s.vm.findClass "com/example/melete/melete/index/Decoder" = some m.cls) (e0 : T0.heap = h0) (hs4 : One s4) {n0 : Nat} (N0 : Fr n0 locs) (Z0 : n0 ≤ h0.size) (b : Addr) (cl : Cell) (P L wb : Int32) (D0 : own_D Z h0 o0 b P L) (g0 : n0 ≤ o0) (hne : b ≠ o0) (Ar : Arr Z h0 b cl .byte) (hin : ¬ (P < 0 ∨ cl.slots.size ≤ P.toNatClampNeg)) (hat : cl.slots[P.toNatClampNeg]? = some (.int wb)) (hPL : ¬ P = L) (h8 : wb.toInt8.toInt32 = wb) (hc26 : wb < (0 : Int32)) :
    ∃ (T' : State) (locs' : List Loc), Stand p l e ({ frames := 1, cells := 0, slots := 0, locals := 12 } : Room) s m args below meth c T' locs' 0 0 ∧ Fr n0 locs' ∧ Keep h0 T'.heap [o0] ∧ own_D Z T'.heap o0 b (P + (1 : Int32)) L ∧
      ∀ target, Steps p.tables e below (T'.setTop (mkF m 4 #[.val (.ref o0), .val (.long (j1 ||| (((wb &&& (127 : Int32)).toInt64) <<< (i3 &&& 0x3f).toInt64))), .second, .val (.int (i3 + (7 : Int32))), .val (.int wb)] [])) target → Steps p.tables e below (T0.setTop (mkF m 4 #[.val (.ref o0), .val (.long j1), .second, .val (.int i3), s4] [])) target := by
  -- 3. LAWS
  -- pc 5: a private method: rm5
  obtain ⟨E_o0, FB, FP, FL, FN, FE⟩ := D0
  obtain ⟨cq2, q2, q2'⟩ := E_o0.cell
  obtain ⟨_, _, ⟨T2, L2, k2, n2⟩, -, X2, ⟨Lc2, hQ2, l2, y2, z2⟩, st2⟩ := X0.privateBack hx (y := (⟨"com/example/melete/melete/index/Decoder", "readByte", "()B"⟩ : MethodName)) hown (mvT hZ (hw _ (List.mem_of_getElem? (i := 31) rfl))) (mvT hZ (hw _ (List.mem_of_getElem? (i := 32) rfl))) (own_selects (y := (⟨"com/example/melete/melete/index/Decoder", "readByte", "()B"⟩ : MethodName)) (y2 := (⟨"com/example/melete/melete/index/Decoder", "hasRemaining", "()Z"⟩ : MethodName)) rfl (mvT hZ (hw _ (List.mem_of_getElem? (i := 24) rfl))) (mvT hZ (hw _ (List.mem_of_getElem? (i := 32) rfl))) (mvP hZ (hw _ (List.mem_of_getElem? (i := 33) rfl))) (by decide)) (Cond.privateMethod_at (mvP hZ (hw _ (List.mem_of_getElem? (i := 33) rfl)) (args := #[]))) (mvT hZ (hw _ (List.mem_of_getElem? (i := 34) rfl))) (by decide) (backOf (W := 0) (rm5 l Z a0 hw [] o0 P L b wb cl h0 n0 Z0 FP FL FB E_o0 g0 Ar hin hat hPL FN FE hne h8) hZ (hw _ (List.mem_of_getElem? (i := 34) rfl)) (hw _ (List.mem_of_getElem? (i := 4) rfl)) (by decide) (by decide)) (g := (mkF m 5 #[.val (.ref o0), .val (.long j1), .second, .val (.int i3), s4] [(.ref o0)])) rfl (by rw [hml]; rfl) (Steps.refl _) (a := o0) (by rw [e0]; exact q2) q2' (argsL := []) (rest := []) (lenOf pd_4_4 rfl) rfl (by show 2 * 0 + _ ≤ _; exact Nat.le_of_eq rfl) (hb hby d4_5) (fun _ _ => ⟨rfl, e0, (by decide : 0 + 0 ≤ _), (by decide : 0 + 0 ≤ _)⟩)
  dsimp only [Pt.U, Pt.locs, Pt.cells, Pt.slots] at X2 l2 y2 z2 st2 hQ2
  subst l2 y2 z2
  obtain ⟨rfl, N2q, KK, DD⟩ := hQ2
  have N2 := Fr.app N0 N2q
  refine ⟨T2, _, X2, N2, KK, DD, fun target kt => ?_⟩
  -- 4. STEPS
  show Steps p.tables e below (T0.setTop (mkF m 4 #[.val (.ref o0), .val (.long j1), .second, .val (.int i3), s4] [])) _
  refine XS.aloadN X0.here hx rfl (hb hby d4_4) rfl rfl ?_
  show Steps p.tables e below (T0.setTop (mkF m 5 #[.val (.ref o0), .val (.long j1), .second, .val (.int i3), s4] [(.ref o0)])) _
  refine st2.trans ?_
  show Steps p.tables e below (T2.setTop (mkF m 8 #[.val (.ref o0), .val (.long j1), .second, .val (.int i3), s4] [(.int wb)])) _
  refine XS.istore X2.here hx rfl (hb hby d4_8) rfl (l' := #[.val (.ref o0), .val (.long j1), .second, .val (.int i3), .val (.int wb)]) (os4_8 hs4) ?_
  show Steps p.tables e below (T2.setTop (mkF m 10 #[.val (.ref o0), .val (.long j1), .second, .val (.int i3), .val (.int wb)] [])) _
  refine XS.lloadN X2.here hx rfl (hb hby d4_10) rfl ?_
  show Steps p.tables e below (T2.setTop (mkF m 11 #[.val (.ref o0), .val (.long j1), .second, .val (.int i3), .val (.int wb)] [(.long j1)])) _
  refine XS.iload X2.here hx rfl (hb hby d4_11) rfl ?_
  show Steps p.tables e below (T2.setTop (mkF m 13 #[.val (.ref o0), .val (.long j1), .second, .val (.int i3), .val (.int wb)] [(.int wb), (.long j1)])) _
  refine XS.bipush X2.here hx rfl (hb hby d4_13) ?_
  show Steps p.tables e below (T2.setTop (mkF m 15 #[.val (.ref o0), .val (.long j1), .second, .val (.int i3), .val (.int wb)] [(.int (127 : Int32)), (.int wb), (.long j1)])) _
  refine XS.iand X2.here hx rfl (hb hby d4_15) rfl ?_
  show Steps p.tables e below (T2.setTop (mkF m 16 #[.val (.ref o0), .val (.long j1), .second, .val (.int i3), .val (.int wb)] [(.int (wb &&& (127 : Int32))), (.long j1)])) _
  refine XS.i2l X2.here hx rfl (hb hby d4_16) rfl ?_
  show Steps p.tables e below (T2.setTop (mkF m 17 #[.val (.ref o0), .val (.long j1), .second, .val (.int i3), .val (.int wb)] [(.long ((wb &&& (127 : Int32)).toInt64)), (.long j1)])) _
  refine XS.iloadN X2.here hx rfl (hb hby d4_17) rfl ?_
  show Steps p.tables e below (T2.setTop (mkF m 18 #[.val (.ref o0), .val (.long j1), .second, .val (.int i3), .val (.int wb)] [(.int i3), (.long ((wb &&& (127 : Int32)).toInt64)), (.long j1)])) _
  refine XS.lshl X2.here hx rfl (hb hby d4_18) rfl ?_
  show Steps p.tables e below (T2.setTop (mkF m 19 #[.val (.ref o0), .val (.long j1), .second, .val (.int i3), .val (.int wb)] [(.long (((wb &&& (127 : Int32)).toInt64) <<< (i3 &&& 0x3f).toInt64)), (.long j1)])) _
  refine XS.lor X2.here hx rfl (hb hby d4_19) rfl ?_
  show Steps p.tables e below (T2.setTop (mkF m 20 #[.val (.ref o0), .val (.long j1), .second, .val (.int i3), .val (.int wb)] [(.long (j1 ||| (((wb &&& (127 : Int32)).toInt64) <<< (i3 &&& 0x3f).toInt64)))])) _
  refine XS.lstoreN X2.here hx rfl (hb hby d4_20) rfl (l' := #[.val (.ref o0), .val (.long (j1 ||| (((wb &&& (127 : Int32)).toInt64) <<< (i3 &&& 0x3f).toInt64))), .second, .val (.int i3), .val (.int wb)]) rfl ?_
  show Steps p.tables e below (T2.setTop (mkF m 21 #[.val (.ref o0), .val (.long (j1 ||| (((wb &&& (127 : Int32)).toInt64) <<< (i3 &&& 0x3f).toInt64))), .second, .val (.int i3), .val (.int wb)] [])) _
  refine XS.iinc X2.here hx rfl (hb hby d4_21) rfl (l' := #[.val (.ref o0), .val (.long (j1 ||| (((wb &&& (127 : Int32)).toInt64) <<< (i3 &&& 0x3f).toInt64))), .second, .val (.int (i3 + (7 : Int32))), .val (.int wb)]) rfl ?_
  show Steps p.tables e below (T2.setTop (mkF m 24 #[.val (.ref o0), .val (.long (j1 ||| (((wb &&& (127 : Int32)).toInt64) <<< (i3 &&& 0x3f).toInt64))), .second, .val (.int (i3 + (7 : Int32))), .val (.int wb)] [])) _
  refine XS.iload X2.here hx rfl (hb hby d4_24) rfl ?_
  show Steps p.tables e below (T2.setTop (mkF m 26 #[.val (.ref o0), .val (.long (j1 ||| (((wb &&& (127 : Int32)).toInt64) <<< (i3 &&& 0x3f).toInt64))), .second, .val (.int (i3 + (7 : Int32))), .val (.int wb)] [(.int wb)])) _
  refine XS.ifYes X2.here hx rfl (pc0 := 26) (pc' := 4) rfl (hb hby d4_26) rfl ((if0 _ _).trans (tlt hc26).1) (by decide) (by decide) ?_
  exact kt
set_option maxRecDepth 65536 in
set_option maxHeartbeats 40000000 in
theorem own_leave {p : Program} {l : Launch} {e : Env} {s : State} {m : MethodId} {args : Array Value} {below : List Frame} {meth : Method} {c : Code} {T0 : State} {locs : List Loc} {Z : State} {a0 : Array Value} {h0 : Heap} (o0 : Addr) (j1 : Int64) (i3 : Int32) (s4 : Slot)
    (X0 : Stand p l e ({ frames := 1, cells := 0, slots := 0, locals := 12 } : Room) s m args below meth c T0 locs 0 0) (hx : p.tables.exec = Jvm.exec) (hZ : Z.Warmed39 s.vm) (hw : ∀ d ∈ tables_1, d.before a0 Z = true) (hby : c.code = prog_13_method_3_code) (hml : c.maxLocals = 5) (hown : s.vm.findClass "com/example/melete/melete/index/Decoder" = some m.cls) (e0 : T0.heap = h0) (hs4 : One s4) {n0 : Nat} (N0 : Fr n0 locs) (Z0 : n0 ≤ h0.size) (b : Addr) (cl : Cell) (P L wb : Int32) (D0 : own_D Z h0 o0 b P L) (g0 : n0 ≤ o0) (hne : b ≠ o0) (Ar : Arr Z h0 b cl .byte) (hin : ¬ (P < 0 ∨ cl.slots.size ≤ P.toNatClampNeg)) (hat : cl.slots[P.toNatClampNeg]? = some (.int wb)) (hPL : ¬ P = L) (h8 : wb.toInt8.toInt32 = wb) (hc26 : ¬ (wb < (0 : Int32))) :
    ∃ (T' : State) (locs' : List Loc), Stand p l e ({ frames := 1, cells := 0, slots := 0, locals := 12 } : Room) s m args below meth c T' locs' 0 0 ∧ Fr n0 locs' ∧ Keep h0 T'.heap [o0] ∧ own_D Z T'.heap o0 b (P + (1 : Int32)) L ∧
      ∀ target, Steps p.tables e below (T'.setTop (mkF m 29 #[.val (.ref o0), .val (.long (j1 ||| (((wb &&& (127 : Int32)).toInt64) <<< (i3 &&& 0x3f).toInt64))), .second, .val (.int (i3 + (7 : Int32))), .val (.int wb)] [])) target → Steps p.tables e below (T0.setTop (mkF m 4 #[.val (.ref o0), .val (.long j1), .second, .val (.int i3), s4] [])) target := by
  -- 3. LAWS
  -- pc 5: a private method: rm5
  obtain ⟨E_o0, FB, FP, FL, FN, FE⟩ := D0
  obtain ⟨cq2, q2, q2'⟩ := E_o0.cell
  obtain ⟨_, _, ⟨T2, L2, k2, n2⟩, -, X2, ⟨Lc2, hQ2, l2, y2, z2⟩, st2⟩ := X0.privateBack hx (y := (⟨"com/example/melete/melete/index/Decoder", "readByte", "()B"⟩ : MethodName)) hown (mvT hZ (hw _ (List.mem_of_getElem? (i := 31) rfl))) (mvT hZ (hw _ (List.mem_of_getElem? (i := 32) rfl))) (own_selects (y := (⟨"com/example/melete/melete/index/Decoder", "readByte", "()B"⟩ : MethodName)) (y2 := (⟨"com/example/melete/melete/index/Decoder", "hasRemaining", "()Z"⟩ : MethodName)) rfl (mvT hZ (hw _ (List.mem_of_getElem? (i := 24) rfl))) (mvT hZ (hw _ (List.mem_of_getElem? (i := 32) rfl))) (mvP hZ (hw _ (List.mem_of_getElem? (i := 33) rfl))) (by decide)) (Cond.privateMethod_at (mvP hZ (hw _ (List.mem_of_getElem? (i := 33) rfl)) (args := #[]))) (mvT hZ (hw _ (List.mem_of_getElem? (i := 34) rfl))) (by decide) (backOf (W := 0) (rm5 l Z a0 hw [] o0 P L b wb cl h0 n0 Z0 FP FL FB E_o0 g0 Ar hin hat hPL FN FE hne h8) hZ (hw _ (List.mem_of_getElem? (i := 34) rfl)) (hw _ (List.mem_of_getElem? (i := 4) rfl)) (by decide) (by decide)) (g := (mkF m 5 #[.val (.ref o0), .val (.long j1), .second, .val (.int i3), s4] [(.ref o0)])) rfl (by rw [hml]; rfl) (Steps.refl _) (a := o0) (by rw [e0]; exact q2) q2' (argsL := []) (rest := []) (lenOf pd_4_4 rfl) rfl (by show 2 * 0 + _ ≤ _; exact Nat.le_of_eq rfl) (hb hby d4_5) (fun _ _ => ⟨rfl, e0, (by decide : 0 + 0 ≤ _), (by decide : 0 + 0 ≤ _)⟩)
  dsimp only [Pt.U, Pt.locs, Pt.cells, Pt.slots] at X2 l2 y2 z2 st2 hQ2
  subst l2 y2 z2
  obtain ⟨rfl, N2q, KK, DD⟩ := hQ2
  have N2 := Fr.app N0 N2q
  refine ⟨T2, _, X2, N2, KK, DD, fun target kt => ?_⟩
  -- 4. STEPS
  show Steps p.tables e below (T0.setTop (mkF m 4 #[.val (.ref o0), .val (.long j1), .second, .val (.int i3), s4] [])) _
  refine XS.aloadN X0.here hx rfl (hb hby d4_4) rfl rfl ?_
  show Steps p.tables e below (T0.setTop (mkF m 5 #[.val (.ref o0), .val (.long j1), .second, .val (.int i3), s4] [(.ref o0)])) _
  refine st2.trans ?_
  show Steps p.tables e below (T2.setTop (mkF m 8 #[.val (.ref o0), .val (.long j1), .second, .val (.int i3), s4] [(.int wb)])) _
  refine XS.istore X2.here hx rfl (hb hby d4_8) rfl (l' := #[.val (.ref o0), .val (.long j1), .second, .val (.int i3), .val (.int wb)]) (os4_8 hs4) ?_
  show Steps p.tables e below (T2.setTop (mkF m 10 #[.val (.ref o0), .val (.long j1), .second, .val (.int i3), .val (.int wb)] [])) _
  refine XS.lloadN X2.here hx rfl (hb hby d4_10) rfl ?_
  show Steps p.tables e below (T2.setTop (mkF m 11 #[.val (.ref o0), .val (.long j1), .second, .val (.int i3), .val (.int wb)] [(.long j1)])) _
  refine XS.iload X2.here hx rfl (hb hby d4_11) rfl ?_
  show Steps p.tables e below (T2.setTop (mkF m 13 #[.val (.ref o0), .val (.long j1), .second, .val (.int i3), .val (.int wb)] [(.int wb), (.long j1)])) _
  refine XS.bipush X2.here hx rfl (hb hby d4_13) ?_
  show Steps p.tables e below (T2.setTop (mkF m 15 #[.val (.ref o0), .val (.long j1), .second, .val (.int i3), .val (.int wb)] [(.int (127 : Int32)), (.int wb), (.long j1)])) _
  refine XS.iand X2.here hx rfl (hb hby d4_15) rfl ?_
  show Steps p.tables e below (T2.setTop (mkF m 16 #[.val (.ref o0), .val (.long j1), .second, .val (.int i3), .val (.int wb)] [(.int (wb &&& (127 : Int32))), (.long j1)])) _
  refine XS.i2l X2.here hx rfl (hb hby d4_16) rfl ?_
  show Steps p.tables e below (T2.setTop (mkF m 17 #[.val (.ref o0), .val (.long j1), .second, .val (.int i3), .val (.int wb)] [(.long ((wb &&& (127 : Int32)).toInt64)), (.long j1)])) _
  refine XS.iloadN X2.here hx rfl (hb hby d4_17) rfl ?_
  show Steps p.tables e below (T2.setTop (mkF m 18 #[.val (.ref o0), .val (.long j1), .second, .val (.int i3), .val (.int wb)] [(.int i3), (.long ((wb &&& (127 : Int32)).toInt64)), (.long j1)])) _
  refine XS.lshl X2.here hx rfl (hb hby d4_18) rfl ?_
  show Steps p.tables e below (T2.setTop (mkF m 19 #[.val (.ref o0), .val (.long j1), .second, .val (.int i3), .val (.int wb)] [(.long (((wb &&& (127 : Int32)).toInt64) <<< (i3 &&& 0x3f).toInt64)), (.long j1)])) _
  refine XS.lor X2.here hx rfl (hb hby d4_19) rfl ?_
  show Steps p.tables e below (T2.setTop (mkF m 20 #[.val (.ref o0), .val (.long j1), .second, .val (.int i3), .val (.int wb)] [(.long (j1 ||| (((wb &&& (127 : Int32)).toInt64) <<< (i3 &&& 0x3f).toInt64)))])) _
  refine XS.lstoreN X2.here hx rfl (hb hby d4_20) rfl (l' := #[.val (.ref o0), .val (.long (j1 ||| (((wb &&& (127 : Int32)).toInt64) <<< (i3 &&& 0x3f).toInt64))), .second, .val (.int i3), .val (.int wb)]) rfl ?_
  show Steps p.tables e below (T2.setTop (mkF m 21 #[.val (.ref o0), .val (.long (j1 ||| (((wb &&& (127 : Int32)).toInt64) <<< (i3 &&& 0x3f).toInt64))), .second, .val (.int i3), .val (.int wb)] [])) _
  refine XS.iinc X2.here hx rfl (hb hby d4_21) rfl (l' := #[.val (.ref o0), .val (.long (j1 ||| (((wb &&& (127 : Int32)).toInt64) <<< (i3 &&& 0x3f).toInt64))), .second, .val (.int (i3 + (7 : Int32))), .val (.int wb)]) rfl ?_
  show Steps p.tables e below (T2.setTop (mkF m 24 #[.val (.ref o0), .val (.long (j1 ||| (((wb &&& (127 : Int32)).toInt64) <<< (i3 &&& 0x3f).toInt64))), .second, .val (.int (i3 + (7 : Int32))), .val (.int wb)] [])) _
  refine XS.iload X2.here hx rfl (hb hby d4_24) rfl ?_
  show Steps p.tables e below (T2.setTop (mkF m 26 #[.val (.ref o0), .val (.long (j1 ||| (((wb &&& (127 : Int32)).toInt64) <<< (i3 &&& 0x3f).toInt64))), .second, .val (.int (i3 + (7 : Int32))), .val (.int wb)] [(.int wb)])) _
  refine XS.ifNo X2.here hx rfl (hb hby d4_26) rfl ((if0 _ _).trans (flt hc26).1) ?_
  exact kt
theorem own_rv {p : Program} {l : Launch} {e : Env} {s : State} {m : MethodId} {args : Array Value} {below : List Frame} {meth : Method} {c : Code} {Z : State} {a0 : Array Value} {o0 b : Addr} {cl : Cell} {g : Nat → Int32} {n0 Ln : Nat}
    (hx : p.tables.exec = Jvm.exec) (hZ : Z.Warmed39 s.vm) (hw : ∀ d ∈ tables_1, d.before a0 Z = true) (hby : c.code = prog_13_method_3_code) (hml : c.maxLocals = 5) (hown : s.vm.findClass "com/example/melete/melete/index/Decoder" = some m.cls) (g0 : n0 ≤ o0) (hne : b ≠ o0) (hL : Ln ≤ 3) :
    ∀ (k : Nat) (T0 : State) (locs : List Loc) (P : Nat) (j1 : Int64) (i3 : Int32) (s4 : Slot), One s4 → Stand p l e ({ frames := 1, cells := 0, slots := 0, locals := 12 } : Room) s m args below meth c T0 locs 0 0 → Fr n0 locs → n0 ≤ T0.heap.size → own_D Z T0.heap o0 b (Int32.ofNat P) (Int32.ofNat Ln) → own_B Z T0.heap b cl g → P + k < Ln → (∀ j, P ≤ j → j < P + k → g j < 0) → ¬ g (P + k) < 0 →
      ∃ (T' : State) (locs' : List Loc) (j' : Int64) (i' w' : Int32), Stand p l e ({ frames := 1, cells := 0, slots := 0, locals := 12 } : Room) s m args below meth c T' locs' 0 0 ∧ Fr n0 locs' ∧ Keep T0.heap T'.heap [o0] ∧ own_D Z T'.heap o0 b (Int32.ofNat (P + k + 1)) (Int32.ofNat Ln) ∧
        ∀ target, Steps p.tables e below (T'.setTop (mkF m 29 #[.val (.ref o0), .val (.long j'), .second, .val (.int i'), .val (.int w')] [])) target → Steps p.tables e below (T0.setTop (mkF m 4 #[.val (.ref o0), .val (.long j1), .second, .val (.int i3), s4] [])) target := by
  intro k
  induction k with
  | zero =>
    intro T0 locs P j1 i3 s4 hs4 X0 N0 Z0 D0 B0 hk hneg hpos
    have hin := own_in (k := P) B0.2.1 (by omega)
    have hat := own_at (k := P) B0 (by omega)
    obtain ⟨T', locs', X', N', K', D', st⟩ := own_leave o0 j1 i3 s4 X0 hx hZ hw hby hml hown rfl hs4 N0 Z0 b cl (Int32.ofNat P) (Int32.ofNat Ln) (g P) D0 g0 hne B0.1 hin hat (own_ne (by omega) (by omega) (by omega)) (B0.2.2 P (by omega)).2 hpos
    exact ⟨T', locs', _, _, _, X', N', K', own_add P 1 ▸ D', st⟩
  | succ k ih =>
    intro T0 locs P j1 i3 s4 hs4 X0 N0 Z0 D0 B0 hk hneg hpos
    have hin := own_in (k := P) B0.2.1 (by omega)
    have hat := own_at (k := P) B0 (by omega)
    obtain ⟨T', locs', X', N', K', D', st⟩ := own_turn o0 j1 i3 s4 X0 hx hZ hw hby hml hown rfl hs4 N0 Z0 b cl (Int32.ofNat P) (Int32.ofNat Ln) (g P) D0 g0 hne B0.1 hin hat (own_ne (by omega) (by omega) (by omega)) (B0.2.2 P (by omega)).2 (hneg P (Nat.le_refl _) (by omega))
    have e1 : P + 1 + k = P + (k + 1) := by omega
    obtain ⟨T2, locs2, j2, i2, w2, X2, N2, K2, D2, st2⟩ := ih T' locs' (P + 1) _ _ (.val (.int (g P))) (One.val rfl) X' N' (Nat.le_trans Z0 K'.1) (own_add P 1 ▸ D') (own_B_keep B0 K' (ninS hne nin0)) (by omega) (fun j h1 h2 => hneg j (by omega) (by omega)) (by rw [e1]; exact hpos)
    rw [e1] at D2
    exact ⟨T2, locs2, j2, i2, w2, X2, N2, K'.trans K2 (fun x hx => Or.inl hx), D2, fun target kt => st target (st2 target kt)⟩
theorem d4_0 : decode prog_13_method_3_code 0 = .ok (.lconst 0, 1) := by decide +kernel
theorem d4_1 : decode prog_13_method_3_code 1 = .ok (.lstore_n 1, 1) := by decide +kernel
theorem d4_2 : decode prog_13_method_3_code 2 = .ok (.iconst 0, 1) := by decide +kernel
theorem d4_3 : decode prog_13_method_3_code 3 = .ok (.istore_n 3, 1) := by decide +kernel
theorem d4_29 : decode prog_13_method_3_code 29 = .ok (.lload_n 1, 1) := by decide +kernel
theorem d4_30 : decode prog_13_method_3_code 30 = .ok (.lreturn, 1) := by decide +kernel
theorem pn_4 : plainName "com/example/melete/melete/index/Decoder" = true := by first | (simp [plainName, overriddenIn]; done) | decide +kernel
theorem ef_4 (m : MethodId) (x0 : Addr) : entryFrame m #[(.ref x0)] 5 = mkF m 0 #[.val (.ref x0), .unset, .unset, .unset, .unset] [] := by first | (simp [entryFrame, mkF, argsToLocals, Value.category]; done) | rfl
def Q4 (Z : State) (a1 b : Addr) (P k Ln : Nat) (h0 : Heap) (n0 : Nat) (v : Option Value) (h : Heap) (L : List Loc) : Prop := ∃ x : Int64, v = some (.long x) ∧ Fr n0 L ∧ Keep h0 h [a1] ∧ own_D Z h a1 b (Int32.ofNat (P + k + 1)) (Int32.ofNat Ln)
set_option maxRecDepth 65536 in
set_option maxHeartbeats 40000000 in
theorem rm4 (l : Launch) (Z : State) (a0 : Array Value) (hw : ∀ d ∈ tables_1, d.before a0 Z = true) (ws : List Jvm.Cond) (a1 b : Addr) (cl : Cell) (g : Nat → Int32) (P k Ln : Nat) (h0 : Heap) (n0 : Nat) (Z0 : n0 ≤ h0.size) (D0 : own_D Z h0 a1 b (Int32.ofNat P) (Int32.ofNat Ln)) (B0 : own_B Z h0 b cl g) (g_a1 : n0 ≤ a1) (hne : b ≠ a1) (hk : P + k < Ln) (hL : Ln ≤ 3) (hneg : ∀ j, P ≤ j → j < P + k → g j < 0) (hpos : ¬ g (P + k) < 0) :
    MetFree l (⟨"com/example/melete/melete/index/Decoder", "readVarint", "()J"⟩ : MethodName) (head1 (Jvm.Cond.code (⟨"com/example/melete/melete/index/Decoder", "readVarint", "()J"⟩ : MethodName) prog_13_method_3_code 5 (some .long) :: ws) ({ frames := 1, cells := 0, slots := 0, locals := 12 } : Room)) (fun a U => a = #[(.ref a1)] ∧ Z.Warmed39 U.vm ∧ U.heap = h0) (fun _ _ _ _ _ => True) (fun _ U o U' => ∃ v L, o = .returned v ∧ Q4 Z a1 b P k Ln h0 n0 v U'.heap L ∧ FrameEnd U o U' L ({ frames := 1, cells := 0, slots := 0, locals := 12 } : Room).cells ({ frames := 1, cells := 0, slots := 0, locals := 12 } : Room).slots) := by
  refine MetFree.of_bodySF (plainFor_of_name pn_4) hisR ?_
  intro p e s m args below meth c s₁ Bd hml0 hP hK
  obtain ⟨rfl, hZ, hh⟩ := hP
  have hx := Bd.exec
  have hby := Bd.bytes
  have hml : c.maxLocals = 5 := hml0
  have hown : s.vm.findClass "com/example/melete/melete/index/Decoder" = some m.cls := findClass_of_methodNamed Bd.named
  have hnm := (name_of_methodNamed Bd.named Bd.method).1
  have X0 : Stand p l e ({ frames := 1, cells := 0, slots := 0, locals := 12 } : Room) s m #[(.ref a1)] below meth c s₁ [] 0 0 := Stand.of_body Bd
  have e0 : s₁.heap = h0 := by rw [← hh, Bd.state]; rfl
  have N0 := Fr.nil n0
  have pre0 : ∀ t, Steps p.tables e below (s₁.setTop (mkF m 0 #[.val (.ref a1), .unset, .unset, .unset, .unset] [])) t → Steps p.tables e below (s₁.setTop (entryFrame m #[(.ref a1)] 5)) t := fun t k => castTop (ef_4 m a1) k
  obtain ⟨T', locs', j', i', w', X', N', K', D', stl⟩ := own_rv hx hZ hw hby hml hown g_a1 hne hL k s₁ [] P (0 : Int64) (0 : Int32) .unset One.u X0 N0 (by rw [e0]; exact Z0) (by rw [e0]; exact D0) (by rw [e0]; exact B0) hk hneg hpos
  rw [e0] at K'
  obtain ⟨fs, hr, hrun, hended, hW, hsame⟩ := X'.leave (v := some (.long j')) (fun h => by rw [Bd.returns] at h; cases h)
  refine ⟨_, _, pre0 _ ?_, hrun, hended, _, _, rfl, ?_, ⟨_, rfl⟩, hW, hsame.mono (by decide) (by decide)⟩
  · show Steps p.tables e below (s₁.setTop (mkF m 0 #[.val (.ref a1), .unset, .unset, .unset, .unset] [])) _
    refine XS.lconst X0.here hx rfl (hb hby d4_0) ?_
    show Steps p.tables e below (s₁.setTop (mkF m 1 #[.val (.ref a1), .unset, .unset, .unset, .unset] [(.long (0 : Int64))])) _
    refine XS.lstoreN X0.here hx rfl (hb hby d4_1) rfl (l' := #[.val (.ref a1), .val (.long (0 : Int64)), .second, .unset, .unset]) rfl ?_
    show Steps p.tables e below (s₁.setTop (mkF m 2 #[.val (.ref a1), .val (.long (0 : Int64)), .second, .unset, .unset] [])) _
    refine XS.iconst X0.here hx rfl (hb hby d4_2) ?_
    show Steps p.tables e below (s₁.setTop (mkF m 3 #[.val (.ref a1), .val (.long (0 : Int64)), .second, .unset, .unset] [(.int (0 : Int32))])) _
    refine XS.istoreN X0.here hx rfl (hb hby d4_3) rfl (l' := #[.val (.ref a1), .val (.long (0 : Int64)), .second, .val (.int (0 : Int32)), .unset]) rfl ?_
    show Steps p.tables e below (s₁.setTop (mkF m 4 #[.val (.ref a1), .val (.long (0 : Int64)), .second, .val (.int (0 : Int32)), .unset] [])) _
    refine stl _ ?_
    show Steps p.tables e below (T'.setTop (mkF m 29 #[.val (.ref a1), .val (.long j'), .second, .val (.int i'), .val (.int w')] [])) _
    refine XS.lloadN X'.here hx rfl (hb hby d4_29) rfl ?_
    show Steps p.tables e below (T'.setTop (mkF m 30 #[.val (.ref a1), .val (.long j'), .second, .val (.int i'), .val (.int w')] [(.long j')])) _
    jvm_step X'.here [X'.here.top, hx, (hb hby d4_30), X'.method', Bd.returns, narrow]
    first | (intro acts; rw [hr _ acts rfl rfl rfl]) | rw [hr _ _ rfl rfl rfl]
    exact Steps.refl _
  · show Q4 Z a1 b P k Ln h0 n0 _ T'.heap _
    exact ⟨_, rfl, N', K', D'⟩
def Q0 (Z : State) (p1 : Int32) (p2 : Int32) (p3 : Int32) (p4 : Int32) (p5 : Int32) (p6 : Int32) (h0 : Heap) (n0 : Nat) (v : Option Value) (h : Heap) (L : List Loc) : Prop := v = some (.int (1 : Int32)) ∧ Fr n0 L
theorem pn_0 : plainName "com/example/melete/melete/index/DecoderHasRemainingPinLaw" = true := by first | (simp [plainName, overriddenIn]; done) | decide +kernel
theorem pd_0_0 : parseMethodDescriptor "([BII)V" = some ⟨[(.array .byte), .int, .int], none⟩ := by decide +kernel
theorem pd_0_2 : parseMethodDescriptor "()Z" = some ⟨[], some .boolean⟩ := by decide +kernel
theorem ef_0 (m : MethodId) (x0 : Int32) (x1 : Int32) (x2 : Int32) (x3 : Int32) (x4 : Int32) (x5 : Int32) : entryFrame m #[(.int x0), (.int x1), (.int x2), (.int x3), (.int x4), (.int x5)] maxLocals = mkF m 0 #[.val (.int x0), .val (.int x1), .val (.int x2), .val (.int x3), .val (.int x4), .val (.int x5), .unset, .unset, .unset, .unset, .unset, .unset, .unset, .unset] [] := by first | (simp [entryFrame, mkF, argsToLocals, Value.category, maxLocals]; done) | rfl
set_option maxRecDepth 65536 in
set_option maxHeartbeats 40000000 in
theorem rm0a (l : Launch) (Z : State) (a0 : Array Value) (hw : ∀ d ∈ tables_1, d.before a0 Z = true) (ws : List Jvm.Cond) (p1 : Int32) (p2 : Int32) (p3 : Int32) (p4 : Int32) (p5 : Int32) (p6 : Int32) (h0 : Heap) (n0 : Nat) (Z0 : n0 ≤ h0.size) (hc4 : (p6 &&& (1 : Int32)) = (0 : Int32)) :
    MetFree l x (head1 (Jvm.Cond.code x code maxLocals ret :: ws) room_1) (fun a U => a = #[(.int p1), (.int p2), (.int p3), (.int p4), (.int p5), (.int p6)] ∧ Z.Warmed39 U.vm ∧ U.heap = h0) (fun _ _ _ _ _ => True) (fun _ U o U' => ∃ v L, o = .returned v ∧ Q0 Z p1 p2 p3 p4 p5 p6 h0 n0 v U'.heap L ∧ FrameEnd U o U' L room_1.cells room_1.slots) := by
  refine MetFree.of_bodySF (plainFor_of_name pn_0) hisR ?_
  intro p e s m args below meth c s₁ Bd hml0 hP hK
  obtain ⟨rfl, hZ, hh⟩ := hP
  have hx := Bd.exec
  have hby := Bd.bytes
  have hml : c.maxLocals = 14 := hml0
  have hown : s.vm.findClass "com/example/melete/melete/index/DecoderHasRemainingPinLaw" = some m.cls := findClass_of_methodNamed Bd.named
  have hnm := (name_of_methodNamed Bd.named Bd.method).1
  have X0 : Stand p l e room_1 s m #[(.int p1), (.int p2), (.int p3), (.int p4), (.int p5), (.int p6)] below meth c s₁ [] 0 0 := Stand.of_body Bd
  have e0 : s₁.heap = h0 := by rw [← hh, Bd.state]; rfl
  have N0 := Fr.nil n0
  have pre0 : ∀ t, Steps p.tables e below (s₁.setTop (mkF m 0 #[.val (.int p1), .val (.int p2), .val (.int p3), .val (.int p4), .val (.int p5), .val (.int p6), .unset, .unset, .unset, .unset, .unset, .unset, .unset, .unset] [])) t → Steps p.tables e below (s₁.setTop (entryFrame m #[(.int p1), (.int p2), (.int p3), (.int p4), (.int p5), (.int p6)] maxLocals)) t := fun t k => castTop (ef_0 m p1 p2 p3 p4 p5 p6) k
  -- 3. LAWS
  obtain ⟨T7, h7, X7, e7, E7, A7, D7, -, st7⟩ := newO X0 hx hZ hown (hw _ (List.mem_of_getElem? (i := 2) rfl)) (hw _ (List.mem_of_getElem? (i := 3) rfl)) (hw _ (List.mem_of_getElem? (i := 4) rfl)) e0 (g := (mkF m 7 #[.val (.int p1), .val (.int p2), .val (.int p3), .val (.int p4), .val (.int p5), .val (.int p6), .unset, .unset, .unset, .unset, .unset, .unset, .unset, .unset] [])) rfl (hb hby at_7) (by decide) (by decide)
  obtain ⟨b7, g7⟩ : ∃ z, z = h0.size := ⟨_, rfl⟩      -- the fresh object's address
  rw [← g7] at A7 D7 st7      -- A7 : Exa Z h7 b7 "com/example/melete/melete/index/Decoder"; E7 : Ext h0 h7 (carries every older fact: .ext E7)
  have F_bytes_b7 : Fld Z h7 b7 "com/example/melete/melete/index/Decoder" "bytes" "[B" .null := D7 (Or.inr (hw _ (List.mem_of_getElem? (i := 12) rfl))) (ty := (.array .byte)) (by decide)
  have F_position_b7 : Fld Z h7 b7 "com/example/melete/melete/index/Decoder" "position" "I" (.int (0 : Int32)) := D7 (Or.inl (hw _ (List.mem_of_getElem? (i := 14) rfl))) (ty := .int) (by decide)
  have F_limit_b7 : Fld Z h7 b7 "com/example/melete/melete/index/Decoder" "limit" "I" (.int (0 : Int32)) := D7 (Or.inl (hw _ (List.mem_of_getElem? (i := 16) rfl))) (ty := .int) (by decide)
  have F_channel_b7 : Fld Z h7 b7 "com/example/melete/melete/index/Decoder" "channel" "Ljava/nio/channels/FileChannel;" .null := D7 (Or.inr (hw _ (List.mem_of_getElem? (i := 18) rfl))) (ty := (.object "java/nio/channels/FileChannel")) (by decide)
  have F_end_b7 : Fld Z h7 b7 "com/example/melete/melete/index/Decoder" "end" "J" (.long (0 : Int64)) := D7 (Or.inr (hw _ (List.mem_of_getElem? (i := 20) rfl))) (ty := .long) (by decide)
  have F_next_b7 : Fld Z h7 b7 "com/example/melete/melete/index/Decoder" "next" "J" (.long (0 : Int64)) := D7 (Or.inl (hw _ (List.mem_of_getElem? (i := 36) rfl))) (ty := .long) (by decide)
  have E_b7 := A7
  have g_b7 : n0 ≤ b7 := Nat.le_trans Z0 (Nat.le_of_eq g7.symm)
  have sz_b7 : h0.size ≤ b7 := (Nat.le_trans (Keep.refl h0 []).1 (Nat.le_of_eq g7.symm))
  have K7 : Keep h0 h7 [] := (Keep.refl h0 []).ext E7
  obtain ⟨T8, h8, k8, X8, e8, E8, A8, st8⟩ := newP X7 hx hZ (hw _ (List.mem_of_getElem? (i := 1) rfl)) e7 (g := (mkF m 12 #[.val (.int p1), .val (.int p2), .val (.int p3), .val (.int p4), .val (.int p5), .val (.int p6), .unset, .unset, .unset, .unset, .unset, .unset, .unset, .unset] [(.int (3 : Int32)), (.ref b7), (.ref b7)])) rfl (hb hby at_12) rfl (by decide) (cap := 3) (by decide) (by decide) (by decide) (by decide)
  obtain ⟨b8, g8⟩ : ∃ z, z = h7.size := ⟨_, rfl⟩      -- the fresh array's address
  rw [← g8] at A8 st8
  have V_b8 : Arv Z h8 b8 k8 .byte (3 : Int32) [(.int (0 : Int32)), (.int (0 : Int32)), (.int (0 : Int32))] (.int (0 : Int32)) := (Arv.new A8 (by decide)).pad (pad_rep [] (.int (0 : Int32)) 3)
  have g_b8 : n0 ≤ b8 := Nat.le_trans (Nat.le_trans Z0 E7.1) (Nat.le_of_eq g8.symm)
  have sz_b8 : h0.size ≤ b8 := (Nat.le_trans K7.1 (Nat.le_of_eq g8.symm))
  have K8 : Keep h0 h8 [] := K7.ext E8
  -- pc 16: the constructor of com/example/melete/melete/index/Decoder by its contract rm1
  obtain ⟨_, _, ⟨T9, L9, k9, n9⟩, -, X9, ⟨Lc9, hQ9, l9, y9, z9⟩, st9⟩ := X8.specialBack hx (y := (⟨"com/example/melete/melete/index/Decoder", "<init>", "([BII)V"⟩ : MethodName)) rfl hown (mvT hZ (hw _ (List.mem_of_getElem? (i := 5) rfl))) (mvT hZ (hw _ (List.mem_of_getElem? (i := 6) rfl))) (mvT hZ (hw _ (List.mem_of_getElem? (i := 7) rfl))) (by decide) (backOf (W := 1) (rm1 l Z a0 hw [] b7 b8 p1 p2 .null (.int (0 : Int32)) (.int (0 : Int32)) .null (.long (0 : Int64)) h8 n0 (Nat.le_trans Z0 K8.1) (E_b7.ext E8) (F_bytes_b7.ext E8) g_b7 (F_position_b7.ext E8) (F_limit_b7.ext E8) (F_channel_b7.ext E8) (F_end_b7.ext E8) (F_next_b7.ext E8)) hZ (hw _ (List.mem_of_getElem? (i := 7) rfl)) (hw _ (List.mem_of_getElem? (i := 4) rfl)) (by decide) (by decide)) (g := (mkF m 16 #[.val (.int p1), .val (.int p2), .val (.int p3), .val (.int p4), .val (.int p5), .val (.int p6), .unset, .unset, .unset, .unset, .unset, .unset, .unset, .unset] [(.int p2), (.int p1), (.ref b8), (.ref b7), (.ref b7)])) rfl (by rw [hml]; rfl) (Steps.refl _) (a := b7) (argsL := [(.ref b8), (.int p1), (.int p2)]) (rest := [(.ref b7)]) (lenOf pd_0_0 rfl) rfl (by show 2 * 0 + _ ≤ _; exact Nat.le_of_eq rfl) (hb hby at_16) (fun _ _ => ⟨rfl, e8, (by decide : 2 + 0 ≤ _), (by decide : 9 + 0 ≤ _)⟩)
  dsimp only [Pt.U, Pt.locs, Pt.cells, Pt.slots] at X9 l9 y9 z9 st9 hQ9
  subst l9 y9 z9
  obtain ⟨rfl, N9q, K9c, D9⟩ := hQ9
  have Z9 := Nat.le_trans (Nat.le_trans Z0 K8.1) K9c.1
  have N9 := Fr.app N0 N9q
  -- pc 23: com/example/melete/melete/index/Decoder.hasRemaining by the contract of the body that the receiver's class selects, rm3
  obtain ⟨cq10, kq10, q10a, q10b, q10c⟩ := isOf hZ rfl ((E_b7.ext E8).keep K9c)
  obtain ⟨_, _, ⟨T10, L10, k10, n10⟩, -, X10, ⟨Lc10, hQ10, l10, y10, z10⟩, st10⟩ := X9.virtualBack hx (y := (⟨"com/example/melete/melete/index/Decoder", "hasRemaining", "()Z"⟩ : MethodName)) (z := (⟨"com/example/melete/melete/index/Decoder", "hasRemaining", "()Z"⟩ : MethodName)) hown (mvT hZ (hw _ (List.mem_of_getElem? (i := 21) rfl))) (mvT hZ (hw _ (List.mem_of_getElem? (i := 22) rfl))) (notFace_of_selects (args := #[]) (mvT hZ (hw _ (List.mem_of_getElem? (i := 24) rfl)))) (mvT hZ (hw _ (List.mem_of_getElem? (i := 24) rfl))) (mvT hZ (hw _ (List.mem_of_getElem? (i := 23) rfl))) (by decide) (backOf (W := 0) (rm3 l Z a0 hw [] b7 b8 p1 p2 T9.heap n0 Z9 D9) hZ (hw _ (List.mem_of_getElem? (i := 25) rfl)) (hw _ (List.mem_of_getElem? (i := 4) rfl)) (by decide) (by decide)) q10a q10c (g := (mkF m 23 #[.val (.int p1), .val (.int p2), .val (.int p3), .val (.int p4), .val (.int p5), .val (.int p6), .val (.ref b7), .unset, .unset, .unset, .unset, .unset, .unset, .unset] [(.ref b7)])) rfl (by rw [hml]; rfl) (Steps.refl _) (argsL := []) (rest := []) (lenOf pd_0_2 rfl) rfl (by show 2 * 0 + _ ≤ _; exact Nat.le_of_eq rfl) (hb hby at_23) (fun _ _ => ⟨rfl, rfl, (by decide : 2 + 0 ≤ _), (by decide : 9 + 0 ≤ _)⟩)
  dsimp only [Pt.U, Pt.locs, Pt.cells, Pt.slots] at X10 l10 y10 z10 st10 hQ10
  subst l10 y10 z10
  obtain ⟨rfl, N10q, hh10⟩ := hQ10
  have N10 := Fr.app N9 N10q
  obtain ⟨fs, hr, hrun, hended, hW, hsame⟩ := X10.leave (v := some (.int (1 : Int32))) (fun h => by rw [Bd.returns] at h; cases h)
  refine ⟨_, _, pre0 _ ?_, hrun, hended, _, _, rfl, ?_, ⟨_, rfl⟩, hW, hsame.mono (by decide) (by decide)⟩
  · show Steps p.tables e below (s₁.setTop (mkF m 0 #[.val (.int p1), .val (.int p2), .val (.int p3), .val (.int p4), .val (.int p5), .val (.int p6), .unset, .unset, .unset, .unset, .unset, .unset, .unset, .unset] [])) _
    refine XS.iload X0.here hx rfl (hb hby at_0) rfl ?_
    show Steps p.tables e below (s₁.setTop (mkF m 2 #[.val (.int p1), .val (.int p2), .val (.int p3), .val (.int p4), .val (.int p5), .val (.int p6), .unset, .unset, .unset, .unset, .unset, .unset, .unset, .unset] [(.int p6)])) _
    refine XS.iconst X0.here hx rfl (hb hby at_2) ?_
    show Steps p.tables e below (s₁.setTop (mkF m 3 #[.val (.int p1), .val (.int p2), .val (.int p3), .val (.int p4), .val (.int p5), .val (.int p6), .unset, .unset, .unset, .unset, .unset, .unset, .unset, .unset] [(.int (1 : Int32)), (.int p6)])) _
    refine XS.iand X0.here hx rfl (hb hby at_3) rfl ?_
    show Steps p.tables e below (s₁.setTop (mkF m 4 #[.val (.int p1), .val (.int p2), .val (.int p3), .val (.int p4), .val (.int p5), .val (.int p6), .unset, .unset, .unset, .unset, .unset, .unset, .unset, .unset] [(.int (p6 &&& (1 : Int32)))])) _
    refine XS.ifNo X0.here hx rfl (hb hby at_4) rfl ((if0 _ _).trans (teq hc4).2) ?_
    show Steps p.tables e below (s₁.setTop (mkF m 7 #[.val (.int p1), .val (.int p2), .val (.int p3), .val (.int p4), .val (.int p5), .val (.int p6), .unset, .unset, .unset, .unset, .unset, .unset, .unset, .unset] [])) _
    refine st7 _ ?_
    show Steps p.tables e below (T7.setTop (mkF m 10 #[.val (.int p1), .val (.int p2), .val (.int p3), .val (.int p4), .val (.int p5), .val (.int p6), .unset, .unset, .unset, .unset, .unset, .unset, .unset, .unset] [(.ref b7)])) _
    refine XS.dup X7.here hx rfl (hb hby at_10) rfl rfl ?_
    show Steps p.tables e below (T7.setTop (mkF m 11 #[.val (.int p1), .val (.int p2), .val (.int p3), .val (.int p4), .val (.int p5), .val (.int p6), .unset, .unset, .unset, .unset, .unset, .unset, .unset, .unset] [(.ref b7), (.ref b7)])) _
    refine XS.iconst X7.here hx rfl (hb hby at_11) ?_
    show Steps p.tables e below (T7.setTop (mkF m 12 #[.val (.int p1), .val (.int p2), .val (.int p3), .val (.int p4), .val (.int p5), .val (.int p6), .unset, .unset, .unset, .unset, .unset, .unset, .unset, .unset] [(.int (3 : Int32)), (.ref b7), (.ref b7)])) _
    refine st8 _ ?_
    show Steps p.tables e below (T8.setTop (mkF m 14 #[.val (.int p1), .val (.int p2), .val (.int p3), .val (.int p4), .val (.int p5), .val (.int p6), .unset, .unset, .unset, .unset, .unset, .unset, .unset, .unset] [(.ref b8), (.ref b7), (.ref b7)])) _
    refine XS.iloadN X8.here hx rfl (hb hby at_14) rfl ?_
    show Steps p.tables e below (T8.setTop (mkF m 15 #[.val (.int p1), .val (.int p2), .val (.int p3), .val (.int p4), .val (.int p5), .val (.int p6), .unset, .unset, .unset, .unset, .unset, .unset, .unset, .unset] [(.int p1), (.ref b8), (.ref b7), (.ref b7)])) _
    refine XS.iloadN X8.here hx rfl (hb hby at_15) rfl ?_
    show Steps p.tables e below (T8.setTop (mkF m 16 #[.val (.int p1), .val (.int p2), .val (.int p3), .val (.int p4), .val (.int p5), .val (.int p6), .unset, .unset, .unset, .unset, .unset, .unset, .unset, .unset] [(.int p2), (.int p1), (.ref b8), (.ref b7), (.ref b7)])) _
    refine st9.trans ?_
    show Steps p.tables e below (T9.setTop (mkF m 19 #[.val (.int p1), .val (.int p2), .val (.int p3), .val (.int p4), .val (.int p5), .val (.int p6), .unset, .unset, .unset, .unset, .unset, .unset, .unset, .unset] [(.ref b7)])) _
    refine XS.astore X9.here hx rfl (hb hby at_19) rfl rfl (l' := #[.val (.int p1), .val (.int p2), .val (.int p3), .val (.int p4), .val (.int p5), .val (.int p6), .val (.ref b7), .unset, .unset, .unset, .unset, .unset, .unset, .unset]) rfl ?_
    show Steps p.tables e below (T9.setTop (mkF m 21 #[.val (.int p1), .val (.int p2), .val (.int p3), .val (.int p4), .val (.int p5), .val (.int p6), .val (.ref b7), .unset, .unset, .unset, .unset, .unset, .unset, .unset] [])) _
    refine XS.aload X9.here hx rfl (hb hby at_21) rfl rfl ?_
    show Steps p.tables e below (T9.setTop (mkF m 23 #[.val (.int p1), .val (.int p2), .val (.int p3), .val (.int p4), .val (.int p5), .val (.int p6), .val (.ref b7), .unset, .unset, .unset, .unset, .unset, .unset, .unset] [(.ref b7)])) _
    refine st10.trans ?_
    show Steps p.tables e below (T10.setTop (mkF m 26 #[.val (.int p1), .val (.int p2), .val (.int p3), .val (.int p4), .val (.int p5), .val (.int p6), .val (.ref b7), .unset, .unset, .unset, .unset, .unset, .unset, .unset] [(.int (own_r p1 p2))])) _
    refine XS.iloadN X10.here hx rfl (hb hby at_26) rfl ?_
    show Steps p.tables e below (T10.setTop (mkF m 27 #[.val (.int p1), .val (.int p2), .val (.int p3), .val (.int p4), .val (.int p5), .val (.int p6), .val (.ref b7), .unset, .unset, .unset, .unset, .unset, .unset, .unset] [(.int p1), (.int (own_r p1 p2))])) _
    refine XS.iloadN X10.here hx rfl (hb hby at_27) rfl ?_
    show Steps p.tables e below (T10.setTop (mkF m 28 #[.val (.int p1), .val (.int p2), .val (.int p3), .val (.int p4), .val (.int p5), .val (.int p6), .val (.ref b7), .unset, .unset, .unset, .unset, .unset, .unset, .unset] [(.int p2), (.int p1), (.int (own_r p1 p2))])) _
    by_cases hc28 : p1 < p2
    · refine XS.icmpNo X10.here hx rfl (hb hby at_28) rfl (tlt hc28).2.1 ?_
      show Steps p.tables e below (T10.setTop (mkF m 31 #[.val (.int p1), .val (.int p2), .val (.int p3), .val (.int p4), .val (.int p5), .val (.int p6), .val (.ref b7), .unset, .unset, .unset, .unset, .unset, .unset, .unset] [(.int (own_r p1 p2))])) _
      refine XS.iconst X10.here hx rfl (hb hby at_31) ?_
      show Steps p.tables e below (T10.setTop (mkF m 32 #[.val (.int p1), .val (.int p2), .val (.int p3), .val (.int p4), .val (.int p5), .val (.int p6), .val (.ref b7), .unset, .unset, .unset, .unset, .unset, .unset, .unset] [(.int (1 : Int32)), (.int (own_r p1 p2))])) _
      refine XS.goto X10.here hx rfl (pc0 := 32) (pc' := 36) rfl (hb hby at_32) (by decide) (by decide) ?_
      show Steps p.tables e below (T10.setTop (mkF m 36 #[.val (.int p1), .val (.int p2), .val (.int p3), .val (.int p4), .val (.int p5), .val (.int p6), .val (.ref b7), .unset, .unset, .unset, .unset, .unset, .unset, .unset] [(.int (1 : Int32)), (.int (own_r p1 p2))])) _
      have hc36 : (own_r p1 p2) = (1 : Int32) := by simp [own_r, hc28]
      refine XS.icmpNo X10.here hx rfl (hb hby at_36) rfl (teq hc36).2 ?_
      show Steps p.tables e below (T10.setTop (mkF m 39 #[.val (.int p1), .val (.int p2), .val (.int p3), .val (.int p4), .val (.int p5), .val (.int p6), .val (.ref b7), .unset, .unset, .unset, .unset, .unset, .unset, .unset] [])) _
      refine XS.iconst X10.here hx rfl (hb hby at_39) ?_
      show Steps p.tables e below (T10.setTop (mkF m 40 #[.val (.int p1), .val (.int p2), .val (.int p3), .val (.int p4), .val (.int p5), .val (.int p6), .val (.ref b7), .unset, .unset, .unset, .unset, .unset, .unset, .unset] [(.int (1 : Int32))])) _
      refine XS.goto X10.here hx rfl (pc0 := 40) (pc' := 44) rfl (hb hby at_40) (by decide) (by decide) ?_
      show Steps p.tables e below (T10.setTop (mkF m 44 #[.val (.int p1), .val (.int p2), .val (.int p3), .val (.int p4), .val (.int p5), .val (.int p6), .val (.ref b7), .unset, .unset, .unset, .unset, .unset, .unset, .unset] [(.int (1 : Int32))])) _
      exact retN X10 hx (t := .boolean) Bd.returns (by simp) (hb hby at_44) hr
    · refine XS.icmpYes X10.here hx rfl (pc0 := 28) (pc' := 35) rfl (hb hby at_28) rfl (flt hc28).2.1 (by decide) (by decide) ?_
      show Steps p.tables e below (T10.setTop (mkF m 35 #[.val (.int p1), .val (.int p2), .val (.int p3), .val (.int p4), .val (.int p5), .val (.int p6), .val (.ref b7), .unset, .unset, .unset, .unset, .unset, .unset, .unset] [(.int (own_r p1 p2))])) _
      refine XS.iconst X10.here hx rfl (hb hby at_35) ?_
      show Steps p.tables e below (T10.setTop (mkF m 36 #[.val (.int p1), .val (.int p2), .val (.int p3), .val (.int p4), .val (.int p5), .val (.int p6), .val (.ref b7), .unset, .unset, .unset, .unset, .unset, .unset, .unset] [(.int (0 : Int32)), (.int (own_r p1 p2))])) _
      have hc36 : (own_r p1 p2) = (0 : Int32) := by simp [own_r, hc28]
      refine XS.icmpNo X10.here hx rfl (hb hby at_36) rfl (teq hc36).2 ?_
      show Steps p.tables e below (T10.setTop (mkF m 39 #[.val (.int p1), .val (.int p2), .val (.int p3), .val (.int p4), .val (.int p5), .val (.int p6), .val (.ref b7), .unset, .unset, .unset, .unset, .unset, .unset, .unset] [])) _
      refine XS.iconst X10.here hx rfl (hb hby at_39) ?_
      show Steps p.tables e below (T10.setTop (mkF m 40 #[.val (.int p1), .val (.int p2), .val (.int p3), .val (.int p4), .val (.int p5), .val (.int p6), .val (.ref b7), .unset, .unset, .unset, .unset, .unset, .unset, .unset] [(.int (1 : Int32))])) _
      refine XS.goto X10.here hx rfl (pc0 := 40) (pc' := 44) rfl (hb hby at_40) (by decide) (by decide) ?_
      show Steps p.tables e below (T10.setTop (mkF m 44 #[.val (.int p1), .val (.int p2), .val (.int p3), .val (.int p4), .val (.int p5), .val (.int p6), .val (.ref b7), .unset, .unset, .unset, .unset, .unset, .unset, .unset] [(.int (1 : Int32))])) _
      exact retN X10 hx (t := .boolean) Bd.returns (by simp) (hb hby at_44) hr
  · show Q0 Z p1 p2 p3 p4 p5 p6 h0 n0 _ T10.heap _
    exact ⟨rfl, N10⟩
theorem pd_0_3 : parseMethodDescriptor "()J" = some ⟨[], some .long⟩ := by decide +kernel
theorem own_getD (vs : List Value) (i : Nat) (v d : Value) (h : i < vs.length) : (vs.set i v).getD i d = v := by
  rw [List.getD_eq_getElem?_getD, List.getElem?_set_self h]; rfl
theorem own_s1 {sN : Nat} : (Int32.ofNat sN) + (1 : Int32) = Int32.ofNat (sN + 1) := own_add sN 1
theorem own_p0 {sN : Nat} : ((Int32.ofNat sN) + (1 : Int32)) = Int32.ofNat (sN + 0 + 1) := own_add sN 1
theorem own_p1 {sN : Nat} : ((Int32.ofNat sN) + (2 : Int32)) = Int32.ofNat (sN + 1 + 1) := own_add sN 2
theorem own_p2 {sN : Nat} : ((Int32.ofNat sN) + (3 : Int32)) = Int32.ofNat (sN + 2 + 1) := own_add sN 3
set_option maxRecDepth 65536 in
set_option maxHeartbeats 40000000 in
theorem rm0b (l : Launch) (Z : State) (a0 : Array Value) (hw : ∀ d ∈ tables_1, d.before a0 Z = true) (ws : List Jvm.Cond) (p1 : Int32) (p2 : Int32) (p3 : Int32) (p4 : Int32) (p5 : Int32) (p6 : Int32) (h0 : Heap) (n0 : Nat) (Z0 : n0 ≤ h0.size) (hc4 : ¬ ((p6 &&& (1 : Int32)) = (0 : Int32))) :
    MetFree l x (head1 (Jvm.Cond.code x code maxLocals ret :: ws) room_1) (fun a U => a = #[(.int p1), (.int p2), (.int p3), (.int p4), (.int p5), (.int p6)] ∧ Z.Warmed39 U.vm ∧ U.heap = h0) (fun _ _ _ _ _ => True) (fun _ U o U' => ∃ v L, o = .returned v ∧ Q0 Z p1 p2 p3 p4 p5 p6 h0 n0 v U'.heap L ∧ FrameEnd U o U' L room_1.cells room_1.slots) := by
  refine MetFree.of_bodySF (plainFor_of_name pn_0) hisR ?_
  intro p e s m args below meth c s₁ Bd hml0 hP hK
  obtain ⟨rfl, hZ, hh⟩ := hP
  have hx := Bd.exec
  have hby := Bd.bytes
  have hml : c.maxLocals = 14 := hml0
  have hown : s.vm.findClass "com/example/melete/melete/index/DecoderHasRemainingPinLaw" = some m.cls := findClass_of_methodNamed Bd.named
  have hnm := (name_of_methodNamed Bd.named Bd.method).1
  have X0 : Stand p l e room_1 s m #[(.int p1), (.int p2), (.int p3), (.int p4), (.int p5), (.int p6)] below meth c s₁ [] 0 0 := Stand.of_body Bd
  have e0 : s₁.heap = h0 := by rw [← hh, Bd.state]; rfl
  have N0 := Fr.nil n0
  have pre0 : ∀ t, Steps p.tables e below (s₁.setTop (mkF m 0 #[.val (.int p1), .val (.int p2), .val (.int p3), .val (.int p4), .val (.int p5), .val (.int p6), .unset, .unset, .unset, .unset, .unset, .unset, .unset, .unset] [])) t → Steps p.tables e below (s₁.setTop (entryFrame m #[(.int p1), (.int p2), (.int p3), (.int p4), (.int p5), (.int p6)] maxLocals)) t := fun t k => castTop (ef_0 m p1 p2 p3 p4 p5 p6) k
  obtain ⟨sN, lN, hs4, hl3, eS, hnz61', eL⟩ := own_se p1 p2
  obtain ⟨eN, heN⟩ : ∃ eN : Nat, eN = sN + lN := ⟨_, rfl⟩
  have preh : ∀ t, Steps p.tables e below (s₁.setTop (mkF m 71 #[.val (.int p1), .val (.int p2), .val (.int p3), .val (.int p4), .val (.int p5), .val (.int p6), .val (.int (Int32.ofNat sN)), .val (.int (Int32.ofNat lN)), .val (.int (Int32.ofNat eN)), .unset, .unset, .unset, .unset, .unset] [])) t → Steps p.tables e below (s₁.setTop (mkF m 0 #[.val (.int p1), .val (.int p2), .val (.int p3), .val (.int p4), .val (.int p5), .val (.int p6), .unset, .unset, .unset, .unset, .unset, .unset, .unset, .unset] [])) t := by
    intro t kt
    have hnz50 : ¬ ((4 : Int32) = (0 : Int32)) := by decide
    have hnz61 : ¬ (((4 : Int32) - ((p1 &&& (2147483647 : Int32)) % (4 : Int32))) = (0 : Int32)) := by rw [eS]; exact hnz61'
    show Steps p.tables e below (s₁.setTop (mkF m 0 #[.val (.int p1), .val (.int p2), .val (.int p3), .val (.int p4), .val (.int p5), .val (.int p6), .unset, .unset, .unset, .unset, .unset, .unset, .unset, .unset] [])) _
    refine XS.iload X0.here hx rfl (hb hby at_0) rfl ?_
    show Steps p.tables e below (s₁.setTop (mkF m 2 #[.val (.int p1), .val (.int p2), .val (.int p3), .val (.int p4), .val (.int p5), .val (.int p6), .unset, .unset, .unset, .unset, .unset, .unset, .unset, .unset] [(.int p6)])) _
    refine XS.iconst X0.here hx rfl (hb hby at_2) ?_
    show Steps p.tables e below (s₁.setTop (mkF m 3 #[.val (.int p1), .val (.int p2), .val (.int p3), .val (.int p4), .val (.int p5), .val (.int p6), .unset, .unset, .unset, .unset, .unset, .unset, .unset, .unset] [(.int (1 : Int32)), (.int p6)])) _
    refine XS.iand X0.here hx rfl (hb hby at_3) rfl ?_
    show Steps p.tables e below (s₁.setTop (mkF m 4 #[.val (.int p1), .val (.int p2), .val (.int p3), .val (.int p4), .val (.int p5), .val (.int p6), .unset, .unset, .unset, .unset, .unset, .unset, .unset, .unset] [(.int (p6 &&& (1 : Int32)))])) _
    refine XS.ifYes X0.here hx rfl (pc0 := 4) (pc' := 45) rfl (hb hby at_4) rfl ((if0 _ _).trans (feq hc4).2) (by decide) (by decide) ?_
    show Steps p.tables e below (s₁.setTop (mkF m 45 #[.val (.int p1), .val (.int p2), .val (.int p3), .val (.int p4), .val (.int p5), .val (.int p6), .unset, .unset, .unset, .unset, .unset, .unset, .unset, .unset] [])) _
    refine XS.iloadN X0.here hx rfl (hb hby at_45) rfl ?_
    show Steps p.tables e below (s₁.setTop (mkF m 46 #[.val (.int p1), .val (.int p2), .val (.int p3), .val (.int p4), .val (.int p5), .val (.int p6), .unset, .unset, .unset, .unset, .unset, .unset, .unset, .unset] [(.int p1)])) _
    refine X0.ldcInt hx hown (mvT hZ (hw _ (List.mem_of_getElem? (i := 0) rfl))) (g := (mkF m 46 #[.val (.int p1), .val (.int p2), .val (.int p3), .val (.int p4), .val (.int p5), .val (.int p6), .unset, .unset, .unset, .unset, .unset, .unset, .unset, .unset] [(.int p1)])) rfl (hb hby at_46) _ ?_
    show Steps p.tables e below (s₁.setTop (mkF m 48 #[.val (.int p1), .val (.int p2), .val (.int p3), .val (.int p4), .val (.int p5), .val (.int p6), .unset, .unset, .unset, .unset, .unset, .unset, .unset, .unset] [(.int (2147483647 : Int32)), (.int p1)])) _
    refine XS.iand X0.here hx rfl (hb hby at_48) rfl ?_
    show Steps p.tables e below (s₁.setTop (mkF m 49 #[.val (.int p1), .val (.int p2), .val (.int p3), .val (.int p4), .val (.int p5), .val (.int p6), .unset, .unset, .unset, .unset, .unset, .unset, .unset, .unset] [(.int (p1 &&& (2147483647 : Int32)))])) _
    refine XS.iconst X0.here hx rfl (hb hby at_49) ?_
    show Steps p.tables e below (s₁.setTop (mkF m 50 #[.val (.int p1), .val (.int p2), .val (.int p3), .val (.int p4), .val (.int p5), .val (.int p6), .unset, .unset, .unset, .unset, .unset, .unset, .unset, .unset] [(.int (4 : Int32)), (.int (p1 &&& (2147483647 : Int32)))])) _
    refine iremM X0 hx rfl (hb hby at_50) rfl hnz50 ?_
    show Steps p.tables e below (s₁.setTop (mkF m 51 #[.val (.int p1), .val (.int p2), .val (.int p3), .val (.int p4), .val (.int p5), .val (.int p6), .unset, .unset, .unset, .unset, .unset, .unset, .unset, .unset] [(.int ((p1 &&& (2147483647 : Int32)) % (4 : Int32)))])) _
    refine XS.istore X0.here hx rfl (hb hby at_51) rfl (l' := #[.val (.int p1), .val (.int p2), .val (.int p3), .val (.int p4), .val (.int p5), .val (.int p6), .val (.int ((p1 &&& (2147483647 : Int32)) % (4 : Int32))), .unset, .unset, .unset, .unset, .unset, .unset, .unset]) rfl ?_
    show Steps p.tables e below (s₁.setTop (mkF m 53 #[.val (.int p1), .val (.int p2), .val (.int p3), .val (.int p4), .val (.int p5), .val (.int p6), .val (.int ((p1 &&& (2147483647 : Int32)) % (4 : Int32))), .unset, .unset, .unset, .unset, .unset, .unset, .unset] [])) _
    refine XS.iloadN X0.here hx rfl (hb hby at_53) rfl ?_
    show Steps p.tables e below (s₁.setTop (mkF m 54 #[.val (.int p1), .val (.int p2), .val (.int p3), .val (.int p4), .val (.int p5), .val (.int p6), .val (.int ((p1 &&& (2147483647 : Int32)) % (4 : Int32))), .unset, .unset, .unset, .unset, .unset, .unset, .unset] [(.int p2)])) _
    refine X0.ldcInt hx hown (mvT hZ (hw _ (List.mem_of_getElem? (i := 0) rfl))) (g := (mkF m 54 #[.val (.int p1), .val (.int p2), .val (.int p3), .val (.int p4), .val (.int p5), .val (.int p6), .val (.int ((p1 &&& (2147483647 : Int32)) % (4 : Int32))), .unset, .unset, .unset, .unset, .unset, .unset, .unset] [(.int p2)])) rfl (hb hby at_54) _ ?_
    show Steps p.tables e below (s₁.setTop (mkF m 56 #[.val (.int p1), .val (.int p2), .val (.int p3), .val (.int p4), .val (.int p5), .val (.int p6), .val (.int ((p1 &&& (2147483647 : Int32)) % (4 : Int32))), .unset, .unset, .unset, .unset, .unset, .unset, .unset] [(.int (2147483647 : Int32)), (.int p2)])) _
    refine XS.iand X0.here hx rfl (hb hby at_56) rfl ?_
    show Steps p.tables e below (s₁.setTop (mkF m 57 #[.val (.int p1), .val (.int p2), .val (.int p3), .val (.int p4), .val (.int p5), .val (.int p6), .val (.int ((p1 &&& (2147483647 : Int32)) % (4 : Int32))), .unset, .unset, .unset, .unset, .unset, .unset, .unset] [(.int (p2 &&& (2147483647 : Int32)))])) _
    refine XS.iconst X0.here hx rfl (hb hby at_57) ?_
    show Steps p.tables e below (s₁.setTop (mkF m 58 #[.val (.int p1), .val (.int p2), .val (.int p3), .val (.int p4), .val (.int p5), .val (.int p6), .val (.int ((p1 &&& (2147483647 : Int32)) % (4 : Int32))), .unset, .unset, .unset, .unset, .unset, .unset, .unset] [(.int (4 : Int32)), (.int (p2 &&& (2147483647 : Int32)))])) _
    refine XS.iload X0.here hx rfl (hb hby at_58) rfl ?_
    show Steps p.tables e below (s₁.setTop (mkF m 60 #[.val (.int p1), .val (.int p2), .val (.int p3), .val (.int p4), .val (.int p5), .val (.int p6), .val (.int ((p1 &&& (2147483647 : Int32)) % (4 : Int32))), .unset, .unset, .unset, .unset, .unset, .unset, .unset] [(.int ((p1 &&& (2147483647 : Int32)) % (4 : Int32))), (.int (4 : Int32)), (.int (p2 &&& (2147483647 : Int32)))])) _
    refine XS.isub X0.here hx rfl (hb hby at_60) rfl ?_
    show Steps p.tables e below (s₁.setTop (mkF m 61 #[.val (.int p1), .val (.int p2), .val (.int p3), .val (.int p4), .val (.int p5), .val (.int p6), .val (.int ((p1 &&& (2147483647 : Int32)) % (4 : Int32))), .unset, .unset, .unset, .unset, .unset, .unset, .unset] [(.int ((4 : Int32) - ((p1 &&& (2147483647 : Int32)) % (4 : Int32)))), (.int (p2 &&& (2147483647 : Int32)))])) _
    refine iremM X0 hx rfl (hb hby at_61) rfl hnz61 ?_
    show Steps p.tables e below (s₁.setTop (mkF m 62 #[.val (.int p1), .val (.int p2), .val (.int p3), .val (.int p4), .val (.int p5), .val (.int p6), .val (.int ((p1 &&& (2147483647 : Int32)) % (4 : Int32))), .unset, .unset, .unset, .unset, .unset, .unset, .unset] [(.int ((p2 &&& (2147483647 : Int32)) % ((4 : Int32) - ((p1 &&& (2147483647 : Int32)) % (4 : Int32)))))])) _
    refine XS.istore X0.here hx rfl (hb hby at_62) rfl (l' := #[.val (.int p1), .val (.int p2), .val (.int p3), .val (.int p4), .val (.int p5), .val (.int p6), .val (.int ((p1 &&& (2147483647 : Int32)) % (4 : Int32))), .val (.int ((p2 &&& (2147483647 : Int32)) % ((4 : Int32) - ((p1 &&& (2147483647 : Int32)) % (4 : Int32))))), .unset, .unset, .unset, .unset, .unset, .unset]) rfl ?_
    show Steps p.tables e below (s₁.setTop (mkF m 64 #[.val (.int p1), .val (.int p2), .val (.int p3), .val (.int p4), .val (.int p5), .val (.int p6), .val (.int ((p1 &&& (2147483647 : Int32)) % (4 : Int32))), .val (.int ((p2 &&& (2147483647 : Int32)) % ((4 : Int32) - ((p1 &&& (2147483647 : Int32)) % (4 : Int32))))), .unset, .unset, .unset, .unset, .unset, .unset] [])) _
    refine XS.iload X0.here hx rfl (hb hby at_64) rfl ?_
    show Steps p.tables e below (s₁.setTop (mkF m 66 #[.val (.int p1), .val (.int p2), .val (.int p3), .val (.int p4), .val (.int p5), .val (.int p6), .val (.int ((p1 &&& (2147483647 : Int32)) % (4 : Int32))), .val (.int ((p2 &&& (2147483647 : Int32)) % ((4 : Int32) - ((p1 &&& (2147483647 : Int32)) % (4 : Int32))))), .unset, .unset, .unset, .unset, .unset, .unset] [(.int ((p1 &&& (2147483647 : Int32)) % (4 : Int32)))])) _
    refine XS.iload X0.here hx rfl (hb hby at_66) rfl ?_
    show Steps p.tables e below (s₁.setTop (mkF m 68 #[.val (.int p1), .val (.int p2), .val (.int p3), .val (.int p4), .val (.int p5), .val (.int p6), .val (.int ((p1 &&& (2147483647 : Int32)) % (4 : Int32))), .val (.int ((p2 &&& (2147483647 : Int32)) % ((4 : Int32) - ((p1 &&& (2147483647 : Int32)) % (4 : Int32))))), .unset, .unset, .unset, .unset, .unset, .unset] [(.int ((p2 &&& (2147483647 : Int32)) % ((4 : Int32) - ((p1 &&& (2147483647 : Int32)) % (4 : Int32))))), (.int ((p1 &&& (2147483647 : Int32)) % (4 : Int32)))])) _
    refine XS.iadd X0.here hx rfl (hb hby at_68) rfl ?_
    show Steps p.tables e below (s₁.setTop (mkF m 69 #[.val (.int p1), .val (.int p2), .val (.int p3), .val (.int p4), .val (.int p5), .val (.int p6), .val (.int ((p1 &&& (2147483647 : Int32)) % (4 : Int32))), .val (.int ((p2 &&& (2147483647 : Int32)) % ((4 : Int32) - ((p1 &&& (2147483647 : Int32)) % (4 : Int32))))), .unset, .unset, .unset, .unset, .unset, .unset] [(.int (((p1 &&& (2147483647 : Int32)) % (4 : Int32)) + ((p2 &&& (2147483647 : Int32)) % ((4 : Int32) - ((p1 &&& (2147483647 : Int32)) % (4 : Int32))))))])) _
    refine XS.istore X0.here hx rfl (hb hby at_69) rfl (l' := #[.val (.int p1), .val (.int p2), .val (.int p3), .val (.int p4), .val (.int p5), .val (.int p6), .val (.int ((p1 &&& (2147483647 : Int32)) % (4 : Int32))), .val (.int ((p2 &&& (2147483647 : Int32)) % ((4 : Int32) - ((p1 &&& (2147483647 : Int32)) % (4 : Int32))))), .val (.int (((p1 &&& (2147483647 : Int32)) % (4 : Int32)) + ((p2 &&& (2147483647 : Int32)) % ((4 : Int32) - ((p1 &&& (2147483647 : Int32)) % (4 : Int32)))))), .unset, .unset, .unset, .unset, .unset]) rfl ?_
    show Steps p.tables e below (s₁.setTop (mkF m 71 #[.val (.int p1), .val (.int p2), .val (.int p3), .val (.int p4), .val (.int p5), .val (.int p6), .val (.int ((p1 &&& (2147483647 : Int32)) % (4 : Int32))), .val (.int ((p2 &&& (2147483647 : Int32)) % ((4 : Int32) - ((p1 &&& (2147483647 : Int32)) % (4 : Int32))))), .val (.int (((p1 &&& (2147483647 : Int32)) % (4 : Int32)) + ((p2 &&& (2147483647 : Int32)) % ((4 : Int32) - ((p1 &&& (2147483647 : Int32)) % (4 : Int32)))))), .unset, .unset, .unset, .unset, .unset] [])) _
    rw [eS, eL, own_add, ← heN]
    exact kt
  by_cases hc99 : (Int32.ofNat sN) < (Int32.ofNat eN)
  · have hse : sN < eN := (own_lt (by omega) (by omega)).mp hc99
    obtain ⟨T7, h7, k7, X7, e7, E7, A7, st7⟩ := newP X0 hx hZ (hw _ (List.mem_of_getElem? (i := 1) rfl)) e0 (g := (mkF m 72 #[.val (.int p1), .val (.int p2), .val (.int p3), .val (.int p4), .val (.int p5), .val (.int p6), .val (.int (Int32.ofNat sN)), .val (.int (Int32.ofNat lN)), .val (.int (Int32.ofNat eN)), .unset, .unset, .unset, .unset, .unset] [(.int (3 : Int32))])) rfl (hb hby at_72) rfl (by decide) (cap := 3) (by decide) (by decide) (by decide) (by decide)
    obtain ⟨b7, g7⟩ : ∃ z, z = h0.size := ⟨_, rfl⟩      -- the fresh array's address
    rw [← g7] at A7 st7
    have V_b7 : Arv Z h7 b7 k7 .byte (3 : Int32) [(.int (0 : Int32)), (.int (0 : Int32)), (.int (0 : Int32))] (.int (0 : Int32)) := (Arv.new A7 (by decide)).pad (pad_rep [] (.int (0 : Int32)) 3)
    have g_b7 : n0 ≤ b7 := Nat.le_trans Z0 (Nat.le_of_eq g7.symm)
    have sz_b7 : h0.size ≤ b7 := (Nat.le_trans (Keep.refl h0 []).1 (Nat.le_of_eq g7.symm))
    have K7 : Keep h0 h7 [] := (Keep.refl h0 []).ext E7
    obtain ⟨cl_b7_81, Ar_b7, q_b7, S_b7, N_b7, H_b7, G_b7⟩ := V_b7      -- open the array's fact as it stands now (its cell, kind, length, elements)
    have hin81 : ¬ ((0 : Int32) < 0 ∨ cl_b7_81.slots.size ≤ ((0 : Int32)).toNatClampNeg) := inb_of S_b7 ⟨by decide, by decide⟩
    obtain ⟨T8, h8, X8, e8, W8, st8⟩ := stB X7 hx hZ e7 Ar_b7 (j := (0 : Int32)) hin81 (g := (mkF m 81 #[.val (.int p1), .val (.int p2), .val (.int p3), .val (.int p4), .val (.int p5), .val (.int p6), .val (.int (Int32.ofNat sN)), .val (.int (Int32.ofNat lN)), .val (.int (Int32.ofNat eN)), .val (.ref b7), .unset, .unset, .unset, .unset] [(.int (p3.toInt8.toInt32)), (.int (0 : Int32)), (.ref b7)])) rfl rfl (hb hby at_81)
    have V_b7_8 := Arv.set Ar_b7 q_b7 S_b7 N_b7 H_b7 G_b7 (fits_nar_byte _) W8 0 rfl (Nat.le_of_ble_eq_true rfl)      -- the array as it stands now (the place must lie among its first values: Arv.pad with pad_rep lengthens them)
    have K8 : Keep h0 h8 [] := K7.wr W8 (Or.inr sz_b7)
    have N8 := Fr.snoc X8 N0 g_b7
    -- (bastore into a boolean[]: stZ in stB's place)
    obtain ⟨cl_b7_87, Ar_b7, q_b7, S_b7, N_b7, H_b7, G_b7⟩ := V_b7_8      -- open the array's fact as it stands now (its cell, kind, length, elements)
    have hin87 : ¬ ((1 : Int32) < 0 ∨ cl_b7_87.slots.size ≤ ((1 : Int32)).toNatClampNeg) := inb_of S_b7 ⟨by decide, by decide⟩
    obtain ⟨T9, h9, X9, e9, W9, st9⟩ := stB X8 hx hZ e8 Ar_b7 (j := (1 : Int32)) hin87 (g := (mkF m 87 #[.val (.int p1), .val (.int p2), .val (.int p3), .val (.int p4), .val (.int p5), .val (.int p6), .val (.int (Int32.ofNat sN)), .val (.int (Int32.ofNat lN)), .val (.int (Int32.ofNat eN)), .val (.ref b7), .unset, .unset, .unset, .unset] [(.int (p4.toInt8.toInt32)), (.int (1 : Int32)), (.ref b7)])) rfl rfl (hb hby at_87)
    have V_b7_9 := Arv.set Ar_b7 q_b7 S_b7 N_b7 H_b7 G_b7 (fits_nar_byte _) W9 1 rfl (Nat.le_of_ble_eq_true rfl)      -- the array as it stands now (the place must lie among its first values: Arv.pad with pad_rep lengthens them)
    have K9 : Keep h0 h9 [] := K8.wr W9 (Or.inr sz_b7)
    have N9 := Fr.snoc X9 N8 g_b7
    -- (bastore into a boolean[]: stZ in stB's place)
    obtain ⟨cl_b7_94, Ar_b7, q_b7, S_b7, N_b7, H_b7, G_b7⟩ := V_b7_9      -- open the array's fact as it stands now (its cell, kind, length, elements)
    have hin94 : ¬ ((2 : Int32) < 0 ∨ cl_b7_94.slots.size ≤ ((2 : Int32)).toNatClampNeg) := inb_of S_b7 ⟨by decide, by decide⟩
    obtain ⟨T10, h10, X10, e10, W10, st10⟩ := stB X9 hx hZ e9 Ar_b7 (j := (2 : Int32)) hin94 (g := (mkF m 94 #[.val (.int p1), .val (.int p2), .val (.int p3), .val (.int p4), .val (.int p5), .val (.int p6), .val (.int (Int32.ofNat sN)), .val (.int (Int32.ofNat lN)), .val (.int (Int32.ofNat eN)), .val (.ref b7), .unset, .unset, .unset, .unset] [(.int (p5.toInt8.toInt32)), (.int (2 : Int32)), (.ref b7)])) rfl rfl (hb hby at_94)
    have V_b7_10 := Arv.set Ar_b7 q_b7 S_b7 N_b7 H_b7 G_b7 (fits_nar_byte _) W10 2 rfl (Nat.le_of_ble_eq_true rfl)      -- the array as it stands now (the place must lie among its first values: Arv.pad with pad_rep lengthens them)
    have K10 : Keep h0 h10 [] := K9.wr W10 (Or.inr sz_b7)
    have N10 := Fr.snoc X10 N9 g_b7
    -- (bastore into a boolean[]: stZ in stB's place)
    obtain ⟨clw, gw, Bw, -⟩ := own_open V_b7_10
    have hin114 : ¬ (((Int32.ofNat eN) - (1 : Int32)) < 0 ∨ clw.slots.size ≤ ((Int32.ofNat eN) - (1 : Int32)).toNatClampNeg) := by rw [own_dec (by omega) (by omega)]; exact own_in Bw.2.1 (by omega)
    have hat114 : clw.slots[((Int32.ofNat eN) - (1 : Int32)).toNatClampNeg]? = some (.int (gw (eN - 1))) := by rw [own_dec (by omega) (by omega)]; exact own_at Bw (by omega)
    obtain ⟨cl_b7_119, Ar_b7, q_b7, S_b7, N_b7, H_b7, G_b7⟩ := V_b7_10      -- open the array's fact as it stands now (its cell, kind, length, elements)
    have S3 : cl_b7_119.slots.size = 3 := by rw [S_b7]; decide
    have hin119 : ¬ (((Int32.ofNat eN) - (1 : Int32)) < 0 ∨ cl_b7_119.slots.size ≤ (((Int32.ofNat eN) - (1 : Int32))).toNatClampNeg) := by rw [own_dec (by omega) (by omega)]; exact own_in S3 (by omega)
    obtain ⟨T12, h12, X12, e12, W12, st12⟩ := stB X10 hx hZ e10 Ar_b7 (j := ((Int32.ofNat eN) - (1 : Int32))) hin119 (g := (mkF m 119 #[.val (.int p1), .val (.int p2), .val (.int p3), .val (.int p4), .val (.int p5), .val (.int p6), .val (.int (Int32.ofNat sN)), .val (.int (Int32.ofNat lN)), .val (.int (Int32.ofNat eN)), .val (.ref b7), .unset, .unset, .unset, .unset] [(.int (((gw (eN - 1)) &&& (127 : Int32)).toInt8.toInt32)), (.int ((Int32.ofNat eN) - (1 : Int32))), (.ref b7)])) rfl rfl (hb hby at_119)
    have V_b7_12 := Arv.set Ar_b7 q_b7 S_b7 N_b7 H_b7 G_b7 (fits_nar_byte _) W12 (eN - 1) (by rw [own_dec (by omega) (by omega)]; exact own_n (by omega)) (show eN - 1 < 3 by omega)      -- the array as it stands now (the place must lie among its first values: Arv.pad with pad_rep lengthens them)
    have K12 : Keep h0 h12 [] := K10.wr W12 (Or.inr sz_b7)
    have N12 := Fr.snoc X12 N10 g_b7
    -- (bastore into a boolean[]: stZ in stB's place)
    obtain ⟨T13, h13, X13, e13, E13, A13, D13, -, st13⟩ := newO X12 hx hZ hown (hw _ (List.mem_of_getElem? (i := 2) rfl)) (hw _ (List.mem_of_getElem? (i := 3) rfl)) (hw _ (List.mem_of_getElem? (i := 4) rfl)) e12 (g := (mkF m 120 #[.val (.int p1), .val (.int p2), .val (.int p3), .val (.int p4), .val (.int p5), .val (.int p6), .val (.int (Int32.ofNat sN)), .val (.int (Int32.ofNat lN)), .val (.int (Int32.ofNat eN)), .val (.ref b7), .unset, .unset, .unset, .unset] [])) rfl (hb hby at_120) (by decide) (by decide)
    obtain ⟨b13, g13⟩ : ∃ z, z = h12.size := ⟨_, rfl⟩      -- the fresh object's address
    rw [← g13] at A13 D13 st13      -- A13 : Exa Z h13 b13 "com/example/melete/melete/index/Decoder"; E13 : Ext h12 h13 (carries every older fact: .ext E13)
    have F_bytes_b13 : Fld Z h13 b13 "com/example/melete/melete/index/Decoder" "bytes" "[B" .null := D13 (Or.inr (hw _ (List.mem_of_getElem? (i := 12) rfl))) (ty := (.array .byte)) (by decide)
    have F_position_b13 : Fld Z h13 b13 "com/example/melete/melete/index/Decoder" "position" "I" (.int (0 : Int32)) := D13 (Or.inl (hw _ (List.mem_of_getElem? (i := 14) rfl))) (ty := .int) (by decide)
    have F_limit_b13 : Fld Z h13 b13 "com/example/melete/melete/index/Decoder" "limit" "I" (.int (0 : Int32)) := D13 (Or.inl (hw _ (List.mem_of_getElem? (i := 16) rfl))) (ty := .int) (by decide)
    have F_channel_b13 : Fld Z h13 b13 "com/example/melete/melete/index/Decoder" "channel" "Ljava/nio/channels/FileChannel;" .null := D13 (Or.inr (hw _ (List.mem_of_getElem? (i := 18) rfl))) (ty := (.object "java/nio/channels/FileChannel")) (by decide)
    have F_end_b13 : Fld Z h13 b13 "com/example/melete/melete/index/Decoder" "end" "J" (.long (0 : Int64)) := D13 (Or.inr (hw _ (List.mem_of_getElem? (i := 20) rfl))) (ty := .long) (by decide)
    have F_next_b13 : Fld Z h13 b13 "com/example/melete/melete/index/Decoder" "next" "J" (.long (0 : Int64)) := D13 (Or.inl (hw _ (List.mem_of_getElem? (i := 36) rfl))) (ty := .long) (by decide)
    have E_b13 := A13
    have g_b13 : n0 ≤ b13 := Nat.le_trans (Nat.le_trans (Nat.le_trans (Nat.le_trans (Nat.le_trans (Nat.le_trans Z0 E7.1) (Keep.of_wr W8).1) (Keep.of_wr W9).1) (Keep.of_wr W10).1) (Keep.of_wr W12).1) (Nat.le_of_eq g13.symm)
    have sz_b13 : h0.size ≤ b13 := (Nat.le_trans K12.1 (Nat.le_of_eq g13.symm))
    have K13 : Keep h0 h13 [] := K12.ext E13
    -- pc 130: the constructor of com/example/melete/melete/index/Decoder by its contract rm1
    obtain ⟨_, _, ⟨T14, L14, k14, n14⟩, -, X14, ⟨Lc14, hQ14, l14, y14, z14⟩, st14⟩ := X13.specialBack hx (y := (⟨"com/example/melete/melete/index/Decoder", "<init>", "([BII)V"⟩ : MethodName)) rfl hown (mvT hZ (hw _ (List.mem_of_getElem? (i := 5) rfl))) (mvT hZ (hw _ (List.mem_of_getElem? (i := 6) rfl))) (mvT hZ (hw _ (List.mem_of_getElem? (i := 7) rfl))) (by decide) (backOf (W := 1) (rm1 l Z a0 hw [] b13 b7 (Int32.ofNat sN) (Int32.ofNat eN) .null (.int (0 : Int32)) (.int (0 : Int32)) .null (.long (0 : Int64)) h13 n0 (Nat.le_trans Z0 K13.1) (E_b13) (F_bytes_b13) g_b13 (F_position_b13) (F_limit_b13) (F_channel_b13) (F_end_b13) (F_next_b13)) hZ (hw _ (List.mem_of_getElem? (i := 7) rfl)) (hw _ (List.mem_of_getElem? (i := 4) rfl)) (by decide) (by decide)) (g := (mkF m 130 #[.val (.int p1), .val (.int p2), .val (.int p3), .val (.int p4), .val (.int p5), .val (.int p6), .val (.int (Int32.ofNat sN)), .val (.int (Int32.ofNat lN)), .val (.int (Int32.ofNat eN)), .val (.ref b7), .unset, .unset, .unset, .unset] [(.int (Int32.ofNat eN)), (.int (Int32.ofNat sN)), (.ref b7), (.ref b13), (.ref b13)])) rfl (by rw [hml]; rfl) (Steps.refl _) (a := b13) (argsL := [(.ref b7), (.int (Int32.ofNat sN)), (.int (Int32.ofNat eN))]) (rest := [(.ref b13)]) (lenOf pd_0_0 rfl) rfl (by show 2 * 0 + _ ≤ _; exact Nat.le_of_eq rfl) (hb hby at_130) (fun _ _ => ⟨rfl, e13, (by decide : 2 + 0 ≤ _), (by decide : 9 + 0 ≤ _)⟩)
    dsimp only [Pt.U, Pt.locs, Pt.cells, Pt.slots] at X14 l14 y14 z14 st14 hQ14
    subst l14 y14 z14
    obtain ⟨rfl, N14q, Kci, Di⟩ := hQ14
    have Zi := Nat.le_trans (Nat.le_trans Z0 K13.1) Kci.1
    have N14 := Fr.app N12 N14q
    -- pc 137: com/example/melete/melete/index/Decoder.hasRemaining by the contract of the body that the receiver's class selects, rm3
    obtain ⟨cq15, kq15, q15a, q15b, q15c⟩ := isOf hZ rfl (E_b13.keep Kci)
    obtain ⟨_, _, ⟨T15, L15, k15, n15⟩, -, X15, ⟨Lc15, hQ15, l15, y15, z15⟩, st15⟩ := X14.virtualBack hx (y := (⟨"com/example/melete/melete/index/Decoder", "hasRemaining", "()Z"⟩ : MethodName)) (z := (⟨"com/example/melete/melete/index/Decoder", "hasRemaining", "()Z"⟩ : MethodName)) hown (mvT hZ (hw _ (List.mem_of_getElem? (i := 21) rfl))) (mvT hZ (hw _ (List.mem_of_getElem? (i := 22) rfl))) (notFace_of_selects (args := #[]) (mvT hZ (hw _ (List.mem_of_getElem? (i := 24) rfl)))) (mvT hZ (hw _ (List.mem_of_getElem? (i := 24) rfl))) (mvT hZ (hw _ (List.mem_of_getElem? (i := 23) rfl))) (by decide) (backOf (W := 0) (rm3 l Z a0 hw [] b13 b7 (Int32.ofNat sN) (Int32.ofNat eN) T14.heap n0 Zi Di) hZ (hw _ (List.mem_of_getElem? (i := 25) rfl)) (hw _ (List.mem_of_getElem? (i := 4) rfl)) (by decide) (by decide)) q15a q15c (g := (mkF m 137 #[.val (.int p1), .val (.int p2), .val (.int p3), .val (.int p4), .val (.int p5), .val (.int p6), .val (.int (Int32.ofNat sN)), .val (.int (Int32.ofNat lN)), .val (.int (Int32.ofNat eN)), .val (.ref b7), .val (.ref b13), .unset, .unset, .unset] [(.ref b13)])) rfl (by rw [hml]; rfl) (Steps.refl _) (argsL := []) (rest := []) (lenOf pd_0_2 rfl) rfl (by show 2 * 0 + _ ≤ _; exact Nat.le_of_eq rfl) (hb hby at_137) (fun _ _ => ⟨rfl, rfl, (by decide : 2 + 0 ≤ _), (by decide : 9 + 0 ≤ _)⟩)
    dsimp only [Pt.U, Pt.locs, Pt.cells, Pt.slots] at X15 l15 y15 z15 st15 hQ15
    subst l15 y15 z15
    obtain ⟨hv1, N15q, hh1⟩ := hQ15
    rw [show own_r (Int32.ofNat sN) (Int32.ofNat eN) = (1 : Int32) by simp [own_r, hc99]] at hv1
    subst hv1
    have Kc1 : Keep T14.heap T15.heap [] := by rw [hh1]; exact Keep.refl _ _
    have Z1 := Nat.le_trans Zi Kc1.1
    have D1 := own_D_keep Di Kc1 nin0
    have N15 := Fr.app N14 N15q
    obtain ⟨cl, g, B0, hget⟩ := own_open V_b7_12
    have hbd : b7 ≠ b13 := Nat.ne_of_lt (Nat.lt_of_lt_of_le B0.1.lt (Nat.le_of_eq g13.symm))
    have B1 := own_B_keep (own_B_keep (own_B_ext B0 E13) Kci (ninS hbd nin0)) Kc1 nin0
    have hlast : ¬ g (eN - 1) < 0 := by
      have q := hget (eN - 1) (by omega)
      rw [own_getD] at q
      · rw [← Value.int.inj q]
        exact own_msk _
      · show eN - 1 < 3
        omega
    by_cases hc165 : g sN < (0 : Int32)
    · have hs2 : sN + 1 < eN := by
        rcases Nat.lt_or_ge (sN + 1) eN with q | q
        · exact q
        · exact absurd (show g (eN - 1) < 0 by rw [show eN - 1 = sN by omega]; exact hc165) hlast
      by_cases hc184 : g (sN + 1) < (0 : Int32)
      · have hs3 : sN + 2 < eN := by
          rcases Nat.lt_or_ge (sN + 2) eN with q | q
          · exact q
          · exact absurd (show g (eN - 1) < 0 by rw [show eN - 1 = sN + 1 by omega]; exact hc184) hlast
        have hg2 : ¬ g (sN + 2) < 0 := by rw [show sN + 2 = eN - 1 by omega]; exact hlast
        obtain ⟨cq18, kq18, q18a, q18b, q18c⟩ := isOf hZ rfl ((E_b13.keep Kci).keep Kc1)
        obtain ⟨_, _, ⟨T18, L18, k18, n18⟩, -, X18, ⟨Lc18, hQ18, l18, y18, z18⟩, st18⟩ := X15.virtualBack hx (y := (⟨"com/example/melete/melete/index/Decoder", "readVarint", "()J"⟩ : MethodName)) (z := (⟨"com/example/melete/melete/index/Decoder", "readVarint", "()J"⟩ : MethodName)) hown (mvT hZ (hw _ (List.mem_of_getElem? (i := 26) rfl))) (mvT hZ (hw _ (List.mem_of_getElem? (i := 27) rfl))) (notFace_of_selects (args := #[]) (mvT hZ (hw _ (List.mem_of_getElem? (i := 29) rfl)))) (mvT hZ (hw _ (List.mem_of_getElem? (i := 29) rfl))) (mvT hZ (hw _ (List.mem_of_getElem? (i := 28) rfl))) (by decide) (backOf (W := 0) (rm4 l Z a0 hw [] b13 b7 cl g sN 2 eN T15.heap n0 Z1 D1 B1 g_b13 hbd (by omega) (by omega) (fun j h1 h2 => (show j = sN ∨ j = sN + 1 by omega).elim (fun q => by rw [q]; exact hc165) (fun q => by rw [q]; exact hc184)) hg2) hZ (hw _ (List.mem_of_getElem? (i := 30) rfl)) (hw _ (List.mem_of_getElem? (i := 4) rfl)) (by decide) (by decide)) q18a q18c (g := (mkF m 204 #[.val (.int p1), .val (.int p2), .val (.int p3), .val (.int p4), .val (.int p5), .val (.int p6), .val (.int (Int32.ofNat sN)), .val (.int (Int32.ofNat lN)), .val (.int (Int32.ofNat eN)), .val (.ref b7), .val (.ref b13), .val (.int (1 : Int32)), .val (.int ((Int32.ofNat sN) + (3 : Int32))), .unset] [(.ref b13)])) rfl (by rw [hml]; rfl) (Steps.refl _) (argsL := []) (rest := []) (lenOf pd_0_3 rfl) rfl (by show 2 * 0 + _ ≤ _; exact Nat.le_of_eq rfl) (hb hby at_204) (fun _ _ => ⟨rfl, rfl, (by decide : 2 + 0 ≤ _), (by decide : 9 + 0 ≤ _)⟩)
        dsimp only [Pt.U, Pt.locs, Pt.cells, Pt.slots] at X18 l18 y18 z18 st18 hQ18
        subst l18 y18 z18
        obtain ⟨xv, rfl, N18q, Kc2, D2⟩ := hQ18
        have Z2 := Nat.le_trans Z1 Kc2.1
        have N18 := Fr.app N15 N18q
        -- pc 210: com/example/melete/melete/index/Decoder.hasRemaining by the contract of the body that the receiver's class selects, rm3
        obtain ⟨cq19, kq19, q19a, q19b, q19c⟩ := isOf hZ rfl (((E_b13.keep Kci).keep Kc1).keep Kc2)
        obtain ⟨_, _, ⟨T19, L19, k19, n19⟩, -, X19, ⟨Lc19, hQ19, l19, y19, z19⟩, st19⟩ := X18.virtualBack hx (y := (⟨"com/example/melete/melete/index/Decoder", "hasRemaining", "()Z"⟩ : MethodName)) (z := (⟨"com/example/melete/melete/index/Decoder", "hasRemaining", "()Z"⟩ : MethodName)) hown (mvT hZ (hw _ (List.mem_of_getElem? (i := 21) rfl))) (mvT hZ (hw _ (List.mem_of_getElem? (i := 22) rfl))) (notFace_of_selects (args := #[]) (mvT hZ (hw _ (List.mem_of_getElem? (i := 24) rfl)))) (mvT hZ (hw _ (List.mem_of_getElem? (i := 24) rfl))) (mvT hZ (hw _ (List.mem_of_getElem? (i := 23) rfl))) (by decide) (backOf (W := 0) (rm3 l Z a0 hw [] b13 b7 (Int32.ofNat (sN + 2 + 1)) (Int32.ofNat eN) T18.heap n0 Z2 D2) hZ (hw _ (List.mem_of_getElem? (i := 25) rfl)) (hw _ (List.mem_of_getElem? (i := 4) rfl)) (by decide) (by decide)) q19a q19c (g := (mkF m 210 #[.val (.int p1), .val (.int p2), .val (.int p3), .val (.int p4), .val (.int p5), .val (.int p6), .val (.int (Int32.ofNat sN)), .val (.int (Int32.ofNat lN)), .val (.int (Int32.ofNat eN)), .val (.ref b7), .val (.ref b13), .val (.int (1 : Int32)), .val (.int ((Int32.ofNat sN) + (3 : Int32))), .unset] [(.ref b13)])) rfl (by rw [hml]; rfl) (Steps.refl _) (argsL := []) (rest := []) (lenOf pd_0_2 rfl) rfl (by show 2 * 0 + _ ≤ _; exact Nat.le_of_eq rfl) (hb hby at_210) (fun _ _ => ⟨rfl, rfl, (by decide : 2 + 0 ≤ _), (by decide : 9 + 0 ≤ _)⟩)
        dsimp only [Pt.U, Pt.locs, Pt.cells, Pt.slots] at X19 l19 y19 z19 st19 hQ19
        subst l19 y19 z19
        obtain ⟨rfl, N19q, hh3⟩ := hQ19
        have N19 := Fr.app N18 N19q
        obtain ⟨fs, hr, hrun, hended, hW, hsame⟩ := X19.leave (v := some (.int (1 : Int32))) (fun h => by rw [Bd.returns] at h; cases h)
        refine ⟨_, _, pre0 _ (preh _ ?_), hrun, hended, _, _, rfl, ?_, ⟨_, rfl⟩, hW, hsame.mono (by decide) (by decide)⟩
        · show Steps p.tables e below (s₁.setTop (mkF m 71 #[.val (.int p1), .val (.int p2), .val (.int p3), .val (.int p4), .val (.int p5), .val (.int p6), .val (.int (Int32.ofNat sN)), .val (.int (Int32.ofNat lN)), .val (.int (Int32.ofNat eN)), .unset, .unset, .unset, .unset, .unset] [])) _
          refine XS.iconst X0.here hx rfl (hb hby at_71) ?_
          show Steps p.tables e below (s₁.setTop (mkF m 72 #[.val (.int p1), .val (.int p2), .val (.int p3), .val (.int p4), .val (.int p5), .val (.int p6), .val (.int (Int32.ofNat sN)), .val (.int (Int32.ofNat lN)), .val (.int (Int32.ofNat eN)), .unset, .unset, .unset, .unset, .unset] [(.int (3 : Int32))])) _
          refine st7 _ ?_
          show Steps p.tables e below (T7.setTop (mkF m 74 #[.val (.int p1), .val (.int p2), .val (.int p3), .val (.int p4), .val (.int p5), .val (.int p6), .val (.int (Int32.ofNat sN)), .val (.int (Int32.ofNat lN)), .val (.int (Int32.ofNat eN)), .unset, .unset, .unset, .unset, .unset] [(.ref b7)])) _
          refine XS.astore X7.here hx rfl (hb hby at_74) rfl rfl (l' := #[.val (.int p1), .val (.int p2), .val (.int p3), .val (.int p4), .val (.int p5), .val (.int p6), .val (.int (Int32.ofNat sN)), .val (.int (Int32.ofNat lN)), .val (.int (Int32.ofNat eN)), .val (.ref b7), .unset, .unset, .unset, .unset]) rfl ?_
          show Steps p.tables e below (T7.setTop (mkF m 76 #[.val (.int p1), .val (.int p2), .val (.int p3), .val (.int p4), .val (.int p5), .val (.int p6), .val (.int (Int32.ofNat sN)), .val (.int (Int32.ofNat lN)), .val (.int (Int32.ofNat eN)), .val (.ref b7), .unset, .unset, .unset, .unset] [])) _
          refine XS.aload X7.here hx rfl (hb hby at_76) rfl rfl ?_
          show Steps p.tables e below (T7.setTop (mkF m 78 #[.val (.int p1), .val (.int p2), .val (.int p3), .val (.int p4), .val (.int p5), .val (.int p6), .val (.int (Int32.ofNat sN)), .val (.int (Int32.ofNat lN)), .val (.int (Int32.ofNat eN)), .val (.ref b7), .unset, .unset, .unset, .unset] [(.ref b7)])) _
          refine XS.iconst X7.here hx rfl (hb hby at_78) ?_
          show Steps p.tables e below (T7.setTop (mkF m 79 #[.val (.int p1), .val (.int p2), .val (.int p3), .val (.int p4), .val (.int p5), .val (.int p6), .val (.int (Int32.ofNat sN)), .val (.int (Int32.ofNat lN)), .val (.int (Int32.ofNat eN)), .val (.ref b7), .unset, .unset, .unset, .unset] [(.int (0 : Int32)), (.ref b7)])) _
          refine XS.iloadN X7.here hx rfl (hb hby at_79) rfl ?_
          show Steps p.tables e below (T7.setTop (mkF m 80 #[.val (.int p1), .val (.int p2), .val (.int p3), .val (.int p4), .val (.int p5), .val (.int p6), .val (.int (Int32.ofNat sN)), .val (.int (Int32.ofNat lN)), .val (.int (Int32.ofNat eN)), .val (.ref b7), .unset, .unset, .unset, .unset] [(.int p3), (.int (0 : Int32)), (.ref b7)])) _
          refine XS.i2b X7.here hx rfl (hb hby at_80) rfl ?_
          show Steps p.tables e below (T7.setTop (mkF m 81 #[.val (.int p1), .val (.int p2), .val (.int p3), .val (.int p4), .val (.int p5), .val (.int p6), .val (.int (Int32.ofNat sN)), .val (.int (Int32.ofNat lN)), .val (.int (Int32.ofNat eN)), .val (.ref b7), .unset, .unset, .unset, .unset] [(.int (p3.toInt8.toInt32)), (.int (0 : Int32)), (.ref b7)])) _
          refine st8 _ ?_
          show Steps p.tables e below (T8.setTop (mkF m 82 #[.val (.int p1), .val (.int p2), .val (.int p3), .val (.int p4), .val (.int p5), .val (.int p6), .val (.int (Int32.ofNat sN)), .val (.int (Int32.ofNat lN)), .val (.int (Int32.ofNat eN)), .val (.ref b7), .unset, .unset, .unset, .unset] [])) _
          refine XS.aload X8.here hx rfl (hb hby at_82) rfl rfl ?_
          show Steps p.tables e below (T8.setTop (mkF m 84 #[.val (.int p1), .val (.int p2), .val (.int p3), .val (.int p4), .val (.int p5), .val (.int p6), .val (.int (Int32.ofNat sN)), .val (.int (Int32.ofNat lN)), .val (.int (Int32.ofNat eN)), .val (.ref b7), .unset, .unset, .unset, .unset] [(.ref b7)])) _
          refine XS.iconst X8.here hx rfl (hb hby at_84) ?_
          show Steps p.tables e below (T8.setTop (mkF m 85 #[.val (.int p1), .val (.int p2), .val (.int p3), .val (.int p4), .val (.int p5), .val (.int p6), .val (.int (Int32.ofNat sN)), .val (.int (Int32.ofNat lN)), .val (.int (Int32.ofNat eN)), .val (.ref b7), .unset, .unset, .unset, .unset] [(.int (1 : Int32)), (.ref b7)])) _
          refine XS.iloadN X8.here hx rfl (hb hby at_85) rfl ?_
          show Steps p.tables e below (T8.setTop (mkF m 86 #[.val (.int p1), .val (.int p2), .val (.int p3), .val (.int p4), .val (.int p5), .val (.int p6), .val (.int (Int32.ofNat sN)), .val (.int (Int32.ofNat lN)), .val (.int (Int32.ofNat eN)), .val (.ref b7), .unset, .unset, .unset, .unset] [(.int p4), (.int (1 : Int32)), (.ref b7)])) _
          refine XS.i2b X8.here hx rfl (hb hby at_86) rfl ?_
          show Steps p.tables e below (T8.setTop (mkF m 87 #[.val (.int p1), .val (.int p2), .val (.int p3), .val (.int p4), .val (.int p5), .val (.int p6), .val (.int (Int32.ofNat sN)), .val (.int (Int32.ofNat lN)), .val (.int (Int32.ofNat eN)), .val (.ref b7), .unset, .unset, .unset, .unset] [(.int (p4.toInt8.toInt32)), (.int (1 : Int32)), (.ref b7)])) _
          refine st9 _ ?_
          show Steps p.tables e below (T9.setTop (mkF m 88 #[.val (.int p1), .val (.int p2), .val (.int p3), .val (.int p4), .val (.int p5), .val (.int p6), .val (.int (Int32.ofNat sN)), .val (.int (Int32.ofNat lN)), .val (.int (Int32.ofNat eN)), .val (.ref b7), .unset, .unset, .unset, .unset] [])) _
          refine XS.aload X9.here hx rfl (hb hby at_88) rfl rfl ?_
          show Steps p.tables e below (T9.setTop (mkF m 90 #[.val (.int p1), .val (.int p2), .val (.int p3), .val (.int p4), .val (.int p5), .val (.int p6), .val (.int (Int32.ofNat sN)), .val (.int (Int32.ofNat lN)), .val (.int (Int32.ofNat eN)), .val (.ref b7), .unset, .unset, .unset, .unset] [(.ref b7)])) _
          refine XS.iconst X9.here hx rfl (hb hby at_90) ?_
          show Steps p.tables e below (T9.setTop (mkF m 91 #[.val (.int p1), .val (.int p2), .val (.int p3), .val (.int p4), .val (.int p5), .val (.int p6), .val (.int (Int32.ofNat sN)), .val (.int (Int32.ofNat lN)), .val (.int (Int32.ofNat eN)), .val (.ref b7), .unset, .unset, .unset, .unset] [(.int (2 : Int32)), (.ref b7)])) _
          refine XS.iload X9.here hx rfl (hb hby at_91) rfl ?_
          show Steps p.tables e below (T9.setTop (mkF m 93 #[.val (.int p1), .val (.int p2), .val (.int p3), .val (.int p4), .val (.int p5), .val (.int p6), .val (.int (Int32.ofNat sN)), .val (.int (Int32.ofNat lN)), .val (.int (Int32.ofNat eN)), .val (.ref b7), .unset, .unset, .unset, .unset] [(.int p5), (.int (2 : Int32)), (.ref b7)])) _
          refine XS.i2b X9.here hx rfl (hb hby at_93) rfl ?_
          show Steps p.tables e below (T9.setTop (mkF m 94 #[.val (.int p1), .val (.int p2), .val (.int p3), .val (.int p4), .val (.int p5), .val (.int p6), .val (.int (Int32.ofNat sN)), .val (.int (Int32.ofNat lN)), .val (.int (Int32.ofNat eN)), .val (.ref b7), .unset, .unset, .unset, .unset] [(.int (p5.toInt8.toInt32)), (.int (2 : Int32)), (.ref b7)])) _
          refine st10 _ ?_
          show Steps p.tables e below (T10.setTop (mkF m 95 #[.val (.int p1), .val (.int p2), .val (.int p3), .val (.int p4), .val (.int p5), .val (.int p6), .val (.int (Int32.ofNat sN)), .val (.int (Int32.ofNat lN)), .val (.int (Int32.ofNat eN)), .val (.ref b7), .unset, .unset, .unset, .unset] [])) _
          refine XS.iload X10.here hx rfl (hb hby at_95) rfl ?_
          show Steps p.tables e below (T10.setTop (mkF m 97 #[.val (.int p1), .val (.int p2), .val (.int p3), .val (.int p4), .val (.int p5), .val (.int p6), .val (.int (Int32.ofNat sN)), .val (.int (Int32.ofNat lN)), .val (.int (Int32.ofNat eN)), .val (.ref b7), .unset, .unset, .unset, .unset] [(.int (Int32.ofNat eN))])) _
          refine XS.iload X10.here hx rfl (hb hby at_97) rfl ?_
          show Steps p.tables e below (T10.setTop (mkF m 99 #[.val (.int p1), .val (.int p2), .val (.int p3), .val (.int p4), .val (.int p5), .val (.int p6), .val (.int (Int32.ofNat sN)), .val (.int (Int32.ofNat lN)), .val (.int (Int32.ofNat eN)), .val (.ref b7), .unset, .unset, .unset, .unset] [(.int (Int32.ofNat sN)), (.int (Int32.ofNat eN))])) _
          refine XS.icmpNo X10.here hx rfl (hb hby at_99) rfl (tlt hc99).2.2.2 ?_
          show Steps p.tables e below (T10.setTop (mkF m 102 #[.val (.int p1), .val (.int p2), .val (.int p3), .val (.int p4), .val (.int p5), .val (.int p6), .val (.int (Int32.ofNat sN)), .val (.int (Int32.ofNat lN)), .val (.int (Int32.ofNat eN)), .val (.ref b7), .unset, .unset, .unset, .unset] [])) _
          refine XS.aload X10.here hx rfl (hb hby at_102) rfl rfl ?_
          show Steps p.tables e below (T10.setTop (mkF m 104 #[.val (.int p1), .val (.int p2), .val (.int p3), .val (.int p4), .val (.int p5), .val (.int p6), .val (.int (Int32.ofNat sN)), .val (.int (Int32.ofNat lN)), .val (.int (Int32.ofNat eN)), .val (.ref b7), .unset, .unset, .unset, .unset] [(.ref b7)])) _
          refine XS.iload X10.here hx rfl (hb hby at_104) rfl ?_
          show Steps p.tables e below (T10.setTop (mkF m 106 #[.val (.int p1), .val (.int p2), .val (.int p3), .val (.int p4), .val (.int p5), .val (.int p6), .val (.int (Int32.ofNat sN)), .val (.int (Int32.ofNat lN)), .val (.int (Int32.ofNat eN)), .val (.ref b7), .unset, .unset, .unset, .unset] [(.int (Int32.ofNat eN)), (.ref b7)])) _
          refine XS.iconst X10.here hx rfl (hb hby at_106) ?_
          show Steps p.tables e below (T10.setTop (mkF m 107 #[.val (.int p1), .val (.int p2), .val (.int p3), .val (.int p4), .val (.int p5), .val (.int p6), .val (.int (Int32.ofNat sN)), .val (.int (Int32.ofNat lN)), .val (.int (Int32.ofNat eN)), .val (.ref b7), .unset, .unset, .unset, .unset] [(.int (1 : Int32)), (.int (Int32.ofNat eN)), (.ref b7)])) _
          refine XS.isub X10.here hx rfl (hb hby at_107) rfl ?_
          show Steps p.tables e below (T10.setTop (mkF m 108 #[.val (.int p1), .val (.int p2), .val (.int p3), .val (.int p4), .val (.int p5), .val (.int p6), .val (.int (Int32.ofNat sN)), .val (.int (Int32.ofNat lN)), .val (.int (Int32.ofNat eN)), .val (.ref b7), .unset, .unset, .unset, .unset] [(.int ((Int32.ofNat eN) - (1 : Int32))), (.ref b7)])) _
          refine XS.aload X10.here hx rfl (hb hby at_108) rfl rfl ?_
          show Steps p.tables e below (T10.setTop (mkF m 110 #[.val (.int p1), .val (.int p2), .val (.int p3), .val (.int p4), .val (.int p5), .val (.int p6), .val (.int (Int32.ofNat sN)), .val (.int (Int32.ofNat lN)), .val (.int (Int32.ofNat eN)), .val (.ref b7), .unset, .unset, .unset, .unset] [(.ref b7), (.int ((Int32.ofNat eN) - (1 : Int32))), (.ref b7)])) _
          refine XS.iload X10.here hx rfl (hb hby at_110) rfl ?_
          show Steps p.tables e below (T10.setTop (mkF m 112 #[.val (.int p1), .val (.int p2), .val (.int p3), .val (.int p4), .val (.int p5), .val (.int p6), .val (.int (Int32.ofNat sN)), .val (.int (Int32.ofNat lN)), .val (.int (Int32.ofNat eN)), .val (.ref b7), .unset, .unset, .unset, .unset] [(.int (Int32.ofNat eN)), (.ref b7), (.int ((Int32.ofNat eN) - (1 : Int32))), (.ref b7)])) _
          refine XS.iconst X10.here hx rfl (hb hby at_112) ?_
          show Steps p.tables e below (T10.setTop (mkF m 113 #[.val (.int p1), .val (.int p2), .val (.int p3), .val (.int p4), .val (.int p5), .val (.int p6), .val (.int (Int32.ofNat sN)), .val (.int (Int32.ofNat lN)), .val (.int (Int32.ofNat eN)), .val (.ref b7), .unset, .unset, .unset, .unset] [(.int (1 : Int32)), (.int (Int32.ofNat eN)), (.ref b7), (.int ((Int32.ofNat eN) - (1 : Int32))), (.ref b7)])) _
          refine XS.isub X10.here hx rfl (hb hby at_113) rfl ?_
          show Steps p.tables e below (T10.setTop (mkF m 114 #[.val (.int p1), .val (.int p2), .val (.int p3), .val (.int p4), .val (.int p5), .val (.int p6), .val (.int (Int32.ofNat sN)), .val (.int (Int32.ofNat lN)), .val (.int (Int32.ofNat eN)), .val (.ref b7), .unset, .unset, .unset, .unset] [(.int ((Int32.ofNat eN) - (1 : Int32))), (.ref b7), (.int ((Int32.ofNat eN) - (1 : Int32))), (.ref b7)])) _
          refine X10.baloadBytes hx (j := ((Int32.ofNat eN) - (1 : Int32))) (v := (.int (gw (eN - 1)))) (by rw [e10]; exact Bw.1.1) (State.isArrayOf_alike hZ.alike Bw.1.2.1) Bw.1.2.2 hin114 hat114 (g := (mkF m 114 #[.val (.int p1), .val (.int p2), .val (.int p3), .val (.int p4), .val (.int p5), .val (.int p6), .val (.int (Int32.ofNat sN)), .val (.int (Int32.ofNat lN)), .val (.int (Int32.ofNat eN)), .val (.ref b7), .unset, .unset, .unset, .unset] [(.int ((Int32.ofNat eN) - (1 : Int32))), (.ref b7), (.int ((Int32.ofNat eN) - (1 : Int32))), (.ref b7)])) rfl rfl (hb hby at_114) _ ?_
          show Steps p.tables e below (T10.setTop (mkF m 115 #[.val (.int p1), .val (.int p2), .val (.int p3), .val (.int p4), .val (.int p5), .val (.int p6), .val (.int (Int32.ofNat sN)), .val (.int (Int32.ofNat lN)), .val (.int (Int32.ofNat eN)), .val (.ref b7), .unset, .unset, .unset, .unset] [(.int (gw (eN - 1))), (.int ((Int32.ofNat eN) - (1 : Int32))), (.ref b7)])) _
          refine XS.bipush X10.here hx rfl (hb hby at_115) ?_
          show Steps p.tables e below (T10.setTop (mkF m 117 #[.val (.int p1), .val (.int p2), .val (.int p3), .val (.int p4), .val (.int p5), .val (.int p6), .val (.int (Int32.ofNat sN)), .val (.int (Int32.ofNat lN)), .val (.int (Int32.ofNat eN)), .val (.ref b7), .unset, .unset, .unset, .unset] [(.int (127 : Int32)), (.int (gw (eN - 1))), (.int ((Int32.ofNat eN) - (1 : Int32))), (.ref b7)])) _
          refine XS.iand X10.here hx rfl (hb hby at_117) rfl ?_
          show Steps p.tables e below (T10.setTop (mkF m 118 #[.val (.int p1), .val (.int p2), .val (.int p3), .val (.int p4), .val (.int p5), .val (.int p6), .val (.int (Int32.ofNat sN)), .val (.int (Int32.ofNat lN)), .val (.int (Int32.ofNat eN)), .val (.ref b7), .unset, .unset, .unset, .unset] [(.int ((gw (eN - 1)) &&& (127 : Int32))), (.int ((Int32.ofNat eN) - (1 : Int32))), (.ref b7)])) _
          refine XS.i2b X10.here hx rfl (hb hby at_118) rfl ?_
          show Steps p.tables e below (T10.setTop (mkF m 119 #[.val (.int p1), .val (.int p2), .val (.int p3), .val (.int p4), .val (.int p5), .val (.int p6), .val (.int (Int32.ofNat sN)), .val (.int (Int32.ofNat lN)), .val (.int (Int32.ofNat eN)), .val (.ref b7), .unset, .unset, .unset, .unset] [(.int (((gw (eN - 1)) &&& (127 : Int32)).toInt8.toInt32)), (.int ((Int32.ofNat eN) - (1 : Int32))), (.ref b7)])) _
          refine st12 _ ?_
          show Steps p.tables e below (T12.setTop (mkF m 120 #[.val (.int p1), .val (.int p2), .val (.int p3), .val (.int p4), .val (.int p5), .val (.int p6), .val (.int (Int32.ofNat sN)), .val (.int (Int32.ofNat lN)), .val (.int (Int32.ofNat eN)), .val (.ref b7), .unset, .unset, .unset, .unset] [])) _
          refine st13 _ ?_
          show Steps p.tables e below (T13.setTop (mkF m 123 #[.val (.int p1), .val (.int p2), .val (.int p3), .val (.int p4), .val (.int p5), .val (.int p6), .val (.int (Int32.ofNat sN)), .val (.int (Int32.ofNat lN)), .val (.int (Int32.ofNat eN)), .val (.ref b7), .unset, .unset, .unset, .unset] [(.ref b13)])) _
          refine XS.dup X13.here hx rfl (hb hby at_123) rfl rfl ?_
          show Steps p.tables e below (T13.setTop (mkF m 124 #[.val (.int p1), .val (.int p2), .val (.int p3), .val (.int p4), .val (.int p5), .val (.int p6), .val (.int (Int32.ofNat sN)), .val (.int (Int32.ofNat lN)), .val (.int (Int32.ofNat eN)), .val (.ref b7), .unset, .unset, .unset, .unset] [(.ref b13), (.ref b13)])) _
          refine XS.aload X13.here hx rfl (hb hby at_124) rfl rfl ?_
          show Steps p.tables e below (T13.setTop (mkF m 126 #[.val (.int p1), .val (.int p2), .val (.int p3), .val (.int p4), .val (.int p5), .val (.int p6), .val (.int (Int32.ofNat sN)), .val (.int (Int32.ofNat lN)), .val (.int (Int32.ofNat eN)), .val (.ref b7), .unset, .unset, .unset, .unset] [(.ref b7), (.ref b13), (.ref b13)])) _
          refine XS.iload X13.here hx rfl (hb hby at_126) rfl ?_
          show Steps p.tables e below (T13.setTop (mkF m 128 #[.val (.int p1), .val (.int p2), .val (.int p3), .val (.int p4), .val (.int p5), .val (.int p6), .val (.int (Int32.ofNat sN)), .val (.int (Int32.ofNat lN)), .val (.int (Int32.ofNat eN)), .val (.ref b7), .unset, .unset, .unset, .unset] [(.int (Int32.ofNat sN)), (.ref b7), (.ref b13), (.ref b13)])) _
          refine XS.iload X13.here hx rfl (hb hby at_128) rfl ?_
          show Steps p.tables e below (T13.setTop (mkF m 130 #[.val (.int p1), .val (.int p2), .val (.int p3), .val (.int p4), .val (.int p5), .val (.int p6), .val (.int (Int32.ofNat sN)), .val (.int (Int32.ofNat lN)), .val (.int (Int32.ofNat eN)), .val (.ref b7), .unset, .unset, .unset, .unset] [(.int (Int32.ofNat eN)), (.int (Int32.ofNat sN)), (.ref b7), (.ref b13), (.ref b13)])) _
          refine st14.trans ?_
          show Steps p.tables e below (T14.setTop (mkF m 133 #[.val (.int p1), .val (.int p2), .val (.int p3), .val (.int p4), .val (.int p5), .val (.int p6), .val (.int (Int32.ofNat sN)), .val (.int (Int32.ofNat lN)), .val (.int (Int32.ofNat eN)), .val (.ref b7), .unset, .unset, .unset, .unset] [(.ref b13)])) _
          refine XS.astore X14.here hx rfl (hb hby at_133) rfl rfl (l' := #[.val (.int p1), .val (.int p2), .val (.int p3), .val (.int p4), .val (.int p5), .val (.int p6), .val (.int (Int32.ofNat sN)), .val (.int (Int32.ofNat lN)), .val (.int (Int32.ofNat eN)), .val (.ref b7), .val (.ref b13), .unset, .unset, .unset]) rfl ?_
          show Steps p.tables e below (T14.setTop (mkF m 135 #[.val (.int p1), .val (.int p2), .val (.int p3), .val (.int p4), .val (.int p5), .val (.int p6), .val (.int (Int32.ofNat sN)), .val (.int (Int32.ofNat lN)), .val (.int (Int32.ofNat eN)), .val (.ref b7), .val (.ref b13), .unset, .unset, .unset] [])) _
          refine XS.aload X14.here hx rfl (hb hby at_135) rfl rfl ?_
          show Steps p.tables e below (T14.setTop (mkF m 137 #[.val (.int p1), .val (.int p2), .val (.int p3), .val (.int p4), .val (.int p5), .val (.int p6), .val (.int (Int32.ofNat sN)), .val (.int (Int32.ofNat lN)), .val (.int (Int32.ofNat eN)), .val (.ref b7), .val (.ref b13), .unset, .unset, .unset] [(.ref b13)])) _
          refine st15.trans ?_
          show Steps p.tables e below (T15.setTop (mkF m 140 #[.val (.int p1), .val (.int p2), .val (.int p3), .val (.int p4), .val (.int p5), .val (.int p6), .val (.int (Int32.ofNat sN)), .val (.int (Int32.ofNat lN)), .val (.int (Int32.ofNat eN)), .val (.ref b7), .val (.ref b13), .unset, .unset, .unset] [(.int (1 : Int32))])) _
          refine XS.istore X15.here hx rfl (hb hby at_140) rfl (l' := #[.val (.int p1), .val (.int p2), .val (.int p3), .val (.int p4), .val (.int p5), .val (.int p6), .val (.int (Int32.ofNat sN)), .val (.int (Int32.ofNat lN)), .val (.int (Int32.ofNat eN)), .val (.ref b7), .val (.ref b13), .val (.int (1 : Int32)), .unset, .unset]) rfl ?_
          show Steps p.tables e below (T15.setTop (mkF m 142 #[.val (.int p1), .val (.int p2), .val (.int p3), .val (.int p4), .val (.int p5), .val (.int p6), .val (.int (Int32.ofNat sN)), .val (.int (Int32.ofNat lN)), .val (.int (Int32.ofNat eN)), .val (.ref b7), .val (.ref b13), .val (.int (1 : Int32)), .unset, .unset] [])) _
          refine XS.iload X15.here hx rfl (hb hby at_142) rfl ?_
          show Steps p.tables e below (T15.setTop (mkF m 144 #[.val (.int p1), .val (.int p2), .val (.int p3), .val (.int p4), .val (.int p5), .val (.int p6), .val (.int (Int32.ofNat sN)), .val (.int (Int32.ofNat lN)), .val (.int (Int32.ofNat eN)), .val (.ref b7), .val (.ref b13), .val (.int (1 : Int32)), .unset, .unset] [(.int (Int32.ofNat sN))])) _
          refine XS.iload X15.here hx rfl (hb hby at_144) rfl ?_
          show Steps p.tables e below (T15.setTop (mkF m 146 #[.val (.int p1), .val (.int p2), .val (.int p3), .val (.int p4), .val (.int p5), .val (.int p6), .val (.int (Int32.ofNat sN)), .val (.int (Int32.ofNat lN)), .val (.int (Int32.ofNat eN)), .val (.ref b7), .val (.ref b13), .val (.int (1 : Int32)), .unset, .unset] [(.int (Int32.ofNat eN)), (.int (Int32.ofNat sN))])) _
          have hc146 : (Int32.ofNat sN) < (Int32.ofNat eN) := hc99
          refine XS.icmpYes X15.here hx rfl (pc0 := 146) (pc' := 160) rfl (hb hby at_146) rfl (tlt hc146).1 (by decide) (by decide) ?_
          show Steps p.tables e below (T15.setTop (mkF m 160 #[.val (.int p1), .val (.int p2), .val (.int p3), .val (.int p4), .val (.int p5), .val (.int p6), .val (.int (Int32.ofNat sN)), .val (.int (Int32.ofNat lN)), .val (.int (Int32.ofNat eN)), .val (.ref b7), .val (.ref b13), .val (.int (1 : Int32)), .unset, .unset] [])) _
          refine XS.aload X15.here hx rfl (hb hby at_160) rfl rfl ?_
          show Steps p.tables e below (T15.setTop (mkF m 162 #[.val (.int p1), .val (.int p2), .val (.int p3), .val (.int p4), .val (.int p5), .val (.int p6), .val (.int (Int32.ofNat sN)), .val (.int (Int32.ofNat lN)), .val (.int (Int32.ofNat eN)), .val (.ref b7), .val (.ref b13), .val (.int (1 : Int32)), .unset, .unset] [(.ref b7)])) _
          refine XS.iload X15.here hx rfl (hb hby at_162) rfl ?_
          show Steps p.tables e below (T15.setTop (mkF m 164 #[.val (.int p1), .val (.int p2), .val (.int p3), .val (.int p4), .val (.int p5), .val (.int p6), .val (.int (Int32.ofNat sN)), .val (.int (Int32.ofNat lN)), .val (.int (Int32.ofNat eN)), .val (.ref b7), .val (.ref b13), .val (.int (1 : Int32)), .unset, .unset] [(.int (Int32.ofNat sN)), (.ref b7)])) _
          have hat164 : cl.slots[(Int32.ofNat sN).toNatClampNeg]? = some (.int (g sN)) := own_at B1 (by omega)
          have hin164 : ¬ ((Int32.ofNat sN) < 0 ∨ cl.slots.size ≤ (Int32.ofNat sN).toNatClampNeg) := own_in B1.2.1 (by omega)
          refine X15.baloadBytes hx (j := (Int32.ofNat sN)) (v := (.int (g sN))) (by exact B1.1.1) (State.isArrayOf_alike hZ.alike B1.1.2.1) B1.1.2.2 hin164 hat164 (g := (mkF m 164 #[.val (.int p1), .val (.int p2), .val (.int p3), .val (.int p4), .val (.int p5), .val (.int p6), .val (.int (Int32.ofNat sN)), .val (.int (Int32.ofNat lN)), .val (.int (Int32.ofNat eN)), .val (.ref b7), .val (.ref b13), .val (.int (1 : Int32)), .unset, .unset] [(.int (Int32.ofNat sN)), (.ref b7)])) rfl rfl (hb hby at_164) _ ?_
          show Steps p.tables e below (T15.setTop (mkF m 165 #[.val (.int p1), .val (.int p2), .val (.int p3), .val (.int p4), .val (.int p5), .val (.int p6), .val (.int (Int32.ofNat sN)), .val (.int (Int32.ofNat lN)), .val (.int (Int32.ofNat eN)), .val (.ref b7), .val (.ref b13), .val (.int (1 : Int32)), .unset, .unset] [(.int (g sN))])) _
          refine XS.ifYes X15.here hx rfl (pc0 := 165) (pc' := 177) rfl (hb hby at_165) rfl ((if0 _ _).trans (tlt hc165).1) (by decide) (by decide) ?_
          show Steps p.tables e below (T15.setTop (mkF m 177 #[.val (.int p1), .val (.int p2), .val (.int p3), .val (.int p4), .val (.int p5), .val (.int p6), .val (.int (Int32.ofNat sN)), .val (.int (Int32.ofNat lN)), .val (.int (Int32.ofNat eN)), .val (.ref b7), .val (.ref b13), .val (.int (1 : Int32)), .unset, .unset] [])) _
          refine XS.aload X15.here hx rfl (hb hby at_177) rfl rfl ?_
          show Steps p.tables e below (T15.setTop (mkF m 179 #[.val (.int p1), .val (.int p2), .val (.int p3), .val (.int p4), .val (.int p5), .val (.int p6), .val (.int (Int32.ofNat sN)), .val (.int (Int32.ofNat lN)), .val (.int (Int32.ofNat eN)), .val (.ref b7), .val (.ref b13), .val (.int (1 : Int32)), .unset, .unset] [(.ref b7)])) _
          refine XS.iload X15.here hx rfl (hb hby at_179) rfl ?_
          show Steps p.tables e below (T15.setTop (mkF m 181 #[.val (.int p1), .val (.int p2), .val (.int p3), .val (.int p4), .val (.int p5), .val (.int p6), .val (.int (Int32.ofNat sN)), .val (.int (Int32.ofNat lN)), .val (.int (Int32.ofNat eN)), .val (.ref b7), .val (.ref b13), .val (.int (1 : Int32)), .unset, .unset] [(.int (Int32.ofNat sN)), (.ref b7)])) _
          refine XS.iconst X15.here hx rfl (hb hby at_181) ?_
          show Steps p.tables e below (T15.setTop (mkF m 182 #[.val (.int p1), .val (.int p2), .val (.int p3), .val (.int p4), .val (.int p5), .val (.int p6), .val (.int (Int32.ofNat sN)), .val (.int (Int32.ofNat lN)), .val (.int (Int32.ofNat eN)), .val (.ref b7), .val (.ref b13), .val (.int (1 : Int32)), .unset, .unset] [(.int (1 : Int32)), (.int (Int32.ofNat sN)), (.ref b7)])) _
          refine XS.iadd X15.here hx rfl (hb hby at_182) rfl ?_
          show Steps p.tables e below (T15.setTop (mkF m 183 #[.val (.int p1), .val (.int p2), .val (.int p3), .val (.int p4), .val (.int p5), .val (.int p6), .val (.int (Int32.ofNat sN)), .val (.int (Int32.ofNat lN)), .val (.int (Int32.ofNat eN)), .val (.ref b7), .val (.ref b13), .val (.int (1 : Int32)), .unset, .unset] [(.int ((Int32.ofNat sN) + (1 : Int32))), (.ref b7)])) _
          have hat183 : cl.slots[((Int32.ofNat sN) + (1 : Int32)).toNatClampNeg]? = some (.int (g (sN + 1))) := by rw [own_s1]; exact own_at B1 (by omega)
          have hin183 : ¬ (((Int32.ofNat sN) + (1 : Int32)) < 0 ∨ cl.slots.size ≤ ((Int32.ofNat sN) + (1 : Int32)).toNatClampNeg) := by rw [own_s1]; exact own_in B1.2.1 (by omega)
          refine X15.baloadBytes hx (j := ((Int32.ofNat sN) + (1 : Int32))) (v := (.int (g (sN + 1)))) (by exact B1.1.1) (State.isArrayOf_alike hZ.alike B1.1.2.1) B1.1.2.2 hin183 hat183 (g := (mkF m 183 #[.val (.int p1), .val (.int p2), .val (.int p3), .val (.int p4), .val (.int p5), .val (.int p6), .val (.int (Int32.ofNat sN)), .val (.int (Int32.ofNat lN)), .val (.int (Int32.ofNat eN)), .val (.ref b7), .val (.ref b13), .val (.int (1 : Int32)), .unset, .unset] [(.int ((Int32.ofNat sN) + (1 : Int32))), (.ref b7)])) rfl rfl (hb hby at_183) _ ?_
          show Steps p.tables e below (T15.setTop (mkF m 184 #[.val (.int p1), .val (.int p2), .val (.int p3), .val (.int p4), .val (.int p5), .val (.int p6), .val (.int (Int32.ofNat sN)), .val (.int (Int32.ofNat lN)), .val (.int (Int32.ofNat eN)), .val (.ref b7), .val (.ref b13), .val (.int (1 : Int32)), .unset, .unset] [(.int (g (sN + 1)))])) _
          refine XS.ifYes X15.here hx rfl (pc0 := 184) (pc' := 196) rfl (hb hby at_184) rfl ((if0 _ _).trans (tlt hc184).1) (by decide) (by decide) ?_
          show Steps p.tables e below (T15.setTop (mkF m 196 #[.val (.int p1), .val (.int p2), .val (.int p3), .val (.int p4), .val (.int p5), .val (.int p6), .val (.int (Int32.ofNat sN)), .val (.int (Int32.ofNat lN)), .val (.int (Int32.ofNat eN)), .val (.ref b7), .val (.ref b13), .val (.int (1 : Int32)), .unset, .unset] [])) _
          refine XS.iload X15.here hx rfl (hb hby at_196) rfl ?_
          show Steps p.tables e below (T15.setTop (mkF m 198 #[.val (.int p1), .val (.int p2), .val (.int p3), .val (.int p4), .val (.int p5), .val (.int p6), .val (.int (Int32.ofNat sN)), .val (.int (Int32.ofNat lN)), .val (.int (Int32.ofNat eN)), .val (.ref b7), .val (.ref b13), .val (.int (1 : Int32)), .unset, .unset] [(.int (Int32.ofNat sN))])) _
          refine XS.iconst X15.here hx rfl (hb hby at_198) ?_
          show Steps p.tables e below (T15.setTop (mkF m 199 #[.val (.int p1), .val (.int p2), .val (.int p3), .val (.int p4), .val (.int p5), .val (.int p6), .val (.int (Int32.ofNat sN)), .val (.int (Int32.ofNat lN)), .val (.int (Int32.ofNat eN)), .val (.ref b7), .val (.ref b13), .val (.int (1 : Int32)), .unset, .unset] [(.int (3 : Int32)), (.int (Int32.ofNat sN))])) _
          refine XS.iadd X15.here hx rfl (hb hby at_199) rfl ?_
          show Steps p.tables e below (T15.setTop (mkF m 200 #[.val (.int p1), .val (.int p2), .val (.int p3), .val (.int p4), .val (.int p5), .val (.int p6), .val (.int (Int32.ofNat sN)), .val (.int (Int32.ofNat lN)), .val (.int (Int32.ofNat eN)), .val (.ref b7), .val (.ref b13), .val (.int (1 : Int32)), .unset, .unset] [(.int ((Int32.ofNat sN) + (3 : Int32)))])) _
          refine XS.istore X15.here hx rfl (hb hby at_200) rfl (l' := #[.val (.int p1), .val (.int p2), .val (.int p3), .val (.int p4), .val (.int p5), .val (.int p6), .val (.int (Int32.ofNat sN)), .val (.int (Int32.ofNat lN)), .val (.int (Int32.ofNat eN)), .val (.ref b7), .val (.ref b13), .val (.int (1 : Int32)), .val (.int ((Int32.ofNat sN) + (3 : Int32))), .unset]) rfl ?_
          show Steps p.tables e below (T15.setTop (mkF m 202 #[.val (.int p1), .val (.int p2), .val (.int p3), .val (.int p4), .val (.int p5), .val (.int p6), .val (.int (Int32.ofNat sN)), .val (.int (Int32.ofNat lN)), .val (.int (Int32.ofNat eN)), .val (.ref b7), .val (.ref b13), .val (.int (1 : Int32)), .val (.int ((Int32.ofNat sN) + (3 : Int32))), .unset] [])) _
          refine XS.aload X15.here hx rfl (hb hby at_202) rfl rfl ?_
          show Steps p.tables e below (T15.setTop (mkF m 204 #[.val (.int p1), .val (.int p2), .val (.int p3), .val (.int p4), .val (.int p5), .val (.int p6), .val (.int (Int32.ofNat sN)), .val (.int (Int32.ofNat lN)), .val (.int (Int32.ofNat eN)), .val (.ref b7), .val (.ref b13), .val (.int (1 : Int32)), .val (.int ((Int32.ofNat sN) + (3 : Int32))), .unset] [(.ref b13)])) _
          refine st18.trans ?_
          show Steps p.tables e below (T18.setTop (mkF m 207 #[.val (.int p1), .val (.int p2), .val (.int p3), .val (.int p4), .val (.int p5), .val (.int p6), .val (.int (Int32.ofNat sN)), .val (.int (Int32.ofNat lN)), .val (.int (Int32.ofNat eN)), .val (.ref b7), .val (.ref b13), .val (.int (1 : Int32)), .val (.int ((Int32.ofNat sN) + (3 : Int32))), .unset] [(.long xv)])) _
          jvm_step X18.here [X18.here.top, hx, (hb hby at_207), Value.category]
          show Steps p.tables e below (T18.setTop (mkF m 208 #[.val (.int p1), .val (.int p2), .val (.int p3), .val (.int p4), .val (.int p5), .val (.int p6), .val (.int (Int32.ofNat sN)), .val (.int (Int32.ofNat lN)), .val (.int (Int32.ofNat eN)), .val (.ref b7), .val (.ref b13), .val (.int (1 : Int32)), .val (.int ((Int32.ofNat sN) + (3 : Int32))), .unset] [])) _
          refine XS.aload X18.here hx rfl (hb hby at_208) rfl rfl ?_
          show Steps p.tables e below (T18.setTop (mkF m 210 #[.val (.int p1), .val (.int p2), .val (.int p3), .val (.int p4), .val (.int p5), .val (.int p6), .val (.int (Int32.ofNat sN)), .val (.int (Int32.ofNat lN)), .val (.int (Int32.ofNat eN)), .val (.ref b7), .val (.ref b13), .val (.int (1 : Int32)), .val (.int ((Int32.ofNat sN) + (3 : Int32))), .unset] [(.ref b13)])) _
          refine st19.trans ?_
          show Steps p.tables e below (T19.setTop (mkF m 213 #[.val (.int p1), .val (.int p2), .val (.int p3), .val (.int p4), .val (.int p5), .val (.int p6), .val (.int (Int32.ofNat sN)), .val (.int (Int32.ofNat lN)), .val (.int (Int32.ofNat eN)), .val (.ref b7), .val (.ref b13), .val (.int (1 : Int32)), .val (.int ((Int32.ofNat sN) + (3 : Int32))), .unset] [(.int (own_r (Int32.ofNat (sN + 2 + 1)) (Int32.ofNat eN)))])) _
          refine XS.istore X19.here hx rfl (hb hby at_213) rfl (l' := #[.val (.int p1), .val (.int p2), .val (.int p3), .val (.int p4), .val (.int p5), .val (.int p6), .val (.int (Int32.ofNat sN)), .val (.int (Int32.ofNat lN)), .val (.int (Int32.ofNat eN)), .val (.ref b7), .val (.ref b13), .val (.int (1 : Int32)), .val (.int ((Int32.ofNat sN) + (3 : Int32))), .val (.int (own_r (Int32.ofNat (sN + 2 + 1)) (Int32.ofNat eN)))]) rfl ?_
          show Steps p.tables e below (T19.setTop (mkF m 215 #[.val (.int p1), .val (.int p2), .val (.int p3), .val (.int p4), .val (.int p5), .val (.int p6), .val (.int (Int32.ofNat sN)), .val (.int (Int32.ofNat lN)), .val (.int (Int32.ofNat eN)), .val (.ref b7), .val (.ref b13), .val (.int (1 : Int32)), .val (.int ((Int32.ofNat sN) + (3 : Int32))), .val (.int (own_r (Int32.ofNat (sN + 2 + 1)) (Int32.ofNat eN)))] [])) _
          refine XS.iload X19.here hx rfl (hb hby at_215) rfl ?_
          show Steps p.tables e below (T19.setTop (mkF m 217 #[.val (.int p1), .val (.int p2), .val (.int p3), .val (.int p4), .val (.int p5), .val (.int p6), .val (.int (Int32.ofNat sN)), .val (.int (Int32.ofNat lN)), .val (.int (Int32.ofNat eN)), .val (.ref b7), .val (.ref b13), .val (.int (1 : Int32)), .val (.int ((Int32.ofNat sN) + (3 : Int32))), .val (.int (own_r (Int32.ofNat (sN + 2 + 1)) (Int32.ofNat eN)))] [(.int (1 : Int32))])) _
          have hc217 : ¬ ((1 : Int32) = (0 : Int32)) := by decide
          refine XS.ifNo X19.here hx rfl (hb hby at_217) rfl ((if0 _ _).trans (feq hc217).1) ?_
          show Steps p.tables e below (T19.setTop (mkF m 220 #[.val (.int p1), .val (.int p2), .val (.int p3), .val (.int p4), .val (.int p5), .val (.int p6), .val (.int (Int32.ofNat sN)), .val (.int (Int32.ofNat lN)), .val (.int (Int32.ofNat eN)), .val (.ref b7), .val (.ref b13), .val (.int (1 : Int32)), .val (.int ((Int32.ofNat sN) + (3 : Int32))), .val (.int (own_r (Int32.ofNat (sN + 2 + 1)) (Int32.ofNat eN)))] [])) _
          refine XS.iload X19.here hx rfl (hb hby at_220) rfl ?_
          show Steps p.tables e below (T19.setTop (mkF m 222 #[.val (.int p1), .val (.int p2), .val (.int p3), .val (.int p4), .val (.int p5), .val (.int p6), .val (.int (Int32.ofNat sN)), .val (.int (Int32.ofNat lN)), .val (.int (Int32.ofNat eN)), .val (.ref b7), .val (.ref b13), .val (.int (1 : Int32)), .val (.int ((Int32.ofNat sN) + (3 : Int32))), .val (.int (own_r (Int32.ofNat (sN + 2 + 1)) (Int32.ofNat eN)))] [(.int (own_r (Int32.ofNat (sN + 2 + 1)) (Int32.ofNat eN)))])) _
          refine XS.iload X19.here hx rfl (hb hby at_222) rfl ?_
          show Steps p.tables e below (T19.setTop (mkF m 224 #[.val (.int p1), .val (.int p2), .val (.int p3), .val (.int p4), .val (.int p5), .val (.int p6), .val (.int (Int32.ofNat sN)), .val (.int (Int32.ofNat lN)), .val (.int (Int32.ofNat eN)), .val (.ref b7), .val (.ref b13), .val (.int (1 : Int32)), .val (.int ((Int32.ofNat sN) + (3 : Int32))), .val (.int (own_r (Int32.ofNat (sN + 2 + 1)) (Int32.ofNat eN)))] [(.int ((Int32.ofNat sN) + (3 : Int32))), (.int (own_r (Int32.ofNat (sN + 2 + 1)) (Int32.ofNat eN)))])) _
          refine XS.iload X19.here hx rfl (hb hby at_224) rfl ?_
          show Steps p.tables e below (T19.setTop (mkF m 226 #[.val (.int p1), .val (.int p2), .val (.int p3), .val (.int p4), .val (.int p5), .val (.int p6), .val (.int (Int32.ofNat sN)), .val (.int (Int32.ofNat lN)), .val (.int (Int32.ofNat eN)), .val (.ref b7), .val (.ref b13), .val (.int (1 : Int32)), .val (.int ((Int32.ofNat sN) + (3 : Int32))), .val (.int (own_r (Int32.ofNat (sN + 2 + 1)) (Int32.ofNat eN)))] [(.int (Int32.ofNat eN)), (.int ((Int32.ofNat sN) + (3 : Int32))), (.int (own_r (Int32.ofNat (sN + 2 + 1)) (Int32.ofNat eN)))])) _
          have hc226 : ¬ (((Int32.ofNat sN) + (3 : Int32)) < (Int32.ofNat eN)) := by rw [own_p2, own_lt (by omega) (by omega)]; omega
          refine XS.icmpYes X19.here hx rfl (pc0 := 226) (pc' := 233) rfl (hb hby at_226) rfl (flt hc226).2.1 (by decide) (by decide) ?_
          show Steps p.tables e below (T19.setTop (mkF m 233 #[.val (.int p1), .val (.int p2), .val (.int p3), .val (.int p4), .val (.int p5), .val (.int p6), .val (.int (Int32.ofNat sN)), .val (.int (Int32.ofNat lN)), .val (.int (Int32.ofNat eN)), .val (.ref b7), .val (.ref b13), .val (.int (1 : Int32)), .val (.int ((Int32.ofNat sN) + (3 : Int32))), .val (.int (own_r (Int32.ofNat (sN + 2 + 1)) (Int32.ofNat eN)))] [(.int (own_r (Int32.ofNat (sN + 2 + 1)) (Int32.ofNat eN)))])) _
          refine XS.iconst X19.here hx rfl (hb hby at_233) ?_
          show Steps p.tables e below (T19.setTop (mkF m 234 #[.val (.int p1), .val (.int p2), .val (.int p3), .val (.int p4), .val (.int p5), .val (.int p6), .val (.int (Int32.ofNat sN)), .val (.int (Int32.ofNat lN)), .val (.int (Int32.ofNat eN)), .val (.ref b7), .val (.ref b13), .val (.int (1 : Int32)), .val (.int ((Int32.ofNat sN) + (3 : Int32))), .val (.int (own_r (Int32.ofNat (sN + 2 + 1)) (Int32.ofNat eN)))] [(.int (0 : Int32)), (.int (own_r (Int32.ofNat (sN + 2 + 1)) (Int32.ofNat eN)))])) _
          have hc234 : (own_r (Int32.ofNat (sN + 2 + 1)) (Int32.ofNat eN)) = (0 : Int32) := by have q := hc226; rw [own_p2] at q; exact if_neg q
          refine XS.icmpNo X19.here hx rfl (hb hby at_234) rfl (teq hc234).2 ?_
          show Steps p.tables e below (T19.setTop (mkF m 237 #[.val (.int p1), .val (.int p2), .val (.int p3), .val (.int p4), .val (.int p5), .val (.int p6), .val (.int (Int32.ofNat sN)), .val (.int (Int32.ofNat lN)), .val (.int (Int32.ofNat eN)), .val (.ref b7), .val (.ref b13), .val (.int (1 : Int32)), .val (.int ((Int32.ofNat sN) + (3 : Int32))), .val (.int (own_r (Int32.ofNat (sN + 2 + 1)) (Int32.ofNat eN)))] [])) _
          refine XS.iconst X19.here hx rfl (hb hby at_237) ?_
          show Steps p.tables e below (T19.setTop (mkF m 238 #[.val (.int p1), .val (.int p2), .val (.int p3), .val (.int p4), .val (.int p5), .val (.int p6), .val (.int (Int32.ofNat sN)), .val (.int (Int32.ofNat lN)), .val (.int (Int32.ofNat eN)), .val (.ref b7), .val (.ref b13), .val (.int (1 : Int32)), .val (.int ((Int32.ofNat sN) + (3 : Int32))), .val (.int (own_r (Int32.ofNat (sN + 2 + 1)) (Int32.ofNat eN)))] [(.int (1 : Int32))])) _
          refine XS.goto X19.here hx rfl (pc0 := 238) (pc' := 242) rfl (hb hby at_238) (by decide) (by decide) ?_
          show Steps p.tables e below (T19.setTop (mkF m 242 #[.val (.int p1), .val (.int p2), .val (.int p3), .val (.int p4), .val (.int p5), .val (.int p6), .val (.int (Int32.ofNat sN)), .val (.int (Int32.ofNat lN)), .val (.int (Int32.ofNat eN)), .val (.ref b7), .val (.ref b13), .val (.int (1 : Int32)), .val (.int ((Int32.ofNat sN) + (3 : Int32))), .val (.int (own_r (Int32.ofNat (sN + 2 + 1)) (Int32.ofNat eN)))] [(.int (1 : Int32))])) _
          exact retN X19 hx (t := .boolean) Bd.returns (by simp) (hb hby at_242) hr
        · show Q0 Z p1 p2 p3 p4 p5 p6 h0 n0 _ T19.heap _
          exact ⟨rfl, N19⟩
      · obtain ⟨cq18, kq18, q18a, q18b, q18c⟩ := isOf hZ rfl ((E_b13.keep Kci).keep Kc1)
        obtain ⟨_, _, ⟨T18, L18, k18, n18⟩, -, X18, ⟨Lc18, hQ18, l18, y18, z18⟩, st18⟩ := X15.virtualBack hx (y := (⟨"com/example/melete/melete/index/Decoder", "readVarint", "()J"⟩ : MethodName)) (z := (⟨"com/example/melete/melete/index/Decoder", "readVarint", "()J"⟩ : MethodName)) hown (mvT hZ (hw _ (List.mem_of_getElem? (i := 26) rfl))) (mvT hZ (hw _ (List.mem_of_getElem? (i := 27) rfl))) (notFace_of_selects (args := #[]) (mvT hZ (hw _ (List.mem_of_getElem? (i := 29) rfl)))) (mvT hZ (hw _ (List.mem_of_getElem? (i := 29) rfl))) (mvT hZ (hw _ (List.mem_of_getElem? (i := 28) rfl))) (by decide) (backOf (W := 0) (rm4 l Z a0 hw [] b13 b7 cl g sN 1 eN T15.heap n0 Z1 D1 B1 g_b13 hbd (by omega) (by omega) (fun j h1 h2 => by rw [show j = sN by omega]; exact hc165) hc184) hZ (hw _ (List.mem_of_getElem? (i := 30) rfl)) (hw _ (List.mem_of_getElem? (i := 4) rfl)) (by decide) (by decide)) q18a q18c (g := (mkF m 204 #[.val (.int p1), .val (.int p2), .val (.int p3), .val (.int p4), .val (.int p5), .val (.int p6), .val (.int (Int32.ofNat sN)), .val (.int (Int32.ofNat lN)), .val (.int (Int32.ofNat eN)), .val (.ref b7), .val (.ref b13), .val (.int (1 : Int32)), .val (.int ((Int32.ofNat sN) + (2 : Int32))), .unset] [(.ref b13)])) rfl (by rw [hml]; rfl) (Steps.refl _) (argsL := []) (rest := []) (lenOf pd_0_3 rfl) rfl (by show 2 * 0 + _ ≤ _; exact Nat.le_of_eq rfl) (hb hby at_204) (fun _ _ => ⟨rfl, rfl, (by decide : 2 + 0 ≤ _), (by decide : 9 + 0 ≤ _)⟩)
        dsimp only [Pt.U, Pt.locs, Pt.cells, Pt.slots] at X18 l18 y18 z18 st18 hQ18
        subst l18 y18 z18
        obtain ⟨xv, rfl, N18q, Kc2, D2⟩ := hQ18
        have Z2 := Nat.le_trans Z1 Kc2.1
        have N18 := Fr.app N15 N18q
        -- pc 210: com/example/melete/melete/index/Decoder.hasRemaining by the contract of the body that the receiver's class selects, rm3
        obtain ⟨cq19, kq19, q19a, q19b, q19c⟩ := isOf hZ rfl (((E_b13.keep Kci).keep Kc1).keep Kc2)
        obtain ⟨_, _, ⟨T19, L19, k19, n19⟩, -, X19, ⟨Lc19, hQ19, l19, y19, z19⟩, st19⟩ := X18.virtualBack hx (y := (⟨"com/example/melete/melete/index/Decoder", "hasRemaining", "()Z"⟩ : MethodName)) (z := (⟨"com/example/melete/melete/index/Decoder", "hasRemaining", "()Z"⟩ : MethodName)) hown (mvT hZ (hw _ (List.mem_of_getElem? (i := 21) rfl))) (mvT hZ (hw _ (List.mem_of_getElem? (i := 22) rfl))) (notFace_of_selects (args := #[]) (mvT hZ (hw _ (List.mem_of_getElem? (i := 24) rfl)))) (mvT hZ (hw _ (List.mem_of_getElem? (i := 24) rfl))) (mvT hZ (hw _ (List.mem_of_getElem? (i := 23) rfl))) (by decide) (backOf (W := 0) (rm3 l Z a0 hw [] b13 b7 (Int32.ofNat (sN + 1 + 1)) (Int32.ofNat eN) T18.heap n0 Z2 D2) hZ (hw _ (List.mem_of_getElem? (i := 25) rfl)) (hw _ (List.mem_of_getElem? (i := 4) rfl)) (by decide) (by decide)) q19a q19c (g := (mkF m 210 #[.val (.int p1), .val (.int p2), .val (.int p3), .val (.int p4), .val (.int p5), .val (.int p6), .val (.int (Int32.ofNat sN)), .val (.int (Int32.ofNat lN)), .val (.int (Int32.ofNat eN)), .val (.ref b7), .val (.ref b13), .val (.int (1 : Int32)), .val (.int ((Int32.ofNat sN) + (2 : Int32))), .unset] [(.ref b13)])) rfl (by rw [hml]; rfl) (Steps.refl _) (argsL := []) (rest := []) (lenOf pd_0_2 rfl) rfl (by show 2 * 0 + _ ≤ _; exact Nat.le_of_eq rfl) (hb hby at_210) (fun _ _ => ⟨rfl, rfl, (by decide : 2 + 0 ≤ _), (by decide : 9 + 0 ≤ _)⟩)
        dsimp only [Pt.U, Pt.locs, Pt.cells, Pt.slots] at X19 l19 y19 z19 st19 hQ19
        subst l19 y19 z19
        obtain ⟨rfl, N19q, hh3⟩ := hQ19
        have N19 := Fr.app N18 N19q
        obtain ⟨fs, hr, hrun, hended, hW, hsame⟩ := X19.leave (v := some (.int (1 : Int32))) (fun h => by rw [Bd.returns] at h; cases h)
        refine ⟨_, _, pre0 _ (preh _ ?_), hrun, hended, _, _, rfl, ?_, ⟨_, rfl⟩, hW, hsame.mono (by decide) (by decide)⟩
        · show Steps p.tables e below (s₁.setTop (mkF m 71 #[.val (.int p1), .val (.int p2), .val (.int p3), .val (.int p4), .val (.int p5), .val (.int p6), .val (.int (Int32.ofNat sN)), .val (.int (Int32.ofNat lN)), .val (.int (Int32.ofNat eN)), .unset, .unset, .unset, .unset, .unset] [])) _
          refine XS.iconst X0.here hx rfl (hb hby at_71) ?_
          show Steps p.tables e below (s₁.setTop (mkF m 72 #[.val (.int p1), .val (.int p2), .val (.int p3), .val (.int p4), .val (.int p5), .val (.int p6), .val (.int (Int32.ofNat sN)), .val (.int (Int32.ofNat lN)), .val (.int (Int32.ofNat eN)), .unset, .unset, .unset, .unset, .unset] [(.int (3 : Int32))])) _
          refine st7 _ ?_
          show Steps p.tables e below (T7.setTop (mkF m 74 #[.val (.int p1), .val (.int p2), .val (.int p3), .val (.int p4), .val (.int p5), .val (.int p6), .val (.int (Int32.ofNat sN)), .val (.int (Int32.ofNat lN)), .val (.int (Int32.ofNat eN)), .unset, .unset, .unset, .unset, .unset] [(.ref b7)])) _
          refine XS.astore X7.here hx rfl (hb hby at_74) rfl rfl (l' := #[.val (.int p1), .val (.int p2), .val (.int p3), .val (.int p4), .val (.int p5), .val (.int p6), .val (.int (Int32.ofNat sN)), .val (.int (Int32.ofNat lN)), .val (.int (Int32.ofNat eN)), .val (.ref b7), .unset, .unset, .unset, .unset]) rfl ?_
          show Steps p.tables e below (T7.setTop (mkF m 76 #[.val (.int p1), .val (.int p2), .val (.int p3), .val (.int p4), .val (.int p5), .val (.int p6), .val (.int (Int32.ofNat sN)), .val (.int (Int32.ofNat lN)), .val (.int (Int32.ofNat eN)), .val (.ref b7), .unset, .unset, .unset, .unset] [])) _
          refine XS.aload X7.here hx rfl (hb hby at_76) rfl rfl ?_
          show Steps p.tables e below (T7.setTop (mkF m 78 #[.val (.int p1), .val (.int p2), .val (.int p3), .val (.int p4), .val (.int p5), .val (.int p6), .val (.int (Int32.ofNat sN)), .val (.int (Int32.ofNat lN)), .val (.int (Int32.ofNat eN)), .val (.ref b7), .unset, .unset, .unset, .unset] [(.ref b7)])) _
          refine XS.iconst X7.here hx rfl (hb hby at_78) ?_
          show Steps p.tables e below (T7.setTop (mkF m 79 #[.val (.int p1), .val (.int p2), .val (.int p3), .val (.int p4), .val (.int p5), .val (.int p6), .val (.int (Int32.ofNat sN)), .val (.int (Int32.ofNat lN)), .val (.int (Int32.ofNat eN)), .val (.ref b7), .unset, .unset, .unset, .unset] [(.int (0 : Int32)), (.ref b7)])) _
          refine XS.iloadN X7.here hx rfl (hb hby at_79) rfl ?_
          show Steps p.tables e below (T7.setTop (mkF m 80 #[.val (.int p1), .val (.int p2), .val (.int p3), .val (.int p4), .val (.int p5), .val (.int p6), .val (.int (Int32.ofNat sN)), .val (.int (Int32.ofNat lN)), .val (.int (Int32.ofNat eN)), .val (.ref b7), .unset, .unset, .unset, .unset] [(.int p3), (.int (0 : Int32)), (.ref b7)])) _
          refine XS.i2b X7.here hx rfl (hb hby at_80) rfl ?_
          show Steps p.tables e below (T7.setTop (mkF m 81 #[.val (.int p1), .val (.int p2), .val (.int p3), .val (.int p4), .val (.int p5), .val (.int p6), .val (.int (Int32.ofNat sN)), .val (.int (Int32.ofNat lN)), .val (.int (Int32.ofNat eN)), .val (.ref b7), .unset, .unset, .unset, .unset] [(.int (p3.toInt8.toInt32)), (.int (0 : Int32)), (.ref b7)])) _
          refine st8 _ ?_
          show Steps p.tables e below (T8.setTop (mkF m 82 #[.val (.int p1), .val (.int p2), .val (.int p3), .val (.int p4), .val (.int p5), .val (.int p6), .val (.int (Int32.ofNat sN)), .val (.int (Int32.ofNat lN)), .val (.int (Int32.ofNat eN)), .val (.ref b7), .unset, .unset, .unset, .unset] [])) _
          refine XS.aload X8.here hx rfl (hb hby at_82) rfl rfl ?_
          show Steps p.tables e below (T8.setTop (mkF m 84 #[.val (.int p1), .val (.int p2), .val (.int p3), .val (.int p4), .val (.int p5), .val (.int p6), .val (.int (Int32.ofNat sN)), .val (.int (Int32.ofNat lN)), .val (.int (Int32.ofNat eN)), .val (.ref b7), .unset, .unset, .unset, .unset] [(.ref b7)])) _
          refine XS.iconst X8.here hx rfl (hb hby at_84) ?_
          show Steps p.tables e below (T8.setTop (mkF m 85 #[.val (.int p1), .val (.int p2), .val (.int p3), .val (.int p4), .val (.int p5), .val (.int p6), .val (.int (Int32.ofNat sN)), .val (.int (Int32.ofNat lN)), .val (.int (Int32.ofNat eN)), .val (.ref b7), .unset, .unset, .unset, .unset] [(.int (1 : Int32)), (.ref b7)])) _
          refine XS.iloadN X8.here hx rfl (hb hby at_85) rfl ?_
          show Steps p.tables e below (T8.setTop (mkF m 86 #[.val (.int p1), .val (.int p2), .val (.int p3), .val (.int p4), .val (.int p5), .val (.int p6), .val (.int (Int32.ofNat sN)), .val (.int (Int32.ofNat lN)), .val (.int (Int32.ofNat eN)), .val (.ref b7), .unset, .unset, .unset, .unset] [(.int p4), (.int (1 : Int32)), (.ref b7)])) _
          refine XS.i2b X8.here hx rfl (hb hby at_86) rfl ?_
          show Steps p.tables e below (T8.setTop (mkF m 87 #[.val (.int p1), .val (.int p2), .val (.int p3), .val (.int p4), .val (.int p5), .val (.int p6), .val (.int (Int32.ofNat sN)), .val (.int (Int32.ofNat lN)), .val (.int (Int32.ofNat eN)), .val (.ref b7), .unset, .unset, .unset, .unset] [(.int (p4.toInt8.toInt32)), (.int (1 : Int32)), (.ref b7)])) _
          refine st9 _ ?_
          show Steps p.tables e below (T9.setTop (mkF m 88 #[.val (.int p1), .val (.int p2), .val (.int p3), .val (.int p4), .val (.int p5), .val (.int p6), .val (.int (Int32.ofNat sN)), .val (.int (Int32.ofNat lN)), .val (.int (Int32.ofNat eN)), .val (.ref b7), .unset, .unset, .unset, .unset] [])) _
          refine XS.aload X9.here hx rfl (hb hby at_88) rfl rfl ?_
          show Steps p.tables e below (T9.setTop (mkF m 90 #[.val (.int p1), .val (.int p2), .val (.int p3), .val (.int p4), .val (.int p5), .val (.int p6), .val (.int (Int32.ofNat sN)), .val (.int (Int32.ofNat lN)), .val (.int (Int32.ofNat eN)), .val (.ref b7), .unset, .unset, .unset, .unset] [(.ref b7)])) _
          refine XS.iconst X9.here hx rfl (hb hby at_90) ?_
          show Steps p.tables e below (T9.setTop (mkF m 91 #[.val (.int p1), .val (.int p2), .val (.int p3), .val (.int p4), .val (.int p5), .val (.int p6), .val (.int (Int32.ofNat sN)), .val (.int (Int32.ofNat lN)), .val (.int (Int32.ofNat eN)), .val (.ref b7), .unset, .unset, .unset, .unset] [(.int (2 : Int32)), (.ref b7)])) _
          refine XS.iload X9.here hx rfl (hb hby at_91) rfl ?_
          show Steps p.tables e below (T9.setTop (mkF m 93 #[.val (.int p1), .val (.int p2), .val (.int p3), .val (.int p4), .val (.int p5), .val (.int p6), .val (.int (Int32.ofNat sN)), .val (.int (Int32.ofNat lN)), .val (.int (Int32.ofNat eN)), .val (.ref b7), .unset, .unset, .unset, .unset] [(.int p5), (.int (2 : Int32)), (.ref b7)])) _
          refine XS.i2b X9.here hx rfl (hb hby at_93) rfl ?_
          show Steps p.tables e below (T9.setTop (mkF m 94 #[.val (.int p1), .val (.int p2), .val (.int p3), .val (.int p4), .val (.int p5), .val (.int p6), .val (.int (Int32.ofNat sN)), .val (.int (Int32.ofNat lN)), .val (.int (Int32.ofNat eN)), .val (.ref b7), .unset, .unset, .unset, .unset] [(.int (p5.toInt8.toInt32)), (.int (2 : Int32)), (.ref b7)])) _
          refine st10 _ ?_
          show Steps p.tables e below (T10.setTop (mkF m 95 #[.val (.int p1), .val (.int p2), .val (.int p3), .val (.int p4), .val (.int p5), .val (.int p6), .val (.int (Int32.ofNat sN)), .val (.int (Int32.ofNat lN)), .val (.int (Int32.ofNat eN)), .val (.ref b7), .unset, .unset, .unset, .unset] [])) _
          refine XS.iload X10.here hx rfl (hb hby at_95) rfl ?_
          show Steps p.tables e below (T10.setTop (mkF m 97 #[.val (.int p1), .val (.int p2), .val (.int p3), .val (.int p4), .val (.int p5), .val (.int p6), .val (.int (Int32.ofNat sN)), .val (.int (Int32.ofNat lN)), .val (.int (Int32.ofNat eN)), .val (.ref b7), .unset, .unset, .unset, .unset] [(.int (Int32.ofNat eN))])) _
          refine XS.iload X10.here hx rfl (hb hby at_97) rfl ?_
          show Steps p.tables e below (T10.setTop (mkF m 99 #[.val (.int p1), .val (.int p2), .val (.int p3), .val (.int p4), .val (.int p5), .val (.int p6), .val (.int (Int32.ofNat sN)), .val (.int (Int32.ofNat lN)), .val (.int (Int32.ofNat eN)), .val (.ref b7), .unset, .unset, .unset, .unset] [(.int (Int32.ofNat sN)), (.int (Int32.ofNat eN))])) _
          refine XS.icmpNo X10.here hx rfl (hb hby at_99) rfl (tlt hc99).2.2.2 ?_
          show Steps p.tables e below (T10.setTop (mkF m 102 #[.val (.int p1), .val (.int p2), .val (.int p3), .val (.int p4), .val (.int p5), .val (.int p6), .val (.int (Int32.ofNat sN)), .val (.int (Int32.ofNat lN)), .val (.int (Int32.ofNat eN)), .val (.ref b7), .unset, .unset, .unset, .unset] [])) _
          refine XS.aload X10.here hx rfl (hb hby at_102) rfl rfl ?_
          show Steps p.tables e below (T10.setTop (mkF m 104 #[.val (.int p1), .val (.int p2), .val (.int p3), .val (.int p4), .val (.int p5), .val (.int p6), .val (.int (Int32.ofNat sN)), .val (.int (Int32.ofNat lN)), .val (.int (Int32.ofNat eN)), .val (.ref b7), .unset, .unset, .unset, .unset] [(.ref b7)])) _
          refine XS.iload X10.here hx rfl (hb hby at_104) rfl ?_
          show Steps p.tables e below (T10.setTop (mkF m 106 #[.val (.int p1), .val (.int p2), .val (.int p3), .val (.int p4), .val (.int p5), .val (.int p6), .val (.int (Int32.ofNat sN)), .val (.int (Int32.ofNat lN)), .val (.int (Int32.ofNat eN)), .val (.ref b7), .unset, .unset, .unset, .unset] [(.int (Int32.ofNat eN)), (.ref b7)])) _
          refine XS.iconst X10.here hx rfl (hb hby at_106) ?_
          show Steps p.tables e below (T10.setTop (mkF m 107 #[.val (.int p1), .val (.int p2), .val (.int p3), .val (.int p4), .val (.int p5), .val (.int p6), .val (.int (Int32.ofNat sN)), .val (.int (Int32.ofNat lN)), .val (.int (Int32.ofNat eN)), .val (.ref b7), .unset, .unset, .unset, .unset] [(.int (1 : Int32)), (.int (Int32.ofNat eN)), (.ref b7)])) _
          refine XS.isub X10.here hx rfl (hb hby at_107) rfl ?_
          show Steps p.tables e below (T10.setTop (mkF m 108 #[.val (.int p1), .val (.int p2), .val (.int p3), .val (.int p4), .val (.int p5), .val (.int p6), .val (.int (Int32.ofNat sN)), .val (.int (Int32.ofNat lN)), .val (.int (Int32.ofNat eN)), .val (.ref b7), .unset, .unset, .unset, .unset] [(.int ((Int32.ofNat eN) - (1 : Int32))), (.ref b7)])) _
          refine XS.aload X10.here hx rfl (hb hby at_108) rfl rfl ?_
          show Steps p.tables e below (T10.setTop (mkF m 110 #[.val (.int p1), .val (.int p2), .val (.int p3), .val (.int p4), .val (.int p5), .val (.int p6), .val (.int (Int32.ofNat sN)), .val (.int (Int32.ofNat lN)), .val (.int (Int32.ofNat eN)), .val (.ref b7), .unset, .unset, .unset, .unset] [(.ref b7), (.int ((Int32.ofNat eN) - (1 : Int32))), (.ref b7)])) _
          refine XS.iload X10.here hx rfl (hb hby at_110) rfl ?_
          show Steps p.tables e below (T10.setTop (mkF m 112 #[.val (.int p1), .val (.int p2), .val (.int p3), .val (.int p4), .val (.int p5), .val (.int p6), .val (.int (Int32.ofNat sN)), .val (.int (Int32.ofNat lN)), .val (.int (Int32.ofNat eN)), .val (.ref b7), .unset, .unset, .unset, .unset] [(.int (Int32.ofNat eN)), (.ref b7), (.int ((Int32.ofNat eN) - (1 : Int32))), (.ref b7)])) _
          refine XS.iconst X10.here hx rfl (hb hby at_112) ?_
          show Steps p.tables e below (T10.setTop (mkF m 113 #[.val (.int p1), .val (.int p2), .val (.int p3), .val (.int p4), .val (.int p5), .val (.int p6), .val (.int (Int32.ofNat sN)), .val (.int (Int32.ofNat lN)), .val (.int (Int32.ofNat eN)), .val (.ref b7), .unset, .unset, .unset, .unset] [(.int (1 : Int32)), (.int (Int32.ofNat eN)), (.ref b7), (.int ((Int32.ofNat eN) - (1 : Int32))), (.ref b7)])) _
          refine XS.isub X10.here hx rfl (hb hby at_113) rfl ?_
          show Steps p.tables e below (T10.setTop (mkF m 114 #[.val (.int p1), .val (.int p2), .val (.int p3), .val (.int p4), .val (.int p5), .val (.int p6), .val (.int (Int32.ofNat sN)), .val (.int (Int32.ofNat lN)), .val (.int (Int32.ofNat eN)), .val (.ref b7), .unset, .unset, .unset, .unset] [(.int ((Int32.ofNat eN) - (1 : Int32))), (.ref b7), (.int ((Int32.ofNat eN) - (1 : Int32))), (.ref b7)])) _
          refine X10.baloadBytes hx (j := ((Int32.ofNat eN) - (1 : Int32))) (v := (.int (gw (eN - 1)))) (by rw [e10]; exact Bw.1.1) (State.isArrayOf_alike hZ.alike Bw.1.2.1) Bw.1.2.2 hin114 hat114 (g := (mkF m 114 #[.val (.int p1), .val (.int p2), .val (.int p3), .val (.int p4), .val (.int p5), .val (.int p6), .val (.int (Int32.ofNat sN)), .val (.int (Int32.ofNat lN)), .val (.int (Int32.ofNat eN)), .val (.ref b7), .unset, .unset, .unset, .unset] [(.int ((Int32.ofNat eN) - (1 : Int32))), (.ref b7), (.int ((Int32.ofNat eN) - (1 : Int32))), (.ref b7)])) rfl rfl (hb hby at_114) _ ?_
          show Steps p.tables e below (T10.setTop (mkF m 115 #[.val (.int p1), .val (.int p2), .val (.int p3), .val (.int p4), .val (.int p5), .val (.int p6), .val (.int (Int32.ofNat sN)), .val (.int (Int32.ofNat lN)), .val (.int (Int32.ofNat eN)), .val (.ref b7), .unset, .unset, .unset, .unset] [(.int (gw (eN - 1))), (.int ((Int32.ofNat eN) - (1 : Int32))), (.ref b7)])) _
          refine XS.bipush X10.here hx rfl (hb hby at_115) ?_
          show Steps p.tables e below (T10.setTop (mkF m 117 #[.val (.int p1), .val (.int p2), .val (.int p3), .val (.int p4), .val (.int p5), .val (.int p6), .val (.int (Int32.ofNat sN)), .val (.int (Int32.ofNat lN)), .val (.int (Int32.ofNat eN)), .val (.ref b7), .unset, .unset, .unset, .unset] [(.int (127 : Int32)), (.int (gw (eN - 1))), (.int ((Int32.ofNat eN) - (1 : Int32))), (.ref b7)])) _
          refine XS.iand X10.here hx rfl (hb hby at_117) rfl ?_
          show Steps p.tables e below (T10.setTop (mkF m 118 #[.val (.int p1), .val (.int p2), .val (.int p3), .val (.int p4), .val (.int p5), .val (.int p6), .val (.int (Int32.ofNat sN)), .val (.int (Int32.ofNat lN)), .val (.int (Int32.ofNat eN)), .val (.ref b7), .unset, .unset, .unset, .unset] [(.int ((gw (eN - 1)) &&& (127 : Int32))), (.int ((Int32.ofNat eN) - (1 : Int32))), (.ref b7)])) _
          refine XS.i2b X10.here hx rfl (hb hby at_118) rfl ?_
          show Steps p.tables e below (T10.setTop (mkF m 119 #[.val (.int p1), .val (.int p2), .val (.int p3), .val (.int p4), .val (.int p5), .val (.int p6), .val (.int (Int32.ofNat sN)), .val (.int (Int32.ofNat lN)), .val (.int (Int32.ofNat eN)), .val (.ref b7), .unset, .unset, .unset, .unset] [(.int (((gw (eN - 1)) &&& (127 : Int32)).toInt8.toInt32)), (.int ((Int32.ofNat eN) - (1 : Int32))), (.ref b7)])) _
          refine st12 _ ?_
          show Steps p.tables e below (T12.setTop (mkF m 120 #[.val (.int p1), .val (.int p2), .val (.int p3), .val (.int p4), .val (.int p5), .val (.int p6), .val (.int (Int32.ofNat sN)), .val (.int (Int32.ofNat lN)), .val (.int (Int32.ofNat eN)), .val (.ref b7), .unset, .unset, .unset, .unset] [])) _
          refine st13 _ ?_
          show Steps p.tables e below (T13.setTop (mkF m 123 #[.val (.int p1), .val (.int p2), .val (.int p3), .val (.int p4), .val (.int p5), .val (.int p6), .val (.int (Int32.ofNat sN)), .val (.int (Int32.ofNat lN)), .val (.int (Int32.ofNat eN)), .val (.ref b7), .unset, .unset, .unset, .unset] [(.ref b13)])) _
          refine XS.dup X13.here hx rfl (hb hby at_123) rfl rfl ?_
          show Steps p.tables e below (T13.setTop (mkF m 124 #[.val (.int p1), .val (.int p2), .val (.int p3), .val (.int p4), .val (.int p5), .val (.int p6), .val (.int (Int32.ofNat sN)), .val (.int (Int32.ofNat lN)), .val (.int (Int32.ofNat eN)), .val (.ref b7), .unset, .unset, .unset, .unset] [(.ref b13), (.ref b13)])) _
          refine XS.aload X13.here hx rfl (hb hby at_124) rfl rfl ?_
          show Steps p.tables e below (T13.setTop (mkF m 126 #[.val (.int p1), .val (.int p2), .val (.int p3), .val (.int p4), .val (.int p5), .val (.int p6), .val (.int (Int32.ofNat sN)), .val (.int (Int32.ofNat lN)), .val (.int (Int32.ofNat eN)), .val (.ref b7), .unset, .unset, .unset, .unset] [(.ref b7), (.ref b13), (.ref b13)])) _
          refine XS.iload X13.here hx rfl (hb hby at_126) rfl ?_
          show Steps p.tables e below (T13.setTop (mkF m 128 #[.val (.int p1), .val (.int p2), .val (.int p3), .val (.int p4), .val (.int p5), .val (.int p6), .val (.int (Int32.ofNat sN)), .val (.int (Int32.ofNat lN)), .val (.int (Int32.ofNat eN)), .val (.ref b7), .unset, .unset, .unset, .unset] [(.int (Int32.ofNat sN)), (.ref b7), (.ref b13), (.ref b13)])) _
          refine XS.iload X13.here hx rfl (hb hby at_128) rfl ?_
          show Steps p.tables e below (T13.setTop (mkF m 130 #[.val (.int p1), .val (.int p2), .val (.int p3), .val (.int p4), .val (.int p5), .val (.int p6), .val (.int (Int32.ofNat sN)), .val (.int (Int32.ofNat lN)), .val (.int (Int32.ofNat eN)), .val (.ref b7), .unset, .unset, .unset, .unset] [(.int (Int32.ofNat eN)), (.int (Int32.ofNat sN)), (.ref b7), (.ref b13), (.ref b13)])) _
          refine st14.trans ?_
          show Steps p.tables e below (T14.setTop (mkF m 133 #[.val (.int p1), .val (.int p2), .val (.int p3), .val (.int p4), .val (.int p5), .val (.int p6), .val (.int (Int32.ofNat sN)), .val (.int (Int32.ofNat lN)), .val (.int (Int32.ofNat eN)), .val (.ref b7), .unset, .unset, .unset, .unset] [(.ref b13)])) _
          refine XS.astore X14.here hx rfl (hb hby at_133) rfl rfl (l' := #[.val (.int p1), .val (.int p2), .val (.int p3), .val (.int p4), .val (.int p5), .val (.int p6), .val (.int (Int32.ofNat sN)), .val (.int (Int32.ofNat lN)), .val (.int (Int32.ofNat eN)), .val (.ref b7), .val (.ref b13), .unset, .unset, .unset]) rfl ?_
          show Steps p.tables e below (T14.setTop (mkF m 135 #[.val (.int p1), .val (.int p2), .val (.int p3), .val (.int p4), .val (.int p5), .val (.int p6), .val (.int (Int32.ofNat sN)), .val (.int (Int32.ofNat lN)), .val (.int (Int32.ofNat eN)), .val (.ref b7), .val (.ref b13), .unset, .unset, .unset] [])) _
          refine XS.aload X14.here hx rfl (hb hby at_135) rfl rfl ?_
          show Steps p.tables e below (T14.setTop (mkF m 137 #[.val (.int p1), .val (.int p2), .val (.int p3), .val (.int p4), .val (.int p5), .val (.int p6), .val (.int (Int32.ofNat sN)), .val (.int (Int32.ofNat lN)), .val (.int (Int32.ofNat eN)), .val (.ref b7), .val (.ref b13), .unset, .unset, .unset] [(.ref b13)])) _
          refine st15.trans ?_
          show Steps p.tables e below (T15.setTop (mkF m 140 #[.val (.int p1), .val (.int p2), .val (.int p3), .val (.int p4), .val (.int p5), .val (.int p6), .val (.int (Int32.ofNat sN)), .val (.int (Int32.ofNat lN)), .val (.int (Int32.ofNat eN)), .val (.ref b7), .val (.ref b13), .unset, .unset, .unset] [(.int (1 : Int32))])) _
          refine XS.istore X15.here hx rfl (hb hby at_140) rfl (l' := #[.val (.int p1), .val (.int p2), .val (.int p3), .val (.int p4), .val (.int p5), .val (.int p6), .val (.int (Int32.ofNat sN)), .val (.int (Int32.ofNat lN)), .val (.int (Int32.ofNat eN)), .val (.ref b7), .val (.ref b13), .val (.int (1 : Int32)), .unset, .unset]) rfl ?_
          show Steps p.tables e below (T15.setTop (mkF m 142 #[.val (.int p1), .val (.int p2), .val (.int p3), .val (.int p4), .val (.int p5), .val (.int p6), .val (.int (Int32.ofNat sN)), .val (.int (Int32.ofNat lN)), .val (.int (Int32.ofNat eN)), .val (.ref b7), .val (.ref b13), .val (.int (1 : Int32)), .unset, .unset] [])) _
          refine XS.iload X15.here hx rfl (hb hby at_142) rfl ?_
          show Steps p.tables e below (T15.setTop (mkF m 144 #[.val (.int p1), .val (.int p2), .val (.int p3), .val (.int p4), .val (.int p5), .val (.int p6), .val (.int (Int32.ofNat sN)), .val (.int (Int32.ofNat lN)), .val (.int (Int32.ofNat eN)), .val (.ref b7), .val (.ref b13), .val (.int (1 : Int32)), .unset, .unset] [(.int (Int32.ofNat sN))])) _
          refine XS.iload X15.here hx rfl (hb hby at_144) rfl ?_
          show Steps p.tables e below (T15.setTop (mkF m 146 #[.val (.int p1), .val (.int p2), .val (.int p3), .val (.int p4), .val (.int p5), .val (.int p6), .val (.int (Int32.ofNat sN)), .val (.int (Int32.ofNat lN)), .val (.int (Int32.ofNat eN)), .val (.ref b7), .val (.ref b13), .val (.int (1 : Int32)), .unset, .unset] [(.int (Int32.ofNat eN)), (.int (Int32.ofNat sN))])) _
          have hc146 : (Int32.ofNat sN) < (Int32.ofNat eN) := hc99
          refine XS.icmpYes X15.here hx rfl (pc0 := 146) (pc' := 160) rfl (hb hby at_146) rfl (tlt hc146).1 (by decide) (by decide) ?_
          show Steps p.tables e below (T15.setTop (mkF m 160 #[.val (.int p1), .val (.int p2), .val (.int p3), .val (.int p4), .val (.int p5), .val (.int p6), .val (.int (Int32.ofNat sN)), .val (.int (Int32.ofNat lN)), .val (.int (Int32.ofNat eN)), .val (.ref b7), .val (.ref b13), .val (.int (1 : Int32)), .unset, .unset] [])) _
          refine XS.aload X15.here hx rfl (hb hby at_160) rfl rfl ?_
          show Steps p.tables e below (T15.setTop (mkF m 162 #[.val (.int p1), .val (.int p2), .val (.int p3), .val (.int p4), .val (.int p5), .val (.int p6), .val (.int (Int32.ofNat sN)), .val (.int (Int32.ofNat lN)), .val (.int (Int32.ofNat eN)), .val (.ref b7), .val (.ref b13), .val (.int (1 : Int32)), .unset, .unset] [(.ref b7)])) _
          refine XS.iload X15.here hx rfl (hb hby at_162) rfl ?_
          show Steps p.tables e below (T15.setTop (mkF m 164 #[.val (.int p1), .val (.int p2), .val (.int p3), .val (.int p4), .val (.int p5), .val (.int p6), .val (.int (Int32.ofNat sN)), .val (.int (Int32.ofNat lN)), .val (.int (Int32.ofNat eN)), .val (.ref b7), .val (.ref b13), .val (.int (1 : Int32)), .unset, .unset] [(.int (Int32.ofNat sN)), (.ref b7)])) _
          have hat164 : cl.slots[(Int32.ofNat sN).toNatClampNeg]? = some (.int (g sN)) := own_at B1 (by omega)
          have hin164 : ¬ ((Int32.ofNat sN) < 0 ∨ cl.slots.size ≤ (Int32.ofNat sN).toNatClampNeg) := own_in B1.2.1 (by omega)
          refine X15.baloadBytes hx (j := (Int32.ofNat sN)) (v := (.int (g sN))) (by exact B1.1.1) (State.isArrayOf_alike hZ.alike B1.1.2.1) B1.1.2.2 hin164 hat164 (g := (mkF m 164 #[.val (.int p1), .val (.int p2), .val (.int p3), .val (.int p4), .val (.int p5), .val (.int p6), .val (.int (Int32.ofNat sN)), .val (.int (Int32.ofNat lN)), .val (.int (Int32.ofNat eN)), .val (.ref b7), .val (.ref b13), .val (.int (1 : Int32)), .unset, .unset] [(.int (Int32.ofNat sN)), (.ref b7)])) rfl rfl (hb hby at_164) _ ?_
          show Steps p.tables e below (T15.setTop (mkF m 165 #[.val (.int p1), .val (.int p2), .val (.int p3), .val (.int p4), .val (.int p5), .val (.int p6), .val (.int (Int32.ofNat sN)), .val (.int (Int32.ofNat lN)), .val (.int (Int32.ofNat eN)), .val (.ref b7), .val (.ref b13), .val (.int (1 : Int32)), .unset, .unset] [(.int (g sN))])) _
          refine XS.ifYes X15.here hx rfl (pc0 := 165) (pc' := 177) rfl (hb hby at_165) rfl ((if0 _ _).trans (tlt hc165).1) (by decide) (by decide) ?_
          show Steps p.tables e below (T15.setTop (mkF m 177 #[.val (.int p1), .val (.int p2), .val (.int p3), .val (.int p4), .val (.int p5), .val (.int p6), .val (.int (Int32.ofNat sN)), .val (.int (Int32.ofNat lN)), .val (.int (Int32.ofNat eN)), .val (.ref b7), .val (.ref b13), .val (.int (1 : Int32)), .unset, .unset] [])) _
          refine XS.aload X15.here hx rfl (hb hby at_177) rfl rfl ?_
          show Steps p.tables e below (T15.setTop (mkF m 179 #[.val (.int p1), .val (.int p2), .val (.int p3), .val (.int p4), .val (.int p5), .val (.int p6), .val (.int (Int32.ofNat sN)), .val (.int (Int32.ofNat lN)), .val (.int (Int32.ofNat eN)), .val (.ref b7), .val (.ref b13), .val (.int (1 : Int32)), .unset, .unset] [(.ref b7)])) _
          refine XS.iload X15.here hx rfl (hb hby at_179) rfl ?_
          show Steps p.tables e below (T15.setTop (mkF m 181 #[.val (.int p1), .val (.int p2), .val (.int p3), .val (.int p4), .val (.int p5), .val (.int p6), .val (.int (Int32.ofNat sN)), .val (.int (Int32.ofNat lN)), .val (.int (Int32.ofNat eN)), .val (.ref b7), .val (.ref b13), .val (.int (1 : Int32)), .unset, .unset] [(.int (Int32.ofNat sN)), (.ref b7)])) _
          refine XS.iconst X15.here hx rfl (hb hby at_181) ?_
          show Steps p.tables e below (T15.setTop (mkF m 182 #[.val (.int p1), .val (.int p2), .val (.int p3), .val (.int p4), .val (.int p5), .val (.int p6), .val (.int (Int32.ofNat sN)), .val (.int (Int32.ofNat lN)), .val (.int (Int32.ofNat eN)), .val (.ref b7), .val (.ref b13), .val (.int (1 : Int32)), .unset, .unset] [(.int (1 : Int32)), (.int (Int32.ofNat sN)), (.ref b7)])) _
          refine XS.iadd X15.here hx rfl (hb hby at_182) rfl ?_
          show Steps p.tables e below (T15.setTop (mkF m 183 #[.val (.int p1), .val (.int p2), .val (.int p3), .val (.int p4), .val (.int p5), .val (.int p6), .val (.int (Int32.ofNat sN)), .val (.int (Int32.ofNat lN)), .val (.int (Int32.ofNat eN)), .val (.ref b7), .val (.ref b13), .val (.int (1 : Int32)), .unset, .unset] [(.int ((Int32.ofNat sN) + (1 : Int32))), (.ref b7)])) _
          have hat183 : cl.slots[((Int32.ofNat sN) + (1 : Int32)).toNatClampNeg]? = some (.int (g (sN + 1))) := by rw [own_s1]; exact own_at B1 (by omega)
          have hin183 : ¬ (((Int32.ofNat sN) + (1 : Int32)) < 0 ∨ cl.slots.size ≤ ((Int32.ofNat sN) + (1 : Int32)).toNatClampNeg) := by rw [own_s1]; exact own_in B1.2.1 (by omega)
          refine X15.baloadBytes hx (j := ((Int32.ofNat sN) + (1 : Int32))) (v := (.int (g (sN + 1)))) (by exact B1.1.1) (State.isArrayOf_alike hZ.alike B1.1.2.1) B1.1.2.2 hin183 hat183 (g := (mkF m 183 #[.val (.int p1), .val (.int p2), .val (.int p3), .val (.int p4), .val (.int p5), .val (.int p6), .val (.int (Int32.ofNat sN)), .val (.int (Int32.ofNat lN)), .val (.int (Int32.ofNat eN)), .val (.ref b7), .val (.ref b13), .val (.int (1 : Int32)), .unset, .unset] [(.int ((Int32.ofNat sN) + (1 : Int32))), (.ref b7)])) rfl rfl (hb hby at_183) _ ?_
          show Steps p.tables e below (T15.setTop (mkF m 184 #[.val (.int p1), .val (.int p2), .val (.int p3), .val (.int p4), .val (.int p5), .val (.int p6), .val (.int (Int32.ofNat sN)), .val (.int (Int32.ofNat lN)), .val (.int (Int32.ofNat eN)), .val (.ref b7), .val (.ref b13), .val (.int (1 : Int32)), .unset, .unset] [(.int (g (sN + 1)))])) _
          refine XS.ifNo X15.here hx rfl (hb hby at_184) rfl ((if0 _ _).trans (flt hc184).1) ?_
          show Steps p.tables e below (T15.setTop (mkF m 187 #[.val (.int p1), .val (.int p2), .val (.int p3), .val (.int p4), .val (.int p5), .val (.int p6), .val (.int (Int32.ofNat sN)), .val (.int (Int32.ofNat lN)), .val (.int (Int32.ofNat eN)), .val (.ref b7), .val (.ref b13), .val (.int (1 : Int32)), .unset, .unset] [])) _
          refine XS.iload X15.here hx rfl (hb hby at_187) rfl ?_
          show Steps p.tables e below (T15.setTop (mkF m 189 #[.val (.int p1), .val (.int p2), .val (.int p3), .val (.int p4), .val (.int p5), .val (.int p6), .val (.int (Int32.ofNat sN)), .val (.int (Int32.ofNat lN)), .val (.int (Int32.ofNat eN)), .val (.ref b7), .val (.ref b13), .val (.int (1 : Int32)), .unset, .unset] [(.int (Int32.ofNat sN))])) _
          refine XS.iconst X15.here hx rfl (hb hby at_189) ?_
          show Steps p.tables e below (T15.setTop (mkF m 190 #[.val (.int p1), .val (.int p2), .val (.int p3), .val (.int p4), .val (.int p5), .val (.int p6), .val (.int (Int32.ofNat sN)), .val (.int (Int32.ofNat lN)), .val (.int (Int32.ofNat eN)), .val (.ref b7), .val (.ref b13), .val (.int (1 : Int32)), .unset, .unset] [(.int (2 : Int32)), (.int (Int32.ofNat sN))])) _
          refine XS.iadd X15.here hx rfl (hb hby at_190) rfl ?_
          show Steps p.tables e below (T15.setTop (mkF m 191 #[.val (.int p1), .val (.int p2), .val (.int p3), .val (.int p4), .val (.int p5), .val (.int p6), .val (.int (Int32.ofNat sN)), .val (.int (Int32.ofNat lN)), .val (.int (Int32.ofNat eN)), .val (.ref b7), .val (.ref b13), .val (.int (1 : Int32)), .unset, .unset] [(.int ((Int32.ofNat sN) + (2 : Int32)))])) _
          refine XS.istore X15.here hx rfl (hb hby at_191) rfl (l' := #[.val (.int p1), .val (.int p2), .val (.int p3), .val (.int p4), .val (.int p5), .val (.int p6), .val (.int (Int32.ofNat sN)), .val (.int (Int32.ofNat lN)), .val (.int (Int32.ofNat eN)), .val (.ref b7), .val (.ref b13), .val (.int (1 : Int32)), .val (.int ((Int32.ofNat sN) + (2 : Int32))), .unset]) rfl ?_
          show Steps p.tables e below (T15.setTop (mkF m 193 #[.val (.int p1), .val (.int p2), .val (.int p3), .val (.int p4), .val (.int p5), .val (.int p6), .val (.int (Int32.ofNat sN)), .val (.int (Int32.ofNat lN)), .val (.int (Int32.ofNat eN)), .val (.ref b7), .val (.ref b13), .val (.int (1 : Int32)), .val (.int ((Int32.ofNat sN) + (2 : Int32))), .unset] [])) _
          refine XS.goto X15.here hx rfl (pc0 := 193) (pc' := 202) rfl (hb hby at_193) (by decide) (by decide) ?_
          show Steps p.tables e below (T15.setTop (mkF m 202 #[.val (.int p1), .val (.int p2), .val (.int p3), .val (.int p4), .val (.int p5), .val (.int p6), .val (.int (Int32.ofNat sN)), .val (.int (Int32.ofNat lN)), .val (.int (Int32.ofNat eN)), .val (.ref b7), .val (.ref b13), .val (.int (1 : Int32)), .val (.int ((Int32.ofNat sN) + (2 : Int32))), .unset] [])) _
          refine XS.aload X15.here hx rfl (hb hby at_202) rfl rfl ?_
          show Steps p.tables e below (T15.setTop (mkF m 204 #[.val (.int p1), .val (.int p2), .val (.int p3), .val (.int p4), .val (.int p5), .val (.int p6), .val (.int (Int32.ofNat sN)), .val (.int (Int32.ofNat lN)), .val (.int (Int32.ofNat eN)), .val (.ref b7), .val (.ref b13), .val (.int (1 : Int32)), .val (.int ((Int32.ofNat sN) + (2 : Int32))), .unset] [(.ref b13)])) _
          refine st18.trans ?_
          show Steps p.tables e below (T18.setTop (mkF m 207 #[.val (.int p1), .val (.int p2), .val (.int p3), .val (.int p4), .val (.int p5), .val (.int p6), .val (.int (Int32.ofNat sN)), .val (.int (Int32.ofNat lN)), .val (.int (Int32.ofNat eN)), .val (.ref b7), .val (.ref b13), .val (.int (1 : Int32)), .val (.int ((Int32.ofNat sN) + (2 : Int32))), .unset] [(.long xv)])) _
          jvm_step X18.here [X18.here.top, hx, (hb hby at_207), Value.category]
          show Steps p.tables e below (T18.setTop (mkF m 208 #[.val (.int p1), .val (.int p2), .val (.int p3), .val (.int p4), .val (.int p5), .val (.int p6), .val (.int (Int32.ofNat sN)), .val (.int (Int32.ofNat lN)), .val (.int (Int32.ofNat eN)), .val (.ref b7), .val (.ref b13), .val (.int (1 : Int32)), .val (.int ((Int32.ofNat sN) + (2 : Int32))), .unset] [])) _
          refine XS.aload X18.here hx rfl (hb hby at_208) rfl rfl ?_
          show Steps p.tables e below (T18.setTop (mkF m 210 #[.val (.int p1), .val (.int p2), .val (.int p3), .val (.int p4), .val (.int p5), .val (.int p6), .val (.int (Int32.ofNat sN)), .val (.int (Int32.ofNat lN)), .val (.int (Int32.ofNat eN)), .val (.ref b7), .val (.ref b13), .val (.int (1 : Int32)), .val (.int ((Int32.ofNat sN) + (2 : Int32))), .unset] [(.ref b13)])) _
          refine st19.trans ?_
          show Steps p.tables e below (T19.setTop (mkF m 213 #[.val (.int p1), .val (.int p2), .val (.int p3), .val (.int p4), .val (.int p5), .val (.int p6), .val (.int (Int32.ofNat sN)), .val (.int (Int32.ofNat lN)), .val (.int (Int32.ofNat eN)), .val (.ref b7), .val (.ref b13), .val (.int (1 : Int32)), .val (.int ((Int32.ofNat sN) + (2 : Int32))), .unset] [(.int (own_r (Int32.ofNat (sN + 1 + 1)) (Int32.ofNat eN)))])) _
          refine XS.istore X19.here hx rfl (hb hby at_213) rfl (l' := #[.val (.int p1), .val (.int p2), .val (.int p3), .val (.int p4), .val (.int p5), .val (.int p6), .val (.int (Int32.ofNat sN)), .val (.int (Int32.ofNat lN)), .val (.int (Int32.ofNat eN)), .val (.ref b7), .val (.ref b13), .val (.int (1 : Int32)), .val (.int ((Int32.ofNat sN) + (2 : Int32))), .val (.int (own_r (Int32.ofNat (sN + 1 + 1)) (Int32.ofNat eN)))]) rfl ?_
          show Steps p.tables e below (T19.setTop (mkF m 215 #[.val (.int p1), .val (.int p2), .val (.int p3), .val (.int p4), .val (.int p5), .val (.int p6), .val (.int (Int32.ofNat sN)), .val (.int (Int32.ofNat lN)), .val (.int (Int32.ofNat eN)), .val (.ref b7), .val (.ref b13), .val (.int (1 : Int32)), .val (.int ((Int32.ofNat sN) + (2 : Int32))), .val (.int (own_r (Int32.ofNat (sN + 1 + 1)) (Int32.ofNat eN)))] [])) _
          refine XS.iload X19.here hx rfl (hb hby at_215) rfl ?_
          show Steps p.tables e below (T19.setTop (mkF m 217 #[.val (.int p1), .val (.int p2), .val (.int p3), .val (.int p4), .val (.int p5), .val (.int p6), .val (.int (Int32.ofNat sN)), .val (.int (Int32.ofNat lN)), .val (.int (Int32.ofNat eN)), .val (.ref b7), .val (.ref b13), .val (.int (1 : Int32)), .val (.int ((Int32.ofNat sN) + (2 : Int32))), .val (.int (own_r (Int32.ofNat (sN + 1 + 1)) (Int32.ofNat eN)))] [(.int (1 : Int32))])) _
          have hc217 : ¬ ((1 : Int32) = (0 : Int32)) := by decide
          refine XS.ifNo X19.here hx rfl (hb hby at_217) rfl ((if0 _ _).trans (feq hc217).1) ?_
          show Steps p.tables e below (T19.setTop (mkF m 220 #[.val (.int p1), .val (.int p2), .val (.int p3), .val (.int p4), .val (.int p5), .val (.int p6), .val (.int (Int32.ofNat sN)), .val (.int (Int32.ofNat lN)), .val (.int (Int32.ofNat eN)), .val (.ref b7), .val (.ref b13), .val (.int (1 : Int32)), .val (.int ((Int32.ofNat sN) + (2 : Int32))), .val (.int (own_r (Int32.ofNat (sN + 1 + 1)) (Int32.ofNat eN)))] [])) _
          refine XS.iload X19.here hx rfl (hb hby at_220) rfl ?_
          show Steps p.tables e below (T19.setTop (mkF m 222 #[.val (.int p1), .val (.int p2), .val (.int p3), .val (.int p4), .val (.int p5), .val (.int p6), .val (.int (Int32.ofNat sN)), .val (.int (Int32.ofNat lN)), .val (.int (Int32.ofNat eN)), .val (.ref b7), .val (.ref b13), .val (.int (1 : Int32)), .val (.int ((Int32.ofNat sN) + (2 : Int32))), .val (.int (own_r (Int32.ofNat (sN + 1 + 1)) (Int32.ofNat eN)))] [(.int (own_r (Int32.ofNat (sN + 1 + 1)) (Int32.ofNat eN)))])) _
          refine XS.iload X19.here hx rfl (hb hby at_222) rfl ?_
          show Steps p.tables e below (T19.setTop (mkF m 224 #[.val (.int p1), .val (.int p2), .val (.int p3), .val (.int p4), .val (.int p5), .val (.int p6), .val (.int (Int32.ofNat sN)), .val (.int (Int32.ofNat lN)), .val (.int (Int32.ofNat eN)), .val (.ref b7), .val (.ref b13), .val (.int (1 : Int32)), .val (.int ((Int32.ofNat sN) + (2 : Int32))), .val (.int (own_r (Int32.ofNat (sN + 1 + 1)) (Int32.ofNat eN)))] [(.int ((Int32.ofNat sN) + (2 : Int32))), (.int (own_r (Int32.ofNat (sN + 1 + 1)) (Int32.ofNat eN)))])) _
          refine XS.iload X19.here hx rfl (hb hby at_224) rfl ?_
          show Steps p.tables e below (T19.setTop (mkF m 226 #[.val (.int p1), .val (.int p2), .val (.int p3), .val (.int p4), .val (.int p5), .val (.int p6), .val (.int (Int32.ofNat sN)), .val (.int (Int32.ofNat lN)), .val (.int (Int32.ofNat eN)), .val (.ref b7), .val (.ref b13), .val (.int (1 : Int32)), .val (.int ((Int32.ofNat sN) + (2 : Int32))), .val (.int (own_r (Int32.ofNat (sN + 1 + 1)) (Int32.ofNat eN)))] [(.int (Int32.ofNat eN)), (.int ((Int32.ofNat sN) + (2 : Int32))), (.int (own_r (Int32.ofNat (sN + 1 + 1)) (Int32.ofNat eN)))])) _
          by_cases hc226 : ((Int32.ofNat sN) + (2 : Int32)) < (Int32.ofNat eN)
          · refine XS.icmpNo X19.here hx rfl (hb hby at_226) rfl (tlt hc226).2.1 ?_
            show Steps p.tables e below (T19.setTop (mkF m 229 #[.val (.int p1), .val (.int p2), .val (.int p3), .val (.int p4), .val (.int p5), .val (.int p6), .val (.int (Int32.ofNat sN)), .val (.int (Int32.ofNat lN)), .val (.int (Int32.ofNat eN)), .val (.ref b7), .val (.ref b13), .val (.int (1 : Int32)), .val (.int ((Int32.ofNat sN) + (2 : Int32))), .val (.int (own_r (Int32.ofNat (sN + 1 + 1)) (Int32.ofNat eN)))] [(.int (own_r (Int32.ofNat (sN + 1 + 1)) (Int32.ofNat eN)))])) _
            refine XS.iconst X19.here hx rfl (hb hby at_229) ?_
            show Steps p.tables e below (T19.setTop (mkF m 230 #[.val (.int p1), .val (.int p2), .val (.int p3), .val (.int p4), .val (.int p5), .val (.int p6), .val (.int (Int32.ofNat sN)), .val (.int (Int32.ofNat lN)), .val (.int (Int32.ofNat eN)), .val (.ref b7), .val (.ref b13), .val (.int (1 : Int32)), .val (.int ((Int32.ofNat sN) + (2 : Int32))), .val (.int (own_r (Int32.ofNat (sN + 1 + 1)) (Int32.ofNat eN)))] [(.int (1 : Int32)), (.int (own_r (Int32.ofNat (sN + 1 + 1)) (Int32.ofNat eN)))])) _
            refine XS.goto X19.here hx rfl (pc0 := 230) (pc' := 234) rfl (hb hby at_230) (by decide) (by decide) ?_
            show Steps p.tables e below (T19.setTop (mkF m 234 #[.val (.int p1), .val (.int p2), .val (.int p3), .val (.int p4), .val (.int p5), .val (.int p6), .val (.int (Int32.ofNat sN)), .val (.int (Int32.ofNat lN)), .val (.int (Int32.ofNat eN)), .val (.ref b7), .val (.ref b13), .val (.int (1 : Int32)), .val (.int ((Int32.ofNat sN) + (2 : Int32))), .val (.int (own_r (Int32.ofNat (sN + 1 + 1)) (Int32.ofNat eN)))] [(.int (1 : Int32)), (.int (own_r (Int32.ofNat (sN + 1 + 1)) (Int32.ofNat eN)))])) _
            have hc234 : (own_r (Int32.ofNat (sN + 1 + 1)) (Int32.ofNat eN)) = (1 : Int32) := by have q := hc226; rw [own_p1] at q; exact if_pos q
            refine XS.icmpNo X19.here hx rfl (hb hby at_234) rfl (teq hc234).2 ?_
            show Steps p.tables e below (T19.setTop (mkF m 237 #[.val (.int p1), .val (.int p2), .val (.int p3), .val (.int p4), .val (.int p5), .val (.int p6), .val (.int (Int32.ofNat sN)), .val (.int (Int32.ofNat lN)), .val (.int (Int32.ofNat eN)), .val (.ref b7), .val (.ref b13), .val (.int (1 : Int32)), .val (.int ((Int32.ofNat sN) + (2 : Int32))), .val (.int (own_r (Int32.ofNat (sN + 1 + 1)) (Int32.ofNat eN)))] [])) _
            refine XS.iconst X19.here hx rfl (hb hby at_237) ?_
            show Steps p.tables e below (T19.setTop (mkF m 238 #[.val (.int p1), .val (.int p2), .val (.int p3), .val (.int p4), .val (.int p5), .val (.int p6), .val (.int (Int32.ofNat sN)), .val (.int (Int32.ofNat lN)), .val (.int (Int32.ofNat eN)), .val (.ref b7), .val (.ref b13), .val (.int (1 : Int32)), .val (.int ((Int32.ofNat sN) + (2 : Int32))), .val (.int (own_r (Int32.ofNat (sN + 1 + 1)) (Int32.ofNat eN)))] [(.int (1 : Int32))])) _
            refine XS.goto X19.here hx rfl (pc0 := 238) (pc' := 242) rfl (hb hby at_238) (by decide) (by decide) ?_
            show Steps p.tables e below (T19.setTop (mkF m 242 #[.val (.int p1), .val (.int p2), .val (.int p3), .val (.int p4), .val (.int p5), .val (.int p6), .val (.int (Int32.ofNat sN)), .val (.int (Int32.ofNat lN)), .val (.int (Int32.ofNat eN)), .val (.ref b7), .val (.ref b13), .val (.int (1 : Int32)), .val (.int ((Int32.ofNat sN) + (2 : Int32))), .val (.int (own_r (Int32.ofNat (sN + 1 + 1)) (Int32.ofNat eN)))] [(.int (1 : Int32))])) _
            exact retN X19 hx (t := .boolean) Bd.returns (by simp) (hb hby at_242) hr
          · refine XS.icmpYes X19.here hx rfl (pc0 := 226) (pc' := 233) rfl (hb hby at_226) rfl (flt hc226).2.1 (by decide) (by decide) ?_
            show Steps p.tables e below (T19.setTop (mkF m 233 #[.val (.int p1), .val (.int p2), .val (.int p3), .val (.int p4), .val (.int p5), .val (.int p6), .val (.int (Int32.ofNat sN)), .val (.int (Int32.ofNat lN)), .val (.int (Int32.ofNat eN)), .val (.ref b7), .val (.ref b13), .val (.int (1 : Int32)), .val (.int ((Int32.ofNat sN) + (2 : Int32))), .val (.int (own_r (Int32.ofNat (sN + 1 + 1)) (Int32.ofNat eN)))] [(.int (own_r (Int32.ofNat (sN + 1 + 1)) (Int32.ofNat eN)))])) _
            refine XS.iconst X19.here hx rfl (hb hby at_233) ?_
            show Steps p.tables e below (T19.setTop (mkF m 234 #[.val (.int p1), .val (.int p2), .val (.int p3), .val (.int p4), .val (.int p5), .val (.int p6), .val (.int (Int32.ofNat sN)), .val (.int (Int32.ofNat lN)), .val (.int (Int32.ofNat eN)), .val (.ref b7), .val (.ref b13), .val (.int (1 : Int32)), .val (.int ((Int32.ofNat sN) + (2 : Int32))), .val (.int (own_r (Int32.ofNat (sN + 1 + 1)) (Int32.ofNat eN)))] [(.int (0 : Int32)), (.int (own_r (Int32.ofNat (sN + 1 + 1)) (Int32.ofNat eN)))])) _
            have hc234 : (own_r (Int32.ofNat (sN + 1 + 1)) (Int32.ofNat eN)) = (0 : Int32) := by have q := hc226; rw [own_p1] at q; exact if_neg q
            refine XS.icmpNo X19.here hx rfl (hb hby at_234) rfl (teq hc234).2 ?_
            show Steps p.tables e below (T19.setTop (mkF m 237 #[.val (.int p1), .val (.int p2), .val (.int p3), .val (.int p4), .val (.int p5), .val (.int p6), .val (.int (Int32.ofNat sN)), .val (.int (Int32.ofNat lN)), .val (.int (Int32.ofNat eN)), .val (.ref b7), .val (.ref b13), .val (.int (1 : Int32)), .val (.int ((Int32.ofNat sN) + (2 : Int32))), .val (.int (own_r (Int32.ofNat (sN + 1 + 1)) (Int32.ofNat eN)))] [])) _
            refine XS.iconst X19.here hx rfl (hb hby at_237) ?_
            show Steps p.tables e below (T19.setTop (mkF m 238 #[.val (.int p1), .val (.int p2), .val (.int p3), .val (.int p4), .val (.int p5), .val (.int p6), .val (.int (Int32.ofNat sN)), .val (.int (Int32.ofNat lN)), .val (.int (Int32.ofNat eN)), .val (.ref b7), .val (.ref b13), .val (.int (1 : Int32)), .val (.int ((Int32.ofNat sN) + (2 : Int32))), .val (.int (own_r (Int32.ofNat (sN + 1 + 1)) (Int32.ofNat eN)))] [(.int (1 : Int32))])) _
            refine XS.goto X19.here hx rfl (pc0 := 238) (pc' := 242) rfl (hb hby at_238) (by decide) (by decide) ?_
            show Steps p.tables e below (T19.setTop (mkF m 242 #[.val (.int p1), .val (.int p2), .val (.int p3), .val (.int p4), .val (.int p5), .val (.int p6), .val (.int (Int32.ofNat sN)), .val (.int (Int32.ofNat lN)), .val (.int (Int32.ofNat eN)), .val (.ref b7), .val (.ref b13), .val (.int (1 : Int32)), .val (.int ((Int32.ofNat sN) + (2 : Int32))), .val (.int (own_r (Int32.ofNat (sN + 1 + 1)) (Int32.ofNat eN)))] [(.int (1 : Int32))])) _
            exact retN X19 hx (t := .boolean) Bd.returns (by simp) (hb hby at_242) hr
        · show Q0 Z p1 p2 p3 p4 p5 p6 h0 n0 _ T19.heap _
          exact ⟨rfl, N19⟩
    · obtain ⟨cq17, kq17, q17a, q17b, q17c⟩ := isOf hZ rfl ((E_b13.keep Kci).keep Kc1)
      obtain ⟨_, _, ⟨T17, L17, k17, n17⟩, -, X17, ⟨Lc17, hQ17, l17, y17, z17⟩, st17⟩ := X15.virtualBack hx (y := (⟨"com/example/melete/melete/index/Decoder", "readVarint", "()J"⟩ : MethodName)) (z := (⟨"com/example/melete/melete/index/Decoder", "readVarint", "()J"⟩ : MethodName)) hown (mvT hZ (hw _ (List.mem_of_getElem? (i := 26) rfl))) (mvT hZ (hw _ (List.mem_of_getElem? (i := 27) rfl))) (notFace_of_selects (args := #[]) (mvT hZ (hw _ (List.mem_of_getElem? (i := 29) rfl)))) (mvT hZ (hw _ (List.mem_of_getElem? (i := 29) rfl))) (mvT hZ (hw _ (List.mem_of_getElem? (i := 28) rfl))) (by decide) (backOf (W := 0) (rm4 l Z a0 hw [] b13 b7 cl g sN 0 eN T15.heap n0 Z1 D1 B1 g_b13 hbd (by omega) (by omega) (fun j h1 h2 => absurd h2 (by omega)) hc165) hZ (hw _ (List.mem_of_getElem? (i := 30) rfl)) (hw _ (List.mem_of_getElem? (i := 4) rfl)) (by decide) (by decide)) q17a q17c (g := (mkF m 204 #[.val (.int p1), .val (.int p2), .val (.int p3), .val (.int p4), .val (.int p5), .val (.int p6), .val (.int (Int32.ofNat sN)), .val (.int (Int32.ofNat lN)), .val (.int (Int32.ofNat eN)), .val (.ref b7), .val (.ref b13), .val (.int (1 : Int32)), .val (.int ((Int32.ofNat sN) + (1 : Int32))), .unset] [(.ref b13)])) rfl (by rw [hml]; rfl) (Steps.refl _) (argsL := []) (rest := []) (lenOf pd_0_3 rfl) rfl (by show 2 * 0 + _ ≤ _; exact Nat.le_of_eq rfl) (hb hby at_204) (fun _ _ => ⟨rfl, rfl, (by decide : 2 + 0 ≤ _), (by decide : 9 + 0 ≤ _)⟩)
      dsimp only [Pt.U, Pt.locs, Pt.cells, Pt.slots] at X17 l17 y17 z17 st17 hQ17
      subst l17 y17 z17
      obtain ⟨xv, rfl, N17q, Kc2, D2⟩ := hQ17
      have Z2 := Nat.le_trans Z1 Kc2.1
      have N17 := Fr.app N15 N17q
      -- pc 210: com/example/melete/melete/index/Decoder.hasRemaining by the contract of the body that the receiver's class selects, rm3
      obtain ⟨cq18, kq18, q18a, q18b, q18c⟩ := isOf hZ rfl (((E_b13.keep Kci).keep Kc1).keep Kc2)
      obtain ⟨_, _, ⟨T18, L18, k18, n18⟩, -, X18, ⟨Lc18, hQ18, l18, y18, z18⟩, st18⟩ := X17.virtualBack hx (y := (⟨"com/example/melete/melete/index/Decoder", "hasRemaining", "()Z"⟩ : MethodName)) (z := (⟨"com/example/melete/melete/index/Decoder", "hasRemaining", "()Z"⟩ : MethodName)) hown (mvT hZ (hw _ (List.mem_of_getElem? (i := 21) rfl))) (mvT hZ (hw _ (List.mem_of_getElem? (i := 22) rfl))) (notFace_of_selects (args := #[]) (mvT hZ (hw _ (List.mem_of_getElem? (i := 24) rfl)))) (mvT hZ (hw _ (List.mem_of_getElem? (i := 24) rfl))) (mvT hZ (hw _ (List.mem_of_getElem? (i := 23) rfl))) (by decide) (backOf (W := 0) (rm3 l Z a0 hw [] b13 b7 (Int32.ofNat (sN + 0 + 1)) (Int32.ofNat eN) T17.heap n0 Z2 D2) hZ (hw _ (List.mem_of_getElem? (i := 25) rfl)) (hw _ (List.mem_of_getElem? (i := 4) rfl)) (by decide) (by decide)) q18a q18c (g := (mkF m 210 #[.val (.int p1), .val (.int p2), .val (.int p3), .val (.int p4), .val (.int p5), .val (.int p6), .val (.int (Int32.ofNat sN)), .val (.int (Int32.ofNat lN)), .val (.int (Int32.ofNat eN)), .val (.ref b7), .val (.ref b13), .val (.int (1 : Int32)), .val (.int ((Int32.ofNat sN) + (1 : Int32))), .unset] [(.ref b13)])) rfl (by rw [hml]; rfl) (Steps.refl _) (argsL := []) (rest := []) (lenOf pd_0_2 rfl) rfl (by show 2 * 0 + _ ≤ _; exact Nat.le_of_eq rfl) (hb hby at_210) (fun _ _ => ⟨rfl, rfl, (by decide : 2 + 0 ≤ _), (by decide : 9 + 0 ≤ _)⟩)
      dsimp only [Pt.U, Pt.locs, Pt.cells, Pt.slots] at X18 l18 y18 z18 st18 hQ18
      subst l18 y18 z18
      obtain ⟨rfl, N18q, hh3⟩ := hQ18
      have N18 := Fr.app N17 N18q
      obtain ⟨fs, hr, hrun, hended, hW, hsame⟩ := X18.leave (v := some (.int (1 : Int32))) (fun h => by rw [Bd.returns] at h; cases h)
      refine ⟨_, _, pre0 _ (preh _ ?_), hrun, hended, _, _, rfl, ?_, ⟨_, rfl⟩, hW, hsame.mono (by decide) (by decide)⟩
      · show Steps p.tables e below (s₁.setTop (mkF m 71 #[.val (.int p1), .val (.int p2), .val (.int p3), .val (.int p4), .val (.int p5), .val (.int p6), .val (.int (Int32.ofNat sN)), .val (.int (Int32.ofNat lN)), .val (.int (Int32.ofNat eN)), .unset, .unset, .unset, .unset, .unset] [])) _
        refine XS.iconst X0.here hx rfl (hb hby at_71) ?_
        show Steps p.tables e below (s₁.setTop (mkF m 72 #[.val (.int p1), .val (.int p2), .val (.int p3), .val (.int p4), .val (.int p5), .val (.int p6), .val (.int (Int32.ofNat sN)), .val (.int (Int32.ofNat lN)), .val (.int (Int32.ofNat eN)), .unset, .unset, .unset, .unset, .unset] [(.int (3 : Int32))])) _
        refine st7 _ ?_
        show Steps p.tables e below (T7.setTop (mkF m 74 #[.val (.int p1), .val (.int p2), .val (.int p3), .val (.int p4), .val (.int p5), .val (.int p6), .val (.int (Int32.ofNat sN)), .val (.int (Int32.ofNat lN)), .val (.int (Int32.ofNat eN)), .unset, .unset, .unset, .unset, .unset] [(.ref b7)])) _
        refine XS.astore X7.here hx rfl (hb hby at_74) rfl rfl (l' := #[.val (.int p1), .val (.int p2), .val (.int p3), .val (.int p4), .val (.int p5), .val (.int p6), .val (.int (Int32.ofNat sN)), .val (.int (Int32.ofNat lN)), .val (.int (Int32.ofNat eN)), .val (.ref b7), .unset, .unset, .unset, .unset]) rfl ?_
        show Steps p.tables e below (T7.setTop (mkF m 76 #[.val (.int p1), .val (.int p2), .val (.int p3), .val (.int p4), .val (.int p5), .val (.int p6), .val (.int (Int32.ofNat sN)), .val (.int (Int32.ofNat lN)), .val (.int (Int32.ofNat eN)), .val (.ref b7), .unset, .unset, .unset, .unset] [])) _
        refine XS.aload X7.here hx rfl (hb hby at_76) rfl rfl ?_
        show Steps p.tables e below (T7.setTop (mkF m 78 #[.val (.int p1), .val (.int p2), .val (.int p3), .val (.int p4), .val (.int p5), .val (.int p6), .val (.int (Int32.ofNat sN)), .val (.int (Int32.ofNat lN)), .val (.int (Int32.ofNat eN)), .val (.ref b7), .unset, .unset, .unset, .unset] [(.ref b7)])) _
        refine XS.iconst X7.here hx rfl (hb hby at_78) ?_
        show Steps p.tables e below (T7.setTop (mkF m 79 #[.val (.int p1), .val (.int p2), .val (.int p3), .val (.int p4), .val (.int p5), .val (.int p6), .val (.int (Int32.ofNat sN)), .val (.int (Int32.ofNat lN)), .val (.int (Int32.ofNat eN)), .val (.ref b7), .unset, .unset, .unset, .unset] [(.int (0 : Int32)), (.ref b7)])) _
        refine XS.iloadN X7.here hx rfl (hb hby at_79) rfl ?_
        show Steps p.tables e below (T7.setTop (mkF m 80 #[.val (.int p1), .val (.int p2), .val (.int p3), .val (.int p4), .val (.int p5), .val (.int p6), .val (.int (Int32.ofNat sN)), .val (.int (Int32.ofNat lN)), .val (.int (Int32.ofNat eN)), .val (.ref b7), .unset, .unset, .unset, .unset] [(.int p3), (.int (0 : Int32)), (.ref b7)])) _
        refine XS.i2b X7.here hx rfl (hb hby at_80) rfl ?_
        show Steps p.tables e below (T7.setTop (mkF m 81 #[.val (.int p1), .val (.int p2), .val (.int p3), .val (.int p4), .val (.int p5), .val (.int p6), .val (.int (Int32.ofNat sN)), .val (.int (Int32.ofNat lN)), .val (.int (Int32.ofNat eN)), .val (.ref b7), .unset, .unset, .unset, .unset] [(.int (p3.toInt8.toInt32)), (.int (0 : Int32)), (.ref b7)])) _
        refine st8 _ ?_
        show Steps p.tables e below (T8.setTop (mkF m 82 #[.val (.int p1), .val (.int p2), .val (.int p3), .val (.int p4), .val (.int p5), .val (.int p6), .val (.int (Int32.ofNat sN)), .val (.int (Int32.ofNat lN)), .val (.int (Int32.ofNat eN)), .val (.ref b7), .unset, .unset, .unset, .unset] [])) _
        refine XS.aload X8.here hx rfl (hb hby at_82) rfl rfl ?_
        show Steps p.tables e below (T8.setTop (mkF m 84 #[.val (.int p1), .val (.int p2), .val (.int p3), .val (.int p4), .val (.int p5), .val (.int p6), .val (.int (Int32.ofNat sN)), .val (.int (Int32.ofNat lN)), .val (.int (Int32.ofNat eN)), .val (.ref b7), .unset, .unset, .unset, .unset] [(.ref b7)])) _
        refine XS.iconst X8.here hx rfl (hb hby at_84) ?_
        show Steps p.tables e below (T8.setTop (mkF m 85 #[.val (.int p1), .val (.int p2), .val (.int p3), .val (.int p4), .val (.int p5), .val (.int p6), .val (.int (Int32.ofNat sN)), .val (.int (Int32.ofNat lN)), .val (.int (Int32.ofNat eN)), .val (.ref b7), .unset, .unset, .unset, .unset] [(.int (1 : Int32)), (.ref b7)])) _
        refine XS.iloadN X8.here hx rfl (hb hby at_85) rfl ?_
        show Steps p.tables e below (T8.setTop (mkF m 86 #[.val (.int p1), .val (.int p2), .val (.int p3), .val (.int p4), .val (.int p5), .val (.int p6), .val (.int (Int32.ofNat sN)), .val (.int (Int32.ofNat lN)), .val (.int (Int32.ofNat eN)), .val (.ref b7), .unset, .unset, .unset, .unset] [(.int p4), (.int (1 : Int32)), (.ref b7)])) _
        refine XS.i2b X8.here hx rfl (hb hby at_86) rfl ?_
        show Steps p.tables e below (T8.setTop (mkF m 87 #[.val (.int p1), .val (.int p2), .val (.int p3), .val (.int p4), .val (.int p5), .val (.int p6), .val (.int (Int32.ofNat sN)), .val (.int (Int32.ofNat lN)), .val (.int (Int32.ofNat eN)), .val (.ref b7), .unset, .unset, .unset, .unset] [(.int (p4.toInt8.toInt32)), (.int (1 : Int32)), (.ref b7)])) _
        refine st9 _ ?_
        show Steps p.tables e below (T9.setTop (mkF m 88 #[.val (.int p1), .val (.int p2), .val (.int p3), .val (.int p4), .val (.int p5), .val (.int p6), .val (.int (Int32.ofNat sN)), .val (.int (Int32.ofNat lN)), .val (.int (Int32.ofNat eN)), .val (.ref b7), .unset, .unset, .unset, .unset] [])) _
        refine XS.aload X9.here hx rfl (hb hby at_88) rfl rfl ?_
        show Steps p.tables e below (T9.setTop (mkF m 90 #[.val (.int p1), .val (.int p2), .val (.int p3), .val (.int p4), .val (.int p5), .val (.int p6), .val (.int (Int32.ofNat sN)), .val (.int (Int32.ofNat lN)), .val (.int (Int32.ofNat eN)), .val (.ref b7), .unset, .unset, .unset, .unset] [(.ref b7)])) _
        refine XS.iconst X9.here hx rfl (hb hby at_90) ?_
        show Steps p.tables e below (T9.setTop (mkF m 91 #[.val (.int p1), .val (.int p2), .val (.int p3), .val (.int p4), .val (.int p5), .val (.int p6), .val (.int (Int32.ofNat sN)), .val (.int (Int32.ofNat lN)), .val (.int (Int32.ofNat eN)), .val (.ref b7), .unset, .unset, .unset, .unset] [(.int (2 : Int32)), (.ref b7)])) _
        refine XS.iload X9.here hx rfl (hb hby at_91) rfl ?_
        show Steps p.tables e below (T9.setTop (mkF m 93 #[.val (.int p1), .val (.int p2), .val (.int p3), .val (.int p4), .val (.int p5), .val (.int p6), .val (.int (Int32.ofNat sN)), .val (.int (Int32.ofNat lN)), .val (.int (Int32.ofNat eN)), .val (.ref b7), .unset, .unset, .unset, .unset] [(.int p5), (.int (2 : Int32)), (.ref b7)])) _
        refine XS.i2b X9.here hx rfl (hb hby at_93) rfl ?_
        show Steps p.tables e below (T9.setTop (mkF m 94 #[.val (.int p1), .val (.int p2), .val (.int p3), .val (.int p4), .val (.int p5), .val (.int p6), .val (.int (Int32.ofNat sN)), .val (.int (Int32.ofNat lN)), .val (.int (Int32.ofNat eN)), .val (.ref b7), .unset, .unset, .unset, .unset] [(.int (p5.toInt8.toInt32)), (.int (2 : Int32)), (.ref b7)])) _
        refine st10 _ ?_
        show Steps p.tables e below (T10.setTop (mkF m 95 #[.val (.int p1), .val (.int p2), .val (.int p3), .val (.int p4), .val (.int p5), .val (.int p6), .val (.int (Int32.ofNat sN)), .val (.int (Int32.ofNat lN)), .val (.int (Int32.ofNat eN)), .val (.ref b7), .unset, .unset, .unset, .unset] [])) _
        refine XS.iload X10.here hx rfl (hb hby at_95) rfl ?_
        show Steps p.tables e below (T10.setTop (mkF m 97 #[.val (.int p1), .val (.int p2), .val (.int p3), .val (.int p4), .val (.int p5), .val (.int p6), .val (.int (Int32.ofNat sN)), .val (.int (Int32.ofNat lN)), .val (.int (Int32.ofNat eN)), .val (.ref b7), .unset, .unset, .unset, .unset] [(.int (Int32.ofNat eN))])) _
        refine XS.iload X10.here hx rfl (hb hby at_97) rfl ?_
        show Steps p.tables e below (T10.setTop (mkF m 99 #[.val (.int p1), .val (.int p2), .val (.int p3), .val (.int p4), .val (.int p5), .val (.int p6), .val (.int (Int32.ofNat sN)), .val (.int (Int32.ofNat lN)), .val (.int (Int32.ofNat eN)), .val (.ref b7), .unset, .unset, .unset, .unset] [(.int (Int32.ofNat sN)), (.int (Int32.ofNat eN))])) _
        refine XS.icmpNo X10.here hx rfl (hb hby at_99) rfl (tlt hc99).2.2.2 ?_
        show Steps p.tables e below (T10.setTop (mkF m 102 #[.val (.int p1), .val (.int p2), .val (.int p3), .val (.int p4), .val (.int p5), .val (.int p6), .val (.int (Int32.ofNat sN)), .val (.int (Int32.ofNat lN)), .val (.int (Int32.ofNat eN)), .val (.ref b7), .unset, .unset, .unset, .unset] [])) _
        refine XS.aload X10.here hx rfl (hb hby at_102) rfl rfl ?_
        show Steps p.tables e below (T10.setTop (mkF m 104 #[.val (.int p1), .val (.int p2), .val (.int p3), .val (.int p4), .val (.int p5), .val (.int p6), .val (.int (Int32.ofNat sN)), .val (.int (Int32.ofNat lN)), .val (.int (Int32.ofNat eN)), .val (.ref b7), .unset, .unset, .unset, .unset] [(.ref b7)])) _
        refine XS.iload X10.here hx rfl (hb hby at_104) rfl ?_
        show Steps p.tables e below (T10.setTop (mkF m 106 #[.val (.int p1), .val (.int p2), .val (.int p3), .val (.int p4), .val (.int p5), .val (.int p6), .val (.int (Int32.ofNat sN)), .val (.int (Int32.ofNat lN)), .val (.int (Int32.ofNat eN)), .val (.ref b7), .unset, .unset, .unset, .unset] [(.int (Int32.ofNat eN)), (.ref b7)])) _
        refine XS.iconst X10.here hx rfl (hb hby at_106) ?_
        show Steps p.tables e below (T10.setTop (mkF m 107 #[.val (.int p1), .val (.int p2), .val (.int p3), .val (.int p4), .val (.int p5), .val (.int p6), .val (.int (Int32.ofNat sN)), .val (.int (Int32.ofNat lN)), .val (.int (Int32.ofNat eN)), .val (.ref b7), .unset, .unset, .unset, .unset] [(.int (1 : Int32)), (.int (Int32.ofNat eN)), (.ref b7)])) _
        refine XS.isub X10.here hx rfl (hb hby at_107) rfl ?_
        show Steps p.tables e below (T10.setTop (mkF m 108 #[.val (.int p1), .val (.int p2), .val (.int p3), .val (.int p4), .val (.int p5), .val (.int p6), .val (.int (Int32.ofNat sN)), .val (.int (Int32.ofNat lN)), .val (.int (Int32.ofNat eN)), .val (.ref b7), .unset, .unset, .unset, .unset] [(.int ((Int32.ofNat eN) - (1 : Int32))), (.ref b7)])) _
        refine XS.aload X10.here hx rfl (hb hby at_108) rfl rfl ?_
        show Steps p.tables e below (T10.setTop (mkF m 110 #[.val (.int p1), .val (.int p2), .val (.int p3), .val (.int p4), .val (.int p5), .val (.int p6), .val (.int (Int32.ofNat sN)), .val (.int (Int32.ofNat lN)), .val (.int (Int32.ofNat eN)), .val (.ref b7), .unset, .unset, .unset, .unset] [(.ref b7), (.int ((Int32.ofNat eN) - (1 : Int32))), (.ref b7)])) _
        refine XS.iload X10.here hx rfl (hb hby at_110) rfl ?_
        show Steps p.tables e below (T10.setTop (mkF m 112 #[.val (.int p1), .val (.int p2), .val (.int p3), .val (.int p4), .val (.int p5), .val (.int p6), .val (.int (Int32.ofNat sN)), .val (.int (Int32.ofNat lN)), .val (.int (Int32.ofNat eN)), .val (.ref b7), .unset, .unset, .unset, .unset] [(.int (Int32.ofNat eN)), (.ref b7), (.int ((Int32.ofNat eN) - (1 : Int32))), (.ref b7)])) _
        refine XS.iconst X10.here hx rfl (hb hby at_112) ?_
        show Steps p.tables e below (T10.setTop (mkF m 113 #[.val (.int p1), .val (.int p2), .val (.int p3), .val (.int p4), .val (.int p5), .val (.int p6), .val (.int (Int32.ofNat sN)), .val (.int (Int32.ofNat lN)), .val (.int (Int32.ofNat eN)), .val (.ref b7), .unset, .unset, .unset, .unset] [(.int (1 : Int32)), (.int (Int32.ofNat eN)), (.ref b7), (.int ((Int32.ofNat eN) - (1 : Int32))), (.ref b7)])) _
        refine XS.isub X10.here hx rfl (hb hby at_113) rfl ?_
        show Steps p.tables e below (T10.setTop (mkF m 114 #[.val (.int p1), .val (.int p2), .val (.int p3), .val (.int p4), .val (.int p5), .val (.int p6), .val (.int (Int32.ofNat sN)), .val (.int (Int32.ofNat lN)), .val (.int (Int32.ofNat eN)), .val (.ref b7), .unset, .unset, .unset, .unset] [(.int ((Int32.ofNat eN) - (1 : Int32))), (.ref b7), (.int ((Int32.ofNat eN) - (1 : Int32))), (.ref b7)])) _
        refine X10.baloadBytes hx (j := ((Int32.ofNat eN) - (1 : Int32))) (v := (.int (gw (eN - 1)))) (by rw [e10]; exact Bw.1.1) (State.isArrayOf_alike hZ.alike Bw.1.2.1) Bw.1.2.2 hin114 hat114 (g := (mkF m 114 #[.val (.int p1), .val (.int p2), .val (.int p3), .val (.int p4), .val (.int p5), .val (.int p6), .val (.int (Int32.ofNat sN)), .val (.int (Int32.ofNat lN)), .val (.int (Int32.ofNat eN)), .val (.ref b7), .unset, .unset, .unset, .unset] [(.int ((Int32.ofNat eN) - (1 : Int32))), (.ref b7), (.int ((Int32.ofNat eN) - (1 : Int32))), (.ref b7)])) rfl rfl (hb hby at_114) _ ?_
        show Steps p.tables e below (T10.setTop (mkF m 115 #[.val (.int p1), .val (.int p2), .val (.int p3), .val (.int p4), .val (.int p5), .val (.int p6), .val (.int (Int32.ofNat sN)), .val (.int (Int32.ofNat lN)), .val (.int (Int32.ofNat eN)), .val (.ref b7), .unset, .unset, .unset, .unset] [(.int (gw (eN - 1))), (.int ((Int32.ofNat eN) - (1 : Int32))), (.ref b7)])) _
        refine XS.bipush X10.here hx rfl (hb hby at_115) ?_
        show Steps p.tables e below (T10.setTop (mkF m 117 #[.val (.int p1), .val (.int p2), .val (.int p3), .val (.int p4), .val (.int p5), .val (.int p6), .val (.int (Int32.ofNat sN)), .val (.int (Int32.ofNat lN)), .val (.int (Int32.ofNat eN)), .val (.ref b7), .unset, .unset, .unset, .unset] [(.int (127 : Int32)), (.int (gw (eN - 1))), (.int ((Int32.ofNat eN) - (1 : Int32))), (.ref b7)])) _
        refine XS.iand X10.here hx rfl (hb hby at_117) rfl ?_
        show Steps p.tables e below (T10.setTop (mkF m 118 #[.val (.int p1), .val (.int p2), .val (.int p3), .val (.int p4), .val (.int p5), .val (.int p6), .val (.int (Int32.ofNat sN)), .val (.int (Int32.ofNat lN)), .val (.int (Int32.ofNat eN)), .val (.ref b7), .unset, .unset, .unset, .unset] [(.int ((gw (eN - 1)) &&& (127 : Int32))), (.int ((Int32.ofNat eN) - (1 : Int32))), (.ref b7)])) _
        refine XS.i2b X10.here hx rfl (hb hby at_118) rfl ?_
        show Steps p.tables e below (T10.setTop (mkF m 119 #[.val (.int p1), .val (.int p2), .val (.int p3), .val (.int p4), .val (.int p5), .val (.int p6), .val (.int (Int32.ofNat sN)), .val (.int (Int32.ofNat lN)), .val (.int (Int32.ofNat eN)), .val (.ref b7), .unset, .unset, .unset, .unset] [(.int (((gw (eN - 1)) &&& (127 : Int32)).toInt8.toInt32)), (.int ((Int32.ofNat eN) - (1 : Int32))), (.ref b7)])) _
        refine st12 _ ?_
        show Steps p.tables e below (T12.setTop (mkF m 120 #[.val (.int p1), .val (.int p2), .val (.int p3), .val (.int p4), .val (.int p5), .val (.int p6), .val (.int (Int32.ofNat sN)), .val (.int (Int32.ofNat lN)), .val (.int (Int32.ofNat eN)), .val (.ref b7), .unset, .unset, .unset, .unset] [])) _
        refine st13 _ ?_
        show Steps p.tables e below (T13.setTop (mkF m 123 #[.val (.int p1), .val (.int p2), .val (.int p3), .val (.int p4), .val (.int p5), .val (.int p6), .val (.int (Int32.ofNat sN)), .val (.int (Int32.ofNat lN)), .val (.int (Int32.ofNat eN)), .val (.ref b7), .unset, .unset, .unset, .unset] [(.ref b13)])) _
        refine XS.dup X13.here hx rfl (hb hby at_123) rfl rfl ?_
        show Steps p.tables e below (T13.setTop (mkF m 124 #[.val (.int p1), .val (.int p2), .val (.int p3), .val (.int p4), .val (.int p5), .val (.int p6), .val (.int (Int32.ofNat sN)), .val (.int (Int32.ofNat lN)), .val (.int (Int32.ofNat eN)), .val (.ref b7), .unset, .unset, .unset, .unset] [(.ref b13), (.ref b13)])) _
        refine XS.aload X13.here hx rfl (hb hby at_124) rfl rfl ?_
        show Steps p.tables e below (T13.setTop (mkF m 126 #[.val (.int p1), .val (.int p2), .val (.int p3), .val (.int p4), .val (.int p5), .val (.int p6), .val (.int (Int32.ofNat sN)), .val (.int (Int32.ofNat lN)), .val (.int (Int32.ofNat eN)), .val (.ref b7), .unset, .unset, .unset, .unset] [(.ref b7), (.ref b13), (.ref b13)])) _
        refine XS.iload X13.here hx rfl (hb hby at_126) rfl ?_
        show Steps p.tables e below (T13.setTop (mkF m 128 #[.val (.int p1), .val (.int p2), .val (.int p3), .val (.int p4), .val (.int p5), .val (.int p6), .val (.int (Int32.ofNat sN)), .val (.int (Int32.ofNat lN)), .val (.int (Int32.ofNat eN)), .val (.ref b7), .unset, .unset, .unset, .unset] [(.int (Int32.ofNat sN)), (.ref b7), (.ref b13), (.ref b13)])) _
        refine XS.iload X13.here hx rfl (hb hby at_128) rfl ?_
        show Steps p.tables e below (T13.setTop (mkF m 130 #[.val (.int p1), .val (.int p2), .val (.int p3), .val (.int p4), .val (.int p5), .val (.int p6), .val (.int (Int32.ofNat sN)), .val (.int (Int32.ofNat lN)), .val (.int (Int32.ofNat eN)), .val (.ref b7), .unset, .unset, .unset, .unset] [(.int (Int32.ofNat eN)), (.int (Int32.ofNat sN)), (.ref b7), (.ref b13), (.ref b13)])) _
        refine st14.trans ?_
        show Steps p.tables e below (T14.setTop (mkF m 133 #[.val (.int p1), .val (.int p2), .val (.int p3), .val (.int p4), .val (.int p5), .val (.int p6), .val (.int (Int32.ofNat sN)), .val (.int (Int32.ofNat lN)), .val (.int (Int32.ofNat eN)), .val (.ref b7), .unset, .unset, .unset, .unset] [(.ref b13)])) _
        refine XS.astore X14.here hx rfl (hb hby at_133) rfl rfl (l' := #[.val (.int p1), .val (.int p2), .val (.int p3), .val (.int p4), .val (.int p5), .val (.int p6), .val (.int (Int32.ofNat sN)), .val (.int (Int32.ofNat lN)), .val (.int (Int32.ofNat eN)), .val (.ref b7), .val (.ref b13), .unset, .unset, .unset]) rfl ?_
        show Steps p.tables e below (T14.setTop (mkF m 135 #[.val (.int p1), .val (.int p2), .val (.int p3), .val (.int p4), .val (.int p5), .val (.int p6), .val (.int (Int32.ofNat sN)), .val (.int (Int32.ofNat lN)), .val (.int (Int32.ofNat eN)), .val (.ref b7), .val (.ref b13), .unset, .unset, .unset] [])) _
        refine XS.aload X14.here hx rfl (hb hby at_135) rfl rfl ?_
        show Steps p.tables e below (T14.setTop (mkF m 137 #[.val (.int p1), .val (.int p2), .val (.int p3), .val (.int p4), .val (.int p5), .val (.int p6), .val (.int (Int32.ofNat sN)), .val (.int (Int32.ofNat lN)), .val (.int (Int32.ofNat eN)), .val (.ref b7), .val (.ref b13), .unset, .unset, .unset] [(.ref b13)])) _
        refine st15.trans ?_
        show Steps p.tables e below (T15.setTop (mkF m 140 #[.val (.int p1), .val (.int p2), .val (.int p3), .val (.int p4), .val (.int p5), .val (.int p6), .val (.int (Int32.ofNat sN)), .val (.int (Int32.ofNat lN)), .val (.int (Int32.ofNat eN)), .val (.ref b7), .val (.ref b13), .unset, .unset, .unset] [(.int (1 : Int32))])) _
        refine XS.istore X15.here hx rfl (hb hby at_140) rfl (l' := #[.val (.int p1), .val (.int p2), .val (.int p3), .val (.int p4), .val (.int p5), .val (.int p6), .val (.int (Int32.ofNat sN)), .val (.int (Int32.ofNat lN)), .val (.int (Int32.ofNat eN)), .val (.ref b7), .val (.ref b13), .val (.int (1 : Int32)), .unset, .unset]) rfl ?_
        show Steps p.tables e below (T15.setTop (mkF m 142 #[.val (.int p1), .val (.int p2), .val (.int p3), .val (.int p4), .val (.int p5), .val (.int p6), .val (.int (Int32.ofNat sN)), .val (.int (Int32.ofNat lN)), .val (.int (Int32.ofNat eN)), .val (.ref b7), .val (.ref b13), .val (.int (1 : Int32)), .unset, .unset] [])) _
        refine XS.iload X15.here hx rfl (hb hby at_142) rfl ?_
        show Steps p.tables e below (T15.setTop (mkF m 144 #[.val (.int p1), .val (.int p2), .val (.int p3), .val (.int p4), .val (.int p5), .val (.int p6), .val (.int (Int32.ofNat sN)), .val (.int (Int32.ofNat lN)), .val (.int (Int32.ofNat eN)), .val (.ref b7), .val (.ref b13), .val (.int (1 : Int32)), .unset, .unset] [(.int (Int32.ofNat sN))])) _
        refine XS.iload X15.here hx rfl (hb hby at_144) rfl ?_
        show Steps p.tables e below (T15.setTop (mkF m 146 #[.val (.int p1), .val (.int p2), .val (.int p3), .val (.int p4), .val (.int p5), .val (.int p6), .val (.int (Int32.ofNat sN)), .val (.int (Int32.ofNat lN)), .val (.int (Int32.ofNat eN)), .val (.ref b7), .val (.ref b13), .val (.int (1 : Int32)), .unset, .unset] [(.int (Int32.ofNat eN)), (.int (Int32.ofNat sN))])) _
        have hc146 : (Int32.ofNat sN) < (Int32.ofNat eN) := hc99
        refine XS.icmpYes X15.here hx rfl (pc0 := 146) (pc' := 160) rfl (hb hby at_146) rfl (tlt hc146).1 (by decide) (by decide) ?_
        show Steps p.tables e below (T15.setTop (mkF m 160 #[.val (.int p1), .val (.int p2), .val (.int p3), .val (.int p4), .val (.int p5), .val (.int p6), .val (.int (Int32.ofNat sN)), .val (.int (Int32.ofNat lN)), .val (.int (Int32.ofNat eN)), .val (.ref b7), .val (.ref b13), .val (.int (1 : Int32)), .unset, .unset] [])) _
        refine XS.aload X15.here hx rfl (hb hby at_160) rfl rfl ?_
        show Steps p.tables e below (T15.setTop (mkF m 162 #[.val (.int p1), .val (.int p2), .val (.int p3), .val (.int p4), .val (.int p5), .val (.int p6), .val (.int (Int32.ofNat sN)), .val (.int (Int32.ofNat lN)), .val (.int (Int32.ofNat eN)), .val (.ref b7), .val (.ref b13), .val (.int (1 : Int32)), .unset, .unset] [(.ref b7)])) _
        refine XS.iload X15.here hx rfl (hb hby at_162) rfl ?_
        show Steps p.tables e below (T15.setTop (mkF m 164 #[.val (.int p1), .val (.int p2), .val (.int p3), .val (.int p4), .val (.int p5), .val (.int p6), .val (.int (Int32.ofNat sN)), .val (.int (Int32.ofNat lN)), .val (.int (Int32.ofNat eN)), .val (.ref b7), .val (.ref b13), .val (.int (1 : Int32)), .unset, .unset] [(.int (Int32.ofNat sN)), (.ref b7)])) _
        have hat164 : cl.slots[(Int32.ofNat sN).toNatClampNeg]? = some (.int (g sN)) := own_at B1 (by omega)
        have hin164 : ¬ ((Int32.ofNat sN) < 0 ∨ cl.slots.size ≤ (Int32.ofNat sN).toNatClampNeg) := own_in B1.2.1 (by omega)
        refine X15.baloadBytes hx (j := (Int32.ofNat sN)) (v := (.int (g sN))) (by exact B1.1.1) (State.isArrayOf_alike hZ.alike B1.1.2.1) B1.1.2.2 hin164 hat164 (g := (mkF m 164 #[.val (.int p1), .val (.int p2), .val (.int p3), .val (.int p4), .val (.int p5), .val (.int p6), .val (.int (Int32.ofNat sN)), .val (.int (Int32.ofNat lN)), .val (.int (Int32.ofNat eN)), .val (.ref b7), .val (.ref b13), .val (.int (1 : Int32)), .unset, .unset] [(.int (Int32.ofNat sN)), (.ref b7)])) rfl rfl (hb hby at_164) _ ?_
        show Steps p.tables e below (T15.setTop (mkF m 165 #[.val (.int p1), .val (.int p2), .val (.int p3), .val (.int p4), .val (.int p5), .val (.int p6), .val (.int (Int32.ofNat sN)), .val (.int (Int32.ofNat lN)), .val (.int (Int32.ofNat eN)), .val (.ref b7), .val (.ref b13), .val (.int (1 : Int32)), .unset, .unset] [(.int (g sN))])) _
        refine XS.ifNo X15.here hx rfl (hb hby at_165) rfl ((if0 _ _).trans (flt hc165).1) ?_
        show Steps p.tables e below (T15.setTop (mkF m 168 #[.val (.int p1), .val (.int p2), .val (.int p3), .val (.int p4), .val (.int p5), .val (.int p6), .val (.int (Int32.ofNat sN)), .val (.int (Int32.ofNat lN)), .val (.int (Int32.ofNat eN)), .val (.ref b7), .val (.ref b13), .val (.int (1 : Int32)), .unset, .unset] [])) _
        refine XS.iload X15.here hx rfl (hb hby at_168) rfl ?_
        show Steps p.tables e below (T15.setTop (mkF m 170 #[.val (.int p1), .val (.int p2), .val (.int p3), .val (.int p4), .val (.int p5), .val (.int p6), .val (.int (Int32.ofNat sN)), .val (.int (Int32.ofNat lN)), .val (.int (Int32.ofNat eN)), .val (.ref b7), .val (.ref b13), .val (.int (1 : Int32)), .unset, .unset] [(.int (Int32.ofNat sN))])) _
        refine XS.iconst X15.here hx rfl (hb hby at_170) ?_
        show Steps p.tables e below (T15.setTop (mkF m 171 #[.val (.int p1), .val (.int p2), .val (.int p3), .val (.int p4), .val (.int p5), .val (.int p6), .val (.int (Int32.ofNat sN)), .val (.int (Int32.ofNat lN)), .val (.int (Int32.ofNat eN)), .val (.ref b7), .val (.ref b13), .val (.int (1 : Int32)), .unset, .unset] [(.int (1 : Int32)), (.int (Int32.ofNat sN))])) _
        refine XS.iadd X15.here hx rfl (hb hby at_171) rfl ?_
        show Steps p.tables e below (T15.setTop (mkF m 172 #[.val (.int p1), .val (.int p2), .val (.int p3), .val (.int p4), .val (.int p5), .val (.int p6), .val (.int (Int32.ofNat sN)), .val (.int (Int32.ofNat lN)), .val (.int (Int32.ofNat eN)), .val (.ref b7), .val (.ref b13), .val (.int (1 : Int32)), .unset, .unset] [(.int ((Int32.ofNat sN) + (1 : Int32)))])) _
        refine XS.istore X15.here hx rfl (hb hby at_172) rfl (l' := #[.val (.int p1), .val (.int p2), .val (.int p3), .val (.int p4), .val (.int p5), .val (.int p6), .val (.int (Int32.ofNat sN)), .val (.int (Int32.ofNat lN)), .val (.int (Int32.ofNat eN)), .val (.ref b7), .val (.ref b13), .val (.int (1 : Int32)), .val (.int ((Int32.ofNat sN) + (1 : Int32))), .unset]) rfl ?_
        show Steps p.tables e below (T15.setTop (mkF m 174 #[.val (.int p1), .val (.int p2), .val (.int p3), .val (.int p4), .val (.int p5), .val (.int p6), .val (.int (Int32.ofNat sN)), .val (.int (Int32.ofNat lN)), .val (.int (Int32.ofNat eN)), .val (.ref b7), .val (.ref b13), .val (.int (1 : Int32)), .val (.int ((Int32.ofNat sN) + (1 : Int32))), .unset] [])) _
        refine XS.goto X15.here hx rfl (pc0 := 174) (pc' := 202) rfl (hb hby at_174) (by decide) (by decide) ?_
        show Steps p.tables e below (T15.setTop (mkF m 202 #[.val (.int p1), .val (.int p2), .val (.int p3), .val (.int p4), .val (.int p5), .val (.int p6), .val (.int (Int32.ofNat sN)), .val (.int (Int32.ofNat lN)), .val (.int (Int32.ofNat eN)), .val (.ref b7), .val (.ref b13), .val (.int (1 : Int32)), .val (.int ((Int32.ofNat sN) + (1 : Int32))), .unset] [])) _
        refine XS.aload X15.here hx rfl (hb hby at_202) rfl rfl ?_
        show Steps p.tables e below (T15.setTop (mkF m 204 #[.val (.int p1), .val (.int p2), .val (.int p3), .val (.int p4), .val (.int p5), .val (.int p6), .val (.int (Int32.ofNat sN)), .val (.int (Int32.ofNat lN)), .val (.int (Int32.ofNat eN)), .val (.ref b7), .val (.ref b13), .val (.int (1 : Int32)), .val (.int ((Int32.ofNat sN) + (1 : Int32))), .unset] [(.ref b13)])) _
        refine st17.trans ?_
        show Steps p.tables e below (T17.setTop (mkF m 207 #[.val (.int p1), .val (.int p2), .val (.int p3), .val (.int p4), .val (.int p5), .val (.int p6), .val (.int (Int32.ofNat sN)), .val (.int (Int32.ofNat lN)), .val (.int (Int32.ofNat eN)), .val (.ref b7), .val (.ref b13), .val (.int (1 : Int32)), .val (.int ((Int32.ofNat sN) + (1 : Int32))), .unset] [(.long xv)])) _
        jvm_step X17.here [X17.here.top, hx, (hb hby at_207), Value.category]
        show Steps p.tables e below (T17.setTop (mkF m 208 #[.val (.int p1), .val (.int p2), .val (.int p3), .val (.int p4), .val (.int p5), .val (.int p6), .val (.int (Int32.ofNat sN)), .val (.int (Int32.ofNat lN)), .val (.int (Int32.ofNat eN)), .val (.ref b7), .val (.ref b13), .val (.int (1 : Int32)), .val (.int ((Int32.ofNat sN) + (1 : Int32))), .unset] [])) _
        refine XS.aload X17.here hx rfl (hb hby at_208) rfl rfl ?_
        show Steps p.tables e below (T17.setTop (mkF m 210 #[.val (.int p1), .val (.int p2), .val (.int p3), .val (.int p4), .val (.int p5), .val (.int p6), .val (.int (Int32.ofNat sN)), .val (.int (Int32.ofNat lN)), .val (.int (Int32.ofNat eN)), .val (.ref b7), .val (.ref b13), .val (.int (1 : Int32)), .val (.int ((Int32.ofNat sN) + (1 : Int32))), .unset] [(.ref b13)])) _
        refine st18.trans ?_
        show Steps p.tables e below (T18.setTop (mkF m 213 #[.val (.int p1), .val (.int p2), .val (.int p3), .val (.int p4), .val (.int p5), .val (.int p6), .val (.int (Int32.ofNat sN)), .val (.int (Int32.ofNat lN)), .val (.int (Int32.ofNat eN)), .val (.ref b7), .val (.ref b13), .val (.int (1 : Int32)), .val (.int ((Int32.ofNat sN) + (1 : Int32))), .unset] [(.int (own_r (Int32.ofNat (sN + 0 + 1)) (Int32.ofNat eN)))])) _
        refine XS.istore X18.here hx rfl (hb hby at_213) rfl (l' := #[.val (.int p1), .val (.int p2), .val (.int p3), .val (.int p4), .val (.int p5), .val (.int p6), .val (.int (Int32.ofNat sN)), .val (.int (Int32.ofNat lN)), .val (.int (Int32.ofNat eN)), .val (.ref b7), .val (.ref b13), .val (.int (1 : Int32)), .val (.int ((Int32.ofNat sN) + (1 : Int32))), .val (.int (own_r (Int32.ofNat (sN + 0 + 1)) (Int32.ofNat eN)))]) rfl ?_
        show Steps p.tables e below (T18.setTop (mkF m 215 #[.val (.int p1), .val (.int p2), .val (.int p3), .val (.int p4), .val (.int p5), .val (.int p6), .val (.int (Int32.ofNat sN)), .val (.int (Int32.ofNat lN)), .val (.int (Int32.ofNat eN)), .val (.ref b7), .val (.ref b13), .val (.int (1 : Int32)), .val (.int ((Int32.ofNat sN) + (1 : Int32))), .val (.int (own_r (Int32.ofNat (sN + 0 + 1)) (Int32.ofNat eN)))] [])) _
        refine XS.iload X18.here hx rfl (hb hby at_215) rfl ?_
        show Steps p.tables e below (T18.setTop (mkF m 217 #[.val (.int p1), .val (.int p2), .val (.int p3), .val (.int p4), .val (.int p5), .val (.int p6), .val (.int (Int32.ofNat sN)), .val (.int (Int32.ofNat lN)), .val (.int (Int32.ofNat eN)), .val (.ref b7), .val (.ref b13), .val (.int (1 : Int32)), .val (.int ((Int32.ofNat sN) + (1 : Int32))), .val (.int (own_r (Int32.ofNat (sN + 0 + 1)) (Int32.ofNat eN)))] [(.int (1 : Int32))])) _
        have hc217 : ¬ ((1 : Int32) = (0 : Int32)) := by decide
        refine XS.ifNo X18.here hx rfl (hb hby at_217) rfl ((if0 _ _).trans (feq hc217).1) ?_
        show Steps p.tables e below (T18.setTop (mkF m 220 #[.val (.int p1), .val (.int p2), .val (.int p3), .val (.int p4), .val (.int p5), .val (.int p6), .val (.int (Int32.ofNat sN)), .val (.int (Int32.ofNat lN)), .val (.int (Int32.ofNat eN)), .val (.ref b7), .val (.ref b13), .val (.int (1 : Int32)), .val (.int ((Int32.ofNat sN) + (1 : Int32))), .val (.int (own_r (Int32.ofNat (sN + 0 + 1)) (Int32.ofNat eN)))] [])) _
        refine XS.iload X18.here hx rfl (hb hby at_220) rfl ?_
        show Steps p.tables e below (T18.setTop (mkF m 222 #[.val (.int p1), .val (.int p2), .val (.int p3), .val (.int p4), .val (.int p5), .val (.int p6), .val (.int (Int32.ofNat sN)), .val (.int (Int32.ofNat lN)), .val (.int (Int32.ofNat eN)), .val (.ref b7), .val (.ref b13), .val (.int (1 : Int32)), .val (.int ((Int32.ofNat sN) + (1 : Int32))), .val (.int (own_r (Int32.ofNat (sN + 0 + 1)) (Int32.ofNat eN)))] [(.int (own_r (Int32.ofNat (sN + 0 + 1)) (Int32.ofNat eN)))])) _
        refine XS.iload X18.here hx rfl (hb hby at_222) rfl ?_
        show Steps p.tables e below (T18.setTop (mkF m 224 #[.val (.int p1), .val (.int p2), .val (.int p3), .val (.int p4), .val (.int p5), .val (.int p6), .val (.int (Int32.ofNat sN)), .val (.int (Int32.ofNat lN)), .val (.int (Int32.ofNat eN)), .val (.ref b7), .val (.ref b13), .val (.int (1 : Int32)), .val (.int ((Int32.ofNat sN) + (1 : Int32))), .val (.int (own_r (Int32.ofNat (sN + 0 + 1)) (Int32.ofNat eN)))] [(.int ((Int32.ofNat sN) + (1 : Int32))), (.int (own_r (Int32.ofNat (sN + 0 + 1)) (Int32.ofNat eN)))])) _
        refine XS.iload X18.here hx rfl (hb hby at_224) rfl ?_
        show Steps p.tables e below (T18.setTop (mkF m 226 #[.val (.int p1), .val (.int p2), .val (.int p3), .val (.int p4), .val (.int p5), .val (.int p6), .val (.int (Int32.ofNat sN)), .val (.int (Int32.ofNat lN)), .val (.int (Int32.ofNat eN)), .val (.ref b7), .val (.ref b13), .val (.int (1 : Int32)), .val (.int ((Int32.ofNat sN) + (1 : Int32))), .val (.int (own_r (Int32.ofNat (sN + 0 + 1)) (Int32.ofNat eN)))] [(.int (Int32.ofNat eN)), (.int ((Int32.ofNat sN) + (1 : Int32))), (.int (own_r (Int32.ofNat (sN + 0 + 1)) (Int32.ofNat eN)))])) _
        by_cases hc226 : ((Int32.ofNat sN) + (1 : Int32)) < (Int32.ofNat eN)
        · refine XS.icmpNo X18.here hx rfl (hb hby at_226) rfl (tlt hc226).2.1 ?_
          show Steps p.tables e below (T18.setTop (mkF m 229 #[.val (.int p1), .val (.int p2), .val (.int p3), .val (.int p4), .val (.int p5), .val (.int p6), .val (.int (Int32.ofNat sN)), .val (.int (Int32.ofNat lN)), .val (.int (Int32.ofNat eN)), .val (.ref b7), .val (.ref b13), .val (.int (1 : Int32)), .val (.int ((Int32.ofNat sN) + (1 : Int32))), .val (.int (own_r (Int32.ofNat (sN + 0 + 1)) (Int32.ofNat eN)))] [(.int (own_r (Int32.ofNat (sN + 0 + 1)) (Int32.ofNat eN)))])) _
          refine XS.iconst X18.here hx rfl (hb hby at_229) ?_
          show Steps p.tables e below (T18.setTop (mkF m 230 #[.val (.int p1), .val (.int p2), .val (.int p3), .val (.int p4), .val (.int p5), .val (.int p6), .val (.int (Int32.ofNat sN)), .val (.int (Int32.ofNat lN)), .val (.int (Int32.ofNat eN)), .val (.ref b7), .val (.ref b13), .val (.int (1 : Int32)), .val (.int ((Int32.ofNat sN) + (1 : Int32))), .val (.int (own_r (Int32.ofNat (sN + 0 + 1)) (Int32.ofNat eN)))] [(.int (1 : Int32)), (.int (own_r (Int32.ofNat (sN + 0 + 1)) (Int32.ofNat eN)))])) _
          refine XS.goto X18.here hx rfl (pc0 := 230) (pc' := 234) rfl (hb hby at_230) (by decide) (by decide) ?_
          show Steps p.tables e below (T18.setTop (mkF m 234 #[.val (.int p1), .val (.int p2), .val (.int p3), .val (.int p4), .val (.int p5), .val (.int p6), .val (.int (Int32.ofNat sN)), .val (.int (Int32.ofNat lN)), .val (.int (Int32.ofNat eN)), .val (.ref b7), .val (.ref b13), .val (.int (1 : Int32)), .val (.int ((Int32.ofNat sN) + (1 : Int32))), .val (.int (own_r (Int32.ofNat (sN + 0 + 1)) (Int32.ofNat eN)))] [(.int (1 : Int32)), (.int (own_r (Int32.ofNat (sN + 0 + 1)) (Int32.ofNat eN)))])) _
          have hc234 : (own_r (Int32.ofNat (sN + 0 + 1)) (Int32.ofNat eN)) = (1 : Int32) := by have q := hc226; rw [own_p0] at q; exact if_pos q
          refine XS.icmpNo X18.here hx rfl (hb hby at_234) rfl (teq hc234).2 ?_
          show Steps p.tables e below (T18.setTop (mkF m 237 #[.val (.int p1), .val (.int p2), .val (.int p3), .val (.int p4), .val (.int p5), .val (.int p6), .val (.int (Int32.ofNat sN)), .val (.int (Int32.ofNat lN)), .val (.int (Int32.ofNat eN)), .val (.ref b7), .val (.ref b13), .val (.int (1 : Int32)), .val (.int ((Int32.ofNat sN) + (1 : Int32))), .val (.int (own_r (Int32.ofNat (sN + 0 + 1)) (Int32.ofNat eN)))] [])) _
          refine XS.iconst X18.here hx rfl (hb hby at_237) ?_
          show Steps p.tables e below (T18.setTop (mkF m 238 #[.val (.int p1), .val (.int p2), .val (.int p3), .val (.int p4), .val (.int p5), .val (.int p6), .val (.int (Int32.ofNat sN)), .val (.int (Int32.ofNat lN)), .val (.int (Int32.ofNat eN)), .val (.ref b7), .val (.ref b13), .val (.int (1 : Int32)), .val (.int ((Int32.ofNat sN) + (1 : Int32))), .val (.int (own_r (Int32.ofNat (sN + 0 + 1)) (Int32.ofNat eN)))] [(.int (1 : Int32))])) _
          refine XS.goto X18.here hx rfl (pc0 := 238) (pc' := 242) rfl (hb hby at_238) (by decide) (by decide) ?_
          show Steps p.tables e below (T18.setTop (mkF m 242 #[.val (.int p1), .val (.int p2), .val (.int p3), .val (.int p4), .val (.int p5), .val (.int p6), .val (.int (Int32.ofNat sN)), .val (.int (Int32.ofNat lN)), .val (.int (Int32.ofNat eN)), .val (.ref b7), .val (.ref b13), .val (.int (1 : Int32)), .val (.int ((Int32.ofNat sN) + (1 : Int32))), .val (.int (own_r (Int32.ofNat (sN + 0 + 1)) (Int32.ofNat eN)))] [(.int (1 : Int32))])) _
          exact retN X18 hx (t := .boolean) Bd.returns (by simp) (hb hby at_242) hr
        · refine XS.icmpYes X18.here hx rfl (pc0 := 226) (pc' := 233) rfl (hb hby at_226) rfl (flt hc226).2.1 (by decide) (by decide) ?_
          show Steps p.tables e below (T18.setTop (mkF m 233 #[.val (.int p1), .val (.int p2), .val (.int p3), .val (.int p4), .val (.int p5), .val (.int p6), .val (.int (Int32.ofNat sN)), .val (.int (Int32.ofNat lN)), .val (.int (Int32.ofNat eN)), .val (.ref b7), .val (.ref b13), .val (.int (1 : Int32)), .val (.int ((Int32.ofNat sN) + (1 : Int32))), .val (.int (own_r (Int32.ofNat (sN + 0 + 1)) (Int32.ofNat eN)))] [(.int (own_r (Int32.ofNat (sN + 0 + 1)) (Int32.ofNat eN)))])) _
          refine XS.iconst X18.here hx rfl (hb hby at_233) ?_
          show Steps p.tables e below (T18.setTop (mkF m 234 #[.val (.int p1), .val (.int p2), .val (.int p3), .val (.int p4), .val (.int p5), .val (.int p6), .val (.int (Int32.ofNat sN)), .val (.int (Int32.ofNat lN)), .val (.int (Int32.ofNat eN)), .val (.ref b7), .val (.ref b13), .val (.int (1 : Int32)), .val (.int ((Int32.ofNat sN) + (1 : Int32))), .val (.int (own_r (Int32.ofNat (sN + 0 + 1)) (Int32.ofNat eN)))] [(.int (0 : Int32)), (.int (own_r (Int32.ofNat (sN + 0 + 1)) (Int32.ofNat eN)))])) _
          have hc234 : (own_r (Int32.ofNat (sN + 0 + 1)) (Int32.ofNat eN)) = (0 : Int32) := by have q := hc226; rw [own_p0] at q; exact if_neg q
          refine XS.icmpNo X18.here hx rfl (hb hby at_234) rfl (teq hc234).2 ?_
          show Steps p.tables e below (T18.setTop (mkF m 237 #[.val (.int p1), .val (.int p2), .val (.int p3), .val (.int p4), .val (.int p5), .val (.int p6), .val (.int (Int32.ofNat sN)), .val (.int (Int32.ofNat lN)), .val (.int (Int32.ofNat eN)), .val (.ref b7), .val (.ref b13), .val (.int (1 : Int32)), .val (.int ((Int32.ofNat sN) + (1 : Int32))), .val (.int (own_r (Int32.ofNat (sN + 0 + 1)) (Int32.ofNat eN)))] [])) _
          refine XS.iconst X18.here hx rfl (hb hby at_237) ?_
          show Steps p.tables e below (T18.setTop (mkF m 238 #[.val (.int p1), .val (.int p2), .val (.int p3), .val (.int p4), .val (.int p5), .val (.int p6), .val (.int (Int32.ofNat sN)), .val (.int (Int32.ofNat lN)), .val (.int (Int32.ofNat eN)), .val (.ref b7), .val (.ref b13), .val (.int (1 : Int32)), .val (.int ((Int32.ofNat sN) + (1 : Int32))), .val (.int (own_r (Int32.ofNat (sN + 0 + 1)) (Int32.ofNat eN)))] [(.int (1 : Int32))])) _
          refine XS.goto X18.here hx rfl (pc0 := 238) (pc' := 242) rfl (hb hby at_238) (by decide) (by decide) ?_
          show Steps p.tables e below (T18.setTop (mkF m 242 #[.val (.int p1), .val (.int p2), .val (.int p3), .val (.int p4), .val (.int p5), .val (.int p6), .val (.int (Int32.ofNat sN)), .val (.int (Int32.ofNat lN)), .val (.int (Int32.ofNat eN)), .val (.ref b7), .val (.ref b13), .val (.int (1 : Int32)), .val (.int ((Int32.ofNat sN) + (1 : Int32))), .val (.int (own_r (Int32.ofNat (sN + 0 + 1)) (Int32.ofNat eN)))] [(.int (1 : Int32))])) _
          exact retN X18 hx (t := .boolean) Bd.returns (by simp) (hb hby at_242) hr
      · show Q0 Z p1 p2 p3 p4 p5 p6 h0 n0 _ T18.heap _
        exact ⟨rfl, N18⟩
  · obtain ⟨T7, h7, k7, X7, e7, E7, A7, st7⟩ := newP X0 hx hZ (hw _ (List.mem_of_getElem? (i := 1) rfl)) e0 (g := (mkF m 72 #[.val (.int p1), .val (.int p2), .val (.int p3), .val (.int p4), .val (.int p5), .val (.int p6), .val (.int (Int32.ofNat sN)), .val (.int (Int32.ofNat lN)), .val (.int (Int32.ofNat eN)), .unset, .unset, .unset, .unset, .unset] [(.int (3 : Int32))])) rfl (hb hby at_72) rfl (by decide) (cap := 3) (by decide) (by decide) (by decide) (by decide)
    obtain ⟨b7, g7⟩ : ∃ z, z = h0.size := ⟨_, rfl⟩      -- the fresh array's address
    rw [← g7] at A7 st7
    have V_b7 : Arv Z h7 b7 k7 .byte (3 : Int32) [(.int (0 : Int32)), (.int (0 : Int32)), (.int (0 : Int32))] (.int (0 : Int32)) := (Arv.new A7 (by decide)).pad (pad_rep [] (.int (0 : Int32)) 3)
    have g_b7 : n0 ≤ b7 := Nat.le_trans Z0 (Nat.le_of_eq g7.symm)
    have sz_b7 : h0.size ≤ b7 := (Nat.le_trans (Keep.refl h0 []).1 (Nat.le_of_eq g7.symm))
    have K7 : Keep h0 h7 [] := (Keep.refl h0 []).ext E7
    obtain ⟨cl_b7_81, Ar_b7, q_b7, S_b7, N_b7, H_b7, G_b7⟩ := V_b7      -- open the array's fact as it stands now (its cell, kind, length, elements)
    have hin81 : ¬ ((0 : Int32) < 0 ∨ cl_b7_81.slots.size ≤ ((0 : Int32)).toNatClampNeg) := inb_of S_b7 ⟨by decide, by decide⟩
    obtain ⟨T8, h8, X8, e8, W8, st8⟩ := stB X7 hx hZ e7 Ar_b7 (j := (0 : Int32)) hin81 (g := (mkF m 81 #[.val (.int p1), .val (.int p2), .val (.int p3), .val (.int p4), .val (.int p5), .val (.int p6), .val (.int (Int32.ofNat sN)), .val (.int (Int32.ofNat lN)), .val (.int (Int32.ofNat eN)), .val (.ref b7), .unset, .unset, .unset, .unset] [(.int (p3.toInt8.toInt32)), (.int (0 : Int32)), (.ref b7)])) rfl rfl (hb hby at_81)
    have V_b7_8 := Arv.set Ar_b7 q_b7 S_b7 N_b7 H_b7 G_b7 (fits_nar_byte _) W8 0 rfl (Nat.le_of_ble_eq_true rfl)      -- the array as it stands now (the place must lie among its first values: Arv.pad with pad_rep lengthens them)
    have K8 : Keep h0 h8 [] := K7.wr W8 (Or.inr sz_b7)
    have N8 := Fr.snoc X8 N0 g_b7
    -- (bastore into a boolean[]: stZ in stB's place)
    obtain ⟨cl_b7_87, Ar_b7, q_b7, S_b7, N_b7, H_b7, G_b7⟩ := V_b7_8      -- open the array's fact as it stands now (its cell, kind, length, elements)
    have hin87 : ¬ ((1 : Int32) < 0 ∨ cl_b7_87.slots.size ≤ ((1 : Int32)).toNatClampNeg) := inb_of S_b7 ⟨by decide, by decide⟩
    obtain ⟨T9, h9, X9, e9, W9, st9⟩ := stB X8 hx hZ e8 Ar_b7 (j := (1 : Int32)) hin87 (g := (mkF m 87 #[.val (.int p1), .val (.int p2), .val (.int p3), .val (.int p4), .val (.int p5), .val (.int p6), .val (.int (Int32.ofNat sN)), .val (.int (Int32.ofNat lN)), .val (.int (Int32.ofNat eN)), .val (.ref b7), .unset, .unset, .unset, .unset] [(.int (p4.toInt8.toInt32)), (.int (1 : Int32)), (.ref b7)])) rfl rfl (hb hby at_87)
    have V_b7_9 := Arv.set Ar_b7 q_b7 S_b7 N_b7 H_b7 G_b7 (fits_nar_byte _) W9 1 rfl (Nat.le_of_ble_eq_true rfl)      -- the array as it stands now (the place must lie among its first values: Arv.pad with pad_rep lengthens them)
    have K9 : Keep h0 h9 [] := K8.wr W9 (Or.inr sz_b7)
    have N9 := Fr.snoc X9 N8 g_b7
    -- (bastore into a boolean[]: stZ in stB's place)
    obtain ⟨cl_b7_94, Ar_b7, q_b7, S_b7, N_b7, H_b7, G_b7⟩ := V_b7_9      -- open the array's fact as it stands now (its cell, kind, length, elements)
    have hin94 : ¬ ((2 : Int32) < 0 ∨ cl_b7_94.slots.size ≤ ((2 : Int32)).toNatClampNeg) := inb_of S_b7 ⟨by decide, by decide⟩
    obtain ⟨T10, h10, X10, e10, W10, st10⟩ := stB X9 hx hZ e9 Ar_b7 (j := (2 : Int32)) hin94 (g := (mkF m 94 #[.val (.int p1), .val (.int p2), .val (.int p3), .val (.int p4), .val (.int p5), .val (.int p6), .val (.int (Int32.ofNat sN)), .val (.int (Int32.ofNat lN)), .val (.int (Int32.ofNat eN)), .val (.ref b7), .unset, .unset, .unset, .unset] [(.int (p5.toInt8.toInt32)), (.int (2 : Int32)), (.ref b7)])) rfl rfl (hb hby at_94)
    have V_b7_10 := Arv.set Ar_b7 q_b7 S_b7 N_b7 H_b7 G_b7 (fits_nar_byte _) W10 2 rfl (Nat.le_of_ble_eq_true rfl)      -- the array as it stands now (the place must lie among its first values: Arv.pad with pad_rep lengthens them)
    have K10 : Keep h0 h10 [] := K9.wr W10 (Or.inr sz_b7)
    have N10 := Fr.snoc X10 N9 g_b7
    -- (bastore into a boolean[]: stZ in stB's place)
    obtain ⟨T11, h11, X11, e11, E11, A11, D11, -, st11⟩ := newO X10 hx hZ hown (hw _ (List.mem_of_getElem? (i := 2) rfl)) (hw _ (List.mem_of_getElem? (i := 3) rfl)) (hw _ (List.mem_of_getElem? (i := 4) rfl)) e10 (g := (mkF m 120 #[.val (.int p1), .val (.int p2), .val (.int p3), .val (.int p4), .val (.int p5), .val (.int p6), .val (.int (Int32.ofNat sN)), .val (.int (Int32.ofNat lN)), .val (.int (Int32.ofNat eN)), .val (.ref b7), .unset, .unset, .unset, .unset] [])) rfl (hb hby at_120) (by decide) (by decide)
    obtain ⟨b11, g11⟩ : ∃ z, z = h10.size := ⟨_, rfl⟩      -- the fresh object's address
    rw [← g11] at A11 D11 st11      -- A11 : Exa Z h11 b11 "com/example/melete/melete/index/Decoder"; E11 : Ext h10 h11 (carries every older fact: .ext E11)
    have F_bytes_b11 : Fld Z h11 b11 "com/example/melete/melete/index/Decoder" "bytes" "[B" .null := D11 (Or.inr (hw _ (List.mem_of_getElem? (i := 12) rfl))) (ty := (.array .byte)) (by decide)
    have F_position_b11 : Fld Z h11 b11 "com/example/melete/melete/index/Decoder" "position" "I" (.int (0 : Int32)) := D11 (Or.inl (hw _ (List.mem_of_getElem? (i := 14) rfl))) (ty := .int) (by decide)
    have F_limit_b11 : Fld Z h11 b11 "com/example/melete/melete/index/Decoder" "limit" "I" (.int (0 : Int32)) := D11 (Or.inl (hw _ (List.mem_of_getElem? (i := 16) rfl))) (ty := .int) (by decide)
    have F_channel_b11 : Fld Z h11 b11 "com/example/melete/melete/index/Decoder" "channel" "Ljava/nio/channels/FileChannel;" .null := D11 (Or.inr (hw _ (List.mem_of_getElem? (i := 18) rfl))) (ty := (.object "java/nio/channels/FileChannel")) (by decide)
    have F_end_b11 : Fld Z h11 b11 "com/example/melete/melete/index/Decoder" "end" "J" (.long (0 : Int64)) := D11 (Or.inr (hw _ (List.mem_of_getElem? (i := 20) rfl))) (ty := .long) (by decide)
    have F_next_b11 : Fld Z h11 b11 "com/example/melete/melete/index/Decoder" "next" "J" (.long (0 : Int64)) := D11 (Or.inl (hw _ (List.mem_of_getElem? (i := 36) rfl))) (ty := .long) (by decide)
    have E_b11 := A11
    have g_b11 : n0 ≤ b11 := Nat.le_trans (Nat.le_trans (Nat.le_trans (Nat.le_trans (Nat.le_trans Z0 E7.1) (Keep.of_wr W8).1) (Keep.of_wr W9).1) (Keep.of_wr W10).1) (Nat.le_of_eq g11.symm)
    have sz_b11 : h0.size ≤ b11 := (Nat.le_trans K10.1 (Nat.le_of_eq g11.symm))
    have K11 : Keep h0 h11 [] := K10.ext E11
    -- pc 130: the constructor of com/example/melete/melete/index/Decoder by its contract rm1
    obtain ⟨_, _, ⟨T12, L12, k12, n12⟩, -, X12, ⟨Lc12, hQ12, l12, y12, z12⟩, st12⟩ := X11.specialBack hx (y := (⟨"com/example/melete/melete/index/Decoder", "<init>", "([BII)V"⟩ : MethodName)) rfl hown (mvT hZ (hw _ (List.mem_of_getElem? (i := 5) rfl))) (mvT hZ (hw _ (List.mem_of_getElem? (i := 6) rfl))) (mvT hZ (hw _ (List.mem_of_getElem? (i := 7) rfl))) (by decide) (backOf (W := 1) (rm1 l Z a0 hw [] b11 b7 (Int32.ofNat sN) (Int32.ofNat eN) .null (.int (0 : Int32)) (.int (0 : Int32)) .null (.long (0 : Int64)) h11 n0 (Nat.le_trans Z0 K11.1) (E_b11) (F_bytes_b11) g_b11 (F_position_b11) (F_limit_b11) (F_channel_b11) (F_end_b11) (F_next_b11)) hZ (hw _ (List.mem_of_getElem? (i := 7) rfl)) (hw _ (List.mem_of_getElem? (i := 4) rfl)) (by decide) (by decide)) (g := (mkF m 130 #[.val (.int p1), .val (.int p2), .val (.int p3), .val (.int p4), .val (.int p5), .val (.int p6), .val (.int (Int32.ofNat sN)), .val (.int (Int32.ofNat lN)), .val (.int (Int32.ofNat eN)), .val (.ref b7), .unset, .unset, .unset, .unset] [(.int (Int32.ofNat eN)), (.int (Int32.ofNat sN)), (.ref b7), (.ref b11), (.ref b11)])) rfl (by rw [hml]; rfl) (Steps.refl _) (a := b11) (argsL := [(.ref b7), (.int (Int32.ofNat sN)), (.int (Int32.ofNat eN))]) (rest := [(.ref b11)]) (lenOf pd_0_0 rfl) rfl (by show 2 * 0 + _ ≤ _; exact Nat.le_of_eq rfl) (hb hby at_130) (fun _ _ => ⟨rfl, e11, (by decide : 2 + 0 ≤ _), (by decide : 9 + 0 ≤ _)⟩)
    dsimp only [Pt.U, Pt.locs, Pt.cells, Pt.slots] at X12 l12 y12 z12 st12 hQ12
    subst l12 y12 z12
    obtain ⟨rfl, N12q, Kci, Di⟩ := hQ12
    have Zi := Nat.le_trans (Nat.le_trans Z0 K11.1) Kci.1
    have N12 := Fr.app N10 N12q
    -- pc 137: com/example/melete/melete/index/Decoder.hasRemaining by the contract of the body that the receiver's class selects, rm3
    obtain ⟨cq13, kq13, q13a, q13b, q13c⟩ := isOf hZ rfl (E_b11.keep Kci)
    obtain ⟨_, _, ⟨T13, L13, k13, n13⟩, -, X13, ⟨Lc13, hQ13, l13, y13, z13⟩, st13⟩ := X12.virtualBack hx (y := (⟨"com/example/melete/melete/index/Decoder", "hasRemaining", "()Z"⟩ : MethodName)) (z := (⟨"com/example/melete/melete/index/Decoder", "hasRemaining", "()Z"⟩ : MethodName)) hown (mvT hZ (hw _ (List.mem_of_getElem? (i := 21) rfl))) (mvT hZ (hw _ (List.mem_of_getElem? (i := 22) rfl))) (notFace_of_selects (args := #[]) (mvT hZ (hw _ (List.mem_of_getElem? (i := 24) rfl)))) (mvT hZ (hw _ (List.mem_of_getElem? (i := 24) rfl))) (mvT hZ (hw _ (List.mem_of_getElem? (i := 23) rfl))) (by decide) (backOf (W := 0) (rm3 l Z a0 hw [] b11 b7 (Int32.ofNat sN) (Int32.ofNat eN) T12.heap n0 Zi Di) hZ (hw _ (List.mem_of_getElem? (i := 25) rfl)) (hw _ (List.mem_of_getElem? (i := 4) rfl)) (by decide) (by decide)) q13a q13c (g := (mkF m 137 #[.val (.int p1), .val (.int p2), .val (.int p3), .val (.int p4), .val (.int p5), .val (.int p6), .val (.int (Int32.ofNat sN)), .val (.int (Int32.ofNat lN)), .val (.int (Int32.ofNat eN)), .val (.ref b7), .val (.ref b11), .unset, .unset, .unset] [(.ref b11)])) rfl (by rw [hml]; rfl) (Steps.refl _) (argsL := []) (rest := []) (lenOf pd_0_2 rfl) rfl (by show 2 * 0 + _ ≤ _; exact Nat.le_of_eq rfl) (hb hby at_137) (fun _ _ => ⟨rfl, rfl, (by decide : 2 + 0 ≤ _), (by decide : 9 + 0 ≤ _)⟩)
    dsimp only [Pt.U, Pt.locs, Pt.cells, Pt.slots] at X13 l13 y13 z13 st13 hQ13
    subst l13 y13 z13
    obtain ⟨rfl, N13q, hh1⟩ := hQ13
    have Kc1 : Keep T12.heap T13.heap [] := by rw [hh1]; exact Keep.refl _ _
    have Z1 := Nat.le_trans Zi Kc1.1
    have D1 := own_D_keep Di Kc1 nin0
    have N13 := Fr.app N12 N13q
    obtain ⟨fs, hr, hrun, hended, hW, hsame⟩ := X13.leave (v := some (.int (1 : Int32))) (fun h => by rw [Bd.returns] at h; cases h)
    refine ⟨_, _, pre0 _ (preh _ ?_), hrun, hended, _, _, rfl, ?_, ⟨_, rfl⟩, hW, hsame.mono (by decide) (by decide)⟩
    · show Steps p.tables e below (s₁.setTop (mkF m 71 #[.val (.int p1), .val (.int p2), .val (.int p3), .val (.int p4), .val (.int p5), .val (.int p6), .val (.int (Int32.ofNat sN)), .val (.int (Int32.ofNat lN)), .val (.int (Int32.ofNat eN)), .unset, .unset, .unset, .unset, .unset] [])) _
      refine XS.iconst X0.here hx rfl (hb hby at_71) ?_
      show Steps p.tables e below (s₁.setTop (mkF m 72 #[.val (.int p1), .val (.int p2), .val (.int p3), .val (.int p4), .val (.int p5), .val (.int p6), .val (.int (Int32.ofNat sN)), .val (.int (Int32.ofNat lN)), .val (.int (Int32.ofNat eN)), .unset, .unset, .unset, .unset, .unset] [(.int (3 : Int32))])) _
      refine st7 _ ?_
      show Steps p.tables e below (T7.setTop (mkF m 74 #[.val (.int p1), .val (.int p2), .val (.int p3), .val (.int p4), .val (.int p5), .val (.int p6), .val (.int (Int32.ofNat sN)), .val (.int (Int32.ofNat lN)), .val (.int (Int32.ofNat eN)), .unset, .unset, .unset, .unset, .unset] [(.ref b7)])) _
      refine XS.astore X7.here hx rfl (hb hby at_74) rfl rfl (l' := #[.val (.int p1), .val (.int p2), .val (.int p3), .val (.int p4), .val (.int p5), .val (.int p6), .val (.int (Int32.ofNat sN)), .val (.int (Int32.ofNat lN)), .val (.int (Int32.ofNat eN)), .val (.ref b7), .unset, .unset, .unset, .unset]) rfl ?_
      show Steps p.tables e below (T7.setTop (mkF m 76 #[.val (.int p1), .val (.int p2), .val (.int p3), .val (.int p4), .val (.int p5), .val (.int p6), .val (.int (Int32.ofNat sN)), .val (.int (Int32.ofNat lN)), .val (.int (Int32.ofNat eN)), .val (.ref b7), .unset, .unset, .unset, .unset] [])) _
      refine XS.aload X7.here hx rfl (hb hby at_76) rfl rfl ?_
      show Steps p.tables e below (T7.setTop (mkF m 78 #[.val (.int p1), .val (.int p2), .val (.int p3), .val (.int p4), .val (.int p5), .val (.int p6), .val (.int (Int32.ofNat sN)), .val (.int (Int32.ofNat lN)), .val (.int (Int32.ofNat eN)), .val (.ref b7), .unset, .unset, .unset, .unset] [(.ref b7)])) _
      refine XS.iconst X7.here hx rfl (hb hby at_78) ?_
      show Steps p.tables e below (T7.setTop (mkF m 79 #[.val (.int p1), .val (.int p2), .val (.int p3), .val (.int p4), .val (.int p5), .val (.int p6), .val (.int (Int32.ofNat sN)), .val (.int (Int32.ofNat lN)), .val (.int (Int32.ofNat eN)), .val (.ref b7), .unset, .unset, .unset, .unset] [(.int (0 : Int32)), (.ref b7)])) _
      refine XS.iloadN X7.here hx rfl (hb hby at_79) rfl ?_
      show Steps p.tables e below (T7.setTop (mkF m 80 #[.val (.int p1), .val (.int p2), .val (.int p3), .val (.int p4), .val (.int p5), .val (.int p6), .val (.int (Int32.ofNat sN)), .val (.int (Int32.ofNat lN)), .val (.int (Int32.ofNat eN)), .val (.ref b7), .unset, .unset, .unset, .unset] [(.int p3), (.int (0 : Int32)), (.ref b7)])) _
      refine XS.i2b X7.here hx rfl (hb hby at_80) rfl ?_
      show Steps p.tables e below (T7.setTop (mkF m 81 #[.val (.int p1), .val (.int p2), .val (.int p3), .val (.int p4), .val (.int p5), .val (.int p6), .val (.int (Int32.ofNat sN)), .val (.int (Int32.ofNat lN)), .val (.int (Int32.ofNat eN)), .val (.ref b7), .unset, .unset, .unset, .unset] [(.int (p3.toInt8.toInt32)), (.int (0 : Int32)), (.ref b7)])) _
      refine st8 _ ?_
      show Steps p.tables e below (T8.setTop (mkF m 82 #[.val (.int p1), .val (.int p2), .val (.int p3), .val (.int p4), .val (.int p5), .val (.int p6), .val (.int (Int32.ofNat sN)), .val (.int (Int32.ofNat lN)), .val (.int (Int32.ofNat eN)), .val (.ref b7), .unset, .unset, .unset, .unset] [])) _
      refine XS.aload X8.here hx rfl (hb hby at_82) rfl rfl ?_
      show Steps p.tables e below (T8.setTop (mkF m 84 #[.val (.int p1), .val (.int p2), .val (.int p3), .val (.int p4), .val (.int p5), .val (.int p6), .val (.int (Int32.ofNat sN)), .val (.int (Int32.ofNat lN)), .val (.int (Int32.ofNat eN)), .val (.ref b7), .unset, .unset, .unset, .unset] [(.ref b7)])) _
      refine XS.iconst X8.here hx rfl (hb hby at_84) ?_
      show Steps p.tables e below (T8.setTop (mkF m 85 #[.val (.int p1), .val (.int p2), .val (.int p3), .val (.int p4), .val (.int p5), .val (.int p6), .val (.int (Int32.ofNat sN)), .val (.int (Int32.ofNat lN)), .val (.int (Int32.ofNat eN)), .val (.ref b7), .unset, .unset, .unset, .unset] [(.int (1 : Int32)), (.ref b7)])) _
      refine XS.iloadN X8.here hx rfl (hb hby at_85) rfl ?_
      show Steps p.tables e below (T8.setTop (mkF m 86 #[.val (.int p1), .val (.int p2), .val (.int p3), .val (.int p4), .val (.int p5), .val (.int p6), .val (.int (Int32.ofNat sN)), .val (.int (Int32.ofNat lN)), .val (.int (Int32.ofNat eN)), .val (.ref b7), .unset, .unset, .unset, .unset] [(.int p4), (.int (1 : Int32)), (.ref b7)])) _
      refine XS.i2b X8.here hx rfl (hb hby at_86) rfl ?_
      show Steps p.tables e below (T8.setTop (mkF m 87 #[.val (.int p1), .val (.int p2), .val (.int p3), .val (.int p4), .val (.int p5), .val (.int p6), .val (.int (Int32.ofNat sN)), .val (.int (Int32.ofNat lN)), .val (.int (Int32.ofNat eN)), .val (.ref b7), .unset, .unset, .unset, .unset] [(.int (p4.toInt8.toInt32)), (.int (1 : Int32)), (.ref b7)])) _
      refine st9 _ ?_
      show Steps p.tables e below (T9.setTop (mkF m 88 #[.val (.int p1), .val (.int p2), .val (.int p3), .val (.int p4), .val (.int p5), .val (.int p6), .val (.int (Int32.ofNat sN)), .val (.int (Int32.ofNat lN)), .val (.int (Int32.ofNat eN)), .val (.ref b7), .unset, .unset, .unset, .unset] [])) _
      refine XS.aload X9.here hx rfl (hb hby at_88) rfl rfl ?_
      show Steps p.tables e below (T9.setTop (mkF m 90 #[.val (.int p1), .val (.int p2), .val (.int p3), .val (.int p4), .val (.int p5), .val (.int p6), .val (.int (Int32.ofNat sN)), .val (.int (Int32.ofNat lN)), .val (.int (Int32.ofNat eN)), .val (.ref b7), .unset, .unset, .unset, .unset] [(.ref b7)])) _
      refine XS.iconst X9.here hx rfl (hb hby at_90) ?_
      show Steps p.tables e below (T9.setTop (mkF m 91 #[.val (.int p1), .val (.int p2), .val (.int p3), .val (.int p4), .val (.int p5), .val (.int p6), .val (.int (Int32.ofNat sN)), .val (.int (Int32.ofNat lN)), .val (.int (Int32.ofNat eN)), .val (.ref b7), .unset, .unset, .unset, .unset] [(.int (2 : Int32)), (.ref b7)])) _
      refine XS.iload X9.here hx rfl (hb hby at_91) rfl ?_
      show Steps p.tables e below (T9.setTop (mkF m 93 #[.val (.int p1), .val (.int p2), .val (.int p3), .val (.int p4), .val (.int p5), .val (.int p6), .val (.int (Int32.ofNat sN)), .val (.int (Int32.ofNat lN)), .val (.int (Int32.ofNat eN)), .val (.ref b7), .unset, .unset, .unset, .unset] [(.int p5), (.int (2 : Int32)), (.ref b7)])) _
      refine XS.i2b X9.here hx rfl (hb hby at_93) rfl ?_
      show Steps p.tables e below (T9.setTop (mkF m 94 #[.val (.int p1), .val (.int p2), .val (.int p3), .val (.int p4), .val (.int p5), .val (.int p6), .val (.int (Int32.ofNat sN)), .val (.int (Int32.ofNat lN)), .val (.int (Int32.ofNat eN)), .val (.ref b7), .unset, .unset, .unset, .unset] [(.int (p5.toInt8.toInt32)), (.int (2 : Int32)), (.ref b7)])) _
      refine st10 _ ?_
      show Steps p.tables e below (T10.setTop (mkF m 95 #[.val (.int p1), .val (.int p2), .val (.int p3), .val (.int p4), .val (.int p5), .val (.int p6), .val (.int (Int32.ofNat sN)), .val (.int (Int32.ofNat lN)), .val (.int (Int32.ofNat eN)), .val (.ref b7), .unset, .unset, .unset, .unset] [])) _
      refine XS.iload X10.here hx rfl (hb hby at_95) rfl ?_
      show Steps p.tables e below (T10.setTop (mkF m 97 #[.val (.int p1), .val (.int p2), .val (.int p3), .val (.int p4), .val (.int p5), .val (.int p6), .val (.int (Int32.ofNat sN)), .val (.int (Int32.ofNat lN)), .val (.int (Int32.ofNat eN)), .val (.ref b7), .unset, .unset, .unset, .unset] [(.int (Int32.ofNat eN))])) _
      refine XS.iload X10.here hx rfl (hb hby at_97) rfl ?_
      show Steps p.tables e below (T10.setTop (mkF m 99 #[.val (.int p1), .val (.int p2), .val (.int p3), .val (.int p4), .val (.int p5), .val (.int p6), .val (.int (Int32.ofNat sN)), .val (.int (Int32.ofNat lN)), .val (.int (Int32.ofNat eN)), .val (.ref b7), .unset, .unset, .unset, .unset] [(.int (Int32.ofNat sN)), (.int (Int32.ofNat eN))])) _
      refine XS.icmpYes X10.here hx rfl (pc0 := 99) (pc' := 120) rfl (hb hby at_99) rfl (flt hc99).2.2.2 (by decide) (by decide) ?_
      show Steps p.tables e below (T10.setTop (mkF m 120 #[.val (.int p1), .val (.int p2), .val (.int p3), .val (.int p4), .val (.int p5), .val (.int p6), .val (.int (Int32.ofNat sN)), .val (.int (Int32.ofNat lN)), .val (.int (Int32.ofNat eN)), .val (.ref b7), .unset, .unset, .unset, .unset] [])) _
      refine st11 _ ?_
      show Steps p.tables e below (T11.setTop (mkF m 123 #[.val (.int p1), .val (.int p2), .val (.int p3), .val (.int p4), .val (.int p5), .val (.int p6), .val (.int (Int32.ofNat sN)), .val (.int (Int32.ofNat lN)), .val (.int (Int32.ofNat eN)), .val (.ref b7), .unset, .unset, .unset, .unset] [(.ref b11)])) _
      refine XS.dup X11.here hx rfl (hb hby at_123) rfl rfl ?_
      show Steps p.tables e below (T11.setTop (mkF m 124 #[.val (.int p1), .val (.int p2), .val (.int p3), .val (.int p4), .val (.int p5), .val (.int p6), .val (.int (Int32.ofNat sN)), .val (.int (Int32.ofNat lN)), .val (.int (Int32.ofNat eN)), .val (.ref b7), .unset, .unset, .unset, .unset] [(.ref b11), (.ref b11)])) _
      refine XS.aload X11.here hx rfl (hb hby at_124) rfl rfl ?_
      show Steps p.tables e below (T11.setTop (mkF m 126 #[.val (.int p1), .val (.int p2), .val (.int p3), .val (.int p4), .val (.int p5), .val (.int p6), .val (.int (Int32.ofNat sN)), .val (.int (Int32.ofNat lN)), .val (.int (Int32.ofNat eN)), .val (.ref b7), .unset, .unset, .unset, .unset] [(.ref b7), (.ref b11), (.ref b11)])) _
      refine XS.iload X11.here hx rfl (hb hby at_126) rfl ?_
      show Steps p.tables e below (T11.setTop (mkF m 128 #[.val (.int p1), .val (.int p2), .val (.int p3), .val (.int p4), .val (.int p5), .val (.int p6), .val (.int (Int32.ofNat sN)), .val (.int (Int32.ofNat lN)), .val (.int (Int32.ofNat eN)), .val (.ref b7), .unset, .unset, .unset, .unset] [(.int (Int32.ofNat sN)), (.ref b7), (.ref b11), (.ref b11)])) _
      refine XS.iload X11.here hx rfl (hb hby at_128) rfl ?_
      show Steps p.tables e below (T11.setTop (mkF m 130 #[.val (.int p1), .val (.int p2), .val (.int p3), .val (.int p4), .val (.int p5), .val (.int p6), .val (.int (Int32.ofNat sN)), .val (.int (Int32.ofNat lN)), .val (.int (Int32.ofNat eN)), .val (.ref b7), .unset, .unset, .unset, .unset] [(.int (Int32.ofNat eN)), (.int (Int32.ofNat sN)), (.ref b7), (.ref b11), (.ref b11)])) _
      refine st12.trans ?_
      show Steps p.tables e below (T12.setTop (mkF m 133 #[.val (.int p1), .val (.int p2), .val (.int p3), .val (.int p4), .val (.int p5), .val (.int p6), .val (.int (Int32.ofNat sN)), .val (.int (Int32.ofNat lN)), .val (.int (Int32.ofNat eN)), .val (.ref b7), .unset, .unset, .unset, .unset] [(.ref b11)])) _
      refine XS.astore X12.here hx rfl (hb hby at_133) rfl rfl (l' := #[.val (.int p1), .val (.int p2), .val (.int p3), .val (.int p4), .val (.int p5), .val (.int p6), .val (.int (Int32.ofNat sN)), .val (.int (Int32.ofNat lN)), .val (.int (Int32.ofNat eN)), .val (.ref b7), .val (.ref b11), .unset, .unset, .unset]) rfl ?_
      show Steps p.tables e below (T12.setTop (mkF m 135 #[.val (.int p1), .val (.int p2), .val (.int p3), .val (.int p4), .val (.int p5), .val (.int p6), .val (.int (Int32.ofNat sN)), .val (.int (Int32.ofNat lN)), .val (.int (Int32.ofNat eN)), .val (.ref b7), .val (.ref b11), .unset, .unset, .unset] [])) _
      refine XS.aload X12.here hx rfl (hb hby at_135) rfl rfl ?_
      show Steps p.tables e below (T12.setTop (mkF m 137 #[.val (.int p1), .val (.int p2), .val (.int p3), .val (.int p4), .val (.int p5), .val (.int p6), .val (.int (Int32.ofNat sN)), .val (.int (Int32.ofNat lN)), .val (.int (Int32.ofNat eN)), .val (.ref b7), .val (.ref b11), .unset, .unset, .unset] [(.ref b11)])) _
      refine st13.trans ?_
      show Steps p.tables e below (T13.setTop (mkF m 140 #[.val (.int p1), .val (.int p2), .val (.int p3), .val (.int p4), .val (.int p5), .val (.int p6), .val (.int (Int32.ofNat sN)), .val (.int (Int32.ofNat lN)), .val (.int (Int32.ofNat eN)), .val (.ref b7), .val (.ref b11), .unset, .unset, .unset] [(.int (own_r (Int32.ofNat sN) (Int32.ofNat eN)))])) _
      refine XS.istore X13.here hx rfl (hb hby at_140) rfl (l' := #[.val (.int p1), .val (.int p2), .val (.int p3), .val (.int p4), .val (.int p5), .val (.int p6), .val (.int (Int32.ofNat sN)), .val (.int (Int32.ofNat lN)), .val (.int (Int32.ofNat eN)), .val (.ref b7), .val (.ref b11), .val (.int (own_r (Int32.ofNat sN) (Int32.ofNat eN))), .unset, .unset]) rfl ?_
      show Steps p.tables e below (T13.setTop (mkF m 142 #[.val (.int p1), .val (.int p2), .val (.int p3), .val (.int p4), .val (.int p5), .val (.int p6), .val (.int (Int32.ofNat sN)), .val (.int (Int32.ofNat lN)), .val (.int (Int32.ofNat eN)), .val (.ref b7), .val (.ref b11), .val (.int (own_r (Int32.ofNat sN) (Int32.ofNat eN))), .unset, .unset] [])) _
      refine XS.iload X13.here hx rfl (hb hby at_142) rfl ?_
      show Steps p.tables e below (T13.setTop (mkF m 144 #[.val (.int p1), .val (.int p2), .val (.int p3), .val (.int p4), .val (.int p5), .val (.int p6), .val (.int (Int32.ofNat sN)), .val (.int (Int32.ofNat lN)), .val (.int (Int32.ofNat eN)), .val (.ref b7), .val (.ref b11), .val (.int (own_r (Int32.ofNat sN) (Int32.ofNat eN))), .unset, .unset] [(.int (Int32.ofNat sN))])) _
      refine XS.iload X13.here hx rfl (hb hby at_144) rfl ?_
      show Steps p.tables e below (T13.setTop (mkF m 146 #[.val (.int p1), .val (.int p2), .val (.int p3), .val (.int p4), .val (.int p5), .val (.int p6), .val (.int (Int32.ofNat sN)), .val (.int (Int32.ofNat lN)), .val (.int (Int32.ofNat eN)), .val (.ref b7), .val (.ref b11), .val (.int (own_r (Int32.ofNat sN) (Int32.ofNat eN))), .unset, .unset] [(.int (Int32.ofNat eN)), (.int (Int32.ofNat sN))])) _
      have hc146 : ¬ ((Int32.ofNat sN) < (Int32.ofNat eN)) := hc99
      refine XS.icmpNo X13.here hx rfl (hb hby at_146) rfl (flt hc146).1 ?_
      show Steps p.tables e below (T13.setTop (mkF m 149 #[.val (.int p1), .val (.int p2), .val (.int p3), .val (.int p4), .val (.int p5), .val (.int p6), .val (.int (Int32.ofNat sN)), .val (.int (Int32.ofNat lN)), .val (.int (Int32.ofNat eN)), .val (.ref b7), .val (.ref b11), .val (.int (own_r (Int32.ofNat sN) (Int32.ofNat eN))), .unset, .unset] [])) _
      refine XS.iload X13.here hx rfl (hb hby at_149) rfl ?_
      show Steps p.tables e below (T13.setTop (mkF m 151 #[.val (.int p1), .val (.int p2), .val (.int p3), .val (.int p4), .val (.int p5), .val (.int p6), .val (.int (Int32.ofNat sN)), .val (.int (Int32.ofNat lN)), .val (.int (Int32.ofNat eN)), .val (.ref b7), .val (.ref b11), .val (.int (own_r (Int32.ofNat sN) (Int32.ofNat eN))), .unset, .unset] [(.int (own_r (Int32.ofNat sN) (Int32.ofNat eN)))])) _
      have hc151 : (own_r (Int32.ofNat sN) (Int32.ofNat eN)) = (0 : Int32) := by simp [own_r, hc99]
      refine XS.ifNo X13.here hx rfl (hb hby at_151) rfl ((if0 _ _).trans (teq hc151).2) ?_
      show Steps p.tables e below (T13.setTop (mkF m 154 #[.val (.int p1), .val (.int p2), .val (.int p3), .val (.int p4), .val (.int p5), .val (.int p6), .val (.int (Int32.ofNat sN)), .val (.int (Int32.ofNat lN)), .val (.int (Int32.ofNat eN)), .val (.ref b7), .val (.ref b11), .val (.int (own_r (Int32.ofNat sN) (Int32.ofNat eN))), .unset, .unset] [])) _
      refine XS.iconst X13.here hx rfl (hb hby at_154) ?_
      show Steps p.tables e below (T13.setTop (mkF m 155 #[.val (.int p1), .val (.int p2), .val (.int p3), .val (.int p4), .val (.int p5), .val (.int p6), .val (.int (Int32.ofNat sN)), .val (.int (Int32.ofNat lN)), .val (.int (Int32.ofNat eN)), .val (.ref b7), .val (.ref b11), .val (.int (own_r (Int32.ofNat sN) (Int32.ofNat eN))), .unset, .unset] [(.int (1 : Int32))])) _
      refine XS.goto X13.here hx rfl (pc0 := 155) (pc' := 159) rfl (hb hby at_155) (by decide) (by decide) ?_
      show Steps p.tables e below (T13.setTop (mkF m 159 #[.val (.int p1), .val (.int p2), .val (.int p3), .val (.int p4), .val (.int p5), .val (.int p6), .val (.int (Int32.ofNat sN)), .val (.int (Int32.ofNat lN)), .val (.int (Int32.ofNat eN)), .val (.ref b7), .val (.ref b11), .val (.int (own_r (Int32.ofNat sN) (Int32.ofNat eN))), .unset, .unset] [(.int (1 : Int32))])) _
      exact retN X13 hx (t := .boolean) Bd.returns (by simp) (hb hby at_159) hr
    · show Q0 Z p1 p2 p3 p4 p5 p6 h0 n0 _ T13.heap _
      exact ⟨rfl, N13⟩
theorem rm0 (l : Launch) (Z : State) (a0 : Array Value) (hw : ∀ d ∈ tables_1, d.before a0 Z = true) (ws : List Jvm.Cond) (p1 : Int32) (p2 : Int32) (p3 : Int32) (p4 : Int32) (p5 : Int32) (p6 : Int32) (h0 : Heap) (n0 : Nat) (Z0 : n0 ≤ h0.size) :
    MetFree l x (head1 (Jvm.Cond.code x code maxLocals ret :: ws) room_1) (fun a U => a = #[(.int p1), (.int p2), (.int p3), (.int p4), (.int p5), (.int p6)] ∧ Z.Warmed39 U.vm ∧ U.heap = h0) (fun _ _ _ _ _ => True) (fun _ U o U' => ∃ v L, o = .returned v ∧ Q0 Z p1 p2 p3 p4 p5 p6 h0 n0 v U'.heap L ∧ FrameEnd U o U' L room_1.cells room_1.slots) := by
  by_cases hc4 : (p6 &&& (1 : Int32)) = (0 : Int32)
  · exact rm0a l Z a0 hw ws p1 p2 p3 p4 p5 p6 h0 n0 Z0 hc4
  · exact rm0b l Z a0 hw ws p1 p2 p3 p4 p5 p6 h0 n0 Z0 hc4
-- 5. FROM THE CASE'S WORDS TO rm0, AND THE OWED THEOREMS
set_option maxRecDepth 65536 in
set_option maxHeartbeats 40000000 in
theorem comes_1 {Post : Tables → Env → Array Value → State → Outcome → State → Prop} (hpost : ∀ tb e args s v u, (limb_1_1.after args s (.returned v) u = true ∧ limb_1_2.after args s (.returned v) u = true ∧ True) → FrameEnd s (.returned v) u (Jvm.fieldLocs frame_1_writes args s ++ Jvm.arrayLocs frame_1_arrays args s ++ Jvm.staticLocs frame_1_statics s) 16 128 → Post tb e args s (.returned v) u) :
    ArmFor flags0 classFile x code maxLocals ret World_1 tables_1 room_1 Calls_1 rest_1 Pre_1 Post := by
  intro l hfl _ _ p e ha hc hk s m args below hf hA hF happ hP
  obtain ⟨hcalls, hrest, hpre⟩ := hP
  obtain ⟨-, -, -, hnamed, -, -, -, hat⟩ := (Spec.applies_iff hf).mp happ
  obtain ⟨hg, hn⟩ := and_e (Cond.before_iff.mp (show (Jvm.Cond.and given_1 narrow_1).before args s = true from hpre))
  obtain ⟨g11, g12⟩ := and_e hg
  obtain ⟨g13, g14⟩ := and_e g12
  obtain ⟨g15, g16⟩ := and_e g14
  obtain ⟨g17, g18⟩ := and_e g16
  obtain ⟨g19, g20⟩ := and_e g18
  obtain ⟨g21, g22⟩ := and_e g20
  obtain ⟨w0, w1, w2, w3, w4, w5, rfl⟩ : ∃ w0 w1 w2 w3 w4 w5 : Value, args = #[w0, w1, w2, w3, w4, w5] := by
    have hs : args.size = 6 := by simpa [Cond.value, given_1] using g11
    obtain ⟨L⟩ := args
    match L, hs with
    | [w0, w1, w2, w3, w4, w5], _ => exact ⟨w0, w1, w2, w3, w4, w5, rfl⟩
  have hw := fun d (hd : d ∈ tables_1) => atoms_spec (ws := Jvm.Cond.code x code maxLocals ret :: tables_1) hat d (List.mem_cons_of_mem _ hd)
  have hfit : Fit s := fun {y c} hc i hi => by
    obtain ⟨ha, rfl⟩ := Array.getElem?_eq_some_iff.mp hc
    have q := List.all_eq_true.mp ((Array.all_eq_true_iff_forall_mem.mp hF) _ (Array.getElem_mem ha)) i (List.mem_range.mpr hi)
    simpa [Array.getElem?_eq_getElem hi] using q
  obtain ⟨i0, ei0⟩ := is_v g13
  obtain rfl : w0 = (.int i0) := Option.some.inj ei0
  obtain ⟨i1, ei1⟩ := is_v g15
  obtain rfl : w1 = (.int i1) := Option.some.inj ei1
  obtain ⟨i2, ei2⟩ := is_v g17
  obtain rfl : w2 = (.int i2) := Option.some.inj ei2
  obtain ⟨i3, ei3⟩ := is_v g19
  obtain rfl : w3 = (.int i3) := Option.some.inj ei3
  obtain ⟨i4, ei4⟩ := is_v g21
  obtain rfl : w4 = (.int i4) := Option.some.inj ei4
  obtain ⟨i5, ei5⟩ := is_v g22
  obtain rfl : w5 = (.int i5) := Option.some.inj ei5
  obtain ⟨n, o, h1, h2, h3, _, L, rfl, ⟨rfl, N⟩, hq⟩ := rm0 l s _ hw tables_1 i0 i1 i2 i3 i4 i5 s.heap s.heap.size (Nat.le_refl _) p e ha hc hk s m _ below hf ((Spec.applies_iff_loose hf).mp happ).1 ⟨rfl, State.Warmed39.refl s, rfl⟩ trivial
  refine ⟨n, _, h1, h2, h3, hpost _ _ _ _ _ _ ⟨Cond.after_iff.mpr rfl, Cond.after_iff.mpr (eq_i res_at (Term.int_eval (1)) rfl), trivial⟩ ⟨hq.1, hq.2.1, (hq.2.2.sift fun y hy => Or.inr (N y hy)).mono (by decide) (by decide)⟩⟩
theorem main_1_1 : Claimed_1_1 := comes_1 fun _ _ _ _ _ _ h hF => ⟨h.1, hF⟩
theorem main_1_2 : Claimed_1_2 := comes_1 fun _ _ _ _ _ _ h hF => ⟨h.2.1, hF⟩
-- 6. THE WITNESS: 'witness <made dir> --arg ..' lays it behind; then: end Jvm.Pilot.@@N@@
end Jvm.Pilot.@@N@@
namespace Jvm.Pilot.@@N@@
open Jvm Jvm.ClassFile Sem Op Lib Jvm.Free Jvm.Stand Jvm.Pilot.@@N@@.Jvm.D
/-! MADE BY PROGRAM (witnessworld.py) out of the Statement's table words and the real class files: 9 classes; the members and pool entries that the words name. The judged class is class 1, her method 1. -/
namespace start1
open Jvm.ClassFile
def u (s : String) : CpInfo := .utf8 (stringToUtf16 s)
/-- a pool by its gaps: so many unusable entries, then the entry; so many at the end -/
def gap : Nat → List CpInfo → List CpInfo
  | 0, r => r
  | n + 1, r => .unusable :: gap n r
def poolList (es : List (Nat × CpInfo)) (last : Nat) : List CpInfo := es.foldr (fun e r => gap e.1 (e.2 :: r)) (gap last [])
def pool (es : List (Nat × CpInfo)) (last : Nat) : Array CpInfo := ⟨poolList es last⟩
def fileOf (pool : Array CpInfo) (this : Nat) (attrs : Array Attribute := #[]) (ms : Array MethodInfo := #[]) (fl : Nat := 33) (sup : Nat := 0) (ifs : Array Nat := #[]) (fds : Array FieldInfo := #[]) : ClassFile where
  minorVersion := 0
  majorVersion := 65
  constantPool := pool
  accessFlags := fl
  thisClass := this
  superClass := sup
  interfaces := ifs
  fields := fds
  methods := ms
  attributes := attrs
def plain (name : String) (sup : Option ClassId) : Class where
  name := name
  kind := .ordinary
  loader := none
  accessFlags := 33
  super := sup
  interfaces := #[]
  cf := none
  fields := #[]
  methods := #[]
  instanceTypes := #[]
  staticTypes := #[]
  resolved := #[]
  callSites := []
  init := .initialized
  statics := none
  mirror := none

def pool0 : Array CpInfo := pool [(5, u "<init>"), (0, u "()V"), (1, .class_ 10), (1, u "java/lang/Object")] 113

def k0c0 : Code := { maxStack := 0, maxLocals := 1, code := object_method_1_code, exceptionTable := #[], attributes := #[] }
def k0m0 : Method := { name := "<init>", desc := "()V", sig := { parameters := [], returnType := none }, accessFlags := 1, code := some k0c0 }
/-- java/lang/Object -/
def k0 : Class := { plain "java/lang/Object" none with
  accessFlags := 33
  interfaces := #[]
  cf := some (fileOf pool0 8 #[] #[{ accessFlags := 1, nameIndex := 5, descriptorIndex := 6, attributes := #[] }] 33 0 #[] #[])
  fields := #[]
  methods := #[k0m0]
  instanceTypes := #[]
  staticTypes := #[]
  resolved := Array.replicate 124 none
  statics := none }

def pool1 : Array CpInfo := pool [(2, .class_ 4), (1, u "java/lang/Object"), (0, u "<init>"), (0, u "()V"), (0, .class_ 8), (0, u "com/example/melete/melete/index/Decoder"), (0, .methodref 7 10), (0, .nameAndType 5 11), (0, u "([BII)V"), (0, .methodref 7 13), (0, .nameAndType 14 15), (0, u "hasRemaining"), (0, u "()Z"), (0, .integer 2147483647), (0, .methodref 7 18), (0, .nameAndType 19 20), (0, u "readVarint"), (0, u "()J"), (0, .class_ 22), (0, u "com/example/melete/melete/index/DecoderHasRemainingPinLaw"), (2, u "law"), (0, u "(IIIIII)Z")] 8

def k1m0 : Method := { name := "<init>", desc := "()V", sig := { parameters := [], returnType := none }, accessFlags := 1, code := none }
def k1c1 : Code := { maxStack := 5, maxLocals := 14, code := code, exceptionTable := #[], attributes := #[] }
def k1m1 : Method := { name := "law", desc := "(IIIIII)Z", sig := { parameters := [.int, .int, .int, .int, .int, .int], returnType := some .boolean }, accessFlags := 9, code := some k1c1 }
/-- com/example/melete/melete/index/DecoderHasRemainingPinLaw -/
def k1 : Class := { plain "com/example/melete/melete/index/DecoderHasRemainingPinLaw" (some 0) with
  accessFlags := 49
  interfaces := #[]
  cf := some (fileOf pool1 21 #[] #[{ accessFlags := 1, nameIndex := 5, descriptorIndex := 6, attributes := #[] }, { accessFlags := 9, nameIndex := 25, descriptorIndex := 26, attributes := #[] }] 49 2 #[] #[])
  fields := #[]
  methods := #[k1m0, k1m1]
  instanceTypes := #[]
  staticTypes := #[]
  resolved := Array.replicate 35 none
  statics := none }

def pool2 : Array CpInfo := pool [(1, .methodref 2 3), (0, .class_ 4), (0, .nameAndType 5 6), (0, u "java/lang/Object"), (0, u "<init>"), (0, u "()V"), (0, .fieldref 8 9), (0, .class_ 10), (0, .nameAndType 11 12), (0, u "com/example/melete/melete/index/Decoder"), (0, u "bytes"), (0, u "[B"), (0, .fieldref 8 14), (0, .nameAndType 15 16), (0, u "position"), (0, u "I"), (0, .fieldref 8 18), (0, .nameAndType 19 16), (0, u "limit"), (0, .fieldref 8 21), (0, .nameAndType 22 23), (0, u "channel"), (0, u "Ljava/nio/channels/FileChannel;"), (0, .fieldref 8 25), (0, .nameAndType 26 27), (0, u "end"), (0, u "J"), (8, .fieldref 8 37), (0, .nameAndType 38 27), (0, u "next"), (0, .methodref 8 40), (0, .nameAndType 41 42), (0, u "readByte"), (0, u "()B"), (2, u "readVarint"), (0, u "()J"), (33, u "hasRemaining"), (0, u "()Z"), (10, u "CHUNK_SIZE"), (2, u "([BII)V")] 12

def k2c0 : Code := { maxStack := 3, maxLocals := 4, code := prog_13_method_1_code, exceptionTable := #[], attributes := #[] }
def k2m0 : Method := { name := "<init>", desc := "([BII)V", sig := { parameters := [(.array .byte), .int, .int], returnType := none }, accessFlags := 0, code := some k2c0 }
def k2c1 : Code := { maxStack := 5, maxLocals := 5, code := prog_13_method_3_code, exceptionTable := #[], attributes := #[] }
def k2m1 : Method := { name := "readVarint", desc := "()J", sig := { parameters := [], returnType := some .long }, accessFlags := 0, code := some k2c1 }
def k2c2 : Code := { maxStack := 4, maxLocals := 1, code := prog_13_method_6_code, exceptionTable := #[], attributes := #[] }
def k2m2 : Method := { name := "hasRemaining", desc := "()Z", sig := { parameters := [], returnType := some .boolean }, accessFlags := 0, code := some k2c2 }
def k2c3 : Code := { maxStack := 5, maxLocals := 1, code := prog_13_method_7_code, exceptionTable := #[], attributes := #[] }
def k2m3 : Method := { name := "readByte", desc := "()B", sig := { parameters := [], returnType := some .byte }, accessFlags := 2, code := some k2c3 }
/-- com/example/melete/melete/index/Decoder -/
def k2 : Class := { plain "com/example/melete/melete/index/Decoder" (some 0) with
  accessFlags := 32
  interfaces := #[]
  cf := some (fileOf pool2 8 #[] #[{ accessFlags := 0, nameIndex := 5, descriptorIndex := 95, attributes := #[] }, { accessFlags := 0, nameIndex := 45, descriptorIndex := 46, attributes := #[] }, { accessFlags := 0, nameIndex := 80, descriptorIndex := 81, attributes := #[] }, { accessFlags := 2, nameIndex := 41, descriptorIndex := 42, attributes := #[] }] 32 2 #[] #[{ accessFlags := 24, nameIndex := 92, descriptorIndex := 16, attributes := #[] }, { accessFlags := 18, nameIndex := 11, descriptorIndex := 12, attributes := #[] }, { accessFlags := 2, nameIndex := 15, descriptorIndex := 16, attributes := #[] }, { accessFlags := 2, nameIndex := 19, descriptorIndex := 16, attributes := #[] }, { accessFlags := 18, nameIndex := 22, descriptorIndex := 23, attributes := #[] }, { accessFlags := 2, nameIndex := 38, descriptorIndex := 27, attributes := #[] }, { accessFlags := 18, nameIndex := 26, descriptorIndex := 27, attributes := #[] }])
  fields := #[{ name := "CHUNK_SIZE", type := .int, accessFlags := 24, slot := 0, constantValue := 0 }, { name := "bytes", type := (.array .byte), accessFlags := 18, slot := 0, constantValue := 0 }, { name := "position", type := .int, accessFlags := 2, slot := 1, constantValue := 0 }, { name := "limit", type := .int, accessFlags := 2, slot := 2, constantValue := 0 }, { name := "channel", type := (.object "java/nio/channels/FileChannel"), accessFlags := 18, slot := 3, constantValue := 0 }, { name := "next", type := .long, accessFlags := 2, slot := 4, constantValue := 0 }, { name := "end", type := .long, accessFlags := 18, slot := 5, constantValue := 0 }]
  methods := #[k2m0, k2m1, k2m2, k2m3]
  instanceTypes := #[(.array .byte), .int, .int, (.object "java/nio/channels/FileChannel"), .long, .long]
  staticTypes := #[.int]
  resolved := Array.replicate 108 none
  statics := none }

def pool3 : Array CpInfo := pool [(1, u "java/lang/Cloneable"), (0, .class_ 1), (0, u "java/lang/Object"), (0, .class_ 3)] 3

/-- java/lang/Cloneable -/
def k3 : Class := { plain "java/lang/Cloneable" (some 0) with
  accessFlags := 1537
  interfaces := #[]
  cf := some (fileOf pool3 2 #[] #[] 1537 4 #[] #[])
  fields := #[]
  methods := #[]
  instanceTypes := #[]
  staticTypes := #[]
  resolved := Array.replicate 8 none
  statics := none }

def pool4 : Array CpInfo := pool [(1, u "java/io/Serializable"), (0, .class_ 1), (0, u "java/lang/Object"), (0, .class_ 3)] 3

/-- java/io/Serializable -/
def k4 : Class := { plain "java/io/Serializable" (some 0) with
  accessFlags := 1537
  interfaces := #[]
  cf := some (fileOf pool4 2 #[] #[] 1537 4 #[] #[])
  fields := #[]
  methods := #[]
  instanceTypes := #[]
  staticTypes := #[]
  resolved := Array.replicate 8 none
  statics := none }

/-- the primitive byte -/
def k5 : Class := { plain "byte" none with kind := .primitive 'B', accessFlags := 0x411 }
/-- [B -/
def k6 : Class := { plain "[B" (some 0) with kind := .array 5 .byte, interfaces := #[3, 4], accessFlags := 1041 }

/-- the primitive int -/
def k7 : Class := { plain "int" none with kind := .primitive 'I', accessFlags := 0x411 }
/-- [I -/
def k8 : Class := { plain "[I" (some 0) with kind := .array 7 .int, interfaces := #[3, 4], accessFlags := 1041 }

def heap : Heap := #[]
def classes : Array Class := #[k0, k1, k2, k3, k4, k5, k6, k7, k8]
def interned : List (Array UInt16 × Addr) := []
def slotsUsed : Nat := 0
def theMethod : MethodId := ⟨1, 1⟩
def args0 : Array Value := #[.int 1, .int 2, .int 3, .int 4, .int 5, .int 6]
def aboutOver (below : List Frame) : State where
  vm := { classes := classes, interned := interned.toArray }
  heap := heap
  slotsUsed := slotsUsed
  threads := #[{ frames := .invoking theMethod args0 :: below }]
def below0 : List Frame := [.native { method := ⟨0, 0⟩, args := #[] }]
def about1 : State := aboutOver below0
def p0 : Program := .bare "" "" ""
def e0 : Env := launch0.env 0 0 0
theorem w_frames : about1.frames = Frame.invoking theMethod args0 :: below0 := rfl
set_option maxRecDepth 65536 in
theorem w_args : argsFit about1.vm theMethod args0 = true := by decide +kernel
set_option maxRecDepth 65536 in
theorem w_heap : heapFits about1 = true := by decide +kernel
set_option maxRecDepth 65536 in
theorem w_runnable : about1.curStatus? = some .runnable := by decide +kernel
set_option maxRecDepth 65536 in
theorem w_alone : about1.alone = true := by decide +kernel
set_option maxRecDepth 65536 in
theorem w_named : about1.methodNamed? x = some theMethod := by decide +kernel
set_option maxRecDepth 65536 in
theorem w_hears : about1.hears theMethod below0 = true := by decide +kernel
set_option maxRecDepth 65536 in
theorem w_ripe : about1.ripe theMethod args0 below0 = true := by decide +kernel
theorem w_running : about1.status = .running := rfl
set_option maxRecDepth 65536 in
theorem w_room : about1.hasRoom e0.platform room_1 = true :=
  launch0.hasRoom_least _ room_1 (by decide +kernel) (by decide +kernel) (by decide +kernel) (by decide +kernel) (by decide +kernel) (by decide +kernel)
theorem allAtoms_all (ts : List Jvm.Cond) (a : Array Jvm.Value) (st : Jvm.State) : (allAtoms ts).before a st = ts.all (fun c => c.before a st) := by
  induction ts with
  | nil => rfl
  | cons c t ih =>
    show (Jvm.Cond.and c (allAtoms t)).before a st = _
    rw [Jvm.Cond.before_and, ih, List.all_cons]
def words1 : List Jvm.Cond := Jvm.Cond.code x code maxLocals ret :: tables_1
/-- a 'code' word, met by the world's own term for the bytes: nothing is compared byte by byte -/
theorem code_word {y : MethodName} {bytes : ByteArray} {mx : Nat} {rt : Option FieldType} {a : Array Value} {s : State} {m : MethodId} {meth : Method} {c : Code} (h1 : s.methodNamed? y = some m) (h2 : s.vm.method? m = some meth) (h3 : meth.code = some c) (h4 : c.code = bytes)
    (h5 : (c.maxLocals == mx && c.exceptionTable.isEmpty && decide (c.maxStack ≤ mostOperands) && decide (meth.sig.returnType = rt) && !meth.locks && decide (parseMethodDescriptor y.desc = some meth.sig)) = true) : (Jvm.Cond.code y bytes mx rt).before a s = true := by
  simp only [Bool.and_eq_true, beq_iff_eq, Bool.not_eq_true', decide_eq_true_eq] at h5
  obtain ⟨⟨⟨⟨⟨g1, g2⟩, g3⟩, g4⟩, g5⟩, g6⟩ := h5
  simp [Cond.before, Cond.holds, Cond.value, h1, h2, h3, h4, g1, g2, g3, g4, g5, g6]
def isCode : Jvm.Cond → Bool
  | .code _ _ _ _ => true
  | _ => false
theorem all_split {L : List Jvm.Cond} {P : Jvm.Cond → Bool} (h1 : L.all (fun c => isCode c || P c) = true) (h2 : ∀ c ∈ L.filter isCode, P c = true) : L.all P = true := by
  refine List.all_eq_true.mpr fun c hc => ?_
  have h := List.all_eq_true.mp h1 c hc
  rcases Bool.eq_false_or_eq_true (isCode c) with hi | hi
  · exact h2 c (List.mem_filter.mpr ⟨hc, hi⟩)
  · simpa [hi] using h
set_option maxRecDepth 65536 in
theorem w_c0 : (Jvm.Cond.code x code maxLocals ret).before args0 about1 = true := code_word (m := ⟨1, 1⟩) (meth := k1m1) (c := k1c1) (by decide +kernel) rfl rfl rfl (by decide +kernel)
set_option maxRecDepth 65536 in
theorem w_c1 : (Jvm.Cond.code ({ cls := "com/example/melete/melete/index/Decoder", name := "<init>", desc := "([BII)V" } : Jvm.MethodName) prog_13_method_1_code (4 : Nat) (Option.none : Option Jvm.ClassFile.FieldType)).before args0 about1 = true := code_word (m := ⟨2, 0⟩) (meth := k2m0) (c := k2c0) (by decide +kernel) rfl rfl rfl (by decide +kernel)
set_option maxRecDepth 65536 in
theorem w_c2 : (Jvm.Cond.code ({ cls := "java/lang/Object", name := "<init>", desc := "()V" } : Jvm.MethodName) object_method_1_code (1 : Nat) (Option.none : Option Jvm.ClassFile.FieldType)).before args0 about1 = true := code_word (m := ⟨0, 0⟩) (meth := k0m0) (c := k0c0) (by decide +kernel) rfl rfl rfl (by decide +kernel)
set_option maxRecDepth 65536 in
theorem w_c3 : (Jvm.Cond.code ({ cls := "com/example/melete/melete/index/Decoder", name := "hasRemaining", desc := "()Z" } : Jvm.MethodName) prog_13_method_6_code (1 : Nat) (Option.some Jvm.ClassFile.FieldType.boolean)).before args0 about1 = true := code_word (m := ⟨2, 2⟩) (meth := k2m2) (c := k2c2) (by decide +kernel) rfl rfl rfl (by decide +kernel)
set_option maxRecDepth 65536 in
theorem w_c4 : (Jvm.Cond.code ({ cls := "com/example/melete/melete/index/Decoder", name := "readVarint", desc := "()J" } : Jvm.MethodName) prog_13_method_3_code (5 : Nat) (Option.some Jvm.ClassFile.FieldType.long)).before args0 about1 = true := code_word (m := ⟨2, 1⟩) (meth := k2m1) (c := k2c1) (by decide +kernel) rfl rfl rfl (by decide +kernel)
set_option maxRecDepth 65536 in
theorem w_c5 : (Jvm.Cond.code ({ cls := "com/example/melete/melete/index/Decoder", name := "readByte", desc := "()B" } : Jvm.MethodName) prog_13_method_7_code (1 : Nat) (Option.some Jvm.ClassFile.FieldType.byte)).before args0 about1 = true := code_word (m := ⟨2, 3⟩) (meth := k2m3) (c := k2c3) (by decide +kernel) rfl rfl rfl (by decide +kernel)
def codes1 : List Jvm.Cond := [Jvm.Cond.code x code maxLocals ret, Jvm.Cond.code ({ cls := "com/example/melete/melete/index/Decoder", name := "<init>", desc := "([BII)V" } : Jvm.MethodName) prog_13_method_1_code (4 : Nat) (Option.none : Option Jvm.ClassFile.FieldType), Jvm.Cond.code ({ cls := "java/lang/Object", name := "<init>", desc := "()V" } : Jvm.MethodName) object_method_1_code (1 : Nat) (Option.none : Option Jvm.ClassFile.FieldType), Jvm.Cond.code ({ cls := "com/example/melete/melete/index/Decoder", name := "hasRemaining", desc := "()Z" } : Jvm.MethodName) prog_13_method_6_code (1 : Nat) (Option.some Jvm.ClassFile.FieldType.boolean), Jvm.Cond.code ({ cls := "com/example/melete/melete/index/Decoder", name := "readVarint", desc := "()J" } : Jvm.MethodName) prog_13_method_3_code (5 : Nat) (Option.some Jvm.ClassFile.FieldType.long), Jvm.Cond.code ({ cls := "com/example/melete/melete/index/Decoder", name := "readByte", desc := "()B" } : Jvm.MethodName) prog_13_method_7_code (1 : Nat) (Option.some Jvm.ClassFile.FieldType.byte)]
set_option maxRecDepth 65536 in
theorem codes_eq : words1.filter isCode = codes1 := rfl
theorem w_codes : ∀ c ∈ words1.filter isCode, c.before args0 about1 = true := by
  rw [codes_eq]
  intro c hc
  simp only [codes1, List.mem_cons, List.not_mem_nil, or_false] at hc
  rcases hc with rfl | rfl | rfl | rfl | rfl | rfl
  · exact w_c0
  · exact w_c1
  · exact w_c2
  · exact w_c3
  · exact w_c4
  · exact w_c5
set_option maxRecDepth 65536 in
theorem w_t1 : (words1.take 24).all (fun c => isCode c || c.before args0 about1) = true := by decide +kernel
set_option maxRecDepth 65536 in
theorem w_t2 : (words1.drop 24).all (fun c => isCode c || c.before args0 about1) = true := by decide +kernel
theorem w_tables : (allAtoms (Jvm.Cond.code x code maxLocals ret :: tables_1)).before args0 about1 = true := by
  rw [allAtoms_all]
  show words1.all (fun c => c.before args0 about1) = true
  refine all_split ?_ w_codes
  rw [← List.take_append_drop 24 words1, List.all_append, w_t1, w_t2]
  rfl
set_option maxRecDepth 65536 in
theorem w_case : (Jvm.Cond.and given_1 narrow_1).before args0 about1 = true := by decide +kernel
theorem w_applies : (headSpec (Jvm.Cond.code x code maxLocals ret :: tables_1) room_1).applies x e0.platform about1 = true :=
  (Spec.applies_iff w_frames).mpr ⟨w_running, w_runnable, w_alone, w_named, w_hears, w_ripe, w_room, w_tables⟩
theorem atStart : AtStart classFile x code maxLocals ret World_1 tables_1 room_1 Calls_1 rest_1 Pre_1 launch0 p0 e0 about1 theMethod args0 below0 :=
  ⟨lists_1, trivial, launch0.admits_env _ _ _, launch0.least_env, fairChoices_fair.cas, fairChoices_fair.clock, w_frames, w_args, w_heap, w_applies, trivial, trivial, w_case⟩
end start1
theorem witness_1 : WitnessClaimed_1 := ⟨start1.p0, start1.e0, start1.about1, start1.theMethod, start1.args0, start1.below0, start1.atStart⟩
end Jvm.Pilot.@@N@@
