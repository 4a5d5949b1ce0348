import JvmDerived
import JvmDerived.Pilot.@@N@@Statement
import JvmDerived.Pilot.@@N@@Code
set_option linter.unusedVariables false
set_option linter.unusedSimpArgs false
namespace Jvm.RoadKit
open Sem ClassFile Op Lib Jvm.Stand Jvm.Free Jvm.LawKit
section New
variable {p : Program} {l : Launch} {e : Env} {R : Room} {s : State} {m : MethodId} {args : Array Value} {below : List Frame} {meth : Method} {c : Code} {T : State} {locs : List Loc} {cells slots : Nat}
theorem retI (X : Stand p l e R s m args below meth c T locs cells slots) (hx : p.tables.exec = Jvm.exec) {pc : Nat} {Ls : Array Slot} {z : Int32} {rest : List Value} (hret : meth.sig.returnType = some .int) (hd : decode c.code pc = .ok (.ireturn, 1)) {fs : List Frame}
    (hl : ∀ (f : JFrame) (acts : List Action), f.method = m → f.locked = none → f.entered = [] → (doReturn e (T.setTop f) acts (some (.int z))).1 = T.setFrames fs) : Steps p.tables e below (T.setTop (mkF m pc Ls (.int z :: rest))) (T.setFrames fs) := by
  have hm' : T.vm.method? m = some meth := X.method'
  have hn : narrow .int (.int z) = .int z := rfl
  show Steps p.tables e below (T.setTop { method := m, pc := pc, locals := Ls, stack := _ :: rest, locked := none }) _
  jvm_step X.here [X.here.top, hx, hd, hm', hret, hn]
  first | (intro acts; rw [hl _ acts rfl rfl rfl]) | rw [hl _ _ rfl rfl rfl]
  exact Steps.refl _
end New
end Jvm.RoadKit
namespace Jvm.Pilot.@@N@@
open Jvm Jvm.ClassFile Sem Op Lib Jvm.Free Jvm.Stand Jvm.LawKit Jvm.RoadKit Bundle Jvm.Pilot.@@N@@.Jvm.D
theorem own_lc_lt (x y : Int64) : lcmpW x y < 0 ↔ x < y := by rw [lcW]; exact lc_lt x y
theorem own_lc_gt (x y : Int64) : 0 < lcmpW x y ↔ y < x := by rw [lcW]; exact lc_gt x y
theorem own_lc_eq (x y : Int64) : lcmpW x y = 0 ↔ x = y := by rw [lcW]; exact lc_eq x y
theorem own_ri {P : Prop} [Decidable P] {a b : Value} (h1 : a.isRef = true) (h2 : b.isRef = true) : (if P then a else b).isRef = true := by
  by_cases h : P
  · rw [if_pos h]; exact h1
  · rw [if_neg h]; exact h2
theorem own_sta_keep {Z : State} {h h' : Heap} {C n d : String} {w : Value} {ws : List Addr} (F : Sta Z h C n d w) (K : Keep h h' ws) (q : ∀ x ∈ ws, ∀ cell : Cell, h[x]? = some cell → cell.vm.isStatics = false) : Sta Z h' C n d w := by
  obtain ⟨cf, i, k, f, st, cell, h1, h2, h3, h4, h5, h6, h7⟩ := F
  exact ⟨cf, i, k, f, st, cell, h1, h2, h3, h4, K.2.1 st cell h5 (fun z => by rw [q st z cell h5] at h6; cases h6), h6, h7⟩
theorem pd_0 : parseMethodDescriptor "([BLjava/lang/Long;Ljava/lang/Long;[B)V" = some ⟨[(.array .byte), (.object "java/lang/Long"), (.object "java/lang/Long"), (.array .byte)], none⟩ := by decide +kernel
theorem pd_1 : parseMethodDescriptor "()V" = some ⟨[], none⟩ := by decide +kernel
theorem pd_2 : parseMethodDescriptor "()[B" = some ⟨[], some (.array .byte)⟩ := by decide +kernel
theorem pd_3 : parseMethodDescriptor "()Ljava/lang/Object;" = some ⟨[], some (.object "java/lang/Object")⟩ := by decide +kernel
theorem own_nar (x : Int32) : nar .byte (x.toInt8.toInt32) = x.toInt8.toInt32 := by
  show (x.toInt8.toInt32).toInt8.toInt32 = _
  apply Int32.toInt_inj.mp
  have a := c_i2b x
  have b := c_i2b (x.toInt8.toInt32)
  omega
theorem own_in {c : Cell} {z j : Int32} (S : c.slots.size = z.toNatClampNeg) (h : 0 ≤ j.toInt ∧ j.toInt < z.toInt) : ¬ (j < 0 ∨ c.slots.size ≤ j.toNatClampNeg) := by
  refine inb_of S ⟨?_, ?_⟩
  · rw [Int32.lt_iff_toInt_lt, show (0 : Int32).toInt = 0 from rfl]; omega
  · rw [Int32.lt_iff_toInt_lt]; omega
theorem own_nat {j : Int32} (h : 0 ≤ j.toInt) : (j.toNatClampNeg : Int) = j.toInt := by
  rw [nat_of]
  rw [Int32.lt_iff_toInt_lt, show (0 : Int32).toInt = 0 from rfl]; omega
theorem own_eqI {i j : Int32} (h : 0 ≤ j.toInt) : (i.toInt = (j.toNatClampNeg : Int)) ↔ i = j := by
  rw [own_nat h]; exact Int32.toInt_inj
theorem own_toInt_inj' {a b : Int32} : a.toInt = b.toInt ↔ a = b := Int32.toInt_inj
theorem own_get (i1 i2 iq b1 b2 : Int32) (h : 0 ≤ iq.toInt) : getH [(i2, .int b2), (i1, .int b1)] [] (.int (0 : Int32)) iq.toNatClampNeg = .int (if iq = i2 then b2 else (if iq = i1 then b1 else (0 : Int32))) := by
  simp only [getH, own_eqI h]
  by_cases u : i2 = iq
  · rw [if_pos u, if_pos u.symm]
  · rw [if_neg u, if_neg (c := iq = i2) (fun q => u q.symm)]
    by_cases v : i1 = iq
    · rw [if_pos v, if_pos v.symm]
    · rw [if_neg v, if_neg (c := iq = i1) (fun q => v q.symm)]; rfl
theorem own_get1 (i1 i2 b1 b2 : Int32) (h : 0 ≤ i1.toInt) : getH [(i2, .int b2), (i1, .int b1)] [] (.int (0 : Int32)) i1.toNatClampNeg = .int (if i1 = i2 then b2 else b1) := by
  rw [own_get i1 i2 i1 b1 b2 h, if_pos rfl]
theorem own_rem (x n : Int32) (h : n = 32 ∨ n = 48) : 0 ≤ ((x &&& (2147483647 : Int32)) % n).toInt ∧ ((x &&& (2147483647 : Int32)) % n).toInt < n.toInt := by
  have a := (c_and x (2147483647 : Int32) (by decide)).1
  have b := (c_iremV (x &&& (2147483647 : Int32)) n).1 a (by rcases h with rfl | rfl <;> decide)
  exact ⟨b.1, b.2.1⟩
theorem d1_0 : decode prog_47_method_1_code 0 = .ok (.aload_n 0, 1) := by decide +kernel
theorem d1_1 : decode prog_47_method_1_code 1 = .ok (.invokespecial 1, 3) := by decide +kernel
theorem d1_4 : decode prog_47_method_1_code 4 = .ok (.aload_n 1, 1) := by decide +kernel
theorem d1_5 : decode prog_47_method_1_code 5 = .ok (.ifnull 32, 3) := by decide +kernel
theorem d1_8 : decode prog_47_method_1_code 8 = .ok (.aload_n 1, 1) := by decide +kernel
theorem d1_9 : decode prog_47_method_1_code 9 = .ok (.arraylength, 1) := by decide +kernel
theorem d1_10 : decode prog_47_method_1_code 10 = .ok (.bipush 32, 2) := by decide +kernel
theorem d1_12 : decode prog_47_method_1_code 12 = .ok (.if_icmp .eq 25, 3) := by decide +kernel
theorem d1_15 : decode prog_47_method_1_code 15 = .ok (.aload_n 1, 1) := by decide +kernel
theorem d1_16 : decode prog_47_method_1_code 16 = .ok (.arraylength, 1) := by decide +kernel
theorem d1_17 : decode prog_47_method_1_code 17 = .ok (.bipush 48, 2) := by decide +kernel
theorem d1_19 : decode prog_47_method_1_code 19 = .ok (.if_icmp .eq 18, 3) := by decide +kernel
theorem d1_22 : decode prog_47_method_1_code 22 = .ok (.new 9, 3) := by decide +kernel
theorem d1_25 : decode prog_47_method_1_code 25 = .ok (.dup, 1) := by decide +kernel
theorem d1_26 : decode prog_47_method_1_code 26 = .ok (.aload_n 1, 1) := by decide +kernel
theorem d1_27 : decode prog_47_method_1_code 27 = .ok (.arraylength, 1) := by decide +kernel
theorem d1_33 : decode prog_47_method_1_code 33 = .ok (.invokespecial 15, 3) := by decide +kernel
theorem d1_36 : decode prog_47_method_1_code 36 = .ok (.athrow, 1) := by decide +kernel
theorem d1_37 : decode prog_47_method_1_code 37 = .ok (.aload_n 0, 1) := by decide +kernel
theorem d1_38 : decode prog_47_method_1_code 38 = .ok (.aload_n 1, 1) := by decide +kernel
theorem d1_39 : decode prog_47_method_1_code 39 = .ok (.ifnonnull 7, 3) := by decide +kernel
theorem d1_42 : decode prog_47_method_1_code 42 = .ok (.aconst_null, 1) := by decide +kernel
theorem d1_43 : decode prog_47_method_1_code 43 = .ok (.goto 10, 3) := by decide +kernel
theorem d1_46 : decode prog_47_method_1_code 46 = .ok (.aload_n 1, 1) := by decide +kernel
theorem d1_47 : decode prog_47_method_1_code 47 = .ok (.invokevirtual 18, 3) := by decide +kernel
theorem d1_50 : decode prog_47_method_1_code 50 = .ok (.checkcast 19, 3) := by decide +kernel
theorem d1_53 : decode prog_47_method_1_code 53 = .ok (.putfield 24, 3) := by decide +kernel
theorem d1_56 : decode prog_47_method_1_code 56 = .ok (.aload_n 0, 1) := by decide +kernel
theorem d1_57 : decode prog_47_method_1_code 57 = .ok (.aload_n 2, 1) := by decide +kernel
theorem d1_58 : decode prog_47_method_1_code 58 = .ok (.putfield 27, 3) := by decide +kernel
theorem d1_61 : decode prog_47_method_1_code 61 = .ok (.aload_n 0, 1) := by decide +kernel
theorem d1_62 : decode prog_47_method_1_code 62 = .ok (.aload_n 3, 1) := by decide +kernel
theorem d1_63 : decode prog_47_method_1_code 63 = .ok (.putfield 31, 3) := by decide +kernel
theorem d1_66 : decode prog_47_method_1_code 66 = .ok (.aload_n 0, 1) := by decide +kernel
theorem d1_67 : decode prog_47_method_1_code 67 = .ok (.aload 4, 2) := by decide +kernel
theorem d1_69 : decode prog_47_method_1_code 69 = .ok (.ifnonnull 7, 3) := by decide +kernel
theorem d1_72 : decode prog_47_method_1_code 72 = .ok (.aconst_null, 1) := by decide +kernel
theorem d1_73 : decode prog_47_method_1_code 73 = .ok (.goto 11, 3) := by decide +kernel
theorem d1_76 : decode prog_47_method_1_code 76 = .ok (.aload 4, 2) := by decide +kernel
theorem d1_78 : decode prog_47_method_1_code 78 = .ok (.invokevirtual 18, 3) := by decide +kernel
theorem d1_81 : decode prog_47_method_1_code 81 = .ok (.checkcast 19, 3) := by decide +kernel
theorem d1_84 : decode prog_47_method_1_code 84 = .ok (.putfield 34, 3) := by decide +kernel
theorem d1_87 : decode prog_47_method_1_code 87 = .ok (.return_, 1) := by decide +kernel
theorem pn_0 : plainName "com/example/imprimatur/imprimatur/verify/DeviceValues" = true := by first | (simp [plainName, overriddenIn]; done) | decide +kernel
theorem ef_rmIN (m : MethodId) (x0 : Addr) : entryFrame m #[(.ref x0), .null, .null, .null, .null] 5 = mkF m 0 #[.val (.ref x0), .val .null, .val .null, .val .null, .val .null] [] := by first | (simp [entryFrame, mkF, argsToLocals, Value.category]; done) | rfl
def Q_rmIN (Z : State) (r0 : Addr) (h0 : Heap) (n0 : Nat) (v : Option Value) (h : Heap) (L : List Loc) : Prop := v = none ∧ Fr n0 L ∧ Keep h0 h [r0] ∧ Exa Z h r0 "com/example/imprimatur/imprimatur/verify/DeviceValues" ∧ Fld Z h r0 "com/example/imprimatur/imprimatur/verify/DeviceValues" "pkHash" "[B" .null ∧ Fld Z h r0 "com/example/imprimatur/imprimatur/verify/DeviceValues" "hwId" "Ljava/lang/Long;" .null ∧ Fld Z h r0 "com/example/imprimatur/imprimatur/verify/DeviceValues" "swId" "Ljava/lang/Long;" .null ∧ Fld Z h r0 "com/example/imprimatur/imprimatur/verify/DeviceValues" "publicKey" "[B" .null
set_option maxRecDepth 65536 in
set_option maxHeartbeats 40000000 in
theorem rmIN (l : Launch) (Z : State) (a0 : Array Value) (hw : ∀ d ∈ tables_1, d.before a0 Z = true) (ws : List Jvm.Cond) (r0 : Addr) (h0 : Heap) (n0 : Nat) (Z0 : n0 ≤ h0.size) (F_pkHash : Fld Z h0 r0 "com/example/imprimatur/imprimatur/verify/DeviceValues" "pkHash" "[B" .null) (F_hwId : Fld Z h0 r0 "com/example/imprimatur/imprimatur/verify/DeviceValues" "hwId" "Ljava/lang/Long;" .null) (F_swId : Fld Z h0 r0 "com/example/imprimatur/imprimatur/verify/DeviceValues" "swId" "Ljava/lang/Long;" .null) (F_publicKey : Fld Z h0 r0 "com/example/imprimatur/imprimatur/verify/DeviceValues" "publicKey" "[B" .null) (E_o : Exa Z h0 r0 "com/example/imprimatur/imprimatur/verify/DeviceValues") (g_r0 : n0 ≤ r0) :
    MetFree l (⟨"com/example/imprimatur/imprimatur/verify/DeviceValues", "<init>", "([BLjava/lang/Long;Ljava/lang/Long;[B)V"⟩ : MethodName) (head1 (Jvm.Cond.code (⟨"com/example/imprimatur/imprimatur/verify/DeviceValues", "<init>", "([BLjava/lang/Long;Ljava/lang/Long;[B)V"⟩ : MethodName) prog_47_method_1_code 5 none :: ws) ({ frames := 1, cells := 0, slots := 0, locals := 12 } : Room)) (fun a U => a = #[(.ref r0), .null, .null, .null, .null] ∧ Z.Warmed39 U.vm ∧ U.heap = h0) (fun _ _ _ _ _ => True) (fun _ U o U' => ∃ v L, o = .returned v ∧ Q_rmIN Z r0 h0 n0 v U'.heap L ∧ FrameEnd U o U' L ({ frames := 1, cells := 0, slots := 0, locals := 12 } : Room).cells ({ frames := 1, cells := 0, slots := 0, locals := 12 } : Room).slots) := by
  refine MetFree.of_bodySF (plainFor_of_name pn_0) hisR ?_
  intro p e s m args below meth c s₁ Bd hml0 hP hK
  obtain ⟨rfl, hZ, hh⟩ := hP
  have hx := Bd.exec
  have hby := Bd.bytes
  have hml : c.maxLocals = 5 := hml0
  have hown : s.vm.findClass "com/example/imprimatur/imprimatur/verify/DeviceValues" = some m.cls := findClass_of_methodNamed Bd.named
  have hnm := (name_of_methodNamed Bd.named Bd.method).1
  have X0 : Stand p l e ({ frames := 1, cells := 0, slots := 0, locals := 12 } : Room) s m #[(.ref r0), .null, .null, .null, .null] below meth c s₁ [] 0 0 := Stand.of_body Bd
  have e0 : s₁.heap = h0 := by rw [← hh, Bd.state]; rfl
  have N0 := Fr.nil n0
  have pre0 : ∀ t, Steps p.tables e below (s₁.setTop (mkF m 0 #[.val (.ref r0), .val .null, .val .null, .val .null, .val .null] [])) t → Steps p.tables e below (s₁.setTop (entryFrame m #[(.ref r0), .null, .null, .null, .null] 5)) t := fun t k => castTop (ef_rmIN m r0) k
  have Kp : Keep h0 h0 [r0] := Keep.refl _ _
  have st1 : ∀ target, Steps p.tables e below (s₁.setTop (mkF m 1 #[.val (.ref r0), .val .null, .val .null, .val .null, .val .null] [(.ref r0)])) target → Steps p.tables e below (s₁.setTop (mkF m 0 #[.val (.ref r0), .val .null, .val .null, .val .null, .val .null] [])) target := by
    intro target kt
    show Steps p.tables e below (s₁.setTop (mkF m 0 #[.val (.ref r0), .val .null, .val .null, .val .null, .val .null] [])) _
    refine XS.aloadN X0.here hx rfl (hb hby d1_0) rfl rfl ?_
    exact kt
  obtain ⟨T2, X2, e2, st2⟩ := initO X0 hx hZ hown (hw _ (List.mem_of_getElem? (i := 6) rfl)) (hw _ (List.mem_of_getElem? (i := 7) rfl)) (hw _ (List.mem_of_getElem? (i := 8) rfl)) e0 (g := (mkF m 1 #[.val (.ref r0), .val .null, .val .null, .val .null, .val .null] [(.ref r0)])) rfl (by rw [hml]; rfl) rfl (hb hby d1_1) (by decide) (W := 0) (by show 2 * 0 + _ ≤ _; exact Nat.le_of_eq rfl) (by decide)
  have st3 : ∀ target, Steps p.tables e below (T2.setTop (mkF m 53 #[.val (.ref r0), .val .null, .val .null, .val .null, .val .null] [.null, (.ref r0)])) target → Steps p.tables e below (T2.setTop (mkF m 4 #[.val (.ref r0), .val .null, .val .null, .val .null, .val .null] [])) target := by
    intro target kt
    show Steps p.tables e below (T2.setTop (mkF m 4 #[.val (.ref r0), .val .null, .val .null, .val .null, .val .null] [])) _
    refine XS.aloadN X2.here hx rfl (hb hby d1_4) rfl rfl ?_
    show Steps p.tables e below (T2.setTop (mkF m 5 #[.val (.ref r0), .val .null, .val .null, .val .null, .val .null] [.null])) _
    refine XS.ifnullYes X2.here hx rfl (pc0 := 5) (pc' := 37) rfl (hb hby d1_5) rfl (by decide) (by decide) ?_
    show Steps p.tables e below (T2.setTop (mkF m 37 #[.val (.ref r0), .val .null, .val .null, .val .null, .val .null] [])) _
    refine XS.aloadN X2.here hx rfl (hb hby d1_37) rfl rfl ?_
    show Steps p.tables e below (T2.setTop (mkF m 38 #[.val (.ref r0), .val .null, .val .null, .val .null, .val .null] [(.ref r0)])) _
    refine XS.aloadN X2.here hx rfl (hb hby d1_38) rfl rfl ?_
    show Steps p.tables e below (T2.setTop (mkF m 39 #[.val (.ref r0), .val .null, .val .null, .val .null, .val .null] [.null, (.ref r0)])) _
    refine XS.ifnonnullNo X2.here hx rfl (hb hby d1_39) rfl ?_
    show Steps p.tables e below (T2.setTop (mkF m 42 #[.val (.ref r0), .val .null, .val .null, .val .null, .val .null] [(.ref r0)])) _
    refine XS.aconstNull X2.here hx rfl (hb hby d1_42) ?_
    show Steps p.tables e below (T2.setTop (mkF m 43 #[.val (.ref r0), .val .null, .val .null, .val .null, .val .null] [.null, (.ref r0)])) _
    refine XS.goto X2.here hx rfl (pc0 := 43) (pc' := 53) rfl (hb hby d1_43) (by decide) (by decide) ?_
    exact kt
  obtain ⟨T4, h4, X4, e4, W4, st4⟩ := putF X2 hx hZ hown (host := "") (Or.inl (hw _ (List.mem_of_getElem? (i := 9) rfl))) Via.refl e2 F_pkHash E_o (Or.inr ⟨(hw _ (List.mem_of_getElem? (i := 10) rfl)), rfl, hnm⟩) (hw _ (List.mem_of_getElem? (i := 1) rfl)) (ty := (.array .byte)) (by decide) rfl rfl (g := (mkF m 53 #[.val (.ref r0), .val .null, .val .null, .val .null, .val .null] [.null, (.ref r0)])) rfl rfl (hb hby d1_53)
  have F_pkHash_r0_4 : Fld Z h4 r0 "com/example/imprimatur/imprimatur/verify/DeviceValues" "pkHash" "[B" .null := F_pkHash.same W4
  have E_o_4 := E_o.wr W4
  have F_hwId_4 := F_hwId.other W4 (Or.inr (slot_ne (Or.inr (hw _ (List.mem_of_getElem? (i := 12) rfl))) (Or.inr (hw _ (List.mem_of_getElem? (i := 10) rfl))) (by decide) (t := (.object "java/lang/Long")) (t' := (.array .byte)) (by decide) (by decide)))
  have F_swId_4 := F_swId.other W4 (Or.inr (slot_ne (Or.inr (hw _ (List.mem_of_getElem? (i := 14) rfl))) (Or.inr (hw _ (List.mem_of_getElem? (i := 10) rfl))) (by decide) (t := (.object "java/lang/Long")) (t' := (.array .byte)) (by decide) (by decide)))
  have F_publicKey_4 := F_publicKey.other W4 (Or.inr (slot_ne (Or.inr (hw _ (List.mem_of_getElem? (i := 16) rfl))) (Or.inr (hw _ (List.mem_of_getElem? (i := 10) rfl))) (by decide) (t := (.array .byte)) (t' := (.array .byte)) (by decide) (by decide)))
  have Z_4 : n0 ≤ h4.size := Nat.le_trans Z0 (Keep.of_wr W4).1
  have Kp_4 : Keep h0 h4 [r0] := Kp.wr W4 (Or.inl (List.mem_of_getElem? (i := 0) rfl))
  have N4 := Fr.snoc X4 N0 g_r0
  have st5 : ∀ target, Steps p.tables e below (T4.setTop (mkF m 58 #[.val (.ref r0), .val .null, .val .null, .val .null, .val .null] [.null, (.ref r0)])) target → Steps p.tables e below (T4.setTop (mkF m 56 #[.val (.ref r0), .val .null, .val .null, .val .null, .val .null] [])) target := by
    intro target kt
    show Steps p.tables e below (T4.setTop (mkF m 56 #[.val (.ref r0), .val .null, .val .null, .val .null, .val .null] [])) _
    refine XS.aloadN X4.here hx rfl (hb hby d1_56) rfl rfl ?_
    show Steps p.tables e below (T4.setTop (mkF m 57 #[.val (.ref r0), .val .null, .val .null, .val .null, .val .null] [(.ref r0)])) _
    refine XS.aloadN X4.here hx rfl (hb hby d1_57) rfl rfl ?_
    exact kt
  obtain ⟨T6, h6, X6, e6, W6, st6⟩ := putF X4 hx hZ hown (host := "") (Or.inl (hw _ (List.mem_of_getElem? (i := 11) rfl))) Via.refl e4 F_hwId_4 E_o_4 (Or.inr ⟨(hw _ (List.mem_of_getElem? (i := 12) rfl)), rfl, hnm⟩) (hw _ (List.mem_of_getElem? (i := 1) rfl)) (ty := (.object "java/lang/Long")) (by decide) rfl rfl (g := (mkF m 58 #[.val (.ref r0), .val .null, .val .null, .val .null, .val .null] [.null, (.ref r0)])) rfl rfl (hb hby d1_58)
  have F_hwId_r0_6 : Fld Z h6 r0 "com/example/imprimatur/imprimatur/verify/DeviceValues" "hwId" "Ljava/lang/Long;" .null := F_hwId_4.same W6
  have E_o_6 := E_o_4.wr W6
  have F_swId_6 := F_swId_4.other W6 (Or.inr (slot_ne (Or.inr (hw _ (List.mem_of_getElem? (i := 14) rfl))) (Or.inr (hw _ (List.mem_of_getElem? (i := 12) rfl))) (by decide) (t := (.object "java/lang/Long")) (t' := (.object "java/lang/Long")) (by decide) (by decide)))
  have F_publicKey_6 := F_publicKey_4.other W6 (Or.inr (slot_ne (Or.inr (hw _ (List.mem_of_getElem? (i := 16) rfl))) (Or.inr (hw _ (List.mem_of_getElem? (i := 12) rfl))) (by decide) (t := (.array .byte)) (t' := (.object "java/lang/Long")) (by decide) (by decide)))
  have F_pkHash_r0_6 := F_pkHash_r0_4.other W6 (Or.inr (slot_ne (Or.inr (hw _ (List.mem_of_getElem? (i := 10) rfl))) (Or.inr (hw _ (List.mem_of_getElem? (i := 12) rfl))) (by decide) (t := (.array .byte)) (t' := (.object "java/lang/Long")) (by decide) (by decide)))
  have Z_6 : n0 ≤ h6.size := Nat.le_trans Z_4 (Keep.of_wr W6).1
  have Kp_6 : Keep h0 h6 [r0] := Kp_4.wr W6 (Or.inl (List.mem_of_getElem? (i := 0) rfl))
  have N6 := Fr.snoc X6 N4 g_r0
  have st7 : ∀ target, Steps p.tables e below (T6.setTop (mkF m 63 #[.val (.ref r0), .val .null, .val .null, .val .null, .val .null] [.null, (.ref r0)])) target → Steps p.tables e below (T6.setTop (mkF m 61 #[.val (.ref r0), .val .null, .val .null, .val .null, .val .null] [])) target := by
    intro target kt
    show Steps p.tables e below (T6.setTop (mkF m 61 #[.val (.ref r0), .val .null, .val .null, .val .null, .val .null] [])) _
    refine XS.aloadN X6.here hx rfl (hb hby d1_61) rfl rfl ?_
    show Steps p.tables e below (T6.setTop (mkF m 62 #[.val (.ref r0), .val .null, .val .null, .val .null, .val .null] [(.ref r0)])) _
    refine XS.aloadN X6.here hx rfl (hb hby d1_62) rfl rfl ?_
    exact kt
  obtain ⟨T8, h8, X8, e8, W8, st8⟩ := putF X6 hx hZ hown (host := "") (Or.inl (hw _ (List.mem_of_getElem? (i := 13) rfl))) Via.refl e6 F_swId_6 E_o_6 (Or.inr ⟨(hw _ (List.mem_of_getElem? (i := 14) rfl)), rfl, hnm⟩) (hw _ (List.mem_of_getElem? (i := 1) rfl)) (ty := (.object "java/lang/Long")) (by decide) rfl rfl (g := (mkF m 63 #[.val (.ref r0), .val .null, .val .null, .val .null, .val .null] [.null, (.ref r0)])) rfl rfl (hb hby d1_63)
  have F_swId_r0_8 : Fld Z h8 r0 "com/example/imprimatur/imprimatur/verify/DeviceValues" "swId" "Ljava/lang/Long;" .null := F_swId_6.same W8
  have E_o_8 := E_o_6.wr W8
  have F_publicKey_8 := F_publicKey_6.other W8 (Or.inr (slot_ne (Or.inr (hw _ (List.mem_of_getElem? (i := 16) rfl))) (Or.inr (hw _ (List.mem_of_getElem? (i := 14) rfl))) (by decide) (t := (.array .byte)) (t' := (.object "java/lang/Long")) (by decide) (by decide)))
  have F_pkHash_r0_8 := F_pkHash_r0_6.other W8 (Or.inr (slot_ne (Or.inr (hw _ (List.mem_of_getElem? (i := 10) rfl))) (Or.inr (hw _ (List.mem_of_getElem? (i := 14) rfl))) (by decide) (t := (.array .byte)) (t' := (.object "java/lang/Long")) (by decide) (by decide)))
  have F_hwId_r0_8 := F_hwId_r0_6.other W8 (Or.inr (slot_ne (Or.inr (hw _ (List.mem_of_getElem? (i := 12) rfl))) (Or.inr (hw _ (List.mem_of_getElem? (i := 14) rfl))) (by decide) (t := (.object "java/lang/Long")) (t' := (.object "java/lang/Long")) (by decide) (by decide)))
  have Z_8 : n0 ≤ h8.size := Nat.le_trans Z_6 (Keep.of_wr W8).1
  have Kp_8 : Keep h0 h8 [r0] := Kp_6.wr W8 (Or.inl (List.mem_of_getElem? (i := 0) rfl))
  have N8 := Fr.snoc X8 N6 g_r0
  have st9 : ∀ target, Steps p.tables e below (T8.setTop (mkF m 84 #[.val (.ref r0), .val .null, .val .null, .val .null, .val .null] [.null, (.ref r0)])) target → Steps p.tables e below (T8.setTop (mkF m 66 #[.val (.ref r0), .val .null, .val .null, .val .null, .val .null] [])) target := by
    intro target kt
    show Steps p.tables e below (T8.setTop (mkF m 66 #[.val (.ref r0), .val .null, .val .null, .val .null, .val .null] [])) _
    refine XS.aloadN X8.here hx rfl (hb hby d1_66) rfl rfl ?_
    show Steps p.tables e below (T8.setTop (mkF m 67 #[.val (.ref r0), .val .null, .val .null, .val .null, .val .null] [(.ref r0)])) _
    refine XS.aload X8.here hx rfl (hb hby d1_67) rfl rfl ?_
    show Steps p.tables e below (T8.setTop (mkF m 69 #[.val (.ref r0), .val .null, .val .null, .val .null, .val .null] [.null, (.ref r0)])) _
    refine XS.ifnonnullNo X8.here hx rfl (hb hby d1_69) rfl ?_
    show Steps p.tables e below (T8.setTop (mkF m 72 #[.val (.ref r0), .val .null, .val .null, .val .null, .val .null] [(.ref r0)])) _
    refine XS.aconstNull X8.here hx rfl (hb hby d1_72) ?_
    show Steps p.tables e below (T8.setTop (mkF m 73 #[.val (.ref r0), .val .null, .val .null, .val .null, .val .null] [.null, (.ref r0)])) _
    refine XS.goto X8.here hx rfl (pc0 := 73) (pc' := 84) rfl (hb hby d1_73) (by decide) (by decide) ?_
    exact kt
  obtain ⟨T10, h10, X10, e10, W10, st10⟩ := putF X8 hx hZ hown (host := "") (Or.inl (hw _ (List.mem_of_getElem? (i := 15) rfl))) Via.refl e8 F_publicKey_8 E_o_8 (Or.inr ⟨(hw _ (List.mem_of_getElem? (i := 16) rfl)), rfl, hnm⟩) (hw _ (List.mem_of_getElem? (i := 1) rfl)) (ty := (.array .byte)) (by decide) rfl rfl (g := (mkF m 84 #[.val (.ref r0), .val .null, .val .null, .val .null, .val .null] [.null, (.ref r0)])) rfl rfl (hb hby d1_84)
  have F_publicKey_r0_10 : Fld Z h10 r0 "com/example/imprimatur/imprimatur/verify/DeviceValues" "publicKey" "[B" .null := F_publicKey_8.same W10
  have E_o_10 := E_o_8.wr W10
  have F_pkHash_r0_10 := F_pkHash_r0_8.other W10 (Or.inr (slot_ne (Or.inr (hw _ (List.mem_of_getElem? (i := 10) rfl))) (Or.inr (hw _ (List.mem_of_getElem? (i := 16) rfl))) (by decide) (t := (.array .byte)) (t' := (.array .byte)) (by decide) (by decide)))
  have F_hwId_r0_10 := F_hwId_r0_8.other W10 (Or.inr (slot_ne (Or.inr (hw _ (List.mem_of_getElem? (i := 12) rfl))) (Or.inr (hw _ (List.mem_of_getElem? (i := 16) rfl))) (by decide) (t := (.object "java/lang/Long")) (t' := (.array .byte)) (by decide) (by decide)))
  have F_swId_r0_10 := F_swId_r0_8.other W10 (Or.inr (slot_ne (Or.inr (hw _ (List.mem_of_getElem? (i := 14) rfl))) (Or.inr (hw _ (List.mem_of_getElem? (i := 16) rfl))) (by decide) (t := (.object "java/lang/Long")) (t' := (.array .byte)) (by decide) (by decide)))
  have Z_10 : n0 ≤ h10.size := Nat.le_trans Z_8 (Keep.of_wr W10).1
  have Kp_10 : Keep h0 h10 [r0] := Kp_8.wr W10 (Or.inl (List.mem_of_getElem? (i := 0) rfl))
  have N10 := Fr.snoc X10 N8 g_r0
  obtain ⟨fs, hr, hrun, hended, hW, hsame⟩ := X10.leave (v := none) (fun _ => rfl)
  refine ⟨_, _, pre0 _ (st1 _ (st2 _ (st3 _ (st4 _ (st5 _ (st6 _ (st7 _ (st8 _ (st9 _ (st10 _ ?_)))))))))), hrun, hended, _, _, rfl, ?_, ⟨_, rfl⟩, hW, hsame.mono (by decide) (by decide)⟩
  · show Steps p.tables e below (T10.setTop (mkF m 87 #[.val (.ref r0), .val .null, .val .null, .val .null, .val .null] [])) _
    exact X10.returnOut hx Bd.returns (hb hby d1_87) hr
  · show Q_rmIN Z r0 h0 n0 _ T10.heap _
    rw [e10]
    exact ⟨rfl, N10, Kp_10, E_o_10, F_pkHash_r0_10, F_hwId_r0_10, F_swId_r0_10, F_publicKey_r0_10⟩
theorem ef_rmIA (m : MethodId) (x0 : Addr) (x1 : Addr) : entryFrame m #[(.ref x0), (.ref x1), .null, .null, .null] 5 = mkF m 0 #[.val (.ref x0), .val (.ref x1), .val .null, .val .null, .val .null] [] := by first | (simp [entryFrame, mkF, argsToLocals, Value.category]; done) | rfl
def Q_rmIA (Z : State) (r0 : Addr) (r1 : Addr) (k : ClassId) (z : Int32) (hs : List (Int32 × Value)) (h0 : Heap) (n0 : Nat) (v : Option Value) (h : Heap) (L : List Loc) : Prop := v = none ∧ Fr n0 L ∧ Keep h0 h [r0] ∧ Exa Z h r0 "com/example/imprimatur/imprimatur/verify/DeviceValues" ∧ ∃ c, h0.size ≤ c ∧ Fld Z h r0 "com/example/imprimatur/imprimatur/verify/DeviceValues" "pkHash" "[B" (.ref c) ∧ Arh Z h c k .byte z hs [] (.int (0 : Int32)) ∧ Exa Z h c "[B"
set_option maxRecDepth 65536 in
set_option maxHeartbeats 40000000 in
theorem rmIA (l : Launch) (Z : State) (a0 : Array Value) (hw : ∀ d ∈ tables_1, d.before a0 Z = true) (ws : List Jvm.Cond) (r0 : Addr) (r1 : Addr) (k : ClassId) (z : Int32) (hs : List (Int32 × Value)) (h0 : Heap) (n0 : Nat) (Z0 : n0 ≤ h0.size) (F_pkHash : Fld Z h0 r0 "com/example/imprimatur/imprimatur/verify/DeviceValues" "pkHash" "[B" .null) (F_hwId : Fld Z h0 r0 "com/example/imprimatur/imprimatur/verify/DeviceValues" "hwId" "Ljava/lang/Long;" .null) (F_swId : Fld Z h0 r0 "com/example/imprimatur/imprimatur/verify/DeviceValues" "swId" "Ljava/lang/Long;" .null) (F_publicKey : Fld Z h0 r0 "com/example/imprimatur/imprimatur/verify/DeviceValues" "publicKey" "[B" .null) (E_o : Exa Z h0 r0 "com/example/imprimatur/imprimatur/verify/DeviceValues") (g_r0 : n0 ≤ r0) (Ha : Arh Z h0 r1 k .byte z hs [] (.int (0 : Int32))) (Ea : Exa Z h0 r1 "[B") (hz : z = 32 ∨ z = 48) (hn : r0 ≠ r1) :
    MetFree l (⟨"com/example/imprimatur/imprimatur/verify/DeviceValues", "<init>", "([BLjava/lang/Long;Ljava/lang/Long;[B)V"⟩ : MethodName) (head1 (Jvm.Cond.code (⟨"com/example/imprimatur/imprimatur/verify/DeviceValues", "<init>", "([BLjava/lang/Long;Ljava/lang/Long;[B)V"⟩ : MethodName) prog_47_method_1_code 5 none :: ws) ({ frames := 1, cells := 1, slots := 48, locals := 15 } : Room)) (fun a U => a = #[(.ref r0), (.ref r1), .null, .null, .null] ∧ Z.Warmed39 U.vm ∧ U.heap = h0) (fun _ _ _ _ _ => True) (fun _ U o U' => ∃ v L, o = .returned v ∧ Q_rmIA Z r0 r1 k z hs h0 n0 v U'.heap L ∧ FrameEnd U o U' L ({ frames := 1, cells := 1, slots := 48, locals := 15 } : Room).cells ({ frames := 1, cells := 1, slots := 48, locals := 15 } : Room).slots) := by
  refine MetFree.of_bodySF (plainFor_of_name pn_0) hisR ?_
  intro p e s m args below meth c s₁ Bd hml0 hP hK
  obtain ⟨rfl, hZ, hh⟩ := hP
  have hx := Bd.exec
  have hby := Bd.bytes
  have hml : c.maxLocals = 5 := hml0
  have hown : s.vm.findClass "com/example/imprimatur/imprimatur/verify/DeviceValues" = some m.cls := findClass_of_methodNamed Bd.named
  have hnm := (name_of_methodNamed Bd.named Bd.method).1
  have X0 : Stand p l e ({ frames := 1, cells := 1, slots := 48, locals := 15 } : Room) s m #[(.ref r0), (.ref r1), .null, .null, .null] below meth c s₁ [] 0 0 := Stand.of_body Bd
  have e0 : s₁.heap = h0 := by rw [← hh, Bd.state]; rfl
  have N0 := Fr.nil n0
  have pre0 : ∀ t, Steps p.tables e below (s₁.setTop (mkF m 0 #[.val (.ref r0), .val (.ref r1), .val .null, .val .null, .val .null] [])) t → Steps p.tables e below (s₁.setTop (entryFrame m #[(.ref r0), (.ref r1), .null, .null, .null] 5)) t := fun t k => castTop (ef_rmIA m r0 r1) k
  have Kp : Keep h0 h0 [r0] := Keep.refl _ _
  have st1 : ∀ target, Steps p.tables e below (s₁.setTop (mkF m 1 #[.val (.ref r0), .val (.ref r1), .val .null, .val .null, .val .null] [(.ref r0)])) target → Steps p.tables e below (s₁.setTop (mkF m 0 #[.val (.ref r0), .val (.ref r1), .val .null, .val .null, .val .null] [])) target := by
    intro target kt
    show Steps p.tables e below (s₁.setTop (mkF m 0 #[.val (.ref r0), .val (.ref r1), .val .null, .val .null, .val .null] [])) _
    refine XS.aloadN X0.here hx rfl (hb hby d1_0) rfl rfl ?_
    exact kt
  obtain ⟨T2, X2, e2, st2⟩ := initO X0 hx hZ hown (hw _ (List.mem_of_getElem? (i := 6) rfl)) (hw _ (List.mem_of_getElem? (i := 7) rfl)) (hw _ (List.mem_of_getElem? (i := 8) rfl)) e0 (g := (mkF m 1 #[.val (.ref r0), .val (.ref r1), .val .null, .val .null, .val .null] [(.ref r0)])) rfl (by rw [hml]; rfl) rfl (hb hby d1_1) (by decide) (W := 0) (by show 2 * 0 + _ ≤ _; exact Nat.le_of_eq rfl) (by decide)
  rcases hz with rfl | rfl
  · have st3 : ∀ target, Steps p.tables e below (T2.setTop (mkF m 9 #[.val (.ref r0), .val (.ref r1), .val .null, .val .null, .val .null] [(.ref r1)])) target → Steps p.tables e below (T2.setTop (mkF m 4 #[.val (.ref r0), .val (.ref r1), .val .null, .val .null, .val .null] [])) target := by
      intro target kt
      show Steps p.tables e below (T2.setTop (mkF m 4 #[.val (.ref r0), .val (.ref r1), .val .null, .val .null, .val .null] [])) _
      refine XS.aloadN X2.here hx rfl (hb hby d1_4) rfl rfl ?_
      show Steps p.tables e below (T2.setTop (mkF m 5 #[.val (.ref r0), .val (.ref r1), .val .null, .val .null, .val .null] [(.ref r1)])) _
      refine XS.ifnullNo X2.here hx rfl (hb hby d1_5) rfl ?_
      show Steps p.tables e below (T2.setTop (mkF m 8 #[.val (.ref r0), .val (.ref r1), .val .null, .val .null, .val .null] [])) _
      refine XS.aloadN X2.here hx rfl (hb hby d1_8) rfl rfl ?_
      exact kt
    obtain ⟨cl4, Ar4, qc4, Sz4, Mn4, Hs4, Gs4⟩ := id Ha
    have st5 : ∀ target, Steps p.tables e below (T2.setTop (mkF m 10 #[.val (.ref r0), .val (.ref r1), .val .null, .val .null, .val .null] [(.int (32 : Int32))])) target → Steps p.tables e below (T2.setTop (mkF m 9 #[.val (.ref r0), .val (.ref r1), .val .null, .val .null, .val .null] [(.ref r1)])) target := fun target kt => X2.arraylength hx (cell := cl4) (by rw [e2]; exact Ar4.1) (State.isArrayOf_alike hZ.alike Ar4.2.1) (g := (mkF m 9 #[.val (.ref r0), .val (.ref r1), .val .null, .val .null, .val .null] [(.ref r1)])) rfl rfl (hb hby d1_9) _ (by rw [len_of (c := cl4) Sz4 Mn4]; exact kt)
    have st6 : ∀ target, Steps p.tables e below (T2.setTop (mkF m 47 #[.val (.ref r0), .val (.ref r1), .val .null, .val .null, .val .null] [(.ref r1), (.ref r0)])) target → Steps p.tables e below (T2.setTop (mkF m 10 #[.val (.ref r0), .val (.ref r1), .val .null, .val .null, .val .null] [(.int (32 : Int32))])) target := by
      intro target kt
      show Steps p.tables e below (T2.setTop (mkF m 10 #[.val (.ref r0), .val (.ref r1), .val .null, .val .null, .val .null] [(.int (32 : Int32))])) _
      refine XS.bipush X2.here hx rfl (hb hby d1_10) ?_
      show Steps p.tables e below (T2.setTop (mkF m 12 #[.val (.ref r0), .val (.ref r1), .val .null, .val .null, .val .null] [(.int (32 : Int32)), (.int (32 : Int32))])) _
      refine XS.icmpYes X2.here hx rfl (pc0 := 12) (pc' := 37) rfl (hb hby d1_12) rfl (teq (rfl : (32 : Int32) = (32 : Int32))).1 (by decide) (by decide) ?_
      show Steps p.tables e below (T2.setTop (mkF m 37 #[.val (.ref r0), .val (.ref r1), .val .null, .val .null, .val .null] [])) _
      refine XS.aloadN X2.here hx rfl (hb hby d1_37) rfl rfl ?_
      show Steps p.tables e below (T2.setTop (mkF m 38 #[.val (.ref r0), .val (.ref r1), .val .null, .val .null, .val .null] [(.ref r0)])) _
      refine XS.aloadN X2.here hx rfl (hb hby d1_38) rfl rfl ?_
      show Steps p.tables e below (T2.setTop (mkF m 39 #[.val (.ref r0), .val (.ref r1), .val .null, .val .null, .val .null] [(.ref r1), (.ref r0)])) _
      refine XS.ifnonnullYes X2.here hx rfl (pc0 := 39) (pc' := 46) rfl (hb hby d1_39) rfl (by decide) (by decide) ?_
      show Steps p.tables e below (T2.setTop (mkF m 46 #[.val (.ref r0), .val (.ref r1), .val .null, .val .null, .val .null] [(.ref r0)])) _
      refine XS.aloadN X2.here hx rfl (hb hby d1_46) rfl rfl ?_
      exact kt
    obtain ⟨T7, h7, X7, e7, E7, Hh_c, Ex7, st7⟩ := cloneH X2 hx hZ hown (hw _ (List.mem_of_getElem? (i := 24) rfl)) (hw _ (List.mem_of_getElem? (i := 25) rfl)) (hw _ (List.mem_of_getElem? (i := 29) rfl)) (hw _ (List.mem_of_getElem? (i := 27) rfl)) (hw _ (List.mem_of_getElem? (i := 28) rfl)) (hw _ (List.mem_of_getElem? (i := 30) rfl)) e2 Ha Ea (g := (mkF m 47 #[.val (.ref r0), .val (.ref r1), .val .null, .val .null, .val .null] [(.ref r1), (.ref r0)])) rfl (by rw [hml]; rfl) rfl (hb hby d1_47) (by decide) (W := 1) (cap := 48) (by show 2 * 0 + _ ≤ _; exact Nat.le_of_eq rfl) (by decide) (by decide) (by decide) (by decide)
    obtain ⟨c, g7⟩ : ∃ z, z = h0.size := ⟨_, rfl⟩
    rw [← g7] at Hh_c Ex7 st7
    have g_c : n0 ≤ c := Nat.le_trans Z0 (Nat.le_of_eq g7.symm)
    have sz_c : h0.size ≤ c := Nat.le_trans Kp.1 (Nat.le_of_eq g7.symm)
    have ne_r0_c : r0 ≠ c := Nat.ne_of_lt (Nat.lt_of_lt_of_le E_o.lt (Nat.le_of_eq g7.symm))
    have ne_r1_c : r1 ≠ c := Nat.ne_of_lt (Nat.lt_of_lt_of_le Ha.lt (Nat.le_of_eq g7.symm))
    have E_o_7 := E_o.ext E7
    have F_pkHash_7 := F_pkHash.ext E7
    have F_hwId_7 := F_hwId.ext E7
    have F_swId_7 := F_swId.ext E7
    have F_publicKey_7 := F_publicKey.ext E7
    have Ha_7 := Ha.ext E7
    have Ea_7 := Ea.ext E7
    have Z_7 : n0 ≤ h7.size := Nat.le_trans Z0 E7.1
    have Kp_7 : Keep h0 h7 [r0] := Kp.ext E7
    obtain ⟨T8, X8, e8, st8⟩ := castY X7 hx hZ hown (hw _ (List.mem_of_getElem? (i := 31) rfl)) e7 (Ins.self Ex7) (g := (mkF m 50 #[.val (.ref r0), .val (.ref r1), .val .null, .val .null, .val .null] [(.ref c), (.ref r0)])) rfl rfl (hb hby d1_50)
    obtain ⟨T9, h9, X9, e9, W9, st9⟩ := putF X8 hx hZ hown (host := "") (Or.inl (hw _ (List.mem_of_getElem? (i := 9) rfl))) Via.refl e8 F_pkHash_7 E_o_7 (Or.inr ⟨(hw _ (List.mem_of_getElem? (i := 10) rfl)), rfl, hnm⟩) (hw _ (List.mem_of_getElem? (i := 1) rfl)) (ty := (.array .byte)) (by decide) rfl rfl (g := (mkF m 53 #[.val (.ref r0), .val (.ref r1), .val .null, .val .null, .val .null] [(.ref c), (.ref r0)])) rfl rfl (hb hby d1_53)
    have F_pkHash_r0_9 : Fld Z h9 r0 "com/example/imprimatur/imprimatur/verify/DeviceValues" "pkHash" "[B" (.ref c) := F_pkHash_7.same W9
    have E_o_9 := E_o_7.wr W9
    have F_hwId_9 := F_hwId_7.other W9 (Or.inr (slot_ne (Or.inr (hw _ (List.mem_of_getElem? (i := 12) rfl))) (Or.inr (hw _ (List.mem_of_getElem? (i := 10) rfl))) (by decide) (t := (.object "java/lang/Long")) (t' := (.array .byte)) (by decide) (by decide)))
    have F_swId_9 := F_swId_7.other W9 (Or.inr (slot_ne (Or.inr (hw _ (List.mem_of_getElem? (i := 14) rfl))) (Or.inr (hw _ (List.mem_of_getElem? (i := 10) rfl))) (by decide) (t := (.object "java/lang/Long")) (t' := (.array .byte)) (by decide) (by decide)))
    have F_publicKey_9 := F_publicKey_7.other W9 (Or.inr (slot_ne (Or.inr (hw _ (List.mem_of_getElem? (i := 16) rfl))) (Or.inr (hw _ (List.mem_of_getElem? (i := 10) rfl))) (by decide) (t := (.array .byte)) (t' := (.array .byte)) (by decide) (by decide)))
    have Ha_9 := Ha_7.other W9 (Ne.symm hn)
    have Ea_9 := Ea_7.wr W9
    have Ex7_9 := Ex7.wr W9
    have Hh_c_9 := Hh_c.other W9 (Ne.symm ne_r0_c)
    have Z_9 : n0 ≤ h9.size := Nat.le_trans Z_7 (Keep.of_wr W9).1
    have Kp_9 : Keep h0 h9 [r0] := Kp_7.wr W9 (Or.inl (List.mem_of_getElem? (i := 0) rfl))
    have N9 := Fr.snoc X9 N0 g_r0
    have st10 : ∀ target, Steps p.tables e below (T9.setTop (mkF m 58 #[.val (.ref r0), .val (.ref r1), .val .null, .val .null, .val .null] [.null, (.ref r0)])) target → Steps p.tables e below (T9.setTop (mkF m 56 #[.val (.ref r0), .val (.ref r1), .val .null, .val .null, .val .null] [])) target := by
      intro target kt
      show Steps p.tables e below (T9.setTop (mkF m 56 #[.val (.ref r0), .val (.ref r1), .val .null, .val .null, .val .null] [])) _
      refine XS.aloadN X9.here hx rfl (hb hby d1_56) rfl rfl ?_
      show Steps p.tables e below (T9.setTop (mkF m 57 #[.val (.ref r0), .val (.ref r1), .val .null, .val .null, .val .null] [(.ref r0)])) _
      refine XS.aloadN X9.here hx rfl (hb hby d1_57) rfl rfl ?_
      exact kt
    obtain ⟨T11, h11, X11, e11, W11, st11⟩ := putF X9 hx hZ hown (host := "") (Or.inl (hw _ (List.mem_of_getElem? (i := 11) rfl))) Via.refl e9 F_hwId_9 E_o_9 (Or.inr ⟨(hw _ (List.mem_of_getElem? (i := 12) rfl)), rfl, hnm⟩) (hw _ (List.mem_of_getElem? (i := 1) rfl)) (ty := (.object "java/lang/Long")) (by decide) rfl rfl (g := (mkF m 58 #[.val (.ref r0), .val (.ref r1), .val .null, .val .null, .val .null] [.null, (.ref r0)])) rfl rfl (hb hby d1_58)
    have F_hwId_r0_11 : Fld Z h11 r0 "com/example/imprimatur/imprimatur/verify/DeviceValues" "hwId" "Ljava/lang/Long;" .null := F_hwId_9.same W11
    have E_o_11 := E_o_9.wr W11
    have F_swId_11 := F_swId_9.other W11 (Or.inr (slot_ne (Or.inr (hw _ (List.mem_of_getElem? (i := 14) rfl))) (Or.inr (hw _ (List.mem_of_getElem? (i := 12) rfl))) (by decide) (t := (.object "java/lang/Long")) (t' := (.object "java/lang/Long")) (by decide) (by decide)))
    have F_publicKey_11 := F_publicKey_9.other W11 (Or.inr (slot_ne (Or.inr (hw _ (List.mem_of_getElem? (i := 16) rfl))) (Or.inr (hw _ (List.mem_of_getElem? (i := 12) rfl))) (by decide) (t := (.array .byte)) (t' := (.object "java/lang/Long")) (by decide) (by decide)))
    have Ha_11 := Ha_9.other W11 (Ne.symm hn)
    have Ea_11 := Ea_9.wr W11
    have Ex7_11 := Ex7_9.wr W11
    have Hh_c_11 := Hh_c_9.other W11 (Ne.symm ne_r0_c)
    have F_pkHash_r0_11 := F_pkHash_r0_9.other W11 (Or.inr (slot_ne (Or.inr (hw _ (List.mem_of_getElem? (i := 10) rfl))) (Or.inr (hw _ (List.mem_of_getElem? (i := 12) rfl))) (by decide) (t := (.array .byte)) (t' := (.object "java/lang/Long")) (by decide) (by decide)))
    have Z_11 : n0 ≤ h11.size := Nat.le_trans Z_9 (Keep.of_wr W11).1
    have Kp_11 : Keep h0 h11 [r0] := Kp_9.wr W11 (Or.inl (List.mem_of_getElem? (i := 0) rfl))
    have N11 := Fr.snoc X11 N9 g_r0
    have st12 : ∀ target, Steps p.tables e below (T11.setTop (mkF m 63 #[.val (.ref r0), .val (.ref r1), .val .null, .val .null, .val .null] [.null, (.ref r0)])) target → Steps p.tables e below (T11.setTop (mkF m 61 #[.val (.ref r0), .val (.ref r1), .val .null, .val .null, .val .null] [])) target := by
      intro target kt
      show Steps p.tables e below (T11.setTop (mkF m 61 #[.val (.ref r0), .val (.ref r1), .val .null, .val .null, .val .null] [])) _
      refine XS.aloadN X11.here hx rfl (hb hby d1_61) rfl rfl ?_
      show Steps p.tables e below (T11.setTop (mkF m 62 #[.val (.ref r0), .val (.ref r1), .val .null, .val .null, .val .null] [(.ref r0)])) _
      refine XS.aloadN X11.here hx rfl (hb hby d1_62) rfl rfl ?_
      exact kt
    obtain ⟨T13, h13, X13, e13, W13, st13⟩ := putF X11 hx hZ hown (host := "") (Or.inl (hw _ (List.mem_of_getElem? (i := 13) rfl))) Via.refl e11 F_swId_11 E_o_11 (Or.inr ⟨(hw _ (List.mem_of_getElem? (i := 14) rfl)), rfl, hnm⟩) (hw _ (List.mem_of_getElem? (i := 1) rfl)) (ty := (.object "java/lang/Long")) (by decide) rfl rfl (g := (mkF m 63 #[.val (.ref r0), .val (.ref r1), .val .null, .val .null, .val .null] [.null, (.ref r0)])) rfl rfl (hb hby d1_63)
    have F_swId_r0_13 : Fld Z h13 r0 "com/example/imprimatur/imprimatur/verify/DeviceValues" "swId" "Ljava/lang/Long;" .null := F_swId_11.same W13
    have E_o_13 := E_o_11.wr W13
    have F_publicKey_13 := F_publicKey_11.other W13 (Or.inr (slot_ne (Or.inr (hw _ (List.mem_of_getElem? (i := 16) rfl))) (Or.inr (hw _ (List.mem_of_getElem? (i := 14) rfl))) (by decide) (t := (.array .byte)) (t' := (.object "java/lang/Long")) (by decide) (by decide)))
    have Ha_13 := Ha_11.other W13 (Ne.symm hn)
    have Ea_13 := Ea_11.wr W13
    have Ex7_13 := Ex7_11.wr W13
    have Hh_c_13 := Hh_c_11.other W13 (Ne.symm ne_r0_c)
    have F_pkHash_r0_13 := F_pkHash_r0_11.other W13 (Or.inr (slot_ne (Or.inr (hw _ (List.mem_of_getElem? (i := 10) rfl))) (Or.inr (hw _ (List.mem_of_getElem? (i := 14) rfl))) (by decide) (t := (.array .byte)) (t' := (.object "java/lang/Long")) (by decide) (by decide)))
    have F_hwId_r0_13 := F_hwId_r0_11.other W13 (Or.inr (slot_ne (Or.inr (hw _ (List.mem_of_getElem? (i := 12) rfl))) (Or.inr (hw _ (List.mem_of_getElem? (i := 14) rfl))) (by decide) (t := (.object "java/lang/Long")) (t' := (.object "java/lang/Long")) (by decide) (by decide)))
    have Z_13 : n0 ≤ h13.size := Nat.le_trans Z_11 (Keep.of_wr W13).1
    have Kp_13 : Keep h0 h13 [r0] := Kp_11.wr W13 (Or.inl (List.mem_of_getElem? (i := 0) rfl))
    have N13 := Fr.snoc X13 N11 g_r0
    have st14 : ∀ target, Steps p.tables e below (T13.setTop (mkF m 84 #[.val (.ref r0), .val (.ref r1), .val .null, .val .null, .val .null] [.null, (.ref r0)])) target → Steps p.tables e below (T13.setTop (mkF m 66 #[.val (.ref r0), .val (.ref r1), .val .null, .val .null, .val .null] [])) target := by
      intro target kt
      show Steps p.tables e below (T13.setTop (mkF m 66 #[.val (.ref r0), .val (.ref r1), .val .null, .val .null, .val .null] [])) _
      refine XS.aloadN X13.here hx rfl (hb hby d1_66) rfl rfl ?_
      show Steps p.tables e below (T13.setTop (mkF m 67 #[.val (.ref r0), .val (.ref r1), .val .null, .val .null, .val .null] [(.ref r0)])) _
      refine XS.aload X13.here hx rfl (hb hby d1_67) rfl rfl ?_
      show Steps p.tables e below (T13.setTop (mkF m 69 #[.val (.ref r0), .val (.ref r1), .val .null, .val .null, .val .null] [.null, (.ref r0)])) _
      refine XS.ifnonnullNo X13.here hx rfl (hb hby d1_69) rfl ?_
      show Steps p.tables e below (T13.setTop (mkF m 72 #[.val (.ref r0), .val (.ref r1), .val .null, .val .null, .val .null] [(.ref r0)])) _
      refine XS.aconstNull X13.here hx rfl (hb hby d1_72) ?_
      show Steps p.tables e below (T13.setTop (mkF m 73 #[.val (.ref r0), .val (.ref r1), .val .null, .val .null, .val .null] [.null, (.ref r0)])) _
      refine XS.goto X13.here hx rfl (pc0 := 73) (pc' := 84) rfl (hb hby d1_73) (by decide) (by decide) ?_
      exact kt
    obtain ⟨T15, h15, X15, e15, W15, st15⟩ := putF X13 hx hZ hown (host := "") (Or.inl (hw _ (List.mem_of_getElem? (i := 15) rfl))) Via.refl e13 F_publicKey_13 E_o_13 (Or.inr ⟨(hw _ (List.mem_of_getElem? (i := 16) rfl)), rfl, hnm⟩) (hw _ (List.mem_of_getElem? (i := 1) rfl)) (ty := (.array .byte)) (by decide) rfl rfl (g := (mkF m 84 #[.val (.ref r0), .val (.ref r1), .val .null, .val .null, .val .null] [.null, (.ref r0)])) rfl rfl (hb hby d1_84)
    have F_publicKey_r0_15 : Fld Z h15 r0 "com/example/imprimatur/imprimatur/verify/DeviceValues" "publicKey" "[B" .null := F_publicKey_13.same W15
    have E_o_15 := E_o_13.wr W15
    have Ha_15 := Ha_13.other W15 (Ne.symm hn)
    have Ea_15 := Ea_13.wr W15
    have Ex7_15 := Ex7_13.wr W15
    have Hh_c_15 := Hh_c_13.other W15 (Ne.symm ne_r0_c)
    have F_pkHash_r0_15 := F_pkHash_r0_13.other W15 (Or.inr (slot_ne (Or.inr (hw _ (List.mem_of_getElem? (i := 10) rfl))) (Or.inr (hw _ (List.mem_of_getElem? (i := 16) rfl))) (by decide) (t := (.array .byte)) (t' := (.array .byte)) (by decide) (by decide)))
    have F_hwId_r0_15 := F_hwId_r0_13.other W15 (Or.inr (slot_ne (Or.inr (hw _ (List.mem_of_getElem? (i := 12) rfl))) (Or.inr (hw _ (List.mem_of_getElem? (i := 16) rfl))) (by decide) (t := (.object "java/lang/Long")) (t' := (.array .byte)) (by decide) (by decide)))
    have F_swId_r0_15 := F_swId_r0_13.other W15 (Or.inr (slot_ne (Or.inr (hw _ (List.mem_of_getElem? (i := 14) rfl))) (Or.inr (hw _ (List.mem_of_getElem? (i := 16) rfl))) (by decide) (t := (.object "java/lang/Long")) (t' := (.array .byte)) (by decide) (by decide)))
    have Z_15 : n0 ≤ h15.size := Nat.le_trans Z_13 (Keep.of_wr W15).1
    have Kp_15 : Keep h0 h15 [r0] := Kp_13.wr W15 (Or.inl (List.mem_of_getElem? (i := 0) rfl))
    have N15 := Fr.snoc X15 N13 g_r0
    obtain ⟨fs, hr, hrun, hended, hW, hsame⟩ := X15.leave (v := none) (fun _ => rfl)
    refine ⟨_, _, pre0 _ (st1 _ (st2 _ (st3 _ (st5 _ (st6 _ (st7 _ (st8 _ (st9 _ (st10 _ (st11 _ (st12 _ (st13 _ (st14 _ (st15 _ ?_)))))))))))))), hrun, hended, _, _, rfl, ?_, ⟨_, rfl⟩, hW, hsame.mono (by decide) (by decide)⟩
    · show Steps p.tables e below (T15.setTop (mkF m 87 #[.val (.ref r0), .val (.ref r1), .val .null, .val .null, .val .null] [])) _
      exact X15.returnOut hx Bd.returns (hb hby d1_87) hr
    · show Q_rmIA Z r0 r1 k (32 : Int32) hs h0 n0 _ T15.heap _
      rw [e15]
      exact ⟨rfl, N15, Kp_15, E_o_15, c, sz_c, F_pkHash_r0_15, Hh_c_15, Ex7_15⟩
  · have st16 : ∀ target, Steps p.tables e below (T2.setTop (mkF m 9 #[.val (.ref r0), .val (.ref r1), .val .null, .val .null, .val .null] [(.ref r1)])) target → Steps p.tables e below (T2.setTop (mkF m 4 #[.val (.ref r0), .val (.ref r1), .val .null, .val .null, .val .null] [])) target := by
      intro target kt
      show Steps p.tables e below (T2.setTop (mkF m 4 #[.val (.ref r0), .val (.ref r1), .val .null, .val .null, .val .null] [])) _
      refine XS.aloadN X2.here hx rfl (hb hby d1_4) rfl rfl ?_
      show Steps p.tables e below (T2.setTop (mkF m 5 #[.val (.ref r0), .val (.ref r1), .val .null, .val .null, .val .null] [(.ref r1)])) _
      refine XS.ifnullNo X2.here hx rfl (hb hby d1_5) rfl ?_
      show Steps p.tables e below (T2.setTop (mkF m 8 #[.val (.ref r0), .val (.ref r1), .val .null, .val .null, .val .null] [])) _
      refine XS.aloadN X2.here hx rfl (hb hby d1_8) rfl rfl ?_
      exact kt
    obtain ⟨cl17, Ar17, qc17, Sz17, Mn17, Hs17, Gs17⟩ := id Ha
    have st18 : ∀ target, Steps p.tables e below (T2.setTop (mkF m 10 #[.val (.ref r0), .val (.ref r1), .val .null, .val .null, .val .null] [(.int (48 : Int32))])) target → Steps p.tables e below (T2.setTop (mkF m 9 #[.val (.ref r0), .val (.ref r1), .val .null, .val .null, .val .null] [(.ref r1)])) target := fun target kt => X2.arraylength hx (cell := cl17) (by rw [e2]; exact Ar17.1) (State.isArrayOf_alike hZ.alike Ar17.2.1) (g := (mkF m 9 #[.val (.ref r0), .val (.ref r1), .val .null, .val .null, .val .null] [(.ref r1)])) rfl rfl (hb hby d1_9) _ (by rw [len_of (c := cl17) Sz17 Mn17]; exact kt)
    have st19 : ∀ target, Steps p.tables e below (T2.setTop (mkF m 16 #[.val (.ref r0), .val (.ref r1), .val .null, .val .null, .val .null] [(.ref r1)])) target → Steps p.tables e below (T2.setTop (mkF m 10 #[.val (.ref r0), .val (.ref r1), .val .null, .val .null, .val .null] [(.int (48 : Int32))])) target := by
      intro target kt
      show Steps p.tables e below (T2.setTop (mkF m 10 #[.val (.ref r0), .val (.ref r1), .val .null, .val .null, .val .null] [(.int (48 : Int32))])) _
      refine XS.bipush X2.here hx rfl (hb hby d1_10) ?_
      show Steps p.tables e below (T2.setTop (mkF m 12 #[.val (.ref r0), .val (.ref r1), .val .null, .val .null, .val .null] [(.int (32 : Int32)), (.int (48 : Int32))])) _
      refine XS.icmpNo X2.here hx rfl (hb hby d1_12) rfl (feq (by decide : ¬ ((48 : Int32) = (32 : Int32)))).1 ?_
      show Steps p.tables e below (T2.setTop (mkF m 15 #[.val (.ref r0), .val (.ref r1), .val .null, .val .null, .val .null] [])) _
      refine XS.aloadN X2.here hx rfl (hb hby d1_15) rfl rfl ?_
      exact kt
    obtain ⟨cl20, Ar20, qc20, Sz20, Mn20, Hs20, Gs20⟩ := id Ha
    have st21 : ∀ target, Steps p.tables e below (T2.setTop (mkF m 17 #[.val (.ref r0), .val (.ref r1), .val .null, .val .null, .val .null] [(.int (48 : Int32))])) target → Steps p.tables e below (T2.setTop (mkF m 16 #[.val (.ref r0), .val (.ref r1), .val .null, .val .null, .val .null] [(.ref r1)])) target := fun target kt => X2.arraylength hx (cell := cl20) (by rw [e2]; exact Ar20.1) (State.isArrayOf_alike hZ.alike Ar20.2.1) (g := (mkF m 16 #[.val (.ref r0), .val (.ref r1), .val .null, .val .null, .val .null] [(.ref r1)])) rfl rfl (hb hby d1_16) _ (by rw [len_of (c := cl20) Sz20 Mn20]; exact kt)
    have st22 : ∀ target, Steps p.tables e below (T2.setTop (mkF m 47 #[.val (.ref r0), .val (.ref r1), .val .null, .val .null, .val .null] [(.ref r1), (.ref r0)])) target → Steps p.tables e below (T2.setTop (mkF m 17 #[.val (.ref r0), .val (.ref r1), .val .null, .val .null, .val .null] [(.int (48 : Int32))])) target := by
      intro target kt
      show Steps p.tables e below (T2.setTop (mkF m 17 #[.val (.ref r0), .val (.ref r1), .val .null, .val .null, .val .null] [(.int (48 : Int32))])) _
      refine XS.bipush X2.here hx rfl (hb hby d1_17) ?_
      show Steps p.tables e below (T2.setTop (mkF m 19 #[.val (.ref r0), .val (.ref r1), .val .null, .val .null, .val .null] [(.int (48 : Int32)), (.int (48 : Int32))])) _
      refine XS.icmpYes X2.here hx rfl (pc0 := 19) (pc' := 37) rfl (hb hby d1_19) rfl (teq (rfl : (48 : Int32) = (48 : Int32))).1 (by decide) (by decide) ?_
      show Steps p.tables e below (T2.setTop (mkF m 37 #[.val (.ref r0), .val (.ref r1), .val .null, .val .null, .val .null] [])) _
      refine XS.aloadN X2.here hx rfl (hb hby d1_37) rfl rfl ?_
      show Steps p.tables e below (T2.setTop (mkF m 38 #[.val (.ref r0), .val (.ref r1), .val .null, .val .null, .val .null] [(.ref r0)])) _
      refine XS.aloadN X2.here hx rfl (hb hby d1_38) rfl rfl ?_
      show Steps p.tables e below (T2.setTop (mkF m 39 #[.val (.ref r0), .val (.ref r1), .val .null, .val .null, .val .null] [(.ref r1), (.ref r0)])) _
      refine XS.ifnonnullYes X2.here hx rfl (pc0 := 39) (pc' := 46) rfl (hb hby d1_39) rfl (by decide) (by decide) ?_
      show Steps p.tables e below (T2.setTop (mkF m 46 #[.val (.ref r0), .val (.ref r1), .val .null, .val .null, .val .null] [(.ref r0)])) _
      refine XS.aloadN X2.here hx rfl (hb hby d1_46) rfl rfl ?_
      exact kt
    obtain ⟨T23, h23, X23, e23, E23, Hh_c, Ex23, st23⟩ := cloneH X2 hx hZ hown (hw _ (List.mem_of_getElem? (i := 24) rfl)) (hw _ (List.mem_of_getElem? (i := 25) rfl)) (hw _ (List.mem_of_getElem? (i := 29) rfl)) (hw _ (List.mem_of_getElem? (i := 27) rfl)) (hw _ (List.mem_of_getElem? (i := 28) rfl)) (hw _ (List.mem_of_getElem? (i := 30) rfl)) e2 Ha Ea (g := (mkF m 47 #[.val (.ref r0), .val (.ref r1), .val .null, .val .null, .val .null] [(.ref r1), (.ref r0)])) rfl (by rw [hml]; rfl) rfl (hb hby d1_47) (by decide) (W := 1) (cap := 48) (by show 2 * 0 + _ ≤ _; exact Nat.le_of_eq rfl) (by decide) (by decide) (by decide) (by decide)
    obtain ⟨c, g23⟩ : ∃ z, z = h0.size := ⟨_, rfl⟩
    rw [← g23] at Hh_c Ex23 st23
    have g_c : n0 ≤ c := Nat.le_trans Z0 (Nat.le_of_eq g23.symm)
    have sz_c : h0.size ≤ c := Nat.le_trans Kp.1 (Nat.le_of_eq g23.symm)
    have ne_r0_c : r0 ≠ c := Nat.ne_of_lt (Nat.lt_of_lt_of_le E_o.lt (Nat.le_of_eq g23.symm))
    have ne_r1_c : r1 ≠ c := Nat.ne_of_lt (Nat.lt_of_lt_of_le Ha.lt (Nat.le_of_eq g23.symm))
    have E_o_23 := E_o.ext E23
    have F_pkHash_23 := F_pkHash.ext E23
    have F_hwId_23 := F_hwId.ext E23
    have F_swId_23 := F_swId.ext E23
    have F_publicKey_23 := F_publicKey.ext E23
    have Ha_23 := Ha.ext E23
    have Ea_23 := Ea.ext E23
    have Z_23 : n0 ≤ h23.size := Nat.le_trans Z0 E23.1
    have Kp_23 : Keep h0 h23 [r0] := Kp.ext E23
    obtain ⟨T24, X24, e24, st24⟩ := castY X23 hx hZ hown (hw _ (List.mem_of_getElem? (i := 31) rfl)) e23 (Ins.self Ex23) (g := (mkF m 50 #[.val (.ref r0), .val (.ref r1), .val .null, .val .null, .val .null] [(.ref c), (.ref r0)])) rfl rfl (hb hby d1_50)
    obtain ⟨T25, h25, X25, e25, W25, st25⟩ := putF X24 hx hZ hown (host := "") (Or.inl (hw _ (List.mem_of_getElem? (i := 9) rfl))) Via.refl e24 F_pkHash_23 E_o_23 (Or.inr ⟨(hw _ (List.mem_of_getElem? (i := 10) rfl)), rfl, hnm⟩) (hw _ (List.mem_of_getElem? (i := 1) rfl)) (ty := (.array .byte)) (by decide) rfl rfl (g := (mkF m 53 #[.val (.ref r0), .val (.ref r1), .val .null, .val .null, .val .null] [(.ref c), (.ref r0)])) rfl rfl (hb hby d1_53)
    have F_pkHash_r0_25 : Fld Z h25 r0 "com/example/imprimatur/imprimatur/verify/DeviceValues" "pkHash" "[B" (.ref c) := F_pkHash_23.same W25
    have E_o_25 := E_o_23.wr W25
    have F_hwId_25 := F_hwId_23.other W25 (Or.inr (slot_ne (Or.inr (hw _ (List.mem_of_getElem? (i := 12) rfl))) (Or.inr (hw _ (List.mem_of_getElem? (i := 10) rfl))) (by decide) (t := (.object "java/lang/Long")) (t' := (.array .byte)) (by decide) (by decide)))
    have F_swId_25 := F_swId_23.other W25 (Or.inr (slot_ne (Or.inr (hw _ (List.mem_of_getElem? (i := 14) rfl))) (Or.inr (hw _ (List.mem_of_getElem? (i := 10) rfl))) (by decide) (t := (.object "java/lang/Long")) (t' := (.array .byte)) (by decide) (by decide)))
    have F_publicKey_25 := F_publicKey_23.other W25 (Or.inr (slot_ne (Or.inr (hw _ (List.mem_of_getElem? (i := 16) rfl))) (Or.inr (hw _ (List.mem_of_getElem? (i := 10) rfl))) (by decide) (t := (.array .byte)) (t' := (.array .byte)) (by decide) (by decide)))
    have Ha_25 := Ha_23.other W25 (Ne.symm hn)
    have Ea_25 := Ea_23.wr W25
    have Ex23_25 := Ex23.wr W25
    have Hh_c_25 := Hh_c.other W25 (Ne.symm ne_r0_c)
    have Z_25 : n0 ≤ h25.size := Nat.le_trans Z_23 (Keep.of_wr W25).1
    have Kp_25 : Keep h0 h25 [r0] := Kp_23.wr W25 (Or.inl (List.mem_of_getElem? (i := 0) rfl))
    have N25 := Fr.snoc X25 N0 g_r0
    have st26 : ∀ target, Steps p.tables e below (T25.setTop (mkF m 58 #[.val (.ref r0), .val (.ref r1), .val .null, .val .null, .val .null] [.null, (.ref r0)])) target → Steps p.tables e below (T25.setTop (mkF m 56 #[.val (.ref r0), .val (.ref r1), .val .null, .val .null, .val .null] [])) target := by
      intro target kt
      show Steps p.tables e below (T25.setTop (mkF m 56 #[.val (.ref r0), .val (.ref r1), .val .null, .val .null, .val .null] [])) _
      refine XS.aloadN X25.here hx rfl (hb hby d1_56) rfl rfl ?_
      show Steps p.tables e below (T25.setTop (mkF m 57 #[.val (.ref r0), .val (.ref r1), .val .null, .val .null, .val .null] [(.ref r0)])) _
      refine XS.aloadN X25.here hx rfl (hb hby d1_57) rfl rfl ?_
      exact kt
    obtain ⟨T27, h27, X27, e27, W27, st27⟩ := putF X25 hx hZ hown (host := "") (Or.inl (hw _ (List.mem_of_getElem? (i := 11) rfl))) Via.refl e25 F_hwId_25 E_o_25 (Or.inr ⟨(hw _ (List.mem_of_getElem? (i := 12) rfl)), rfl, hnm⟩) (hw _ (List.mem_of_getElem? (i := 1) rfl)) (ty := (.object "java/lang/Long")) (by decide) rfl rfl (g := (mkF m 58 #[.val (.ref r0), .val (.ref r1), .val .null, .val .null, .val .null] [.null, (.ref r0)])) rfl rfl (hb hby d1_58)
    have F_hwId_r0_27 : Fld Z h27 r0 "com/example/imprimatur/imprimatur/verify/DeviceValues" "hwId" "Ljava/lang/Long;" .null := F_hwId_25.same W27
    have E_o_27 := E_o_25.wr W27
    have F_swId_27 := F_swId_25.other W27 (Or.inr (slot_ne (Or.inr (hw _ (List.mem_of_getElem? (i := 14) rfl))) (Or.inr (hw _ (List.mem_of_getElem? (i := 12) rfl))) (by decide) (t := (.object "java/lang/Long")) (t' := (.object "java/lang/Long")) (by decide) (by decide)))
    have F_publicKey_27 := F_publicKey_25.other W27 (Or.inr (slot_ne (Or.inr (hw _ (List.mem_of_getElem? (i := 16) rfl))) (Or.inr (hw _ (List.mem_of_getElem? (i := 12) rfl))) (by decide) (t := (.array .byte)) (t' := (.object "java/lang/Long")) (by decide) (by decide)))
    have Ha_27 := Ha_25.other W27 (Ne.symm hn)
    have Ea_27 := Ea_25.wr W27
    have Ex23_27 := Ex23_25.wr W27
    have Hh_c_27 := Hh_c_25.other W27 (Ne.symm ne_r0_c)
    have F_pkHash_r0_27 := F_pkHash_r0_25.other W27 (Or.inr (slot_ne (Or.inr (hw _ (List.mem_of_getElem? (i := 10) rfl))) (Or.inr (hw _ (List.mem_of_getElem? (i := 12) rfl))) (by decide) (t := (.array .byte)) (t' := (.object "java/lang/Long")) (by decide) (by decide)))
    have Z_27 : n0 ≤ h27.size := Nat.le_trans Z_25 (Keep.of_wr W27).1
    have Kp_27 : Keep h0 h27 [r0] := Kp_25.wr W27 (Or.inl (List.mem_of_getElem? (i := 0) rfl))
    have N27 := Fr.snoc X27 N25 g_r0
    have st28 : ∀ target, Steps p.tables e below (T27.setTop (mkF m 63 #[.val (.ref r0), .val (.ref r1), .val .null, .val .null, .val .null] [.null, (.ref r0)])) target → Steps p.tables e below (T27.setTop (mkF m 61 #[.val (.ref r0), .val (.ref r1), .val .null, .val .null, .val .null] [])) target := by
      intro target kt
      show Steps p.tables e below (T27.setTop (mkF m 61 #[.val (.ref r0), .val (.ref r1), .val .null, .val .null, .val .null] [])) _
      refine XS.aloadN X27.here hx rfl (hb hby d1_61) rfl rfl ?_
      show Steps p.tables e below (T27.setTop (mkF m 62 #[.val (.ref r0), .val (.ref r1), .val .null, .val .null, .val .null] [(.ref r0)])) _
      refine XS.aloadN X27.here hx rfl (hb hby d1_62) rfl rfl ?_
      exact kt
    obtain ⟨T29, h29, X29, e29, W29, st29⟩ := putF X27 hx hZ hown (host := "") (Or.inl (hw _ (List.mem_of_getElem? (i := 13) rfl))) Via.refl e27 F_swId_27 E_o_27 (Or.inr ⟨(hw _ (List.mem_of_getElem? (i := 14) rfl)), rfl, hnm⟩) (hw _ (List.mem_of_getElem? (i := 1) rfl)) (ty := (.object "java/lang/Long")) (by decide) rfl rfl (g := (mkF m 63 #[.val (.ref r0), .val (.ref r1), .val .null, .val .null, .val .null] [.null, (.ref r0)])) rfl rfl (hb hby d1_63)
    have F_swId_r0_29 : Fld Z h29 r0 "com/example/imprimatur/imprimatur/verify/DeviceValues" "swId" "Ljava/lang/Long;" .null := F_swId_27.same W29
    have E_o_29 := E_o_27.wr W29
    have F_publicKey_29 := F_publicKey_27.other W29 (Or.inr (slot_ne (Or.inr (hw _ (List.mem_of_getElem? (i := 16) rfl))) (Or.inr (hw _ (List.mem_of_getElem? (i := 14) rfl))) (by decide) (t := (.array .byte)) (t' := (.object "java/lang/Long")) (by decide) (by decide)))
    have Ha_29 := Ha_27.other W29 (Ne.symm hn)
    have Ea_29 := Ea_27.wr W29
    have Ex23_29 := Ex23_27.wr W29
    have Hh_c_29 := Hh_c_27.other W29 (Ne.symm ne_r0_c)
    have F_pkHash_r0_29 := F_pkHash_r0_27.other W29 (Or.inr (slot_ne (Or.inr (hw _ (List.mem_of_getElem? (i := 10) rfl))) (Or.inr (hw _ (List.mem_of_getElem? (i := 14) rfl))) (by decide) (t := (.array .byte)) (t' := (.object "java/lang/Long")) (by decide) (by decide)))
    have F_hwId_r0_29 := F_hwId_r0_27.other W29 (Or.inr (slot_ne (Or.inr (hw _ (List.mem_of_getElem? (i := 12) rfl))) (Or.inr (hw _ (List.mem_of_getElem? (i := 14) rfl))) (by decide) (t := (.object "java/lang/Long")) (t' := (.object "java/lang/Long")) (by decide) (by decide)))
    have Z_29 : n0 ≤ h29.size := Nat.le_trans Z_27 (Keep.of_wr W29).1
    have Kp_29 : Keep h0 h29 [r0] := Kp_27.wr W29 (Or.inl (List.mem_of_getElem? (i := 0) rfl))
    have N29 := Fr.snoc X29 N27 g_r0
    have st30 : ∀ target, Steps p.tables e below (T29.setTop (mkF m 84 #[.val (.ref r0), .val (.ref r1), .val .null, .val .null, .val .null] [.null, (.ref r0)])) target → Steps p.tables e below (T29.setTop (mkF m 66 #[.val (.ref r0), .val (.ref r1), .val .null, .val .null, .val .null] [])) target := by
      intro target kt
      show Steps p.tables e below (T29.setTop (mkF m 66 #[.val (.ref r0), .val (.ref r1), .val .null, .val .null, .val .null] [])) _
      refine XS.aloadN X29.here hx rfl (hb hby d1_66) rfl rfl ?_
      show Steps p.tables e below (T29.setTop (mkF m 67 #[.val (.ref r0), .val (.ref r1), .val .null, .val .null, .val .null] [(.ref r0)])) _
      refine XS.aload X29.here hx rfl (hb hby d1_67) rfl rfl ?_
      show Steps p.tables e below (T29.setTop (mkF m 69 #[.val (.ref r0), .val (.ref r1), .val .null, .val .null, .val .null] [.null, (.ref r0)])) _
      refine XS.ifnonnullNo X29.here hx rfl (hb hby d1_69) rfl ?_
      show Steps p.tables e below (T29.setTop (mkF m 72 #[.val (.ref r0), .val (.ref r1), .val .null, .val .null, .val .null] [(.ref r0)])) _
      refine XS.aconstNull X29.here hx rfl (hb hby d1_72) ?_
      show Steps p.tables e below (T29.setTop (mkF m 73 #[.val (.ref r0), .val (.ref r1), .val .null, .val .null, .val .null] [.null, (.ref r0)])) _
      refine XS.goto X29.here hx rfl (pc0 := 73) (pc' := 84) rfl (hb hby d1_73) (by decide) (by decide) ?_
      exact kt
    obtain ⟨T31, h31, X31, e31, W31, st31⟩ := putF X29 hx hZ hown (host := "") (Or.inl (hw _ (List.mem_of_getElem? (i := 15) rfl))) Via.refl e29 F_publicKey_29 E_o_29 (Or.inr ⟨(hw _ (List.mem_of_getElem? (i := 16) rfl)), rfl, hnm⟩) (hw _ (List.mem_of_getElem? (i := 1) rfl)) (ty := (.array .byte)) (by decide) rfl rfl (g := (mkF m 84 #[.val (.ref r0), .val (.ref r1), .val .null, .val .null, .val .null] [.null, (.ref r0)])) rfl rfl (hb hby d1_84)
    have F_publicKey_r0_31 : Fld Z h31 r0 "com/example/imprimatur/imprimatur/verify/DeviceValues" "publicKey" "[B" .null := F_publicKey_29.same W31
    have E_o_31 := E_o_29.wr W31
    have Ha_31 := Ha_29.other W31 (Ne.symm hn)
    have Ea_31 := Ea_29.wr W31
    have Ex23_31 := Ex23_29.wr W31
    have Hh_c_31 := Hh_c_29.other W31 (Ne.symm ne_r0_c)
    have F_pkHash_r0_31 := F_pkHash_r0_29.other W31 (Or.inr (slot_ne (Or.inr (hw _ (List.mem_of_getElem? (i := 10) rfl))) (Or.inr (hw _ (List.mem_of_getElem? (i := 16) rfl))) (by decide) (t := (.array .byte)) (t' := (.array .byte)) (by decide) (by decide)))
    have F_hwId_r0_31 := F_hwId_r0_29.other W31 (Or.inr (slot_ne (Or.inr (hw _ (List.mem_of_getElem? (i := 12) rfl))) (Or.inr (hw _ (List.mem_of_getElem? (i := 16) rfl))) (by decide) (t := (.object "java/lang/Long")) (t' := (.array .byte)) (by decide) (by decide)))
    have F_swId_r0_31 := F_swId_r0_29.other W31 (Or.inr (slot_ne (Or.inr (hw _ (List.mem_of_getElem? (i := 14) rfl))) (Or.inr (hw _ (List.mem_of_getElem? (i := 16) rfl))) (by decide) (t := (.object "java/lang/Long")) (t' := (.array .byte)) (by decide) (by decide)))
    have Z_31 : n0 ≤ h31.size := Nat.le_trans Z_29 (Keep.of_wr W31).1
    have Kp_31 : Keep h0 h31 [r0] := Kp_29.wr W31 (Or.inl (List.mem_of_getElem? (i := 0) rfl))
    have N31 := Fr.snoc X31 N29 g_r0
    obtain ⟨fs, hr, hrun, hended, hW, hsame⟩ := X31.leave (v := none) (fun _ => rfl)
    refine ⟨_, _, pre0 _ (st1 _ (st2 _ (st16 _ (st18 _ (st19 _ (st21 _ (st22 _ (st23 _ (st24 _ (st25 _ (st26 _ (st27 _ (st28 _ (st29 _ (st30 _ (st31 _ ?_)))))))))))))))), hrun, hended, _, _, rfl, ?_, ⟨_, rfl⟩, hW, hsame.mono (by decide) (by decide)⟩
    · show Steps p.tables e below (T31.setTop (mkF m 87 #[.val (.ref r0), .val (.ref r1), .val .null, .val .null, .val .null] [])) _
      exact X31.returnOut hx Bd.returns (hb hby d1_87) hr
    · show Q_rmIA Z r0 r1 k (48 : Int32) hs h0 n0 _ T31.heap _
      rw [e31]
      exact ⟨rfl, N31, Kp_31, E_o_31, c, sz_c, F_pkHash_r0_31, Hh_c_31, Ex23_31⟩
theorem d3_0 : decode prog_47_method_2_code 0 = .ok (.aload_n 0, 1) := by decide +kernel
theorem d3_1 : decode prog_47_method_2_code 1 = .ok (.getfield 24, 3) := by decide +kernel
theorem d3_4 : decode prog_47_method_2_code 4 = .ok (.ifnonnull 7, 3) := by decide +kernel
theorem d3_7 : decode prog_47_method_2_code 7 = .ok (.aconst_null, 1) := by decide +kernel
theorem d3_8 : decode prog_47_method_2_code 8 = .ok (.goto 13, 3) := by decide +kernel
theorem d3_11 : decode prog_47_method_2_code 11 = .ok (.aload_n 0, 1) := by decide +kernel
theorem d3_12 : decode prog_47_method_2_code 12 = .ok (.getfield 24, 3) := by decide +kernel
theorem d3_15 : decode prog_47_method_2_code 15 = .ok (.invokevirtual 18, 3) := by decide +kernel
theorem d3_18 : decode prog_47_method_2_code 18 = .ok (.checkcast 19, 3) := by decide +kernel
theorem d3_21 : decode prog_47_method_2_code 21 = .ok (.areturn, 1) := by decide +kernel
theorem ef_rmN_pkHash (m : MethodId) (x0 : Addr) : entryFrame m #[(.ref x0)] 1 = mkF m 0 #[.val (.ref x0)] [] := by first | (simp [entryFrame, mkF, argsToLocals, Value.category]; done) | rfl
def Q_rmN_pkHash (Z : State) (r0 : Addr) (h0 : Heap) (n0 : Nat) (v : Option Value) (h : Heap) (L : List Loc) : Prop := v = some .null ∧ Fr n0 L ∧ h = h0
set_option maxRecDepth 65536 in
set_option maxHeartbeats 40000000 in
theorem rmN_pkHash (l : Launch) (Z : State) (a0 : Array Value) (hw : ∀ d ∈ tables_1, d.before a0 Z = true) (ws : List Jvm.Cond) (r0 : Addr) (h0 : Heap) (n0 : Nat) (Z0 : n0 ≤ h0.size) (F_f : Fld Z h0 r0 "com/example/imprimatur/imprimatur/verify/DeviceValues" "pkHash" "[B" .null) :
    MetFree l (⟨"com/example/imprimatur/imprimatur/verify/DeviceValues", "pkHash", "()[B"⟩ : MethodName) (head1 (Jvm.Cond.code (⟨"com/example/imprimatur/imprimatur/verify/DeviceValues", "pkHash", "()[B"⟩ : MethodName) prog_47_method_2_code 1 (some (.array .byte)) :: ws) ({ frames := 0, cells := 0, slots := 0, locals := 0 } : Room)) (fun a U => a = #[(.ref r0)] ∧ Z.Warmed39 U.vm ∧ U.heap = h0) (fun _ _ _ _ _ => True) (fun _ U o U' => ∃ v L, o = .returned v ∧ Q_rmN_pkHash Z r0 h0 n0 v U'.heap L ∧ FrameEnd U o U' L ({ frames := 0, cells := 0, slots := 0, locals := 0 } : Room).cells ({ frames := 0, cells := 0, slots := 0, locals := 0 } : Room).slots) := by
  refine MetFree.of_bodySF (plainFor_of_name pn_0) hisR ?_
  intro p e s m args below meth c s₁ Bd hml0 hP hK
  obtain ⟨rfl, hZ, hh⟩ := hP
  have hx := Bd.exec
  have hby := Bd.bytes
  have hml : c.maxLocals = 1 := hml0
  have hown : s.vm.findClass "com/example/imprimatur/imprimatur/verify/DeviceValues" = some m.cls := findClass_of_methodNamed Bd.named
  have hnm := (name_of_methodNamed Bd.named Bd.method).1
  have X0 : Stand p l e ({ frames := 0, cells := 0, slots := 0, locals := 0 } : Room) s m #[(.ref r0)] below meth c s₁ [] 0 0 := Stand.of_body Bd
  have e0 : s₁.heap = h0 := by rw [← hh, Bd.state]; rfl
  have N0 := Fr.nil n0
  have pre0 : ∀ t, Steps p.tables e below (s₁.setTop (mkF m 0 #[.val (.ref r0)] [])) t → Steps p.tables e below (s₁.setTop (entryFrame m #[(.ref r0)] 1)) t := fun t k => castTop (ef_rmN_pkHash m r0) k
  have st1 : ∀ target, Steps p.tables e below (s₁.setTop (mkF m 1 #[.val (.ref r0)] [(.ref r0)])) target → Steps p.tables e below (s₁.setTop (mkF m 0 #[.val (.ref r0)] [])) target := by
    intro target kt
    show Steps p.tables e below (s₁.setTop (mkF m 0 #[.val (.ref r0)] [])) _
    refine XS.aloadN X0.here hx rfl (hb hby d3_0) rfl rfl ?_
    exact kt
  obtain ⟨T2, X2, e2, st2⟩ := getF X0 hx hZ hown (host := "") (Or.inl (hw _ (List.mem_of_getElem? (i := 9) rfl))) Via.refl e0 F_f (g := (mkF m 1 #[.val (.ref r0)] [(.ref r0)])) rfl rfl (hb hby d3_1)
  obtain ⟨fs, hr, hrun, hended, hW, hsame⟩ := X2.leave (v := some .null) (fun h => by rw [Bd.returns] at h; cases h)
  refine ⟨_, _, pre0 _ (st1 _ (st2 _ ?_)), hrun, hended, _, _, rfl, ?_, ⟨_, rfl⟩, hW, hsame.mono (by decide) (by decide)⟩
  · show Steps p.tables e below (T2.setTop (mkF m 4 #[.val (.ref r0)] [.null])) _
    refine XS.ifnonnullNo X2.here hx rfl (hb hby d3_4) rfl ?_
    show Steps p.tables e below (T2.setTop (mkF m 7 #[.val (.ref r0)] [])) _
    refine XS.aconstNull X2.here hx rfl (hb hby d3_7) ?_
    show Steps p.tables e below (T2.setTop (mkF m 8 #[.val (.ref r0)] [.null])) _
    refine XS.goto X2.here hx rfl (pc0 := 8) (pc' := 21) rfl (hb hby d3_8) (by decide) (by decide) ?_
    show Steps p.tables e below (T2.setTop (mkF m 21 #[.val (.ref r0)] [.null])) _
    jvm_step X2.here [X2.here.top, hx, (hb hby d3_21), X2.method', Bd.returns, Value.isRef, FieldType.isReference]
    first | (intro acts; rw [hr _ acts rfl rfl rfl]) | rw [hr _ _ rfl rfl rfl]
    exact Steps.refl _
  · show Q_rmN_pkHash Z r0 h0 n0 _ T2.heap _
    rw [e2]
    exact ⟨rfl, N0, rfl⟩
theorem ef_rm_pkHash (m : MethodId) (x0 : Addr) : entryFrame m #[(.ref x0)] 1 = mkF m 0 #[.val (.ref x0)] [] := by first | (simp [entryFrame, mkF, argsToLocals, Value.category]; done) | rfl
def Q_rm_pkHash (Z : State) (r0 : Addr) (cf : Addr) (k : ClassId) (z : Int32) (hs : List (Int32 × Value)) (h0 : Heap) (n0 : Nat) (v : Option Value) (h : Heap) (L : List Loc) : Prop := ∃ c2, v = some (.ref c2) ∧ Fr n0 L ∧ Keep h0 h [] ∧ h0.size ≤ c2 ∧ Arh Z h c2 k .byte z hs [] (.int (0 : Int32)) ∧ Exa Z h c2 "[B"
set_option maxRecDepth 65536 in
set_option maxHeartbeats 40000000 in
theorem rm_pkHash (l : Launch) (Z : State) (a0 : Array Value) (hw : ∀ d ∈ tables_1, d.before a0 Z = true) (ws : List Jvm.Cond) (r0 : Addr) (cf : Addr) (k : ClassId) (z : Int32) (hs : List (Int32 × Value)) (h0 : Heap) (n0 : Nat) (Z0 : n0 ≤ h0.size) (F_f : Fld Z h0 r0 "com/example/imprimatur/imprimatur/verify/DeviceValues" "pkHash" "[B" (.ref cf)) (Hc : Arh Z h0 cf k .byte z hs [] (.int (0 : Int32))) (Ec : Exa Z h0 cf "[B") (hz : z.toNatClampNeg ≤ 48) :
    MetFree l (⟨"com/example/imprimatur/imprimatur/verify/DeviceValues", "pkHash", "()[B"⟩ : MethodName) (head1 (Jvm.Cond.code (⟨"com/example/imprimatur/imprimatur/verify/DeviceValues", "pkHash", "()[B"⟩ : MethodName) prog_47_method_2_code 1 (some (.array .byte)) :: ws) ({ frames := 1, cells := 1, slots := 48, locals := 14 } : Room)) (fun a U => a = #[(.ref r0)] ∧ Z.Warmed39 U.vm ∧ U.heap = h0) (fun _ _ _ _ _ => True) (fun _ U o U' => ∃ v L, o = .returned v ∧ Q_rm_pkHash Z r0 cf k z hs h0 n0 v U'.heap L ∧ FrameEnd U o U' L ({ frames := 1, cells := 1, slots := 48, locals := 14 } : Room).cells ({ frames := 1, cells := 1, slots := 48, locals := 14 } : Room).slots) := by
  refine MetFree.of_bodySF (plainFor_of_name pn_0) hisR ?_
  intro p e s m args below meth c s₁ Bd hml0 hP hK
  obtain ⟨rfl, hZ, hh⟩ := hP
  have hx := Bd.exec
  have hby := Bd.bytes
  have hml : c.maxLocals = 1 := hml0
  have hown : s.vm.findClass "com/example/imprimatur/imprimatur/verify/DeviceValues" = some m.cls := findClass_of_methodNamed Bd.named
  have hnm := (name_of_methodNamed Bd.named Bd.method).1
  have X0 : Stand p l e ({ frames := 1, cells := 1, slots := 48, locals := 14 } : Room) s m #[(.ref r0)] below meth c s₁ [] 0 0 := Stand.of_body Bd
  have e0 : s₁.heap = h0 := by rw [← hh, Bd.state]; rfl
  have N0 := Fr.nil n0
  have pre0 : ∀ t, Steps p.tables e below (s₁.setTop (mkF m 0 #[.val (.ref r0)] [])) t → Steps p.tables e below (s₁.setTop (entryFrame m #[(.ref r0)] 1)) t := fun t k => castTop (ef_rm_pkHash m r0) k
  have Kp : Keep h0 h0 [] := Keep.refl _ _
  have st1 : ∀ target, Steps p.tables e below (s₁.setTop (mkF m 1 #[.val (.ref r0)] [(.ref r0)])) target → Steps p.tables e below (s₁.setTop (mkF m 0 #[.val (.ref r0)] [])) target := by
    intro target kt
    show Steps p.tables e below (s₁.setTop (mkF m 0 #[.val (.ref r0)] [])) _
    refine XS.aloadN X0.here hx rfl (hb hby d3_0) rfl rfl ?_
    exact kt
  obtain ⟨T2, X2, e2, st2⟩ := getF X0 hx hZ hown (host := "") (Or.inl (hw _ (List.mem_of_getElem? (i := 9) rfl))) Via.refl e0 F_f (g := (mkF m 1 #[.val (.ref r0)] [(.ref r0)])) rfl rfl (hb hby d3_1)
  have st3 : ∀ target, Steps p.tables e below (T2.setTop (mkF m 12 #[.val (.ref r0)] [(.ref r0)])) target → Steps p.tables e below (T2.setTop (mkF m 4 #[.val (.ref r0)] [(.ref cf)])) target := by
    intro target kt
    show Steps p.tables e below (T2.setTop (mkF m 4 #[.val (.ref r0)] [(.ref cf)])) _
    refine XS.ifnonnullYes X2.here hx rfl (pc0 := 4) (pc' := 11) rfl (hb hby d3_4) rfl (by decide) (by decide) ?_
    show Steps p.tables e below (T2.setTop (mkF m 11 #[.val (.ref r0)] [])) _
    refine XS.aloadN X2.here hx rfl (hb hby d3_11) rfl rfl ?_
    exact kt
  obtain ⟨T4, X4, e4, st4⟩ := getF X2 hx hZ hown (host := "") (Or.inl (hw _ (List.mem_of_getElem? (i := 9) rfl))) Via.refl e2 F_f (g := (mkF m 12 #[.val (.ref r0)] [(.ref r0)])) rfl rfl (hb hby d3_12)
  obtain ⟨T5, h5, X5, e5, E5, Hh_c2, Ex5, st5⟩ := cloneH X4 hx hZ hown (hw _ (List.mem_of_getElem? (i := 24) rfl)) (hw _ (List.mem_of_getElem? (i := 25) rfl)) (hw _ (List.mem_of_getElem? (i := 29) rfl)) (hw _ (List.mem_of_getElem? (i := 27) rfl)) (hw _ (List.mem_of_getElem? (i := 28) rfl)) (hw _ (List.mem_of_getElem? (i := 30) rfl)) e4 Hc Ec (g := (mkF m 15 #[.val (.ref r0)] [(.ref cf)])) rfl (by rw [hml]; rfl) rfl (hb hby d3_15) (by decide) (W := 0) (cap := 48) (by show 2 * 0 + _ ≤ _; exact Nat.le_of_eq rfl) (by decide) hz (by decide) (by decide)
  obtain ⟨c2, g5⟩ : ∃ z, z = h0.size := ⟨_, rfl⟩
  rw [← g5] at Hh_c2 Ex5 st5
  have g_c2 : n0 ≤ c2 := Nat.le_trans Z0 (Nat.le_of_eq g5.symm)
  have sz_c2 : h0.size ≤ c2 := Nat.le_trans Kp.1 (Nat.le_of_eq g5.symm)
  have ne_r0_c2 : r0 ≠ c2 := Nat.ne_of_lt (Nat.lt_of_lt_of_le F_f.lt (Nat.le_of_eq g5.symm))
  have ne_cf_c2 : cf ≠ c2 := Nat.ne_of_lt (Nat.lt_of_lt_of_le Hc.lt (Nat.le_of_eq g5.symm))
  have F_f_5 := F_f.ext E5
  have Hc_5 := Hc.ext E5
  have Ec_5 := Ec.ext E5
  have Z_5 : n0 ≤ h5.size := Nat.le_trans Z0 E5.1
  have Kp_5 : Keep h0 h5 [] := Kp.ext E5
  obtain ⟨T6, X6, e6, st6⟩ := castY X5 hx hZ hown (hw _ (List.mem_of_getElem? (i := 31) rfl)) e5 (Ins.self Ex5) (g := (mkF m 18 #[.val (.ref r0)] [(.ref c2)])) rfl rfl (hb hby d3_18)
  obtain ⟨fs, hr, hrun, hended, hW, hsame⟩ := X6.leave (v := some (.ref c2)) (fun h => by rw [Bd.returns] at h; cases h)
  refine ⟨_, _, pre0 _ (st1 _ (st2 _ (st3 _ (st4 _ (st5 _ (st6 _ ?_)))))), hrun, hended, _, _, rfl, ?_, ⟨_, rfl⟩, hW, hsame.mono (by decide) (by decide)⟩
  · show Steps p.tables e below (T6.setTop (mkF m 21 #[.val (.ref r0)] [(.ref c2)])) _
    jvm_step X6.here [X6.here.top, hx, (hb hby d3_21), X6.method', Bd.returns, Value.isRef, FieldType.isReference]
    first | (intro acts; rw [hr _ acts rfl rfl rfl]) | rw [hr _ _ rfl rfl rfl]
    exact Steps.refl _
  · show Q_rm_pkHash Z r0 cf k z hs h0 n0 _ T6.heap _
    rw [e6]
    exact ⟨c2, rfl, N0, Kp_5, sz_c2, Hh_c2, Ex5⟩
theorem pn_1 : plainName "com/example/imprimatur/imprimatur/verify/DeviceValuesPkHashPinLaw" = true := by first | (simp [plainName, overriddenIn]; done) | decide +kernel
theorem ef_rm0 (m : MethodId) (x0 : Int32) (x1 : Int32) (x2 : Int32) (x3 : Int32) (x4 : Int32) (x5 : Int32) : entryFrame m #[(.int x0), (.int x1), (.int x2), (.int x3), (.int x4), (.int x5)] maxLocals = mkF m 0 #[.val (.int x0), .val (.int x1), .val (.int x2), .val (.int x3), .val (.int x4), .val (.int x5), .unset, .unset, .unset, .unset, .unset, .unset, .unset, .unset, .unset, .unset, .unset, .unset] [] := by first | (simp [entryFrame, mkF, argsToLocals, Value.category, maxLocals]; done) | rfl
def Q_rm0 (Z : State) (p0 : Int32) (p1 : Int32) (p2 : Int32) (p3 : Int32) (p4 : Int32) (p5 : Int32) (h0 : Heap) (n0 : Nat) (v : Option Value) (h : Heap) (L : List Loc) : Prop := v = some (.int 1) ∧ Fr n0 L
set_option maxRecDepth 65536 in
set_option maxHeartbeats 40000000 in
theorem rm0 (l : Launch) (Z : State) (a0 : Array Value) (hw : ∀ d ∈ tables_1, d.before a0 Z = true) (ws : List Jvm.Cond) (p0 : Int32) (p1 : Int32) (p2 : Int32) (p3 : Int32) (p4 : Int32) (p5 : Int32) (h0 : Heap) (n0 : Nat) (Z0 : n0 ≤ h0.size) :
    MetFree l x (head1 (Jvm.Cond.code x code maxLocals ret :: ws) room_1) (fun a U => a = #[(.int p0), (.int p1), (.int p2), (.int p3), (.int p4), (.int p5)] ∧ Z.Warmed39 U.vm ∧ U.heap = h0) (fun _ _ _ _ _ => True) (fun _ U o U' => ∃ v L, o = .returned v ∧ Q_rm0 Z p0 p1 p2 p3 p4 p5 h0 n0 v U'.heap L ∧ FrameEnd U o U' L room_1.cells room_1.slots) := by
  refine MetFree.of_bodySF (plainFor_of_name pn_1) hisR ?_
  intro p e s m args below meth c s₁ Bd hml0 hP hK
  obtain ⟨rfl, hZ, hh⟩ := hP
  have hx := Bd.exec
  have hby := Bd.bytes
  have hml : c.maxLocals = 18 := hml0
  have hown : s.vm.findClass "com/example/imprimatur/imprimatur/verify/DeviceValuesPkHashPinLaw" = some m.cls := findClass_of_methodNamed Bd.named
  have hnm := (name_of_methodNamed Bd.named Bd.method).1
  have X0 : Stand p l e room_1 s m #[(.int p0), (.int p1), (.int p2), (.int p3), (.int p4), (.int p5)] below meth c s₁ [] 0 0 := Stand.of_body Bd
  have e0 : s₁.heap = h0 := by rw [← hh, Bd.state]; rfl
  have N0 := Fr.nil n0
  have pre0 : ∀ t, Steps p.tables e below (s₁.setTop (mkF m 0 #[.val (.int p0), .val (.int p1), .val (.int p2), .val (.int p3), .val (.int p4), .val (.int p5), .unset, .unset, .unset, .unset, .unset, .unset, .unset, .unset, .unset, .unset, .unset, .unset] [])) t → Steps p.tables e below (s₁.setTop (entryFrame m #[(.int p0), (.int p1), (.int p2), (.int p3), (.int p4), (.int p5)] maxLocals)) t := fun t k => castTop (ef_rm0 m p0 p1 p2 p3 p4 p5) k
  have st1 : ∀ target, Steps p.tables e below (s₁.setTop (mkF m 4 #[.val (.int p0), .val (.int p1), .val (.int p2), .val (.int p3), .val (.int p4), .val (.int p5), .unset, .unset, .unset, .unset, .unset, .unset, .unset, .unset, .unset, .unset, .unset, .unset] [(.int (p0 &&& (7 : Int32)))])) target → Steps p.tables e below (s₁.setTop (mkF m 0 #[.val (.int p0), .val (.int p1), .val (.int p2), .val (.int p3), .val (.int p4), .val (.int p5), .unset, .unset, .unset, .unset, .unset, .unset, .unset, .unset, .unset, .unset, .unset, .unset] [])) target := by
    intro target kt
    show Steps p.tables e below (s₁.setTop (mkF m 0 #[.val (.int p0), .val (.int p1), .val (.int p2), .val (.int p3), .val (.int p4), .val (.int p5), .unset, .unset, .unset, .unset, .unset, .unset, .unset, .unset, .unset, .unset, .unset, .unset] [])) _
    refine XS.iloadN X0.here hx rfl (hb hby at_0) rfl ?_
    show Steps p.tables e below (s₁.setTop (mkF m 1 #[.val (.int p0), .val (.int p1), .val (.int p2), .val (.int p3), .val (.int p4), .val (.int p5), .unset, .unset, .unset, .unset, .unset, .unset, .unset, .unset, .unset, .unset, .unset, .unset] [(.int p0)])) _
    refine XS.bipush X0.here hx rfl (hb hby at_1) ?_
    show Steps p.tables e below (s₁.setTop (mkF m 3 #[.val (.int p0), .val (.int p1), .val (.int p2), .val (.int p3), .val (.int p4), .val (.int p5), .unset, .unset, .unset, .unset, .unset, .unset, .unset, .unset, .unset, .unset, .unset, .unset] [(.int (7 : Int32)), (.int p0)])) _
    refine XS.iand X0.here hx rfl (hb hby at_3) rfl ?_
    exact kt
  by_cases hc4 : (p0 &&& (7 : Int32)) = (0 : Int32)
  · have st2 : ∀ target, Steps p.tables e below (s₁.setTop (mkF m 7 #[.val (.int p0), .val (.int p1), .val (.int p2), .val (.int p3), .val (.int p4), .val (.int p5), .unset, .unset, .unset, .unset, .unset, .unset, .unset, .unset, .unset, .unset, .unset, .unset] [])) target → Steps p.tables e below (s₁.setTop (mkF m 4 #[.val (.int p0), .val (.int p1), .val (.int p2), .val (.int p3), .val (.int p4), .val (.int p5), .unset, .unset, .unset, .unset, .unset, .unset, .unset, .unset, .unset, .unset, .unset, .unset] [(.int (p0 &&& (7 : Int32)))])) target := by
      intro target kt
      show Steps p.tables e below (s₁.setTop (mkF m 4 #[.val (.int p0), .val (.int p1), .val (.int p2), .val (.int p3), .val (.int p4), .val (.int p5), .unset, .unset, .unset, .unset, .unset, .unset, .unset, .unset, .unset, .unset, .unset, .unset] [(.int (p0 &&& (7 : Int32)))])) _
      refine XS.ifNo X0.here hx rfl (hb hby at_4) rfl ((if0 _ _).trans (teq hc4).2) ?_
      exact kt
    obtain ⟨T3, h3, X3, e3, E3, A3, D3, -, st3⟩ := newO X0 hx hZ hown (hw _ (List.mem_of_getElem? (i := 0) rfl)) (hw _ (List.mem_of_getElem? (i := 1) rfl)) (hw _ (List.mem_of_getElem? (i := 2) rfl)) e0 (g := (mkF m 7 #[.val (.int p0), .val (.int p1), .val (.int p2), .val (.int p3), .val (.int p4), .val (.int p5), .unset, .unset, .unset, .unset, .unset, .unset, .unset, .unset, .unset, .unset, .unset, .unset] [])) rfl (hb hby at_7) (by decide) (by decide)
    obtain ⟨d, g3⟩ : ∃ z, z = h0.size := ⟨_, rfl⟩
    rw [← g3] at A3 D3 st3
    have g_d : n0 ≤ d := Nat.le_trans Z0 (Nat.le_of_eq g3.symm)
    have Z_3 : n0 ≤ h3.size := Nat.le_trans Z0 E3.1
    have E_d : Exa Z h3 d "com/example/imprimatur/imprimatur/verify/DeviceValues" := A3
    have F_pkHash_d : Fld Z h3 d "com/example/imprimatur/imprimatur/verify/DeviceValues" "pkHash" "[B" .null := D3 (Or.inr (hw _ (List.mem_of_getElem? (i := 10) rfl))) (ty := (.array .byte)) (by decide)
    have F_hwId_d : Fld Z h3 d "com/example/imprimatur/imprimatur/verify/DeviceValues" "hwId" "Ljava/lang/Long;" .null := D3 (Or.inr (hw _ (List.mem_of_getElem? (i := 12) rfl))) (ty := (.object "java/lang/Long")) (by decide)
    have F_swId_d : Fld Z h3 d "com/example/imprimatur/imprimatur/verify/DeviceValues" "swId" "Ljava/lang/Long;" .null := D3 (Or.inr (hw _ (List.mem_of_getElem? (i := 14) rfl))) (ty := (.object "java/lang/Long")) (by decide)
    have F_publicKey_d : Fld Z h3 d "com/example/imprimatur/imprimatur/verify/DeviceValues" "publicKey" "[B" .null := D3 (Or.inr (hw _ (List.mem_of_getElem? (i := 16) rfl))) (ty := (.array .byte)) (by decide)
    have st4 : ∀ target, Steps p.tables e below (T3.setTop (mkF m 15 #[.val (.int p0), .val (.int p1), .val (.int p2), .val (.int p3), .val (.int p4), .val (.int p5), .unset, .unset, .unset, .unset, .unset, .unset, .unset, .unset, .unset, .unset, .unset, .unset] [.null, .null, .null, .null, (.ref d), (.ref d)])) target → Steps p.tables e below (T3.setTop (mkF m 10 #[.val (.int p0), .val (.int p1), .val (.int p2), .val (.int p3), .val (.int p4), .val (.int p5), .unset, .unset, .unset, .unset, .unset, .unset, .unset, .unset, .unset, .unset, .unset, .unset] [(.ref d)])) target := by
      intro target kt
      show Steps p.tables e below (T3.setTop (mkF m 10 #[.val (.int p0), .val (.int p1), .val (.int p2), .val (.int p3), .val (.int p4), .val (.int p5), .unset, .unset, .unset, .unset, .unset, .unset, .unset, .unset, .unset, .unset, .unset, .unset] [(.ref d)])) _
      refine XS.dup X3.here hx rfl (hb hby at_10) rfl rfl ?_
      show Steps p.tables e below (T3.setTop (mkF m 11 #[.val (.int p0), .val (.int p1), .val (.int p2), .val (.int p3), .val (.int p4), .val (.int p5), .unset, .unset, .unset, .unset, .unset, .unset, .unset, .unset, .unset, .unset, .unset, .unset] [(.ref d), (.ref d)])) _
      refine XS.aconstNull X3.here hx rfl (hb hby at_11) ?_
      show Steps p.tables e below (T3.setTop (mkF m 12 #[.val (.int p0), .val (.int p1), .val (.int p2), .val (.int p3), .val (.int p4), .val (.int p5), .unset, .unset, .unset, .unset, .unset, .unset, .unset, .unset, .unset, .unset, .unset, .unset] [.null, (.ref d), (.ref d)])) _
      refine XS.aconstNull X3.here hx rfl (hb hby at_12) ?_
      show Steps p.tables e below (T3.setTop (mkF m 13 #[.val (.int p0), .val (.int p1), .val (.int p2), .val (.int p3), .val (.int p4), .val (.int p5), .unset, .unset, .unset, .unset, .unset, .unset, .unset, .unset, .unset, .unset, .unset, .unset] [.null, .null, (.ref d), (.ref d)])) _
      refine XS.aconstNull X3.here hx rfl (hb hby at_13) ?_
      show Steps p.tables e below (T3.setTop (mkF m 14 #[.val (.int p0), .val (.int p1), .val (.int p2), .val (.int p3), .val (.int p4), .val (.int p5), .unset, .unset, .unset, .unset, .unset, .unset, .unset, .unset, .unset, .unset, .unset, .unset] [.null, .null, .null, (.ref d), (.ref d)])) _
      refine XS.aconstNull X3.here hx rfl (hb hby at_14) ?_
      exact kt
    obtain ⟨_, _, ⟨T5, L5, k5, n5⟩, -, X5, ⟨Lc5, hQ5, l5, y5, z5⟩, st5⟩ := X3.specialBack hx (y := (⟨"com/example/imprimatur/imprimatur/verify/DeviceValues", "<init>", "([BLjava/lang/Long;Ljava/lang/Long;[B)V"⟩ : MethodName)) rfl hown (mvT hZ (hw _ (List.mem_of_getElem? (i := 3) rfl))) (mvT hZ (hw _ (List.mem_of_getElem? (i := 4) rfl))) (mvT hZ (hw _ (List.mem_of_getElem? (i := 5) rfl))) (by decide) (backOf (W := 1) (rmIN l Z a0 hw [] d  h3 n0 Z_3 F_pkHash_d F_hwId_d F_swId_d F_publicKey_d E_d g_d) hZ (hw _ (List.mem_of_getElem? (i := 5) rfl)) (hw _ (List.mem_of_getElem? (i := 2) rfl)) (by decide) (by decide)) (g := (mkF m 15 #[.val (.int p0), .val (.int p1), .val (.int p2), .val (.int p3), .val (.int p4), .val (.int p5), .unset, .unset, .unset, .unset, .unset, .unset, .unset, .unset, .unset, .unset, .unset, .unset] [.null, .null, .null, .null, (.ref d), (.ref d)])) rfl (by rw [hml]; rfl) (Steps.refl _) (a := d) (argsL := [.null, .null, .null, .null]) (rest := [(.ref d)]) (lenOf pd_0 rfl) rfl (by show 2 * 0 + _ ≤ _; exact Nat.le_of_eq rfl) (hb hby at_15) (fun _ _ => ⟨rfl, e3, (by decide : 1 + 0 ≤ _), (by decide : 4 + 0 ≤ _)⟩)
    dsimp only [Pt.U, Pt.locs, Pt.cells, Pt.slots] at X5 l5 y5 z5 st5 hQ5
    subst l5 y5 z5
    obtain ⟨rfl, Nq5, K5, E_d_i, F_pkHash_d_i, F_hwId_d_i, F_swId_d_i, F_publicKey_d_i⟩ := hQ5
    have N5 := Fr.app N0 Nq5
    have E_d_5 := E_d.keep K5
    have Z_5 : n0 ≤ T5.heap.size := Nat.le_trans Z_3 K5.1
    have st6 : ∀ target, Steps p.tables e below (T5.setTop (mkF m 22 #[.val (.int p0), .val (.int p1), .val (.int p2), .val (.int p3), .val (.int p4), .val (.int p5), .val (.ref d), .unset, .unset, .unset, .unset, .unset, .unset, .unset, .unset, .unset, .unset, .unset] [(.ref d)])) target → Steps p.tables e below (T5.setTop (mkF m 18 #[.val (.int p0), .val (.int p1), .val (.int p2), .val (.int p3), .val (.int p4), .val (.int p5), .unset, .unset, .unset, .unset, .unset, .unset, .unset, .unset, .unset, .unset, .unset, .unset] [(.ref d)])) target := by
      intro target kt
      show Steps p.tables e below (T5.setTop (mkF m 18 #[.val (.int p0), .val (.int p1), .val (.int p2), .val (.int p3), .val (.int p4), .val (.int p5), .unset, .unset, .unset, .unset, .unset, .unset, .unset, .unset, .unset, .unset, .unset, .unset] [(.ref d)])) _
      refine XS.astore X5.here hx rfl (hb hby at_18) rfl rfl (l' := #[.val (.int p0), .val (.int p1), .val (.int p2), .val (.int p3), .val (.int p4), .val (.int p5), .val (.ref d), .unset, .unset, .unset, .unset, .unset, .unset, .unset, .unset, .unset, .unset, .unset]) rfl ?_
      show Steps p.tables e below (T5.setTop (mkF m 20 #[.val (.int p0), .val (.int p1), .val (.int p2), .val (.int p3), .val (.int p4), .val (.int p5), .val (.ref d), .unset, .unset, .unset, .unset, .unset, .unset, .unset, .unset, .unset, .unset, .unset] [])) _
      refine XS.aload X5.here hx rfl (hb hby at_20) rfl rfl ?_
      exact kt
    obtain ⟨cq7, kq7, qv7a, qv7b, qv7c⟩ := isOf hZ rfl E_d_i
    obtain ⟨_, _, ⟨T7, L7, k7, n7⟩, -, X7, ⟨Lc7, hQ7, l7, y7, z7⟩, st7⟩ := X5.virtualBack hx (y := (⟨"com/example/imprimatur/imprimatur/verify/DeviceValues", "pkHash", "()[B"⟩ : MethodName)) (z := (⟨"com/example/imprimatur/imprimatur/verify/DeviceValues", "pkHash", "()[B"⟩ : MethodName)) hown (mvT hZ (hw _ (List.mem_of_getElem? (i := 17) rfl))) (mvT hZ (hw _ (List.mem_of_getElem? (i := 18) rfl))) (notFace_of_selects (args := #[]) (mvT hZ (hw _ (List.mem_of_getElem? (i := 20) rfl)))) (mvT hZ (hw _ (List.mem_of_getElem? (i := 20) rfl))) (mvT hZ (hw _ (List.mem_of_getElem? (i := 19) rfl))) (by decide) (backOf (W := 0) (rmN_pkHash l Z a0 hw [] d  T5.heap n0 Z_5 F_pkHash_d_i) hZ (hw _ (List.mem_of_getElem? (i := 21) rfl)) (hw _ (List.mem_of_getElem? (i := 2) rfl)) (by decide) (by decide)) qv7a qv7c (g := (mkF m 22 #[.val (.int p0), .val (.int p1), .val (.int p2), .val (.int p3), .val (.int p4), .val (.int p5), .val (.ref d), .unset, .unset, .unset, .unset, .unset, .unset, .unset, .unset, .unset, .unset, .unset] [(.ref d)])) rfl (by rw [hml]; rfl) (Steps.refl _) (argsL := []) (rest := []) (lenOf pd_2 rfl) rfl (by show 2 * 0 + _ ≤ _; exact Nat.le_of_eq rfl) (hb hby at_22) (fun _ _ => ⟨rfl, rfl, (by decide : 1 + 0 ≤ _), (by decide : 4 + 0 ≤ _)⟩)
    dsimp only [Pt.U, Pt.locs, Pt.cells, Pt.slots] at X7 l7 y7 z7 st7 hQ7
    subst l7 y7 z7
    obtain ⟨rfl, Nq7, e7⟩ := hQ7
    have N7 := Fr.app N5 Nq7
    obtain ⟨fs, hr, hrun, hended, hW, hsame⟩ := X7.leave (v := some (.int (1 : Int32))) (fun h => by rw [Bd.returns] at h; cases h)
    refine ⟨_, _, pre0 _ (st1 _ (st2 _ (st3 _ (st4 _ (st5.trans (st6 _ (st7.trans ?_))))))), hrun, hended, _, _, rfl, ?_, ⟨_, rfl⟩, hW, hsame.mono (by decide) (by decide)⟩
    · show Steps p.tables e below (T7.setTop (mkF m 25 #[.val (.int p0), .val (.int p1), .val (.int p2), .val (.int p3), .val (.int p4), .val (.int p5), .val (.ref d), .unset, .unset, .unset, .unset, .unset, .unset, .unset, .unset, .unset, .unset, .unset] [.null])) _
      refine XS.ifnonnullNo X7.here hx rfl (hb hby at_25) rfl ?_
      show Steps p.tables e below (T7.setTop (mkF m 28 #[.val (.int p0), .val (.int p1), .val (.int p2), .val (.int p3), .val (.int p4), .val (.int p5), .val (.ref d), .unset, .unset, .unset, .unset, .unset, .unset, .unset, .unset, .unset, .unset, .unset] [])) _
      refine XS.iconst X7.here hx rfl (hb hby at_28) ?_
      show Steps p.tables e below (T7.setTop (mkF m 29 #[.val (.int p0), .val (.int p1), .val (.int p2), .val (.int p3), .val (.int p4), .val (.int p5), .val (.ref d), .unset, .unset, .unset, .unset, .unset, .unset, .unset, .unset, .unset, .unset, .unset] [(.int (1 : Int32))])) _
      refine XS.goto X7.here hx rfl (pc0 := 29) (pc' := 33) rfl (hb hby at_29) (by decide) (by decide) ?_
      show Steps p.tables e below (T7.setTop (mkF m 33 #[.val (.int p0), .val (.int p1), .val (.int p2), .val (.int p3), .val (.int p4), .val (.int p5), .val (.ref d), .unset, .unset, .unset, .unset, .unset, .unset, .unset, .unset, .unset, .unset, .unset] [(.int (1 : Int32))])) _
      exact retN X7 hx (t := .boolean) Bd.returns (by simp) (hb hby at_33) hr
    · show Q_rm0 Z p0 p1 p2 p3 p4 p5 h0 n0 _ T7.heap _
      rw [e7]
      exact ⟨rfl, N7⟩
  · have st8 : ∀ target, Steps p.tables e below (s₁.setTop (mkF m 34 #[.val (.int p0), .val (.int p1), .val (.int p2), .val (.int p3), .val (.int p4), .val (.int p5), .unset, .unset, .unset, .unset, .unset, .unset, .unset, .unset, .unset, .unset, .unset, .unset] [])) target → Steps p.tables e below (s₁.setTop (mkF m 4 #[.val (.int p0), .val (.int p1), .val (.int p2), .val (.int p3), .val (.int p4), .val (.int p5), .unset, .unset, .unset, .unset, .unset, .unset, .unset, .unset, .unset, .unset, .unset, .unset] [(.int (p0 &&& (7 : Int32)))])) target := by
      intro target kt
      show Steps p.tables e below (s₁.setTop (mkF m 4 #[.val (.int p0), .val (.int p1), .val (.int p2), .val (.int p3), .val (.int p4), .val (.int p5), .unset, .unset, .unset, .unset, .unset, .unset, .unset, .unset, .unset, .unset, .unset, .unset] [(.int (p0 &&& (7 : Int32)))])) _
      refine XS.ifYes X0.here hx rfl (pc0 := 4) (pc' := 34) rfl (hb hby at_4) rfl ((if0 _ _).trans (feq hc4).2) (by decide) (by decide) ?_
      exact kt
    obtain ⟨len, hlen, st9⟩ : ∃ (len : Int32), len = (if ((p0 >>> ((3 : Int32) &&& 31)) &&& (1 : Int32)) = (0 : Int32) then (32 : Int32) else (48 : Int32)) ∧ ∀ target, Steps p.tables e below (s₁.setTop (mkF m 49 #[.val (.int p0), .val (.int p1), .val (.int p2), .val (.int p3), .val (.int p4), .val (.int p5), .unset, .unset, .unset, .unset, .unset, .unset, .unset, .unset, .unset, .unset, .unset, .unset] [(.int len)])) target → Steps p.tables e below (s₁.setTop (mkF m 34 #[.val (.int p0), .val (.int p1), .val (.int p2), .val (.int p3), .val (.int p4), .val (.int p5), .unset, .unset, .unset, .unset, .unset, .unset, .unset, .unset, .unset, .unset, .unset, .unset] [])) target := by
      refine ⟨_, rfl, fun target kt => ?_⟩
      show Steps p.tables e below (s₁.setTop (mkF m 34 #[.val (.int p0), .val (.int p1), .val (.int p2), .val (.int p3), .val (.int p4), .val (.int p5), .unset, .unset, .unset, .unset, .unset, .unset, .unset, .unset, .unset, .unset, .unset, .unset] [])) _
      refine XS.iloadN X0.here hx rfl (hb hby at_34) rfl ?_
      show Steps p.tables e below (s₁.setTop (mkF m 35 #[.val (.int p0), .val (.int p1), .val (.int p2), .val (.int p3), .val (.int p4), .val (.int p5), .unset, .unset, .unset, .unset, .unset, .unset, .unset, .unset, .unset, .unset, .unset, .unset] [(.int p0)])) _
      refine XS.iconst X0.here hx rfl (hb hby at_35) ?_
      show Steps p.tables e below (s₁.setTop (mkF m 36 #[.val (.int p0), .val (.int p1), .val (.int p2), .val (.int p3), .val (.int p4), .val (.int p5), .unset, .unset, .unset, .unset, .unset, .unset, .unset, .unset, .unset, .unset, .unset, .unset] [(.int (3 : Int32)), (.int p0)])) _
      refine XS.ishr X0.here hx rfl (hb hby at_36) rfl ?_
      show Steps p.tables e below (s₁.setTop (mkF m 37 #[.val (.int p0), .val (.int p1), .val (.int p2), .val (.int p3), .val (.int p4), .val (.int p5), .unset, .unset, .unset, .unset, .unset, .unset, .unset, .unset, .unset, .unset, .unset, .unset] [(.int (p0 >>> ((3 : Int32) &&& 31)))])) _
      refine XS.iconst X0.here hx rfl (hb hby at_37) ?_
      show Steps p.tables e below (s₁.setTop (mkF m 38 #[.val (.int p0), .val (.int p1), .val (.int p2), .val (.int p3), .val (.int p4), .val (.int p5), .unset, .unset, .unset, .unset, .unset, .unset, .unset, .unset, .unset, .unset, .unset, .unset] [(.int (1 : Int32)), (.int (p0 >>> ((3 : Int32) &&& 31)))])) _
      refine XS.iand X0.here hx rfl (hb hby at_38) rfl ?_
      by_cases hc39 : ((p0 >>> ((3 : Int32) &&& 31)) &&& (1 : Int32)) = (0 : Int32)
      · rw [if_pos hc39] at kt
        show Steps p.tables e below (s₁.setTop (mkF m 39 #[.val (.int p0), .val (.int p1), .val (.int p2), .val (.int p3), .val (.int p4), .val (.int p5), .unset, .unset, .unset, .unset, .unset, .unset, .unset, .unset, .unset, .unset, .unset, .unset] [(.int ((p0 >>> ((3 : Int32) &&& 31)) &&& (1 : Int32)))])) _
        refine XS.ifNo X0.here hx rfl (hb hby at_39) rfl ((if0 _ _).trans (teq hc39).2) ?_
        show Steps p.tables e below (s₁.setTop (mkF m 42 #[.val (.int p0), .val (.int p1), .val (.int p2), .val (.int p3), .val (.int p4), .val (.int p5), .unset, .unset, .unset, .unset, .unset, .unset, .unset, .unset, .unset, .unset, .unset, .unset] [])) _
        refine XS.bipush X0.here hx rfl (hb hby at_42) ?_
        show Steps p.tables e below (s₁.setTop (mkF m 44 #[.val (.int p0), .val (.int p1), .val (.int p2), .val (.int p3), .val (.int p4), .val (.int p5), .unset, .unset, .unset, .unset, .unset, .unset, .unset, .unset, .unset, .unset, .unset, .unset] [(.int (32 : Int32))])) _
        refine XS.goto X0.here hx rfl (pc0 := 44) (pc' := 49) rfl (hb hby at_44) (by decide) (by decide) ?_
        exact kt
      · rw [if_neg hc39] at kt
        show Steps p.tables e below (s₁.setTop (mkF m 39 #[.val (.int p0), .val (.int p1), .val (.int p2), .val (.int p3), .val (.int p4), .val (.int p5), .unset, .unset, .unset, .unset, .unset, .unset, .unset, .unset, .unset, .unset, .unset, .unset] [(.int ((p0 >>> ((3 : Int32) &&& 31)) &&& (1 : Int32)))])) _
        refine XS.ifYes X0.here hx rfl (pc0 := 39) (pc' := 47) rfl (hb hby at_39) rfl ((if0 _ _).trans (feq hc39).2) (by decide) (by decide) ?_
        show Steps p.tables e below (s₁.setTop (mkF m 47 #[.val (.int p0), .val (.int p1), .val (.int p2), .val (.int p3), .val (.int p4), .val (.int p5), .unset, .unset, .unset, .unset, .unset, .unset, .unset, .unset, .unset, .unset, .unset, .unset] [])) _
        refine XS.bipush X0.here hx rfl (hb hby at_47) ?_
        exact kt
    have hlen' : len = 32 ∨ len = 48 := by rw [hlen]; split <;> simp
    have lz : ¬ len = 0 := by rcases hlen' with q | q <;> rw [q] <;> decide
    have ln : ¬ len < 0 := by rcases hlen' with q | q <;> rw [q] <;> decide
    have lc : len.toNatClampNeg ≤ 48 := by rcases hlen' with q | q <;> rw [q] <;> decide
    have st10 : ∀ target, Steps p.tables e below (s₁.setTop (mkF m 53 #[.val (.int p0), .val (.int p1), .val (.int p2), .val (.int p3), .val (.int p4), .val (.int p5), .val (.int len), .unset, .unset, .unset, .unset, .unset, .unset, .unset, .unset, .unset, .unset, .unset] [(.int len)])) target → Steps p.tables e below (s₁.setTop (mkF m 49 #[.val (.int p0), .val (.int p1), .val (.int p2), .val (.int p3), .val (.int p4), .val (.int p5), .unset, .unset, .unset, .unset, .unset, .unset, .unset, .unset, .unset, .unset, .unset, .unset] [(.int len)])) target := by
      intro target kt
      show Steps p.tables e below (s₁.setTop (mkF m 49 #[.val (.int p0), .val (.int p1), .val (.int p2), .val (.int p3), .val (.int p4), .val (.int p5), .unset, .unset, .unset, .unset, .unset, .unset, .unset, .unset, .unset, .unset, .unset, .unset] [(.int len)])) _
      refine XS.istore X0.here hx rfl (hb hby at_49) rfl (l' := #[.val (.int p0), .val (.int p1), .val (.int p2), .val (.int p3), .val (.int p4), .val (.int p5), .val (.int len), .unset, .unset, .unset, .unset, .unset, .unset, .unset, .unset, .unset, .unset, .unset]) rfl ?_
      show Steps p.tables e below (s₁.setTop (mkF m 51 #[.val (.int p0), .val (.int p1), .val (.int p2), .val (.int p3), .val (.int p4), .val (.int p5), .val (.int len), .unset, .unset, .unset, .unset, .unset, .unset, .unset, .unset, .unset, .unset, .unset] [])) _
      refine XS.iload X0.here hx rfl (hb hby at_51) rfl ?_
      exact kt
    obtain ⟨T11, h11, k11, X11, e11, E11, A11, Ex11, st11⟩ := newPE X0 hx hZ (hw _ (List.mem_of_getElem? (i := 22) rfl)) e0 (g := (mkF m 53 #[.val (.int p0), .val (.int p1), .val (.int p2), .val (.int p3), .val (.int p4), .val (.int p5), .val (.int len), .unset, .unset, .unset, .unset, .unset, .unset, .unset, .unset, .unset, .unset, .unset] [(.int len)])) rfl (hb hby at_53) rfl ln (cap := 48) lc (by decide) (by decide) (by decide) (ad := "[B") (by decide)
    obtain ⟨a, g11⟩ : ∃ z, z = h0.size := ⟨_, rfl⟩
    rw [← g11] at A11 Ex11 st11
    have g_a : n0 ≤ a := Nat.le_trans Z0 (Nat.le_of_eq g11.symm)
    have Z_11 : n0 ≤ h11.size := Nat.le_trans Z0 E11.1
    have Hh_a : Arh Z h11 a k11 .byte len [] [] (.int (0 : Int32)) := Arv.arh (Arv.new A11 ln)
    have st12 : ∀ target, Steps p.tables e below (T11.setTop (mkF m 94 #[.val (.int p0), .val (.int p1), .val (.int p2), .val (.int p3), .val (.int p4), .val (.int p5), .val (.int len), .val (.ref a), .val (.int ((p1 &&& (2147483647 : Int32)) % len)), .val (.int ((p3 &&& (2147483647 : Int32)) % len)), .val (.int ((p5 &&& (2147483647 : Int32)) % len)), .val (.int (p2.toInt8.toInt32)), .val (.int (p4.toInt8.toInt32)), .unset, .unset, .unset, .unset, .unset] [])) target → Steps p.tables e below (T11.setTop (mkF m 55 #[.val (.int p0), .val (.int p1), .val (.int p2), .val (.int p3), .val (.int p4), .val (.int p5), .val (.int len), .unset, .unset, .unset, .unset, .unset, .unset, .unset, .unset, .unset, .unset, .unset] [(.ref a)])) target := by
      intro target kt
      show Steps p.tables e below (T11.setTop (mkF m 55 #[.val (.int p0), .val (.int p1), .val (.int p2), .val (.int p3), .val (.int p4), .val (.int p5), .val (.int len), .unset, .unset, .unset, .unset, .unset, .unset, .unset, .unset, .unset, .unset, .unset] [(.ref a)])) _
      refine XS.astore X11.here hx rfl (hb hby at_55) rfl rfl (l' := #[.val (.int p0), .val (.int p1), .val (.int p2), .val (.int p3), .val (.int p4), .val (.int p5), .val (.int len), .val (.ref a), .unset, .unset, .unset, .unset, .unset, .unset, .unset, .unset, .unset, .unset]) rfl ?_
      show Steps p.tables e below (T11.setTop (mkF m 57 #[.val (.int p0), .val (.int p1), .val (.int p2), .val (.int p3), .val (.int p4), .val (.int p5), .val (.int len), .val (.ref a), .unset, .unset, .unset, .unset, .unset, .unset, .unset, .unset, .unset, .unset] [])) _
      refine XS.iloadN X11.here hx rfl (hb hby at_57) rfl ?_
      show Steps p.tables e below (T11.setTop (mkF m 58 #[.val (.int p0), .val (.int p1), .val (.int p2), .val (.int p3), .val (.int p4), .val (.int p5), .val (.int len), .val (.ref a), .unset, .unset, .unset, .unset, .unset, .unset, .unset, .unset, .unset, .unset] [(.int p1)])) _
      refine X11.ldcInt hx hown (mvT hZ (hw _ (List.mem_of_getElem? (i := 23) rfl))) (g := (mkF m 58 #[.val (.int p0), .val (.int p1), .val (.int p2), .val (.int p3), .val (.int p4), .val (.int p5), .val (.int len), .val (.ref a), .unset, .unset, .unset, .unset, .unset, .unset, .unset, .unset, .unset, .unset] [(.int p1)])) rfl (hb hby at_58) _ ?_
      show Steps p.tables e below (T11.setTop (mkF m 60 #[.val (.int p0), .val (.int p1), .val (.int p2), .val (.int p3), .val (.int p4), .val (.int p5), .val (.int len), .val (.ref a), .unset, .unset, .unset, .unset, .unset, .unset, .unset, .unset, .unset, .unset] [(.int (2147483647 : Int32)), (.int p1)])) _
      refine XS.iand X11.here hx rfl (hb hby at_60) rfl ?_
      show Steps p.tables e below (T11.setTop (mkF m 61 #[.val (.int p0), .val (.int p1), .val (.int p2), .val (.int p3), .val (.int p4), .val (.int p5), .val (.int len), .val (.ref a), .unset, .unset, .unset, .unset, .unset, .unset, .unset, .unset, .unset, .unset] [(.int (p1 &&& (2147483647 : Int32)))])) _
      refine XS.iload X11.here hx rfl (hb hby at_61) rfl ?_
      show Steps p.tables e below (T11.setTop (mkF m 63 #[.val (.int p0), .val (.int p1), .val (.int p2), .val (.int p3), .val (.int p4), .val (.int p5), .val (.int len), .val (.ref a), .unset, .unset, .unset, .unset, .unset, .unset, .unset, .unset, .unset, .unset] [(.int len), (.int (p1 &&& (2147483647 : Int32)))])) _
      refine iremM (g := (mkF m 63 #[.val (.int p0), .val (.int p1), .val (.int p2), .val (.int p3), .val (.int p4), .val (.int p5), .val (.int len), .val (.ref a), .unset, .unset, .unset, .unset, .unset, .unset, .unset, .unset, .unset, .unset] [(.int len), (.int (p1 &&& (2147483647 : Int32)))])) X11 hx rfl (hb hby at_63) rfl lz ?_
      show Steps p.tables e below (T11.setTop (mkF m 64 #[.val (.int p0), .val (.int p1), .val (.int p2), .val (.int p3), .val (.int p4), .val (.int p5), .val (.int len), .val (.ref a), .unset, .unset, .unset, .unset, .unset, .unset, .unset, .unset, .unset, .unset] [(.int ((p1 &&& (2147483647 : Int32)) % len))])) _
      refine XS.istore X11.here hx rfl (hb hby at_64) rfl (l' := #[.val (.int p0), .val (.int p1), .val (.int p2), .val (.int p3), .val (.int p4), .val (.int p5), .val (.int len), .val (.ref a), .val (.int ((p1 &&& (2147483647 : Int32)) % len)), .unset, .unset, .unset, .unset, .unset, .unset, .unset, .unset, .unset]) rfl ?_
      show Steps p.tables e below (T11.setTop (mkF m 66 #[.val (.int p0), .val (.int p1), .val (.int p2), .val (.int p3), .val (.int p4), .val (.int p5), .val (.int len), .val (.ref a), .val (.int ((p1 &&& (2147483647 : Int32)) % len)), .unset, .unset, .unset, .unset, .unset, .unset, .unset, .unset, .unset] [])) _
      refine XS.iloadN X11.here hx rfl (hb hby at_66) rfl ?_
      show Steps p.tables e below (T11.setTop (mkF m 67 #[.val (.int p0), .val (.int p1), .val (.int p2), .val (.int p3), .val (.int p4), .val (.int p5), .val (.int len), .val (.ref a), .val (.int ((p1 &&& (2147483647 : Int32)) % len)), .unset, .unset, .unset, .unset, .unset, .unset, .unset, .unset, .unset] [(.int p3)])) _
      refine X11.ldcInt hx hown (mvT hZ (hw _ (List.mem_of_getElem? (i := 23) rfl))) (g := (mkF m 67 #[.val (.int p0), .val (.int p1), .val (.int p2), .val (.int p3), .val (.int p4), .val (.int p5), .val (.int len), .val (.ref a), .val (.int ((p1 &&& (2147483647 : Int32)) % len)), .unset, .unset, .unset, .unset, .unset, .unset, .unset, .unset, .unset] [(.int p3)])) rfl (hb hby at_67) _ ?_
      show Steps p.tables e below (T11.setTop (mkF m 69 #[.val (.int p0), .val (.int p1), .val (.int p2), .val (.int p3), .val (.int p4), .val (.int p5), .val (.int len), .val (.ref a), .val (.int ((p1 &&& (2147483647 : Int32)) % len)), .unset, .unset, .unset, .unset, .unset, .unset, .unset, .unset, .unset] [(.int (2147483647 : Int32)), (.int p3)])) _
      refine XS.iand X11.here hx rfl (hb hby at_69) rfl ?_
      show Steps p.tables e below (T11.setTop (mkF m 70 #[.val (.int p0), .val (.int p1), .val (.int p2), .val (.int p3), .val (.int p4), .val (.int p5), .val (.int len), .val (.ref a), .val (.int ((p1 &&& (2147483647 : Int32)) % len)), .unset, .unset, .unset, .unset, .unset, .unset, .unset, .unset, .unset] [(.int (p3 &&& (2147483647 : Int32)))])) _
      refine XS.iload X11.here hx rfl (hb hby at_70) rfl ?_
      show Steps p.tables e below (T11.setTop (mkF m 72 #[.val (.int p0), .val (.int p1), .val (.int p2), .val (.int p3), .val (.int p4), .val (.int p5), .val (.int len), .val (.ref a), .val (.int ((p1 &&& (2147483647 : Int32)) % len)), .unset, .unset, .unset, .unset, .unset, .unset, .unset, .unset, .unset] [(.int len), (.int (p3 &&& (2147483647 : Int32)))])) _
      refine iremM (g := (mkF m 72 #[.val (.int p0), .val (.int p1), .val (.int p2), .val (.int p3), .val (.int p4), .val (.int p5), .val (.int len), .val (.ref a), .val (.int ((p1 &&& (2147483647 : Int32)) % len)), .unset, .unset, .unset, .unset, .unset, .unset, .unset, .unset, .unset] [(.int len), (.int (p3 &&& (2147483647 : Int32)))])) X11 hx rfl (hb hby at_72) rfl lz ?_
      show Steps p.tables e below (T11.setTop (mkF m 73 #[.val (.int p0), .val (.int p1), .val (.int p2), .val (.int p3), .val (.int p4), .val (.int p5), .val (.int len), .val (.ref a), .val (.int ((p1 &&& (2147483647 : Int32)) % len)), .unset, .unset, .unset, .unset, .unset, .unset, .unset, .unset, .unset] [(.int ((p3 &&& (2147483647 : Int32)) % len))])) _
      refine XS.istore X11.here hx rfl (hb hby at_73) rfl (l' := #[.val (.int p0), .val (.int p1), .val (.int p2), .val (.int p3), .val (.int p4), .val (.int p5), .val (.int len), .val (.ref a), .val (.int ((p1 &&& (2147483647 : Int32)) % len)), .val (.int ((p3 &&& (2147483647 : Int32)) % len)), .unset, .unset, .unset, .unset, .unset, .unset, .unset, .unset]) rfl ?_
      show Steps p.tables e below (T11.setTop (mkF m 75 #[.val (.int p0), .val (.int p1), .val (.int p2), .val (.int p3), .val (.int p4), .val (.int p5), .val (.int len), .val (.ref a), .val (.int ((p1 &&& (2147483647 : Int32)) % len)), .val (.int ((p3 &&& (2147483647 : Int32)) % len)), .unset, .unset, .unset, .unset, .unset, .unset, .unset, .unset] [])) _
      refine XS.iload X11.here hx rfl (hb hby at_75) rfl ?_
      show Steps p.tables e below (T11.setTop (mkF m 77 #[.val (.int p0), .val (.int p1), .val (.int p2), .val (.int p3), .val (.int p4), .val (.int p5), .val (.int len), .val (.ref a), .val (.int ((p1 &&& (2147483647 : Int32)) % len)), .val (.int ((p3 &&& (2147483647 : Int32)) % len)), .unset, .unset, .unset, .unset, .unset, .unset, .unset, .unset] [(.int p5)])) _
      refine X11.ldcInt hx hown (mvT hZ (hw _ (List.mem_of_getElem? (i := 23) rfl))) (g := (mkF m 77 #[.val (.int p0), .val (.int p1), .val (.int p2), .val (.int p3), .val (.int p4), .val (.int p5), .val (.int len), .val (.ref a), .val (.int ((p1 &&& (2147483647 : Int32)) % len)), .val (.int ((p3 &&& (2147483647 : Int32)) % len)), .unset, .unset, .unset, .unset, .unset, .unset, .unset, .unset] [(.int p5)])) rfl (hb hby at_77) _ ?_
      show Steps p.tables e below (T11.setTop (mkF m 79 #[.val (.int p0), .val (.int p1), .val (.int p2), .val (.int p3), .val (.int p4), .val (.int p5), .val (.int len), .val (.ref a), .val (.int ((p1 &&& (2147483647 : Int32)) % len)), .val (.int ((p3 &&& (2147483647 : Int32)) % len)), .unset, .unset, .unset, .unset, .unset, .unset, .unset, .unset] [(.int (2147483647 : Int32)), (.int p5)])) _
      refine XS.iand X11.here hx rfl (hb hby at_79) rfl ?_
      show Steps p.tables e below (T11.setTop (mkF m 80 #[.val (.int p0), .val (.int p1), .val (.int p2), .val (.int p3), .val (.int p4), .val (.int p5), .val (.int len), .val (.ref a), .val (.int ((p1 &&& (2147483647 : Int32)) % len)), .val (.int ((p3 &&& (2147483647 : Int32)) % len)), .unset, .unset, .unset, .unset, .unset, .unset, .unset, .unset] [(.int (p5 &&& (2147483647 : Int32)))])) _
      refine XS.iload X11.here hx rfl (hb hby at_80) rfl ?_
      show Steps p.tables e below (T11.setTop (mkF m 82 #[.val (.int p0), .val (.int p1), .val (.int p2), .val (.int p3), .val (.int p4), .val (.int p5), .val (.int len), .val (.ref a), .val (.int ((p1 &&& (2147483647 : Int32)) % len)), .val (.int ((p3 &&& (2147483647 : Int32)) % len)), .unset, .unset, .unset, .unset, .unset, .unset, .unset, .unset] [(.int len), (.int (p5 &&& (2147483647 : Int32)))])) _
      refine iremM (g := (mkF m 82 #[.val (.int p0), .val (.int p1), .val (.int p2), .val (.int p3), .val (.int p4), .val (.int p5), .val (.int len), .val (.ref a), .val (.int ((p1 &&& (2147483647 : Int32)) % len)), .val (.int ((p3 &&& (2147483647 : Int32)) % len)), .unset, .unset, .unset, .unset, .unset, .unset, .unset, .unset] [(.int len), (.int (p5 &&& (2147483647 : Int32)))])) X11 hx rfl (hb hby at_82) rfl lz ?_
      show Steps p.tables e below (T11.setTop (mkF m 83 #[.val (.int p0), .val (.int p1), .val (.int p2), .val (.int p3), .val (.int p4), .val (.int p5), .val (.int len), .val (.ref a), .val (.int ((p1 &&& (2147483647 : Int32)) % len)), .val (.int ((p3 &&& (2147483647 : Int32)) % len)), .unset, .unset, .unset, .unset, .unset, .unset, .unset, .unset] [(.int ((p5 &&& (2147483647 : Int32)) % len))])) _
      refine XS.istore X11.here hx rfl (hb hby at_83) rfl (l' := #[.val (.int p0), .val (.int p1), .val (.int p2), .val (.int p3), .val (.int p4), .val (.int p5), .val (.int len), .val (.ref a), .val (.int ((p1 &&& (2147483647 : Int32)) % len)), .val (.int ((p3 &&& (2147483647 : Int32)) % len)), .val (.int ((p5 &&& (2147483647 : Int32)) % len)), .unset, .unset, .unset, .unset, .unset, .unset, .unset]) rfl ?_
      show Steps p.tables e below (T11.setTop (mkF m 85 #[.val (.int p0), .val (.int p1), .val (.int p2), .val (.int p3), .val (.int p4), .val (.int p5), .val (.int len), .val (.ref a), .val (.int ((p1 &&& (2147483647 : Int32)) % len)), .val (.int ((p3 &&& (2147483647 : Int32)) % len)), .val (.int ((p5 &&& (2147483647 : Int32)) % len)), .unset, .unset, .unset, .unset, .unset, .unset, .unset] [])) _
      refine XS.iloadN X11.here hx rfl (hb hby at_85) rfl ?_
      show Steps p.tables e below (T11.setTop (mkF m 86 #[.val (.int p0), .val (.int p1), .val (.int p2), .val (.int p3), .val (.int p4), .val (.int p5), .val (.int len), .val (.ref a), .val (.int ((p1 &&& (2147483647 : Int32)) % len)), .val (.int ((p3 &&& (2147483647 : Int32)) % len)), .val (.int ((p5 &&& (2147483647 : Int32)) % len)), .unset, .unset, .unset, .unset, .unset, .unset, .unset] [(.int p2)])) _
      refine XS.i2b X11.here hx rfl (hb hby at_86) rfl ?_
      show Steps p.tables e below (T11.setTop (mkF m 87 #[.val (.int p0), .val (.int p1), .val (.int p2), .val (.int p3), .val (.int p4), .val (.int p5), .val (.int len), .val (.ref a), .val (.int ((p1 &&& (2147483647 : Int32)) % len)), .val (.int ((p3 &&& (2147483647 : Int32)) % len)), .val (.int ((p5 &&& (2147483647 : Int32)) % len)), .unset, .unset, .unset, .unset, .unset, .unset, .unset] [(.int (p2.toInt8.toInt32))])) _
      refine XS.istore X11.here hx rfl (hb hby at_87) rfl (l' := #[.val (.int p0), .val (.int p1), .val (.int p2), .val (.int p3), .val (.int p4), .val (.int p5), .val (.int len), .val (.ref a), .val (.int ((p1 &&& (2147483647 : Int32)) % len)), .val (.int ((p3 &&& (2147483647 : Int32)) % len)), .val (.int ((p5 &&& (2147483647 : Int32)) % len)), .val (.int (p2.toInt8.toInt32)), .unset, .unset, .unset, .unset, .unset, .unset]) rfl ?_
      show Steps p.tables e below (T11.setTop (mkF m 89 #[.val (.int p0), .val (.int p1), .val (.int p2), .val (.int p3), .val (.int p4), .val (.int p5), .val (.int len), .val (.ref a), .val (.int ((p1 &&& (2147483647 : Int32)) % len)), .val (.int ((p3 &&& (2147483647 : Int32)) % len)), .val (.int ((p5 &&& (2147483647 : Int32)) % len)), .val (.int (p2.toInt8.toInt32)), .unset, .unset, .unset, .unset, .unset, .unset] [])) _
      refine XS.iload X11.here hx rfl (hb hby at_89) rfl ?_
      show Steps p.tables e below (T11.setTop (mkF m 91 #[.val (.int p0), .val (.int p1), .val (.int p2), .val (.int p3), .val (.int p4), .val (.int p5), .val (.int len), .val (.ref a), .val (.int ((p1 &&& (2147483647 : Int32)) % len)), .val (.int ((p3 &&& (2147483647 : Int32)) % len)), .val (.int ((p5 &&& (2147483647 : Int32)) % len)), .val (.int (p2.toInt8.toInt32)), .unset, .unset, .unset, .unset, .unset, .unset] [(.int p4)])) _
      refine XS.i2b X11.here hx rfl (hb hby at_91) rfl ?_
      show Steps p.tables e below (T11.setTop (mkF m 92 #[.val (.int p0), .val (.int p1), .val (.int p2), .val (.int p3), .val (.int p4), .val (.int p5), .val (.int len), .val (.ref a), .val (.int ((p1 &&& (2147483647 : Int32)) % len)), .val (.int ((p3 &&& (2147483647 : Int32)) % len)), .val (.int ((p5 &&& (2147483647 : Int32)) % len)), .val (.int (p2.toInt8.toInt32)), .unset, .unset, .unset, .unset, .unset, .unset] [(.int (p4.toInt8.toInt32))])) _
      refine XS.istore X11.here hx rfl (hb hby at_92) rfl (l' := #[.val (.int p0), .val (.int p1), .val (.int p2), .val (.int p3), .val (.int p4), .val (.int p5), .val (.int len), .val (.ref a), .val (.int ((p1 &&& (2147483647 : Int32)) % len)), .val (.int ((p3 &&& (2147483647 : Int32)) % len)), .val (.int ((p5 &&& (2147483647 : Int32)) % len)), .val (.int (p2.toInt8.toInt32)), .val (.int (p4.toInt8.toInt32)), .unset, .unset, .unset, .unset, .unset]) rfl ?_
      exact kt
    obtain ⟨i1, hi1⟩ : ∃ z : Int32, z = ((p1 &&& (2147483647 : Int32)) % len) := ⟨_, rfl⟩
    rw [← hi1] at st12
    obtain ⟨i2, hi2⟩ : ∃ z : Int32, z = ((p3 &&& (2147483647 : Int32)) % len) := ⟨_, rfl⟩
    rw [← hi2] at st12
    obtain ⟨iq, hiq⟩ : ∃ z : Int32, z = ((p5 &&& (2147483647 : Int32)) % len) := ⟨_, rfl⟩
    rw [← hiq] at st12
    obtain ⟨b1, hb1⟩ : ∃ z : Int32, z = (p2.toInt8.toInt32) := ⟨_, rfl⟩
    rw [← hb1] at st12
    obtain ⟨b2, hb2⟩ : ∃ z : Int32, z = (p4.toInt8.toInt32) := ⟨_, rfl⟩
    rw [← hb2] at st12
    have R_i1 : 0 ≤ i1.toInt ∧ i1.toInt < len.toInt := hi1 ▸ own_rem p1 len hlen'
    have R_i2 : 0 ≤ i2.toInt ∧ i2.toInt < len.toInt := hi2 ▸ own_rem p3 len hlen'
    have R_iq : 0 ≤ iq.toInt ∧ iq.toInt < len.toInt := hiq ▸ own_rem p5 len hlen'
    have st13 : ∀ target, Steps p.tables e below (T11.setTop (mkF m 100 #[.val (.int p0), .val (.int p1), .val (.int p2), .val (.int p3), .val (.int p4), .val (.int p5), .val (.int len), .val (.ref a), .val (.int i1), .val (.int i2), .val (.int iq), .val (.int b1), .val (.int b2), .unset, .unset, .unset, .unset, .unset] [(.int b1), (.int i1), (.ref a)])) target → Steps p.tables e below (T11.setTop (mkF m 94 #[.val (.int p0), .val (.int p1), .val (.int p2), .val (.int p3), .val (.int p4), .val (.int p5), .val (.int len), .val (.ref a), .val (.int i1), .val (.int i2), .val (.int iq), .val (.int b1), .val (.int b2), .unset, .unset, .unset, .unset, .unset] [])) target := by
      intro target kt
      show Steps p.tables e below (T11.setTop (mkF m 94 #[.val (.int p0), .val (.int p1), .val (.int p2), .val (.int p3), .val (.int p4), .val (.int p5), .val (.int len), .val (.ref a), .val (.int i1), .val (.int i2), .val (.int iq), .val (.int b1), .val (.int b2), .unset, .unset, .unset, .unset, .unset] [])) _
      refine XS.aload X11.here hx rfl (hb hby at_94) rfl rfl ?_
      show Steps p.tables e below (T11.setTop (mkF m 96 #[.val (.int p0), .val (.int p1), .val (.int p2), .val (.int p3), .val (.int p4), .val (.int p5), .val (.int len), .val (.ref a), .val (.int i1), .val (.int i2), .val (.int iq), .val (.int b1), .val (.int b2), .unset, .unset, .unset, .unset, .unset] [(.ref a)])) _
      refine XS.iload X11.here hx rfl (hb hby at_96) rfl ?_
      show Steps p.tables e below (T11.setTop (mkF m 98 #[.val (.int p0), .val (.int p1), .val (.int p2), .val (.int p3), .val (.int p4), .val (.int p5), .val (.int len), .val (.ref a), .val (.int i1), .val (.int i2), .val (.int iq), .val (.int b1), .val (.int b2), .unset, .unset, .unset, .unset, .unset] [(.int i1), (.ref a)])) _
      refine XS.iload X11.here hx rfl (hb hby at_98) rfl ?_
      exact kt
    obtain ⟨cl14, Ar14, qc14, Sz14, Mn14, Hs14, Gs14⟩ := id Hh_a
    have hin14 : ¬ (i1 < 0 ∨ cl14.slots.size ≤ (i1).toNatClampNeg) := own_in Sz14 R_i1
    obtain ⟨T14, h14, X14, e14, W14, st14⟩ := stB X11 hx hZ e11 Ar14 (j := i1) hin14 (g := (mkF m 100 #[.val (.int p0), .val (.int p1), .val (.int p2), .val (.int p3), .val (.int p4), .val (.int p5), .val (.int len), .val (.ref a), .val (.int i1), .val (.int i2), .val (.int iq), .val (.int b1), .val (.int b2), .unset, .unset, .unset, .unset, .unset] [(.int b1), (.int i1), (.ref a)])) rfl rfl (hb hby at_100)
    have Hh_a_14 : Arh Z h14 a k11 .byte len [(i1, (.int (nar .byte b1)))] [] (.int (0 : Int32)) := Arh.push Ar14 qc14 Sz14 Mn14 Hs14 Gs14 (fits_nar_byte _) W14 hin14
    have Ex11_14 := Ex11.wr W14
    have Z_14 : n0 ≤ h14.size := Nat.le_trans Z_11 (Keep.of_wr W14).1
    have N14 := Fr.snoc X14 N0 g_a
    have st15 : ∀ target, Steps p.tables e below (T14.setTop (mkF m 107 #[.val (.int p0), .val (.int p1), .val (.int p2), .val (.int p3), .val (.int p4), .val (.int p5), .val (.int len), .val (.ref a), .val (.int i1), .val (.int i2), .val (.int iq), .val (.int b1), .val (.int b2), .unset, .unset, .unset, .unset, .unset] [(.int b2), (.int i2), (.ref a)])) target → Steps p.tables e below (T14.setTop (mkF m 101 #[.val (.int p0), .val (.int p1), .val (.int p2), .val (.int p3), .val (.int p4), .val (.int p5), .val (.int len), .val (.ref a), .val (.int i1), .val (.int i2), .val (.int iq), .val (.int b1), .val (.int b2), .unset, .unset, .unset, .unset, .unset] [])) target := by
      intro target kt
      show Steps p.tables e below (T14.setTop (mkF m 101 #[.val (.int p0), .val (.int p1), .val (.int p2), .val (.int p3), .val (.int p4), .val (.int p5), .val (.int len), .val (.ref a), .val (.int i1), .val (.int i2), .val (.int iq), .val (.int b1), .val (.int b2), .unset, .unset, .unset, .unset, .unset] [])) _
      refine XS.aload X14.here hx rfl (hb hby at_101) rfl rfl ?_
      show Steps p.tables e below (T14.setTop (mkF m 103 #[.val (.int p0), .val (.int p1), .val (.int p2), .val (.int p3), .val (.int p4), .val (.int p5), .val (.int len), .val (.ref a), .val (.int i1), .val (.int i2), .val (.int iq), .val (.int b1), .val (.int b2), .unset, .unset, .unset, .unset, .unset] [(.ref a)])) _
      refine XS.iload X14.here hx rfl (hb hby at_103) rfl ?_
      show Steps p.tables e below (T14.setTop (mkF m 105 #[.val (.int p0), .val (.int p1), .val (.int p2), .val (.int p3), .val (.int p4), .val (.int p5), .val (.int len), .val (.ref a), .val (.int i1), .val (.int i2), .val (.int iq), .val (.int b1), .val (.int b2), .unset, .unset, .unset, .unset, .unset] [(.int i2), (.ref a)])) _
      refine XS.iload X14.here hx rfl (hb hby at_105) rfl ?_
      exact kt
    obtain ⟨cl16, Ar16, qc16, Sz16, Mn16, Hs16, Gs16⟩ := id Hh_a_14
    have hin16 : ¬ (i2 < 0 ∨ cl16.slots.size ≤ (i2).toNatClampNeg) := own_in Sz16 R_i2
    obtain ⟨T16, h16, X16, e16, W16, st16⟩ := stB X14 hx hZ e14 Ar16 (j := i2) hin16 (g := (mkF m 107 #[.val (.int p0), .val (.int p1), .val (.int p2), .val (.int p3), .val (.int p4), .val (.int p5), .val (.int len), .val (.ref a), .val (.int i1), .val (.int i2), .val (.int iq), .val (.int b1), .val (.int b2), .unset, .unset, .unset, .unset, .unset] [(.int b2), (.int i2), (.ref a)])) rfl rfl (hb hby at_107)
    have Hh_a_16 : Arh Z h16 a k11 .byte len [(i2, (.int (nar .byte b2))), (i1, (.int (nar .byte b1)))] [] (.int (0 : Int32)) := Arh.push Ar16 qc16 Sz16 Mn16 Hs16 Gs16 (fits_nar_byte _) W16 hin16
    have Ex11_16 := Ex11_14.wr W16
    have Z_16 : n0 ≤ h16.size := Nat.le_trans Z_14 (Keep.of_wr W16).1
    have N16 := Fr.snoc X16 N14 g_a
    have nb1 : nar .byte b1 = b1 := by rw [hb1]; exact own_nar _
    have nb2 : nar .byte b2 = b2 := by rw [hb2]; exact own_nar _
    have Ha2 : Arh Z h16 a k11 .byte len [(i2, (.int b2)), (i1, (.int b1))] [] (.int (0 : Int32)) := by have q := Hh_a_16; rw [nb1, nb2] at q; exact q
    obtain ⟨ex, hex, st17⟩ : ∃ (ex : Int32), ex = (if iq = i2 then b2 else (if iq = i1 then b1 else (0 : Int32))) ∧ ∀ target, Steps p.tables e below (T16.setTop (mkF m 133 #[.val (.int p0), .val (.int p1), .val (.int p2), .val (.int p3), .val (.int p4), .val (.int p5), .val (.int len), .val (.ref a), .val (.int i1), .val (.int i2), .val (.int iq), .val (.int b1), .val (.int b2), .unset, .unset, .unset, .unset, .unset] [(.int ex)])) target → Steps p.tables e below (T16.setTop (mkF m 108 #[.val (.int p0), .val (.int p1), .val (.int p2), .val (.int p3), .val (.int p4), .val (.int p5), .val (.int len), .val (.ref a), .val (.int i1), .val (.int i2), .val (.int iq), .val (.int b1), .val (.int b2), .unset, .unset, .unset, .unset, .unset] [])) target := by
      refine ⟨_, rfl, fun target kt => ?_⟩
      show Steps p.tables e below (T16.setTop (mkF m 108 #[.val (.int p0), .val (.int p1), .val (.int p2), .val (.int p3), .val (.int p4), .val (.int p5), .val (.int len), .val (.ref a), .val (.int i1), .val (.int i2), .val (.int iq), .val (.int b1), .val (.int b2), .unset, .unset, .unset, .unset, .unset] [])) _
      refine XS.iload X16.here hx rfl (hb hby at_108) rfl ?_
      show Steps p.tables e below (T16.setTop (mkF m 110 #[.val (.int p0), .val (.int p1), .val (.int p2), .val (.int p3), .val (.int p4), .val (.int p5), .val (.int len), .val (.ref a), .val (.int i1), .val (.int i2), .val (.int iq), .val (.int b1), .val (.int b2), .unset, .unset, .unset, .unset, .unset] [(.int iq)])) _
      refine XS.iload X16.here hx rfl (hb hby at_110) rfl ?_
      by_cases hc112 : iq = i2
      · rw [if_pos hc112] at kt
        show Steps p.tables e below (T16.setTop (mkF m 112 #[.val (.int p0), .val (.int p1), .val (.int p2), .val (.int p3), .val (.int p4), .val (.int p5), .val (.int len), .val (.ref a), .val (.int i1), .val (.int i2), .val (.int iq), .val (.int b1), .val (.int b2), .unset, .unset, .unset, .unset, .unset] [(.int i2), (.int iq)])) _
        refine XS.icmpNo X16.here hx rfl (hb hby at_112) rfl (teq hc112).2 ?_
        show Steps p.tables e below (T16.setTop (mkF m 115 #[.val (.int p0), .val (.int p1), .val (.int p2), .val (.int p3), .val (.int p4), .val (.int p5), .val (.int len), .val (.ref a), .val (.int i1), .val (.int i2), .val (.int iq), .val (.int b1), .val (.int b2), .unset, .unset, .unset, .unset, .unset] [])) _
        refine XS.iload X16.here hx rfl (hb hby at_115) rfl ?_
        show Steps p.tables e below (T16.setTop (mkF m 117 #[.val (.int p0), .val (.int p1), .val (.int p2), .val (.int p3), .val (.int p4), .val (.int p5), .val (.int len), .val (.ref a), .val (.int i1), .val (.int i2), .val (.int iq), .val (.int b1), .val (.int b2), .unset, .unset, .unset, .unset, .unset] [(.int b2)])) _
        refine XS.goto X16.here hx rfl (pc0 := 117) (pc' := 133) rfl (hb hby at_117) (by decide) (by decide) ?_
        exact kt
      · rw [if_neg hc112] at kt
        show Steps p.tables e below (T16.setTop (mkF m 112 #[.val (.int p0), .val (.int p1), .val (.int p2), .val (.int p3), .val (.int p4), .val (.int p5), .val (.int len), .val (.ref a), .val (.int i1), .val (.int i2), .val (.int iq), .val (.int b1), .val (.int b2), .unset, .unset, .unset, .unset, .unset] [(.int i2), (.int iq)])) _
        refine XS.icmpYes X16.here hx rfl (pc0 := 112) (pc' := 120) rfl (hb hby at_112) rfl (feq hc112).2 (by decide) (by decide) ?_
        show Steps p.tables e below (T16.setTop (mkF m 120 #[.val (.int p0), .val (.int p1), .val (.int p2), .val (.int p3), .val (.int p4), .val (.int p5), .val (.int len), .val (.ref a), .val (.int i1), .val (.int i2), .val (.int iq), .val (.int b1), .val (.int b2), .unset, .unset, .unset, .unset, .unset] [])) _
        refine XS.iload X16.here hx rfl (hb hby at_120) rfl ?_
        show Steps p.tables e below (T16.setTop (mkF m 122 #[.val (.int p0), .val (.int p1), .val (.int p2), .val (.int p3), .val (.int p4), .val (.int p5), .val (.int len), .val (.ref a), .val (.int i1), .val (.int i2), .val (.int iq), .val (.int b1), .val (.int b2), .unset, .unset, .unset, .unset, .unset] [(.int iq)])) _
        refine XS.iload X16.here hx rfl (hb hby at_122) rfl ?_
        by_cases hc124 : iq = i1
        · rw [if_pos hc124] at kt
          show Steps p.tables e below (T16.setTop (mkF m 124 #[.val (.int p0), .val (.int p1), .val (.int p2), .val (.int p3), .val (.int p4), .val (.int p5), .val (.int len), .val (.ref a), .val (.int i1), .val (.int i2), .val (.int iq), .val (.int b1), .val (.int b2), .unset, .unset, .unset, .unset, .unset] [(.int i1), (.int iq)])) _
          refine XS.icmpNo X16.here hx rfl (hb hby at_124) rfl (teq hc124).2 ?_
          show Steps p.tables e below (T16.setTop (mkF m 127 #[.val (.int p0), .val (.int p1), .val (.int p2), .val (.int p3), .val (.int p4), .val (.int p5), .val (.int len), .val (.ref a), .val (.int i1), .val (.int i2), .val (.int iq), .val (.int b1), .val (.int b2), .unset, .unset, .unset, .unset, .unset] [])) _
          refine XS.iload X16.here hx rfl (hb hby at_127) rfl ?_
          show Steps p.tables e below (T16.setTop (mkF m 129 #[.val (.int p0), .val (.int p1), .val (.int p2), .val (.int p3), .val (.int p4), .val (.int p5), .val (.int len), .val (.ref a), .val (.int i1), .val (.int i2), .val (.int iq), .val (.int b1), .val (.int b2), .unset, .unset, .unset, .unset, .unset] [(.int b1)])) _
          refine XS.goto X16.here hx rfl (pc0 := 129) (pc' := 133) rfl (hb hby at_129) (by decide) (by decide) ?_
          exact kt
        · rw [if_neg hc124] at kt
          show Steps p.tables e below (T16.setTop (mkF m 124 #[.val (.int p0), .val (.int p1), .val (.int p2), .val (.int p3), .val (.int p4), .val (.int p5), .val (.int len), .val (.ref a), .val (.int i1), .val (.int i2), .val (.int iq), .val (.int b1), .val (.int b2), .unset, .unset, .unset, .unset, .unset] [(.int i1), (.int iq)])) _
          refine XS.icmpYes X16.here hx rfl (pc0 := 124) (pc' := 132) rfl (hb hby at_124) rfl (feq hc124).2 (by decide) (by decide) ?_
          show Steps p.tables e below (T16.setTop (mkF m 132 #[.val (.int p0), .val (.int p1), .val (.int p2), .val (.int p3), .val (.int p4), .val (.int p5), .val (.int len), .val (.ref a), .val (.int i1), .val (.int i2), .val (.int iq), .val (.int b1), .val (.int b2), .unset, .unset, .unset, .unset, .unset] [])) _
          refine XS.iconst X16.here hx rfl (hb hby at_132) ?_
          exact kt
    have st18 : ∀ target, Steps p.tables e below (T16.setTop (mkF m 135 #[.val (.int p0), .val (.int p1), .val (.int p2), .val (.int p3), .val (.int p4), .val (.int p5), .val (.int len), .val (.ref a), .val (.int i1), .val (.int i2), .val (.int iq), .val (.int b1), .val (.int b2), .val (.int ex), .unset, .unset, .unset, .unset] [])) target → Steps p.tables e below (T16.setTop (mkF m 133 #[.val (.int p0), .val (.int p1), .val (.int p2), .val (.int p3), .val (.int p4), .val (.int p5), .val (.int len), .val (.ref a), .val (.int i1), .val (.int i2), .val (.int iq), .val (.int b1), .val (.int b2), .unset, .unset, .unset, .unset, .unset] [(.int ex)])) target := by
      intro target kt
      show Steps p.tables e below (T16.setTop (mkF m 133 #[.val (.int p0), .val (.int p1), .val (.int p2), .val (.int p3), .val (.int p4), .val (.int p5), .val (.int len), .val (.ref a), .val (.int i1), .val (.int i2), .val (.int iq), .val (.int b1), .val (.int b2), .unset, .unset, .unset, .unset, .unset] [(.int ex)])) _
      refine XS.istore X16.here hx rfl (hb hby at_133) rfl (l' := #[.val (.int p0), .val (.int p1), .val (.int p2), .val (.int p3), .val (.int p4), .val (.int p5), .val (.int len), .val (.ref a), .val (.int i1), .val (.int i2), .val (.int iq), .val (.int b1), .val (.int b2), .val (.int ex), .unset, .unset, .unset, .unset]) rfl ?_
      exact kt
    obtain ⟨ex1, hex1, st19⟩ : ∃ (ex1 : Int32), ex1 = (if i1 = i2 then b2 else b1) ∧ ∀ target, Steps p.tables e below (T16.setTop (mkF m 149 #[.val (.int p0), .val (.int p1), .val (.int p2), .val (.int p3), .val (.int p4), .val (.int p5), .val (.int len), .val (.ref a), .val (.int i1), .val (.int i2), .val (.int iq), .val (.int b1), .val (.int b2), .val (.int ex), .unset, .unset, .unset, .unset] [(.int ex1)])) target → Steps p.tables e below (T16.setTop (mkF m 135 #[.val (.int p0), .val (.int p1), .val (.int p2), .val (.int p3), .val (.int p4), .val (.int p5), .val (.int len), .val (.ref a), .val (.int i1), .val (.int i2), .val (.int iq), .val (.int b1), .val (.int b2), .val (.int ex), .unset, .unset, .unset, .unset] [])) target := by
      refine ⟨_, rfl, fun target kt => ?_⟩
      show Steps p.tables e below (T16.setTop (mkF m 135 #[.val (.int p0), .val (.int p1), .val (.int p2), .val (.int p3), .val (.int p4), .val (.int p5), .val (.int len), .val (.ref a), .val (.int i1), .val (.int i2), .val (.int iq), .val (.int b1), .val (.int b2), .val (.int ex), .unset, .unset, .unset, .unset] [])) _
      refine XS.iload X16.here hx rfl (hb hby at_135) rfl ?_
      show Steps p.tables e below (T16.setTop (mkF m 137 #[.val (.int p0), .val (.int p1), .val (.int p2), .val (.int p3), .val (.int p4), .val (.int p5), .val (.int len), .val (.ref a), .val (.int i1), .val (.int i2), .val (.int iq), .val (.int b1), .val (.int b2), .val (.int ex), .unset, .unset, .unset, .unset] [(.int i1)])) _
      refine XS.iload X16.here hx rfl (hb hby at_137) rfl ?_
      by_cases hc139 : i1 = i2
      · rw [if_pos hc139] at kt
        show Steps p.tables e below (T16.setTop (mkF m 139 #[.val (.int p0), .val (.int p1), .val (.int p2), .val (.int p3), .val (.int p4), .val (.int p5), .val (.int len), .val (.ref a), .val (.int i1), .val (.int i2), .val (.int iq), .val (.int b1), .val (.int b2), .val (.int ex), .unset, .unset, .unset, .unset] [(.int i2), (.int i1)])) _
        refine XS.icmpNo X16.here hx rfl (hb hby at_139) rfl (teq hc139).2 ?_
        show Steps p.tables e below (T16.setTop (mkF m 142 #[.val (.int p0), .val (.int p1), .val (.int p2), .val (.int p3), .val (.int p4), .val (.int p5), .val (.int len), .val (.ref a), .val (.int i1), .val (.int i2), .val (.int iq), .val (.int b1), .val (.int b2), .val (.int ex), .unset, .unset, .unset, .unset] [])) _
        refine XS.iload X16.here hx rfl (hb hby at_142) rfl ?_
        show Steps p.tables e below (T16.setTop (mkF m 144 #[.val (.int p0), .val (.int p1), .val (.int p2), .val (.int p3), .val (.int p4), .val (.int p5), .val (.int len), .val (.ref a), .val (.int i1), .val (.int i2), .val (.int iq), .val (.int b1), .val (.int b2), .val (.int ex), .unset, .unset, .unset, .unset] [(.int b2)])) _
        refine XS.goto X16.here hx rfl (pc0 := 144) (pc' := 149) rfl (hb hby at_144) (by decide) (by decide) ?_
        exact kt
      · rw [if_neg hc139] at kt
        show Steps p.tables e below (T16.setTop (mkF m 139 #[.val (.int p0), .val (.int p1), .val (.int p2), .val (.int p3), .val (.int p4), .val (.int p5), .val (.int len), .val (.ref a), .val (.int i1), .val (.int i2), .val (.int iq), .val (.int b1), .val (.int b2), .val (.int ex), .unset, .unset, .unset, .unset] [(.int i2), (.int i1)])) _
        refine XS.icmpYes X16.here hx rfl (pc0 := 139) (pc' := 147) rfl (hb hby at_139) rfl (feq hc139).2 (by decide) (by decide) ?_
        show Steps p.tables e below (T16.setTop (mkF m 147 #[.val (.int p0), .val (.int p1), .val (.int p2), .val (.int p3), .val (.int p4), .val (.int p5), .val (.int len), .val (.ref a), .val (.int i1), .val (.int i2), .val (.int iq), .val (.int b1), .val (.int b2), .val (.int ex), .unset, .unset, .unset, .unset] [])) _
        refine XS.iload X16.here hx rfl (hb hby at_147) rfl ?_
        exact kt
    have st20 : ∀ target, Steps p.tables e below (T16.setTop (mkF m 151 #[.val (.int p0), .val (.int p1), .val (.int p2), .val (.int p3), .val (.int p4), .val (.int p5), .val (.int len), .val (.ref a), .val (.int i1), .val (.int i2), .val (.int iq), .val (.int b1), .val (.int b2), .val (.int ex), .val (.int ex1), .unset, .unset, .unset] [])) target → Steps p.tables e below (T16.setTop (mkF m 149 #[.val (.int p0), .val (.int p1), .val (.int p2), .val (.int p3), .val (.int p4), .val (.int p5), .val (.int len), .val (.ref a), .val (.int i1), .val (.int i2), .val (.int iq), .val (.int b1), .val (.int b2), .val (.int ex), .unset, .unset, .unset, .unset] [(.int ex1)])) target := by
      intro target kt
      show Steps p.tables e below (T16.setTop (mkF m 149 #[.val (.int p0), .val (.int p1), .val (.int p2), .val (.int p3), .val (.int p4), .val (.int p5), .val (.int len), .val (.ref a), .val (.int i1), .val (.int i2), .val (.int iq), .val (.int b1), .val (.int b2), .val (.int ex), .unset, .unset, .unset, .unset] [(.int ex1)])) _
      refine XS.istore X16.here hx rfl (hb hby at_149) rfl (l' := #[.val (.int p0), .val (.int p1), .val (.int p2), .val (.int p3), .val (.int p4), .val (.int p5), .val (.int len), .val (.ref a), .val (.int i1), .val (.int i2), .val (.int iq), .val (.int b1), .val (.int b2), .val (.int ex), .val (.int ex1), .unset, .unset, .unset]) rfl ?_
      exact kt
    obtain ⟨T21, h21, X21, e21, E21, A21, D21, -, st21⟩ := newO X16 hx hZ hown (hw _ (List.mem_of_getElem? (i := 0) rfl)) (hw _ (List.mem_of_getElem? (i := 1) rfl)) (hw _ (List.mem_of_getElem? (i := 2) rfl)) e16 (g := (mkF m 151 #[.val (.int p0), .val (.int p1), .val (.int p2), .val (.int p3), .val (.int p4), .val (.int p5), .val (.int len), .val (.ref a), .val (.int i1), .val (.int i2), .val (.int iq), .val (.int b1), .val (.int b2), .val (.int ex), .val (.int ex1), .unset, .unset, .unset] [])) rfl (hb hby at_151) (by decide) (by decide)
    obtain ⟨d, g21⟩ : ∃ z, z = h16.size := ⟨_, rfl⟩
    rw [← g21] at A21 D21 st21
    have g_d : n0 ≤ d := Nat.le_trans Z_16 (Nat.le_of_eq g21.symm)
    have ne_a_d : a ≠ d := Nat.ne_of_lt (Nat.lt_of_lt_of_le Ex11_16.lt (Nat.le_of_eq g21.symm))
    have Ex11_21 := Ex11_16.ext E21
    have Ha2_21 := Ha2.ext E21
    have Z_21 : n0 ≤ h21.size := Nat.le_trans Z_16 E21.1
    have E_d : Exa Z h21 d "com/example/imprimatur/imprimatur/verify/DeviceValues" := A21
    have F_pkHash_d : Fld Z h21 d "com/example/imprimatur/imprimatur/verify/DeviceValues" "pkHash" "[B" .null := D21 (Or.inr (hw _ (List.mem_of_getElem? (i := 10) rfl))) (ty := (.array .byte)) (by decide)
    have F_hwId_d : Fld Z h21 d "com/example/imprimatur/imprimatur/verify/DeviceValues" "hwId" "Ljava/lang/Long;" .null := D21 (Or.inr (hw _ (List.mem_of_getElem? (i := 12) rfl))) (ty := (.object "java/lang/Long")) (by decide)
    have F_swId_d : Fld Z h21 d "com/example/imprimatur/imprimatur/verify/DeviceValues" "swId" "Ljava/lang/Long;" .null := D21 (Or.inr (hw _ (List.mem_of_getElem? (i := 14) rfl))) (ty := (.object "java/lang/Long")) (by decide)
    have F_publicKey_d : Fld Z h21 d "com/example/imprimatur/imprimatur/verify/DeviceValues" "publicKey" "[B" .null := D21 (Or.inr (hw _ (List.mem_of_getElem? (i := 16) rfl))) (ty := (.array .byte)) (by decide)
    have st22 : ∀ target, Steps p.tables e below (T21.setTop (mkF m 160 #[.val (.int p0), .val (.int p1), .val (.int p2), .val (.int p3), .val (.int p4), .val (.int p5), .val (.int len), .val (.ref a), .val (.int i1), .val (.int i2), .val (.int iq), .val (.int b1), .val (.int b2), .val (.int ex), .val (.int ex1), .unset, .unset, .unset] [.null, .null, .null, (.ref a), (.ref d), (.ref d)])) target → Steps p.tables e below (T21.setTop (mkF m 154 #[.val (.int p0), .val (.int p1), .val (.int p2), .val (.int p3), .val (.int p4), .val (.int p5), .val (.int len), .val (.ref a), .val (.int i1), .val (.int i2), .val (.int iq), .val (.int b1), .val (.int b2), .val (.int ex), .val (.int ex1), .unset, .unset, .unset] [(.ref d)])) target := by
      intro target kt
      show Steps p.tables e below (T21.setTop (mkF m 154 #[.val (.int p0), .val (.int p1), .val (.int p2), .val (.int p3), .val (.int p4), .val (.int p5), .val (.int len), .val (.ref a), .val (.int i1), .val (.int i2), .val (.int iq), .val (.int b1), .val (.int b2), .val (.int ex), .val (.int ex1), .unset, .unset, .unset] [(.ref d)])) _
      refine XS.dup X21.here hx rfl (hb hby at_154) rfl rfl ?_
      show Steps p.tables e below (T21.setTop (mkF m 155 #[.val (.int p0), .val (.int p1), .val (.int p2), .val (.int p3), .val (.int p4), .val (.int p5), .val (.int len), .val (.ref a), .val (.int i1), .val (.int i2), .val (.int iq), .val (.int b1), .val (.int b2), .val (.int ex), .val (.int ex1), .unset, .unset, .unset] [(.ref d), (.ref d)])) _
      refine XS.aload X21.here hx rfl (hb hby at_155) rfl rfl ?_
      show Steps p.tables e below (T21.setTop (mkF m 157 #[.val (.int p0), .val (.int p1), .val (.int p2), .val (.int p3), .val (.int p4), .val (.int p5), .val (.int len), .val (.ref a), .val (.int i1), .val (.int i2), .val (.int iq), .val (.int b1), .val (.int b2), .val (.int ex), .val (.int ex1), .unset, .unset, .unset] [(.ref a), (.ref d), (.ref d)])) _
      refine XS.aconstNull X21.here hx rfl (hb hby at_157) ?_
      show Steps p.tables e below (T21.setTop (mkF m 158 #[.val (.int p0), .val (.int p1), .val (.int p2), .val (.int p3), .val (.int p4), .val (.int p5), .val (.int len), .val (.ref a), .val (.int i1), .val (.int i2), .val (.int iq), .val (.int b1), .val (.int b2), .val (.int ex), .val (.int ex1), .unset, .unset, .unset] [.null, (.ref a), (.ref d), (.ref d)])) _
      refine XS.aconstNull X21.here hx rfl (hb hby at_158) ?_
      show Steps p.tables e below (T21.setTop (mkF m 159 #[.val (.int p0), .val (.int p1), .val (.int p2), .val (.int p3), .val (.int p4), .val (.int p5), .val (.int len), .val (.ref a), .val (.int i1), .val (.int i2), .val (.int iq), .val (.int b1), .val (.int b2), .val (.int ex), .val (.int ex1), .unset, .unset, .unset] [.null, .null, (.ref a), (.ref d), (.ref d)])) _
      refine XS.aconstNull X21.here hx rfl (hb hby at_159) ?_
      exact kt
    obtain ⟨_, _, ⟨T23, L23, k23, n23⟩, -, X23, ⟨Lc23, hQ23, l23, y23, z23⟩, st23⟩ := X21.specialBack hx (y := (⟨"com/example/imprimatur/imprimatur/verify/DeviceValues", "<init>", "([BLjava/lang/Long;Ljava/lang/Long;[B)V"⟩ : MethodName)) rfl hown (mvT hZ (hw _ (List.mem_of_getElem? (i := 3) rfl))) (mvT hZ (hw _ (List.mem_of_getElem? (i := 4) rfl))) (mvT hZ (hw _ (List.mem_of_getElem? (i := 5) rfl))) (by decide) (backOf (W := 1) (rmIA l Z a0 hw [] d a k11 len [(i2, (.int b2)), (i1, (.int b1))] h21 n0 Z_21 F_pkHash_d F_hwId_d F_swId_d F_publicKey_d E_d g_d Ha2_21 Ex11_21 hlen' (Ne.symm ne_a_d)) hZ (hw _ (List.mem_of_getElem? (i := 5) rfl)) (hw _ (List.mem_of_getElem? (i := 2) rfl)) (by decide) (by decide)) (g := (mkF m 160 #[.val (.int p0), .val (.int p1), .val (.int p2), .val (.int p3), .val (.int p4), .val (.int p5), .val (.int len), .val (.ref a), .val (.int i1), .val (.int i2), .val (.int iq), .val (.int b1), .val (.int b2), .val (.int ex), .val (.int ex1), .unset, .unset, .unset] [.null, .null, .null, (.ref a), (.ref d), (.ref d)])) rfl (by rw [hml]; rfl) (Steps.refl _) (a := d) (argsL := [(.ref a), .null, .null, .null]) (rest := [(.ref d)]) (lenOf pd_0 rfl) rfl (by show 2 * 0 + _ ≤ _; exact Nat.le_of_eq rfl) (hb hby at_160) (fun _ _ => ⟨rfl, e21, (by decide : 2 + 1 ≤ _), (by decide : 52 + 48 ≤ _)⟩)
    dsimp only [Pt.U, Pt.locs, Pt.cells, Pt.slots] at X23 l23 y23 z23 st23 hQ23
    subst l23 y23 z23
    obtain ⟨rfl, Nq23, K23, Ed, c, szc, Fc, Hc, Ec⟩ := hQ23
    have N23 := Fr.app N16 Nq23
    have g_c : n0 ≤ c := Nat.le_trans Z_21 szc
    have ne_a_c : a ≠ c := Nat.ne_of_lt (Nat.lt_of_lt_of_le Ex11_21.lt szc)
    have ne_d_c : d ≠ c := Nat.ne_of_lt (Nat.lt_of_lt_of_le E_d.lt szc)
    have Ex11_23 := Ex11_21.keep K23
    have Ha2_23 := Ha2_21.keep K23 (ninS ne_a_d nin0)
    have E_d_23 := E_d.keep K23
    have Z_23 : n0 ≤ T23.heap.size := Nat.le_trans Z_21 K23.1
    have st24 : ∀ target, Steps p.tables e below (T23.setTop (mkF m 174 #[.val (.int p0), .val (.int p1), .val (.int p2), .val (.int p3), .val (.int p4), .val (.int p5), .val (.int len), .val (.ref a), .val (.int i1), .val (.int i2), .val (.int iq), .val (.int b1), .val (.int b2), .val (.int ex), .val (.int ex1), .val (.ref d), .unset, .unset] [(.int ((ex1 ^^^ (1 : Int32)).toInt8.toInt32)), (.int i1), (.ref a)])) target → Steps p.tables e below (T23.setTop (mkF m 163 #[.val (.int p0), .val (.int p1), .val (.int p2), .val (.int p3), .val (.int p4), .val (.int p5), .val (.int len), .val (.ref a), .val (.int i1), .val (.int i2), .val (.int iq), .val (.int b1), .val (.int b2), .val (.int ex), .val (.int ex1), .unset, .unset, .unset] [(.ref d)])) target := by
      intro target kt
      show Steps p.tables e below (T23.setTop (mkF m 163 #[.val (.int p0), .val (.int p1), .val (.int p2), .val (.int p3), .val (.int p4), .val (.int p5), .val (.int len), .val (.ref a), .val (.int i1), .val (.int i2), .val (.int iq), .val (.int b1), .val (.int b2), .val (.int ex), .val (.int ex1), .unset, .unset, .unset] [(.ref d)])) _
      refine XS.astore X23.here hx rfl (hb hby at_163) rfl rfl (l' := #[.val (.int p0), .val (.int p1), .val (.int p2), .val (.int p3), .val (.int p4), .val (.int p5), .val (.int len), .val (.ref a), .val (.int i1), .val (.int i2), .val (.int iq), .val (.int b1), .val (.int b2), .val (.int ex), .val (.int ex1), .val (.ref d), .unset, .unset]) rfl ?_
      show Steps p.tables e below (T23.setTop (mkF m 165 #[.val (.int p0), .val (.int p1), .val (.int p2), .val (.int p3), .val (.int p4), .val (.int p5), .val (.int len), .val (.ref a), .val (.int i1), .val (.int i2), .val (.int iq), .val (.int b1), .val (.int b2), .val (.int ex), .val (.int ex1), .val (.ref d), .unset, .unset] [])) _
      refine XS.aload X23.here hx rfl (hb hby at_165) rfl rfl ?_
      show Steps p.tables e below (T23.setTop (mkF m 167 #[.val (.int p0), .val (.int p1), .val (.int p2), .val (.int p3), .val (.int p4), .val (.int p5), .val (.int len), .val (.ref a), .val (.int i1), .val (.int i2), .val (.int iq), .val (.int b1), .val (.int b2), .val (.int ex), .val (.int ex1), .val (.ref d), .unset, .unset] [(.ref a)])) _
      refine XS.iload X23.here hx rfl (hb hby at_167) rfl ?_
      show Steps p.tables e below (T23.setTop (mkF m 169 #[.val (.int p0), .val (.int p1), .val (.int p2), .val (.int p3), .val (.int p4), .val (.int p5), .val (.int len), .val (.ref a), .val (.int i1), .val (.int i2), .val (.int iq), .val (.int b1), .val (.int b2), .val (.int ex), .val (.int ex1), .val (.ref d), .unset, .unset] [(.int i1), (.ref a)])) _
      refine XS.iload X23.here hx rfl (hb hby at_169) rfl ?_
      show Steps p.tables e below (T23.setTop (mkF m 171 #[.val (.int p0), .val (.int p1), .val (.int p2), .val (.int p3), .val (.int p4), .val (.int p5), .val (.int len), .val (.ref a), .val (.int i1), .val (.int i2), .val (.int iq), .val (.int b1), .val (.int b2), .val (.int ex), .val (.int ex1), .val (.ref d), .unset, .unset] [(.int ex1), (.int i1), (.ref a)])) _
      refine XS.iconst X23.here hx rfl (hb hby at_171) ?_
      show Steps p.tables e below (T23.setTop (mkF m 172 #[.val (.int p0), .val (.int p1), .val (.int p2), .val (.int p3), .val (.int p4), .val (.int p5), .val (.int len), .val (.ref a), .val (.int i1), .val (.int i2), .val (.int iq), .val (.int b1), .val (.int b2), .val (.int ex), .val (.int ex1), .val (.ref d), .unset, .unset] [(.int (1 : Int32)), (.int ex1), (.int i1), (.ref a)])) _
      refine XS.ixor X23.here hx rfl (hb hby at_172) rfl ?_
      show Steps p.tables e below (T23.setTop (mkF m 173 #[.val (.int p0), .val (.int p1), .val (.int p2), .val (.int p3), .val (.int p4), .val (.int p5), .val (.int len), .val (.ref a), .val (.int i1), .val (.int i2), .val (.int iq), .val (.int b1), .val (.int b2), .val (.int ex), .val (.int ex1), .val (.ref d), .unset, .unset] [(.int (ex1 ^^^ (1 : Int32))), (.int i1), (.ref a)])) _
      refine XS.i2b X23.here hx rfl (hb hby at_173) rfl ?_
      exact kt
    obtain ⟨cl25, Ar25, qc25, Sz25, Mn25, Hs25, Gs25⟩ := id Ha2_23
    have hin25 : ¬ (i1 < 0 ∨ cl25.slots.size ≤ (i1).toNatClampNeg) := own_in Sz25 R_i1
    obtain ⟨T25, h25, X25, e25, W25, st25⟩ := stB X23 hx hZ rfl Ar25 (j := i1) hin25 (g := (mkF m 174 #[.val (.int p0), .val (.int p1), .val (.int p2), .val (.int p3), .val (.int p4), .val (.int p5), .val (.int len), .val (.ref a), .val (.int i1), .val (.int i2), .val (.int iq), .val (.int b1), .val (.int b2), .val (.int ex), .val (.int ex1), .val (.ref d), .unset, .unset] [(.int ((ex1 ^^^ (1 : Int32)).toInt8.toInt32)), (.int i1), (.ref a)])) rfl rfl (hb hby at_174)
    have Hh_a_25 : Arh Z h25 a k11 .byte len [(i1, (.int (nar .byte ((ex1 ^^^ (1 : Int32)).toInt8.toInt32)))), (i2, (.int b2)), (i1, (.int b1))] [] (.int (0 : Int32)) := Arh.push Ar25 qc25 Sz25 Mn25 Hs25 Gs25 (fits_nar_byte _) W25 hin25
    have Ex11_25 := Ex11_23.wr W25
    have Ed_25 := Ed.wr W25
    have Fc_25 := Fc.other W25 (Or.inl (Ne.symm ne_a_d))
    have Hc_25 := Hc.other W25 (Ne.symm ne_a_c)
    have Ec_25 := Ec.wr W25
    have Z_25 : n0 ≤ h25.size := Nat.le_trans Z_23 (Keep.of_wr W25).1
    have N25 := Fr.snoc X25 N23 g_a
    have st26 : ∀ target, Steps p.tables e below (T25.setTop (mkF m 184 #[.val (.int p0), .val (.int p1), .val (.int p2), .val (.int p3), .val (.int p4), .val (.int p5), .val (.int len), .val (.ref a), .val (.int i1), .val (.int i2), .val (.int iq), .val (.int b1), .val (.int b2), .val (.int ex), .val (.int ex1), .val (.ref d), .unset, .unset] [(.int ((ex ^^^ (1 : Int32)).toInt8.toInt32)), (.int iq), (.ref a)])) target → Steps p.tables e below (T25.setTop (mkF m 175 #[.val (.int p0), .val (.int p1), .val (.int p2), .val (.int p3), .val (.int p4), .val (.int p5), .val (.int len), .val (.ref a), .val (.int i1), .val (.int i2), .val (.int iq), .val (.int b1), .val (.int b2), .val (.int ex), .val (.int ex1), .val (.ref d), .unset, .unset] [])) target := by
      intro target kt
      show Steps p.tables e below (T25.setTop (mkF m 175 #[.val (.int p0), .val (.int p1), .val (.int p2), .val (.int p3), .val (.int p4), .val (.int p5), .val (.int len), .val (.ref a), .val (.int i1), .val (.int i2), .val (.int iq), .val (.int b1), .val (.int b2), .val (.int ex), .val (.int ex1), .val (.ref d), .unset, .unset] [])) _
      refine XS.aload X25.here hx rfl (hb hby at_175) rfl rfl ?_
      show Steps p.tables e below (T25.setTop (mkF m 177 #[.val (.int p0), .val (.int p1), .val (.int p2), .val (.int p3), .val (.int p4), .val (.int p5), .val (.int len), .val (.ref a), .val (.int i1), .val (.int i2), .val (.int iq), .val (.int b1), .val (.int b2), .val (.int ex), .val (.int ex1), .val (.ref d), .unset, .unset] [(.ref a)])) _
      refine XS.iload X25.here hx rfl (hb hby at_177) rfl ?_
      show Steps p.tables e below (T25.setTop (mkF m 179 #[.val (.int p0), .val (.int p1), .val (.int p2), .val (.int p3), .val (.int p4), .val (.int p5), .val (.int len), .val (.ref a), .val (.int i1), .val (.int i2), .val (.int iq), .val (.int b1), .val (.int b2), .val (.int ex), .val (.int ex1), .val (.ref d), .unset, .unset] [(.int iq), (.ref a)])) _
      refine XS.iload X25.here hx rfl (hb hby at_179) rfl ?_
      show Steps p.tables e below (T25.setTop (mkF m 181 #[.val (.int p0), .val (.int p1), .val (.int p2), .val (.int p3), .val (.int p4), .val (.int p5), .val (.int len), .val (.ref a), .val (.int i1), .val (.int i2), .val (.int iq), .val (.int b1), .val (.int b2), .val (.int ex), .val (.int ex1), .val (.ref d), .unset, .unset] [(.int ex), (.int iq), (.ref a)])) _
      refine XS.iconst X25.here hx rfl (hb hby at_181) ?_
      show Steps p.tables e below (T25.setTop (mkF m 182 #[.val (.int p0), .val (.int p1), .val (.int p2), .val (.int p3), .val (.int p4), .val (.int p5), .val (.int len), .val (.ref a), .val (.int i1), .val (.int i2), .val (.int iq), .val (.int b1), .val (.int b2), .val (.int ex), .val (.int ex1), .val (.ref d), .unset, .unset] [(.int (1 : Int32)), (.int ex), (.int iq), (.ref a)])) _
      refine XS.ixor X25.here hx rfl (hb hby at_182) rfl ?_
      show Steps p.tables e below (T25.setTop (mkF m 183 #[.val (.int p0), .val (.int p1), .val (.int p2), .val (.int p3), .val (.int p4), .val (.int p5), .val (.int len), .val (.ref a), .val (.int i1), .val (.int i2), .val (.int iq), .val (.int b1), .val (.int b2), .val (.int ex), .val (.int ex1), .val (.ref d), .unset, .unset] [(.int (ex ^^^ (1 : Int32))), (.int iq), (.ref a)])) _
      refine XS.i2b X25.here hx rfl (hb hby at_183) rfl ?_
      exact kt
    obtain ⟨cl27, Ar27, qc27, Sz27, Mn27, Hs27, Gs27⟩ := id Hh_a_25
    have hin27 : ¬ (iq < 0 ∨ cl27.slots.size ≤ (iq).toNatClampNeg) := own_in Sz27 R_iq
    obtain ⟨T27, h27, X27, e27, W27, st27⟩ := stB X25 hx hZ e25 Ar27 (j := iq) hin27 (g := (mkF m 184 #[.val (.int p0), .val (.int p1), .val (.int p2), .val (.int p3), .val (.int p4), .val (.int p5), .val (.int len), .val (.ref a), .val (.int i1), .val (.int i2), .val (.int iq), .val (.int b1), .val (.int b2), .val (.int ex), .val (.int ex1), .val (.ref d), .unset, .unset] [(.int ((ex ^^^ (1 : Int32)).toInt8.toInt32)), (.int iq), (.ref a)])) rfl rfl (hb hby at_184)
    have Hh_a_27 : Arh Z h27 a k11 .byte len [(iq, (.int (nar .byte ((ex ^^^ (1 : Int32)).toInt8.toInt32)))), (i1, (.int (nar .byte ((ex1 ^^^ (1 : Int32)).toInt8.toInt32)))), (i2, (.int b2)), (i1, (.int b1))] [] (.int (0 : Int32)) := Arh.push Ar27 qc27 Sz27 Mn27 Hs27 Gs27 (fits_nar_byte _) W27 hin27
    have Ex11_27 := Ex11_25.wr W27
    have Ed_27 := Ed_25.wr W27
    have Fc_27 := Fc_25.other W27 (Or.inl (Ne.symm ne_a_d))
    have Hc_27 := Hc_25.other W27 (Ne.symm ne_a_c)
    have Ec_27 := Ec_25.wr W27
    have Z_27 : n0 ≤ h27.size := Nat.le_trans Z_25 (Keep.of_wr W27).1
    have N27 := Fr.snoc X27 N25 g_a
    have st28 : ∀ target, Steps p.tables e below (T27.setTop (mkF m 187 #[.val (.int p0), .val (.int p1), .val (.int p2), .val (.int p3), .val (.int p4), .val (.int p5), .val (.int len), .val (.ref a), .val (.int i1), .val (.int i2), .val (.int iq), .val (.int b1), .val (.int b2), .val (.int ex), .val (.int ex1), .val (.ref d), .unset, .unset] [(.ref d)])) target → Steps p.tables e below (T27.setTop (mkF m 185 #[.val (.int p0), .val (.int p1), .val (.int p2), .val (.int p3), .val (.int p4), .val (.int p5), .val (.int len), .val (.ref a), .val (.int i1), .val (.int i2), .val (.int iq), .val (.int b1), .val (.int b2), .val (.int ex), .val (.int ex1), .val (.ref d), .unset, .unset] [])) target := by
      intro target kt
      show Steps p.tables e below (T27.setTop (mkF m 185 #[.val (.int p0), .val (.int p1), .val (.int p2), .val (.int p3), .val (.int p4), .val (.int p5), .val (.int len), .val (.ref a), .val (.int i1), .val (.int i2), .val (.int iq), .val (.int b1), .val (.int b2), .val (.int ex), .val (.int ex1), .val (.ref d), .unset, .unset] [])) _
      refine XS.aload X27.here hx rfl (hb hby at_185) rfl rfl ?_
      exact kt
    obtain ⟨cq29, kq29, qv29a, qv29b, qv29c⟩ := isOf hZ e27 Ed_27
    obtain ⟨_, _, ⟨T29, L29, k29, n29⟩, -, X29, ⟨Lc29, hQ29, l29, y29, z29⟩, st29⟩ := X27.virtualBack hx (y := (⟨"com/example/imprimatur/imprimatur/verify/DeviceValues", "pkHash", "()[B"⟩ : MethodName)) (z := (⟨"com/example/imprimatur/imprimatur/verify/DeviceValues", "pkHash", "()[B"⟩ : MethodName)) hown (mvT hZ (hw _ (List.mem_of_getElem? (i := 17) rfl))) (mvT hZ (hw _ (List.mem_of_getElem? (i := 18) rfl))) (notFace_of_selects (args := #[]) (mvT hZ (hw _ (List.mem_of_getElem? (i := 20) rfl)))) (mvT hZ (hw _ (List.mem_of_getElem? (i := 20) rfl))) (mvT hZ (hw _ (List.mem_of_getElem? (i := 19) rfl))) (by decide) (backOf (W := 0) (rm_pkHash l Z a0 hw [] d c k11 len [(i2, (.int b2)), (i1, (.int b1))] h27 n0 Z_27 Fc_27 Hc_27 Ec_27 lc) hZ (hw _ (List.mem_of_getElem? (i := 21) rfl)) (hw _ (List.mem_of_getElem? (i := 2) rfl)) (by decide) (by decide)) qv29a qv29c (g := (mkF m 187 #[.val (.int p0), .val (.int p1), .val (.int p2), .val (.int p3), .val (.int p4), .val (.int p5), .val (.int len), .val (.ref a), .val (.int i1), .val (.int i2), .val (.int iq), .val (.int b1), .val (.int b2), .val (.int ex), .val (.int ex1), .val (.ref d), .unset, .unset] [(.ref d)])) rfl (by rw [hml]; rfl) (Steps.refl _) (argsL := []) (rest := []) (lenOf pd_2 rfl) rfl (by show 2 * 0 + _ ≤ _; exact Nat.le_of_eq rfl) (hb hby at_187) (fun _ _ => ⟨rfl, e27, (by decide : 3 + 1 ≤ _), (by decide : 100 + 48 ≤ _)⟩)
    dsimp only [Pt.U, Pt.locs, Pt.cells, Pt.slots] at X29 l29 y29 z29 st29 hQ29
    subst l29 y29 z29
    obtain ⟨c2_29, rfl, Nq29, K29, sz29, Hr1, Er1⟩ := hQ29
    have N29 := Fr.app N27 Nq29
    have g_c2_29 : n0 ≤ c2_29 := Nat.le_trans Z_27 sz29
    have ne_a_c2_29 : a ≠ c2_29 := Nat.ne_of_lt (Nat.lt_of_lt_of_le Ex11_27.lt sz29)
    have ne_d_c2_29 : d ≠ c2_29 := Nat.ne_of_lt (Nat.lt_of_lt_of_le Ed_27.lt sz29)
    have ne_c_c2_29 : c ≠ c2_29 := Nat.ne_of_lt (Nat.lt_of_lt_of_le Hc_27.lt sz29)
    have Ex11_29 := Ex11_27.keep K29
    have Ed_29 := Ed_27.keep K29
    have Fc_29 := Fc_27.keep K29 nin0
    have Hc_29 := Hc_27.keep K29 nin0
    have Ec_29 := Ec_27.keep K29
    have Hh_a_29 := Hh_a_27.keep K29 nin0
    have Z_29 : n0 ≤ T29.heap.size := Nat.le_trans Z_27 K29.1
    have st30 : ∀ target, Steps p.tables e below (T29.setTop (mkF m 206 #[.val (.int p0), .val (.int p1), .val (.int p2), .val (.int p3), .val (.int p4), .val (.int p5), .val (.int len), .val (.ref a), .val (.int i1), .val (.int i2), .val (.int iq), .val (.int b1), .val (.int b2), .val (.int ex), .val (.int ex1), .val (.ref d), .val (.ref c2_29), .unset] [(.ref c2_29)])) target → Steps p.tables e below (T29.setTop (mkF m 190 #[.val (.int p0), .val (.int p1), .val (.int p2), .val (.int p3), .val (.int p4), .val (.int p5), .val (.int len), .val (.ref a), .val (.int i1), .val (.int i2), .val (.int iq), .val (.int b1), .val (.int b2), .val (.int ex), .val (.int ex1), .val (.ref d), .unset, .unset] [(.ref c2_29)])) target := by
      intro target kt
      show Steps p.tables e below (T29.setTop (mkF m 190 #[.val (.int p0), .val (.int p1), .val (.int p2), .val (.int p3), .val (.int p4), .val (.int p5), .val (.int len), .val (.ref a), .val (.int i1), .val (.int i2), .val (.int iq), .val (.int b1), .val (.int b2), .val (.int ex), .val (.int ex1), .val (.ref d), .unset, .unset] [(.ref c2_29)])) _
      refine XS.astore X29.here hx rfl (hb hby at_190) rfl rfl (l' := #[.val (.int p0), .val (.int p1), .val (.int p2), .val (.int p3), .val (.int p4), .val (.int p5), .val (.int len), .val (.ref a), .val (.int i1), .val (.int i2), .val (.int iq), .val (.int b1), .val (.int b2), .val (.int ex), .val (.int ex1), .val (.ref d), .val (.ref c2_29), .unset]) rfl ?_
      show Steps p.tables e below (T29.setTop (mkF m 192 #[.val (.int p0), .val (.int p1), .val (.int p2), .val (.int p3), .val (.int p4), .val (.int p5), .val (.int len), .val (.ref a), .val (.int i1), .val (.int i2), .val (.int iq), .val (.int b1), .val (.int b2), .val (.int ex), .val (.int ex1), .val (.ref d), .val (.ref c2_29), .unset] [])) _
      refine XS.aload X29.here hx rfl (hb hby at_192) rfl rfl ?_
      show Steps p.tables e below (T29.setTop (mkF m 194 #[.val (.int p0), .val (.int p1), .val (.int p2), .val (.int p3), .val (.int p4), .val (.int p5), .val (.int len), .val (.ref a), .val (.int i1), .val (.int i2), .val (.int iq), .val (.int b1), .val (.int b2), .val (.int ex), .val (.int ex1), .val (.ref d), .val (.ref c2_29), .unset] [(.ref c2_29)])) _
      refine XS.ifnullNo X29.here hx rfl (hb hby at_194) rfl ?_
      show Steps p.tables e below (T29.setTop (mkF m 197 #[.val (.int p0), .val (.int p1), .val (.int p2), .val (.int p3), .val (.int p4), .val (.int p5), .val (.int len), .val (.ref a), .val (.int i1), .val (.int i2), .val (.int iq), .val (.int b1), .val (.int b2), .val (.int ex), .val (.int ex1), .val (.ref d), .val (.ref c2_29), .unset] [])) _
      refine XS.aload X29.here hx rfl (hb hby at_197) rfl rfl ?_
      show Steps p.tables e below (T29.setTop (mkF m 199 #[.val (.int p0), .val (.int p1), .val (.int p2), .val (.int p3), .val (.int p4), .val (.int p5), .val (.int len), .val (.ref a), .val (.int i1), .val (.int i2), .val (.int iq), .val (.int b1), .val (.int b2), .val (.int ex), .val (.int ex1), .val (.ref d), .val (.ref c2_29), .unset] [(.ref c2_29)])) _
      refine XS.aload X29.here hx rfl (hb hby at_199) rfl rfl ?_
      show Steps p.tables e below (T29.setTop (mkF m 201 #[.val (.int p0), .val (.int p1), .val (.int p2), .val (.int p3), .val (.int p4), .val (.int p5), .val (.int len), .val (.ref a), .val (.int i1), .val (.int i2), .val (.int iq), .val (.int b1), .val (.int b2), .val (.int ex), .val (.int ex1), .val (.ref d), .val (.ref c2_29), .unset] [(.ref a), (.ref c2_29)])) _
      refine Jvm.RoadKit.acmp (g := (mkF m 201 #[.val (.int p0), .val (.int p1), .val (.int p2), .val (.int p3), .val (.int p4), .val (.int p5), .val (.int len), .val (.ref a), .val (.int i1), .val (.int i2), .val (.int iq), .val (.int b1), .val (.int b2), .val (.int ex), .val (.int ex1), .val (.ref d), .val (.ref c2_29), .unset] [(.ref a), (.ref c2_29)])) X29 hx rfl rfl rfl (pc0 := 201) (pc' := 204) (same := false) rfl (hb hby at_201) rfl (decide_eq_false (fun q => (Ne.symm ne_a_c2_29) (Value.ref.inj q))) (by decide) (by decide) ?_
      show Steps p.tables e below (T29.setTop (mkF m 204 #[.val (.int p0), .val (.int p1), .val (.int p2), .val (.int p3), .val (.int p4), .val (.int p5), .val (.int len), .val (.ref a), .val (.int i1), .val (.int i2), .val (.int iq), .val (.int b1), .val (.int b2), .val (.int ex), .val (.int ex1), .val (.ref d), .val (.ref c2_29), .unset] [])) _
      refine XS.aload X29.here hx rfl (hb hby at_204) rfl rfl ?_
      exact kt
    obtain ⟨cl31, Ar31, qc31, Sz31, Mn31, Hs31, Gs31⟩ := id Hr1
    have st32 : ∀ target, Steps p.tables e below (T29.setTop (mkF m 207 #[.val (.int p0), .val (.int p1), .val (.int p2), .val (.int p3), .val (.int p4), .val (.int p5), .val (.int len), .val (.ref a), .val (.int i1), .val (.int i2), .val (.int iq), .val (.int b1), .val (.int b2), .val (.int ex), .val (.int ex1), .val (.ref d), .val (.ref c2_29), .unset] [(.int len)])) target → Steps p.tables e below (T29.setTop (mkF m 206 #[.val (.int p0), .val (.int p1), .val (.int p2), .val (.int p3), .val (.int p4), .val (.int p5), .val (.int len), .val (.ref a), .val (.int i1), .val (.int i2), .val (.int iq), .val (.int b1), .val (.int b2), .val (.int ex), .val (.int ex1), .val (.ref d), .val (.ref c2_29), .unset] [(.ref c2_29)])) target := fun target kt => X29.arraylength hx (cell := cl31) Ar31.1 (State.isArrayOf_alike hZ.alike Ar31.2.1) (g := (mkF m 206 #[.val (.int p0), .val (.int p1), .val (.int p2), .val (.int p3), .val (.int p4), .val (.int p5), .val (.int len), .val (.ref a), .val (.int i1), .val (.int i2), .val (.int iq), .val (.int b1), .val (.int b2), .val (.int ex), .val (.int ex1), .val (.ref d), .val (.ref c2_29), .unset] [(.ref c2_29)])) rfl rfl (hb hby at_206) _ (by rw [len_of (c := cl31) Sz31 Mn31]; exact kt)
    have st33 : ∀ target, Steps p.tables e below (T29.setTop (mkF m 218 #[.val (.int p0), .val (.int p1), .val (.int p2), .val (.int p3), .val (.int p4), .val (.int p5), .val (.int len), .val (.ref a), .val (.int i1), .val (.int i2), .val (.int iq), .val (.int b1), .val (.int b2), .val (.int ex), .val (.int ex1), .val (.ref d), .val (.ref c2_29), .unset] [(.int iq), (.ref c2_29)])) target → Steps p.tables e below (T29.setTop (mkF m 207 #[.val (.int p0), .val (.int p1), .val (.int p2), .val (.int p3), .val (.int p4), .val (.int p5), .val (.int len), .val (.ref a), .val (.int i1), .val (.int i2), .val (.int iq), .val (.int b1), .val (.int b2), .val (.int ex), .val (.int ex1), .val (.ref d), .val (.ref c2_29), .unset] [(.int len)])) target := by
      intro target kt
      show Steps p.tables e below (T29.setTop (mkF m 207 #[.val (.int p0), .val (.int p1), .val (.int p2), .val (.int p3), .val (.int p4), .val (.int p5), .val (.int len), .val (.ref a), .val (.int i1), .val (.int i2), .val (.int iq), .val (.int b1), .val (.int b2), .val (.int ex), .val (.int ex1), .val (.ref d), .val (.ref c2_29), .unset] [(.int len)])) _
      refine XS.iload X29.here hx rfl (hb hby at_207) rfl ?_
      show Steps p.tables e below (T29.setTop (mkF m 209 #[.val (.int p0), .val (.int p1), .val (.int p2), .val (.int p3), .val (.int p4), .val (.int p5), .val (.int len), .val (.ref a), .val (.int i1), .val (.int i2), .val (.int iq), .val (.int b1), .val (.int b2), .val (.int ex), .val (.int ex1), .val (.ref d), .val (.ref c2_29), .unset] [(.int len), (.int len)])) _
      refine XS.icmpYes X29.here hx rfl (pc0 := 209) (pc' := 214) rfl (hb hby at_209) rfl (teq (rfl : len = len)).1 (by decide) (by decide) ?_
      show Steps p.tables e below (T29.setTop (mkF m 214 #[.val (.int p0), .val (.int p1), .val (.int p2), .val (.int p3), .val (.int p4), .val (.int p5), .val (.int len), .val (.ref a), .val (.int i1), .val (.int i2), .val (.int iq), .val (.int b1), .val (.int b2), .val (.int ex), .val (.int ex1), .val (.ref d), .val (.ref c2_29), .unset] [])) _
      refine XS.aload X29.here hx rfl (hb hby at_214) rfl rfl ?_
      show Steps p.tables e below (T29.setTop (mkF m 216 #[.val (.int p0), .val (.int p1), .val (.int p2), .val (.int p3), .val (.int p4), .val (.int p5), .val (.int len), .val (.ref a), .val (.int i1), .val (.int i2), .val (.int iq), .val (.int b1), .val (.int b2), .val (.int ex), .val (.int ex1), .val (.ref d), .val (.ref c2_29), .unset] [(.ref c2_29)])) _
      refine XS.iload X29.here hx rfl (hb hby at_216) rfl ?_
      exact kt
    obtain ⟨cl34, Ar34, qc34, Sz34, Mn34, Hs34, Gs34⟩ := id Hr1
    have hin34 : ¬ (iq < 0 ∨ cl34.slots.size ≤ (iq).toNatClampNeg) := own_in Sz34 R_iq
    have hat34 : cl34.slots[(iq).toNatClampNeg]? = some (.int ex) := atH Hs34 hin34 (by rw [hex]; exact own_get i1 i2 iq b1 b2 R_iq.1)
    have st35 : ∀ target, Steps p.tables e below (T29.setTop (mkF m 219 #[.val (.int p0), .val (.int p1), .val (.int p2), .val (.int p3), .val (.int p4), .val (.int p5), .val (.int len), .val (.ref a), .val (.int i1), .val (.int i2), .val (.int iq), .val (.int b1), .val (.int b2), .val (.int ex), .val (.int ex1), .val (.ref d), .val (.ref c2_29), .unset] [(.int ex)])) target → Steps p.tables e below (T29.setTop (mkF m 218 #[.val (.int p0), .val (.int p1), .val (.int p2), .val (.int p3), .val (.int p4), .val (.int p5), .val (.int len), .val (.ref a), .val (.int i1), .val (.int i2), .val (.int iq), .val (.int b1), .val (.int b2), .val (.int ex), .val (.int ex1), .val (.ref d), .val (.ref c2_29), .unset] [(.int iq), (.ref c2_29)])) target := fun target kt => X29.baloadBytes hx (j := iq) (v := (.int ex)) Ar34.1 (State.isArrayOf_alike hZ.alike Ar34.2.1) Ar34.2.2 hin34 hat34 (g := (mkF m 218 #[.val (.int p0), .val (.int p1), .val (.int p2), .val (.int p3), .val (.int p4), .val (.int p5), .val (.int len), .val (.ref a), .val (.int i1), .val (.int i2), .val (.int iq), .val (.int b1), .val (.int b2), .val (.int ex), .val (.int ex1), .val (.ref d), .val (.ref c2_29), .unset] [(.int iq), (.ref c2_29)])) rfl rfl (hb hby at_218) _ kt
    have st36 : ∀ target, Steps p.tables e below (T29.setTop (mkF m 228 #[.val (.int p0), .val (.int p1), .val (.int p2), .val (.int p3), .val (.int p4), .val (.int p5), .val (.int len), .val (.ref a), .val (.int i1), .val (.int i2), .val (.int iq), .val (.int b1), .val (.int b2), .val (.int ex), .val (.int ex1), .val (.ref d), .val (.ref c2_29), .unset] [(.int i1), (.ref c2_29)])) target → Steps p.tables e below (T29.setTop (mkF m 219 #[.val (.int p0), .val (.int p1), .val (.int p2), .val (.int p3), .val (.int p4), .val (.int p5), .val (.int len), .val (.ref a), .val (.int i1), .val (.int i2), .val (.int iq), .val (.int b1), .val (.int b2), .val (.int ex), .val (.int ex1), .val (.ref d), .val (.ref c2_29), .unset] [(.int ex)])) target := by
      intro target kt
      show Steps p.tables e below (T29.setTop (mkF m 219 #[.val (.int p0), .val (.int p1), .val (.int p2), .val (.int p3), .val (.int p4), .val (.int p5), .val (.int len), .val (.ref a), .val (.int i1), .val (.int i2), .val (.int iq), .val (.int b1), .val (.int b2), .val (.int ex), .val (.int ex1), .val (.ref d), .val (.ref c2_29), .unset] [(.int ex)])) _
      refine XS.iload X29.here hx rfl (hb hby at_219) rfl ?_
      show Steps p.tables e below (T29.setTop (mkF m 221 #[.val (.int p0), .val (.int p1), .val (.int p2), .val (.int p3), .val (.int p4), .val (.int p5), .val (.int len), .val (.ref a), .val (.int i1), .val (.int i2), .val (.int iq), .val (.int b1), .val (.int b2), .val (.int ex), .val (.int ex1), .val (.ref d), .val (.ref c2_29), .unset] [(.int ex), (.int ex)])) _
      refine XS.icmpNo X29.here hx rfl (hb hby at_221) rfl (teq (rfl : ex = ex)).2 ?_
      show Steps p.tables e below (T29.setTop (mkF m 224 #[.val (.int p0), .val (.int p1), .val (.int p2), .val (.int p3), .val (.int p4), .val (.int p5), .val (.int len), .val (.ref a), .val (.int i1), .val (.int i2), .val (.int iq), .val (.int b1), .val (.int b2), .val (.int ex), .val (.int ex1), .val (.ref d), .val (.ref c2_29), .unset] [])) _
      refine XS.aload X29.here hx rfl (hb hby at_224) rfl rfl ?_
      show Steps p.tables e below (T29.setTop (mkF m 226 #[.val (.int p0), .val (.int p1), .val (.int p2), .val (.int p3), .val (.int p4), .val (.int p5), .val (.int len), .val (.ref a), .val (.int i1), .val (.int i2), .val (.int iq), .val (.int b1), .val (.int b2), .val (.int ex), .val (.int ex1), .val (.ref d), .val (.ref c2_29), .unset] [(.ref c2_29)])) _
      refine XS.iload X29.here hx rfl (hb hby at_226) rfl ?_
      exact kt
    obtain ⟨cl37, Ar37, qc37, Sz37, Mn37, Hs37, Gs37⟩ := id Hr1
    have hin37 : ¬ (i1 < 0 ∨ cl37.slots.size ≤ (i1).toNatClampNeg) := own_in Sz37 R_i1
    have hat37 : cl37.slots[(i1).toNatClampNeg]? = some (.int ex1) := atH Hs37 hin37 (by rw [hex1]; exact own_get1 i1 i2 b1 b2 R_i1.1)
    have st38 : ∀ target, Steps p.tables e below (T29.setTop (mkF m 229 #[.val (.int p0), .val (.int p1), .val (.int p2), .val (.int p3), .val (.int p4), .val (.int p5), .val (.int len), .val (.ref a), .val (.int i1), .val (.int i2), .val (.int iq), .val (.int b1), .val (.int b2), .val (.int ex), .val (.int ex1), .val (.ref d), .val (.ref c2_29), .unset] [(.int ex1)])) target → Steps p.tables e below (T29.setTop (mkF m 228 #[.val (.int p0), .val (.int p1), .val (.int p2), .val (.int p3), .val (.int p4), .val (.int p5), .val (.int len), .val (.ref a), .val (.int i1), .val (.int i2), .val (.int iq), .val (.int b1), .val (.int b2), .val (.int ex), .val (.int ex1), .val (.ref d), .val (.ref c2_29), .unset] [(.int i1), (.ref c2_29)])) target := fun target kt => X29.baloadBytes hx (j := i1) (v := (.int ex1)) Ar37.1 (State.isArrayOf_alike hZ.alike Ar37.2.1) Ar37.2.2 hin37 hat37 (g := (mkF m 228 #[.val (.int p0), .val (.int p1), .val (.int p2), .val (.int p3), .val (.int p4), .val (.int p5), .val (.int len), .val (.ref a), .val (.int i1), .val (.int i2), .val (.int iq), .val (.int b1), .val (.int b2), .val (.int ex), .val (.int ex1), .val (.ref d), .val (.ref c2_29), .unset] [(.int i1), (.ref c2_29)])) rfl rfl (hb hby at_228) _ kt
    have st39 : ∀ target, Steps p.tables e below (T29.setTop (mkF m 245 #[.val (.int p0), .val (.int p1), .val (.int p2), .val (.int p3), .val (.int p4), .val (.int p5), .val (.int len), .val (.ref a), .val (.int i1), .val (.int i2), .val (.int iq), .val (.int b1), .val (.int b2), .val (.int ex), .val (.int ex1), .val (.ref d), .val (.ref c2_29), .unset] [(.int ((ex ^^^ (1 : Int32)).toInt8.toInt32)), (.int iq), (.ref c2_29)])) target → Steps p.tables e below (T29.setTop (mkF m 229 #[.val (.int p0), .val (.int p1), .val (.int p2), .val (.int p3), .val (.int p4), .val (.int p5), .val (.int len), .val (.ref a), .val (.int i1), .val (.int i2), .val (.int iq), .val (.int b1), .val (.int b2), .val (.int ex), .val (.int ex1), .val (.ref d), .val (.ref c2_29), .unset] [(.int ex1)])) target := by
      intro target kt
      show Steps p.tables e below (T29.setTop (mkF m 229 #[.val (.int p0), .val (.int p1), .val (.int p2), .val (.int p3), .val (.int p4), .val (.int p5), .val (.int len), .val (.ref a), .val (.int i1), .val (.int i2), .val (.int iq), .val (.int b1), .val (.int b2), .val (.int ex), .val (.int ex1), .val (.ref d), .val (.ref c2_29), .unset] [(.int ex1)])) _
      refine XS.iload X29.here hx rfl (hb hby at_229) rfl ?_
      show Steps p.tables e below (T29.setTop (mkF m 231 #[.val (.int p0), .val (.int p1), .val (.int p2), .val (.int p3), .val (.int p4), .val (.int p5), .val (.int len), .val (.ref a), .val (.int i1), .val (.int i2), .val (.int iq), .val (.int b1), .val (.int b2), .val (.int ex), .val (.int ex1), .val (.ref d), .val (.ref c2_29), .unset] [(.int ex1), (.int ex1)])) _
      refine XS.icmpYes X29.here hx rfl (pc0 := 231) (pc' := 236) rfl (hb hby at_231) rfl (teq (rfl : ex1 = ex1)).1 (by decide) (by decide) ?_
      show Steps p.tables e below (T29.setTop (mkF m 236 #[.val (.int p0), .val (.int p1), .val (.int p2), .val (.int p3), .val (.int p4), .val (.int p5), .val (.int len), .val (.ref a), .val (.int i1), .val (.int i2), .val (.int iq), .val (.int b1), .val (.int b2), .val (.int ex), .val (.int ex1), .val (.ref d), .val (.ref c2_29), .unset] [])) _
      refine XS.aload X29.here hx rfl (hb hby at_236) rfl rfl ?_
      show Steps p.tables e below (T29.setTop (mkF m 238 #[.val (.int p0), .val (.int p1), .val (.int p2), .val (.int p3), .val (.int p4), .val (.int p5), .val (.int len), .val (.ref a), .val (.int i1), .val (.int i2), .val (.int iq), .val (.int b1), .val (.int b2), .val (.int ex), .val (.int ex1), .val (.ref d), .val (.ref c2_29), .unset] [(.ref c2_29)])) _
      refine XS.iload X29.here hx rfl (hb hby at_238) rfl ?_
      show Steps p.tables e below (T29.setTop (mkF m 240 #[.val (.int p0), .val (.int p1), .val (.int p2), .val (.int p3), .val (.int p4), .val (.int p5), .val (.int len), .val (.ref a), .val (.int i1), .val (.int i2), .val (.int iq), .val (.int b1), .val (.int b2), .val (.int ex), .val (.int ex1), .val (.ref d), .val (.ref c2_29), .unset] [(.int iq), (.ref c2_29)])) _
      refine XS.iload X29.here hx rfl (hb hby at_240) rfl ?_
      show Steps p.tables e below (T29.setTop (mkF m 242 #[.val (.int p0), .val (.int p1), .val (.int p2), .val (.int p3), .val (.int p4), .val (.int p5), .val (.int len), .val (.ref a), .val (.int i1), .val (.int i2), .val (.int iq), .val (.int b1), .val (.int b2), .val (.int ex), .val (.int ex1), .val (.ref d), .val (.ref c2_29), .unset] [(.int ex), (.int iq), (.ref c2_29)])) _
      refine XS.iconst X29.here hx rfl (hb hby at_242) ?_
      show Steps p.tables e below (T29.setTop (mkF m 243 #[.val (.int p0), .val (.int p1), .val (.int p2), .val (.int p3), .val (.int p4), .val (.int p5), .val (.int len), .val (.ref a), .val (.int i1), .val (.int i2), .val (.int iq), .val (.int b1), .val (.int b2), .val (.int ex), .val (.int ex1), .val (.ref d), .val (.ref c2_29), .unset] [(.int (1 : Int32)), (.int ex), (.int iq), (.ref c2_29)])) _
      refine XS.ixor X29.here hx rfl (hb hby at_243) rfl ?_
      show Steps p.tables e below (T29.setTop (mkF m 244 #[.val (.int p0), .val (.int p1), .val (.int p2), .val (.int p3), .val (.int p4), .val (.int p5), .val (.int len), .val (.ref a), .val (.int i1), .val (.int i2), .val (.int iq), .val (.int b1), .val (.int b2), .val (.int ex), .val (.int ex1), .val (.ref d), .val (.ref c2_29), .unset] [(.int (ex ^^^ (1 : Int32))), (.int iq), (.ref c2_29)])) _
      refine XS.i2b X29.here hx rfl (hb hby at_244) rfl ?_
      exact kt
    obtain ⟨cl40, Ar40, qc40, Sz40, Mn40, Hs40, Gs40⟩ := id Hr1
    have hin40 : ¬ (iq < 0 ∨ cl40.slots.size ≤ (iq).toNatClampNeg) := own_in Sz40 R_iq
    obtain ⟨T40, h40, X40, e40, W40, st40⟩ := stB X29 hx hZ rfl Ar40 (j := iq) hin40 (g := (mkF m 245 #[.val (.int p0), .val (.int p1), .val (.int p2), .val (.int p3), .val (.int p4), .val (.int p5), .val (.int len), .val (.ref a), .val (.int i1), .val (.int i2), .val (.int iq), .val (.int b1), .val (.int b2), .val (.int ex), .val (.int ex1), .val (.ref d), .val (.ref c2_29), .unset] [(.int ((ex ^^^ (1 : Int32)).toInt8.toInt32)), (.int iq), (.ref c2_29)])) rfl rfl (hb hby at_245)
    have Hh_c2_29_40 : Arh Z h40 c2_29 k11 .byte len [(iq, (.int (nar .byte ((ex ^^^ (1 : Int32)).toInt8.toInt32)))), (i2, (.int b2)), (i1, (.int b1))] [] (.int (0 : Int32)) := Arh.push Ar40 qc40 Sz40 Mn40 Hs40 Gs40 (fits_nar_byte _) W40 hin40
    have Ex11_40 := Ex11_29.wr W40
    have Ed_40 := Ed_29.wr W40
    have Fc_40 := Fc_29.other W40 (Or.inl ne_d_c2_29)
    have Hc_40 := Hc_29.other W40 ne_c_c2_29
    have Ec_40 := Ec_29.wr W40
    have Hh_a_40 := Hh_a_29.other W40 ne_a_c2_29
    have Er1_40 := Er1.wr W40
    have Z_40 : n0 ≤ h40.size := Nat.le_trans Z_29 (Keep.of_wr W40).1
    have N40 := Fr.snoc X40 N29 g_c2_29
    have st41 : ∀ target, Steps p.tables e below (T40.setTop (mkF m 255 #[.val (.int p0), .val (.int p1), .val (.int p2), .val (.int p3), .val (.int p4), .val (.int p5), .val (.int len), .val (.ref a), .val (.int i1), .val (.int i2), .val (.int iq), .val (.int b1), .val (.int b2), .val (.int ex), .val (.int ex1), .val (.ref d), .val (.ref c2_29), .unset] [(.int ((ex1 ^^^ (1 : Int32)).toInt8.toInt32)), (.int i1), (.ref c2_29)])) target → Steps p.tables e below (T40.setTop (mkF m 246 #[.val (.int p0), .val (.int p1), .val (.int p2), .val (.int p3), .val (.int p4), .val (.int p5), .val (.int len), .val (.ref a), .val (.int i1), .val (.int i2), .val (.int iq), .val (.int b1), .val (.int b2), .val (.int ex), .val (.int ex1), .val (.ref d), .val (.ref c2_29), .unset] [])) target := by
      intro target kt
      show Steps p.tables e below (T40.setTop (mkF m 246 #[.val (.int p0), .val (.int p1), .val (.int p2), .val (.int p3), .val (.int p4), .val (.int p5), .val (.int len), .val (.ref a), .val (.int i1), .val (.int i2), .val (.int iq), .val (.int b1), .val (.int b2), .val (.int ex), .val (.int ex1), .val (.ref d), .val (.ref c2_29), .unset] [])) _
      refine XS.aload X40.here hx rfl (hb hby at_246) rfl rfl ?_
      show Steps p.tables e below (T40.setTop (mkF m 248 #[.val (.int p0), .val (.int p1), .val (.int p2), .val (.int p3), .val (.int p4), .val (.int p5), .val (.int len), .val (.ref a), .val (.int i1), .val (.int i2), .val (.int iq), .val (.int b1), .val (.int b2), .val (.int ex), .val (.int ex1), .val (.ref d), .val (.ref c2_29), .unset] [(.ref c2_29)])) _
      refine XS.iload X40.here hx rfl (hb hby at_248) rfl ?_
      show Steps p.tables e below (T40.setTop (mkF m 250 #[.val (.int p0), .val (.int p1), .val (.int p2), .val (.int p3), .val (.int p4), .val (.int p5), .val (.int len), .val (.ref a), .val (.int i1), .val (.int i2), .val (.int iq), .val (.int b1), .val (.int b2), .val (.int ex), .val (.int ex1), .val (.ref d), .val (.ref c2_29), .unset] [(.int i1), (.ref c2_29)])) _
      refine XS.iload X40.here hx rfl (hb hby at_250) rfl ?_
      show Steps p.tables e below (T40.setTop (mkF m 252 #[.val (.int p0), .val (.int p1), .val (.int p2), .val (.int p3), .val (.int p4), .val (.int p5), .val (.int len), .val (.ref a), .val (.int i1), .val (.int i2), .val (.int iq), .val (.int b1), .val (.int b2), .val (.int ex), .val (.int ex1), .val (.ref d), .val (.ref c2_29), .unset] [(.int ex1), (.int i1), (.ref c2_29)])) _
      refine XS.iconst X40.here hx rfl (hb hby at_252) ?_
      show Steps p.tables e below (T40.setTop (mkF m 253 #[.val (.int p0), .val (.int p1), .val (.int p2), .val (.int p3), .val (.int p4), .val (.int p5), .val (.int len), .val (.ref a), .val (.int i1), .val (.int i2), .val (.int iq), .val (.int b1), .val (.int b2), .val (.int ex), .val (.int ex1), .val (.ref d), .val (.ref c2_29), .unset] [(.int (1 : Int32)), (.int ex1), (.int i1), (.ref c2_29)])) _
      refine XS.ixor X40.here hx rfl (hb hby at_253) rfl ?_
      show Steps p.tables e below (T40.setTop (mkF m 254 #[.val (.int p0), .val (.int p1), .val (.int p2), .val (.int p3), .val (.int p4), .val (.int p5), .val (.int len), .val (.ref a), .val (.int i1), .val (.int i2), .val (.int iq), .val (.int b1), .val (.int b2), .val (.int ex), .val (.int ex1), .val (.ref d), .val (.ref c2_29), .unset] [(.int (ex1 ^^^ (1 : Int32))), (.int i1), (.ref c2_29)])) _
      refine XS.i2b X40.here hx rfl (hb hby at_254) rfl ?_
      exact kt
    obtain ⟨cl42, Ar42, qc42, Sz42, Mn42, Hs42, Gs42⟩ := id Hh_c2_29_40
    have hin42 : ¬ (i1 < 0 ∨ cl42.slots.size ≤ (i1).toNatClampNeg) := own_in Sz42 R_i1
    obtain ⟨T42, h42, X42, e42, W42, st42⟩ := stB X40 hx hZ e40 Ar42 (j := i1) hin42 (g := (mkF m 255 #[.val (.int p0), .val (.int p1), .val (.int p2), .val (.int p3), .val (.int p4), .val (.int p5), .val (.int len), .val (.ref a), .val (.int i1), .val (.int i2), .val (.int iq), .val (.int b1), .val (.int b2), .val (.int ex), .val (.int ex1), .val (.ref d), .val (.ref c2_29), .unset] [(.int ((ex1 ^^^ (1 : Int32)).toInt8.toInt32)), (.int i1), (.ref c2_29)])) rfl rfl (hb hby at_255)
    have Hh_c2_29_42 : Arh Z h42 c2_29 k11 .byte len [(i1, (.int (nar .byte ((ex1 ^^^ (1 : Int32)).toInt8.toInt32)))), (iq, (.int (nar .byte ((ex ^^^ (1 : Int32)).toInt8.toInt32)))), (i2, (.int b2)), (i1, (.int b1))] [] (.int (0 : Int32)) := Arh.push Ar42 qc42 Sz42 Mn42 Hs42 Gs42 (fits_nar_byte _) W42 hin42
    have Ex11_42 := Ex11_40.wr W42
    have Ed_42 := Ed_40.wr W42
    have Fc_42 := Fc_40.other W42 (Or.inl ne_d_c2_29)
    have Hc_42 := Hc_40.other W42 ne_c_c2_29
    have Ec_42 := Ec_40.wr W42
    have Hh_a_42 := Hh_a_40.other W42 ne_a_c2_29
    have Er1_42 := Er1_40.wr W42
    have Z_42 : n0 ≤ h42.size := Nat.le_trans Z_40 (Keep.of_wr W42).1
    have N42 := Fr.snoc X42 N40 g_c2_29
    have st43 : ∀ target, Steps p.tables e below (T42.setTop (mkF m 258 #[.val (.int p0), .val (.int p1), .val (.int p2), .val (.int p3), .val (.int p4), .val (.int p5), .val (.int len), .val (.ref a), .val (.int i1), .val (.int i2), .val (.int iq), .val (.int b1), .val (.int b2), .val (.int ex), .val (.int ex1), .val (.ref d), .val (.ref c2_29), .unset] [(.ref d)])) target → Steps p.tables e below (T42.setTop (mkF m 256 #[.val (.int p0), .val (.int p1), .val (.int p2), .val (.int p3), .val (.int p4), .val (.int p5), .val (.int len), .val (.ref a), .val (.int i1), .val (.int i2), .val (.int iq), .val (.int b1), .val (.int b2), .val (.int ex), .val (.int ex1), .val (.ref d), .val (.ref c2_29), .unset] [])) target := by
      intro target kt
      show Steps p.tables e below (T42.setTop (mkF m 256 #[.val (.int p0), .val (.int p1), .val (.int p2), .val (.int p3), .val (.int p4), .val (.int p5), .val (.int len), .val (.ref a), .val (.int i1), .val (.int i2), .val (.int iq), .val (.int b1), .val (.int b2), .val (.int ex), .val (.int ex1), .val (.ref d), .val (.ref c2_29), .unset] [])) _
      refine XS.aload X42.here hx rfl (hb hby at_256) rfl rfl ?_
      exact kt
    obtain ⟨cq44, kq44, qv44a, qv44b, qv44c⟩ := isOf hZ e42 Ed_42
    obtain ⟨_, _, ⟨T44, L44, k44, n44⟩, -, X44, ⟨Lc44, hQ44, l44, y44, z44⟩, st44⟩ := X42.virtualBack hx (y := (⟨"com/example/imprimatur/imprimatur/verify/DeviceValues", "pkHash", "()[B"⟩ : MethodName)) (z := (⟨"com/example/imprimatur/imprimatur/verify/DeviceValues", "pkHash", "()[B"⟩ : MethodName)) hown (mvT hZ (hw _ (List.mem_of_getElem? (i := 17) rfl))) (mvT hZ (hw _ (List.mem_of_getElem? (i := 18) rfl))) (notFace_of_selects (args := #[]) (mvT hZ (hw _ (List.mem_of_getElem? (i := 20) rfl)))) (mvT hZ (hw _ (List.mem_of_getElem? (i := 20) rfl))) (mvT hZ (hw _ (List.mem_of_getElem? (i := 19) rfl))) (by decide) (backOf (W := 0) (rm_pkHash l Z a0 hw [] d c k11 len [(i2, (.int b2)), (i1, (.int b1))] h42 n0 Z_42 Fc_42 Hc_42 Ec_42 lc) hZ (hw _ (List.mem_of_getElem? (i := 21) rfl)) (hw _ (List.mem_of_getElem? (i := 2) rfl)) (by decide) (by decide)) qv44a qv44c (g := (mkF m 258 #[.val (.int p0), .val (.int p1), .val (.int p2), .val (.int p3), .val (.int p4), .val (.int p5), .val (.int len), .val (.ref a), .val (.int i1), .val (.int i2), .val (.int iq), .val (.int b1), .val (.int b2), .val (.int ex), .val (.int ex1), .val (.ref d), .val (.ref c2_29), .unset] [(.ref d)])) rfl (by rw [hml]; rfl) (Steps.refl _) (argsL := []) (rest := []) (lenOf pd_2 rfl) rfl (by show 2 * 0 + _ ≤ _; exact Nat.le_of_eq rfl) (hb hby at_258) (fun _ _ => ⟨rfl, e42, (by decide : 4 + 1 ≤ _), (by decide : 148 + 48 ≤ _)⟩)
    dsimp only [Pt.U, Pt.locs, Pt.cells, Pt.slots] at X44 l44 y44 z44 st44 hQ44
    subst l44 y44 z44
    obtain ⟨c2_44, rfl, Nq44, K44, sz44, Hr2, Er2⟩ := hQ44
    have N44 := Fr.app N42 Nq44
    have g_c2_44 : n0 ≤ c2_44 := Nat.le_trans Z_42 sz44
    have ne_a_c2_44 : a ≠ c2_44 := Nat.ne_of_lt (Nat.lt_of_lt_of_le Ex11_42.lt sz44)
    have ne_d_c2_44 : d ≠ c2_44 := Nat.ne_of_lt (Nat.lt_of_lt_of_le Ed_42.lt sz44)
    have ne_c_c2_44 : c ≠ c2_44 := Nat.ne_of_lt (Nat.lt_of_lt_of_le Hc_42.lt sz44)
    have ne_c2_29_c2_44 : c2_29 ≠ c2_44 := Nat.ne_of_lt (Nat.lt_of_lt_of_le Er1_42.lt sz44)
    have Ex11_44 := Ex11_42.keep K44
    have Ed_44 := Ed_42.keep K44
    have Fc_44 := Fc_42.keep K44 nin0
    have Hc_44 := Hc_42.keep K44 nin0
    have Ec_44 := Ec_42.keep K44
    have Hh_a_44 := Hh_a_42.keep K44 nin0
    have Er1_44 := Er1_42.keep K44
    have Hh_c2_29_44 := Hh_c2_29_42.keep K44 nin0
    have Z_44 : n0 ≤ T44.heap.size := Nat.le_trans Z_42 K44.1
    have st45 : ∀ target, Steps p.tables e below (T44.setTop (mkF m 284 #[.val (.int p0), .val (.int p1), .val (.int p2), .val (.int p3), .val (.int p4), .val (.int p5), .val (.int len), .val (.ref a), .val (.int i1), .val (.int i2), .val (.int iq), .val (.int b1), .val (.int b2), .val (.int ex), .val (.int ex1), .val (.ref d), .val (.ref c2_29), .val (.ref c2_44)] [(.ref c2_44)])) target → Steps p.tables e below (T44.setTop (mkF m 261 #[.val (.int p0), .val (.int p1), .val (.int p2), .val (.int p3), .val (.int p4), .val (.int p5), .val (.int len), .val (.ref a), .val (.int i1), .val (.int i2), .val (.int iq), .val (.int b1), .val (.int b2), .val (.int ex), .val (.int ex1), .val (.ref d), .val (.ref c2_29), .unset] [(.ref c2_44)])) target := by
      intro target kt
      show Steps p.tables e below (T44.setTop (mkF m 261 #[.val (.int p0), .val (.int p1), .val (.int p2), .val (.int p3), .val (.int p4), .val (.int p5), .val (.int len), .val (.ref a), .val (.int i1), .val (.int i2), .val (.int iq), .val (.int b1), .val (.int b2), .val (.int ex), .val (.int ex1), .val (.ref d), .val (.ref c2_29), .unset] [(.ref c2_44)])) _
      refine XS.astore X44.here hx rfl (hb hby at_261) rfl rfl (l' := #[.val (.int p0), .val (.int p1), .val (.int p2), .val (.int p3), .val (.int p4), .val (.int p5), .val (.int len), .val (.ref a), .val (.int i1), .val (.int i2), .val (.int iq), .val (.int b1), .val (.int b2), .val (.int ex), .val (.int ex1), .val (.ref d), .val (.ref c2_29), .val (.ref c2_44)]) rfl ?_
      show Steps p.tables e below (T44.setTop (mkF m 263 #[.val (.int p0), .val (.int p1), .val (.int p2), .val (.int p3), .val (.int p4), .val (.int p5), .val (.int len), .val (.ref a), .val (.int i1), .val (.int i2), .val (.int iq), .val (.int b1), .val (.int b2), .val (.int ex), .val (.int ex1), .val (.ref d), .val (.ref c2_29), .val (.ref c2_44)] [])) _
      refine XS.aload X44.here hx rfl (hb hby at_263) rfl rfl ?_
      show Steps p.tables e below (T44.setTop (mkF m 265 #[.val (.int p0), .val (.int p1), .val (.int p2), .val (.int p3), .val (.int p4), .val (.int p5), .val (.int len), .val (.ref a), .val (.int i1), .val (.int i2), .val (.int iq), .val (.int b1), .val (.int b2), .val (.int ex), .val (.int ex1), .val (.ref d), .val (.ref c2_29), .val (.ref c2_44)] [(.ref c2_44)])) _
      refine XS.ifnullNo X44.here hx rfl (hb hby at_265) rfl ?_
      show Steps p.tables e below (T44.setTop (mkF m 268 #[.val (.int p0), .val (.int p1), .val (.int p2), .val (.int p3), .val (.int p4), .val (.int p5), .val (.int len), .val (.ref a), .val (.int i1), .val (.int i2), .val (.int iq), .val (.int b1), .val (.int b2), .val (.int ex), .val (.int ex1), .val (.ref d), .val (.ref c2_29), .val (.ref c2_44)] [])) _
      refine XS.aload X44.here hx rfl (hb hby at_268) rfl rfl ?_
      show Steps p.tables e below (T44.setTop (mkF m 270 #[.val (.int p0), .val (.int p1), .val (.int p2), .val (.int p3), .val (.int p4), .val (.int p5), .val (.int len), .val (.ref a), .val (.int i1), .val (.int i2), .val (.int iq), .val (.int b1), .val (.int b2), .val (.int ex), .val (.int ex1), .val (.ref d), .val (.ref c2_29), .val (.ref c2_44)] [(.ref c2_44)])) _
      refine XS.aload X44.here hx rfl (hb hby at_270) rfl rfl ?_
      show Steps p.tables e below (T44.setTop (mkF m 272 #[.val (.int p0), .val (.int p1), .val (.int p2), .val (.int p3), .val (.int p4), .val (.int p5), .val (.int len), .val (.ref a), .val (.int i1), .val (.int i2), .val (.int iq), .val (.int b1), .val (.int b2), .val (.int ex), .val (.int ex1), .val (.ref d), .val (.ref c2_29), .val (.ref c2_44)] [(.ref c2_29), (.ref c2_44)])) _
      refine Jvm.RoadKit.acmp (g := (mkF m 272 #[.val (.int p0), .val (.int p1), .val (.int p2), .val (.int p3), .val (.int p4), .val (.int p5), .val (.int len), .val (.ref a), .val (.int i1), .val (.int i2), .val (.int iq), .val (.int b1), .val (.int b2), .val (.int ex), .val (.int ex1), .val (.ref d), .val (.ref c2_29), .val (.ref c2_44)] [(.ref c2_29), (.ref c2_44)])) X44 hx rfl rfl rfl (pc0 := 272) (pc' := 275) (same := false) rfl (hb hby at_272) rfl (decide_eq_false (fun q => (Ne.symm ne_c2_29_c2_44) (Value.ref.inj q))) (by decide) (by decide) ?_
      show Steps p.tables e below (T44.setTop (mkF m 275 #[.val (.int p0), .val (.int p1), .val (.int p2), .val (.int p3), .val (.int p4), .val (.int p5), .val (.int len), .val (.ref a), .val (.int i1), .val (.int i2), .val (.int iq), .val (.int b1), .val (.int b2), .val (.int ex), .val (.int ex1), .val (.ref d), .val (.ref c2_29), .val (.ref c2_44)] [])) _
      refine XS.aload X44.here hx rfl (hb hby at_275) rfl rfl ?_
      show Steps p.tables e below (T44.setTop (mkF m 277 #[.val (.int p0), .val (.int p1), .val (.int p2), .val (.int p3), .val (.int p4), .val (.int p5), .val (.int len), .val (.ref a), .val (.int i1), .val (.int i2), .val (.int iq), .val (.int b1), .val (.int b2), .val (.int ex), .val (.int ex1), .val (.ref d), .val (.ref c2_29), .val (.ref c2_44)] [(.ref c2_44)])) _
      refine XS.aload X44.here hx rfl (hb hby at_277) rfl rfl ?_
      show Steps p.tables e below (T44.setTop (mkF m 279 #[.val (.int p0), .val (.int p1), .val (.int p2), .val (.int p3), .val (.int p4), .val (.int p5), .val (.int len), .val (.ref a), .val (.int i1), .val (.int i2), .val (.int iq), .val (.int b1), .val (.int b2), .val (.int ex), .val (.int ex1), .val (.ref d), .val (.ref c2_29), .val (.ref c2_44)] [(.ref a), (.ref c2_44)])) _
      refine Jvm.RoadKit.acmp (g := (mkF m 279 #[.val (.int p0), .val (.int p1), .val (.int p2), .val (.int p3), .val (.int p4), .val (.int p5), .val (.int len), .val (.ref a), .val (.int i1), .val (.int i2), .val (.int iq), .val (.int b1), .val (.int b2), .val (.int ex), .val (.int ex1), .val (.ref d), .val (.ref c2_29), .val (.ref c2_44)] [(.ref a), (.ref c2_44)])) X44 hx rfl rfl rfl (pc0 := 279) (pc' := 282) (same := false) rfl (hb hby at_279) rfl (decide_eq_false (fun q => (Ne.symm ne_a_c2_44) (Value.ref.inj q))) (by decide) (by decide) ?_
      show Steps p.tables e below (T44.setTop (mkF m 282 #[.val (.int p0), .val (.int p1), .val (.int p2), .val (.int p3), .val (.int p4), .val (.int p5), .val (.int len), .val (.ref a), .val (.int i1), .val (.int i2), .val (.int iq), .val (.int b1), .val (.int b2), .val (.int ex), .val (.int ex1), .val (.ref d), .val (.ref c2_29), .val (.ref c2_44)] [])) _
      refine XS.aload X44.here hx rfl (hb hby at_282) rfl rfl ?_
      exact kt
    obtain ⟨cl46, Ar46, qc46, Sz46, Mn46, Hs46, Gs46⟩ := id Hr2
    have st47 : ∀ target, Steps p.tables e below (T44.setTop (mkF m 285 #[.val (.int p0), .val (.int p1), .val (.int p2), .val (.int p3), .val (.int p4), .val (.int p5), .val (.int len), .val (.ref a), .val (.int i1), .val (.int i2), .val (.int iq), .val (.int b1), .val (.int b2), .val (.int ex), .val (.int ex1), .val (.ref d), .val (.ref c2_29), .val (.ref c2_44)] [(.int len)])) target → Steps p.tables e below (T44.setTop (mkF m 284 #[.val (.int p0), .val (.int p1), .val (.int p2), .val (.int p3), .val (.int p4), .val (.int p5), .val (.int len), .val (.ref a), .val (.int i1), .val (.int i2), .val (.int iq), .val (.int b1), .val (.int b2), .val (.int ex), .val (.int ex1), .val (.ref d), .val (.ref c2_29), .val (.ref c2_44)] [(.ref c2_44)])) target := fun target kt => X44.arraylength hx (cell := cl46) Ar46.1 (State.isArrayOf_alike hZ.alike Ar46.2.1) (g := (mkF m 284 #[.val (.int p0), .val (.int p1), .val (.int p2), .val (.int p3), .val (.int p4), .val (.int p5), .val (.int len), .val (.ref a), .val (.int i1), .val (.int i2), .val (.int iq), .val (.int b1), .val (.int b2), .val (.int ex), .val (.int ex1), .val (.ref d), .val (.ref c2_29), .val (.ref c2_44)] [(.ref c2_44)])) rfl rfl (hb hby at_284) _ (by rw [len_of (c := cl46) Sz46 Mn46]; exact kt)
    have st48 : ∀ target, Steps p.tables e below (T44.setTop (mkF m 294 #[.val (.int p0), .val (.int p1), .val (.int p2), .val (.int p3), .val (.int p4), .val (.int p5), .val (.int len), .val (.ref a), .val (.int i1), .val (.int i2), .val (.int iq), .val (.int b1), .val (.int b2), .val (.int ex), .val (.int ex1), .val (.ref d), .val (.ref c2_29), .val (.ref c2_44)] [(.int iq), (.ref c2_44)])) target → Steps p.tables e below (T44.setTop (mkF m 285 #[.val (.int p0), .val (.int p1), .val (.int p2), .val (.int p3), .val (.int p4), .val (.int p5), .val (.int len), .val (.ref a), .val (.int i1), .val (.int i2), .val (.int iq), .val (.int b1), .val (.int b2), .val (.int ex), .val (.int ex1), .val (.ref d), .val (.ref c2_29), .val (.ref c2_44)] [(.int len)])) target := by
      intro target kt
      show Steps p.tables e below (T44.setTop (mkF m 285 #[.val (.int p0), .val (.int p1), .val (.int p2), .val (.int p3), .val (.int p4), .val (.int p5), .val (.int len), .val (.ref a), .val (.int i1), .val (.int i2), .val (.int iq), .val (.int b1), .val (.int b2), .val (.int ex), .val (.int ex1), .val (.ref d), .val (.ref c2_29), .val (.ref c2_44)] [(.int len)])) _
      refine XS.iload X44.here hx rfl (hb hby at_285) rfl ?_
      show Steps p.tables e below (T44.setTop (mkF m 287 #[.val (.int p0), .val (.int p1), .val (.int p2), .val (.int p3), .val (.int p4), .val (.int p5), .val (.int len), .val (.ref a), .val (.int i1), .val (.int i2), .val (.int iq), .val (.int b1), .val (.int b2), .val (.int ex), .val (.int ex1), .val (.ref d), .val (.ref c2_29), .val (.ref c2_44)] [(.int len), (.int len)])) _
      refine XS.icmpNo X44.here hx rfl (hb hby at_287) rfl (teq (rfl : len = len)).2 ?_
      show Steps p.tables e below (T44.setTop (mkF m 290 #[.val (.int p0), .val (.int p1), .val (.int p2), .val (.int p3), .val (.int p4), .val (.int p5), .val (.int len), .val (.ref a), .val (.int i1), .val (.int i2), .val (.int iq), .val (.int b1), .val (.int b2), .val (.int ex), .val (.int ex1), .val (.ref d), .val (.ref c2_29), .val (.ref c2_44)] [])) _
      refine XS.aload X44.here hx rfl (hb hby at_290) rfl rfl ?_
      show Steps p.tables e below (T44.setTop (mkF m 292 #[.val (.int p0), .val (.int p1), .val (.int p2), .val (.int p3), .val (.int p4), .val (.int p5), .val (.int len), .val (.ref a), .val (.int i1), .val (.int i2), .val (.int iq), .val (.int b1), .val (.int b2), .val (.int ex), .val (.int ex1), .val (.ref d), .val (.ref c2_29), .val (.ref c2_44)] [(.ref c2_44)])) _
      refine XS.iload X44.here hx rfl (hb hby at_292) rfl ?_
      exact kt
    obtain ⟨cl49, Ar49, qc49, Sz49, Mn49, Hs49, Gs49⟩ := id Hr2
    have hin49 : ¬ (iq < 0 ∨ cl49.slots.size ≤ (iq).toNatClampNeg) := own_in Sz49 R_iq
    have hat49 : cl49.slots[(iq).toNatClampNeg]? = some (.int ex) := atH Hs49 hin49 (by rw [hex]; exact own_get i1 i2 iq b1 b2 R_iq.1)
    have st50 : ∀ target, Steps p.tables e below (T44.setTop (mkF m 295 #[.val (.int p0), .val (.int p1), .val (.int p2), .val (.int p3), .val (.int p4), .val (.int p5), .val (.int len), .val (.ref a), .val (.int i1), .val (.int i2), .val (.int iq), .val (.int b1), .val (.int b2), .val (.int ex), .val (.int ex1), .val (.ref d), .val (.ref c2_29), .val (.ref c2_44)] [(.int ex)])) target → Steps p.tables e below (T44.setTop (mkF m 294 #[.val (.int p0), .val (.int p1), .val (.int p2), .val (.int p3), .val (.int p4), .val (.int p5), .val (.int len), .val (.ref a), .val (.int i1), .val (.int i2), .val (.int iq), .val (.int b1), .val (.int b2), .val (.int ex), .val (.int ex1), .val (.ref d), .val (.ref c2_29), .val (.ref c2_44)] [(.int iq), (.ref c2_44)])) target := fun target kt => X44.baloadBytes hx (j := iq) (v := (.int ex)) Ar49.1 (State.isArrayOf_alike hZ.alike Ar49.2.1) Ar49.2.2 hin49 hat49 (g := (mkF m 294 #[.val (.int p0), .val (.int p1), .val (.int p2), .val (.int p3), .val (.int p4), .val (.int p5), .val (.int len), .val (.ref a), .val (.int i1), .val (.int i2), .val (.int iq), .val (.int b1), .val (.int b2), .val (.int ex), .val (.int ex1), .val (.ref d), .val (.ref c2_29), .val (.ref c2_44)] [(.int iq), (.ref c2_44)])) rfl rfl (hb hby at_294) _ kt
    have st51 : ∀ target, Steps p.tables e below (T44.setTop (mkF m 304 #[.val (.int p0), .val (.int p1), .val (.int p2), .val (.int p3), .val (.int p4), .val (.int p5), .val (.int len), .val (.ref a), .val (.int i1), .val (.int i2), .val (.int iq), .val (.int b1), .val (.int b2), .val (.int ex), .val (.int ex1), .val (.ref d), .val (.ref c2_29), .val (.ref c2_44)] [(.int i1), (.ref c2_44)])) target → Steps p.tables e below (T44.setTop (mkF m 295 #[.val (.int p0), .val (.int p1), .val (.int p2), .val (.int p3), .val (.int p4), .val (.int p5), .val (.int len), .val (.ref a), .val (.int i1), .val (.int i2), .val (.int iq), .val (.int b1), .val (.int b2), .val (.int ex), .val (.int ex1), .val (.ref d), .val (.ref c2_29), .val (.ref c2_44)] [(.int ex)])) target := by
      intro target kt
      show Steps p.tables e below (T44.setTop (mkF m 295 #[.val (.int p0), .val (.int p1), .val (.int p2), .val (.int p3), .val (.int p4), .val (.int p5), .val (.int len), .val (.ref a), .val (.int i1), .val (.int i2), .val (.int iq), .val (.int b1), .val (.int b2), .val (.int ex), .val (.int ex1), .val (.ref d), .val (.ref c2_29), .val (.ref c2_44)] [(.int ex)])) _
      refine XS.iload X44.here hx rfl (hb hby at_295) rfl ?_
      show Steps p.tables e below (T44.setTop (mkF m 297 #[.val (.int p0), .val (.int p1), .val (.int p2), .val (.int p3), .val (.int p4), .val (.int p5), .val (.int len), .val (.ref a), .val (.int i1), .val (.int i2), .val (.int iq), .val (.int b1), .val (.int b2), .val (.int ex), .val (.int ex1), .val (.ref d), .val (.ref c2_29), .val (.ref c2_44)] [(.int ex), (.int ex)])) _
      refine XS.icmpNo X44.here hx rfl (hb hby at_297) rfl (teq (rfl : ex = ex)).2 ?_
      show Steps p.tables e below (T44.setTop (mkF m 300 #[.val (.int p0), .val (.int p1), .val (.int p2), .val (.int p3), .val (.int p4), .val (.int p5), .val (.int len), .val (.ref a), .val (.int i1), .val (.int i2), .val (.int iq), .val (.int b1), .val (.int b2), .val (.int ex), .val (.int ex1), .val (.ref d), .val (.ref c2_29), .val (.ref c2_44)] [])) _
      refine XS.aload X44.here hx rfl (hb hby at_300) rfl rfl ?_
      show Steps p.tables e below (T44.setTop (mkF m 302 #[.val (.int p0), .val (.int p1), .val (.int p2), .val (.int p3), .val (.int p4), .val (.int p5), .val (.int len), .val (.ref a), .val (.int i1), .val (.int i2), .val (.int iq), .val (.int b1), .val (.int b2), .val (.int ex), .val (.int ex1), .val (.ref d), .val (.ref c2_29), .val (.ref c2_44)] [(.ref c2_44)])) _
      refine XS.iload X44.here hx rfl (hb hby at_302) rfl ?_
      exact kt
    obtain ⟨cl52, Ar52, qc52, Sz52, Mn52, Hs52, Gs52⟩ := id Hr2
    have hin52 : ¬ (i1 < 0 ∨ cl52.slots.size ≤ (i1).toNatClampNeg) := own_in Sz52 R_i1
    have hat52 : cl52.slots[(i1).toNatClampNeg]? = some (.int ex1) := atH Hs52 hin52 (by rw [hex1]; exact own_get1 i1 i2 b1 b2 R_i1.1)
    have st53 : ∀ target, Steps p.tables e below (T44.setTop (mkF m 305 #[.val (.int p0), .val (.int p1), .val (.int p2), .val (.int p3), .val (.int p4), .val (.int p5), .val (.int len), .val (.ref a), .val (.int i1), .val (.int i2), .val (.int iq), .val (.int b1), .val (.int b2), .val (.int ex), .val (.int ex1), .val (.ref d), .val (.ref c2_29), .val (.ref c2_44)] [(.int ex1)])) target → Steps p.tables e below (T44.setTop (mkF m 304 #[.val (.int p0), .val (.int p1), .val (.int p2), .val (.int p3), .val (.int p4), .val (.int p5), .val (.int len), .val (.ref a), .val (.int i1), .val (.int i2), .val (.int iq), .val (.int b1), .val (.int b2), .val (.int ex), .val (.int ex1), .val (.ref d), .val (.ref c2_29), .val (.ref c2_44)] [(.int i1), (.ref c2_44)])) target := fun target kt => X44.baloadBytes hx (j := i1) (v := (.int ex1)) Ar52.1 (State.isArrayOf_alike hZ.alike Ar52.2.1) Ar52.2.2 hin52 hat52 (g := (mkF m 304 #[.val (.int p0), .val (.int p1), .val (.int p2), .val (.int p3), .val (.int p4), .val (.int p5), .val (.int len), .val (.ref a), .val (.int i1), .val (.int i2), .val (.int iq), .val (.int b1), .val (.int b2), .val (.int ex), .val (.int ex1), .val (.ref d), .val (.ref c2_29), .val (.ref c2_44)] [(.int i1), (.ref c2_44)])) rfl rfl (hb hby at_304) _ kt
    obtain ⟨fs, hr, hrun, hended, hW, hsame⟩ := X44.leave (v := some (.int (1 : Int32))) (fun h => by rw [Bd.returns] at h; cases h)
    refine ⟨_, _, pre0 _ (st1 _ (st8 _ (st9 _ (st10 _ (st11 _ (st12 _ (st13 _ (st14 _ (st15 _ (st16 _ (st17 _ (st18 _ (st19 _ (st20 _ (st21 _ (st22 _ (st23.trans (st24 _ (st25 _ (st26 _ (st27 _ (st28 _ (st29.trans (st30 _ (st32 _ (st33 _ (st35 _ (st36 _ (st38 _ (st39 _ (st40 _ (st41 _ (st42 _ (st43 _ (st44.trans (st45 _ (st47 _ (st48 _ (st50 _ (st51 _ (st53 _ ?_))))))))))))))))))))))))))))))))))))))))), hrun, hended, _, _, rfl, ?_, ⟨_, rfl⟩, hW, hsame.mono (by decide) (by decide)⟩
    · show Steps p.tables e below (T44.setTop (mkF m 305 #[.val (.int p0), .val (.int p1), .val (.int p2), .val (.int p3), .val (.int p4), .val (.int p5), .val (.int len), .val (.ref a), .val (.int i1), .val (.int i2), .val (.int iq), .val (.int b1), .val (.int b2), .val (.int ex), .val (.int ex1), .val (.ref d), .val (.ref c2_29), .val (.ref c2_44)] [(.int ex1)])) _
      refine XS.iload X44.here hx rfl (hb hby at_305) rfl ?_
      show Steps p.tables e below (T44.setTop (mkF m 307 #[.val (.int p0), .val (.int p1), .val (.int p2), .val (.int p3), .val (.int p4), .val (.int p5), .val (.int len), .val (.ref a), .val (.int i1), .val (.int i2), .val (.int iq), .val (.int b1), .val (.int b2), .val (.int ex), .val (.int ex1), .val (.ref d), .val (.ref c2_29), .val (.ref c2_44)] [(.int ex1), (.int ex1)])) _
      refine XS.icmpNo X44.here hx rfl (hb hby at_307) rfl (teq (rfl : ex1 = ex1)).2 ?_
      show Steps p.tables e below (T44.setTop (mkF m 310 #[.val (.int p0), .val (.int p1), .val (.int p2), .val (.int p3), .val (.int p4), .val (.int p5), .val (.int len), .val (.ref a), .val (.int i1), .val (.int i2), .val (.int iq), .val (.int b1), .val (.int b2), .val (.int ex), .val (.int ex1), .val (.ref d), .val (.ref c2_29), .val (.ref c2_44)] [])) _
      refine XS.iconst X44.here hx rfl (hb hby at_310) ?_
      show Steps p.tables e below (T44.setTop (mkF m 311 #[.val (.int p0), .val (.int p1), .val (.int p2), .val (.int p3), .val (.int p4), .val (.int p5), .val (.int len), .val (.ref a), .val (.int i1), .val (.int i2), .val (.int iq), .val (.int b1), .val (.int b2), .val (.int ex), .val (.int ex1), .val (.ref d), .val (.ref c2_29), .val (.ref c2_44)] [(.int (1 : Int32))])) _
      refine XS.goto X44.here hx rfl (pc0 := 311) (pc' := 315) rfl (hb hby at_311) (by decide) (by decide) ?_
      show Steps p.tables e below (T44.setTop (mkF m 315 #[.val (.int p0), .val (.int p1), .val (.int p2), .val (.int p3), .val (.int p4), .val (.int p5), .val (.int len), .val (.ref a), .val (.int i1), .val (.int i2), .val (.int iq), .val (.int b1), .val (.int b2), .val (.int ex), .val (.int ex1), .val (.ref d), .val (.ref c2_29), .val (.ref c2_44)] [(.int (1 : Int32))])) _
      exact retN X44 hx (t := .boolean) Bd.returns (by simp) (hb hby at_315) hr
    · show Q_rm0 Z p0 p1 p2 p3 p4 p5 h0 n0 _ T44.heap _
      exact ⟨rfl, N44⟩
set_option maxRecDepth 65536 in
set_option maxHeartbeats 40000000 in
theorem comes_1 {Post : Tables → Env → Array Value → State → Outcome → State → Prop} (hpost : ∀ tb e args s v u, (limb_1_1.after args s (.returned v) u = true ∧ limb_1_2.after args s (.returned v) u = true ∧ True) → FrameEnd s (.returned v) u (Jvm.fieldLocs frame_1_writes args s ++ Jvm.arrayLocs frame_1_arrays args s ++ Jvm.staticLocs frame_1_statics s) 24 512 → Post tb e args s (.returned v) u) :
    ArmFor flags0 classFile x code maxLocals ret World_1 tables_1 room_1 Calls_1 rest_1 Pre_1 Post := by
  intro l hfl _ _ p e ha hc hk s m args below hf hA hF happ hP
  obtain ⟨hcalls, hrest, hpre⟩ := hP
  obtain ⟨-, -, -, hnamed, -, -, -, hat⟩ := (Spec.applies_iff hf).mp happ
  obtain ⟨hg, hn⟩ := and_e (Cond.before_iff.mp (show (Jvm.Cond.and given_1 narrow_1).before args s = true from hpre))
  obtain ⟨gg1, gg2⟩ := and_e hg
  obtain ⟨gg3, gg4⟩ := and_e gg2
  obtain ⟨gg5, gg6⟩ := and_e gg4
  obtain ⟨gg7, gg8⟩ := and_e gg6
  obtain ⟨gg9, gg10⟩ := and_e gg8
  obtain ⟨gg11, gg12⟩ := and_e gg10
  obtain ⟨w0, w1, w2, w3, w4, w5, rfl⟩ : ∃ w0 w1 w2 w3 w4 w5 : Value, args = #[w0, w1, w2, w3, w4, w5] := by
    have hs : args.size = 6 := by simpa [Cond.value, given_1] using gg1
    obtain ⟨L⟩ := args
    match L, hs with
    | [w0, w1, w2, w3, w4, w5], _ => exact ⟨w0, w1, w2, w3, w4, w5, rfl⟩
  have hw := fun d (hd : d ∈ tables_1) => atoms_spec (ws := Jvm.Cond.code x code maxLocals ret :: tables_1) hat d (List.mem_cons_of_mem _ hd)
  have hfit : Fit s := fun {y c} hc i hi => by
    obtain ⟨ha, rfl⟩ := Array.getElem?_eq_some_iff.mp hc
    have q := List.all_eq_true.mp ((Array.all_eq_true_iff_forall_mem.mp hF) _ (Array.getElem_mem ha)) i (List.mem_range.mpr hi)
    simpa [Array.getElem?_eq_getElem hi] using q
  obtain ⟨i0, ei0⟩ := is_v gg3
  obtain rfl : w0 = (.int i0) := Option.some.inj ei0
  obtain ⟨i1, ei1⟩ := is_v gg5
  obtain rfl : w1 = (.int i1) := Option.some.inj ei1
  obtain ⟨i2, ei2⟩ := is_v gg7
  obtain rfl : w2 = (.int i2) := Option.some.inj ei2
  obtain ⟨i3, ei3⟩ := is_v gg9
  obtain rfl : w3 = (.int i3) := Option.some.inj ei3
  obtain ⟨i4, ei4⟩ := is_v gg11
  obtain rfl : w4 = (.int i4) := Option.some.inj ei4
  obtain ⟨i5, ei5⟩ := is_v gg12
  obtain rfl : w5 = (.int i5) := Option.some.inj ei5
  obtain ⟨n, o, h1, h2, h3, _, L, rfl, ⟨rfl, N⟩, hq⟩ := rm0 l s _ hw tables_1 i0 i1 i2 i3 i4 i5 s.heap s.heap.size (Nat.le_refl _)  p e ha hc hk s m _ below hf ((Spec.applies_iff_loose hf).mp happ).1 ⟨rfl, State.Warmed39.refl s, rfl⟩ trivial
  refine ⟨n, _, h1, h2, h3, hpost _ _ _ _ _ _ ⟨Cond.after_iff.mpr rfl, Cond.after_iff.mpr (eq_i res_at (Term.int_eval (1)) rfl), trivial⟩ ⟨hq.1, hq.2.1, (hq.2.2.sift fun y hy => Or.inr (N y hy)).mono (by decide) (by decide)⟩⟩
theorem main_1_1 : Claimed_1_1 := comes_1 fun _ _ _ _ _ _ h hF => ⟨h.1, hF⟩
theorem main_1_2 : Claimed_1_2 := comes_1 fun _ _ _ _ _ _ h hF => ⟨h.2.1, hF⟩
end Jvm.Pilot.@@N@@
namespace Jvm.Pilot.@@N@@
open Jvm Jvm.ClassFile Sem Op Lib Jvm.Free Jvm.Stand Jvm.Pilot.@@N@@.Jvm.D
/-! MADE BY PROGRAM (witnessworld.py) out of the Statement's table words and the real class files: 9 classes; the members and pool entries that the words name. The judged class is class 1, her method 1. -/
namespace start1
open Jvm.ClassFile
def u (s : String) : CpInfo := .utf8 (stringToUtf16 s)
/-- a pool by its gaps: so many unusable entries, then the entry; so many at the end -/
def gap : Nat → List CpInfo → List CpInfo
  | 0, r => r
  | n + 1, r => .unusable :: gap n r
def poolList (es : List (Nat × CpInfo)) (last : Nat) : List CpInfo := es.foldr (fun e r => gap e.1 (e.2 :: r)) (gap last [])
def pool (es : List (Nat × CpInfo)) (last : Nat) : Array CpInfo := ⟨poolList es last⟩
def fileOf (pool : Array CpInfo) (this : Nat) (attrs : Array Attribute := #[]) (ms : Array MethodInfo := #[]) (fl : Nat := 33) (sup : Nat := 0) (ifs : Array Nat := #[]) (fds : Array FieldInfo := #[]) : ClassFile where
  minorVersion := 0
  majorVersion := 65
  constantPool := pool
  accessFlags := fl
  thisClass := this
  superClass := sup
  interfaces := ifs
  fields := fds
  methods := ms
  attributes := attrs
def plain (name : String) (sup : Option ClassId) : Class where
  name := name
  kind := .ordinary
  loader := none
  accessFlags := 33
  super := sup
  interfaces := #[]
  cf := none
  fields := #[]
  methods := #[]
  instanceTypes := #[]
  staticTypes := #[]
  resolved := #[]
  callSites := []
  init := .initialized
  statics := none
  mirror := none

def pool0 : Array CpInfo := pool [(5, u "<init>"), (0, u "()V"), (1, .class_ 10), (1, u "java/lang/Object"), (85, u "clone"), (0, u "()Ljava/lang/Object;")] 26

def k0c0 : Code := { maxStack := 0, maxLocals := 1, code := object_method_1_code, exceptionTable := #[], attributes := #[] }
def k0m0 : Method := { name := "<init>", desc := "()V", sig := { parameters := [], returnType := none }, accessFlags := 1, code := some k0c0 }
def k0m1 : Method := { name := "clone", desc := "()Ljava/lang/Object;", sig := { parameters := [], returnType := some (.object "java/lang/Object") }, accessFlags := 260, code := none }
/-- java/lang/Object -/
def k0 : Class := { plain "java/lang/Object" none with
  accessFlags := 33
  interfaces := #[]
  cf := some (fileOf pool0 8 #[] #[{ accessFlags := 1, nameIndex := 5, descriptorIndex := 6, attributes := #[] }, { accessFlags := 260, nameIndex := 96, descriptorIndex := 97, attributes := #[] }] 33 0 #[] #[])
  fields := #[]
  methods := #[k0m0, k0m1]
  instanceTypes := #[]
  staticTypes := #[]
  resolved := Array.replicate 124 none
  statics := none }

def pool1 : Array CpInfo := pool [(2, .class_ 4), (1, u "java/lang/Object"), (0, u "<init>"), (0, u "()V"), (0, .class_ 8), (0, u "com/example/imprimatur/imprimatur/verify/DeviceValues"), (0, .methodref 7 10), (0, .nameAndType 5 11), (0, u "([BLjava/lang/Long;Ljava/lang/Long;[B)V"), (0, .methodref 7 13), (0, .nameAndType 14 15), (0, u "pkHash"), (0, u "()[B"), (0, .integer 2147483647), (0, .class_ 18), (0, u "com/example/imprimatur/imprimatur/verify/DeviceValuesPkHashPinLaw"), (2, u "law"), (0, u "(IIIIII)Z")] 5

def k1m0 : Method := { name := "<init>", desc := "()V", sig := { parameters := [], returnType := none }, accessFlags := 1, code := none }
def k1c1 : Code := { maxStack := 6, maxLocals := 18, code := code, exceptionTable := #[], attributes := #[] }
def k1m1 : Method := { name := "law", desc := "(IIIIII)Z", sig := { parameters := [.int, .int, .int, .int, .int, .int], returnType := some .boolean }, accessFlags := 9, code := some k1c1 }
/-- com/example/imprimatur/imprimatur/verify/DeviceValuesPkHashPinLaw -/
def k1 : Class := { plain "com/example/imprimatur/imprimatur/verify/DeviceValuesPkHashPinLaw" (some 0) with
  accessFlags := 49
  interfaces := #[]
  cf := some (fileOf pool1 17 #[] #[{ accessFlags := 1, nameIndex := 5, descriptorIndex := 6, attributes := #[] }, { accessFlags := 9, nameIndex := 21, descriptorIndex := 22, attributes := #[] }] 49 2 #[] #[])
  fields := #[]
  methods := #[k1m0, k1m1]
  instanceTypes := #[]
  staticTypes := #[]
  resolved := Array.replicate 28 none
  statics := none }

def pool2 : Array CpInfo := pool [(1, .methodref 2 3), (0, .class_ 4), (0, .nameAndType 5 6), (0, u "java/lang/Object"), (0, u "<init>"), (0, u "()V"), (0, .class_ 8), (0, u "com/example/imprimatur/imprimatur/verify/DeviceValues"), (9, .methodref 19 20), (0, .class_ 21), (0, .nameAndType 22 23), (0, u "[B"), (0, u "clone"), (0, u "()Ljava/lang/Object;"), (0, .fieldref 7 25), (0, .nameAndType 26 21), (0, u "pkHash"), (0, .fieldref 7 28), (0, .nameAndType 29 30), (0, u "hwId"), (0, u "Ljava/lang/Long;"), (0, .fieldref 7 32), (0, .nameAndType 33 30), (0, u "swId"), (0, .fieldref 7 35), (0, .nameAndType 36 21), (0, u "publicKey"), (4, u "SHA256_LENGTH"), (0, u "I"), (2, u "SHA384_LENGTH"), (1, u "([BLjava/lang/Long;Ljava/lang/Long;[B)V"), (5, u "()[B")] 22

def k2c0 : Code := { maxStack := 3, maxLocals := 5, code := prog_47_method_1_code, exceptionTable := #[], attributes := #[] }
def k2m0 : Method := { name := "<init>", desc := "([BLjava/lang/Long;Ljava/lang/Long;[B)V", sig := { parameters := [(.array .byte), (.object "java/lang/Long"), (.object "java/lang/Long"), (.array .byte)], returnType := none }, accessFlags := 1, code := some k2c0 }
def k2c1 : Code := { maxStack := 1, maxLocals := 1, code := prog_47_method_2_code, exceptionTable := #[], attributes := #[] }
def k2m1 : Method := { name := "pkHash", desc := "()[B", sig := { parameters := [], returnType := some (.array .byte) }, accessFlags := 0, code := some k2c1 }
/-- com/example/imprimatur/imprimatur/verify/DeviceValues -/
def k2 : Class := { plain "com/example/imprimatur/imprimatur/verify/DeviceValues" (some 0) with
  accessFlags := 49
  interfaces := #[]
  cf := some (fileOf pool2 7 #[] #[{ accessFlags := 1, nameIndex := 5, descriptorIndex := 47, attributes := #[] }, { accessFlags := 0, nameIndex := 26, descriptorIndex := 53, attributes := #[] }] 49 2 #[] #[{ accessFlags := 26, nameIndex := 41, descriptorIndex := 42, attributes := #[] }, { accessFlags := 26, nameIndex := 45, descriptorIndex := 42, attributes := #[] }, { accessFlags := 18, nameIndex := 26, descriptorIndex := 21, attributes := #[] }, { accessFlags := 18, nameIndex := 29, descriptorIndex := 30, attributes := #[] }, { accessFlags := 18, nameIndex := 33, descriptorIndex := 30, attributes := #[] }, { accessFlags := 18, nameIndex := 36, descriptorIndex := 21, attributes := #[] }])
  fields := #[{ name := "SHA256_LENGTH", type := .int, accessFlags := 26, slot := 0, constantValue := 0 }, { name := "SHA384_LENGTH", type := .int, accessFlags := 26, slot := 1, constantValue := 0 }, { name := "pkHash", type := (.array .byte), accessFlags := 18, slot := 0, constantValue := 0 }, { name := "hwId", type := (.object "java/lang/Long"), accessFlags := 18, slot := 1, constantValue := 0 }, { name := "swId", type := (.object "java/lang/Long"), accessFlags := 18, slot := 2, constantValue := 0 }, { name := "publicKey", type := (.array .byte), accessFlags := 18, slot := 3, constantValue := 0 }]
  methods := #[k2m0, k2m1]
  instanceTypes := #[(.array .byte), (.object "java/lang/Long"), (.object "java/lang/Long"), (.array .byte)]
  staticTypes := #[.int, .int]
  resolved := Array.replicate 76 none
  statics := none }

def pool3 : Array CpInfo := pool [(1, .class_ 2), (0, u "java/lang/Cloneable"), (0, .class_ 4), (0, u "java/lang/Object")] 2

/-- java/lang/Cloneable -/
def k3 : Class := { plain "java/lang/Cloneable" (some 0) with
  accessFlags := 1537
  interfaces := #[]
  cf := some (fileOf pool3 1 #[] #[] 1537 3 #[] #[])
  fields := #[]
  methods := #[]
  instanceTypes := #[]
  staticTypes := #[]
  resolved := Array.replicate 7 none
  statics := none }

def pool4 : Array CpInfo := pool [(1, u "java/io/Serializable"), (0, .class_ 1), (0, u "java/lang/Object"), (0, .class_ 3)] 3

/-- java/io/Serializable -/
def k4 : Class := { plain "java/io/Serializable" (some 0) with
  accessFlags := 1537
  interfaces := #[]
  cf := some (fileOf pool4 2 #[] #[] 1537 4 #[] #[])
  fields := #[]
  methods := #[]
  instanceTypes := #[]
  staticTypes := #[]
  resolved := Array.replicate 8 none
  statics := none }

/-- the primitive byte -/
def k5 : Class := { plain "byte" none with kind := .primitive 'B', accessFlags := 0x411 }
/-- [B -/
def k6 : Class := { plain "[B" (some 0) with kind := .array 5 .byte, interfaces := #[3, 4], accessFlags := 1041 }

/-- the primitive int -/
def k7 : Class := { plain "int" none with kind := .primitive 'I', accessFlags := 0x411 }
/-- [I -/
def k8 : Class := { plain "[I" (some 0) with kind := .array 7 .int, interfaces := #[3, 4], accessFlags := 1041 }

def heap : Heap := #[]
def classes : Array Class := #[k0, k1, k2, k3, k4, k5, k6, k7, k8]
def interned : List (Array UInt16 × Addr) := []
def slotsUsed : Nat := 0
def theMethod : MethodId := ⟨1, 1⟩
def args0 : Array Value := #[.int 5, .int 5, .int 5, .int 5, .int 5, .int 5]
def aboutOver (below : List Frame) : State where
  vm := { classes := classes, interned := interned.toArray }
  heap := heap
  slotsUsed := slotsUsed
  threads := #[{ frames := .invoking theMethod args0 :: below }]
def below0 : List Frame := [.native { method := ⟨0, 0⟩, args := #[] }]
def about1 : State := aboutOver below0
def p0 : Program := .bare "" "" ""
def e0 : Env := launch0.env 0 0 0
theorem w_frames : about1.frames = Frame.invoking theMethod args0 :: below0 := rfl
set_option maxRecDepth 65536 in
theorem w_args : argsFit about1.vm theMethod args0 = true := by decide +kernel
set_option maxRecDepth 65536 in
theorem w_heap : heapFits about1 = true := by decide +kernel
set_option maxRecDepth 65536 in
theorem w_runnable : about1.curStatus? = some .runnable := by decide +kernel
set_option maxRecDepth 65536 in
theorem w_alone : about1.alone = true := by decide +kernel
set_option maxRecDepth 65536 in
theorem w_named : about1.methodNamed? x = some theMethod := by decide +kernel
set_option maxRecDepth 65536 in
theorem w_hears : about1.hears theMethod below0 = true := by decide +kernel
set_option maxRecDepth 65536 in
theorem w_ripe : about1.ripe theMethod args0 below0 = true := by decide +kernel
theorem w_running : about1.status = .running := rfl
set_option maxRecDepth 65536 in
theorem w_room : about1.hasRoom e0.platform room_1 = true :=
  launch0.hasRoom_least _ room_1 (by decide +kernel) (by decide +kernel) (by decide +kernel) (by decide +kernel) (by decide +kernel) (by decide +kernel)
theorem allAtoms_all (ts : List Jvm.Cond) (a : Array Jvm.Value) (st : Jvm.State) : (allAtoms ts).before a st = ts.all (fun c => c.before a st) := by
  induction ts with
  | nil => rfl
  | cons c t ih =>
    show (Jvm.Cond.and c (allAtoms t)).before a st = _
    rw [Jvm.Cond.before_and, ih, List.all_cons]
def words1 : List Jvm.Cond := Jvm.Cond.code x code maxLocals ret :: tables_1
/-- a 'code' word, met by the world's own term for the bytes: nothing is compared byte by byte -/
theorem code_word {y : MethodName} {bytes : ByteArray} {mx : Nat} {rt : Option FieldType} {a : Array Value} {s : State} {m : MethodId} {meth : Method} {c : Code} (h1 : s.methodNamed? y = some m) (h2 : s.vm.method? m = some meth) (h3 : meth.code = some c) (h4 : c.code = bytes)
    (h5 : (c.maxLocals == mx && c.exceptionTable.isEmpty && decide (c.maxStack ≤ mostOperands) && decide (meth.sig.returnType = rt) && !meth.locks && decide (parseMethodDescriptor y.desc = some meth.sig)) = true) : (Jvm.Cond.code y bytes mx rt).before a s = true := by
  simp only [Bool.and_eq_true, beq_iff_eq, Bool.not_eq_true', decide_eq_true_eq] at h5
  obtain ⟨⟨⟨⟨⟨g1, g2⟩, g3⟩, g4⟩, g5⟩, g6⟩ := h5
  simp [Cond.before, Cond.holds, Cond.value, h1, h2, h3, h4, g1, g2, g3, g4, g5, g6]
def isCode : Jvm.Cond → Bool
  | .code _ _ _ _ => true
  | _ => false
theorem all_split {L : List Jvm.Cond} {P : Jvm.Cond → Bool} (h1 : L.all (fun c => isCode c || P c) = true) (h2 : ∀ c ∈ L.filter isCode, P c = true) : L.all P = true := by
  refine List.all_eq_true.mpr fun c hc => ?_
  have h := List.all_eq_true.mp h1 c hc
  rcases Bool.eq_false_or_eq_true (isCode c) with hi | hi
  · exact h2 c (List.mem_filter.mpr ⟨hc, hi⟩)
  · simpa [hi] using h
set_option maxRecDepth 65536 in
theorem w_c0 : (Jvm.Cond.code x code maxLocals ret).before args0 about1 = true := code_word (m := ⟨1, 1⟩) (meth := k1m1) (c := k1c1) (by decide +kernel) rfl rfl rfl (by decide +kernel)
set_option maxRecDepth 65536 in
theorem w_c1 : (Jvm.Cond.code ({ cls := "com/example/imprimatur/imprimatur/verify/DeviceValues", name := "<init>", desc := "([BLjava/lang/Long;Ljava/lang/Long;[B)V" } : Jvm.MethodName) prog_47_method_1_code (5 : Nat) (Option.none : Option Jvm.ClassFile.FieldType)).before args0 about1 = true := code_word (m := ⟨2, 0⟩) (meth := k2m0) (c := k2c0) (by decide +kernel) rfl rfl rfl (by decide +kernel)
set_option maxRecDepth 65536 in
theorem w_c2 : (Jvm.Cond.code ({ cls := "java/lang/Object", name := "<init>", desc := "()V" } : Jvm.MethodName) object_method_1_code (1 : Nat) (Option.none : Option Jvm.ClassFile.FieldType)).before args0 about1 = true := code_word (m := ⟨0, 0⟩) (meth := k0m0) (c := k0c0) (by decide +kernel) rfl rfl rfl (by decide +kernel)
set_option maxRecDepth 65536 in
theorem w_c3 : (Jvm.Cond.code ({ cls := "com/example/imprimatur/imprimatur/verify/DeviceValues", name := "pkHash", desc := "()[B" } : Jvm.MethodName) prog_47_method_2_code (1 : Nat) (Option.some (Jvm.ClassFile.FieldType.array Jvm.ClassFile.FieldType.byte))).before args0 about1 = true := code_word (m := ⟨2, 1⟩) (meth := k2m1) (c := k2c1) (by decide +kernel) rfl rfl rfl (by decide +kernel)
def codes1 : List Jvm.Cond := [Jvm.Cond.code x code maxLocals ret, Jvm.Cond.code ({ cls := "com/example/imprimatur/imprimatur/verify/DeviceValues", name := "<init>", desc := "([BLjava/lang/Long;Ljava/lang/Long;[B)V" } : Jvm.MethodName) prog_47_method_1_code (5 : Nat) (Option.none : Option Jvm.ClassFile.FieldType), Jvm.Cond.code ({ cls := "java/lang/Object", name := "<init>", desc := "()V" } : Jvm.MethodName) object_method_1_code (1 : Nat) (Option.none : Option Jvm.ClassFile.FieldType), Jvm.Cond.code ({ cls := "com/example/imprimatur/imprimatur/verify/DeviceValues", name := "pkHash", desc := "()[B" } : Jvm.MethodName) prog_47_method_2_code (1 : Nat) (Option.some (Jvm.ClassFile.FieldType.array Jvm.ClassFile.FieldType.byte))]
set_option maxRecDepth 65536 in
theorem codes_eq : words1.filter isCode = codes1 := rfl
theorem w_codes : ∀ c ∈ words1.filter isCode, c.before args0 about1 = true := by
  rw [codes_eq]
  intro c hc
  simp only [codes1, List.mem_cons, List.not_mem_nil, or_false] at hc
  rcases hc with rfl | rfl | rfl | rfl
  · exact w_c0
  · exact w_c1
  · exact w_c2
  · exact w_c3
set_option maxRecDepth 65536 in
theorem w_t1 : (words1.take 24).all (fun c => isCode c || c.before args0 about1) = true := by decide +kernel
set_option maxRecDepth 65536 in
theorem w_t2 : (words1.drop 24).all (fun c => isCode c || c.before args0 about1) = true := by decide +kernel
theorem w_tables : (allAtoms (Jvm.Cond.code x code maxLocals ret :: tables_1)).before args0 about1 = true := by
  rw [allAtoms_all]
  show words1.all (fun c => c.before args0 about1) = true
  refine all_split ?_ w_codes
  rw [← List.take_append_drop 24 words1, List.all_append, w_t1, w_t2]
  rfl
set_option maxRecDepth 65536 in
theorem w_case : (Jvm.Cond.and given_1 narrow_1).before args0 about1 = true := by decide +kernel
theorem w_applies : (headSpec (Jvm.Cond.code x code maxLocals ret :: tables_1) room_1).applies x e0.platform about1 = true :=
  (Spec.applies_iff w_frames).mpr ⟨w_running, w_runnable, w_alone, w_named, w_hears, w_ripe, w_room, w_tables⟩
theorem atStart : AtStart classFile x code maxLocals ret World_1 tables_1 room_1 Calls_1 rest_1 Pre_1 launch0 p0 e0 about1 theMethod args0 below0 :=
  ⟨lists_1, trivial, launch0.admits_env _ _ _, launch0.least_env, fairChoices_fair.cas, fairChoices_fair.clock, w_frames, w_args, w_heap, w_applies, trivial, trivial, w_case⟩
end start1
theorem witness_1 : WitnessClaimed_1 := ⟨start1.p0, start1.e0, start1.about1, start1.theMethod, start1.args0, start1.below0, start1.atStart⟩
end Jvm.Pilot.@@N@@
