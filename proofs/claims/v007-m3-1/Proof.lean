import JvmDerived
import JvmDerived.Pilot.@@N@@Statement
import JvmDerived.Pilot.@@N@@Code
set_option linter.unusedVariables false
set_option linter.unusedSimpArgs false
namespace Jvm.RoadKit
open Sem ClassFile Op Lib Jvm.Stand Jvm.Free Jvm.LawKit
section New
variable {p : Program} {l : Launch} {e : Env} {R : Room} {s : State} {m : MethodId} {args : Array Value} {below : List Frame} {meth : Method} {c : Code} {T : State} {locs : List Loc} {cells slots : Nat}
theorem retI (X : Stand p l e R s m args below meth c T locs cells slots) (hx : p.tables.exec = Jvm.exec) {pc : Nat} {Ls : Array Slot} {z : Int32} {rest : List Value} (hret : meth.sig.returnType = some .int) (hd : decode c.code pc = .ok (.ireturn, 1)) {fs : List Frame}
    (hl : ∀ (f : JFrame) (acts : List Action), f.method = m → f.locked = none → f.entered = [] → (doReturn e (T.setTop f) acts (some (.int z))).1 = T.setFrames fs) : Steps p.tables e below (T.setTop (mkF m pc Ls (.int z :: rest))) (T.setFrames fs) := by
  have hm' : T.vm.method? m = some meth := X.method'
  have hn : narrow .int (.int z) = .int z := rfl
  show Steps p.tables e below (T.setTop { method := m, pc := pc, locals := Ls, stack := _ :: rest, locked := none }) _
  jvm_step X.here [X.here.top, hx, hd, hm', hret, hn]
  first | (intro acts; rw [hl _ acts rfl rfl rfl]) | rw [hl _ _ rfl rfl rfl]
  exact Steps.refl _
end New
end Jvm.RoadKit
namespace Jvm.Pilot.@@N@@
open Jvm Jvm.ClassFile Sem Op Lib Jvm.Free Jvm.Stand Jvm.LawKit Jvm.RoadKit Bundle Jvm.Pilot.@@N@@.Jvm.D
theorem own_lc_lt (x y : Int64) : lcmpW x y < 0 ↔ x < y := by rw [lcW]; exact lc_lt x y
theorem own_lc_gt (x y : Int64) : 0 < lcmpW x y ↔ y < x := by rw [lcW]; exact lc_gt x y
theorem own_lc_eq (x y : Int64) : lcmpW x y = 0 ↔ x = y := by rw [lcW]; exact lc_eq x y
theorem own_ri {P : Prop} [Decidable P] {a b : Value} (h1 : a.isRef = true) (h2 : b.isRef = true) : (if P then a else b).isRef = true := by
  by_cases h : P
  · rw [if_pos h]; exact h1
  · rw [if_neg h]; exact h2
theorem own_sta_keep {Z : State} {h h' : Heap} {C n d : String} {w : Value} {ws : List Addr} (F : Sta Z h C n d w) (K : Keep h h' ws) (q : ∀ x ∈ ws, ∀ cell : Cell, h[x]? = some cell → cell.vm.isStatics = false) : Sta Z h' C n d w := by
  obtain ⟨cf, i, k, f, st, cell, h1, h2, h3, h4, h5, h6, h7⟩ := F
  exact ⟨cf, i, k, f, st, cell, h1, h2, h3, h4, K.2.1 st cell h5 (fun z => by rw [q st z cell h5] at h6; cases h6), h6, h7⟩
theorem pd_0 : parseMethodDescriptor "(J)Ljava/lang/Long;" = some ⟨[.long], some (.object "java/lang/Long")⟩ := by decide +kernel
theorem pd_1 : parseMethodDescriptor "(J)V" = some ⟨[.long], none⟩ := by decide +kernel
theorem pd_2 : parseMethodDescriptor "()V" = some ⟨[], none⟩ := by decide +kernel
theorem pd_3 : parseMethodDescriptor "([BLjava/lang/Long;Ljava/lang/Long;[B)V" = some ⟨[(.array .byte), (.object "java/lang/Long"), (.object "java/lang/Long"), (.array .byte)], none⟩ := by decide +kernel
theorem pd_4 : parseMethodDescriptor "()Ljava/lang/Object;" = some ⟨[], some (.object "java/lang/Object")⟩ := by decide +kernel
theorem pd_5 : parseMethodDescriptor "()[B" = some ⟨[], some (.array .byte)⟩ := by decide +kernel
theorem pd_6 : parseMethodDescriptor "([BIBBB)Z" = some ⟨[(.array .byte), .int, .byte, .byte, .byte], some .boolean⟩ := by decide +kernel
theorem own_len {args : Array Value} {s : State} {t : Term} {a : Addr} {cell : Cell} {v : Value} (ev : t.eval args s none [] s = some (.ref a)) (hc : s.arrayAt? a = some cell) (h : (Term.length t).eval args s none [] s = some v) : cell.slots.size < 2 ^ 31 := by
  simp only [Term.eval, ev, hc, Option.bind_eq_bind, Option.bind_some] at h
  split at h
  · assumption
  · cases h
theorem own_nar (x : Int32) : nar .byte (x.toInt8.toInt32) = x.toInt8.toInt32 := by
  show (x.toInt8.toInt32).toInt8.toInt32 = _
  apply Int32.toInt_inj.mp
  have a := c_i2b x
  have b := c_i2b (x.toInt8.toInt32)
  omega
theorem own_in {c : Cell} {z j : Int32} (S : c.slots.size = z.toNatClampNeg) (h : 0 ≤ j.toInt ∧ j.toInt < z.toInt) : ¬ (j < 0 ∨ c.slots.size ≤ j.toNatClampNeg) := by
  refine inb_of S ⟨?_, ?_⟩
  · rw [Int32.lt_iff_toInt_lt, show (0 : Int32).toInt = 0 from rfl]; omega
  · rw [Int32.lt_iff_toInt_lt]; omega
theorem own_nat {j : Int32} (h : 0 ≤ j.toInt) : (j.toNatClampNeg : Int) = j.toInt := by
  rw [nat_of]
  rw [Int32.lt_iff_toInt_lt, show (0 : Int32).toInt = 0 from rfl]; omega
theorem own_eqI {i j : Int32} (h : 0 ≤ j.toInt) : (i.toInt = (j.toNatClampNeg : Int)) ↔ i = j := by
  rw [own_nat h]; exact Int32.toInt_inj
theorem own_len4 (x : Int32) : (((x.toUInt32 >>> ((2 : Int32) &&& 31).toUInt32).toInt32) &&& (3 : Int32)) = 0 ∨ (((x.toUInt32 >>> ((2 : Int32) &&& 31).toUInt32).toInt32) &&& (3 : Int32)) = 1 ∨ (((x.toUInt32 >>> ((2 : Int32) &&& 31).toUInt32).toInt32) &&& (3 : Int32)) = 2 ∨ (((x.toUInt32 >>> ((2 : Int32) &&& 31).toUInt32).toInt32) &&& (3 : Int32)) = 3 := by
  have e : (((x.toUInt32 >>> ((2 : Int32) &&& 31).toUInt32).toInt32) &&& (3 : Int32)).toInt = ((x.toUInt32 >>> ((2 : Int32) &&& 31).toUInt32).toInt32).toInt % 4 := c_mask _ 3 2 (by decide) rfl
  simp only [← Int32.toInt_inj, show (0 : Int32).toInt = 0 from rfl, show (1 : Int32).toInt = 1 from rfl, show (2 : Int32).toInt = 2 from rfl, show (3 : Int32).toInt = 3 from rfl]
  omega
theorem d3_0 : decode jdk_18_method_1_code 0 = .ok (.aload_n 0, 1) := by decide +kernel
theorem d3_1 : decode jdk_18_method_1_code 1 = .ok (.invokespecial 1, 3) := by decide +kernel
theorem d3_4 : decode jdk_18_method_1_code 4 = .ok (.return_, 1) := by decide +kernel
theorem pn_0 : plainName "java/lang/Number" = true := by first | (simp [plainName, overriddenIn]; done) | decide +kernel
theorem ef_rm3 (m : MethodId) (x0 : Addr) : entryFrame m #[(.ref x0)] 1 = mkF m 0 #[.val (.ref x0)] [] := by first | (simp [entryFrame, mkF, argsToLocals, Value.category]; done) | rfl
def Q_rm3 (Z : State) (r0 : Addr) (h0 : Heap) (n0 : Nat) (v : Option Value) (h : Heap) (L : List Loc) : Prop := v = none ∧ Fr n0 L ∧ h = h0
set_option maxRecDepth 65536 in
set_option maxHeartbeats 40000000 in
theorem rm3 (l : Launch) (Z : State) (a0 : Array Value) (hw : ∀ d ∈ tables_1, d.before a0 Z = true) (ws : List Jvm.Cond) (r0 : Addr) (h0 : Heap) (n0 : Nat) (Z0 : n0 ≤ h0.size) :
    MetFree l (⟨"java/lang/Number", "<init>", "()V"⟩ : MethodName) (head1 (Jvm.Cond.code (⟨"java/lang/Number", "<init>", "()V"⟩ : MethodName) jdk_18_method_1_code 1 none :: ws) ({ frames := 1, cells := 0, slots := 0, locals := 12 } : Room)) (fun a U => a = #[(.ref r0)] ∧ Z.Warmed39 U.vm ∧ U.heap = h0) (fun _ _ _ _ _ => True) (fun _ U o U' => ∃ v L, o = .returned v ∧ Q_rm3 Z r0 h0 n0 v U'.heap L ∧ FrameEnd U o U' L ({ frames := 1, cells := 0, slots := 0, locals := 12 } : Room).cells ({ frames := 1, cells := 0, slots := 0, locals := 12 } : Room).slots) := by
  refine MetFree.of_bodySF (plainFor_of_name pn_0) hisR ?_
  intro p e s m args below meth c s₁ Bd hml0 hP hK
  obtain ⟨rfl, hZ, hh⟩ := hP
  have hx := Bd.exec
  have hby := Bd.bytes
  have hml : c.maxLocals = 1 := hml0
  have hown : s.vm.findClass "java/lang/Number" = some m.cls := findClass_of_methodNamed Bd.named
  have hnm := (name_of_methodNamed Bd.named Bd.method).1
  have X0 : Stand p l e ({ frames := 1, cells := 0, slots := 0, locals := 12 } : Room) s m #[(.ref r0)] below meth c s₁ [] 0 0 := Stand.of_body Bd
  have e0 : s₁.heap = h0 := by rw [← hh, Bd.state]; rfl
  have N0 := Fr.nil n0
  have pre0 : ∀ t, Steps p.tables e below (s₁.setTop (mkF m 0 #[.val (.ref r0)] [])) t → Steps p.tables e below (s₁.setTop (entryFrame m #[(.ref r0)] 1)) t := fun t k => castTop (ef_rm3 m r0) k
  have st1 : ∀ target, Steps p.tables e below (s₁.setTop (mkF m 1 #[.val (.ref r0)] [(.ref r0)])) target → Steps p.tables e below (s₁.setTop (mkF m 0 #[.val (.ref r0)] [])) target := by
    intro target kt
    show Steps p.tables e below (s₁.setTop (mkF m 0 #[.val (.ref r0)] [])) _
    refine XS.aloadN X0.here hx rfl (hb hby d3_0) rfl rfl ?_
    exact kt
  obtain ⟨T2, X2, e2, st2⟩ := initO X0 hx hZ hown (hw _ (List.mem_of_getElem? (i := 21) rfl)) (hw _ (List.mem_of_getElem? (i := 22) rfl)) (hw _ (List.mem_of_getElem? (i := 23) rfl)) e0 (g := (mkF m 1 #[.val (.ref r0)] [(.ref r0)])) rfl (by rw [hml]; rfl) rfl (hb hby d3_1) (by decide) (W := 0) (by show 2 * 0 + _ ≤ _; exact Nat.le_of_eq rfl) (by decide)
  obtain ⟨fs, hr, hrun, hended, hW, hsame⟩ := X2.leave (v := none) (fun _ => rfl)
  refine ⟨_, _, pre0 _ (st1 _ (st2 _ ?_)), hrun, hended, _, _, rfl, ?_, ⟨_, rfl⟩, hW, hsame.mono (by decide) (by decide)⟩
  · show Steps p.tables e below (T2.setTop (mkF m 4 #[.val (.ref r0)] [])) _
    exact X2.returnOut hx Bd.returns (hb hby d3_4) hr
  · show Q_rm3 Z r0 h0 n0 _ T2.heap _
    rw [e2]
    exact ⟨rfl, N0, rfl⟩
theorem d2_0 : decode jdk_35_method_26_code 0 = .ok (.aload_n 0, 1) := by decide +kernel
theorem d2_1 : decode jdk_35_method_26_code 1 = .ok (.invokespecial 270, 3) := by decide +kernel
theorem d2_4 : decode jdk_35_method_26_code 4 = .ok (.aload_n 0, 1) := by decide +kernel
theorem d2_5 : decode jdk_35_method_26_code 5 = .ok (.lload_n 1, 1) := by decide +kernel
theorem d2_6 : decode jdk_35_method_26_code 6 = .ok (.putfield 273, 3) := by decide +kernel
theorem d2_9 : decode jdk_35_method_26_code 9 = .ok (.return_, 1) := by decide +kernel
theorem pn_1 : plainName "java/lang/Long" = true := by first | (simp [plainName, overriddenIn]; done) | decide +kernel
theorem ef_rm2 (m : MethodId) (x0 : Addr) (x1 : Int64) : entryFrame m #[(.ref x0), (.long x1)] 3 = mkF m 0 #[.val (.ref x0), .val (.long x1), .second] [] := by first | (simp [entryFrame, mkF, argsToLocals, Value.category]; done) | rfl
def Q_rm2 (Z : State) (r0 : Addr) (q1 : Int64) (h0 : Heap) (n0 : Nat) (v : Option Value) (h : Heap) (L : List Loc) : Prop := v = none ∧ Fr n0 L ∧ Keep h0 h [r0] ∧ Exa Z h r0 "java/lang/Long" ∧ Fld Z h r0 "java/lang/Long" "value" "J" (.long q1)
set_option maxRecDepth 65536 in
set_option maxHeartbeats 40000000 in
theorem rm2 (l : Launch) (Z : State) (a0 : Array Value) (hw : ∀ d ∈ tables_1, d.before a0 Z = true) (ws : List Jvm.Cond) (r0 : Addr) (q1 : Int64) (h0 : Heap) (n0 : Nat) (Z0 : n0 ≤ h0.size) (F_value : Fld Z h0 r0 "java/lang/Long" "value" "J" (.long (0 : Int64))) (E_o : Exa Z h0 r0 "java/lang/Long") (g_r0 : n0 ≤ r0) :
    MetFree l (⟨"java/lang/Long", "<init>", "(J)V"⟩ : MethodName) (head1 (Jvm.Cond.code (⟨"java/lang/Long", "<init>", "(J)V"⟩ : MethodName) jdk_35_method_26_code 3 none :: ws) ({ frames := 2, cells := 0, slots := 0, locals := 24 } : Room)) (fun a U => a = #[(.ref r0), (.long q1)] ∧ Z.Warmed39 U.vm ∧ U.heap = h0) (fun _ _ _ _ _ => True) (fun _ U o U' => ∃ v L, o = .returned v ∧ Q_rm2 Z r0 q1 h0 n0 v U'.heap L ∧ FrameEnd U o U' L ({ frames := 2, cells := 0, slots := 0, locals := 24 } : Room).cells ({ frames := 2, cells := 0, slots := 0, locals := 24 } : Room).slots) := by
  refine MetFree.of_bodySF (plainFor_of_name pn_1) hisR ?_
  intro p e s m args below meth c s₁ Bd hml0 hP hK
  obtain ⟨rfl, hZ, hh⟩ := hP
  have hx := Bd.exec
  have hby := Bd.bytes
  have hml : c.maxLocals = 3 := hml0
  have hown : s.vm.findClass "java/lang/Long" = some m.cls := findClass_of_methodNamed Bd.named
  have hnm := (name_of_methodNamed Bd.named Bd.method).1
  have X0 : Stand p l e ({ frames := 2, cells := 0, slots := 0, locals := 24 } : Room) s m #[(.ref r0), (.long q1)] below meth c s₁ [] 0 0 := Stand.of_body Bd
  have e0 : s₁.heap = h0 := by rw [← hh, Bd.state]; rfl
  have N0 := Fr.nil n0
  have pre0 : ∀ t, Steps p.tables e below (s₁.setTop (mkF m 0 #[.val (.ref r0), .val (.long q1), .second] [])) t → Steps p.tables e below (s₁.setTop (entryFrame m #[(.ref r0), (.long q1)] 3)) t := fun t k => castTop (ef_rm2 m r0 q1) k
  have Kp : Keep h0 h0 [r0] := Keep.refl _ _
  have st1 : ∀ target, Steps p.tables e below (s₁.setTop (mkF m 1 #[.val (.ref r0), .val (.long q1), .second] [(.ref r0)])) target → Steps p.tables e below (s₁.setTop (mkF m 0 #[.val (.ref r0), .val (.long q1), .second] [])) target := by
    intro target kt
    show Steps p.tables e below (s₁.setTop (mkF m 0 #[.val (.ref r0), .val (.long q1), .second] [])) _
    refine XS.aloadN X0.here hx rfl (hb hby d2_0) rfl rfl ?_
    exact kt
  obtain ⟨_, _, ⟨T2, L2, k2, n2⟩, -, X2, ⟨Lc2, hQ2, l2, y2, z2⟩, st2⟩ := X0.specialBack hx (y := (⟨"java/lang/Number", "<init>", "()V"⟩ : MethodName)) rfl hown (mvT hZ (hw _ (List.mem_of_getElem? (i := 15) rfl))) (mvT hZ (hw _ (List.mem_of_getElem? (i := 16) rfl))) (mvT hZ (hw _ (List.mem_of_getElem? (i := 20) rfl))) (by decide) (backOf (W := 0) (rm3 l Z a0 hw [] r0  h0 n0 Z0 ) hZ (hw _ (List.mem_of_getElem? (i := 20) rfl)) (hw _ (List.mem_of_getElem? (i := 19) rfl)) (by decide) (by decide)) (g := (mkF m 1 #[.val (.ref r0), .val (.long q1), .second] [(.ref r0)])) rfl (by rw [hml]; rfl) (Steps.refl _) (a := r0) (argsL := []) (rest := []) (lenOf pd_2 rfl) rfl (by show 2 * 0 + _ ≤ _; exact Nat.le_of_eq rfl) (hb hby d2_1) (fun _ _ => ⟨rfl, e0, (by decide : 0 + 0 ≤ _), (by decide : 0 + 0 ≤ _)⟩)
  dsimp only [Pt.U, Pt.locs, Pt.cells, Pt.slots] at X2 l2 y2 z2 st2 hQ2
  subst l2 y2 z2
  obtain ⟨rfl, Nq2, e2⟩ := hQ2
  have N2 := Fr.app N0 Nq2
  have st3 : ∀ target, Steps p.tables e below (T2.setTop (mkF m 6 #[.val (.ref r0), .val (.long q1), .second] [(.long q1), (.ref r0)])) target → Steps p.tables e below (T2.setTop (mkF m 4 #[.val (.ref r0), .val (.long q1), .second] [])) target := by
    intro target kt
    show Steps p.tables e below (T2.setTop (mkF m 4 #[.val (.ref r0), .val (.long q1), .second] [])) _
    refine XS.aloadN X2.here hx rfl (hb hby d2_4) rfl rfl ?_
    show Steps p.tables e below (T2.setTop (mkF m 5 #[.val (.ref r0), .val (.long q1), .second] [(.ref r0)])) _
    refine XS.lloadN X2.here hx rfl (hb hby d2_5) rfl ?_
    exact kt
  obtain ⟨T4, h4, X4, e4, W4, st4⟩ := putF X2 hx hZ hown (host := "") (Or.inl (hw _ (List.mem_of_getElem? (i := 24) rfl))) Via.refl e2 F_value E_o (Or.inr ⟨(hw _ (List.mem_of_getElem? (i := 25) rfl)), rfl, hnm⟩) (hw _ (List.mem_of_getElem? (i := 10) rfl)) (ty := .long) (by decide) rfl rfl (g := (mkF m 6 #[.val (.ref r0), .val (.long q1), .second] [(.long q1), (.ref r0)])) rfl rfl (hb hby d2_6)
  have F_value_r0_4 : Fld Z h4 r0 "java/lang/Long" "value" "J" (.long q1) := F_value.same W4
  have E_o_4 := E_o.wr W4
  have Z_4 : n0 ≤ h4.size := Nat.le_trans Z0 (Keep.of_wr W4).1
  have Kp_4 : Keep h0 h4 [r0] := Kp.wr W4 (Or.inl (List.mem_of_getElem? (i := 0) rfl))
  have N4 := Fr.snoc X4 N2 g_r0
  obtain ⟨fs, hr, hrun, hended, hW, hsame⟩ := X4.leave (v := none) (fun _ => rfl)
  refine ⟨_, _, pre0 _ (st1 _ (st2.trans (st3 _ (st4 _ ?_)))), hrun, hended, _, _, rfl, ?_, ⟨_, rfl⟩, hW, hsame.mono (by decide) (by decide)⟩
  · show Steps p.tables e below (T4.setTop (mkF m 9 #[.val (.ref r0), .val (.long q1), .second] [])) _
    exact X4.returnOut hx Bd.returns (hb hby d2_9) hr
  · show Q_rm2 Z r0 q1 h0 n0 _ T4.heap _
    rw [e4]
    exact ⟨rfl, N4, Kp_4, E_o_4, F_value_r0_4⟩
theorem d1_0 : decode jdk_35_method_24_code 0 = .ok (.sipush 128, 3) := by decide +kernel
theorem d1_3 : decode jdk_35_method_24_code 3 = .ok (.istore_n 2, 1) := by decide +kernel
theorem d1_4 : decode jdk_35_method_24_code 4 = .ok (.lload_n 0, 1) := by decide +kernel
theorem d1_5 : decode jdk_35_method_24_code 5 = .ok (.ldc2_w 230, 3) := by decide +kernel
theorem d1_8 : decode jdk_35_method_24_code 8 = .ok (.lcmp, 1) := by decide +kernel
theorem d1_9 : decode jdk_35_method_24_code 9 = .ok (.ifCond .lt 22, 3) := by decide +kernel
theorem d1_12 : decode jdk_35_method_24_code 12 = .ok (.lload_n 0, 1) := by decide +kernel
theorem d1_13 : decode jdk_35_method_24_code 13 = .ok (.ldc2_w 232, 3) := by decide +kernel
theorem d1_16 : decode jdk_35_method_24_code 16 = .ok (.lcmp, 1) := by decide +kernel
theorem d1_17 : decode jdk_35_method_24_code 17 = .ok (.ifCond .gt 14, 3) := by decide +kernel
theorem d1_20 : decode jdk_35_method_24_code 20 = .ok (.getstatic 234, 3) := by decide +kernel
theorem d1_23 : decode jdk_35_method_24_code 23 = .ok (.lload_n 0, 1) := by decide +kernel
theorem d1_24 : decode jdk_35_method_24_code 24 = .ok (.l2i, 1) := by decide +kernel
theorem d1_25 : decode jdk_35_method_24_code 25 = .ok (.sipush 128, 3) := by decide +kernel
theorem d1_28 : decode jdk_35_method_24_code 28 = .ok (.iadd, 1) := by decide +kernel
theorem d1_29 : decode jdk_35_method_24_code 29 = .ok (.aaload, 1) := by decide +kernel
theorem d1_30 : decode jdk_35_method_24_code 30 = .ok (.areturn, 1) := by decide +kernel
theorem d1_31 : decode jdk_35_method_24_code 31 = .ok (.new 1, 3) := by decide +kernel
theorem d1_34 : decode jdk_35_method_24_code 34 = .ok (.dup, 1) := by decide +kernel
theorem d1_35 : decode jdk_35_method_24_code 35 = .ok (.lload_n 0, 1) := by decide +kernel
theorem d1_36 : decode jdk_35_method_24_code 36 = .ok (.invokespecial 240, 3) := by decide +kernel
theorem d1_39 : decode jdk_35_method_24_code 39 = .ok (.areturn, 1) := by decide +kernel
theorem ef_rm1 (m : MethodId) (x0 : Int64) : entryFrame m #[(.long x0)] 3 = mkF m 0 #[.val (.long x0), .second, .unset] [] := by first | (simp [entryFrame, mkF, argsToLocals, Value.category]; done) | rfl
def Q_rm1 (Z : State) (q0 : Int64) (ca : Addr) (cc : Cell) (val : Int32 → Value) (h0 : Heap) (n0 : Nat) (v : Option Value) (h : Heap) (L : List Loc) : Prop := ∃ t, v = some (.ref t) ∧ Fr n0 L ∧ Keep h0 h [] ∧ Exa Z h t "java/lang/Long"
set_option maxRecDepth 65536 in
set_option maxHeartbeats 40000000 in
theorem rm1 (l : Launch) (Z : State) (a0 : Array Value) (hw : ∀ d ∈ tables_1, d.before a0 Z = true) (ws : List Jvm.Cond) (q0 : Int64) (ca : Addr) (cc : Cell) (val : Int32 → Value) (h0 : Heap) (n0 : Nat) (Z0 : n0 ≤ h0.size) (Bx : Bxs Z ca cc "java/lang/Long" "J" (256 : Int32) val) (Od : Old Z n0 h0) (S_c : Sta Z Z.heap "java/lang/Long$LongCache" "cache" "[Ljava/lang/Long;" (.ref ca)) :
    MetFree l (⟨"java/lang/Long", "valueOf", "(J)Ljava/lang/Long;"⟩ : MethodName) (head1 (Jvm.Cond.code (⟨"java/lang/Long", "valueOf", "(J)Ljava/lang/Long;"⟩ : MethodName) jdk_35_method_24_code 3 (some (.object "java/lang/Long")) :: ws) ({ frames := 3, cells := 1, slots := 1, locals := 39 } : Room)) (fun a U => a = #[(.long q0)] ∧ Z.Warmed39 U.vm ∧ U.heap = h0) (fun _ _ _ _ _ => True) (fun _ U o U' => ∃ v L, o = .returned v ∧ Q_rm1 Z q0 ca cc val h0 n0 v U'.heap L ∧ FrameEnd U o U' L ({ frames := 3, cells := 1, slots := 1, locals := 39 } : Room).cells ({ frames := 3, cells := 1, slots := 1, locals := 39 } : Room).slots) := by
  refine MetFree.of_bodySF (plainFor_of_name pn_1) hisR ?_
  intro p e s m args below meth c s₁ Bd hml0 hP hK
  obtain ⟨rfl, hZ, hh⟩ := hP
  have hx := Bd.exec
  have hby := Bd.bytes
  have hml : c.maxLocals = 3 := hml0
  have hown : s.vm.findClass "java/lang/Long" = some m.cls := findClass_of_methodNamed Bd.named
  have hnm := (name_of_methodNamed Bd.named Bd.method).1
  have X0 : Stand p l e ({ frames := 3, cells := 1, slots := 1, locals := 39 } : Room) s m #[(.long q0)] below meth c s₁ [] 0 0 := Stand.of_body Bd
  have e0 : s₁.heap = h0 := by rw [← hh, Bd.state]; rfl
  have N0 := Fr.nil n0
  have pre0 : ∀ t, Steps p.tables e below (s₁.setTop (mkF m 0 #[.val (.long q0), .second, .unset] [])) t → Steps p.tables e below (s₁.setTop (entryFrame m #[(.long q0)] 3)) t := fun t k => castTop (ef_rm1 m q0) k
  have Kp : Keep h0 h0 [] := Keep.refl _ _
  have st1 : ∀ target, Steps p.tables e below (s₁.setTop (mkF m 9 #[.val (.long q0), .second, .val (.int (128 : Int32))] [(.int (lcmpW q0 (-128 : Int64)))])) target → Steps p.tables e below (s₁.setTop (mkF m 0 #[.val (.long q0), .second, .unset] [])) target := by
    intro target kt
    show Steps p.tables e below (s₁.setTop (mkF m 0 #[.val (.long q0), .second, .unset] [])) _
    refine XS.sipush X0.here hx rfl (hb hby d1_0) ?_
    show Steps p.tables e below (s₁.setTop (mkF m 3 #[.val (.long q0), .second, .unset] [(.int (128 : Int32))])) _
    refine XS.istoreN X0.here hx rfl (hb hby d1_3) rfl (l' := #[.val (.long q0), .second, .val (.int (128 : Int32))]) rfl ?_
    show Steps p.tables e below (s₁.setTop (mkF m 4 #[.val (.long q0), .second, .val (.int (128 : Int32))] [])) _
    refine XS.lloadN X0.here hx rfl (hb hby d1_4) rfl ?_
    show Steps p.tables e below (s₁.setTop (mkF m 5 #[.val (.long q0), .second, .val (.int (128 : Int32))] [(.long q0)])) _
    refine X0.ldc2Long hx hown (mvT hZ (hw _ (List.mem_of_getElem? (i := 8) rfl))) (g := (mkF m 5 #[.val (.long q0), .second, .val (.int (128 : Int32))] [(.long q0)])) rfl (hb hby d1_5) _ ?_
    show Steps p.tables e below (s₁.setTop (mkF m 8 #[.val (.long q0), .second, .val (.int (128 : Int32))] [(.long (-128 : Int64)), (.long q0)])) _
    refine XS.lcmp X0.here hx rfl (hb hby d1_8) rfl ?_
    exact kt
  by_cases hc9 : q0 < (-128 : Int64)
  · have st2 : ∀ target, Steps p.tables e below (s₁.setTop (mkF m 31 #[.val (.long q0), .second, .val (.int (128 : Int32))] [])) target → Steps p.tables e below (s₁.setTop (mkF m 9 #[.val (.long q0), .second, .val (.int (128 : Int32))] [(.int (lcmpW q0 (-128 : Int64)))])) target := by
      intro target kt
      show Steps p.tables e below (s₁.setTop (mkF m 9 #[.val (.long q0), .second, .val (.int (128 : Int32))] [(.int (lcmpW q0 (-128 : Int64)))])) _
      refine XS.ifYes X0.here hx rfl (pc0 := 9) (pc' := 31) rfl (hb hby d1_9) rfl ((if0 _ _).trans (tlt ((own_lc_lt _ _).mpr hc9)).1) (by decide) (by decide) ?_
      exact kt
    obtain ⟨T3, h3, X3, e3, E3, A3, D3, -, st3⟩ := newO X0 hx hZ hown (hw _ (List.mem_of_getElem? (i := 9) rfl)) (hw _ (List.mem_of_getElem? (i := 10) rfl)) (hw _ (List.mem_of_getElem? (i := 6) rfl)) e0 (g := (mkF m 31 #[.val (.long q0), .second, .val (.int (128 : Int32))] [])) rfl (hb hby d1_31) (by decide) (by decide)
    obtain ⟨b, g3⟩ : ∃ z, z = h0.size := ⟨_, rfl⟩
    rw [← g3] at A3 D3 st3
    have g_b : n0 ≤ b := Nat.le_trans Z0 (Nat.le_of_eq g3.symm)
    have sz_b : h0.size ≤ b := Nat.le_trans Kp.1 (Nat.le_of_eq g3.symm)
    have Z_3 : n0 ≤ h3.size := Nat.le_trans Z0 E3.1
    have Kp_3 : Keep h0 h3 [] := Kp.ext E3
    have E_b : Exa Z h3 b "java/lang/Long" := A3
    have F_value_b : Fld Z h3 b "java/lang/Long" "value" "J" (.long (0 : Int64)) := D3 (Or.inr (hw _ (List.mem_of_getElem? (i := 25) rfl))) (ty := .long) (by decide)
    have st4 : ∀ target, Steps p.tables e below (T3.setTop (mkF m 36 #[.val (.long q0), .second, .val (.int (128 : Int32))] [(.long q0), (.ref b), (.ref b)])) target → Steps p.tables e below (T3.setTop (mkF m 34 #[.val (.long q0), .second, .val (.int (128 : Int32))] [(.ref b)])) target := by
      intro target kt
      show Steps p.tables e below (T3.setTop (mkF m 34 #[.val (.long q0), .second, .val (.int (128 : Int32))] [(.ref b)])) _
      refine XS.dup X3.here hx rfl (hb hby d1_34) rfl rfl ?_
      show Steps p.tables e below (T3.setTop (mkF m 35 #[.val (.long q0), .second, .val (.int (128 : Int32))] [(.ref b), (.ref b)])) _
      refine XS.lloadN X3.here hx rfl (hb hby d1_35) rfl ?_
      exact kt
    obtain ⟨_, _, ⟨T5, L5, k5, n5⟩, -, X5, ⟨Lc5, hQ5, l5, y5, z5⟩, st5⟩ := X3.specialBack hx (y := (⟨"java/lang/Long", "<init>", "(J)V"⟩ : MethodName)) rfl hown (mvT hZ (hw _ (List.mem_of_getElem? (i := 11) rfl))) (mvT hZ (hw _ (List.mem_of_getElem? (i := 12) rfl))) (mvT hZ (hw _ (List.mem_of_getElem? (i := 14) rfl))) (by decide) (backOf (W := 1) (rm2 l Z a0 hw [] b q0  h3 n0 Z_3 F_value_b E_b g_b) hZ (hw _ (List.mem_of_getElem? (i := 14) rfl)) (hw _ (List.mem_of_getElem? (i := 6) rfl)) (by decide) (by decide)) (g := (mkF m 36 #[.val (.long q0), .second, .val (.int (128 : Int32))] [(.long q0), (.ref b), (.ref b)])) rfl (by rw [hml]; rfl) (Steps.refl _) (a := b) (argsL := [(.long q0)]) (rest := [(.ref b)]) (lenOf pd_1 rfl) rfl (by show 2 * 0 + _ ≤ _; exact Nat.le_of_eq rfl) (hb hby d1_36) (fun _ _ => ⟨rfl, e3, (by decide : 1 + 0 ≤ _), (by decide : 1 + 0 ≤ _)⟩)
    dsimp only [Pt.U, Pt.locs, Pt.cells, Pt.slots] at X5 l5 y5 z5 st5 hQ5
    subst l5 y5 z5
    obtain ⟨rfl, Nq5, K5, E_b_i, F_value_b_i⟩ := hQ5
    have N5 := Fr.app N0 Nq5
    have E_b_5 := E_b.keep K5
    have Z_5 : n0 ≤ T5.heap.size := Nat.le_trans Z_3 K5.1
    have Kp_5 : Keep h0 T5.heap [] := Kp_3.trans K5 (allS (Or.inr sz_b) (all0))
    obtain ⟨fs, hr, hrun, hended, hW, hsame⟩ := X5.leave (v := some (.ref b)) (fun h => by rw [Bd.returns] at h; cases h)
    refine ⟨_, _, pre0 _ (st1 _ (st2 _ (st3 _ (st4 _ (st5.trans ?_))))), hrun, hended, _, _, rfl, ?_, ⟨_, rfl⟩, hW, hsame.mono (by decide) (by decide)⟩
    · show Steps p.tables e below (T5.setTop (mkF m 39 #[.val (.long q0), .second, .val (.int (128 : Int32))] [(.ref b)])) _
      jvm_step X5.here [X5.here.top, hx, (hb hby d1_39), X5.method', Bd.returns, Value.isRef, FieldType.isReference]
      first | (intro acts; rw [hr _ acts rfl rfl rfl]) | rw [hr _ _ rfl rfl rfl]
      exact Steps.refl _
    · show Q_rm1 Z q0 ca cc val h0 n0 _ T5.heap _
      exact ⟨b, rfl, N5, Kp_5, E_b_i⟩
  · have st6 : ∀ target, Steps p.tables e below (s₁.setTop (mkF m 12 #[.val (.long q0), .second, .val (.int (128 : Int32))] [])) target → Steps p.tables e below (s₁.setTop (mkF m 9 #[.val (.long q0), .second, .val (.int (128 : Int32))] [(.int (lcmpW q0 (-128 : Int64)))])) target := by
      intro target kt
      show Steps p.tables e below (s₁.setTop (mkF m 9 #[.val (.long q0), .second, .val (.int (128 : Int32))] [(.int (lcmpW q0 (-128 : Int64)))])) _
      refine XS.ifNo X0.here hx rfl (hb hby d1_9) rfl ((if0 _ _).trans (flt (mt (own_lc_lt _ _).mp hc9)).1) ?_
      exact kt
    have st7 : ∀ target, Steps p.tables e below (s₁.setTop (mkF m 17 #[.val (.long q0), .second, .val (.int (128 : Int32))] [(.int (lcmpW q0 (127 : Int64)))])) target → Steps p.tables e below (s₁.setTop (mkF m 12 #[.val (.long q0), .second, .val (.int (128 : Int32))] [])) target := by
      intro target kt
      show Steps p.tables e below (s₁.setTop (mkF m 12 #[.val (.long q0), .second, .val (.int (128 : Int32))] [])) _
      refine XS.lloadN X0.here hx rfl (hb hby d1_12) rfl ?_
      show Steps p.tables e below (s₁.setTop (mkF m 13 #[.val (.long q0), .second, .val (.int (128 : Int32))] [(.long q0)])) _
      refine X0.ldc2Long hx hown (mvT hZ (hw _ (List.mem_of_getElem? (i := 56) rfl))) (g := (mkF m 13 #[.val (.long q0), .second, .val (.int (128 : Int32))] [(.long q0)])) rfl (hb hby d1_13) _ ?_
      show Steps p.tables e below (s₁.setTop (mkF m 16 #[.val (.long q0), .second, .val (.int (128 : Int32))] [(.long (127 : Int64)), (.long q0)])) _
      refine XS.lcmp X0.here hx rfl (hb hby d1_16) rfl ?_
      exact kt
    by_cases hc17 : (127 : Int64) < q0
    · have st8 : ∀ target, Steps p.tables e below (s₁.setTop (mkF m 31 #[.val (.long q0), .second, .val (.int (128 : Int32))] [])) target → Steps p.tables e below (s₁.setTop (mkF m 17 #[.val (.long q0), .second, .val (.int (128 : Int32))] [(.int (lcmpW q0 (127 : Int64)))])) target := by
        intro target kt
        show Steps p.tables e below (s₁.setTop (mkF m 17 #[.val (.long q0), .second, .val (.int (128 : Int32))] [(.int (lcmpW q0 (127 : Int64)))])) _
        refine XS.ifYes X0.here hx rfl (pc0 := 17) (pc' := 31) rfl (hb hby d1_17) rfl ((if0 _ _).trans (tlt ((own_lc_gt _ _).mpr hc17)).2.2.1) (by decide) (by decide) ?_
        exact kt
      obtain ⟨T9, h9, X9, e9, E9, A9, D9, -, st9⟩ := newO X0 hx hZ hown (hw _ (List.mem_of_getElem? (i := 9) rfl)) (hw _ (List.mem_of_getElem? (i := 10) rfl)) (hw _ (List.mem_of_getElem? (i := 6) rfl)) e0 (g := (mkF m 31 #[.val (.long q0), .second, .val (.int (128 : Int32))] [])) rfl (hb hby d1_31) (by decide) (by decide)
      obtain ⟨b, g9⟩ : ∃ z, z = h0.size := ⟨_, rfl⟩
      rw [← g9] at A9 D9 st9
      have g_b : n0 ≤ b := Nat.le_trans Z0 (Nat.le_of_eq g9.symm)
      have sz_b : h0.size ≤ b := Nat.le_trans Kp.1 (Nat.le_of_eq g9.symm)
      have Z_9 : n0 ≤ h9.size := Nat.le_trans Z0 E9.1
      have Kp_9 : Keep h0 h9 [] := Kp.ext E9
      have E_b : Exa Z h9 b "java/lang/Long" := A9
      have F_value_b : Fld Z h9 b "java/lang/Long" "value" "J" (.long (0 : Int64)) := D9 (Or.inr (hw _ (List.mem_of_getElem? (i := 25) rfl))) (ty := .long) (by decide)
      have st10 : ∀ target, Steps p.tables e below (T9.setTop (mkF m 36 #[.val (.long q0), .second, .val (.int (128 : Int32))] [(.long q0), (.ref b), (.ref b)])) target → Steps p.tables e below (T9.setTop (mkF m 34 #[.val (.long q0), .second, .val (.int (128 : Int32))] [(.ref b)])) target := by
        intro target kt
        show Steps p.tables e below (T9.setTop (mkF m 34 #[.val (.long q0), .second, .val (.int (128 : Int32))] [(.ref b)])) _
        refine XS.dup X9.here hx rfl (hb hby d1_34) rfl rfl ?_
        show Steps p.tables e below (T9.setTop (mkF m 35 #[.val (.long q0), .second, .val (.int (128 : Int32))] [(.ref b), (.ref b)])) _
        refine XS.lloadN X9.here hx rfl (hb hby d1_35) rfl ?_
        exact kt
      obtain ⟨_, _, ⟨T11, L11, k11, n11⟩, -, X11, ⟨Lc11, hQ11, l11, y11, z11⟩, st11⟩ := X9.specialBack hx (y := (⟨"java/lang/Long", "<init>", "(J)V"⟩ : MethodName)) rfl hown (mvT hZ (hw _ (List.mem_of_getElem? (i := 11) rfl))) (mvT hZ (hw _ (List.mem_of_getElem? (i := 12) rfl))) (mvT hZ (hw _ (List.mem_of_getElem? (i := 14) rfl))) (by decide) (backOf (W := 1) (rm2 l Z a0 hw [] b q0  h9 n0 Z_9 F_value_b E_b g_b) hZ (hw _ (List.mem_of_getElem? (i := 14) rfl)) (hw _ (List.mem_of_getElem? (i := 6) rfl)) (by decide) (by decide)) (g := (mkF m 36 #[.val (.long q0), .second, .val (.int (128 : Int32))] [(.long q0), (.ref b), (.ref b)])) rfl (by rw [hml]; rfl) (Steps.refl _) (a := b) (argsL := [(.long q0)]) (rest := [(.ref b)]) (lenOf pd_1 rfl) rfl (by show 2 * 0 + _ ≤ _; exact Nat.le_of_eq rfl) (hb hby d1_36) (fun _ _ => ⟨rfl, e9, (by decide : 1 + 0 ≤ _), (by decide : 1 + 0 ≤ _)⟩)
      dsimp only [Pt.U, Pt.locs, Pt.cells, Pt.slots] at X11 l11 y11 z11 st11 hQ11
      subst l11 y11 z11
      obtain ⟨rfl, Nq11, K11, E_b_i, F_value_b_i⟩ := hQ11
      have N11 := Fr.app N0 Nq11
      have E_b_11 := E_b.keep K11
      have Z_11 : n0 ≤ T11.heap.size := Nat.le_trans Z_9 K11.1
      have Kp_11 : Keep h0 T11.heap [] := Kp_9.trans K11 (allS (Or.inr sz_b) (all0))
      obtain ⟨fs, hr, hrun, hended, hW, hsame⟩ := X11.leave (v := some (.ref b)) (fun h => by rw [Bd.returns] at h; cases h)
      refine ⟨_, _, pre0 _ (st1 _ (st6 _ (st7 _ (st8 _ (st9 _ (st10 _ (st11.trans ?_))))))), hrun, hended, _, _, rfl, ?_, ⟨_, rfl⟩, hW, hsame.mono (by decide) (by decide)⟩
      · show Steps p.tables e below (T11.setTop (mkF m 39 #[.val (.long q0), .second, .val (.int (128 : Int32))] [(.ref b)])) _
        jvm_step X11.here [X11.here.top, hx, (hb hby d1_39), X11.method', Bd.returns, Value.isRef, FieldType.isReference]
        first | (intro acts; rw [hr _ acts rfl rfl rfl]) | rw [hr _ _ rfl rfl rfl]
        exact Steps.refl _
      · show Q_rm1 Z q0 ca cc val h0 n0 _ T11.heap _
        exact ⟨b, rfl, N11, Kp_11, E_b_i⟩
    · have st12 : ∀ target, Steps p.tables e below (s₁.setTop (mkF m 20 #[.val (.long q0), .second, .val (.int (128 : Int32))] [])) target → Steps p.tables e below (s₁.setTop (mkF m 17 #[.val (.long q0), .second, .val (.int (128 : Int32))] [(.int (lcmpW q0 (127 : Int64)))])) target := by
        intro target kt
        show Steps p.tables e below (s₁.setTop (mkF m 17 #[.val (.long q0), .second, .val (.int (128 : Int32))] [(.int (lcmpW q0 (127 : Int64)))])) _
        refine XS.ifNo X0.here hx rfl (hb hby d1_17) rfl ((if0 _ _).trans (flt (mt (own_lc_gt _ _).mp hc17)).2.2.1) ?_
        exact kt
      obtain ⟨T13, X13, e13, st13⟩ := getS2 X0 hx hZ hown (host := "") (Or.inl (hw _ (List.mem_of_getElem? (i := 57) rfl))) Via.refl e0 (S_c.ext Od.2) (g := (mkF m 20 #[.val (.long q0), .second, .val (.int (128 : Int32))] [])) rfl (hb hby d1_20)
      have st14 : ∀ target, Steps p.tables e below (T13.setTop (mkF m 29 #[.val (.long q0), .second, .val (.int (128 : Int32))] [(.int ((q0.toInt32) + (128 : Int32))), (.ref ca)])) target → Steps p.tables e below (T13.setTop (mkF m 23 #[.val (.long q0), .second, .val (.int (128 : Int32))] [(.ref ca)])) target := by
        intro target kt
        show Steps p.tables e below (T13.setTop (mkF m 23 #[.val (.long q0), .second, .val (.int (128 : Int32))] [(.ref ca)])) _
        refine XS.lloadN X13.here hx rfl (hb hby d1_23) rfl ?_
        show Steps p.tables e below (T13.setTop (mkF m 24 #[.val (.long q0), .second, .val (.int (128 : Int32))] [(.long q0), (.ref ca)])) _
        refine XS.l2i X13.here hx rfl (hb hby d1_24) rfl ?_
        show Steps p.tables e below (T13.setTop (mkF m 25 #[.val (.long q0), .second, .val (.int (128 : Int32))] [(.int (q0.toInt32)), (.ref ca)])) _
        refine XS.sipush X13.here hx rfl (hb hby d1_25) ?_
        show Steps p.tables e below (T13.setTop (mkF m 28 #[.val (.long q0), .second, .val (.int (128 : Int32))] [(.int (128 : Int32)), (.int (q0.toInt32)), (.ref ca)])) _
        refine XS.iadd X13.here hx rfl (hb hby d1_28) rfl ?_
        exact kt
      have hj : 0 ≤ ((q0.toInt32) + (128 : Int32)).toInt ∧ ((q0.toInt32) + (128 : Int32)).toInt < 256 := by
        have a1 := c_l2i q0
        have a2 := c_iadd q0.toInt32 (128 : Int32)
        have a3 := Int32.le_toInt q0.toInt32
        have a4 := Int32.toInt_lt q0.toInt32
        have a5 := Int32.le_toInt (q0.toInt32 + (128 : Int32))
        have a6 := Int32.toInt_lt (q0.toInt32 + (128 : Int32))
        rw [Int64.lt_iff_toInt_lt] at hc9 hc17
        rw [show (128 : Int32).toInt = 128 from rfl] at a2
        rw [show (-128 : Int64).toInt = -128 from rfl] at hc9
        rw [show (127 : Int64).toInt = 127 from rfl] at hc17
        omega
      have hin : ¬ (((q0.toInt32) + (128 : Int32)) < 0 ∨ cc.slots.size ≤ (((q0.toInt32) + (128 : Int32))).toNatClampNeg) := by
        refine inb_of Bx.2.1 ⟨?_, ?_⟩
        · rw [Int32.lt_iff_toInt_lt, show (0 : Int32).toInt = 0 from rfl]; omega
        · rw [Int32.lt_iff_toInt_lt, show (256 : Int32).toInt = 256 from rfl]; omega
      obtain ⟨bx, hat, Ebx, -⟩ := Bx.2.2.2 _ hin
      have Arc := (Bx.ext Od.2).1
      have st15 : ∀ target, Steps p.tables e below (T13.setTop (mkF m 30 #[.val (.long q0), .second, .val (.int (128 : Int32))] [(.ref bx)])) target → Steps p.tables e below (T13.setTop (mkF m 29 #[.val (.long q0), .second, .val (.int (128 : Int32))] [(.int ((q0.toInt32) + (128 : Int32))), (.ref ca)])) target := fun target kt => X13.aaload hx (j := ((q0.toInt32) + (128 : Int32))) (v := (.ref bx)) (by rw [e13]; exact Arc.1) (State.isArrayOf_alike hZ.alike Arc.2.1) rfl Arc.2.2 hin hat (g := (mkF m 29 #[.val (.long q0), .second, .val (.int (128 : Int32))] [(.int ((q0.toInt32) + (128 : Int32))), (.ref ca)])) rfl rfl (hb hby d1_29) _ kt
      obtain ⟨fs, hr, hrun, hended, hW, hsame⟩ := X13.leave (v := some (.ref bx)) (fun h => by rw [Bd.returns] at h; cases h)
      refine ⟨_, _, pre0 _ (st1 _ (st6 _ (st7 _ (st12 _ (st13 _ (st14 _ (st15 _ ?_))))))), hrun, hended, _, _, rfl, ?_, ⟨_, rfl⟩, hW, hsame.mono (by decide) (by decide)⟩
      · show Steps p.tables e below (T13.setTop (mkF m 30 #[.val (.long q0), .second, .val (.int (128 : Int32))] [(.ref bx)])) _
        jvm_step X13.here [X13.here.top, hx, (hb hby d1_30), X13.method', Bd.returns, Value.isRef, FieldType.isReference]
        first | (intro acts; rw [hr _ acts rfl rfl rfl]) | rw [hr _ _ rfl rfl rfl]
        exact Steps.refl _
      · show Q_rm1 Z q0 ca cc val h0 n0 _ T13.heap _
        rw [e13]
        exact ⟨bx, rfl, N0, Kp, Ebx.ext Od.2⟩
theorem d6_0 : decode prog_47_method_6_code 0 = .ok (.aload_n 0, 1) := by decide +kernel
theorem d6_1 : decode prog_47_method_6_code 1 = .ok (.getfield 34, 3) := by decide +kernel
theorem d6_4 : decode prog_47_method_6_code 4 = .ok (.ifnonnull 7, 3) := by decide +kernel
theorem d6_7 : decode prog_47_method_6_code 7 = .ok (.aconst_null, 1) := by decide +kernel
theorem d6_8 : decode prog_47_method_6_code 8 = .ok (.goto 13, 3) := by decide +kernel
theorem d6_11 : decode prog_47_method_6_code 11 = .ok (.aload_n 0, 1) := by decide +kernel
theorem d6_12 : decode prog_47_method_6_code 12 = .ok (.getfield 34, 3) := by decide +kernel
theorem d6_15 : decode prog_47_method_6_code 15 = .ok (.invokevirtual 18, 3) := by decide +kernel
theorem d6_18 : decode prog_47_method_6_code 18 = .ok (.checkcast 19, 3) := by decide +kernel
theorem d6_21 : decode prog_47_method_6_code 21 = .ok (.areturn, 1) := by decide +kernel
theorem pn_2 : plainName "com/example/imprimatur/imprimatur/verify/DeviceValues" = true := by first | (simp [plainName, overriddenIn]; done) | decide +kernel
theorem ef_rmN_publicKey (m : MethodId) (x0 : Addr) : entryFrame m #[(.ref x0)] 1 = mkF m 0 #[.val (.ref x0)] [] := by first | (simp [entryFrame, mkF, argsToLocals, Value.category]; done) | rfl
def Q_rmN_publicKey (Z : State) (r0 : Addr) (h0 : Heap) (n0 : Nat) (v : Option Value) (h : Heap) (L : List Loc) : Prop := v = some .null ∧ Fr n0 L ∧ h = h0
set_option maxRecDepth 65536 in
set_option maxHeartbeats 40000000 in
theorem rmN_publicKey (l : Launch) (Z : State) (a0 : Array Value) (hw : ∀ d ∈ tables_1, d.before a0 Z = true) (ws : List Jvm.Cond) (r0 : Addr) (h0 : Heap) (n0 : Nat) (Z0 : n0 ≤ h0.size) (F_f : Fld Z h0 r0 "com/example/imprimatur/imprimatur/verify/DeviceValues" "publicKey" "[B" .null) :
    MetFree l (⟨"com/example/imprimatur/imprimatur/verify/DeviceValues", "publicKey", "()[B"⟩ : MethodName) (head1 (Jvm.Cond.code (⟨"com/example/imprimatur/imprimatur/verify/DeviceValues", "publicKey", "()[B"⟩ : MethodName) prog_47_method_6_code 1 (some (.array .byte)) :: ws) ({ frames := 0, cells := 0, slots := 0, locals := 0 } : Room)) (fun a U => a = #[(.ref r0)] ∧ Z.Warmed39 U.vm ∧ U.heap = h0) (fun _ _ _ _ _ => True) (fun _ U o U' => ∃ v L, o = .returned v ∧ Q_rmN_publicKey Z r0 h0 n0 v U'.heap L ∧ FrameEnd U o U' L ({ frames := 0, cells := 0, slots := 0, locals := 0 } : Room).cells ({ frames := 0, cells := 0, slots := 0, locals := 0 } : Room).slots) := by
  refine MetFree.of_bodySF (plainFor_of_name pn_2) hisR ?_
  intro p e s m args below meth c s₁ Bd hml0 hP hK
  obtain ⟨rfl, hZ, hh⟩ := hP
  have hx := Bd.exec
  have hby := Bd.bytes
  have hml : c.maxLocals = 1 := hml0
  have hown : s.vm.findClass "com/example/imprimatur/imprimatur/verify/DeviceValues" = some m.cls := findClass_of_methodNamed Bd.named
  have hnm := (name_of_methodNamed Bd.named Bd.method).1
  have X0 : Stand p l e ({ frames := 0, cells := 0, slots := 0, locals := 0 } : Room) s m #[(.ref r0)] below meth c s₁ [] 0 0 := Stand.of_body Bd
  have e0 : s₁.heap = h0 := by rw [← hh, Bd.state]; rfl
  have N0 := Fr.nil n0
  have pre0 : ∀ t, Steps p.tables e below (s₁.setTop (mkF m 0 #[.val (.ref r0)] [])) t → Steps p.tables e below (s₁.setTop (entryFrame m #[(.ref r0)] 1)) t := fun t k => castTop (ef_rmN_publicKey m r0) k
  have st1 : ∀ target, Steps p.tables e below (s₁.setTop (mkF m 1 #[.val (.ref r0)] [(.ref r0)])) target → Steps p.tables e below (s₁.setTop (mkF m 0 #[.val (.ref r0)] [])) target := by
    intro target kt
    show Steps p.tables e below (s₁.setTop (mkF m 0 #[.val (.ref r0)] [])) _
    refine XS.aloadN X0.here hx rfl (hb hby d6_0) rfl rfl ?_
    exact kt
  obtain ⟨T2, X2, e2, st2⟩ := getF X0 hx hZ hown (host := "") (Or.inl (hw _ (List.mem_of_getElem? (i := 45) rfl))) Via.refl e0 F_f (g := (mkF m 1 #[.val (.ref r0)] [(.ref r0)])) rfl rfl (hb hby d6_1)
  obtain ⟨fs, hr, hrun, hended, hW, hsame⟩ := X2.leave (v := some .null) (fun h => by rw [Bd.returns] at h; cases h)
  refine ⟨_, _, pre0 _ (st1 _ (st2 _ ?_)), hrun, hended, _, _, rfl, ?_, ⟨_, rfl⟩, hW, hsame.mono (by decide) (by decide)⟩
  · show Steps p.tables e below (T2.setTop (mkF m 4 #[.val (.ref r0)] [.null])) _
    refine XS.ifnonnullNo X2.here hx rfl (hb hby d6_4) rfl ?_
    show Steps p.tables e below (T2.setTop (mkF m 7 #[.val (.ref r0)] [])) _
    refine XS.aconstNull X2.here hx rfl (hb hby d6_7) ?_
    show Steps p.tables e below (T2.setTop (mkF m 8 #[.val (.ref r0)] [.null])) _
    refine XS.goto X2.here hx rfl (pc0 := 8) (pc' := 21) rfl (hb hby d6_8) (by decide) (by decide) ?_
    show Steps p.tables e below (T2.setTop (mkF m 21 #[.val (.ref r0)] [.null])) _
    jvm_step X2.here [X2.here.top, hx, (hb hby d6_21), X2.method', Bd.returns, Value.isRef, FieldType.isReference]
    first | (intro acts; rw [hr _ acts rfl rfl rfl]) | rw [hr _ _ rfl rfl rfl]
    exact Steps.refl _
  · show Q_rmN_publicKey Z r0 h0 n0 _ T2.heap _
    rw [e2]
    exact ⟨rfl, N0, rfl⟩
theorem ef_rm_publicKey (m : MethodId) (x0 : Addr) : entryFrame m #[(.ref x0)] 1 = mkF m 0 #[.val (.ref x0)] [] := by first | (simp [entryFrame, mkF, argsToLocals, Value.category]; done) | rfl
def Q_rm_publicKey (Z : State) (r0 : Addr) (cf : Addr) (k : ClassId) (z : Int32) (hs : List (Int32 × Value)) (h0 : Heap) (n0 : Nat) (v : Option Value) (h : Heap) (L : List Loc) : Prop := ∃ c2, v = some (.ref c2) ∧ Fr n0 L ∧ Keep h0 h [] ∧ h0.size ≤ c2 ∧ Arh Z h c2 k .byte z hs [] (.int (0 : Int32)) ∧ Exa Z h c2 "[B"
set_option maxRecDepth 65536 in
set_option maxHeartbeats 40000000 in
theorem rm_publicKey (l : Launch) (Z : State) (a0 : Array Value) (hw : ∀ d ∈ tables_1, d.before a0 Z = true) (ws : List Jvm.Cond) (r0 : Addr) (cf : Addr) (k : ClassId) (z : Int32) (hs : List (Int32 × Value)) (h0 : Heap) (n0 : Nat) (Z0 : n0 ≤ h0.size) (F_f : Fld Z h0 r0 "com/example/imprimatur/imprimatur/verify/DeviceValues" "publicKey" "[B" (.ref cf)) (Hc : Arh Z h0 cf k .byte z hs [] (.int (0 : Int32))) (Ec : Exa Z h0 cf "[B") (hz : z.toNatClampNeg ≤ 3) :
    MetFree l (⟨"com/example/imprimatur/imprimatur/verify/DeviceValues", "publicKey", "()[B"⟩ : MethodName) (head1 (Jvm.Cond.code (⟨"com/example/imprimatur/imprimatur/verify/DeviceValues", "publicKey", "()[B"⟩ : MethodName) prog_47_method_6_code 1 (some (.array .byte)) :: ws) ({ frames := 1, cells := 1, slots := 3, locals := 14 } : Room)) (fun a U => a = #[(.ref r0)] ∧ Z.Warmed39 U.vm ∧ U.heap = h0) (fun _ _ _ _ _ => True) (fun _ U o U' => ∃ v L, o = .returned v ∧ Q_rm_publicKey Z r0 cf k z hs h0 n0 v U'.heap L ∧ FrameEnd U o U' L ({ frames := 1, cells := 1, slots := 3, locals := 14 } : Room).cells ({ frames := 1, cells := 1, slots := 3, locals := 14 } : Room).slots) := by
  refine MetFree.of_bodySF (plainFor_of_name pn_2) hisR ?_
  intro p e s m args below meth c s₁ Bd hml0 hP hK
  obtain ⟨rfl, hZ, hh⟩ := hP
  have hx := Bd.exec
  have hby := Bd.bytes
  have hml : c.maxLocals = 1 := hml0
  have hown : s.vm.findClass "com/example/imprimatur/imprimatur/verify/DeviceValues" = some m.cls := findClass_of_methodNamed Bd.named
  have hnm := (name_of_methodNamed Bd.named Bd.method).1
  have X0 : Stand p l e ({ frames := 1, cells := 1, slots := 3, locals := 14 } : Room) s m #[(.ref r0)] below meth c s₁ [] 0 0 := Stand.of_body Bd
  have e0 : s₁.heap = h0 := by rw [← hh, Bd.state]; rfl
  have N0 := Fr.nil n0
  have pre0 : ∀ t, Steps p.tables e below (s₁.setTop (mkF m 0 #[.val (.ref r0)] [])) t → Steps p.tables e below (s₁.setTop (entryFrame m #[(.ref r0)] 1)) t := fun t k => castTop (ef_rm_publicKey m r0) k
  have Kp : Keep h0 h0 [] := Keep.refl _ _
  have st1 : ∀ target, Steps p.tables e below (s₁.setTop (mkF m 1 #[.val (.ref r0)] [(.ref r0)])) target → Steps p.tables e below (s₁.setTop (mkF m 0 #[.val (.ref r0)] [])) target := by
    intro target kt
    show Steps p.tables e below (s₁.setTop (mkF m 0 #[.val (.ref r0)] [])) _
    refine XS.aloadN X0.here hx rfl (hb hby d6_0) rfl rfl ?_
    exact kt
  obtain ⟨T2, X2, e2, st2⟩ := getF X0 hx hZ hown (host := "") (Or.inl (hw _ (List.mem_of_getElem? (i := 45) rfl))) Via.refl e0 F_f (g := (mkF m 1 #[.val (.ref r0)] [(.ref r0)])) rfl rfl (hb hby d6_1)
  have st3 : ∀ target, Steps p.tables e below (T2.setTop (mkF m 12 #[.val (.ref r0)] [(.ref r0)])) target → Steps p.tables e below (T2.setTop (mkF m 4 #[.val (.ref r0)] [(.ref cf)])) target := by
    intro target kt
    show Steps p.tables e below (T2.setTop (mkF m 4 #[.val (.ref r0)] [(.ref cf)])) _
    refine XS.ifnonnullYes X2.here hx rfl (pc0 := 4) (pc' := 11) rfl (hb hby d6_4) rfl (by decide) (by decide) ?_
    show Steps p.tables e below (T2.setTop (mkF m 11 #[.val (.ref r0)] [])) _
    refine XS.aloadN X2.here hx rfl (hb hby d6_11) rfl rfl ?_
    exact kt
  obtain ⟨T4, X4, e4, st4⟩ := getF X2 hx hZ hown (host := "") (Or.inl (hw _ (List.mem_of_getElem? (i := 45) rfl))) Via.refl e2 F_f (g := (mkF m 12 #[.val (.ref r0)] [(.ref r0)])) rfl rfl (hb hby d6_12)
  obtain ⟨T5, h5, X5, e5, E5, Hh_c2, Ex5, st5⟩ := cloneH X4 hx hZ hown (hw _ (List.mem_of_getElem? (i := 36) rfl)) (hw _ (List.mem_of_getElem? (i := 37) rfl)) (hw _ (List.mem_of_getElem? (i := 41) rfl)) (hw _ (List.mem_of_getElem? (i := 39) rfl)) (hw _ (List.mem_of_getElem? (i := 40) rfl)) (hw _ (List.mem_of_getElem? (i := 42) rfl)) e4 Hc Ec (g := (mkF m 15 #[.val (.ref r0)] [(.ref cf)])) rfl (by rw [hml]; rfl) rfl (hb hby d6_15) (by decide) (W := 0) (cap := 3) (by show 2 * 0 + _ ≤ _; exact Nat.le_of_eq rfl) (by decide) hz (by decide) (by decide)
  obtain ⟨c2, g5⟩ : ∃ z, z = h0.size := ⟨_, rfl⟩
  rw [← g5] at Hh_c2 Ex5 st5
  have g_c2 : n0 ≤ c2 := Nat.le_trans Z0 (Nat.le_of_eq g5.symm)
  have sz_c2 : h0.size ≤ c2 := Nat.le_trans Kp.1 (Nat.le_of_eq g5.symm)
  have ne_r0_c2 : r0 ≠ c2 := Nat.ne_of_lt (Nat.lt_of_lt_of_le F_f.lt (Nat.le_of_eq g5.symm))
  have ne_cf_c2 : cf ≠ c2 := Nat.ne_of_lt (Nat.lt_of_lt_of_le Hc.lt (Nat.le_of_eq g5.symm))
  have F_f_5 := F_f.ext E5
  have Hc_5 := Hc.ext E5
  have Ec_5 := Ec.ext E5
  have Z_5 : n0 ≤ h5.size := Nat.le_trans Z0 E5.1
  have Kp_5 : Keep h0 h5 [] := Kp.ext E5
  obtain ⟨T6, X6, e6, st6⟩ := castY X5 hx hZ hown (hw _ (List.mem_of_getElem? (i := 43) rfl)) e5 (Ins.self Ex5) (g := (mkF m 18 #[.val (.ref r0)] [(.ref c2)])) rfl rfl (hb hby d6_18)
  obtain ⟨fs, hr, hrun, hended, hW, hsame⟩ := X6.leave (v := some (.ref c2)) (fun h => by rw [Bd.returns] at h; cases h)
  refine ⟨_, _, pre0 _ (st1 _ (st2 _ (st3 _ (st4 _ (st5 _ (st6 _ ?_)))))), hrun, hended, _, _, rfl, ?_, ⟨_, rfl⟩, hW, hsame.mono (by decide) (by decide)⟩
  · show Steps p.tables e below (T6.setTop (mkF m 21 #[.val (.ref r0)] [(.ref c2)])) _
    jvm_step X6.here [X6.here.top, hx, (hb hby d6_21), X6.method', Bd.returns, Value.isRef, FieldType.isReference]
    first | (intro acts; rw [hr _ acts rfl rfl rfl]) | rw [hr _ _ rfl rfl rfl]
    exact Steps.refl _
  · show Q_rm_publicKey Z r0 cf k z hs h0 n0 _ T6.heap _
    rw [e6]
    exact ⟨c2, rfl, N0, Kp_5, sz_c2, Hh_c2, Ex5⟩
theorem d5_0 : decode prog_47_method_1_code 0 = .ok (.aload_n 0, 1) := by decide +kernel
theorem d5_1 : decode prog_47_method_1_code 1 = .ok (.invokespecial 1, 3) := by decide +kernel
theorem d5_4 : decode prog_47_method_1_code 4 = .ok (.aload_n 1, 1) := by decide +kernel
theorem d5_5 : decode prog_47_method_1_code 5 = .ok (.ifnull 32, 3) := by decide +kernel
theorem d5_8 : decode prog_47_method_1_code 8 = .ok (.aload_n 1, 1) := by decide +kernel
theorem d5_9 : decode prog_47_method_1_code 9 = .ok (.arraylength, 1) := by decide +kernel
theorem d5_10 : decode prog_47_method_1_code 10 = .ok (.bipush 32, 2) := by decide +kernel
theorem d5_12 : decode prog_47_method_1_code 12 = .ok (.if_icmp .eq 25, 3) := by decide +kernel
theorem d5_15 : decode prog_47_method_1_code 15 = .ok (.aload_n 1, 1) := by decide +kernel
theorem d5_16 : decode prog_47_method_1_code 16 = .ok (.arraylength, 1) := by decide +kernel
theorem d5_17 : decode prog_47_method_1_code 17 = .ok (.bipush 48, 2) := by decide +kernel
theorem d5_19 : decode prog_47_method_1_code 19 = .ok (.if_icmp .eq 18, 3) := by decide +kernel
theorem d5_22 : decode prog_47_method_1_code 22 = .ok (.new 9, 3) := by decide +kernel
theorem d5_25 : decode prog_47_method_1_code 25 = .ok (.dup, 1) := by decide +kernel
theorem d5_26 : decode prog_47_method_1_code 26 = .ok (.aload_n 1, 1) := by decide +kernel
theorem d5_27 : decode prog_47_method_1_code 27 = .ok (.arraylength, 1) := by decide +kernel
theorem d5_33 : decode prog_47_method_1_code 33 = .ok (.invokespecial 15, 3) := by decide +kernel
theorem d5_36 : decode prog_47_method_1_code 36 = .ok (.athrow, 1) := by decide +kernel
theorem d5_37 : decode prog_47_method_1_code 37 = .ok (.aload_n 0, 1) := by decide +kernel
theorem d5_38 : decode prog_47_method_1_code 38 = .ok (.aload_n 1, 1) := by decide +kernel
theorem d5_39 : decode prog_47_method_1_code 39 = .ok (.ifnonnull 7, 3) := by decide +kernel
theorem d5_42 : decode prog_47_method_1_code 42 = .ok (.aconst_null, 1) := by decide +kernel
theorem d5_43 : decode prog_47_method_1_code 43 = .ok (.goto 10, 3) := by decide +kernel
theorem d5_46 : decode prog_47_method_1_code 46 = .ok (.aload_n 1, 1) := by decide +kernel
theorem d5_47 : decode prog_47_method_1_code 47 = .ok (.invokevirtual 18, 3) := by decide +kernel
theorem d5_50 : decode prog_47_method_1_code 50 = .ok (.checkcast 19, 3) := by decide +kernel
theorem d5_53 : decode prog_47_method_1_code 53 = .ok (.putfield 24, 3) := by decide +kernel
theorem d5_56 : decode prog_47_method_1_code 56 = .ok (.aload_n 0, 1) := by decide +kernel
theorem d5_57 : decode prog_47_method_1_code 57 = .ok (.aload_n 2, 1) := by decide +kernel
theorem d5_58 : decode prog_47_method_1_code 58 = .ok (.putfield 27, 3) := by decide +kernel
theorem d5_61 : decode prog_47_method_1_code 61 = .ok (.aload_n 0, 1) := by decide +kernel
theorem d5_62 : decode prog_47_method_1_code 62 = .ok (.aload_n 3, 1) := by decide +kernel
theorem d5_63 : decode prog_47_method_1_code 63 = .ok (.putfield 31, 3) := by decide +kernel
theorem d5_66 : decode prog_47_method_1_code 66 = .ok (.aload_n 0, 1) := by decide +kernel
theorem d5_67 : decode prog_47_method_1_code 67 = .ok (.aload 4, 2) := by decide +kernel
theorem d5_69 : decode prog_47_method_1_code 69 = .ok (.ifnonnull 7, 3) := by decide +kernel
theorem d5_72 : decode prog_47_method_1_code 72 = .ok (.aconst_null, 1) := by decide +kernel
theorem d5_73 : decode prog_47_method_1_code 73 = .ok (.goto 11, 3) := by decide +kernel
theorem d5_76 : decode prog_47_method_1_code 76 = .ok (.aload 4, 2) := by decide +kernel
theorem d5_78 : decode prog_47_method_1_code 78 = .ok (.invokevirtual 18, 3) := by decide +kernel
theorem d5_81 : decode prog_47_method_1_code 81 = .ok (.checkcast 19, 3) := by decide +kernel
theorem d5_84 : decode prog_47_method_1_code 84 = .ok (.putfield 34, 3) := by decide +kernel
theorem d5_87 : decode prog_47_method_1_code 87 = .ok (.return_, 1) := by decide +kernel
theorem ef_rmI00 (m : MethodId) (x0 : Addr) (x2 : Addr) : entryFrame m #[(.ref x0), .null, (.ref x2), .null, .null] 5 = mkF m 0 #[.val (.ref x0), .val .null, .val (.ref x2), .val .null, .val .null] [] := by first | (simp [entryFrame, mkF, argsToLocals, Value.category]; done) | rfl
def Q_rmI00 (Z : State) (r0 : Addr) (r2 : Addr) (h0 : Heap) (n0 : Nat) (v : Option Value) (h : Heap) (L : List Loc) : Prop := v = none ∧ Fr n0 L ∧ Keep h0 h [r0] ∧ Exa Z h r0 "com/example/imprimatur/imprimatur/verify/DeviceValues" ∧ Fld Z h r0 "com/example/imprimatur/imprimatur/verify/DeviceValues" "publicKey" "[B" .null
set_option maxRecDepth 65536 in
set_option maxHeartbeats 40000000 in
theorem rmI00 (l : Launch) (Z : State) (a0 : Array Value) (hw : ∀ d ∈ tables_1, d.before a0 Z = true) (ws : List Jvm.Cond) (r0 : Addr) (r2 : Addr) (h0 : Heap) (n0 : Nat) (Z0 : n0 ≤ h0.size) (F_pkHash : Fld Z h0 r0 "com/example/imprimatur/imprimatur/verify/DeviceValues" "pkHash" "[B" .null) (F_hwId : Fld Z h0 r0 "com/example/imprimatur/imprimatur/verify/DeviceValues" "hwId" "Ljava/lang/Long;" .null) (F_swId : Fld Z h0 r0 "com/example/imprimatur/imprimatur/verify/DeviceValues" "swId" "Ljava/lang/Long;" .null) (F_publicKey : Fld Z h0 r0 "com/example/imprimatur/imprimatur/verify/DeviceValues" "publicKey" "[B" .null) (E_o : Exa Z h0 r0 "com/example/imprimatur/imprimatur/verify/DeviceValues") (g_r0 : n0 ≤ r0) :
    MetFree l (⟨"com/example/imprimatur/imprimatur/verify/DeviceValues", "<init>", "([BLjava/lang/Long;Ljava/lang/Long;[B)V"⟩ : MethodName) (head1 (Jvm.Cond.code (⟨"com/example/imprimatur/imprimatur/verify/DeviceValues", "<init>", "([BLjava/lang/Long;Ljava/lang/Long;[B)V"⟩ : MethodName) prog_47_method_1_code 5 none :: ws) ({ frames := 1, cells := 0, slots := 0, locals := 12 } : Room)) (fun a U => a = #[(.ref r0), .null, (.ref r2), .null, .null] ∧ Z.Warmed39 U.vm ∧ U.heap = h0) (fun _ _ _ _ _ => True) (fun _ U o U' => ∃ v L, o = .returned v ∧ Q_rmI00 Z r0 r2 h0 n0 v U'.heap L ∧ FrameEnd U o U' L ({ frames := 1, cells := 0, slots := 0, locals := 12 } : Room).cells ({ frames := 1, cells := 0, slots := 0, locals := 12 } : Room).slots) := by
  refine MetFree.of_bodySF (plainFor_of_name pn_2) hisR ?_
  intro p e s m args below meth c s₁ Bd hml0 hP hK
  obtain ⟨rfl, hZ, hh⟩ := hP
  have hx := Bd.exec
  have hby := Bd.bytes
  have hml : c.maxLocals = 5 := hml0
  have hown : s.vm.findClass "com/example/imprimatur/imprimatur/verify/DeviceValues" = some m.cls := findClass_of_methodNamed Bd.named
  have hnm := (name_of_methodNamed Bd.named Bd.method).1
  have X0 : Stand p l e ({ frames := 1, cells := 0, slots := 0, locals := 12 } : Room) s m #[(.ref r0), .null, (.ref r2), .null, .null] below meth c s₁ [] 0 0 := Stand.of_body Bd
  have e0 : s₁.heap = h0 := by rw [← hh, Bd.state]; rfl
  have N0 := Fr.nil n0
  have pre0 : ∀ t, Steps p.tables e below (s₁.setTop (mkF m 0 #[.val (.ref r0), .val .null, .val (.ref r2), .val .null, .val .null] [])) t → Steps p.tables e below (s₁.setTop (entryFrame m #[(.ref r0), .null, (.ref r2), .null, .null] 5)) t := fun t k => castTop (ef_rmI00 m r0 r2) k
  have Kp : Keep h0 h0 [r0] := Keep.refl _ _
  have st1 : ∀ target, Steps p.tables e below (s₁.setTop (mkF m 1 #[.val (.ref r0), .val .null, .val (.ref r2), .val .null, .val .null] [(.ref r0)])) target → Steps p.tables e below (s₁.setTop (mkF m 0 #[.val (.ref r0), .val .null, .val (.ref r2), .val .null, .val .null] [])) target := by
    intro target kt
    show Steps p.tables e below (s₁.setTop (mkF m 0 #[.val (.ref r0), .val .null, .val (.ref r2), .val .null, .val .null] [])) _
    refine XS.aloadN X0.here hx rfl (hb hby d5_0) rfl rfl ?_
    exact kt
  obtain ⟨T2, X2, e2, st2⟩ := initO X0 hx hZ hown (hw _ (List.mem_of_getElem? (i := 29) rfl)) (hw _ (List.mem_of_getElem? (i := 22) rfl)) (hw _ (List.mem_of_getElem? (i := 23) rfl)) e0 (g := (mkF m 1 #[.val (.ref r0), .val .null, .val (.ref r2), .val .null, .val .null] [(.ref r0)])) rfl (by rw [hml]; rfl) rfl (hb hby d5_1) (by decide) (W := 0) (by show 2 * 0 + _ ≤ _; exact Nat.le_of_eq rfl) (by decide)
  have st3 : ∀ target, Steps p.tables e below (T2.setTop (mkF m 53 #[.val (.ref r0), .val .null, .val (.ref r2), .val .null, .val .null] [.null, (.ref r0)])) target → Steps p.tables e below (T2.setTop (mkF m 4 #[.val (.ref r0), .val .null, .val (.ref r2), .val .null, .val .null] [])) target := by
    intro target kt
    show Steps p.tables e below (T2.setTop (mkF m 4 #[.val (.ref r0), .val .null, .val (.ref r2), .val .null, .val .null] [])) _
    refine XS.aloadN X2.here hx rfl (hb hby d5_4) rfl rfl ?_
    show Steps p.tables e below (T2.setTop (mkF m 5 #[.val (.ref r0), .val .null, .val (.ref r2), .val .null, .val .null] [.null])) _
    refine XS.ifnullYes X2.here hx rfl (pc0 := 5) (pc' := 37) rfl (hb hby d5_5) rfl (by decide) (by decide) ?_
    show Steps p.tables e below (T2.setTop (mkF m 37 #[.val (.ref r0), .val .null, .val (.ref r2), .val .null, .val .null] [])) _
    refine XS.aloadN X2.here hx rfl (hb hby d5_37) rfl rfl ?_
    show Steps p.tables e below (T2.setTop (mkF m 38 #[.val (.ref r0), .val .null, .val (.ref r2), .val .null, .val .null] [(.ref r0)])) _
    refine XS.aloadN X2.here hx rfl (hb hby d5_38) rfl rfl ?_
    show Steps p.tables e below (T2.setTop (mkF m 39 #[.val (.ref r0), .val .null, .val (.ref r2), .val .null, .val .null] [.null, (.ref r0)])) _
    refine XS.ifnonnullNo X2.here hx rfl (hb hby d5_39) rfl ?_
    show Steps p.tables e below (T2.setTop (mkF m 42 #[.val (.ref r0), .val .null, .val (.ref r2), .val .null, .val .null] [(.ref r0)])) _
    refine XS.aconstNull X2.here hx rfl (hb hby d5_42) ?_
    show Steps p.tables e below (T2.setTop (mkF m 43 #[.val (.ref r0), .val .null, .val (.ref r2), .val .null, .val .null] [.null, (.ref r0)])) _
    refine XS.goto X2.here hx rfl (pc0 := 43) (pc' := 53) rfl (hb hby d5_43) (by decide) (by decide) ?_
    exact kt
  obtain ⟨T4, h4, X4, e4, W4, st4⟩ := putF X2 hx hZ hown (host := "") (Or.inl (hw _ (List.mem_of_getElem? (i := 30) rfl))) Via.refl e2 F_pkHash E_o (Or.inr ⟨(hw _ (List.mem_of_getElem? (i := 31) rfl)), rfl, hnm⟩) (hw _ (List.mem_of_getElem? (i := 2) rfl)) (ty := (.array .byte)) (by decide) rfl rfl (g := (mkF m 53 #[.val (.ref r0), .val .null, .val (.ref r2), .val .null, .val .null] [.null, (.ref r0)])) rfl rfl (hb hby d5_53)
  have F_pkHash_r0_4 : Fld Z h4 r0 "com/example/imprimatur/imprimatur/verify/DeviceValues" "pkHash" "[B" .null := F_pkHash.same W4
  have E_o_4 := E_o.wr W4
  have F_hwId_4 := F_hwId.other W4 (Or.inr (slot_ne (Or.inr (hw _ (List.mem_of_getElem? (i := 33) rfl))) (Or.inr (hw _ (List.mem_of_getElem? (i := 31) rfl))) (by decide) (t := (.object "java/lang/Long")) (t' := (.array .byte)) (by decide) (by decide)))
  have F_swId_4 := F_swId.other W4 (Or.inr (slot_ne (Or.inr (hw _ (List.mem_of_getElem? (i := 35) rfl))) (Or.inr (hw _ (List.mem_of_getElem? (i := 31) rfl))) (by decide) (t := (.object "java/lang/Long")) (t' := (.array .byte)) (by decide) (by decide)))
  have F_publicKey_4 := F_publicKey.other W4 (Or.inr (slot_ne (Or.inr (hw _ (List.mem_of_getElem? (i := 46) rfl))) (Or.inr (hw _ (List.mem_of_getElem? (i := 31) rfl))) (by decide) (t := (.array .byte)) (t' := (.array .byte)) (by decide) (by decide)))
  have Z_4 : n0 ≤ h4.size := Nat.le_trans Z0 (Keep.of_wr W4).1
  have Kp_4 : Keep h0 h4 [r0] := Kp.wr W4 (Or.inl (List.mem_of_getElem? (i := 0) rfl))
  have N4 := Fr.snoc X4 N0 g_r0
  have st5 : ∀ target, Steps p.tables e below (T4.setTop (mkF m 58 #[.val (.ref r0), .val .null, .val (.ref r2), .val .null, .val .null] [(.ref r2), (.ref r0)])) target → Steps p.tables e below (T4.setTop (mkF m 56 #[.val (.ref r0), .val .null, .val (.ref r2), .val .null, .val .null] [])) target := by
    intro target kt
    show Steps p.tables e below (T4.setTop (mkF m 56 #[.val (.ref r0), .val .null, .val (.ref r2), .val .null, .val .null] [])) _
    refine XS.aloadN X4.here hx rfl (hb hby d5_56) rfl rfl ?_
    show Steps p.tables e below (T4.setTop (mkF m 57 #[.val (.ref r0), .val .null, .val (.ref r2), .val .null, .val .null] [(.ref r0)])) _
    refine XS.aloadN X4.here hx rfl (hb hby d5_57) rfl rfl ?_
    exact kt
  obtain ⟨T6, h6, X6, e6, W6, st6⟩ := putF X4 hx hZ hown (host := "") (Or.inl (hw _ (List.mem_of_getElem? (i := 32) rfl))) Via.refl e4 F_hwId_4 E_o_4 (Or.inr ⟨(hw _ (List.mem_of_getElem? (i := 33) rfl)), rfl, hnm⟩) (hw _ (List.mem_of_getElem? (i := 2) rfl)) (ty := (.object "java/lang/Long")) (by decide) rfl rfl (g := (mkF m 58 #[.val (.ref r0), .val .null, .val (.ref r2), .val .null, .val .null] [(.ref r2), (.ref r0)])) rfl rfl (hb hby d5_58)
  have F_hwId_r0_6 : Fld Z h6 r0 "com/example/imprimatur/imprimatur/verify/DeviceValues" "hwId" "Ljava/lang/Long;" (.ref r2) := F_hwId_4.same W6
  have E_o_6 := E_o_4.wr W6
  have F_swId_6 := F_swId_4.other W6 (Or.inr (slot_ne (Or.inr (hw _ (List.mem_of_getElem? (i := 35) rfl))) (Or.inr (hw _ (List.mem_of_getElem? (i := 33) rfl))) (by decide) (t := (.object "java/lang/Long")) (t' := (.object "java/lang/Long")) (by decide) (by decide)))
  have F_publicKey_6 := F_publicKey_4.other W6 (Or.inr (slot_ne (Or.inr (hw _ (List.mem_of_getElem? (i := 46) rfl))) (Or.inr (hw _ (List.mem_of_getElem? (i := 33) rfl))) (by decide) (t := (.array .byte)) (t' := (.object "java/lang/Long")) (by decide) (by decide)))
  have F_pkHash_r0_6 := F_pkHash_r0_4.other W6 (Or.inr (slot_ne (Or.inr (hw _ (List.mem_of_getElem? (i := 31) rfl))) (Or.inr (hw _ (List.mem_of_getElem? (i := 33) rfl))) (by decide) (t := (.array .byte)) (t' := (.object "java/lang/Long")) (by decide) (by decide)))
  have Z_6 : n0 ≤ h6.size := Nat.le_trans Z_4 (Keep.of_wr W6).1
  have Kp_6 : Keep h0 h6 [r0] := Kp_4.wr W6 (Or.inl (List.mem_of_getElem? (i := 0) rfl))
  have N6 := Fr.snoc X6 N4 g_r0
  have st7 : ∀ target, Steps p.tables e below (T6.setTop (mkF m 63 #[.val (.ref r0), .val .null, .val (.ref r2), .val .null, .val .null] [.null, (.ref r0)])) target → Steps p.tables e below (T6.setTop (mkF m 61 #[.val (.ref r0), .val .null, .val (.ref r2), .val .null, .val .null] [])) target := by
    intro target kt
    show Steps p.tables e below (T6.setTop (mkF m 61 #[.val (.ref r0), .val .null, .val (.ref r2), .val .null, .val .null] [])) _
    refine XS.aloadN X6.here hx rfl (hb hby d5_61) rfl rfl ?_
    show Steps p.tables e below (T6.setTop (mkF m 62 #[.val (.ref r0), .val .null, .val (.ref r2), .val .null, .val .null] [(.ref r0)])) _
    refine XS.aloadN X6.here hx rfl (hb hby d5_62) rfl rfl ?_
    exact kt
  obtain ⟨T8, h8, X8, e8, W8, st8⟩ := putF X6 hx hZ hown (host := "") (Or.inl (hw _ (List.mem_of_getElem? (i := 34) rfl))) Via.refl e6 F_swId_6 E_o_6 (Or.inr ⟨(hw _ (List.mem_of_getElem? (i := 35) rfl)), rfl, hnm⟩) (hw _ (List.mem_of_getElem? (i := 2) rfl)) (ty := (.object "java/lang/Long")) (by decide) rfl rfl (g := (mkF m 63 #[.val (.ref r0), .val .null, .val (.ref r2), .val .null, .val .null] [.null, (.ref r0)])) rfl rfl (hb hby d5_63)
  have F_swId_r0_8 : Fld Z h8 r0 "com/example/imprimatur/imprimatur/verify/DeviceValues" "swId" "Ljava/lang/Long;" .null := F_swId_6.same W8
  have E_o_8 := E_o_6.wr W8
  have F_publicKey_8 := F_publicKey_6.other W8 (Or.inr (slot_ne (Or.inr (hw _ (List.mem_of_getElem? (i := 46) rfl))) (Or.inr (hw _ (List.mem_of_getElem? (i := 35) rfl))) (by decide) (t := (.array .byte)) (t' := (.object "java/lang/Long")) (by decide) (by decide)))
  have F_pkHash_r0_8 := F_pkHash_r0_6.other W8 (Or.inr (slot_ne (Or.inr (hw _ (List.mem_of_getElem? (i := 31) rfl))) (Or.inr (hw _ (List.mem_of_getElem? (i := 35) rfl))) (by decide) (t := (.array .byte)) (t' := (.object "java/lang/Long")) (by decide) (by decide)))
  have F_hwId_r0_8 := F_hwId_r0_6.other W8 (Or.inr (slot_ne (Or.inr (hw _ (List.mem_of_getElem? (i := 33) rfl))) (Or.inr (hw _ (List.mem_of_getElem? (i := 35) rfl))) (by decide) (t := (.object "java/lang/Long")) (t' := (.object "java/lang/Long")) (by decide) (by decide)))
  have Z_8 : n0 ≤ h8.size := Nat.le_trans Z_6 (Keep.of_wr W8).1
  have Kp_8 : Keep h0 h8 [r0] := Kp_6.wr W8 (Or.inl (List.mem_of_getElem? (i := 0) rfl))
  have N8 := Fr.snoc X8 N6 g_r0
  have st9 : ∀ target, Steps p.tables e below (T8.setTop (mkF m 84 #[.val (.ref r0), .val .null, .val (.ref r2), .val .null, .val .null] [.null, (.ref r0)])) target → Steps p.tables e below (T8.setTop (mkF m 66 #[.val (.ref r0), .val .null, .val (.ref r2), .val .null, .val .null] [])) target := by
    intro target kt
    show Steps p.tables e below (T8.setTop (mkF m 66 #[.val (.ref r0), .val .null, .val (.ref r2), .val .null, .val .null] [])) _
    refine XS.aloadN X8.here hx rfl (hb hby d5_66) rfl rfl ?_
    show Steps p.tables e below (T8.setTop (mkF m 67 #[.val (.ref r0), .val .null, .val (.ref r2), .val .null, .val .null] [(.ref r0)])) _
    refine XS.aload X8.here hx rfl (hb hby d5_67) rfl rfl ?_
    show Steps p.tables e below (T8.setTop (mkF m 69 #[.val (.ref r0), .val .null, .val (.ref r2), .val .null, .val .null] [.null, (.ref r0)])) _
    refine XS.ifnonnullNo X8.here hx rfl (hb hby d5_69) rfl ?_
    show Steps p.tables e below (T8.setTop (mkF m 72 #[.val (.ref r0), .val .null, .val (.ref r2), .val .null, .val .null] [(.ref r0)])) _
    refine XS.aconstNull X8.here hx rfl (hb hby d5_72) ?_
    show Steps p.tables e below (T8.setTop (mkF m 73 #[.val (.ref r0), .val .null, .val (.ref r2), .val .null, .val .null] [.null, (.ref r0)])) _
    refine XS.goto X8.here hx rfl (pc0 := 73) (pc' := 84) rfl (hb hby d5_73) (by decide) (by decide) ?_
    exact kt
  obtain ⟨T10, h10, X10, e10, W10, st10⟩ := putF X8 hx hZ hown (host := "") (Or.inl (hw _ (List.mem_of_getElem? (i := 45) rfl))) Via.refl e8 F_publicKey_8 E_o_8 (Or.inr ⟨(hw _ (List.mem_of_getElem? (i := 46) rfl)), rfl, hnm⟩) (hw _ (List.mem_of_getElem? (i := 2) rfl)) (ty := (.array .byte)) (by decide) rfl rfl (g := (mkF m 84 #[.val (.ref r0), .val .null, .val (.ref r2), .val .null, .val .null] [.null, (.ref r0)])) rfl rfl (hb hby d5_84)
  have F_publicKey_r0_10 : Fld Z h10 r0 "com/example/imprimatur/imprimatur/verify/DeviceValues" "publicKey" "[B" .null := F_publicKey_8.same W10
  have E_o_10 := E_o_8.wr W10
  have F_pkHash_r0_10 := F_pkHash_r0_8.other W10 (Or.inr (slot_ne (Or.inr (hw _ (List.mem_of_getElem? (i := 31) rfl))) (Or.inr (hw _ (List.mem_of_getElem? (i := 46) rfl))) (by decide) (t := (.array .byte)) (t' := (.array .byte)) (by decide) (by decide)))
  have F_hwId_r0_10 := F_hwId_r0_8.other W10 (Or.inr (slot_ne (Or.inr (hw _ (List.mem_of_getElem? (i := 33) rfl))) (Or.inr (hw _ (List.mem_of_getElem? (i := 46) rfl))) (by decide) (t := (.object "java/lang/Long")) (t' := (.array .byte)) (by decide) (by decide)))
  have F_swId_r0_10 := F_swId_r0_8.other W10 (Or.inr (slot_ne (Or.inr (hw _ (List.mem_of_getElem? (i := 35) rfl))) (Or.inr (hw _ (List.mem_of_getElem? (i := 46) rfl))) (by decide) (t := (.object "java/lang/Long")) (t' := (.array .byte)) (by decide) (by decide)))
  have Z_10 : n0 ≤ h10.size := Nat.le_trans Z_8 (Keep.of_wr W10).1
  have Kp_10 : Keep h0 h10 [r0] := Kp_8.wr W10 (Or.inl (List.mem_of_getElem? (i := 0) rfl))
  have N10 := Fr.snoc X10 N8 g_r0
  obtain ⟨fs, hr, hrun, hended, hW, hsame⟩ := X10.leave (v := none) (fun _ => rfl)
  refine ⟨_, _, pre0 _ (st1 _ (st2 _ (st3 _ (st4 _ (st5 _ (st6 _ (st7 _ (st8 _ (st9 _ (st10 _ ?_)))))))))), hrun, hended, _, _, rfl, ?_, ⟨_, rfl⟩, hW, hsame.mono (by decide) (by decide)⟩
  · show Steps p.tables e below (T10.setTop (mkF m 87 #[.val (.ref r0), .val .null, .val (.ref r2), .val .null, .val .null] [])) _
    exact X10.returnOut hx Bd.returns (hb hby d5_87) hr
  · show Q_rmI00 Z r0 r2 h0 n0 _ T10.heap _
    rw [e10]
    exact ⟨rfl, N10, Kp_10, E_o_10, F_publicKey_r0_10⟩
theorem ef_rmI01 (m : MethodId) (x0 : Addr) (x2 : Addr) (x4 : Addr) : entryFrame m #[(.ref x0), .null, (.ref x2), .null, (.ref x4)] 5 = mkF m 0 #[.val (.ref x0), .val .null, .val (.ref x2), .val .null, .val (.ref x4)] [] := by first | (simp [entryFrame, mkF, argsToLocals, Value.category]; done) | rfl
def Q_rmI01 (Z : State) (r0 : Addr) (r2 : Addr) (r4 : Addr) (k4 : ClassId) (z4 : Int32) (hs4 : List (Int32 × Value)) (h0 : Heap) (n0 : Nat) (v : Option Value) (h : Heap) (L : List Loc) : Prop := v = none ∧ Fr n0 L ∧ Keep h0 h [r0] ∧ Exa Z h r0 "com/example/imprimatur/imprimatur/verify/DeviceValues" ∧ ∃ c, h0.size ≤ c ∧ Fld Z h r0 "com/example/imprimatur/imprimatur/verify/DeviceValues" "publicKey" "[B" (.ref c) ∧ Arh Z h c k4 .byte z4 hs4 [] (.int (0 : Int32)) ∧ Exa Z h c "[B"
set_option maxRecDepth 65536 in
set_option maxHeartbeats 40000000 in
theorem rmI01 (l : Launch) (Z : State) (a0 : Array Value) (hw : ∀ d ∈ tables_1, d.before a0 Z = true) (ws : List Jvm.Cond) (r0 : Addr) (r2 : Addr) (r4 : Addr) (k4 : ClassId) (z4 : Int32) (hs4 : List (Int32 × Value)) (h0 : Heap) (n0 : Nat) (Z0 : n0 ≤ h0.size) (F_pkHash : Fld Z h0 r0 "com/example/imprimatur/imprimatur/verify/DeviceValues" "pkHash" "[B" .null) (F_hwId : Fld Z h0 r0 "com/example/imprimatur/imprimatur/verify/DeviceValues" "hwId" "Ljava/lang/Long;" .null) (F_swId : Fld Z h0 r0 "com/example/imprimatur/imprimatur/verify/DeviceValues" "swId" "Ljava/lang/Long;" .null) (F_publicKey : Fld Z h0 r0 "com/example/imprimatur/imprimatur/verify/DeviceValues" "publicKey" "[B" .null) (E_o : Exa Z h0 r0 "com/example/imprimatur/imprimatur/verify/DeviceValues") (g_r0 : n0 ≤ r0) (Ha4 : Arh Z h0 r4 k4 .byte z4 hs4 [] (.int (0 : Int32))) (Ea4 : Exa Z h0 r4 "[B") (hn4 : r0 ≠ r4) (hz4 : z4.toNatClampNeg ≤ 3) :
    MetFree l (⟨"com/example/imprimatur/imprimatur/verify/DeviceValues", "<init>", "([BLjava/lang/Long;Ljava/lang/Long;[B)V"⟩ : MethodName) (head1 (Jvm.Cond.code (⟨"com/example/imprimatur/imprimatur/verify/DeviceValues", "<init>", "([BLjava/lang/Long;Ljava/lang/Long;[B)V"⟩ : MethodName) prog_47_method_1_code 5 none :: ws) ({ frames := 1, cells := 1, slots := 3, locals := 15 } : Room)) (fun a U => a = #[(.ref r0), .null, (.ref r2), .null, (.ref r4)] ∧ Z.Warmed39 U.vm ∧ U.heap = h0) (fun _ _ _ _ _ => True) (fun _ U o U' => ∃ v L, o = .returned v ∧ Q_rmI01 Z r0 r2 r4 k4 z4 hs4 h0 n0 v U'.heap L ∧ FrameEnd U o U' L ({ frames := 1, cells := 1, slots := 3, locals := 15 } : Room).cells ({ frames := 1, cells := 1, slots := 3, locals := 15 } : Room).slots) := by
  refine MetFree.of_bodySF (plainFor_of_name pn_2) hisR ?_
  intro p e s m args below meth c s₁ Bd hml0 hP hK
  obtain ⟨rfl, hZ, hh⟩ := hP
  have hx := Bd.exec
  have hby := Bd.bytes
  have hml : c.maxLocals = 5 := hml0
  have hown : s.vm.findClass "com/example/imprimatur/imprimatur/verify/DeviceValues" = some m.cls := findClass_of_methodNamed Bd.named
  have hnm := (name_of_methodNamed Bd.named Bd.method).1
  have X0 : Stand p l e ({ frames := 1, cells := 1, slots := 3, locals := 15 } : Room) s m #[(.ref r0), .null, (.ref r2), .null, (.ref r4)] below meth c s₁ [] 0 0 := Stand.of_body Bd
  have e0 : s₁.heap = h0 := by rw [← hh, Bd.state]; rfl
  have N0 := Fr.nil n0
  have pre0 : ∀ t, Steps p.tables e below (s₁.setTop (mkF m 0 #[.val (.ref r0), .val .null, .val (.ref r2), .val .null, .val (.ref r4)] [])) t → Steps p.tables e below (s₁.setTop (entryFrame m #[(.ref r0), .null, (.ref r2), .null, (.ref r4)] 5)) t := fun t k => castTop (ef_rmI01 m r0 r2 r4) k
  have Kp : Keep h0 h0 [r0] := Keep.refl _ _
  have st1 : ∀ target, Steps p.tables e below (s₁.setTop (mkF m 1 #[.val (.ref r0), .val .null, .val (.ref r2), .val .null, .val (.ref r4)] [(.ref r0)])) target → Steps p.tables e below (s₁.setTop (mkF m 0 #[.val (.ref r0), .val .null, .val (.ref r2), .val .null, .val (.ref r4)] [])) target := by
    intro target kt
    show Steps p.tables e below (s₁.setTop (mkF m 0 #[.val (.ref r0), .val .null, .val (.ref r2), .val .null, .val (.ref r4)] [])) _
    refine XS.aloadN X0.here hx rfl (hb hby d5_0) rfl rfl ?_
    exact kt
  obtain ⟨T2, X2, e2, st2⟩ := initO X0 hx hZ hown (hw _ (List.mem_of_getElem? (i := 29) rfl)) (hw _ (List.mem_of_getElem? (i := 22) rfl)) (hw _ (List.mem_of_getElem? (i := 23) rfl)) e0 (g := (mkF m 1 #[.val (.ref r0), .val .null, .val (.ref r2), .val .null, .val (.ref r4)] [(.ref r0)])) rfl (by rw [hml]; rfl) rfl (hb hby d5_1) (by decide) (W := 0) (by show 2 * 0 + _ ≤ _; exact Nat.le_of_eq rfl) (by decide)
  have st3 : ∀ target, Steps p.tables e below (T2.setTop (mkF m 53 #[.val (.ref r0), .val .null, .val (.ref r2), .val .null, .val (.ref r4)] [.null, (.ref r0)])) target → Steps p.tables e below (T2.setTop (mkF m 4 #[.val (.ref r0), .val .null, .val (.ref r2), .val .null, .val (.ref r4)] [])) target := by
    intro target kt
    show Steps p.tables e below (T2.setTop (mkF m 4 #[.val (.ref r0), .val .null, .val (.ref r2), .val .null, .val (.ref r4)] [])) _
    refine XS.aloadN X2.here hx rfl (hb hby d5_4) rfl rfl ?_
    show Steps p.tables e below (T2.setTop (mkF m 5 #[.val (.ref r0), .val .null, .val (.ref r2), .val .null, .val (.ref r4)] [.null])) _
    refine XS.ifnullYes X2.here hx rfl (pc0 := 5) (pc' := 37) rfl (hb hby d5_5) rfl (by decide) (by decide) ?_
    show Steps p.tables e below (T2.setTop (mkF m 37 #[.val (.ref r0), .val .null, .val (.ref r2), .val .null, .val (.ref r4)] [])) _
    refine XS.aloadN X2.here hx rfl (hb hby d5_37) rfl rfl ?_
    show Steps p.tables e below (T2.setTop (mkF m 38 #[.val (.ref r0), .val .null, .val (.ref r2), .val .null, .val (.ref r4)] [(.ref r0)])) _
    refine XS.aloadN X2.here hx rfl (hb hby d5_38) rfl rfl ?_
    show Steps p.tables e below (T2.setTop (mkF m 39 #[.val (.ref r0), .val .null, .val (.ref r2), .val .null, .val (.ref r4)] [.null, (.ref r0)])) _
    refine XS.ifnonnullNo X2.here hx rfl (hb hby d5_39) rfl ?_
    show Steps p.tables e below (T2.setTop (mkF m 42 #[.val (.ref r0), .val .null, .val (.ref r2), .val .null, .val (.ref r4)] [(.ref r0)])) _
    refine XS.aconstNull X2.here hx rfl (hb hby d5_42) ?_
    show Steps p.tables e below (T2.setTop (mkF m 43 #[.val (.ref r0), .val .null, .val (.ref r2), .val .null, .val (.ref r4)] [.null, (.ref r0)])) _
    refine XS.goto X2.here hx rfl (pc0 := 43) (pc' := 53) rfl (hb hby d5_43) (by decide) (by decide) ?_
    exact kt
  obtain ⟨T4, h4, X4, e4, W4, st4⟩ := putF X2 hx hZ hown (host := "") (Or.inl (hw _ (List.mem_of_getElem? (i := 30) rfl))) Via.refl e2 F_pkHash E_o (Or.inr ⟨(hw _ (List.mem_of_getElem? (i := 31) rfl)), rfl, hnm⟩) (hw _ (List.mem_of_getElem? (i := 2) rfl)) (ty := (.array .byte)) (by decide) rfl rfl (g := (mkF m 53 #[.val (.ref r0), .val .null, .val (.ref r2), .val .null, .val (.ref r4)] [.null, (.ref r0)])) rfl rfl (hb hby d5_53)
  have F_pkHash_r0_4 : Fld Z h4 r0 "com/example/imprimatur/imprimatur/verify/DeviceValues" "pkHash" "[B" .null := F_pkHash.same W4
  have E_o_4 := E_o.wr W4
  have F_hwId_4 := F_hwId.other W4 (Or.inr (slot_ne (Or.inr (hw _ (List.mem_of_getElem? (i := 33) rfl))) (Or.inr (hw _ (List.mem_of_getElem? (i := 31) rfl))) (by decide) (t := (.object "java/lang/Long")) (t' := (.array .byte)) (by decide) (by decide)))
  have F_swId_4 := F_swId.other W4 (Or.inr (slot_ne (Or.inr (hw _ (List.mem_of_getElem? (i := 35) rfl))) (Or.inr (hw _ (List.mem_of_getElem? (i := 31) rfl))) (by decide) (t := (.object "java/lang/Long")) (t' := (.array .byte)) (by decide) (by decide)))
  have F_publicKey_4 := F_publicKey.other W4 (Or.inr (slot_ne (Or.inr (hw _ (List.mem_of_getElem? (i := 46) rfl))) (Or.inr (hw _ (List.mem_of_getElem? (i := 31) rfl))) (by decide) (t := (.array .byte)) (t' := (.array .byte)) (by decide) (by decide)))
  have Ha4_4 := Ha4.other W4 (Ne.symm hn4)
  have Ea4_4 := Ea4.wr W4
  have Z_4 : n0 ≤ h4.size := Nat.le_trans Z0 (Keep.of_wr W4).1
  have Kp_4 : Keep h0 h4 [r0] := Kp.wr W4 (Or.inl (List.mem_of_getElem? (i := 0) rfl))
  have N4 := Fr.snoc X4 N0 g_r0
  have st5 : ∀ target, Steps p.tables e below (T4.setTop (mkF m 58 #[.val (.ref r0), .val .null, .val (.ref r2), .val .null, .val (.ref r4)] [(.ref r2), (.ref r0)])) target → Steps p.tables e below (T4.setTop (mkF m 56 #[.val (.ref r0), .val .null, .val (.ref r2), .val .null, .val (.ref r4)] [])) target := by
    intro target kt
    show Steps p.tables e below (T4.setTop (mkF m 56 #[.val (.ref r0), .val .null, .val (.ref r2), .val .null, .val (.ref r4)] [])) _
    refine XS.aloadN X4.here hx rfl (hb hby d5_56) rfl rfl ?_
    show Steps p.tables e below (T4.setTop (mkF m 57 #[.val (.ref r0), .val .null, .val (.ref r2), .val .null, .val (.ref r4)] [(.ref r0)])) _
    refine XS.aloadN X4.here hx rfl (hb hby d5_57) rfl rfl ?_
    exact kt
  obtain ⟨T6, h6, X6, e6, W6, st6⟩ := putF X4 hx hZ hown (host := "") (Or.inl (hw _ (List.mem_of_getElem? (i := 32) rfl))) Via.refl e4 F_hwId_4 E_o_4 (Or.inr ⟨(hw _ (List.mem_of_getElem? (i := 33) rfl)), rfl, hnm⟩) (hw _ (List.mem_of_getElem? (i := 2) rfl)) (ty := (.object "java/lang/Long")) (by decide) rfl rfl (g := (mkF m 58 #[.val (.ref r0), .val .null, .val (.ref r2), .val .null, .val (.ref r4)] [(.ref r2), (.ref r0)])) rfl rfl (hb hby d5_58)
  have F_hwId_r0_6 : Fld Z h6 r0 "com/example/imprimatur/imprimatur/verify/DeviceValues" "hwId" "Ljava/lang/Long;" (.ref r2) := F_hwId_4.same W6
  have E_o_6 := E_o_4.wr W6
  have F_swId_6 := F_swId_4.other W6 (Or.inr (slot_ne (Or.inr (hw _ (List.mem_of_getElem? (i := 35) rfl))) (Or.inr (hw _ (List.mem_of_getElem? (i := 33) rfl))) (by decide) (t := (.object "java/lang/Long")) (t' := (.object "java/lang/Long")) (by decide) (by decide)))
  have F_publicKey_6 := F_publicKey_4.other W6 (Or.inr (slot_ne (Or.inr (hw _ (List.mem_of_getElem? (i := 46) rfl))) (Or.inr (hw _ (List.mem_of_getElem? (i := 33) rfl))) (by decide) (t := (.array .byte)) (t' := (.object "java/lang/Long")) (by decide) (by decide)))
  have Ha4_6 := Ha4_4.other W6 (Ne.symm hn4)
  have Ea4_6 := Ea4_4.wr W6
  have F_pkHash_r0_6 := F_pkHash_r0_4.other W6 (Or.inr (slot_ne (Or.inr (hw _ (List.mem_of_getElem? (i := 31) rfl))) (Or.inr (hw _ (List.mem_of_getElem? (i := 33) rfl))) (by decide) (t := (.array .byte)) (t' := (.object "java/lang/Long")) (by decide) (by decide)))
  have Z_6 : n0 ≤ h6.size := Nat.le_trans Z_4 (Keep.of_wr W6).1
  have Kp_6 : Keep h0 h6 [r0] := Kp_4.wr W6 (Or.inl (List.mem_of_getElem? (i := 0) rfl))
  have N6 := Fr.snoc X6 N4 g_r0
  have st7 : ∀ target, Steps p.tables e below (T6.setTop (mkF m 63 #[.val (.ref r0), .val .null, .val (.ref r2), .val .null, .val (.ref r4)] [.null, (.ref r0)])) target → Steps p.tables e below (T6.setTop (mkF m 61 #[.val (.ref r0), .val .null, .val (.ref r2), .val .null, .val (.ref r4)] [])) target := by
    intro target kt
    show Steps p.tables e below (T6.setTop (mkF m 61 #[.val (.ref r0), .val .null, .val (.ref r2), .val .null, .val (.ref r4)] [])) _
    refine XS.aloadN X6.here hx rfl (hb hby d5_61) rfl rfl ?_
    show Steps p.tables e below (T6.setTop (mkF m 62 #[.val (.ref r0), .val .null, .val (.ref r2), .val .null, .val (.ref r4)] [(.ref r0)])) _
    refine XS.aloadN X6.here hx rfl (hb hby d5_62) rfl rfl ?_
    exact kt
  obtain ⟨T8, h8, X8, e8, W8, st8⟩ := putF X6 hx hZ hown (host := "") (Or.inl (hw _ (List.mem_of_getElem? (i := 34) rfl))) Via.refl e6 F_swId_6 E_o_6 (Or.inr ⟨(hw _ (List.mem_of_getElem? (i := 35) rfl)), rfl, hnm⟩) (hw _ (List.mem_of_getElem? (i := 2) rfl)) (ty := (.object "java/lang/Long")) (by decide) rfl rfl (g := (mkF m 63 #[.val (.ref r0), .val .null, .val (.ref r2), .val .null, .val (.ref r4)] [.null, (.ref r0)])) rfl rfl (hb hby d5_63)
  have F_swId_r0_8 : Fld Z h8 r0 "com/example/imprimatur/imprimatur/verify/DeviceValues" "swId" "Ljava/lang/Long;" .null := F_swId_6.same W8
  have E_o_8 := E_o_6.wr W8
  have F_publicKey_8 := F_publicKey_6.other W8 (Or.inr (slot_ne (Or.inr (hw _ (List.mem_of_getElem? (i := 46) rfl))) (Or.inr (hw _ (List.mem_of_getElem? (i := 35) rfl))) (by decide) (t := (.array .byte)) (t' := (.object "java/lang/Long")) (by decide) (by decide)))
  have Ha4_8 := Ha4_6.other W8 (Ne.symm hn4)
  have Ea4_8 := Ea4_6.wr W8
  have F_pkHash_r0_8 := F_pkHash_r0_6.other W8 (Or.inr (slot_ne (Or.inr (hw _ (List.mem_of_getElem? (i := 31) rfl))) (Or.inr (hw _ (List.mem_of_getElem? (i := 35) rfl))) (by decide) (t := (.array .byte)) (t' := (.object "java/lang/Long")) (by decide) (by decide)))
  have F_hwId_r0_8 := F_hwId_r0_6.other W8 (Or.inr (slot_ne (Or.inr (hw _ (List.mem_of_getElem? (i := 33) rfl))) (Or.inr (hw _ (List.mem_of_getElem? (i := 35) rfl))) (by decide) (t := (.object "java/lang/Long")) (t' := (.object "java/lang/Long")) (by decide) (by decide)))
  have Z_8 : n0 ≤ h8.size := Nat.le_trans Z_6 (Keep.of_wr W8).1
  have Kp_8 : Keep h0 h8 [r0] := Kp_6.wr W8 (Or.inl (List.mem_of_getElem? (i := 0) rfl))
  have N8 := Fr.snoc X8 N6 g_r0
  have st9 : ∀ target, Steps p.tables e below (T8.setTop (mkF m 78 #[.val (.ref r0), .val .null, .val (.ref r2), .val .null, .val (.ref r4)] [(.ref r4), (.ref r0)])) target → Steps p.tables e below (T8.setTop (mkF m 66 #[.val (.ref r0), .val .null, .val (.ref r2), .val .null, .val (.ref r4)] [])) target := by
    intro target kt
    show Steps p.tables e below (T8.setTop (mkF m 66 #[.val (.ref r0), .val .null, .val (.ref r2), .val .null, .val (.ref r4)] [])) _
    refine XS.aloadN X8.here hx rfl (hb hby d5_66) rfl rfl ?_
    show Steps p.tables e below (T8.setTop (mkF m 67 #[.val (.ref r0), .val .null, .val (.ref r2), .val .null, .val (.ref r4)] [(.ref r0)])) _
    refine XS.aload X8.here hx rfl (hb hby d5_67) rfl rfl ?_
    show Steps p.tables e below (T8.setTop (mkF m 69 #[.val (.ref r0), .val .null, .val (.ref r2), .val .null, .val (.ref r4)] [(.ref r4), (.ref r0)])) _
    refine XS.ifnonnullYes X8.here hx rfl (pc0 := 69) (pc' := 76) rfl (hb hby d5_69) rfl (by decide) (by decide) ?_
    show Steps p.tables e below (T8.setTop (mkF m 76 #[.val (.ref r0), .val .null, .val (.ref r2), .val .null, .val (.ref r4)] [(.ref r0)])) _
    refine XS.aload X8.here hx rfl (hb hby d5_76) rfl rfl ?_
    exact kt
  obtain ⟨T10, h10, X10, e10, E10, Hh_c4, Ex10, st10⟩ := cloneH X8 hx hZ hown (hw _ (List.mem_of_getElem? (i := 36) rfl)) (hw _ (List.mem_of_getElem? (i := 37) rfl)) (hw _ (List.mem_of_getElem? (i := 41) rfl)) (hw _ (List.mem_of_getElem? (i := 39) rfl)) (hw _ (List.mem_of_getElem? (i := 40) rfl)) (hw _ (List.mem_of_getElem? (i := 42) rfl)) e8 Ha4_8 Ea4_8 (g := (mkF m 78 #[.val (.ref r0), .val .null, .val (.ref r2), .val .null, .val (.ref r4)] [(.ref r4), (.ref r0)])) rfl (by rw [hml]; rfl) rfl (hb hby d5_78) (by decide) (W := 1) (cap := 3) (by show 2 * 0 + _ ≤ _; exact Nat.le_of_eq rfl) (by decide) hz4 (by decide) (by decide)
  obtain ⟨c4, g10⟩ : ∃ z, z = h8.size := ⟨_, rfl⟩
  rw [← g10] at Hh_c4 Ex10 st10
  have g_c4 : n0 ≤ c4 := Nat.le_trans Z_8 (Nat.le_of_eq g10.symm)
  have sz_c4 : h0.size ≤ c4 := Nat.le_trans Kp_8.1 (Nat.le_of_eq g10.symm)
  have ne_r0_c4 : r0 ≠ c4 := Nat.ne_of_lt (Nat.lt_of_lt_of_le E_o_8.lt (Nat.le_of_eq g10.symm))
  have ne_r4_c4 : r4 ≠ c4 := Nat.ne_of_lt (Nat.lt_of_lt_of_le Ha4_8.lt (Nat.le_of_eq g10.symm))
  have E_o_10 := E_o_8.ext E10
  have F_publicKey_10 := F_publicKey_8.ext E10
  have Ha4_10 := Ha4_8.ext E10
  have Ea4_10 := Ea4_8.ext E10
  have F_pkHash_r0_10 := F_pkHash_r0_8.ext E10
  have F_hwId_r0_10 := F_hwId_r0_8.ext E10
  have F_swId_r0_10 := F_swId_r0_8.ext E10
  have Z_10 : n0 ≤ h10.size := Nat.le_trans Z_8 E10.1
  have Kp_10 : Keep h0 h10 [r0] := Kp_8.ext E10
  obtain ⟨T11, X11, e11, st11⟩ := castY X10 hx hZ hown (hw _ (List.mem_of_getElem? (i := 43) rfl)) e10 (Ins.self Ex10) (g := (mkF m 81 #[.val (.ref r0), .val .null, .val (.ref r2), .val .null, .val (.ref r4)] [(.ref c4), (.ref r0)])) rfl rfl (hb hby d5_81)
  obtain ⟨T12, h12, X12, e12, W12, st12⟩ := putF X11 hx hZ hown (host := "") (Or.inl (hw _ (List.mem_of_getElem? (i := 45) rfl))) Via.refl e11 F_publicKey_10 E_o_10 (Or.inr ⟨(hw _ (List.mem_of_getElem? (i := 46) rfl)), rfl, hnm⟩) (hw _ (List.mem_of_getElem? (i := 2) rfl)) (ty := (.array .byte)) (by decide) rfl rfl (g := (mkF m 84 #[.val (.ref r0), .val .null, .val (.ref r2), .val .null, .val (.ref r4)] [(.ref c4), (.ref r0)])) rfl rfl (hb hby d5_84)
  have F_publicKey_r0_12 : Fld Z h12 r0 "com/example/imprimatur/imprimatur/verify/DeviceValues" "publicKey" "[B" (.ref c4) := F_publicKey_10.same W12
  have E_o_12 := E_o_10.wr W12
  have Ha4_12 := Ha4_10.other W12 (Ne.symm hn4)
  have Ea4_12 := Ea4_10.wr W12
  have F_pkHash_r0_12 := F_pkHash_r0_10.other W12 (Or.inr (slot_ne (Or.inr (hw _ (List.mem_of_getElem? (i := 31) rfl))) (Or.inr (hw _ (List.mem_of_getElem? (i := 46) rfl))) (by decide) (t := (.array .byte)) (t' := (.array .byte)) (by decide) (by decide)))
  have F_hwId_r0_12 := F_hwId_r0_10.other W12 (Or.inr (slot_ne (Or.inr (hw _ (List.mem_of_getElem? (i := 33) rfl))) (Or.inr (hw _ (List.mem_of_getElem? (i := 46) rfl))) (by decide) (t := (.object "java/lang/Long")) (t' := (.array .byte)) (by decide) (by decide)))
  have F_swId_r0_12 := F_swId_r0_10.other W12 (Or.inr (slot_ne (Or.inr (hw _ (List.mem_of_getElem? (i := 35) rfl))) (Or.inr (hw _ (List.mem_of_getElem? (i := 46) rfl))) (by decide) (t := (.object "java/lang/Long")) (t' := (.array .byte)) (by decide) (by decide)))
  have Ex10_12 := Ex10.wr W12
  have Hh_c4_12 := Hh_c4.other W12 (Ne.symm ne_r0_c4)
  have Z_12 : n0 ≤ h12.size := Nat.le_trans Z_10 (Keep.of_wr W12).1
  have Kp_12 : Keep h0 h12 [r0] := Kp_10.wr W12 (Or.inl (List.mem_of_getElem? (i := 0) rfl))
  have N12 := Fr.snoc X12 N8 g_r0
  obtain ⟨fs, hr, hrun, hended, hW, hsame⟩ := X12.leave (v := none) (fun _ => rfl)
  refine ⟨_, _, pre0 _ (st1 _ (st2 _ (st3 _ (st4 _ (st5 _ (st6 _ (st7 _ (st8 _ (st9 _ (st10 _ (st11 _ (st12 _ ?_)))))))))))), hrun, hended, _, _, rfl, ?_, ⟨_, rfl⟩, hW, hsame.mono (by decide) (by decide)⟩
  · show Steps p.tables e below (T12.setTop (mkF m 87 #[.val (.ref r0), .val .null, .val (.ref r2), .val .null, .val (.ref r4)] [])) _
    exact X12.returnOut hx Bd.returns (hb hby d5_87) hr
  · show Q_rmI01 Z r0 r2 r4 k4 z4 hs4 h0 n0 _ T12.heap _
    rw [e12]
    exact ⟨rfl, N12, Kp_12, E_o_12, c4, sz_c4, F_publicKey_r0_12, Hh_c4_12, Ex10_12⟩
theorem ef_rmI10 (m : MethodId) (x0 : Addr) (x1 : Addr) (x2 : Addr) : entryFrame m #[(.ref x0), (.ref x1), (.ref x2), .null, .null] 5 = mkF m 0 #[.val (.ref x0), .val (.ref x1), .val (.ref x2), .val .null, .val .null] [] := by first | (simp [entryFrame, mkF, argsToLocals, Value.category]; done) | rfl
def Q_rmI10 (Z : State) (r0 : Addr) (r1 : Addr) (r2 : Addr) (k1 : ClassId) (hs1 : List (Int32 × Value)) (h0 : Heap) (n0 : Nat) (v : Option Value) (h : Heap) (L : List Loc) : Prop := v = none ∧ Fr n0 L ∧ Keep h0 h [r0] ∧ Exa Z h r0 "com/example/imprimatur/imprimatur/verify/DeviceValues" ∧ Fld Z h r0 "com/example/imprimatur/imprimatur/verify/DeviceValues" "publicKey" "[B" .null
set_option maxRecDepth 65536 in
set_option maxHeartbeats 40000000 in
theorem rmI10 (l : Launch) (Z : State) (a0 : Array Value) (hw : ∀ d ∈ tables_1, d.before a0 Z = true) (ws : List Jvm.Cond) (r0 : Addr) (r1 : Addr) (r2 : Addr) (k1 : ClassId) (hs1 : List (Int32 × Value)) (h0 : Heap) (n0 : Nat) (Z0 : n0 ≤ h0.size) (F_pkHash : Fld Z h0 r0 "com/example/imprimatur/imprimatur/verify/DeviceValues" "pkHash" "[B" .null) (F_hwId : Fld Z h0 r0 "com/example/imprimatur/imprimatur/verify/DeviceValues" "hwId" "Ljava/lang/Long;" .null) (F_swId : Fld Z h0 r0 "com/example/imprimatur/imprimatur/verify/DeviceValues" "swId" "Ljava/lang/Long;" .null) (F_publicKey : Fld Z h0 r0 "com/example/imprimatur/imprimatur/verify/DeviceValues" "publicKey" "[B" .null) (E_o : Exa Z h0 r0 "com/example/imprimatur/imprimatur/verify/DeviceValues") (g_r0 : n0 ≤ r0) (Ha1 : Arh Z h0 r1 k1 .byte (32 : Int32) hs1 [] (.int (0 : Int32))) (Ea1 : Exa Z h0 r1 "[B") (hn1 : r0 ≠ r1) :
    MetFree l (⟨"com/example/imprimatur/imprimatur/verify/DeviceValues", "<init>", "([BLjava/lang/Long;Ljava/lang/Long;[B)V"⟩ : MethodName) (head1 (Jvm.Cond.code (⟨"com/example/imprimatur/imprimatur/verify/DeviceValues", "<init>", "([BLjava/lang/Long;Ljava/lang/Long;[B)V"⟩ : MethodName) prog_47_method_1_code 5 none :: ws) ({ frames := 1, cells := 1, slots := 32, locals := 15 } : Room)) (fun a U => a = #[(.ref r0), (.ref r1), (.ref r2), .null, .null] ∧ Z.Warmed39 U.vm ∧ U.heap = h0) (fun _ _ _ _ _ => True) (fun _ U o U' => ∃ v L, o = .returned v ∧ Q_rmI10 Z r0 r1 r2 k1 hs1 h0 n0 v U'.heap L ∧ FrameEnd U o U' L ({ frames := 1, cells := 1, slots := 32, locals := 15 } : Room).cells ({ frames := 1, cells := 1, slots := 32, locals := 15 } : Room).slots) := by
  refine MetFree.of_bodySF (plainFor_of_name pn_2) hisR ?_
  intro p e s m args below meth c s₁ Bd hml0 hP hK
  obtain ⟨rfl, hZ, hh⟩ := hP
  have hx := Bd.exec
  have hby := Bd.bytes
  have hml : c.maxLocals = 5 := hml0
  have hown : s.vm.findClass "com/example/imprimatur/imprimatur/verify/DeviceValues" = some m.cls := findClass_of_methodNamed Bd.named
  have hnm := (name_of_methodNamed Bd.named Bd.method).1
  have X0 : Stand p l e ({ frames := 1, cells := 1, slots := 32, locals := 15 } : Room) s m #[(.ref r0), (.ref r1), (.ref r2), .null, .null] below meth c s₁ [] 0 0 := Stand.of_body Bd
  have e0 : s₁.heap = h0 := by rw [← hh, Bd.state]; rfl
  have N0 := Fr.nil n0
  have pre0 : ∀ t, Steps p.tables e below (s₁.setTop (mkF m 0 #[.val (.ref r0), .val (.ref r1), .val (.ref r2), .val .null, .val .null] [])) t → Steps p.tables e below (s₁.setTop (entryFrame m #[(.ref r0), (.ref r1), (.ref r2), .null, .null] 5)) t := fun t k => castTop (ef_rmI10 m r0 r1 r2) k
  have Kp : Keep h0 h0 [r0] := Keep.refl _ _
  have st1 : ∀ target, Steps p.tables e below (s₁.setTop (mkF m 1 #[.val (.ref r0), .val (.ref r1), .val (.ref r2), .val .null, .val .null] [(.ref r0)])) target → Steps p.tables e below (s₁.setTop (mkF m 0 #[.val (.ref r0), .val (.ref r1), .val (.ref r2), .val .null, .val .null] [])) target := by
    intro target kt
    show Steps p.tables e below (s₁.setTop (mkF m 0 #[.val (.ref r0), .val (.ref r1), .val (.ref r2), .val .null, .val .null] [])) _
    refine XS.aloadN X0.here hx rfl (hb hby d5_0) rfl rfl ?_
    exact kt
  obtain ⟨T2, X2, e2, st2⟩ := initO X0 hx hZ hown (hw _ (List.mem_of_getElem? (i := 29) rfl)) (hw _ (List.mem_of_getElem? (i := 22) rfl)) (hw _ (List.mem_of_getElem? (i := 23) rfl)) e0 (g := (mkF m 1 #[.val (.ref r0), .val (.ref r1), .val (.ref r2), .val .null, .val .null] [(.ref r0)])) rfl (by rw [hml]; rfl) rfl (hb hby d5_1) (by decide) (W := 0) (by show 2 * 0 + _ ≤ _; exact Nat.le_of_eq rfl) (by decide)
  have st3 : ∀ target, Steps p.tables e below (T2.setTop (mkF m 9 #[.val (.ref r0), .val (.ref r1), .val (.ref r2), .val .null, .val .null] [(.ref r1)])) target → Steps p.tables e below (T2.setTop (mkF m 4 #[.val (.ref r0), .val (.ref r1), .val (.ref r2), .val .null, .val .null] [])) target := by
    intro target kt
    show Steps p.tables e below (T2.setTop (mkF m 4 #[.val (.ref r0), .val (.ref r1), .val (.ref r2), .val .null, .val .null] [])) _
    refine XS.aloadN X2.here hx rfl (hb hby d5_4) rfl rfl ?_
    show Steps p.tables e below (T2.setTop (mkF m 5 #[.val (.ref r0), .val (.ref r1), .val (.ref r2), .val .null, .val .null] [(.ref r1)])) _
    refine XS.ifnullNo X2.here hx rfl (hb hby d5_5) rfl ?_
    show Steps p.tables e below (T2.setTop (mkF m 8 #[.val (.ref r0), .val (.ref r1), .val (.ref r2), .val .null, .val .null] [])) _
    refine XS.aloadN X2.here hx rfl (hb hby d5_8) rfl rfl ?_
    exact kt
  obtain ⟨cl4, Ar4, qc4, Sz4, Mn4, Hs4, Gs4⟩ := id Ha1
  have st5 : ∀ target, Steps p.tables e below (T2.setTop (mkF m 10 #[.val (.ref r0), .val (.ref r1), .val (.ref r2), .val .null, .val .null] [(.int (32 : Int32))])) target → Steps p.tables e below (T2.setTop (mkF m 9 #[.val (.ref r0), .val (.ref r1), .val (.ref r2), .val .null, .val .null] [(.ref r1)])) target := fun target kt => X2.arraylength hx (cell := cl4) (by rw [e2]; exact Ar4.1) (State.isArrayOf_alike hZ.alike Ar4.2.1) (g := (mkF m 9 #[.val (.ref r0), .val (.ref r1), .val (.ref r2), .val .null, .val .null] [(.ref r1)])) rfl rfl (hb hby d5_9) _ (by rw [len_of (c := cl4) Sz4 Mn4]; exact kt)
  have st6 : ∀ target, Steps p.tables e below (T2.setTop (mkF m 47 #[.val (.ref r0), .val (.ref r1), .val (.ref r2), .val .null, .val .null] [(.ref r1), (.ref r0)])) target → Steps p.tables e below (T2.setTop (mkF m 10 #[.val (.ref r0), .val (.ref r1), .val (.ref r2), .val .null, .val .null] [(.int (32 : Int32))])) target := by
    intro target kt
    show Steps p.tables e below (T2.setTop (mkF m 10 #[.val (.ref r0), .val (.ref r1), .val (.ref r2), .val .null, .val .null] [(.int (32 : Int32))])) _
    refine XS.bipush X2.here hx rfl (hb hby d5_10) ?_
    show Steps p.tables e below (T2.setTop (mkF m 12 #[.val (.ref r0), .val (.ref r1), .val (.ref r2), .val .null, .val .null] [(.int (32 : Int32)), (.int (32 : Int32))])) _
    refine XS.icmpYes X2.here hx rfl (pc0 := 12) (pc' := 37) rfl (hb hby d5_12) rfl (teq (rfl : (32 : Int32) = (32 : Int32))).1 (by decide) (by decide) ?_
    show Steps p.tables e below (T2.setTop (mkF m 37 #[.val (.ref r0), .val (.ref r1), .val (.ref r2), .val .null, .val .null] [])) _
    refine XS.aloadN X2.here hx rfl (hb hby d5_37) rfl rfl ?_
    show Steps p.tables e below (T2.setTop (mkF m 38 #[.val (.ref r0), .val (.ref r1), .val (.ref r2), .val .null, .val .null] [(.ref r0)])) _
    refine XS.aloadN X2.here hx rfl (hb hby d5_38) rfl rfl ?_
    show Steps p.tables e below (T2.setTop (mkF m 39 #[.val (.ref r0), .val (.ref r1), .val (.ref r2), .val .null, .val .null] [(.ref r1), (.ref r0)])) _
    refine XS.ifnonnullYes X2.here hx rfl (pc0 := 39) (pc' := 46) rfl (hb hby d5_39) rfl (by decide) (by decide) ?_
    show Steps p.tables e below (T2.setTop (mkF m 46 #[.val (.ref r0), .val (.ref r1), .val (.ref r2), .val .null, .val .null] [(.ref r0)])) _
    refine XS.aloadN X2.here hx rfl (hb hby d5_46) rfl rfl ?_
    exact kt
  obtain ⟨T7, h7, X7, e7, E7, Hh_c1, Ex7, st7⟩ := cloneH X2 hx hZ hown (hw _ (List.mem_of_getElem? (i := 36) rfl)) (hw _ (List.mem_of_getElem? (i := 37) rfl)) (hw _ (List.mem_of_getElem? (i := 41) rfl)) (hw _ (List.mem_of_getElem? (i := 39) rfl)) (hw _ (List.mem_of_getElem? (i := 40) rfl)) (hw _ (List.mem_of_getElem? (i := 42) rfl)) e2 Ha1 Ea1 (g := (mkF m 47 #[.val (.ref r0), .val (.ref r1), .val (.ref r2), .val .null, .val .null] [(.ref r1), (.ref r0)])) rfl (by rw [hml]; rfl) rfl (hb hby d5_47) (by decide) (W := 1) (cap := 32) (by show 2 * 0 + _ ≤ _; exact Nat.le_of_eq rfl) (by decide) (by decide) (by decide) (by decide)
  obtain ⟨c1, g7⟩ : ∃ z, z = h0.size := ⟨_, rfl⟩
  rw [← g7] at Hh_c1 Ex7 st7
  have g_c1 : n0 ≤ c1 := Nat.le_trans Z0 (Nat.le_of_eq g7.symm)
  have sz_c1 : h0.size ≤ c1 := Nat.le_trans Kp.1 (Nat.le_of_eq g7.symm)
  have ne_r0_c1 : r0 ≠ c1 := Nat.ne_of_lt (Nat.lt_of_lt_of_le E_o.lt (Nat.le_of_eq g7.symm))
  have ne_r1_c1 : r1 ≠ c1 := Nat.ne_of_lt (Nat.lt_of_lt_of_le Ha1.lt (Nat.le_of_eq g7.symm))
  have E_o_7 := E_o.ext E7
  have F_pkHash_7 := F_pkHash.ext E7
  have F_hwId_7 := F_hwId.ext E7
  have F_swId_7 := F_swId.ext E7
  have F_publicKey_7 := F_publicKey.ext E7
  have Ha1_7 := Ha1.ext E7
  have Ea1_7 := Ea1.ext E7
  have Z_7 : n0 ≤ h7.size := Nat.le_trans Z0 E7.1
  have Kp_7 : Keep h0 h7 [r0] := Kp.ext E7
  obtain ⟨T8, X8, e8, st8⟩ := castY X7 hx hZ hown (hw _ (List.mem_of_getElem? (i := 43) rfl)) e7 (Ins.self Ex7) (g := (mkF m 50 #[.val (.ref r0), .val (.ref r1), .val (.ref r2), .val .null, .val .null] [(.ref c1), (.ref r0)])) rfl rfl (hb hby d5_50)
  obtain ⟨T9, h9, X9, e9, W9, st9⟩ := putF X8 hx hZ hown (host := "") (Or.inl (hw _ (List.mem_of_getElem? (i := 30) rfl))) Via.refl e8 F_pkHash_7 E_o_7 (Or.inr ⟨(hw _ (List.mem_of_getElem? (i := 31) rfl)), rfl, hnm⟩) (hw _ (List.mem_of_getElem? (i := 2) rfl)) (ty := (.array .byte)) (by decide) rfl rfl (g := (mkF m 53 #[.val (.ref r0), .val (.ref r1), .val (.ref r2), .val .null, .val .null] [(.ref c1), (.ref r0)])) rfl rfl (hb hby d5_53)
  have F_pkHash_r0_9 : Fld Z h9 r0 "com/example/imprimatur/imprimatur/verify/DeviceValues" "pkHash" "[B" (.ref c1) := F_pkHash_7.same W9
  have E_o_9 := E_o_7.wr W9
  have F_hwId_9 := F_hwId_7.other W9 (Or.inr (slot_ne (Or.inr (hw _ (List.mem_of_getElem? (i := 33) rfl))) (Or.inr (hw _ (List.mem_of_getElem? (i := 31) rfl))) (by decide) (t := (.object "java/lang/Long")) (t' := (.array .byte)) (by decide) (by decide)))
  have F_swId_9 := F_swId_7.other W9 (Or.inr (slot_ne (Or.inr (hw _ (List.mem_of_getElem? (i := 35) rfl))) (Or.inr (hw _ (List.mem_of_getElem? (i := 31) rfl))) (by decide) (t := (.object "java/lang/Long")) (t' := (.array .byte)) (by decide) (by decide)))
  have F_publicKey_9 := F_publicKey_7.other W9 (Or.inr (slot_ne (Or.inr (hw _ (List.mem_of_getElem? (i := 46) rfl))) (Or.inr (hw _ (List.mem_of_getElem? (i := 31) rfl))) (by decide) (t := (.array .byte)) (t' := (.array .byte)) (by decide) (by decide)))
  have Z_9 : n0 ≤ h9.size := Nat.le_trans Z_7 (Keep.of_wr W9).1
  have Kp_9 : Keep h0 h9 [r0] := Kp_7.wr W9 (Or.inl (List.mem_of_getElem? (i := 0) rfl))
  have N9 := Fr.snoc X9 N0 g_r0
  have st10 : ∀ target, Steps p.tables e below (T9.setTop (mkF m 58 #[.val (.ref r0), .val (.ref r1), .val (.ref r2), .val .null, .val .null] [(.ref r2), (.ref r0)])) target → Steps p.tables e below (T9.setTop (mkF m 56 #[.val (.ref r0), .val (.ref r1), .val (.ref r2), .val .null, .val .null] [])) target := by
    intro target kt
    show Steps p.tables e below (T9.setTop (mkF m 56 #[.val (.ref r0), .val (.ref r1), .val (.ref r2), .val .null, .val .null] [])) _
    refine XS.aloadN X9.here hx rfl (hb hby d5_56) rfl rfl ?_
    show Steps p.tables e below (T9.setTop (mkF m 57 #[.val (.ref r0), .val (.ref r1), .val (.ref r2), .val .null, .val .null] [(.ref r0)])) _
    refine XS.aloadN X9.here hx rfl (hb hby d5_57) rfl rfl ?_
    exact kt
  obtain ⟨T11, h11, X11, e11, W11, st11⟩ := putF X9 hx hZ hown (host := "") (Or.inl (hw _ (List.mem_of_getElem? (i := 32) rfl))) Via.refl e9 F_hwId_9 E_o_9 (Or.inr ⟨(hw _ (List.mem_of_getElem? (i := 33) rfl)), rfl, hnm⟩) (hw _ (List.mem_of_getElem? (i := 2) rfl)) (ty := (.object "java/lang/Long")) (by decide) rfl rfl (g := (mkF m 58 #[.val (.ref r0), .val (.ref r1), .val (.ref r2), .val .null, .val .null] [(.ref r2), (.ref r0)])) rfl rfl (hb hby d5_58)
  have F_hwId_r0_11 : Fld Z h11 r0 "com/example/imprimatur/imprimatur/verify/DeviceValues" "hwId" "Ljava/lang/Long;" (.ref r2) := F_hwId_9.same W11
  have E_o_11 := E_o_9.wr W11
  have F_swId_11 := F_swId_9.other W11 (Or.inr (slot_ne (Or.inr (hw _ (List.mem_of_getElem? (i := 35) rfl))) (Or.inr (hw _ (List.mem_of_getElem? (i := 33) rfl))) (by decide) (t := (.object "java/lang/Long")) (t' := (.object "java/lang/Long")) (by decide) (by decide)))
  have F_publicKey_11 := F_publicKey_9.other W11 (Or.inr (slot_ne (Or.inr (hw _ (List.mem_of_getElem? (i := 46) rfl))) (Or.inr (hw _ (List.mem_of_getElem? (i := 33) rfl))) (by decide) (t := (.array .byte)) (t' := (.object "java/lang/Long")) (by decide) (by decide)))
  have F_pkHash_r0_11 := F_pkHash_r0_9.other W11 (Or.inr (slot_ne (Or.inr (hw _ (List.mem_of_getElem? (i := 31) rfl))) (Or.inr (hw _ (List.mem_of_getElem? (i := 33) rfl))) (by decide) (t := (.array .byte)) (t' := (.object "java/lang/Long")) (by decide) (by decide)))
  have Z_11 : n0 ≤ h11.size := Nat.le_trans Z_9 (Keep.of_wr W11).1
  have Kp_11 : Keep h0 h11 [r0] := Kp_9.wr W11 (Or.inl (List.mem_of_getElem? (i := 0) rfl))
  have N11 := Fr.snoc X11 N9 g_r0
  have st12 : ∀ target, Steps p.tables e below (T11.setTop (mkF m 63 #[.val (.ref r0), .val (.ref r1), .val (.ref r2), .val .null, .val .null] [.null, (.ref r0)])) target → Steps p.tables e below (T11.setTop (mkF m 61 #[.val (.ref r0), .val (.ref r1), .val (.ref r2), .val .null, .val .null] [])) target := by
    intro target kt
    show Steps p.tables e below (T11.setTop (mkF m 61 #[.val (.ref r0), .val (.ref r1), .val (.ref r2), .val .null, .val .null] [])) _
    refine XS.aloadN X11.here hx rfl (hb hby d5_61) rfl rfl ?_
    show Steps p.tables e below (T11.setTop (mkF m 62 #[.val (.ref r0), .val (.ref r1), .val (.ref r2), .val .null, .val .null] [(.ref r0)])) _
    refine XS.aloadN X11.here hx rfl (hb hby d5_62) rfl rfl ?_
    exact kt
  obtain ⟨T13, h13, X13, e13, W13, st13⟩ := putF X11 hx hZ hown (host := "") (Or.inl (hw _ (List.mem_of_getElem? (i := 34) rfl))) Via.refl e11 F_swId_11 E_o_11 (Or.inr ⟨(hw _ (List.mem_of_getElem? (i := 35) rfl)), rfl, hnm⟩) (hw _ (List.mem_of_getElem? (i := 2) rfl)) (ty := (.object "java/lang/Long")) (by decide) rfl rfl (g := (mkF m 63 #[.val (.ref r0), .val (.ref r1), .val (.ref r2), .val .null, .val .null] [.null, (.ref r0)])) rfl rfl (hb hby d5_63)
  have F_swId_r0_13 : Fld Z h13 r0 "com/example/imprimatur/imprimatur/verify/DeviceValues" "swId" "Ljava/lang/Long;" .null := F_swId_11.same W13
  have E_o_13 := E_o_11.wr W13
  have F_publicKey_13 := F_publicKey_11.other W13 (Or.inr (slot_ne (Or.inr (hw _ (List.mem_of_getElem? (i := 46) rfl))) (Or.inr (hw _ (List.mem_of_getElem? (i := 35) rfl))) (by decide) (t := (.array .byte)) (t' := (.object "java/lang/Long")) (by decide) (by decide)))
  have F_pkHash_r0_13 := F_pkHash_r0_11.other W13 (Or.inr (slot_ne (Or.inr (hw _ (List.mem_of_getElem? (i := 31) rfl))) (Or.inr (hw _ (List.mem_of_getElem? (i := 35) rfl))) (by decide) (t := (.array .byte)) (t' := (.object "java/lang/Long")) (by decide) (by decide)))
  have F_hwId_r0_13 := F_hwId_r0_11.other W13 (Or.inr (slot_ne (Or.inr (hw _ (List.mem_of_getElem? (i := 33) rfl))) (Or.inr (hw _ (List.mem_of_getElem? (i := 35) rfl))) (by decide) (t := (.object "java/lang/Long")) (t' := (.object "java/lang/Long")) (by decide) (by decide)))
  have Z_13 : n0 ≤ h13.size := Nat.le_trans Z_11 (Keep.of_wr W13).1
  have Kp_13 : Keep h0 h13 [r0] := Kp_11.wr W13 (Or.inl (List.mem_of_getElem? (i := 0) rfl))
  have N13 := Fr.snoc X13 N11 g_r0
  have st14 : ∀ target, Steps p.tables e below (T13.setTop (mkF m 84 #[.val (.ref r0), .val (.ref r1), .val (.ref r2), .val .null, .val .null] [.null, (.ref r0)])) target → Steps p.tables e below (T13.setTop (mkF m 66 #[.val (.ref r0), .val (.ref r1), .val (.ref r2), .val .null, .val .null] [])) target := by
    intro target kt
    show Steps p.tables e below (T13.setTop (mkF m 66 #[.val (.ref r0), .val (.ref r1), .val (.ref r2), .val .null, .val .null] [])) _
    refine XS.aloadN X13.here hx rfl (hb hby d5_66) rfl rfl ?_
    show Steps p.tables e below (T13.setTop (mkF m 67 #[.val (.ref r0), .val (.ref r1), .val (.ref r2), .val .null, .val .null] [(.ref r0)])) _
    refine XS.aload X13.here hx rfl (hb hby d5_67) rfl rfl ?_
    show Steps p.tables e below (T13.setTop (mkF m 69 #[.val (.ref r0), .val (.ref r1), .val (.ref r2), .val .null, .val .null] [.null, (.ref r0)])) _
    refine XS.ifnonnullNo X13.here hx rfl (hb hby d5_69) rfl ?_
    show Steps p.tables e below (T13.setTop (mkF m 72 #[.val (.ref r0), .val (.ref r1), .val (.ref r2), .val .null, .val .null] [(.ref r0)])) _
    refine XS.aconstNull X13.here hx rfl (hb hby d5_72) ?_
    show Steps p.tables e below (T13.setTop (mkF m 73 #[.val (.ref r0), .val (.ref r1), .val (.ref r2), .val .null, .val .null] [.null, (.ref r0)])) _
    refine XS.goto X13.here hx rfl (pc0 := 73) (pc' := 84) rfl (hb hby d5_73) (by decide) (by decide) ?_
    exact kt
  obtain ⟨T15, h15, X15, e15, W15, st15⟩ := putF X13 hx hZ hown (host := "") (Or.inl (hw _ (List.mem_of_getElem? (i := 45) rfl))) Via.refl e13 F_publicKey_13 E_o_13 (Or.inr ⟨(hw _ (List.mem_of_getElem? (i := 46) rfl)), rfl, hnm⟩) (hw _ (List.mem_of_getElem? (i := 2) rfl)) (ty := (.array .byte)) (by decide) rfl rfl (g := (mkF m 84 #[.val (.ref r0), .val (.ref r1), .val (.ref r2), .val .null, .val .null] [.null, (.ref r0)])) rfl rfl (hb hby d5_84)
  have F_publicKey_r0_15 : Fld Z h15 r0 "com/example/imprimatur/imprimatur/verify/DeviceValues" "publicKey" "[B" .null := F_publicKey_13.same W15
  have E_o_15 := E_o_13.wr W15
  have F_pkHash_r0_15 := F_pkHash_r0_13.other W15 (Or.inr (slot_ne (Or.inr (hw _ (List.mem_of_getElem? (i := 31) rfl))) (Or.inr (hw _ (List.mem_of_getElem? (i := 46) rfl))) (by decide) (t := (.array .byte)) (t' := (.array .byte)) (by decide) (by decide)))
  have F_hwId_r0_15 := F_hwId_r0_13.other W15 (Or.inr (slot_ne (Or.inr (hw _ (List.mem_of_getElem? (i := 33) rfl))) (Or.inr (hw _ (List.mem_of_getElem? (i := 46) rfl))) (by decide) (t := (.object "java/lang/Long")) (t' := (.array .byte)) (by decide) (by decide)))
  have F_swId_r0_15 := F_swId_r0_13.other W15 (Or.inr (slot_ne (Or.inr (hw _ (List.mem_of_getElem? (i := 35) rfl))) (Or.inr (hw _ (List.mem_of_getElem? (i := 46) rfl))) (by decide) (t := (.object "java/lang/Long")) (t' := (.array .byte)) (by decide) (by decide)))
  have Z_15 : n0 ≤ h15.size := Nat.le_trans Z_13 (Keep.of_wr W15).1
  have Kp_15 : Keep h0 h15 [r0] := Kp_13.wr W15 (Or.inl (List.mem_of_getElem? (i := 0) rfl))
  have N15 := Fr.snoc X15 N13 g_r0
  obtain ⟨fs, hr, hrun, hended, hW, hsame⟩ := X15.leave (v := none) (fun _ => rfl)
  refine ⟨_, _, pre0 _ (st1 _ (st2 _ (st3 _ (st5 _ (st6 _ (st7 _ (st8 _ (st9 _ (st10 _ (st11 _ (st12 _ (st13 _ (st14 _ (st15 _ ?_)))))))))))))), hrun, hended, _, _, rfl, ?_, ⟨_, rfl⟩, hW, hsame.mono (by decide) (by decide)⟩
  · show Steps p.tables e below (T15.setTop (mkF m 87 #[.val (.ref r0), .val (.ref r1), .val (.ref r2), .val .null, .val .null] [])) _
    exact X15.returnOut hx Bd.returns (hb hby d5_87) hr
  · show Q_rmI10 Z r0 r1 r2 k1 hs1 h0 n0 _ T15.heap _
    rw [e15]
    exact ⟨rfl, N15, Kp_15, E_o_15, F_publicKey_r0_15⟩
theorem ef_rmI11 (m : MethodId) (x0 : Addr) (x1 : Addr) (x2 : Addr) (x4 : Addr) : entryFrame m #[(.ref x0), (.ref x1), (.ref x2), .null, (.ref x4)] 5 = mkF m 0 #[.val (.ref x0), .val (.ref x1), .val (.ref x2), .val .null, .val (.ref x4)] [] := by first | (simp [entryFrame, mkF, argsToLocals, Value.category]; done) | rfl
def Q_rmI11 (Z : State) (r0 : Addr) (r1 : Addr) (r2 : Addr) (r4 : Addr) (k1 : ClassId) (hs1 : List (Int32 × Value)) (k4 : ClassId) (z4 : Int32) (hs4 : List (Int32 × Value)) (h0 : Heap) (n0 : Nat) (v : Option Value) (h : Heap) (L : List Loc) : Prop := v = none ∧ Fr n0 L ∧ Keep h0 h [r0] ∧ Exa Z h r0 "com/example/imprimatur/imprimatur/verify/DeviceValues" ∧ ∃ c, h0.size ≤ c ∧ Fld Z h r0 "com/example/imprimatur/imprimatur/verify/DeviceValues" "publicKey" "[B" (.ref c) ∧ Arh Z h c k4 .byte z4 hs4 [] (.int (0 : Int32)) ∧ Exa Z h c "[B"
set_option maxRecDepth 65536 in
set_option maxHeartbeats 40000000 in
theorem rmI11 (l : Launch) (Z : State) (a0 : Array Value) (hw : ∀ d ∈ tables_1, d.before a0 Z = true) (ws : List Jvm.Cond) (r0 : Addr) (r1 : Addr) (r2 : Addr) (r4 : Addr) (k1 : ClassId) (hs1 : List (Int32 × Value)) (k4 : ClassId) (z4 : Int32) (hs4 : List (Int32 × Value)) (h0 : Heap) (n0 : Nat) (Z0 : n0 ≤ h0.size) (F_pkHash : Fld Z h0 r0 "com/example/imprimatur/imprimatur/verify/DeviceValues" "pkHash" "[B" .null) (F_hwId : Fld Z h0 r0 "com/example/imprimatur/imprimatur/verify/DeviceValues" "hwId" "Ljava/lang/Long;" .null) (F_swId : Fld Z h0 r0 "com/example/imprimatur/imprimatur/verify/DeviceValues" "swId" "Ljava/lang/Long;" .null) (F_publicKey : Fld Z h0 r0 "com/example/imprimatur/imprimatur/verify/DeviceValues" "publicKey" "[B" .null) (E_o : Exa Z h0 r0 "com/example/imprimatur/imprimatur/verify/DeviceValues") (g_r0 : n0 ≤ r0) (Ha1 : Arh Z h0 r1 k1 .byte (32 : Int32) hs1 [] (.int (0 : Int32))) (Ea1 : Exa Z h0 r1 "[B") (hn1 : r0 ≠ r1) (Ha4 : Arh Z h0 r4 k4 .byte z4 hs4 [] (.int (0 : Int32))) (Ea4 : Exa Z h0 r4 "[B") (hn4 : r0 ≠ r4) (hz4 : z4.toNatClampNeg ≤ 3) (hn14 : r1 ≠ r4) :
    MetFree l (⟨"com/example/imprimatur/imprimatur/verify/DeviceValues", "<init>", "([BLjava/lang/Long;Ljava/lang/Long;[B)V"⟩ : MethodName) (head1 (Jvm.Cond.code (⟨"com/example/imprimatur/imprimatur/verify/DeviceValues", "<init>", "([BLjava/lang/Long;Ljava/lang/Long;[B)V"⟩ : MethodName) prog_47_method_1_code 5 none :: ws) ({ frames := 1, cells := 2, slots := 35, locals := 15 } : Room)) (fun a U => a = #[(.ref r0), (.ref r1), (.ref r2), .null, (.ref r4)] ∧ Z.Warmed39 U.vm ∧ U.heap = h0) (fun _ _ _ _ _ => True) (fun _ U o U' => ∃ v L, o = .returned v ∧ Q_rmI11 Z r0 r1 r2 r4 k1 hs1 k4 z4 hs4 h0 n0 v U'.heap L ∧ FrameEnd U o U' L ({ frames := 1, cells := 2, slots := 35, locals := 15 } : Room).cells ({ frames := 1, cells := 2, slots := 35, locals := 15 } : Room).slots) := by
  refine MetFree.of_bodySF (plainFor_of_name pn_2) hisR ?_
  intro p e s m args below meth c s₁ Bd hml0 hP hK
  obtain ⟨rfl, hZ, hh⟩ := hP
  have hx := Bd.exec
  have hby := Bd.bytes
  have hml : c.maxLocals = 5 := hml0
  have hown : s.vm.findClass "com/example/imprimatur/imprimatur/verify/DeviceValues" = some m.cls := findClass_of_methodNamed Bd.named
  have hnm := (name_of_methodNamed Bd.named Bd.method).1
  have X0 : Stand p l e ({ frames := 1, cells := 2, slots := 35, locals := 15 } : Room) s m #[(.ref r0), (.ref r1), (.ref r2), .null, (.ref r4)] below meth c s₁ [] 0 0 := Stand.of_body Bd
  have e0 : s₁.heap = h0 := by rw [← hh, Bd.state]; rfl
  have N0 := Fr.nil n0
  have pre0 : ∀ t, Steps p.tables e below (s₁.setTop (mkF m 0 #[.val (.ref r0), .val (.ref r1), .val (.ref r2), .val .null, .val (.ref r4)] [])) t → Steps p.tables e below (s₁.setTop (entryFrame m #[(.ref r0), (.ref r1), (.ref r2), .null, (.ref r4)] 5)) t := fun t k => castTop (ef_rmI11 m r0 r1 r2 r4) k
  have Kp : Keep h0 h0 [r0] := Keep.refl _ _
  have st1 : ∀ target, Steps p.tables e below (s₁.setTop (mkF m 1 #[.val (.ref r0), .val (.ref r1), .val (.ref r2), .val .null, .val (.ref r4)] [(.ref r0)])) target → Steps p.tables e below (s₁.setTop (mkF m 0 #[.val (.ref r0), .val (.ref r1), .val (.ref r2), .val .null, .val (.ref r4)] [])) target := by
    intro target kt
    show Steps p.tables e below (s₁.setTop (mkF m 0 #[.val (.ref r0), .val (.ref r1), .val (.ref r2), .val .null, .val (.ref r4)] [])) _
    refine XS.aloadN X0.here hx rfl (hb hby d5_0) rfl rfl ?_
    exact kt
  obtain ⟨T2, X2, e2, st2⟩ := initO X0 hx hZ hown (hw _ (List.mem_of_getElem? (i := 29) rfl)) (hw _ (List.mem_of_getElem? (i := 22) rfl)) (hw _ (List.mem_of_getElem? (i := 23) rfl)) e0 (g := (mkF m 1 #[.val (.ref r0), .val (.ref r1), .val (.ref r2), .val .null, .val (.ref r4)] [(.ref r0)])) rfl (by rw [hml]; rfl) rfl (hb hby d5_1) (by decide) (W := 0) (by show 2 * 0 + _ ≤ _; exact Nat.le_of_eq rfl) (by decide)
  have st3 : ∀ target, Steps p.tables e below (T2.setTop (mkF m 9 #[.val (.ref r0), .val (.ref r1), .val (.ref r2), .val .null, .val (.ref r4)] [(.ref r1)])) target → Steps p.tables e below (T2.setTop (mkF m 4 #[.val (.ref r0), .val (.ref r1), .val (.ref r2), .val .null, .val (.ref r4)] [])) target := by
    intro target kt
    show Steps p.tables e below (T2.setTop (mkF m 4 #[.val (.ref r0), .val (.ref r1), .val (.ref r2), .val .null, .val (.ref r4)] [])) _
    refine XS.aloadN X2.here hx rfl (hb hby d5_4) rfl rfl ?_
    show Steps p.tables e below (T2.setTop (mkF m 5 #[.val (.ref r0), .val (.ref r1), .val (.ref r2), .val .null, .val (.ref r4)] [(.ref r1)])) _
    refine XS.ifnullNo X2.here hx rfl (hb hby d5_5) rfl ?_
    show Steps p.tables e below (T2.setTop (mkF m 8 #[.val (.ref r0), .val (.ref r1), .val (.ref r2), .val .null, .val (.ref r4)] [])) _
    refine XS.aloadN X2.here hx rfl (hb hby d5_8) rfl rfl ?_
    exact kt
  obtain ⟨cl4, Ar4, qc4, Sz4, Mn4, Hs4, Gs4⟩ := id Ha1
  have st5 : ∀ target, Steps p.tables e below (T2.setTop (mkF m 10 #[.val (.ref r0), .val (.ref r1), .val (.ref r2), .val .null, .val (.ref r4)] [(.int (32 : Int32))])) target → Steps p.tables e below (T2.setTop (mkF m 9 #[.val (.ref r0), .val (.ref r1), .val (.ref r2), .val .null, .val (.ref r4)] [(.ref r1)])) target := fun target kt => X2.arraylength hx (cell := cl4) (by rw [e2]; exact Ar4.1) (State.isArrayOf_alike hZ.alike Ar4.2.1) (g := (mkF m 9 #[.val (.ref r0), .val (.ref r1), .val (.ref r2), .val .null, .val (.ref r4)] [(.ref r1)])) rfl rfl (hb hby d5_9) _ (by rw [len_of (c := cl4) Sz4 Mn4]; exact kt)
  have st6 : ∀ target, Steps p.tables e below (T2.setTop (mkF m 47 #[.val (.ref r0), .val (.ref r1), .val (.ref r2), .val .null, .val (.ref r4)] [(.ref r1), (.ref r0)])) target → Steps p.tables e below (T2.setTop (mkF m 10 #[.val (.ref r0), .val (.ref r1), .val (.ref r2), .val .null, .val (.ref r4)] [(.int (32 : Int32))])) target := by
    intro target kt
    show Steps p.tables e below (T2.setTop (mkF m 10 #[.val (.ref r0), .val (.ref r1), .val (.ref r2), .val .null, .val (.ref r4)] [(.int (32 : Int32))])) _
    refine XS.bipush X2.here hx rfl (hb hby d5_10) ?_
    show Steps p.tables e below (T2.setTop (mkF m 12 #[.val (.ref r0), .val (.ref r1), .val (.ref r2), .val .null, .val (.ref r4)] [(.int (32 : Int32)), (.int (32 : Int32))])) _
    refine XS.icmpYes X2.here hx rfl (pc0 := 12) (pc' := 37) rfl (hb hby d5_12) rfl (teq (rfl : (32 : Int32) = (32 : Int32))).1 (by decide) (by decide) ?_
    show Steps p.tables e below (T2.setTop (mkF m 37 #[.val (.ref r0), .val (.ref r1), .val (.ref r2), .val .null, .val (.ref r4)] [])) _
    refine XS.aloadN X2.here hx rfl (hb hby d5_37) rfl rfl ?_
    show Steps p.tables e below (T2.setTop (mkF m 38 #[.val (.ref r0), .val (.ref r1), .val (.ref r2), .val .null, .val (.ref r4)] [(.ref r0)])) _
    refine XS.aloadN X2.here hx rfl (hb hby d5_38) rfl rfl ?_
    show Steps p.tables e below (T2.setTop (mkF m 39 #[.val (.ref r0), .val (.ref r1), .val (.ref r2), .val .null, .val (.ref r4)] [(.ref r1), (.ref r0)])) _
    refine XS.ifnonnullYes X2.here hx rfl (pc0 := 39) (pc' := 46) rfl (hb hby d5_39) rfl (by decide) (by decide) ?_
    show Steps p.tables e below (T2.setTop (mkF m 46 #[.val (.ref r0), .val (.ref r1), .val (.ref r2), .val .null, .val (.ref r4)] [(.ref r0)])) _
    refine XS.aloadN X2.here hx rfl (hb hby d5_46) rfl rfl ?_
    exact kt
  obtain ⟨T7, h7, X7, e7, E7, Hh_c1, Ex7, st7⟩ := cloneH X2 hx hZ hown (hw _ (List.mem_of_getElem? (i := 36) rfl)) (hw _ (List.mem_of_getElem? (i := 37) rfl)) (hw _ (List.mem_of_getElem? (i := 41) rfl)) (hw _ (List.mem_of_getElem? (i := 39) rfl)) (hw _ (List.mem_of_getElem? (i := 40) rfl)) (hw _ (List.mem_of_getElem? (i := 42) rfl)) e2 Ha1 Ea1 (g := (mkF m 47 #[.val (.ref r0), .val (.ref r1), .val (.ref r2), .val .null, .val (.ref r4)] [(.ref r1), (.ref r0)])) rfl (by rw [hml]; rfl) rfl (hb hby d5_47) (by decide) (W := 1) (cap := 32) (by show 2 * 0 + _ ≤ _; exact Nat.le_of_eq rfl) (by decide) (by decide) (by decide) (by decide)
  obtain ⟨c1, g7⟩ : ∃ z, z = h0.size := ⟨_, rfl⟩
  rw [← g7] at Hh_c1 Ex7 st7
  have g_c1 : n0 ≤ c1 := Nat.le_trans Z0 (Nat.le_of_eq g7.symm)
  have sz_c1 : h0.size ≤ c1 := Nat.le_trans Kp.1 (Nat.le_of_eq g7.symm)
  have ne_r0_c1 : r0 ≠ c1 := Nat.ne_of_lt (Nat.lt_of_lt_of_le E_o.lt (Nat.le_of_eq g7.symm))
  have ne_r1_c1 : r1 ≠ c1 := Nat.ne_of_lt (Nat.lt_of_lt_of_le Ha1.lt (Nat.le_of_eq g7.symm))
  have ne_r4_c1 : r4 ≠ c1 := Nat.ne_of_lt (Nat.lt_of_lt_of_le Ha4.lt (Nat.le_of_eq g7.symm))
  have E_o_7 := E_o.ext E7
  have F_pkHash_7 := F_pkHash.ext E7
  have F_hwId_7 := F_hwId.ext E7
  have F_swId_7 := F_swId.ext E7
  have F_publicKey_7 := F_publicKey.ext E7
  have Ha1_7 := Ha1.ext E7
  have Ea1_7 := Ea1.ext E7
  have Ha4_7 := Ha4.ext E7
  have Ea4_7 := Ea4.ext E7
  have Z_7 : n0 ≤ h7.size := Nat.le_trans Z0 E7.1
  have Kp_7 : Keep h0 h7 [r0] := Kp.ext E7
  obtain ⟨T8, X8, e8, st8⟩ := castY X7 hx hZ hown (hw _ (List.mem_of_getElem? (i := 43) rfl)) e7 (Ins.self Ex7) (g := (mkF m 50 #[.val (.ref r0), .val (.ref r1), .val (.ref r2), .val .null, .val (.ref r4)] [(.ref c1), (.ref r0)])) rfl rfl (hb hby d5_50)
  obtain ⟨T9, h9, X9, e9, W9, st9⟩ := putF X8 hx hZ hown (host := "") (Or.inl (hw _ (List.mem_of_getElem? (i := 30) rfl))) Via.refl e8 F_pkHash_7 E_o_7 (Or.inr ⟨(hw _ (List.mem_of_getElem? (i := 31) rfl)), rfl, hnm⟩) (hw _ (List.mem_of_getElem? (i := 2) rfl)) (ty := (.array .byte)) (by decide) rfl rfl (g := (mkF m 53 #[.val (.ref r0), .val (.ref r1), .val (.ref r2), .val .null, .val (.ref r4)] [(.ref c1), (.ref r0)])) rfl rfl (hb hby d5_53)
  have F_pkHash_r0_9 : Fld Z h9 r0 "com/example/imprimatur/imprimatur/verify/DeviceValues" "pkHash" "[B" (.ref c1) := F_pkHash_7.same W9
  have E_o_9 := E_o_7.wr W9
  have F_hwId_9 := F_hwId_7.other W9 (Or.inr (slot_ne (Or.inr (hw _ (List.mem_of_getElem? (i := 33) rfl))) (Or.inr (hw _ (List.mem_of_getElem? (i := 31) rfl))) (by decide) (t := (.object "java/lang/Long")) (t' := (.array .byte)) (by decide) (by decide)))
  have F_swId_9 := F_swId_7.other W9 (Or.inr (slot_ne (Or.inr (hw _ (List.mem_of_getElem? (i := 35) rfl))) (Or.inr (hw _ (List.mem_of_getElem? (i := 31) rfl))) (by decide) (t := (.object "java/lang/Long")) (t' := (.array .byte)) (by decide) (by decide)))
  have F_publicKey_9 := F_publicKey_7.other W9 (Or.inr (slot_ne (Or.inr (hw _ (List.mem_of_getElem? (i := 46) rfl))) (Or.inr (hw _ (List.mem_of_getElem? (i := 31) rfl))) (by decide) (t := (.array .byte)) (t' := (.array .byte)) (by decide) (by decide)))
  have Ha4_9 := Ha4_7.other W9 (Ne.symm hn4)
  have Ea4_9 := Ea4_7.wr W9
  have Z_9 : n0 ≤ h9.size := Nat.le_trans Z_7 (Keep.of_wr W9).1
  have Kp_9 : Keep h0 h9 [r0] := Kp_7.wr W9 (Or.inl (List.mem_of_getElem? (i := 0) rfl))
  have N9 := Fr.snoc X9 N0 g_r0
  have st10 : ∀ target, Steps p.tables e below (T9.setTop (mkF m 58 #[.val (.ref r0), .val (.ref r1), .val (.ref r2), .val .null, .val (.ref r4)] [(.ref r2), (.ref r0)])) target → Steps p.tables e below (T9.setTop (mkF m 56 #[.val (.ref r0), .val (.ref r1), .val (.ref r2), .val .null, .val (.ref r4)] [])) target := by
    intro target kt
    show Steps p.tables e below (T9.setTop (mkF m 56 #[.val (.ref r0), .val (.ref r1), .val (.ref r2), .val .null, .val (.ref r4)] [])) _
    refine XS.aloadN X9.here hx rfl (hb hby d5_56) rfl rfl ?_
    show Steps p.tables e below (T9.setTop (mkF m 57 #[.val (.ref r0), .val (.ref r1), .val (.ref r2), .val .null, .val (.ref r4)] [(.ref r0)])) _
    refine XS.aloadN X9.here hx rfl (hb hby d5_57) rfl rfl ?_
    exact kt
  obtain ⟨T11, h11, X11, e11, W11, st11⟩ := putF X9 hx hZ hown (host := "") (Or.inl (hw _ (List.mem_of_getElem? (i := 32) rfl))) Via.refl e9 F_hwId_9 E_o_9 (Or.inr ⟨(hw _ (List.mem_of_getElem? (i := 33) rfl)), rfl, hnm⟩) (hw _ (List.mem_of_getElem? (i := 2) rfl)) (ty := (.object "java/lang/Long")) (by decide) rfl rfl (g := (mkF m 58 #[.val (.ref r0), .val (.ref r1), .val (.ref r2), .val .null, .val (.ref r4)] [(.ref r2), (.ref r0)])) rfl rfl (hb hby d5_58)
  have F_hwId_r0_11 : Fld Z h11 r0 "com/example/imprimatur/imprimatur/verify/DeviceValues" "hwId" "Ljava/lang/Long;" (.ref r2) := F_hwId_9.same W11
  have E_o_11 := E_o_9.wr W11
  have F_swId_11 := F_swId_9.other W11 (Or.inr (slot_ne (Or.inr (hw _ (List.mem_of_getElem? (i := 35) rfl))) (Or.inr (hw _ (List.mem_of_getElem? (i := 33) rfl))) (by decide) (t := (.object "java/lang/Long")) (t' := (.object "java/lang/Long")) (by decide) (by decide)))
  have F_publicKey_11 := F_publicKey_9.other W11 (Or.inr (slot_ne (Or.inr (hw _ (List.mem_of_getElem? (i := 46) rfl))) (Or.inr (hw _ (List.mem_of_getElem? (i := 33) rfl))) (by decide) (t := (.array .byte)) (t' := (.object "java/lang/Long")) (by decide) (by decide)))
  have Ha4_11 := Ha4_9.other W11 (Ne.symm hn4)
  have Ea4_11 := Ea4_9.wr W11
  have F_pkHash_r0_11 := F_pkHash_r0_9.other W11 (Or.inr (slot_ne (Or.inr (hw _ (List.mem_of_getElem? (i := 31) rfl))) (Or.inr (hw _ (List.mem_of_getElem? (i := 33) rfl))) (by decide) (t := (.array .byte)) (t' := (.object "java/lang/Long")) (by decide) (by decide)))
  have Z_11 : n0 ≤ h11.size := Nat.le_trans Z_9 (Keep.of_wr W11).1
  have Kp_11 : Keep h0 h11 [r0] := Kp_9.wr W11 (Or.inl (List.mem_of_getElem? (i := 0) rfl))
  have N11 := Fr.snoc X11 N9 g_r0
  have st12 : ∀ target, Steps p.tables e below (T11.setTop (mkF m 63 #[.val (.ref r0), .val (.ref r1), .val (.ref r2), .val .null, .val (.ref r4)] [.null, (.ref r0)])) target → Steps p.tables e below (T11.setTop (mkF m 61 #[.val (.ref r0), .val (.ref r1), .val (.ref r2), .val .null, .val (.ref r4)] [])) target := by
    intro target kt
    show Steps p.tables e below (T11.setTop (mkF m 61 #[.val (.ref r0), .val (.ref r1), .val (.ref r2), .val .null, .val (.ref r4)] [])) _
    refine XS.aloadN X11.here hx rfl (hb hby d5_61) rfl rfl ?_
    show Steps p.tables e below (T11.setTop (mkF m 62 #[.val (.ref r0), .val (.ref r1), .val (.ref r2), .val .null, .val (.ref r4)] [(.ref r0)])) _
    refine XS.aloadN X11.here hx rfl (hb hby d5_62) rfl rfl ?_
    exact kt
  obtain ⟨T13, h13, X13, e13, W13, st13⟩ := putF X11 hx hZ hown (host := "") (Or.inl (hw _ (List.mem_of_getElem? (i := 34) rfl))) Via.refl e11 F_swId_11 E_o_11 (Or.inr ⟨(hw _ (List.mem_of_getElem? (i := 35) rfl)), rfl, hnm⟩) (hw _ (List.mem_of_getElem? (i := 2) rfl)) (ty := (.object "java/lang/Long")) (by decide) rfl rfl (g := (mkF m 63 #[.val (.ref r0), .val (.ref r1), .val (.ref r2), .val .null, .val (.ref r4)] [.null, (.ref r0)])) rfl rfl (hb hby d5_63)
  have F_swId_r0_13 : Fld Z h13 r0 "com/example/imprimatur/imprimatur/verify/DeviceValues" "swId" "Ljava/lang/Long;" .null := F_swId_11.same W13
  have E_o_13 := E_o_11.wr W13
  have F_publicKey_13 := F_publicKey_11.other W13 (Or.inr (slot_ne (Or.inr (hw _ (List.mem_of_getElem? (i := 46) rfl))) (Or.inr (hw _ (List.mem_of_getElem? (i := 35) rfl))) (by decide) (t := (.array .byte)) (t' := (.object "java/lang/Long")) (by decide) (by decide)))
  have Ha4_13 := Ha4_11.other W13 (Ne.symm hn4)
  have Ea4_13 := Ea4_11.wr W13
  have F_pkHash_r0_13 := F_pkHash_r0_11.other W13 (Or.inr (slot_ne (Or.inr (hw _ (List.mem_of_getElem? (i := 31) rfl))) (Or.inr (hw _ (List.mem_of_getElem? (i := 35) rfl))) (by decide) (t := (.array .byte)) (t' := (.object "java/lang/Long")) (by decide) (by decide)))
  have F_hwId_r0_13 := F_hwId_r0_11.other W13 (Or.inr (slot_ne (Or.inr (hw _ (List.mem_of_getElem? (i := 33) rfl))) (Or.inr (hw _ (List.mem_of_getElem? (i := 35) rfl))) (by decide) (t := (.object "java/lang/Long")) (t' := (.object "java/lang/Long")) (by decide) (by decide)))
  have Z_13 : n0 ≤ h13.size := Nat.le_trans Z_11 (Keep.of_wr W13).1
  have Kp_13 : Keep h0 h13 [r0] := Kp_11.wr W13 (Or.inl (List.mem_of_getElem? (i := 0) rfl))
  have N13 := Fr.snoc X13 N11 g_r0
  have st14 : ∀ target, Steps p.tables e below (T13.setTop (mkF m 78 #[.val (.ref r0), .val (.ref r1), .val (.ref r2), .val .null, .val (.ref r4)] [(.ref r4), (.ref r0)])) target → Steps p.tables e below (T13.setTop (mkF m 66 #[.val (.ref r0), .val (.ref r1), .val (.ref r2), .val .null, .val (.ref r4)] [])) target := by
    intro target kt
    show Steps p.tables e below (T13.setTop (mkF m 66 #[.val (.ref r0), .val (.ref r1), .val (.ref r2), .val .null, .val (.ref r4)] [])) _
    refine XS.aloadN X13.here hx rfl (hb hby d5_66) rfl rfl ?_
    show Steps p.tables e below (T13.setTop (mkF m 67 #[.val (.ref r0), .val (.ref r1), .val (.ref r2), .val .null, .val (.ref r4)] [(.ref r0)])) _
    refine XS.aload X13.here hx rfl (hb hby d5_67) rfl rfl ?_
    show Steps p.tables e below (T13.setTop (mkF m 69 #[.val (.ref r0), .val (.ref r1), .val (.ref r2), .val .null, .val (.ref r4)] [(.ref r4), (.ref r0)])) _
    refine XS.ifnonnullYes X13.here hx rfl (pc0 := 69) (pc' := 76) rfl (hb hby d5_69) rfl (by decide) (by decide) ?_
    show Steps p.tables e below (T13.setTop (mkF m 76 #[.val (.ref r0), .val (.ref r1), .val (.ref r2), .val .null, .val (.ref r4)] [(.ref r0)])) _
    refine XS.aload X13.here hx rfl (hb hby d5_76) rfl rfl ?_
    exact kt
  obtain ⟨T15, h15, X15, e15, E15, Hh_c4, Ex15, st15⟩ := cloneH X13 hx hZ hown (hw _ (List.mem_of_getElem? (i := 36) rfl)) (hw _ (List.mem_of_getElem? (i := 37) rfl)) (hw _ (List.mem_of_getElem? (i := 41) rfl)) (hw _ (List.mem_of_getElem? (i := 39) rfl)) (hw _ (List.mem_of_getElem? (i := 40) rfl)) (hw _ (List.mem_of_getElem? (i := 42) rfl)) e13 Ha4_13 Ea4_13 (g := (mkF m 78 #[.val (.ref r0), .val (.ref r1), .val (.ref r2), .val .null, .val (.ref r4)] [(.ref r4), (.ref r0)])) rfl (by rw [hml]; rfl) rfl (hb hby d5_78) (by decide) (W := 1) (cap := 3) (by show 2 * 0 + _ ≤ _; exact Nat.le_of_eq rfl) (by decide) hz4 (by decide) (by decide)
  obtain ⟨c4, g15⟩ : ∃ z, z = h13.size := ⟨_, rfl⟩
  rw [← g15] at Hh_c4 Ex15 st15
  have g_c4 : n0 ≤ c4 := Nat.le_trans Z_13 (Nat.le_of_eq g15.symm)
  have sz_c4 : h0.size ≤ c4 := Nat.le_trans Kp_13.1 (Nat.le_of_eq g15.symm)
  have ne_r0_c4 : r0 ≠ c4 := Nat.ne_of_lt (Nat.lt_of_lt_of_le E_o_13.lt (Nat.le_of_eq g15.symm))
  have ne_r4_c4 : r4 ≠ c4 := Nat.ne_of_lt (Nat.lt_of_lt_of_le Ha4_13.lt (Nat.le_of_eq g15.symm))
  have E_o_15 := E_o_13.ext E15
  have F_publicKey_15 := F_publicKey_13.ext E15
  have Ha4_15 := Ha4_13.ext E15
  have Ea4_15 := Ea4_13.ext E15
  have F_pkHash_r0_15 := F_pkHash_r0_13.ext E15
  have F_hwId_r0_15 := F_hwId_r0_13.ext E15
  have F_swId_r0_15 := F_swId_r0_13.ext E15
  have Z_15 : n0 ≤ h15.size := Nat.le_trans Z_13 E15.1
  have Kp_15 : Keep h0 h15 [r0] := Kp_13.ext E15
  obtain ⟨T16, X16, e16, st16⟩ := castY X15 hx hZ hown (hw _ (List.mem_of_getElem? (i := 43) rfl)) e15 (Ins.self Ex15) (g := (mkF m 81 #[.val (.ref r0), .val (.ref r1), .val (.ref r2), .val .null, .val (.ref r4)] [(.ref c4), (.ref r0)])) rfl rfl (hb hby d5_81)
  obtain ⟨T17, h17, X17, e17, W17, st17⟩ := putF X16 hx hZ hown (host := "") (Or.inl (hw _ (List.mem_of_getElem? (i := 45) rfl))) Via.refl e16 F_publicKey_15 E_o_15 (Or.inr ⟨(hw _ (List.mem_of_getElem? (i := 46) rfl)), rfl, hnm⟩) (hw _ (List.mem_of_getElem? (i := 2) rfl)) (ty := (.array .byte)) (by decide) rfl rfl (g := (mkF m 84 #[.val (.ref r0), .val (.ref r1), .val (.ref r2), .val .null, .val (.ref r4)] [(.ref c4), (.ref r0)])) rfl rfl (hb hby d5_84)
  have F_publicKey_r0_17 : Fld Z h17 r0 "com/example/imprimatur/imprimatur/verify/DeviceValues" "publicKey" "[B" (.ref c4) := F_publicKey_15.same W17
  have E_o_17 := E_o_15.wr W17
  have Ha4_17 := Ha4_15.other W17 (Ne.symm hn4)
  have Ea4_17 := Ea4_15.wr W17
  have F_pkHash_r0_17 := F_pkHash_r0_15.other W17 (Or.inr (slot_ne (Or.inr (hw _ (List.mem_of_getElem? (i := 31) rfl))) (Or.inr (hw _ (List.mem_of_getElem? (i := 46) rfl))) (by decide) (t := (.array .byte)) (t' := (.array .byte)) (by decide) (by decide)))
  have F_hwId_r0_17 := F_hwId_r0_15.other W17 (Or.inr (slot_ne (Or.inr (hw _ (List.mem_of_getElem? (i := 33) rfl))) (Or.inr (hw _ (List.mem_of_getElem? (i := 46) rfl))) (by decide) (t := (.object "java/lang/Long")) (t' := (.array .byte)) (by decide) (by decide)))
  have F_swId_r0_17 := F_swId_r0_15.other W17 (Or.inr (slot_ne (Or.inr (hw _ (List.mem_of_getElem? (i := 35) rfl))) (Or.inr (hw _ (List.mem_of_getElem? (i := 46) rfl))) (by decide) (t := (.object "java/lang/Long")) (t' := (.array .byte)) (by decide) (by decide)))
  have Ex15_17 := Ex15.wr W17
  have Hh_c4_17 := Hh_c4.other W17 (Ne.symm ne_r0_c4)
  have Z_17 : n0 ≤ h17.size := Nat.le_trans Z_15 (Keep.of_wr W17).1
  have Kp_17 : Keep h0 h17 [r0] := Kp_15.wr W17 (Or.inl (List.mem_of_getElem? (i := 0) rfl))
  have N17 := Fr.snoc X17 N13 g_r0
  obtain ⟨fs, hr, hrun, hended, hW, hsame⟩ := X17.leave (v := none) (fun _ => rfl)
  refine ⟨_, _, pre0 _ (st1 _ (st2 _ (st3 _ (st5 _ (st6 _ (st7 _ (st8 _ (st9 _ (st10 _ (st11 _ (st12 _ (st13 _ (st14 _ (st15 _ (st16 _ (st17 _ ?_)))))))))))))))), hrun, hended, _, _, rfl, ?_, ⟨_, rfl⟩, hW, hsame.mono (by decide) (by decide)⟩
  · show Steps p.tables e below (T17.setTop (mkF m 87 #[.val (.ref r0), .val (.ref r1), .val (.ref r2), .val .null, .val (.ref r4)] [])) _
    exact X17.returnOut hx Bd.returns (hb hby d5_87) hr
  · show Q_rmI11 Z r0 r1 r2 r4 k1 hs1 k4 z4 hs4 h0 n0 _ T17.heap _
    rw [e17]
    exact ⟨rfl, N17, Kp_17, E_o_17, c4, sz_c4, F_publicKey_r0_17, Hh_c4_17, Ex15_17⟩
theorem d7_0 : decode method_2_code 0 = .ok (.aload_n 0, 1) := by decide +kernel
theorem d7_1 : decode method_2_code 1 = .ok (.ifnonnull 5, 3) := by decide +kernel
theorem d7_4 : decode method_2_code 4 = .ok (.iconst 0, 1) := by decide +kernel
theorem d7_5 : decode method_2_code 5 = .ok (.ireturn, 1) := by decide +kernel
theorem d7_6 : decode method_2_code 6 = .ok (.aload_n 0, 1) := by decide +kernel
theorem d7_7 : decode method_2_code 7 = .ok (.arraylength, 1) := by decide +kernel
theorem d7_8 : decode method_2_code 8 = .ok (.iload_n 1, 1) := by decide +kernel
theorem d7_9 : decode method_2_code 9 = .ok (.if_icmp .eq 5, 3) := by decide +kernel
theorem d7_12 : decode method_2_code 12 = .ok (.iconst 0, 1) := by decide +kernel
theorem d7_13 : decode method_2_code 13 = .ok (.ireturn, 1) := by decide +kernel
theorem d7_14 : decode method_2_code 14 = .ok (.iload_n 1, 1) := by decide +kernel
theorem d7_15 : decode method_2_code 15 = .ok (.ifCond .le 12, 3) := by decide +kernel
theorem d7_18 : decode method_2_code 18 = .ok (.aload_n 0, 1) := by decide +kernel
theorem d7_19 : decode method_2_code 19 = .ok (.iconst 0, 1) := by decide +kernel
theorem d7_20 : decode method_2_code 20 = .ok (.baload, 1) := by decide +kernel
theorem d7_21 : decode method_2_code 21 = .ok (.iload_n 2, 1) := by decide +kernel
theorem d7_22 : decode method_2_code 22 = .ok (.if_icmp .eq 5, 3) := by decide +kernel
theorem d7_25 : decode method_2_code 25 = .ok (.iconst 0, 1) := by decide +kernel
theorem d7_26 : decode method_2_code 26 = .ok (.ireturn, 1) := by decide +kernel
theorem d7_27 : decode method_2_code 27 = .ok (.iload_n 1, 1) := by decide +kernel
theorem d7_28 : decode method_2_code 28 = .ok (.iconst 1, 1) := by decide +kernel
theorem d7_29 : decode method_2_code 29 = .ok (.if_icmp .le 12, 3) := by decide +kernel
theorem d7_32 : decode method_2_code 32 = .ok (.aload_n 0, 1) := by decide +kernel
theorem d7_33 : decode method_2_code 33 = .ok (.iconst 1, 1) := by decide +kernel
theorem d7_34 : decode method_2_code 34 = .ok (.baload, 1) := by decide +kernel
theorem d7_35 : decode method_2_code 35 = .ok (.iload_n 3, 1) := by decide +kernel
theorem d7_36 : decode method_2_code 36 = .ok (.if_icmp .eq 5, 3) := by decide +kernel
theorem d7_39 : decode method_2_code 39 = .ok (.iconst 0, 1) := by decide +kernel
theorem d7_40 : decode method_2_code 40 = .ok (.ireturn, 1) := by decide +kernel
theorem d7_41 : decode method_2_code 41 = .ok (.iload_n 1, 1) := by decide +kernel
theorem d7_42 : decode method_2_code 42 = .ok (.iconst 2, 1) := by decide +kernel
theorem d7_43 : decode method_2_code 43 = .ok (.if_icmp .le 13, 3) := by decide +kernel
theorem d7_46 : decode method_2_code 46 = .ok (.aload_n 0, 1) := by decide +kernel
theorem d7_47 : decode method_2_code 47 = .ok (.iconst 2, 1) := by decide +kernel
theorem d7_48 : decode method_2_code 48 = .ok (.baload, 1) := by decide +kernel
theorem d7_49 : decode method_2_code 49 = .ok (.iload 4, 2) := by decide +kernel
theorem d7_51 : decode method_2_code 51 = .ok (.if_icmp .eq 5, 3) := by decide +kernel
theorem d7_54 : decode method_2_code 54 = .ok (.iconst 0, 1) := by decide +kernel
theorem d7_55 : decode method_2_code 55 = .ok (.ireturn, 1) := by decide +kernel
theorem d7_56 : decode method_2_code 56 = .ok (.iconst 1, 1) := by decide +kernel
theorem d7_57 : decode method_2_code 57 = .ok (.ireturn, 1) := by decide +kernel
theorem pn_3 : plainName "com/example/imprimatur/imprimatur/verify/DeviceValuesPublicKeyPinLaw" = true := by first | (simp [plainName, overriddenIn]; done) | decide +kernel
theorem ef_rmS0 (m : MethodId) (x0 : Addr) (x1 : Int32) (x2 : Int32) (x3 : Int32) (x4 : Int32) : entryFrame m #[(.ref x0), (.int x1), (.int x2), (.int x3), (.int x4)] 5 = mkF m 0 #[.val (.ref x0), .val (.int x1), .val (.int x2), .val (.int x3), .val (.int x4)] [] := by first | (simp [entryFrame, mkF, argsToLocals, Value.category]; done) | rfl
def Q_rmS0 (Z : State) (r0 : Addr) (p2 : Int32) (p3 : Int32) (p4 : Int32) (kk : ClassId) (hs : List (Int32 × Value)) (h0 : Heap) (n0 : Nat) (v : Option Value) (h : Heap) (L : List Loc) : Prop := v = some (.int (1 : Int32)) ∧ Fr n0 L ∧ h = h0
set_option maxRecDepth 65536 in
set_option maxHeartbeats 40000000 in
theorem rmS0 (l : Launch) (Z : State) (a0 : Array Value) (hw : ∀ d ∈ tables_1, d.before a0 Z = true) (ws : List Jvm.Cond) (r0 : Addr) (p2 : Int32) (p3 : Int32) (p4 : Int32) (kk : ClassId) (hs : List (Int32 × Value)) (h0 : Heap) (n0 : Nat) (Z0 : n0 ≤ h0.size) (Hr : Arh Z h0 r0 kk .byte (0 : Int32) hs [] (.int (0 : Int32))) :
    MetFree l (⟨"com/example/imprimatur/imprimatur/verify/DeviceValuesPublicKeyPinLaw", "same", "([BIBBB)Z"⟩ : MethodName) (head1 (Jvm.Cond.code (⟨"com/example/imprimatur/imprimatur/verify/DeviceValuesPublicKeyPinLaw", "same", "([BIBBB)Z"⟩ : MethodName) method_2_code 5 (some .boolean) :: ws) ({ frames := 0, cells := 0, slots := 0, locals := 0 } : Room)) (fun a U => a = #[(.ref r0), (.int (0 : Int32)), (.int p2), (.int p3), (.int p4)] ∧ Z.Warmed39 U.vm ∧ U.heap = h0) (fun _ _ _ _ _ => True) (fun _ U o U' => ∃ v L, o = .returned v ∧ Q_rmS0 Z r0 p2 p3 p4 kk hs h0 n0 v U'.heap L ∧ FrameEnd U o U' L ({ frames := 0, cells := 0, slots := 0, locals := 0 } : Room).cells ({ frames := 0, cells := 0, slots := 0, locals := 0 } : Room).slots) := by
  refine MetFree.of_bodySF (plainFor_of_name pn_3) hisR ?_
  intro p e s m args below meth c s₁ Bd hml0 hP hK
  obtain ⟨rfl, hZ, hh⟩ := hP
  have hx := Bd.exec
  have hby := Bd.bytes
  have hml : c.maxLocals = 5 := hml0
  have hown : s.vm.findClass "com/example/imprimatur/imprimatur/verify/DeviceValuesPublicKeyPinLaw" = some m.cls := findClass_of_methodNamed Bd.named
  have hnm := (name_of_methodNamed Bd.named Bd.method).1
  have X0 : Stand p l e ({ frames := 0, cells := 0, slots := 0, locals := 0 } : Room) s m #[(.ref r0), (.int (0 : Int32)), (.int p2), (.int p3), (.int p4)] below meth c s₁ [] 0 0 := Stand.of_body Bd
  have e0 : s₁.heap = h0 := by rw [← hh, Bd.state]; rfl
  have N0 := Fr.nil n0
  have pre0 : ∀ t, Steps p.tables e below (s₁.setTop (mkF m 0 #[.val (.ref r0), .val (.int (0 : Int32)), .val (.int p2), .val (.int p3), .val (.int p4)] [])) t → Steps p.tables e below (s₁.setTop (entryFrame m #[(.ref r0), (.int (0 : Int32)), (.int p2), (.int p3), (.int p4)] 5)) t := fun t k => castTop (ef_rmS0 m r0 (0 : Int32) p2 p3 p4) k
  have st1 : ∀ target, Steps p.tables e below (s₁.setTop (mkF m 7 #[.val (.ref r0), .val (.int (0 : Int32)), .val (.int p2), .val (.int p3), .val (.int p4)] [(.ref r0)])) target → Steps p.tables e below (s₁.setTop (mkF m 0 #[.val (.ref r0), .val (.int (0 : Int32)), .val (.int p2), .val (.int p3), .val (.int p4)] [])) target := by
    intro target kt
    show Steps p.tables e below (s₁.setTop (mkF m 0 #[.val (.ref r0), .val (.int (0 : Int32)), .val (.int p2), .val (.int p3), .val (.int p4)] [])) _
    refine XS.aloadN X0.here hx rfl (hb hby d7_0) rfl rfl ?_
    show Steps p.tables e below (s₁.setTop (mkF m 1 #[.val (.ref r0), .val (.int (0 : Int32)), .val (.int p2), .val (.int p3), .val (.int p4)] [(.ref r0)])) _
    refine XS.ifnonnullYes X0.here hx rfl (pc0 := 1) (pc' := 6) rfl (hb hby d7_1) rfl (by decide) (by decide) ?_
    show Steps p.tables e below (s₁.setTop (mkF m 6 #[.val (.ref r0), .val (.int (0 : Int32)), .val (.int p2), .val (.int p3), .val (.int p4)] [])) _
    refine XS.aloadN X0.here hx rfl (hb hby d7_6) rfl rfl ?_
    exact kt
  obtain ⟨cl2, Ar2, qc2, Sz2, Mn2, Hs2, Gs2⟩ := id Hr
  have st3 : ∀ target, Steps p.tables e below (s₁.setTop (mkF m 8 #[.val (.ref r0), .val (.int (0 : Int32)), .val (.int p2), .val (.int p3), .val (.int p4)] [(.int (0 : Int32))])) target → Steps p.tables e below (s₁.setTop (mkF m 7 #[.val (.ref r0), .val (.int (0 : Int32)), .val (.int p2), .val (.int p3), .val (.int p4)] [(.ref r0)])) target := fun target kt => X0.arraylength hx (cell := cl2) (by rw [e0]; exact Ar2.1) (State.isArrayOf_alike hZ.alike Ar2.2.1) (g := (mkF m 7 #[.val (.ref r0), .val (.int (0 : Int32)), .val (.int p2), .val (.int p3), .val (.int p4)] [(.ref r0)])) rfl rfl (hb hby d7_7) _ (by rw [len_of (c := cl2) Sz2 Mn2]; exact kt)
  obtain ⟨fs, hr, hrun, hended, hW, hsame⟩ := X0.leave (v := some (.int (1 : Int32))) (fun h => by rw [Bd.returns] at h; cases h)
  refine ⟨_, _, pre0 _ (st1 _ (st3 _ ?_)), hrun, hended, _, _, rfl, ?_, ⟨_, rfl⟩, hW, hsame.mono (by decide) (by decide)⟩
  · show Steps p.tables e below (s₁.setTop (mkF m 8 #[.val (.ref r0), .val (.int (0 : Int32)), .val (.int p2), .val (.int p3), .val (.int p4)] [(.int (0 : Int32))])) _
    refine XS.iloadN X0.here hx rfl (hb hby d7_8) rfl ?_
    show Steps p.tables e below (s₁.setTop (mkF m 9 #[.val (.ref r0), .val (.int (0 : Int32)), .val (.int p2), .val (.int p3), .val (.int p4)] [(.int (0 : Int32)), (.int (0 : Int32))])) _
    refine XS.icmpYes X0.here hx rfl (pc0 := 9) (pc' := 14) rfl (hb hby d7_9) rfl (teq (rfl : (0 : Int32) = (0 : Int32))).1 (by decide) (by decide) ?_
    show Steps p.tables e below (s₁.setTop (mkF m 14 #[.val (.ref r0), .val (.int (0 : Int32)), .val (.int p2), .val (.int p3), .val (.int p4)] [])) _
    refine XS.iloadN X0.here hx rfl (hb hby d7_14) rfl ?_
    show Steps p.tables e below (s₁.setTop (mkF m 15 #[.val (.ref r0), .val (.int (0 : Int32)), .val (.int p2), .val (.int p3), .val (.int p4)] [(.int (0 : Int32))])) _
    refine XS.ifYes X0.here hx rfl (pc0 := 15) (pc' := 27) rfl (hb hby d7_15) rfl ((if0 _ _).trans (flt (by decide : ¬ ((0 : Int32) < (0 : Int32)))).2.2.2) (by decide) (by decide) ?_
    show Steps p.tables e below (s₁.setTop (mkF m 27 #[.val (.ref r0), .val (.int (0 : Int32)), .val (.int p2), .val (.int p3), .val (.int p4)] [])) _
    refine XS.iloadN X0.here hx rfl (hb hby d7_27) rfl ?_
    show Steps p.tables e below (s₁.setTop (mkF m 28 #[.val (.ref r0), .val (.int (0 : Int32)), .val (.int p2), .val (.int p3), .val (.int p4)] [(.int (0 : Int32))])) _
    refine XS.iconst X0.here hx rfl (hb hby d7_28) ?_
    show Steps p.tables e below (s₁.setTop (mkF m 29 #[.val (.ref r0), .val (.int (0 : Int32)), .val (.int p2), .val (.int p3), .val (.int p4)] [(.int (1 : Int32)), (.int (0 : Int32))])) _
    refine XS.icmpYes X0.here hx rfl (pc0 := 29) (pc' := 41) rfl (hb hby d7_29) rfl (flt (by decide : ¬ ((1 : Int32) < (0 : Int32)))).2.2.2 (by decide) (by decide) ?_
    show Steps p.tables e below (s₁.setTop (mkF m 41 #[.val (.ref r0), .val (.int (0 : Int32)), .val (.int p2), .val (.int p3), .val (.int p4)] [])) _
    refine XS.iloadN X0.here hx rfl (hb hby d7_41) rfl ?_
    show Steps p.tables e below (s₁.setTop (mkF m 42 #[.val (.ref r0), .val (.int (0 : Int32)), .val (.int p2), .val (.int p3), .val (.int p4)] [(.int (0 : Int32))])) _
    refine XS.iconst X0.here hx rfl (hb hby d7_42) ?_
    show Steps p.tables e below (s₁.setTop (mkF m 43 #[.val (.ref r0), .val (.int (0 : Int32)), .val (.int p2), .val (.int p3), .val (.int p4)] [(.int (2 : Int32)), (.int (0 : Int32))])) _
    refine XS.icmpYes X0.here hx rfl (pc0 := 43) (pc' := 56) rfl (hb hby d7_43) rfl (flt (by decide : ¬ ((2 : Int32) < (0 : Int32)))).2.2.2 (by decide) (by decide) ?_
    show Steps p.tables e below (s₁.setTop (mkF m 56 #[.val (.ref r0), .val (.int (0 : Int32)), .val (.int p2), .val (.int p3), .val (.int p4)] [])) _
    refine XS.iconst X0.here hx rfl (hb hby d7_56) ?_
    show Steps p.tables e below (s₁.setTop (mkF m 57 #[.val (.ref r0), .val (.int (0 : Int32)), .val (.int p2), .val (.int p3), .val (.int p4)] [(.int (1 : Int32))])) _
    exact retN X0 hx (t := .boolean) Bd.returns (by simp) (hb hby d7_57) hr
  · show Q_rmS0 Z r0 p2 p3 p4 kk hs h0 n0 _ s₁.heap _
    rw [e0]
    exact ⟨rfl, N0, rfl⟩
theorem ef_rmS1 (m : MethodId) (x0 : Addr) (x1 : Int32) (x2 : Int32) (x3 : Int32) (x4 : Int32) : entryFrame m #[(.ref x0), (.int x1), (.int x2), (.int x3), (.int x4)] 5 = mkF m 0 #[.val (.ref x0), .val (.int x1), .val (.int x2), .val (.int x3), .val (.int x4)] [] := by first | (simp [entryFrame, mkF, argsToLocals, Value.category]; done) | rfl
def Q_rmS1 (Z : State) (r0 : Addr) (p2 : Int32) (p3 : Int32) (p4 : Int32) (kk : ClassId) (hs : List (Int32 × Value)) (h0 : Heap) (n0 : Nat) (v : Option Value) (h : Heap) (L : List Loc) : Prop := v = some (.int (1 : Int32)) ∧ Fr n0 L ∧ h = h0
set_option maxRecDepth 65536 in
set_option maxHeartbeats 40000000 in
theorem rmS1 (l : Launch) (Z : State) (a0 : Array Value) (hw : ∀ d ∈ tables_1, d.before a0 Z = true) (ws : List Jvm.Cond) (r0 : Addr) (p2 : Int32) (p3 : Int32) (p4 : Int32) (kk : ClassId) (hs : List (Int32 × Value)) (h0 : Heap) (n0 : Nat) (Z0 : n0 ≤ h0.size) (Hr : Arh Z h0 r0 kk .byte (1 : Int32) hs [] (.int (0 : Int32))) (u0 : getH hs [] (.int (0 : Int32)) 0 = .int p2) :
    MetFree l (⟨"com/example/imprimatur/imprimatur/verify/DeviceValuesPublicKeyPinLaw", "same", "([BIBBB)Z"⟩ : MethodName) (head1 (Jvm.Cond.code (⟨"com/example/imprimatur/imprimatur/verify/DeviceValuesPublicKeyPinLaw", "same", "([BIBBB)Z"⟩ : MethodName) method_2_code 5 (some .boolean) :: ws) ({ frames := 0, cells := 0, slots := 0, locals := 0 } : Room)) (fun a U => a = #[(.ref r0), (.int (1 : Int32)), (.int p2), (.int p3), (.int p4)] ∧ Z.Warmed39 U.vm ∧ U.heap = h0) (fun _ _ _ _ _ => True) (fun _ U o U' => ∃ v L, o = .returned v ∧ Q_rmS1 Z r0 p2 p3 p4 kk hs h0 n0 v U'.heap L ∧ FrameEnd U o U' L ({ frames := 0, cells := 0, slots := 0, locals := 0 } : Room).cells ({ frames := 0, cells := 0, slots := 0, locals := 0 } : Room).slots) := by
  refine MetFree.of_bodySF (plainFor_of_name pn_3) hisR ?_
  intro p e s m args below meth c s₁ Bd hml0 hP hK
  obtain ⟨rfl, hZ, hh⟩ := hP
  have hx := Bd.exec
  have hby := Bd.bytes
  have hml : c.maxLocals = 5 := hml0
  have hown : s.vm.findClass "com/example/imprimatur/imprimatur/verify/DeviceValuesPublicKeyPinLaw" = some m.cls := findClass_of_methodNamed Bd.named
  have hnm := (name_of_methodNamed Bd.named Bd.method).1
  have X0 : Stand p l e ({ frames := 0, cells := 0, slots := 0, locals := 0 } : Room) s m #[(.ref r0), (.int (1 : Int32)), (.int p2), (.int p3), (.int p4)] below meth c s₁ [] 0 0 := Stand.of_body Bd
  have e0 : s₁.heap = h0 := by rw [← hh, Bd.state]; rfl
  have N0 := Fr.nil n0
  have pre0 : ∀ t, Steps p.tables e below (s₁.setTop (mkF m 0 #[.val (.ref r0), .val (.int (1 : Int32)), .val (.int p2), .val (.int p3), .val (.int p4)] [])) t → Steps p.tables e below (s₁.setTop (entryFrame m #[(.ref r0), (.int (1 : Int32)), (.int p2), (.int p3), (.int p4)] 5)) t := fun t k => castTop (ef_rmS1 m r0 (1 : Int32) p2 p3 p4) k
  have st1 : ∀ target, Steps p.tables e below (s₁.setTop (mkF m 7 #[.val (.ref r0), .val (.int (1 : Int32)), .val (.int p2), .val (.int p3), .val (.int p4)] [(.ref r0)])) target → Steps p.tables e below (s₁.setTop (mkF m 0 #[.val (.ref r0), .val (.int (1 : Int32)), .val (.int p2), .val (.int p3), .val (.int p4)] [])) target := by
    intro target kt
    show Steps p.tables e below (s₁.setTop (mkF m 0 #[.val (.ref r0), .val (.int (1 : Int32)), .val (.int p2), .val (.int p3), .val (.int p4)] [])) _
    refine XS.aloadN X0.here hx rfl (hb hby d7_0) rfl rfl ?_
    show Steps p.tables e below (s₁.setTop (mkF m 1 #[.val (.ref r0), .val (.int (1 : Int32)), .val (.int p2), .val (.int p3), .val (.int p4)] [(.ref r0)])) _
    refine XS.ifnonnullYes X0.here hx rfl (pc0 := 1) (pc' := 6) rfl (hb hby d7_1) rfl (by decide) (by decide) ?_
    show Steps p.tables e below (s₁.setTop (mkF m 6 #[.val (.ref r0), .val (.int (1 : Int32)), .val (.int p2), .val (.int p3), .val (.int p4)] [])) _
    refine XS.aloadN X0.here hx rfl (hb hby d7_6) rfl rfl ?_
    exact kt
  obtain ⟨cl2, Ar2, qc2, Sz2, Mn2, Hs2, Gs2⟩ := id Hr
  have st3 : ∀ target, Steps p.tables e below (s₁.setTop (mkF m 8 #[.val (.ref r0), .val (.int (1 : Int32)), .val (.int p2), .val (.int p3), .val (.int p4)] [(.int (1 : Int32))])) target → Steps p.tables e below (s₁.setTop (mkF m 7 #[.val (.ref r0), .val (.int (1 : Int32)), .val (.int p2), .val (.int p3), .val (.int p4)] [(.ref r0)])) target := fun target kt => X0.arraylength hx (cell := cl2) (by rw [e0]; exact Ar2.1) (State.isArrayOf_alike hZ.alike Ar2.2.1) (g := (mkF m 7 #[.val (.ref r0), .val (.int (1 : Int32)), .val (.int p2), .val (.int p3), .val (.int p4)] [(.ref r0)])) rfl rfl (hb hby d7_7) _ (by rw [len_of (c := cl2) Sz2 Mn2]; exact kt)
  have st4 : ∀ target, Steps p.tables e below (s₁.setTop (mkF m 20 #[.val (.ref r0), .val (.int (1 : Int32)), .val (.int p2), .val (.int p3), .val (.int p4)] [(.int (0 : Int32)), (.ref r0)])) target → Steps p.tables e below (s₁.setTop (mkF m 8 #[.val (.ref r0), .val (.int (1 : Int32)), .val (.int p2), .val (.int p3), .val (.int p4)] [(.int (1 : Int32))])) target := by
    intro target kt
    show Steps p.tables e below (s₁.setTop (mkF m 8 #[.val (.ref r0), .val (.int (1 : Int32)), .val (.int p2), .val (.int p3), .val (.int p4)] [(.int (1 : Int32))])) _
    refine XS.iloadN X0.here hx rfl (hb hby d7_8) rfl ?_
    show Steps p.tables e below (s₁.setTop (mkF m 9 #[.val (.ref r0), .val (.int (1 : Int32)), .val (.int p2), .val (.int p3), .val (.int p4)] [(.int (1 : Int32)), (.int (1 : Int32))])) _
    refine XS.icmpYes X0.here hx rfl (pc0 := 9) (pc' := 14) rfl (hb hby d7_9) rfl (teq (rfl : (1 : Int32) = (1 : Int32))).1 (by decide) (by decide) ?_
    show Steps p.tables e below (s₁.setTop (mkF m 14 #[.val (.ref r0), .val (.int (1 : Int32)), .val (.int p2), .val (.int p3), .val (.int p4)] [])) _
    refine XS.iloadN X0.here hx rfl (hb hby d7_14) rfl ?_
    show Steps p.tables e below (s₁.setTop (mkF m 15 #[.val (.ref r0), .val (.int (1 : Int32)), .val (.int p2), .val (.int p3), .val (.int p4)] [(.int (1 : Int32))])) _
    refine XS.ifNo X0.here hx rfl (hb hby d7_15) rfl ((if0 _ _).trans (tlt (by decide : ((0 : Int32) < (1 : Int32)))).2.2.2) ?_
    show Steps p.tables e below (s₁.setTop (mkF m 18 #[.val (.ref r0), .val (.int (1 : Int32)), .val (.int p2), .val (.int p3), .val (.int p4)] [])) _
    refine XS.aloadN X0.here hx rfl (hb hby d7_18) rfl rfl ?_
    show Steps p.tables e below (s₁.setTop (mkF m 19 #[.val (.ref r0), .val (.int (1 : Int32)), .val (.int p2), .val (.int p3), .val (.int p4)] [(.ref r0)])) _
    refine XS.iconst X0.here hx rfl (hb hby d7_19) ?_
    exact kt
  obtain ⟨cl5, Ar5, qc5, Sz5, Mn5, Hs5, Gs5⟩ := id Hr
  have hin5 : ¬ ((0 : Int32) < 0 ∨ cl5.slots.size ≤ ((0 : Int32)).toNatClampNeg) := own_in Sz5 ⟨by decide, by decide⟩
  have hat5 : cl5.slots[((0 : Int32)).toNatClampNeg]? = some (.int p2) := atH Hs5 hin5 u0
  have st6 : ∀ target, Steps p.tables e below (s₁.setTop (mkF m 21 #[.val (.ref r0), .val (.int (1 : Int32)), .val (.int p2), .val (.int p3), .val (.int p4)] [(.int p2)])) target → Steps p.tables e below (s₁.setTop (mkF m 20 #[.val (.ref r0), .val (.int (1 : Int32)), .val (.int p2), .val (.int p3), .val (.int p4)] [(.int (0 : Int32)), (.ref r0)])) target := fun target kt => X0.baloadBytes hx (j := (0 : Int32)) (v := (.int p2)) (by rw [e0]; exact Ar5.1) (State.isArrayOf_alike hZ.alike Ar5.2.1) Ar5.2.2 hin5 hat5 (g := (mkF m 20 #[.val (.ref r0), .val (.int (1 : Int32)), .val (.int p2), .val (.int p3), .val (.int p4)] [(.int (0 : Int32)), (.ref r0)])) rfl rfl (hb hby d7_20) _ kt
  obtain ⟨fs, hr, hrun, hended, hW, hsame⟩ := X0.leave (v := some (.int (1 : Int32))) (fun h => by rw [Bd.returns] at h; cases h)
  refine ⟨_, _, pre0 _ (st1 _ (st3 _ (st4 _ (st6 _ ?_)))), hrun, hended, _, _, rfl, ?_, ⟨_, rfl⟩, hW, hsame.mono (by decide) (by decide)⟩
  · show Steps p.tables e below (s₁.setTop (mkF m 21 #[.val (.ref r0), .val (.int (1 : Int32)), .val (.int p2), .val (.int p3), .val (.int p4)] [(.int p2)])) _
    refine XS.iloadN X0.here hx rfl (hb hby d7_21) rfl ?_
    show Steps p.tables e below (s₁.setTop (mkF m 22 #[.val (.ref r0), .val (.int (1 : Int32)), .val (.int p2), .val (.int p3), .val (.int p4)] [(.int p2), (.int p2)])) _
    refine XS.icmpYes X0.here hx rfl (pc0 := 22) (pc' := 27) rfl (hb hby d7_22) rfl (teq (rfl : p2 = p2)).1 (by decide) (by decide) ?_
    show Steps p.tables e below (s₁.setTop (mkF m 27 #[.val (.ref r0), .val (.int (1 : Int32)), .val (.int p2), .val (.int p3), .val (.int p4)] [])) _
    refine XS.iloadN X0.here hx rfl (hb hby d7_27) rfl ?_
    show Steps p.tables e below (s₁.setTop (mkF m 28 #[.val (.ref r0), .val (.int (1 : Int32)), .val (.int p2), .val (.int p3), .val (.int p4)] [(.int (1 : Int32))])) _
    refine XS.iconst X0.here hx rfl (hb hby d7_28) ?_
    show Steps p.tables e below (s₁.setTop (mkF m 29 #[.val (.ref r0), .val (.int (1 : Int32)), .val (.int p2), .val (.int p3), .val (.int p4)] [(.int (1 : Int32)), (.int (1 : Int32))])) _
    refine XS.icmpYes X0.here hx rfl (pc0 := 29) (pc' := 41) rfl (hb hby d7_29) rfl (flt (by decide : ¬ ((1 : Int32) < (1 : Int32)))).2.2.2 (by decide) (by decide) ?_
    show Steps p.tables e below (s₁.setTop (mkF m 41 #[.val (.ref r0), .val (.int (1 : Int32)), .val (.int p2), .val (.int p3), .val (.int p4)] [])) _
    refine XS.iloadN X0.here hx rfl (hb hby d7_41) rfl ?_
    show Steps p.tables e below (s₁.setTop (mkF m 42 #[.val (.ref r0), .val (.int (1 : Int32)), .val (.int p2), .val (.int p3), .val (.int p4)] [(.int (1 : Int32))])) _
    refine XS.iconst X0.here hx rfl (hb hby d7_42) ?_
    show Steps p.tables e below (s₁.setTop (mkF m 43 #[.val (.ref r0), .val (.int (1 : Int32)), .val (.int p2), .val (.int p3), .val (.int p4)] [(.int (2 : Int32)), (.int (1 : Int32))])) _
    refine XS.icmpYes X0.here hx rfl (pc0 := 43) (pc' := 56) rfl (hb hby d7_43) rfl (flt (by decide : ¬ ((2 : Int32) < (1 : Int32)))).2.2.2 (by decide) (by decide) ?_
    show Steps p.tables e below (s₁.setTop (mkF m 56 #[.val (.ref r0), .val (.int (1 : Int32)), .val (.int p2), .val (.int p3), .val (.int p4)] [])) _
    refine XS.iconst X0.here hx rfl (hb hby d7_56) ?_
    show Steps p.tables e below (s₁.setTop (mkF m 57 #[.val (.ref r0), .val (.int (1 : Int32)), .val (.int p2), .val (.int p3), .val (.int p4)] [(.int (1 : Int32))])) _
    exact retN X0 hx (t := .boolean) Bd.returns (by simp) (hb hby d7_57) hr
  · show Q_rmS1 Z r0 p2 p3 p4 kk hs h0 n0 _ s₁.heap _
    rw [e0]
    exact ⟨rfl, N0, rfl⟩
theorem ef_rmS2 (m : MethodId) (x0 : Addr) (x1 : Int32) (x2 : Int32) (x3 : Int32) (x4 : Int32) : entryFrame m #[(.ref x0), (.int x1), (.int x2), (.int x3), (.int x4)] 5 = mkF m 0 #[.val (.ref x0), .val (.int x1), .val (.int x2), .val (.int x3), .val (.int x4)] [] := by first | (simp [entryFrame, mkF, argsToLocals, Value.category]; done) | rfl
def Q_rmS2 (Z : State) (r0 : Addr) (p2 : Int32) (p3 : Int32) (p4 : Int32) (kk : ClassId) (hs : List (Int32 × Value)) (h0 : Heap) (n0 : Nat) (v : Option Value) (h : Heap) (L : List Loc) : Prop := v = some (.int (1 : Int32)) ∧ Fr n0 L ∧ h = h0
set_option maxRecDepth 65536 in
set_option maxHeartbeats 40000000 in
theorem rmS2 (l : Launch) (Z : State) (a0 : Array Value) (hw : ∀ d ∈ tables_1, d.before a0 Z = true) (ws : List Jvm.Cond) (r0 : Addr) (p2 : Int32) (p3 : Int32) (p4 : Int32) (kk : ClassId) (hs : List (Int32 × Value)) (h0 : Heap) (n0 : Nat) (Z0 : n0 ≤ h0.size) (Hr : Arh Z h0 r0 kk .byte (2 : Int32) hs [] (.int (0 : Int32))) (u0 : getH hs [] (.int (0 : Int32)) 0 = .int p2) (u1 : getH hs [] (.int (0 : Int32)) 1 = .int p3) :
    MetFree l (⟨"com/example/imprimatur/imprimatur/verify/DeviceValuesPublicKeyPinLaw", "same", "([BIBBB)Z"⟩ : MethodName) (head1 (Jvm.Cond.code (⟨"com/example/imprimatur/imprimatur/verify/DeviceValuesPublicKeyPinLaw", "same", "([BIBBB)Z"⟩ : MethodName) method_2_code 5 (some .boolean) :: ws) ({ frames := 0, cells := 0, slots := 0, locals := 0 } : Room)) (fun a U => a = #[(.ref r0), (.int (2 : Int32)), (.int p2), (.int p3), (.int p4)] ∧ Z.Warmed39 U.vm ∧ U.heap = h0) (fun _ _ _ _ _ => True) (fun _ U o U' => ∃ v L, o = .returned v ∧ Q_rmS2 Z r0 p2 p3 p4 kk hs h0 n0 v U'.heap L ∧ FrameEnd U o U' L ({ frames := 0, cells := 0, slots := 0, locals := 0 } : Room).cells ({ frames := 0, cells := 0, slots := 0, locals := 0 } : Room).slots) := by
  refine MetFree.of_bodySF (plainFor_of_name pn_3) hisR ?_
  intro p e s m args below meth c s₁ Bd hml0 hP hK
  obtain ⟨rfl, hZ, hh⟩ := hP
  have hx := Bd.exec
  have hby := Bd.bytes
  have hml : c.maxLocals = 5 := hml0
  have hown : s.vm.findClass "com/example/imprimatur/imprimatur/verify/DeviceValuesPublicKeyPinLaw" = some m.cls := findClass_of_methodNamed Bd.named
  have hnm := (name_of_methodNamed Bd.named Bd.method).1
  have X0 : Stand p l e ({ frames := 0, cells := 0, slots := 0, locals := 0 } : Room) s m #[(.ref r0), (.int (2 : Int32)), (.int p2), (.int p3), (.int p4)] below meth c s₁ [] 0 0 := Stand.of_body Bd
  have e0 : s₁.heap = h0 := by rw [← hh, Bd.state]; rfl
  have N0 := Fr.nil n0
  have pre0 : ∀ t, Steps p.tables e below (s₁.setTop (mkF m 0 #[.val (.ref r0), .val (.int (2 : Int32)), .val (.int p2), .val (.int p3), .val (.int p4)] [])) t → Steps p.tables e below (s₁.setTop (entryFrame m #[(.ref r0), (.int (2 : Int32)), (.int p2), (.int p3), (.int p4)] 5)) t := fun t k => castTop (ef_rmS2 m r0 (2 : Int32) p2 p3 p4) k
  have st1 : ∀ target, Steps p.tables e below (s₁.setTop (mkF m 7 #[.val (.ref r0), .val (.int (2 : Int32)), .val (.int p2), .val (.int p3), .val (.int p4)] [(.ref r0)])) target → Steps p.tables e below (s₁.setTop (mkF m 0 #[.val (.ref r0), .val (.int (2 : Int32)), .val (.int p2), .val (.int p3), .val (.int p4)] [])) target := by
    intro target kt
    show Steps p.tables e below (s₁.setTop (mkF m 0 #[.val (.ref r0), .val (.int (2 : Int32)), .val (.int p2), .val (.int p3), .val (.int p4)] [])) _
    refine XS.aloadN X0.here hx rfl (hb hby d7_0) rfl rfl ?_
    show Steps p.tables e below (s₁.setTop (mkF m 1 #[.val (.ref r0), .val (.int (2 : Int32)), .val (.int p2), .val (.int p3), .val (.int p4)] [(.ref r0)])) _
    refine XS.ifnonnullYes X0.here hx rfl (pc0 := 1) (pc' := 6) rfl (hb hby d7_1) rfl (by decide) (by decide) ?_
    show Steps p.tables e below (s₁.setTop (mkF m 6 #[.val (.ref r0), .val (.int (2 : Int32)), .val (.int p2), .val (.int p3), .val (.int p4)] [])) _
    refine XS.aloadN X0.here hx rfl (hb hby d7_6) rfl rfl ?_
    exact kt
  obtain ⟨cl2, Ar2, qc2, Sz2, Mn2, Hs2, Gs2⟩ := id Hr
  have st3 : ∀ target, Steps p.tables e below (s₁.setTop (mkF m 8 #[.val (.ref r0), .val (.int (2 : Int32)), .val (.int p2), .val (.int p3), .val (.int p4)] [(.int (2 : Int32))])) target → Steps p.tables e below (s₁.setTop (mkF m 7 #[.val (.ref r0), .val (.int (2 : Int32)), .val (.int p2), .val (.int p3), .val (.int p4)] [(.ref r0)])) target := fun target kt => X0.arraylength hx (cell := cl2) (by rw [e0]; exact Ar2.1) (State.isArrayOf_alike hZ.alike Ar2.2.1) (g := (mkF m 7 #[.val (.ref r0), .val (.int (2 : Int32)), .val (.int p2), .val (.int p3), .val (.int p4)] [(.ref r0)])) rfl rfl (hb hby d7_7) _ (by rw [len_of (c := cl2) Sz2 Mn2]; exact kt)
  have st4 : ∀ target, Steps p.tables e below (s₁.setTop (mkF m 20 #[.val (.ref r0), .val (.int (2 : Int32)), .val (.int p2), .val (.int p3), .val (.int p4)] [(.int (0 : Int32)), (.ref r0)])) target → Steps p.tables e below (s₁.setTop (mkF m 8 #[.val (.ref r0), .val (.int (2 : Int32)), .val (.int p2), .val (.int p3), .val (.int p4)] [(.int (2 : Int32))])) target := by
    intro target kt
    show Steps p.tables e below (s₁.setTop (mkF m 8 #[.val (.ref r0), .val (.int (2 : Int32)), .val (.int p2), .val (.int p3), .val (.int p4)] [(.int (2 : Int32))])) _
    refine XS.iloadN X0.here hx rfl (hb hby d7_8) rfl ?_
    show Steps p.tables e below (s₁.setTop (mkF m 9 #[.val (.ref r0), .val (.int (2 : Int32)), .val (.int p2), .val (.int p3), .val (.int p4)] [(.int (2 : Int32)), (.int (2 : Int32))])) _
    refine XS.icmpYes X0.here hx rfl (pc0 := 9) (pc' := 14) rfl (hb hby d7_9) rfl (teq (rfl : (2 : Int32) = (2 : Int32))).1 (by decide) (by decide) ?_
    show Steps p.tables e below (s₁.setTop (mkF m 14 #[.val (.ref r0), .val (.int (2 : Int32)), .val (.int p2), .val (.int p3), .val (.int p4)] [])) _
    refine XS.iloadN X0.here hx rfl (hb hby d7_14) rfl ?_
    show Steps p.tables e below (s₁.setTop (mkF m 15 #[.val (.ref r0), .val (.int (2 : Int32)), .val (.int p2), .val (.int p3), .val (.int p4)] [(.int (2 : Int32))])) _
    refine XS.ifNo X0.here hx rfl (hb hby d7_15) rfl ((if0 _ _).trans (tlt (by decide : ((0 : Int32) < (2 : Int32)))).2.2.2) ?_
    show Steps p.tables e below (s₁.setTop (mkF m 18 #[.val (.ref r0), .val (.int (2 : Int32)), .val (.int p2), .val (.int p3), .val (.int p4)] [])) _
    refine XS.aloadN X0.here hx rfl (hb hby d7_18) rfl rfl ?_
    show Steps p.tables e below (s₁.setTop (mkF m 19 #[.val (.ref r0), .val (.int (2 : Int32)), .val (.int p2), .val (.int p3), .val (.int p4)] [(.ref r0)])) _
    refine XS.iconst X0.here hx rfl (hb hby d7_19) ?_
    exact kt
  obtain ⟨cl5, Ar5, qc5, Sz5, Mn5, Hs5, Gs5⟩ := id Hr
  have hin5 : ¬ ((0 : Int32) < 0 ∨ cl5.slots.size ≤ ((0 : Int32)).toNatClampNeg) := own_in Sz5 ⟨by decide, by decide⟩
  have hat5 : cl5.slots[((0 : Int32)).toNatClampNeg]? = some (.int p2) := atH Hs5 hin5 u0
  have st6 : ∀ target, Steps p.tables e below (s₁.setTop (mkF m 21 #[.val (.ref r0), .val (.int (2 : Int32)), .val (.int p2), .val (.int p3), .val (.int p4)] [(.int p2)])) target → Steps p.tables e below (s₁.setTop (mkF m 20 #[.val (.ref r0), .val (.int (2 : Int32)), .val (.int p2), .val (.int p3), .val (.int p4)] [(.int (0 : Int32)), (.ref r0)])) target := fun target kt => X0.baloadBytes hx (j := (0 : Int32)) (v := (.int p2)) (by rw [e0]; exact Ar5.1) (State.isArrayOf_alike hZ.alike Ar5.2.1) Ar5.2.2 hin5 hat5 (g := (mkF m 20 #[.val (.ref r0), .val (.int (2 : Int32)), .val (.int p2), .val (.int p3), .val (.int p4)] [(.int (0 : Int32)), (.ref r0)])) rfl rfl (hb hby d7_20) _ kt
  have st7 : ∀ target, Steps p.tables e below (s₁.setTop (mkF m 34 #[.val (.ref r0), .val (.int (2 : Int32)), .val (.int p2), .val (.int p3), .val (.int p4)] [(.int (1 : Int32)), (.ref r0)])) target → Steps p.tables e below (s₁.setTop (mkF m 21 #[.val (.ref r0), .val (.int (2 : Int32)), .val (.int p2), .val (.int p3), .val (.int p4)] [(.int p2)])) target := by
    intro target kt
    show Steps p.tables e below (s₁.setTop (mkF m 21 #[.val (.ref r0), .val (.int (2 : Int32)), .val (.int p2), .val (.int p3), .val (.int p4)] [(.int p2)])) _
    refine XS.iloadN X0.here hx rfl (hb hby d7_21) rfl ?_
    show Steps p.tables e below (s₁.setTop (mkF m 22 #[.val (.ref r0), .val (.int (2 : Int32)), .val (.int p2), .val (.int p3), .val (.int p4)] [(.int p2), (.int p2)])) _
    refine XS.icmpYes X0.here hx rfl (pc0 := 22) (pc' := 27) rfl (hb hby d7_22) rfl (teq (rfl : p2 = p2)).1 (by decide) (by decide) ?_
    show Steps p.tables e below (s₁.setTop (mkF m 27 #[.val (.ref r0), .val (.int (2 : Int32)), .val (.int p2), .val (.int p3), .val (.int p4)] [])) _
    refine XS.iloadN X0.here hx rfl (hb hby d7_27) rfl ?_
    show Steps p.tables e below (s₁.setTop (mkF m 28 #[.val (.ref r0), .val (.int (2 : Int32)), .val (.int p2), .val (.int p3), .val (.int p4)] [(.int (2 : Int32))])) _
    refine XS.iconst X0.here hx rfl (hb hby d7_28) ?_
    show Steps p.tables e below (s₁.setTop (mkF m 29 #[.val (.ref r0), .val (.int (2 : Int32)), .val (.int p2), .val (.int p3), .val (.int p4)] [(.int (1 : Int32)), (.int (2 : Int32))])) _
    refine XS.icmpNo X0.here hx rfl (hb hby d7_29) rfl (tlt (by decide : ((1 : Int32) < (2 : Int32)))).2.2.2 ?_
    show Steps p.tables e below (s₁.setTop (mkF m 32 #[.val (.ref r0), .val (.int (2 : Int32)), .val (.int p2), .val (.int p3), .val (.int p4)] [])) _
    refine XS.aloadN X0.here hx rfl (hb hby d7_32) rfl rfl ?_
    show Steps p.tables e below (s₁.setTop (mkF m 33 #[.val (.ref r0), .val (.int (2 : Int32)), .val (.int p2), .val (.int p3), .val (.int p4)] [(.ref r0)])) _
    refine XS.iconst X0.here hx rfl (hb hby d7_33) ?_
    exact kt
  obtain ⟨cl8, Ar8, qc8, Sz8, Mn8, Hs8, Gs8⟩ := id Hr
  have hin8 : ¬ ((1 : Int32) < 0 ∨ cl8.slots.size ≤ ((1 : Int32)).toNatClampNeg) := own_in Sz8 ⟨by decide, by decide⟩
  have hat8 : cl8.slots[((1 : Int32)).toNatClampNeg]? = some (.int p3) := atH Hs8 hin8 u1
  have st9 : ∀ target, Steps p.tables e below (s₁.setTop (mkF m 35 #[.val (.ref r0), .val (.int (2 : Int32)), .val (.int p2), .val (.int p3), .val (.int p4)] [(.int p3)])) target → Steps p.tables e below (s₁.setTop (mkF m 34 #[.val (.ref r0), .val (.int (2 : Int32)), .val (.int p2), .val (.int p3), .val (.int p4)] [(.int (1 : Int32)), (.ref r0)])) target := fun target kt => X0.baloadBytes hx (j := (1 : Int32)) (v := (.int p3)) (by rw [e0]; exact Ar8.1) (State.isArrayOf_alike hZ.alike Ar8.2.1) Ar8.2.2 hin8 hat8 (g := (mkF m 34 #[.val (.ref r0), .val (.int (2 : Int32)), .val (.int p2), .val (.int p3), .val (.int p4)] [(.int (1 : Int32)), (.ref r0)])) rfl rfl (hb hby d7_34) _ kt
  obtain ⟨fs, hr, hrun, hended, hW, hsame⟩ := X0.leave (v := some (.int (1 : Int32))) (fun h => by rw [Bd.returns] at h; cases h)
  refine ⟨_, _, pre0 _ (st1 _ (st3 _ (st4 _ (st6 _ (st7 _ (st9 _ ?_)))))), hrun, hended, _, _, rfl, ?_, ⟨_, rfl⟩, hW, hsame.mono (by decide) (by decide)⟩
  · show Steps p.tables e below (s₁.setTop (mkF m 35 #[.val (.ref r0), .val (.int (2 : Int32)), .val (.int p2), .val (.int p3), .val (.int p4)] [(.int p3)])) _
    refine XS.iloadN X0.here hx rfl (hb hby d7_35) rfl ?_
    show Steps p.tables e below (s₁.setTop (mkF m 36 #[.val (.ref r0), .val (.int (2 : Int32)), .val (.int p2), .val (.int p3), .val (.int p4)] [(.int p3), (.int p3)])) _
    refine XS.icmpYes X0.here hx rfl (pc0 := 36) (pc' := 41) rfl (hb hby d7_36) rfl (teq (rfl : p3 = p3)).1 (by decide) (by decide) ?_
    show Steps p.tables e below (s₁.setTop (mkF m 41 #[.val (.ref r0), .val (.int (2 : Int32)), .val (.int p2), .val (.int p3), .val (.int p4)] [])) _
    refine XS.iloadN X0.here hx rfl (hb hby d7_41) rfl ?_
    show Steps p.tables e below (s₁.setTop (mkF m 42 #[.val (.ref r0), .val (.int (2 : Int32)), .val (.int p2), .val (.int p3), .val (.int p4)] [(.int (2 : Int32))])) _
    refine XS.iconst X0.here hx rfl (hb hby d7_42) ?_
    show Steps p.tables e below (s₁.setTop (mkF m 43 #[.val (.ref r0), .val (.int (2 : Int32)), .val (.int p2), .val (.int p3), .val (.int p4)] [(.int (2 : Int32)), (.int (2 : Int32))])) _
    refine XS.icmpYes X0.here hx rfl (pc0 := 43) (pc' := 56) rfl (hb hby d7_43) rfl (flt (by decide : ¬ ((2 : Int32) < (2 : Int32)))).2.2.2 (by decide) (by decide) ?_
    show Steps p.tables e below (s₁.setTop (mkF m 56 #[.val (.ref r0), .val (.int (2 : Int32)), .val (.int p2), .val (.int p3), .val (.int p4)] [])) _
    refine XS.iconst X0.here hx rfl (hb hby d7_56) ?_
    show Steps p.tables e below (s₁.setTop (mkF m 57 #[.val (.ref r0), .val (.int (2 : Int32)), .val (.int p2), .val (.int p3), .val (.int p4)] [(.int (1 : Int32))])) _
    exact retN X0 hx (t := .boolean) Bd.returns (by simp) (hb hby d7_57) hr
  · show Q_rmS2 Z r0 p2 p3 p4 kk hs h0 n0 _ s₁.heap _
    rw [e0]
    exact ⟨rfl, N0, rfl⟩
theorem ef_rmS3 (m : MethodId) (x0 : Addr) (x1 : Int32) (x2 : Int32) (x3 : Int32) (x4 : Int32) : entryFrame m #[(.ref x0), (.int x1), (.int x2), (.int x3), (.int x4)] 5 = mkF m 0 #[.val (.ref x0), .val (.int x1), .val (.int x2), .val (.int x3), .val (.int x4)] [] := by first | (simp [entryFrame, mkF, argsToLocals, Value.category]; done) | rfl
def Q_rmS3 (Z : State) (r0 : Addr) (p2 : Int32) (p3 : Int32) (p4 : Int32) (kk : ClassId) (hs : List (Int32 × Value)) (h0 : Heap) (n0 : Nat) (v : Option Value) (h : Heap) (L : List Loc) : Prop := v = some (.int (1 : Int32)) ∧ Fr n0 L ∧ h = h0
set_option maxRecDepth 65536 in
set_option maxHeartbeats 40000000 in
theorem rmS3 (l : Launch) (Z : State) (a0 : Array Value) (hw : ∀ d ∈ tables_1, d.before a0 Z = true) (ws : List Jvm.Cond) (r0 : Addr) (p2 : Int32) (p3 : Int32) (p4 : Int32) (kk : ClassId) (hs : List (Int32 × Value)) (h0 : Heap) (n0 : Nat) (Z0 : n0 ≤ h0.size) (Hr : Arh Z h0 r0 kk .byte (3 : Int32) hs [] (.int (0 : Int32))) (u0 : getH hs [] (.int (0 : Int32)) 0 = .int p2) (u1 : getH hs [] (.int (0 : Int32)) 1 = .int p3) (u2 : getH hs [] (.int (0 : Int32)) 2 = .int p4) :
    MetFree l (⟨"com/example/imprimatur/imprimatur/verify/DeviceValuesPublicKeyPinLaw", "same", "([BIBBB)Z"⟩ : MethodName) (head1 (Jvm.Cond.code (⟨"com/example/imprimatur/imprimatur/verify/DeviceValuesPublicKeyPinLaw", "same", "([BIBBB)Z"⟩ : MethodName) method_2_code 5 (some .boolean) :: ws) ({ frames := 0, cells := 0, slots := 0, locals := 0 } : Room)) (fun a U => a = #[(.ref r0), (.int (3 : Int32)), (.int p2), (.int p3), (.int p4)] ∧ Z.Warmed39 U.vm ∧ U.heap = h0) (fun _ _ _ _ _ => True) (fun _ U o U' => ∃ v L, o = .returned v ∧ Q_rmS3 Z r0 p2 p3 p4 kk hs h0 n0 v U'.heap L ∧ FrameEnd U o U' L ({ frames := 0, cells := 0, slots := 0, locals := 0 } : Room).cells ({ frames := 0, cells := 0, slots := 0, locals := 0 } : Room).slots) := by
  refine MetFree.of_bodySF (plainFor_of_name pn_3) hisR ?_
  intro p e s m args below meth c s₁ Bd hml0 hP hK
  obtain ⟨rfl, hZ, hh⟩ := hP
  have hx := Bd.exec
  have hby := Bd.bytes
  have hml : c.maxLocals = 5 := hml0
  have hown : s.vm.findClass "com/example/imprimatur/imprimatur/verify/DeviceValuesPublicKeyPinLaw" = some m.cls := findClass_of_methodNamed Bd.named
  have hnm := (name_of_methodNamed Bd.named Bd.method).1
  have X0 : Stand p l e ({ frames := 0, cells := 0, slots := 0, locals := 0 } : Room) s m #[(.ref r0), (.int (3 : Int32)), (.int p2), (.int p3), (.int p4)] below meth c s₁ [] 0 0 := Stand.of_body Bd
  have e0 : s₁.heap = h0 := by rw [← hh, Bd.state]; rfl
  have N0 := Fr.nil n0
  have pre0 : ∀ t, Steps p.tables e below (s₁.setTop (mkF m 0 #[.val (.ref r0), .val (.int (3 : Int32)), .val (.int p2), .val (.int p3), .val (.int p4)] [])) t → Steps p.tables e below (s₁.setTop (entryFrame m #[(.ref r0), (.int (3 : Int32)), (.int p2), (.int p3), (.int p4)] 5)) t := fun t k => castTop (ef_rmS3 m r0 (3 : Int32) p2 p3 p4) k
  have st1 : ∀ target, Steps p.tables e below (s₁.setTop (mkF m 7 #[.val (.ref r0), .val (.int (3 : Int32)), .val (.int p2), .val (.int p3), .val (.int p4)] [(.ref r0)])) target → Steps p.tables e below (s₁.setTop (mkF m 0 #[.val (.ref r0), .val (.int (3 : Int32)), .val (.int p2), .val (.int p3), .val (.int p4)] [])) target := by
    intro target kt
    show Steps p.tables e below (s₁.setTop (mkF m 0 #[.val (.ref r0), .val (.int (3 : Int32)), .val (.int p2), .val (.int p3), .val (.int p4)] [])) _
    refine XS.aloadN X0.here hx rfl (hb hby d7_0) rfl rfl ?_
    show Steps p.tables e below (s₁.setTop (mkF m 1 #[.val (.ref r0), .val (.int (3 : Int32)), .val (.int p2), .val (.int p3), .val (.int p4)] [(.ref r0)])) _
    refine XS.ifnonnullYes X0.here hx rfl (pc0 := 1) (pc' := 6) rfl (hb hby d7_1) rfl (by decide) (by decide) ?_
    show Steps p.tables e below (s₁.setTop (mkF m 6 #[.val (.ref r0), .val (.int (3 : Int32)), .val (.int p2), .val (.int p3), .val (.int p4)] [])) _
    refine XS.aloadN X0.here hx rfl (hb hby d7_6) rfl rfl ?_
    exact kt
  obtain ⟨cl2, Ar2, qc2, Sz2, Mn2, Hs2, Gs2⟩ := id Hr
  have st3 : ∀ target, Steps p.tables e below (s₁.setTop (mkF m 8 #[.val (.ref r0), .val (.int (3 : Int32)), .val (.int p2), .val (.int p3), .val (.int p4)] [(.int (3 : Int32))])) target → Steps p.tables e below (s₁.setTop (mkF m 7 #[.val (.ref r0), .val (.int (3 : Int32)), .val (.int p2), .val (.int p3), .val (.int p4)] [(.ref r0)])) target := fun target kt => X0.arraylength hx (cell := cl2) (by rw [e0]; exact Ar2.1) (State.isArrayOf_alike hZ.alike Ar2.2.1) (g := (mkF m 7 #[.val (.ref r0), .val (.int (3 : Int32)), .val (.int p2), .val (.int p3), .val (.int p4)] [(.ref r0)])) rfl rfl (hb hby d7_7) _ (by rw [len_of (c := cl2) Sz2 Mn2]; exact kt)
  have st4 : ∀ target, Steps p.tables e below (s₁.setTop (mkF m 20 #[.val (.ref r0), .val (.int (3 : Int32)), .val (.int p2), .val (.int p3), .val (.int p4)] [(.int (0 : Int32)), (.ref r0)])) target → Steps p.tables e below (s₁.setTop (mkF m 8 #[.val (.ref r0), .val (.int (3 : Int32)), .val (.int p2), .val (.int p3), .val (.int p4)] [(.int (3 : Int32))])) target := by
    intro target kt
    show Steps p.tables e below (s₁.setTop (mkF m 8 #[.val (.ref r0), .val (.int (3 : Int32)), .val (.int p2), .val (.int p3), .val (.int p4)] [(.int (3 : Int32))])) _
    refine XS.iloadN X0.here hx rfl (hb hby d7_8) rfl ?_
    show Steps p.tables e below (s₁.setTop (mkF m 9 #[.val (.ref r0), .val (.int (3 : Int32)), .val (.int p2), .val (.int p3), .val (.int p4)] [(.int (3 : Int32)), (.int (3 : Int32))])) _
    refine XS.icmpYes X0.here hx rfl (pc0 := 9) (pc' := 14) rfl (hb hby d7_9) rfl (teq (rfl : (3 : Int32) = (3 : Int32))).1 (by decide) (by decide) ?_
    show Steps p.tables e below (s₁.setTop (mkF m 14 #[.val (.ref r0), .val (.int (3 : Int32)), .val (.int p2), .val (.int p3), .val (.int p4)] [])) _
    refine XS.iloadN X0.here hx rfl (hb hby d7_14) rfl ?_
    show Steps p.tables e below (s₁.setTop (mkF m 15 #[.val (.ref r0), .val (.int (3 : Int32)), .val (.int p2), .val (.int p3), .val (.int p4)] [(.int (3 : Int32))])) _
    refine XS.ifNo X0.here hx rfl (hb hby d7_15) rfl ((if0 _ _).trans (tlt (by decide : ((0 : Int32) < (3 : Int32)))).2.2.2) ?_
    show Steps p.tables e below (s₁.setTop (mkF m 18 #[.val (.ref r0), .val (.int (3 : Int32)), .val (.int p2), .val (.int p3), .val (.int p4)] [])) _
    refine XS.aloadN X0.here hx rfl (hb hby d7_18) rfl rfl ?_
    show Steps p.tables e below (s₁.setTop (mkF m 19 #[.val (.ref r0), .val (.int (3 : Int32)), .val (.int p2), .val (.int p3), .val (.int p4)] [(.ref r0)])) _
    refine XS.iconst X0.here hx rfl (hb hby d7_19) ?_
    exact kt
  obtain ⟨cl5, Ar5, qc5, Sz5, Mn5, Hs5, Gs5⟩ := id Hr
  have hin5 : ¬ ((0 : Int32) < 0 ∨ cl5.slots.size ≤ ((0 : Int32)).toNatClampNeg) := own_in Sz5 ⟨by decide, by decide⟩
  have hat5 : cl5.slots[((0 : Int32)).toNatClampNeg]? = some (.int p2) := atH Hs5 hin5 u0
  have st6 : ∀ target, Steps p.tables e below (s₁.setTop (mkF m 21 #[.val (.ref r0), .val (.int (3 : Int32)), .val (.int p2), .val (.int p3), .val (.int p4)] [(.int p2)])) target → Steps p.tables e below (s₁.setTop (mkF m 20 #[.val (.ref r0), .val (.int (3 : Int32)), .val (.int p2), .val (.int p3), .val (.int p4)] [(.int (0 : Int32)), (.ref r0)])) target := fun target kt => X0.baloadBytes hx (j := (0 : Int32)) (v := (.int p2)) (by rw [e0]; exact Ar5.1) (State.isArrayOf_alike hZ.alike Ar5.2.1) Ar5.2.2 hin5 hat5 (g := (mkF m 20 #[.val (.ref r0), .val (.int (3 : Int32)), .val (.int p2), .val (.int p3), .val (.int p4)] [(.int (0 : Int32)), (.ref r0)])) rfl rfl (hb hby d7_20) _ kt
  have st7 : ∀ target, Steps p.tables e below (s₁.setTop (mkF m 34 #[.val (.ref r0), .val (.int (3 : Int32)), .val (.int p2), .val (.int p3), .val (.int p4)] [(.int (1 : Int32)), (.ref r0)])) target → Steps p.tables e below (s₁.setTop (mkF m 21 #[.val (.ref r0), .val (.int (3 : Int32)), .val (.int p2), .val (.int p3), .val (.int p4)] [(.int p2)])) target := by
    intro target kt
    show Steps p.tables e below (s₁.setTop (mkF m 21 #[.val (.ref r0), .val (.int (3 : Int32)), .val (.int p2), .val (.int p3), .val (.int p4)] [(.int p2)])) _
    refine XS.iloadN X0.here hx rfl (hb hby d7_21) rfl ?_
    show Steps p.tables e below (s₁.setTop (mkF m 22 #[.val (.ref r0), .val (.int (3 : Int32)), .val (.int p2), .val (.int p3), .val (.int p4)] [(.int p2), (.int p2)])) _
    refine XS.icmpYes X0.here hx rfl (pc0 := 22) (pc' := 27) rfl (hb hby d7_22) rfl (teq (rfl : p2 = p2)).1 (by decide) (by decide) ?_
    show Steps p.tables e below (s₁.setTop (mkF m 27 #[.val (.ref r0), .val (.int (3 : Int32)), .val (.int p2), .val (.int p3), .val (.int p4)] [])) _
    refine XS.iloadN X0.here hx rfl (hb hby d7_27) rfl ?_
    show Steps p.tables e below (s₁.setTop (mkF m 28 #[.val (.ref r0), .val (.int (3 : Int32)), .val (.int p2), .val (.int p3), .val (.int p4)] [(.int (3 : Int32))])) _
    refine XS.iconst X0.here hx rfl (hb hby d7_28) ?_
    show Steps p.tables e below (s₁.setTop (mkF m 29 #[.val (.ref r0), .val (.int (3 : Int32)), .val (.int p2), .val (.int p3), .val (.int p4)] [(.int (1 : Int32)), (.int (3 : Int32))])) _
    refine XS.icmpNo X0.here hx rfl (hb hby d7_29) rfl (tlt (by decide : ((1 : Int32) < (3 : Int32)))).2.2.2 ?_
    show Steps p.tables e below (s₁.setTop (mkF m 32 #[.val (.ref r0), .val (.int (3 : Int32)), .val (.int p2), .val (.int p3), .val (.int p4)] [])) _
    refine XS.aloadN X0.here hx rfl (hb hby d7_32) rfl rfl ?_
    show Steps p.tables e below (s₁.setTop (mkF m 33 #[.val (.ref r0), .val (.int (3 : Int32)), .val (.int p2), .val (.int p3), .val (.int p4)] [(.ref r0)])) _
    refine XS.iconst X0.here hx rfl (hb hby d7_33) ?_
    exact kt
  obtain ⟨cl8, Ar8, qc8, Sz8, Mn8, Hs8, Gs8⟩ := id Hr
  have hin8 : ¬ ((1 : Int32) < 0 ∨ cl8.slots.size ≤ ((1 : Int32)).toNatClampNeg) := own_in Sz8 ⟨by decide, by decide⟩
  have hat8 : cl8.slots[((1 : Int32)).toNatClampNeg]? = some (.int p3) := atH Hs8 hin8 u1
  have st9 : ∀ target, Steps p.tables e below (s₁.setTop (mkF m 35 #[.val (.ref r0), .val (.int (3 : Int32)), .val (.int p2), .val (.int p3), .val (.int p4)] [(.int p3)])) target → Steps p.tables e below (s₁.setTop (mkF m 34 #[.val (.ref r0), .val (.int (3 : Int32)), .val (.int p2), .val (.int p3), .val (.int p4)] [(.int (1 : Int32)), (.ref r0)])) target := fun target kt => X0.baloadBytes hx (j := (1 : Int32)) (v := (.int p3)) (by rw [e0]; exact Ar8.1) (State.isArrayOf_alike hZ.alike Ar8.2.1) Ar8.2.2 hin8 hat8 (g := (mkF m 34 #[.val (.ref r0), .val (.int (3 : Int32)), .val (.int p2), .val (.int p3), .val (.int p4)] [(.int (1 : Int32)), (.ref r0)])) rfl rfl (hb hby d7_34) _ kt
  have st10 : ∀ target, Steps p.tables e below (s₁.setTop (mkF m 48 #[.val (.ref r0), .val (.int (3 : Int32)), .val (.int p2), .val (.int p3), .val (.int p4)] [(.int (2 : Int32)), (.ref r0)])) target → Steps p.tables e below (s₁.setTop (mkF m 35 #[.val (.ref r0), .val (.int (3 : Int32)), .val (.int p2), .val (.int p3), .val (.int p4)] [(.int p3)])) target := by
    intro target kt
    show Steps p.tables e below (s₁.setTop (mkF m 35 #[.val (.ref r0), .val (.int (3 : Int32)), .val (.int p2), .val (.int p3), .val (.int p4)] [(.int p3)])) _
    refine XS.iloadN X0.here hx rfl (hb hby d7_35) rfl ?_
    show Steps p.tables e below (s₁.setTop (mkF m 36 #[.val (.ref r0), .val (.int (3 : Int32)), .val (.int p2), .val (.int p3), .val (.int p4)] [(.int p3), (.int p3)])) _
    refine XS.icmpYes X0.here hx rfl (pc0 := 36) (pc' := 41) rfl (hb hby d7_36) rfl (teq (rfl : p3 = p3)).1 (by decide) (by decide) ?_
    show Steps p.tables e below (s₁.setTop (mkF m 41 #[.val (.ref r0), .val (.int (3 : Int32)), .val (.int p2), .val (.int p3), .val (.int p4)] [])) _
    refine XS.iloadN X0.here hx rfl (hb hby d7_41) rfl ?_
    show Steps p.tables e below (s₁.setTop (mkF m 42 #[.val (.ref r0), .val (.int (3 : Int32)), .val (.int p2), .val (.int p3), .val (.int p4)] [(.int (3 : Int32))])) _
    refine XS.iconst X0.here hx rfl (hb hby d7_42) ?_
    show Steps p.tables e below (s₁.setTop (mkF m 43 #[.val (.ref r0), .val (.int (3 : Int32)), .val (.int p2), .val (.int p3), .val (.int p4)] [(.int (2 : Int32)), (.int (3 : Int32))])) _
    refine XS.icmpNo X0.here hx rfl (hb hby d7_43) rfl (tlt (by decide : ((2 : Int32) < (3 : Int32)))).2.2.2 ?_
    show Steps p.tables e below (s₁.setTop (mkF m 46 #[.val (.ref r0), .val (.int (3 : Int32)), .val (.int p2), .val (.int p3), .val (.int p4)] [])) _
    refine XS.aloadN X0.here hx rfl (hb hby d7_46) rfl rfl ?_
    show Steps p.tables e below (s₁.setTop (mkF m 47 #[.val (.ref r0), .val (.int (3 : Int32)), .val (.int p2), .val (.int p3), .val (.int p4)] [(.ref r0)])) _
    refine XS.iconst X0.here hx rfl (hb hby d7_47) ?_
    exact kt
  obtain ⟨cl11, Ar11, qc11, Sz11, Mn11, Hs11, Gs11⟩ := id Hr
  have hin11 : ¬ ((2 : Int32) < 0 ∨ cl11.slots.size ≤ ((2 : Int32)).toNatClampNeg) := own_in Sz11 ⟨by decide, by decide⟩
  have hat11 : cl11.slots[((2 : Int32)).toNatClampNeg]? = some (.int p4) := atH Hs11 hin11 u2
  have st12 : ∀ target, Steps p.tables e below (s₁.setTop (mkF m 49 #[.val (.ref r0), .val (.int (3 : Int32)), .val (.int p2), .val (.int p3), .val (.int p4)] [(.int p4)])) target → Steps p.tables e below (s₁.setTop (mkF m 48 #[.val (.ref r0), .val (.int (3 : Int32)), .val (.int p2), .val (.int p3), .val (.int p4)] [(.int (2 : Int32)), (.ref r0)])) target := fun target kt => X0.baloadBytes hx (j := (2 : Int32)) (v := (.int p4)) (by rw [e0]; exact Ar11.1) (State.isArrayOf_alike hZ.alike Ar11.2.1) Ar11.2.2 hin11 hat11 (g := (mkF m 48 #[.val (.ref r0), .val (.int (3 : Int32)), .val (.int p2), .val (.int p3), .val (.int p4)] [(.int (2 : Int32)), (.ref r0)])) rfl rfl (hb hby d7_48) _ kt
  obtain ⟨fs, hr, hrun, hended, hW, hsame⟩ := X0.leave (v := some (.int (1 : Int32))) (fun h => by rw [Bd.returns] at h; cases h)
  refine ⟨_, _, pre0 _ (st1 _ (st3 _ (st4 _ (st6 _ (st7 _ (st9 _ (st10 _ (st12 _ ?_)))))))), hrun, hended, _, _, rfl, ?_, ⟨_, rfl⟩, hW, hsame.mono (by decide) (by decide)⟩
  · show Steps p.tables e below (s₁.setTop (mkF m 49 #[.val (.ref r0), .val (.int (3 : Int32)), .val (.int p2), .val (.int p3), .val (.int p4)] [(.int p4)])) _
    refine XS.iload X0.here hx rfl (hb hby d7_49) rfl ?_
    show Steps p.tables e below (s₁.setTop (mkF m 51 #[.val (.ref r0), .val (.int (3 : Int32)), .val (.int p2), .val (.int p3), .val (.int p4)] [(.int p4), (.int p4)])) _
    refine XS.icmpYes X0.here hx rfl (pc0 := 51) (pc' := 56) rfl (hb hby d7_51) rfl (teq (rfl : p4 = p4)).1 (by decide) (by decide) ?_
    show Steps p.tables e below (s₁.setTop (mkF m 56 #[.val (.ref r0), .val (.int (3 : Int32)), .val (.int p2), .val (.int p3), .val (.int p4)] [])) _
    refine XS.iconst X0.here hx rfl (hb hby d7_56) ?_
    show Steps p.tables e below (s₁.setTop (mkF m 57 #[.val (.ref r0), .val (.int (3 : Int32)), .val (.int p2), .val (.int p3), .val (.int p4)] [(.int (1 : Int32))])) _
    exact retN X0 hx (t := .boolean) Bd.returns (by simp) (hb hby d7_57) hr
  · show Q_rmS3 Z r0 p2 p3 p4 kk hs h0 n0 _ s₁.heap _
    rw [e0]
    exact ⟨rfl, N0, rfl⟩
theorem ef_rm0 (m : MethodId) (x0 : Int32) (x1 : Int32) (x2 : Int32) (x3 : Int32) (x4 : Int64) : entryFrame m #[(.int x0), (.int x1), (.int x2), (.int x3), (.long x4)] maxLocals = mkF m 0 #[.val (.int x0), .val (.int x1), .val (.int x2), .val (.int x3), .val (.long x4), .second, .unset, .unset, .unset, .unset, .unset, .unset, .unset, .unset, .unset, .unset, .unset] [] := by first | (simp [entryFrame, mkF, argsToLocals, Value.category, maxLocals]; done) | rfl
def Q_rm0 (Z : State) (p0 : Int32) (p1 : Int32) (p2 : Int32) (p3 : Int32) (q4 : Int64) (ca : Addr) (cc : Cell) (val : Int32 → Value) (h0 : Heap) (n0 : Nat) (v : Option Value) (h : Heap) (L : List Loc) : Prop := v = some (.int 1) ∧ Fr n0 L
set_option maxRecDepth 65536 in
set_option maxHeartbeats 40000000 in
theorem rm0 (l : Launch) (Z : State) (a0 : Array Value) (hw : ∀ d ∈ tables_1, d.before a0 Z = true) (ws : List Jvm.Cond) (p0 : Int32) (p1 : Int32) (p2 : Int32) (p3 : Int32) (q4 : Int64) (ca : Addr) (cc : Cell) (val : Int32 → Value) (h0 : Heap) (n0 : Nat) (Z0 : n0 ≤ h0.size) (Bx : Bxs Z ca cc "java/lang/Long" "J" (256 : Int32) val) (Od : Old Z n0 h0) (S_c : Sta Z Z.heap "java/lang/Long$LongCache" "cache" "[Ljava/lang/Long;" (.ref ca)) :
    MetFree l x (head1 (Jvm.Cond.code x code maxLocals ret :: ws) room_1) (fun a U => a = #[(.int p0), (.int p1), (.int p2), (.int p3), (.long q4)] ∧ Z.Warmed39 U.vm ∧ U.heap = h0) (fun _ _ _ _ _ => True) (fun _ U o U' => ∃ v L, o = .returned v ∧ Q_rm0 Z p0 p1 p2 p3 q4 ca cc val h0 n0 v U'.heap L ∧ FrameEnd U o U' L room_1.cells room_1.slots) := by
  refine MetFree.of_bodySF (plainFor_of_name pn_3) hisR ?_
  intro p e s m args below meth c s₁ Bd hml0 hP hK
  obtain ⟨rfl, hZ, hh⟩ := hP
  have hx := Bd.exec
  have hby := Bd.bytes
  have hml : c.maxLocals = 17 := hml0
  have hown : s.vm.findClass "com/example/imprimatur/imprimatur/verify/DeviceValuesPublicKeyPinLaw" = some m.cls := findClass_of_methodNamed Bd.named
  have hnm := (name_of_methodNamed Bd.named Bd.method).1
  have X0 : Stand p l e room_1 s m #[(.int p0), (.int p1), (.int p2), (.int p3), (.long q4)] below meth c s₁ [] 0 0 := Stand.of_body Bd
  have e0 : s₁.heap = h0 := by rw [← hh, Bd.state]; rfl
  have N0 := Fr.nil n0
  have pre0 : ∀ t, Steps p.tables e below (s₁.setTop (mkF m 0 #[.val (.int p0), .val (.int p1), .val (.int p2), .val (.int p3), .val (.long q4), .second, .unset, .unset, .unset, .unset, .unset, .unset, .unset, .unset, .unset, .unset, .unset] [])) t → Steps p.tables e below (s₁.setTop (entryFrame m #[(.int p0), (.int p1), (.int p2), (.int p3), (.long q4)] maxLocals)) t := fun t k => castTop (ef_rm0 m p0 p1 p2 p3 q4) k
  have st1 : ∀ target, Steps p.tables e below (s₁.setTop (mkF m 3 #[.val (.int p0), .val (.int p1), .val (.int p2), .val (.int p3), .val (.long q4), .second, .unset, .unset, .unset, .unset, .unset, .unset, .unset, .unset, .unset, .unset, .unset] [(.int (p0 &&& (1 : Int32)))])) target → Steps p.tables e below (s₁.setTop (mkF m 0 #[.val (.int p0), .val (.int p1), .val (.int p2), .val (.int p3), .val (.long q4), .second, .unset, .unset, .unset, .unset, .unset, .unset, .unset, .unset, .unset, .unset, .unset] [])) target := by
    intro target kt
    show Steps p.tables e below (s₁.setTop (mkF m 0 #[.val (.int p0), .val (.int p1), .val (.int p2), .val (.int p3), .val (.long q4), .second, .unset, .unset, .unset, .unset, .unset, .unset, .unset, .unset, .unset, .unset, .unset] [])) _
    refine XS.iloadN X0.here hx rfl (hb hby at_0) rfl ?_
    show Steps p.tables e below (s₁.setTop (mkF m 1 #[.val (.int p0), .val (.int p1), .val (.int p2), .val (.int p3), .val (.long q4), .second, .unset, .unset, .unset, .unset, .unset, .unset, .unset, .unset, .unset, .unset, .unset] [(.int p0)])) _
    refine XS.iconst X0.here hx rfl (hb hby at_1) ?_
    show Steps p.tables e below (s₁.setTop (mkF m 2 #[.val (.int p0), .val (.int p1), .val (.int p2), .val (.int p3), .val (.long q4), .second, .unset, .unset, .unset, .unset, .unset, .unset, .unset, .unset, .unset, .unset, .unset] [(.int (1 : Int32)), (.int p0)])) _
    refine XS.iand X0.here hx rfl (hb hby at_2) rfl ?_
    exact kt
  by_cases hc3 : (p0 &&& (1 : Int32)) = (0 : Int32)
  · have st2 : ∀ target, Steps p.tables e below (s₁.setTop (mkF m 10 #[.val (.int p0), .val (.int p1), .val (.int p2), .val (.int p3), .val (.long q4), .second, .unset, .unset, .unset, .unset, .unset, .unset, .unset, .unset, .unset, .unset, .unset] [])) target → Steps p.tables e below (s₁.setTop (mkF m 3 #[.val (.int p0), .val (.int p1), .val (.int p2), .val (.int p3), .val (.long q4), .second, .unset, .unset, .unset, .unset, .unset, .unset, .unset, .unset, .unset, .unset, .unset] [(.int (p0 &&& (1 : Int32)))])) target := by
      intro target kt
      show Steps p.tables e below (s₁.setTop (mkF m 3 #[.val (.int p0), .val (.int p1), .val (.int p2), .val (.int p3), .val (.long q4), .second, .unset, .unset, .unset, .unset, .unset, .unset, .unset, .unset, .unset, .unset, .unset] [(.int (p0 &&& (1 : Int32)))])) _
      refine XS.ifYes X0.here hx rfl (pc0 := 3) (pc' := 10) rfl (hb hby at_3) rfl ((if0 _ _).trans (teq hc3).1) (by decide) (by decide) ?_
      exact kt
    have st3 : ∀ target, Steps p.tables e below (s₁.setTop (mkF m 16 #[.val (.int p0), .val (.int p1), .val (.int p2), .val (.int p3), .val (.long q4), .second, .val (.int (0 : Int32)), .unset, .unset, .unset, .unset, .unset, .unset, .unset, .unset, .unset, .unset] [(.int (p0 &&& (2 : Int32)))])) target → Steps p.tables e below (s₁.setTop (mkF m 10 #[.val (.int p0), .val (.int p1), .val (.int p2), .val (.int p3), .val (.long q4), .second, .unset, .unset, .unset, .unset, .unset, .unset, .unset, .unset, .unset, .unset, .unset] [])) target := by
      intro target kt
      show Steps p.tables e below (s₁.setTop (mkF m 10 #[.val (.int p0), .val (.int p1), .val (.int p2), .val (.int p3), .val (.long q4), .second, .unset, .unset, .unset, .unset, .unset, .unset, .unset, .unset, .unset, .unset, .unset] [])) _
      refine XS.iconst X0.here hx rfl (hb hby at_10) ?_
      show Steps p.tables e below (s₁.setTop (mkF m 11 #[.val (.int p0), .val (.int p1), .val (.int p2), .val (.int p3), .val (.long q4), .second, .unset, .unset, .unset, .unset, .unset, .unset, .unset, .unset, .unset, .unset, .unset] [(.int (0 : Int32))])) _
      refine XS.istore X0.here hx rfl (hb hby at_11) rfl (l' := #[.val (.int p0), .val (.int p1), .val (.int p2), .val (.int p3), .val (.long q4), .second, .val (.int (0 : Int32)), .unset, .unset, .unset, .unset, .unset, .unset, .unset, .unset, .unset, .unset]) rfl ?_
      show Steps p.tables e below (s₁.setTop (mkF m 13 #[.val (.int p0), .val (.int p1), .val (.int p2), .val (.int p3), .val (.long q4), .second, .val (.int (0 : Int32)), .unset, .unset, .unset, .unset, .unset, .unset, .unset, .unset, .unset, .unset] [])) _
      refine XS.iloadN X0.here hx rfl (hb hby at_13) rfl ?_
      show Steps p.tables e below (s₁.setTop (mkF m 14 #[.val (.int p0), .val (.int p1), .val (.int p2), .val (.int p3), .val (.long q4), .second, .val (.int (0 : Int32)), .unset, .unset, .unset, .unset, .unset, .unset, .unset, .unset, .unset, .unset] [(.int p0)])) _
      refine XS.iconst X0.here hx rfl (hb hby at_14) ?_
      show Steps p.tables e below (s₁.setTop (mkF m 15 #[.val (.int p0), .val (.int p1), .val (.int p2), .val (.int p3), .val (.long q4), .second, .val (.int (0 : Int32)), .unset, .unset, .unset, .unset, .unset, .unset, .unset, .unset, .unset, .unset] [(.int (2 : Int32)), (.int p0)])) _
      refine XS.iand X0.here hx rfl (hb hby at_15) rfl ?_
      exact kt
    by_cases hc16 : (p0 &&& (2 : Int32)) = (0 : Int32)
    · have st4 : ∀ target, Steps p.tables e below (s₁.setTop (mkF m 23 #[.val (.int p0), .val (.int p1), .val (.int p2), .val (.int p3), .val (.long q4), .second, .val (.int (0 : Int32)), .unset, .unset, .unset, .unset, .unset, .unset, .unset, .unset, .unset, .unset] [])) target → Steps p.tables e below (s₁.setTop (mkF m 16 #[.val (.int p0), .val (.int p1), .val (.int p2), .val (.int p3), .val (.long q4), .second, .val (.int (0 : Int32)), .unset, .unset, .unset, .unset, .unset, .unset, .unset, .unset, .unset, .unset] [(.int (p0 &&& (2 : Int32)))])) target := by
        intro target kt
        show Steps p.tables e below (s₁.setTop (mkF m 16 #[.val (.int p0), .val (.int p1), .val (.int p2), .val (.int p3), .val (.long q4), .second, .val (.int (0 : Int32)), .unset, .unset, .unset, .unset, .unset, .unset, .unset, .unset, .unset, .unset] [(.int (p0 &&& (2 : Int32)))])) _
        refine XS.ifYes X0.here hx rfl (pc0 := 16) (pc' := 23) rfl (hb hby at_16) rfl ((if0 _ _).trans (teq hc16).1) (by decide) (by decide) ?_
        exact kt
      have st5 : ∀ target, Steps p.tables e below (s₁.setTop (mkF m 33 #[.val (.int p0), .val (.int p1), .val (.int p2), .val (.int p3), .val (.long q4), .second, .val (.int (0 : Int32)), .val (.int (0 : Int32)), .val (.int (((p0.toUInt32 >>> ((2 : Int32) &&& 31).toUInt32).toInt32) &&& (3 : Int32))), .unset, .unset, .unset, .unset, .unset, .unset, .unset, .unset] [])) target → Steps p.tables e below (s₁.setTop (mkF m 23 #[.val (.int p0), .val (.int p1), .val (.int p2), .val (.int p3), .val (.long q4), .second, .val (.int (0 : Int32)), .unset, .unset, .unset, .unset, .unset, .unset, .unset, .unset, .unset, .unset] [])) target := by
        intro target kt
        show Steps p.tables e below (s₁.setTop (mkF m 23 #[.val (.int p0), .val (.int p1), .val (.int p2), .val (.int p3), .val (.long q4), .second, .val (.int (0 : Int32)), .unset, .unset, .unset, .unset, .unset, .unset, .unset, .unset, .unset, .unset] [])) _
        refine XS.iconst X0.here hx rfl (hb hby at_23) ?_
        show Steps p.tables e below (s₁.setTop (mkF m 24 #[.val (.int p0), .val (.int p1), .val (.int p2), .val (.int p3), .val (.long q4), .second, .val (.int (0 : Int32)), .unset, .unset, .unset, .unset, .unset, .unset, .unset, .unset, .unset, .unset] [(.int (0 : Int32))])) _
        refine XS.istore X0.here hx rfl (hb hby at_24) rfl (l' := #[.val (.int p0), .val (.int p1), .val (.int p2), .val (.int p3), .val (.long q4), .second, .val (.int (0 : Int32)), .val (.int (0 : Int32)), .unset, .unset, .unset, .unset, .unset, .unset, .unset, .unset, .unset]) rfl ?_
        show Steps p.tables e below (s₁.setTop (mkF m 26 #[.val (.int p0), .val (.int p1), .val (.int p2), .val (.int p3), .val (.long q4), .second, .val (.int (0 : Int32)), .val (.int (0 : Int32)), .unset, .unset, .unset, .unset, .unset, .unset, .unset, .unset, .unset] [])) _
        refine XS.iloadN X0.here hx rfl (hb hby at_26) rfl ?_
        show Steps p.tables e below (s₁.setTop (mkF m 27 #[.val (.int p0), .val (.int p1), .val (.int p2), .val (.int p3), .val (.long q4), .second, .val (.int (0 : Int32)), .val (.int (0 : Int32)), .unset, .unset, .unset, .unset, .unset, .unset, .unset, .unset, .unset] [(.int p0)])) _
        refine XS.iconst X0.here hx rfl (hb hby at_27) ?_
        show Steps p.tables e below (s₁.setTop (mkF m 28 #[.val (.int p0), .val (.int p1), .val (.int p2), .val (.int p3), .val (.long q4), .second, .val (.int (0 : Int32)), .val (.int (0 : Int32)), .unset, .unset, .unset, .unset, .unset, .unset, .unset, .unset, .unset] [(.int (2 : Int32)), (.int p0)])) _
        refine XS.iushr X0.here hx rfl (hb hby at_28) rfl ?_
        show Steps p.tables e below (s₁.setTop (mkF m 29 #[.val (.int p0), .val (.int p1), .val (.int p2), .val (.int p3), .val (.long q4), .second, .val (.int (0 : Int32)), .val (.int (0 : Int32)), .unset, .unset, .unset, .unset, .unset, .unset, .unset, .unset, .unset] [(.int ((p0.toUInt32 >>> ((2 : Int32) &&& 31).toUInt32).toInt32))])) _
        refine XS.iconst X0.here hx rfl (hb hby at_29) ?_
        show Steps p.tables e below (s₁.setTop (mkF m 30 #[.val (.int p0), .val (.int p1), .val (.int p2), .val (.int p3), .val (.long q4), .second, .val (.int (0 : Int32)), .val (.int (0 : Int32)), .unset, .unset, .unset, .unset, .unset, .unset, .unset, .unset, .unset] [(.int (3 : Int32)), (.int ((p0.toUInt32 >>> ((2 : Int32) &&& 31).toUInt32).toInt32))])) _
        refine XS.iand X0.here hx rfl (hb hby at_30) rfl ?_
        show Steps p.tables e below (s₁.setTop (mkF m 31 #[.val (.int p0), .val (.int p1), .val (.int p2), .val (.int p3), .val (.long q4), .second, .val (.int (0 : Int32)), .val (.int (0 : Int32)), .unset, .unset, .unset, .unset, .unset, .unset, .unset, .unset, .unset] [(.int (((p0.toUInt32 >>> ((2 : Int32) &&& 31).toUInt32).toInt32) &&& (3 : Int32)))])) _
        refine XS.istore X0.here hx rfl (hb hby at_31) rfl (l' := #[.val (.int p0), .val (.int p1), .val (.int p2), .val (.int p3), .val (.long q4), .second, .val (.int (0 : Int32)), .val (.int (0 : Int32)), .val (.int (((p0.toUInt32 >>> ((2 : Int32) &&& 31).toUInt32).toInt32) &&& (3 : Int32))), .unset, .unset, .unset, .unset, .unset, .unset, .unset, .unset]) rfl ?_
        exact kt
      obtain ⟨len, hlen⟩ : ∃ z : Int32, z = (((p0.toUInt32 >>> ((2 : Int32) &&& 31).toUInt32).toInt32) &&& (3 : Int32)) := ⟨_, rfl⟩
      rw [← hlen] at st5
      have hl4 : len = 0 ∨ len = 1 ∨ len = 2 ∨ len = 3 := hlen ▸ own_len4 p0
      clear hlen
      have st6 : ∀ target, Steps p.tables e below (s₁.setTop (mkF m 45 #[.val (.int p0), .val (.int p1), .val (.int p2), .val (.int p3), .val (.long q4), .second, .val (.int (0 : Int32)), .val (.int (0 : Int32)), .val (.int len), .val (.int (p1.toInt8.toInt32)), .val (.int (p2.toInt8.toInt32)), .val (.int (p3.toInt8.toInt32)), .unset, .unset, .unset, .unset, .unset] [])) target → Steps p.tables e below (s₁.setTop (mkF m 33 #[.val (.int p0), .val (.int p1), .val (.int p2), .val (.int p3), .val (.long q4), .second, .val (.int (0 : Int32)), .val (.int (0 : Int32)), .val (.int len), .unset, .unset, .unset, .unset, .unset, .unset, .unset, .unset] [])) target := by
        intro target kt
        show Steps p.tables e below (s₁.setTop (mkF m 33 #[.val (.int p0), .val (.int p1), .val (.int p2), .val (.int p3), .val (.long q4), .second, .val (.int (0 : Int32)), .val (.int (0 : Int32)), .val (.int len), .unset, .unset, .unset, .unset, .unset, .unset, .unset, .unset] [])) _
        refine XS.iloadN X0.here hx rfl (hb hby at_33) rfl ?_
        show Steps p.tables e below (s₁.setTop (mkF m 34 #[.val (.int p0), .val (.int p1), .val (.int p2), .val (.int p3), .val (.long q4), .second, .val (.int (0 : Int32)), .val (.int (0 : Int32)), .val (.int len), .unset, .unset, .unset, .unset, .unset, .unset, .unset, .unset] [(.int p1)])) _
        refine XS.i2b X0.here hx rfl (hb hby at_34) rfl ?_
        show Steps p.tables e below (s₁.setTop (mkF m 35 #[.val (.int p0), .val (.int p1), .val (.int p2), .val (.int p3), .val (.long q4), .second, .val (.int (0 : Int32)), .val (.int (0 : Int32)), .val (.int len), .unset, .unset, .unset, .unset, .unset, .unset, .unset, .unset] [(.int (p1.toInt8.toInt32))])) _
        refine XS.istore X0.here hx rfl (hb hby at_35) rfl (l' := #[.val (.int p0), .val (.int p1), .val (.int p2), .val (.int p3), .val (.long q4), .second, .val (.int (0 : Int32)), .val (.int (0 : Int32)), .val (.int len), .val (.int (p1.toInt8.toInt32)), .unset, .unset, .unset, .unset, .unset, .unset, .unset]) rfl ?_
        show Steps p.tables e below (s₁.setTop (mkF m 37 #[.val (.int p0), .val (.int p1), .val (.int p2), .val (.int p3), .val (.long q4), .second, .val (.int (0 : Int32)), .val (.int (0 : Int32)), .val (.int len), .val (.int (p1.toInt8.toInt32)), .unset, .unset, .unset, .unset, .unset, .unset, .unset] [])) _
        refine XS.iloadN X0.here hx rfl (hb hby at_37) rfl ?_
        show Steps p.tables e below (s₁.setTop (mkF m 38 #[.val (.int p0), .val (.int p1), .val (.int p2), .val (.int p3), .val (.long q4), .second, .val (.int (0 : Int32)), .val (.int (0 : Int32)), .val (.int len), .val (.int (p1.toInt8.toInt32)), .unset, .unset, .unset, .unset, .unset, .unset, .unset] [(.int p2)])) _
        refine XS.i2b X0.here hx rfl (hb hby at_38) rfl ?_
        show Steps p.tables e below (s₁.setTop (mkF m 39 #[.val (.int p0), .val (.int p1), .val (.int p2), .val (.int p3), .val (.long q4), .second, .val (.int (0 : Int32)), .val (.int (0 : Int32)), .val (.int len), .val (.int (p1.toInt8.toInt32)), .unset, .unset, .unset, .unset, .unset, .unset, .unset] [(.int (p2.toInt8.toInt32))])) _
        refine XS.istore X0.here hx rfl (hb hby at_39) rfl (l' := #[.val (.int p0), .val (.int p1), .val (.int p2), .val (.int p3), .val (.long q4), .second, .val (.int (0 : Int32)), .val (.int (0 : Int32)), .val (.int len), .val (.int (p1.toInt8.toInt32)), .val (.int (p2.toInt8.toInt32)), .unset, .unset, .unset, .unset, .unset, .unset]) rfl ?_
        show Steps p.tables e below (s₁.setTop (mkF m 41 #[.val (.int p0), .val (.int p1), .val (.int p2), .val (.int p3), .val (.long q4), .second, .val (.int (0 : Int32)), .val (.int (0 : Int32)), .val (.int len), .val (.int (p1.toInt8.toInt32)), .val (.int (p2.toInt8.toInt32)), .unset, .unset, .unset, .unset, .unset, .unset] [])) _
        refine XS.iloadN X0.here hx rfl (hb hby at_41) rfl ?_
        show Steps p.tables e below (s₁.setTop (mkF m 42 #[.val (.int p0), .val (.int p1), .val (.int p2), .val (.int p3), .val (.long q4), .second, .val (.int (0 : Int32)), .val (.int (0 : Int32)), .val (.int len), .val (.int (p1.toInt8.toInt32)), .val (.int (p2.toInt8.toInt32)), .unset, .unset, .unset, .unset, .unset, .unset] [(.int p3)])) _
        refine XS.i2b X0.here hx rfl (hb hby at_42) rfl ?_
        show Steps p.tables e below (s₁.setTop (mkF m 43 #[.val (.int p0), .val (.int p1), .val (.int p2), .val (.int p3), .val (.long q4), .second, .val (.int (0 : Int32)), .val (.int (0 : Int32)), .val (.int len), .val (.int (p1.toInt8.toInt32)), .val (.int (p2.toInt8.toInt32)), .unset, .unset, .unset, .unset, .unset, .unset] [(.int (p3.toInt8.toInt32))])) _
        refine XS.istore X0.here hx rfl (hb hby at_43) rfl (l' := #[.val (.int p0), .val (.int p1), .val (.int p2), .val (.int p3), .val (.long q4), .second, .val (.int (0 : Int32)), .val (.int (0 : Int32)), .val (.int len), .val (.int (p1.toInt8.toInt32)), .val (.int (p2.toInt8.toInt32)), .val (.int (p3.toInt8.toInt32)), .unset, .unset, .unset, .unset, .unset]) rfl ?_
        exact kt
      obtain ⟨e0_, he0_⟩ : ∃ z : Int32, z = (p1.toInt8.toInt32) := ⟨_, rfl⟩
      rw [← he0_] at st6
      have ne0_ : nar .byte e0_ = e0_ := by rw [he0_]; exact own_nar _
      obtain ⟨e1_, he1_⟩ : ∃ z : Int32, z = (p2.toInt8.toInt32) := ⟨_, rfl⟩
      rw [← he1_] at st6
      have ne1_ : nar .byte e1_ = e1_ := by rw [he1_]; exact own_nar _
      obtain ⟨e2_, he2_⟩ : ∃ z : Int32, z = (p3.toInt8.toInt32) := ⟨_, rfl⟩
      rw [← he2_] at st6
      have ne2_ : nar .byte e2_ = e2_ := by rw [he2_]; exact own_nar _
      rcases hl4 with rfl | rfl | rfl | rfl
      · have st7 : ∀ target, Steps p.tables e below (s₁.setTop (mkF m 55 #[.val (.int p0), .val (.int p1), .val (.int p2), .val (.int p3), .val (.long q4), .second, .val (.int (0 : Int32)), .val (.int (0 : Int32)), .val (.int (0 : Int32)), .val (.int e0_), .val (.int e1_), .val (.int e2_), .val .null, .unset, .unset, .unset, .unset] [(.int (0 : Int32))])) target → Steps p.tables e below (s₁.setTop (mkF m 45 #[.val (.int p0), .val (.int p1), .val (.int p2), .val (.int p3), .val (.long q4), .second, .val (.int (0 : Int32)), .val (.int (0 : Int32)), .val (.int (0 : Int32)), .val (.int e0_), .val (.int e1_), .val (.int e2_), .unset, .unset, .unset, .unset, .unset] [])) target := by
          intro target kt
          show Steps p.tables e below (s₁.setTop (mkF m 45 #[.val (.int p0), .val (.int p1), .val (.int p2), .val (.int p3), .val (.long q4), .second, .val (.int (0 : Int32)), .val (.int (0 : Int32)), .val (.int (0 : Int32)), .val (.int e0_), .val (.int e1_), .val (.int e2_), .unset, .unset, .unset, .unset, .unset] [])) _
          refine XS.aconstNull X0.here hx rfl (hb hby at_45) ?_
          show Steps p.tables e below (s₁.setTop (mkF m 46 #[.val (.int p0), .val (.int p1), .val (.int p2), .val (.int p3), .val (.long q4), .second, .val (.int (0 : Int32)), .val (.int (0 : Int32)), .val (.int (0 : Int32)), .val (.int e0_), .val (.int e1_), .val (.int e2_), .unset, .unset, .unset, .unset, .unset] [.null])) _
          refine XS.astore X0.here hx rfl (hb hby at_46) rfl rfl (l' := #[.val (.int p0), .val (.int p1), .val (.int p2), .val (.int p3), .val (.long q4), .second, .val (.int (0 : Int32)), .val (.int (0 : Int32)), .val (.int (0 : Int32)), .val (.int e0_), .val (.int e1_), .val (.int e2_), .val .null, .unset, .unset, .unset, .unset]) rfl ?_
          show Steps p.tables e below (s₁.setTop (mkF m 48 #[.val (.int p0), .val (.int p1), .val (.int p2), .val (.int p3), .val (.long q4), .second, .val (.int (0 : Int32)), .val (.int (0 : Int32)), .val (.int (0 : Int32)), .val (.int e0_), .val (.int e1_), .val (.int e2_), .val .null, .unset, .unset, .unset, .unset] [])) _
          refine XS.iload X0.here hx rfl (hb hby at_48) rfl ?_
          show Steps p.tables e below (s₁.setTop (mkF m 50 #[.val (.int p0), .val (.int p1), .val (.int p2), .val (.int p3), .val (.long q4), .second, .val (.int (0 : Int32)), .val (.int (0 : Int32)), .val (.int (0 : Int32)), .val (.int e0_), .val (.int e1_), .val (.int e2_), .val .null, .unset, .unset, .unset, .unset] [(.int (0 : Int32))])) _
          refine XS.ifNo X0.here hx rfl (hb hby at_50) rfl ((if0 _ _).trans (teq (rfl : (0 : Int32) = (0 : Int32))).2) ?_
          show Steps p.tables e below (s₁.setTop (mkF m 53 #[.val (.int p0), .val (.int p1), .val (.int p2), .val (.int p3), .val (.long q4), .second, .val (.int (0 : Int32)), .val (.int (0 : Int32)), .val (.int (0 : Int32)), .val (.int e0_), .val (.int e1_), .val (.int e2_), .val .null, .unset, .unset, .unset, .unset] [])) _
          refine XS.iload X0.here hx rfl (hb hby at_53) rfl ?_
          exact kt
        obtain ⟨T8, h8, k8, X8, e8, E8, A8, Ex8, st8⟩ := newPE X0 hx hZ (hw _ (List.mem_of_getElem? (i := 0) rfl)) e0 (g := (mkF m 55 #[.val (.int p0), .val (.int p1), .val (.int p2), .val (.int p3), .val (.long q4), .second, .val (.int (0 : Int32)), .val (.int (0 : Int32)), .val (.int (0 : Int32)), .val (.int e0_), .val (.int e1_), .val (.int e2_), .val .null, .unset, .unset, .unset, .unset] [(.int (0 : Int32))])) rfl (hb hby at_55) rfl (by decide) (cap := 0) (by decide) (by decide) (by decide) (by decide) (ad := "[B") (by decide)
        obtain ⟨key, g8⟩ : ∃ z, z = h0.size := ⟨_, rfl⟩
        rw [← g8] at A8 Ex8 st8
        have g_key : n0 ≤ key := Nat.le_trans Z0 (Nat.le_of_eq g8.symm)
        have Od_8 := Od.ext E8
        have Z_8 : n0 ≤ h8.size := Nat.le_trans Z0 E8.1
        have Hh_key : Arh Z h8 key k8 .byte (0 : Int32) [] [] (.int (0 : Int32)) := Arv.arh (Arv.new A8 (by decide))
        have st9 : ∀ target, Steps p.tables e below (T8.setTop (mkF m 126 #[.val (.int p0), .val (.int p1), .val (.int p2), .val (.int p3), .val (.long q4), .second, .val (.int (0 : Int32)), .val (.int (0 : Int32)), .val (.int (0 : Int32)), .val (.int e0_), .val (.int e1_), .val (.int e2_), .val (.ref key), .val .null, .unset, .unset, .unset] [])) target → Steps p.tables e below (T8.setTop (mkF m 57 #[.val (.int p0), .val (.int p1), .val (.int p2), .val (.int p3), .val (.long q4), .second, .val (.int (0 : Int32)), .val (.int (0 : Int32)), .val (.int (0 : Int32)), .val (.int e0_), .val (.int e1_), .val (.int e2_), .val .null, .unset, .unset, .unset, .unset] [(.ref key)])) target := by
          intro target kt
          show Steps p.tables e below (T8.setTop (mkF m 57 #[.val (.int p0), .val (.int p1), .val (.int p2), .val (.int p3), .val (.long q4), .second, .val (.int (0 : Int32)), .val (.int (0 : Int32)), .val (.int (0 : Int32)), .val (.int e0_), .val (.int e1_), .val (.int e2_), .val .null, .unset, .unset, .unset, .unset] [(.ref key)])) _
          refine XS.astore X8.here hx rfl (hb hby at_57) rfl rfl (l' := #[.val (.int p0), .val (.int p1), .val (.int p2), .val (.int p3), .val (.long q4), .second, .val (.int (0 : Int32)), .val (.int (0 : Int32)), .val (.int (0 : Int32)), .val (.int e0_), .val (.int e1_), .val (.int e2_), .val (.ref key), .unset, .unset, .unset, .unset]) rfl ?_
          show Steps p.tables e below (T8.setTop (mkF m 59 #[.val (.int p0), .val (.int p1), .val (.int p2), .val (.int p3), .val (.long q4), .second, .val (.int (0 : Int32)), .val (.int (0 : Int32)), .val (.int (0 : Int32)), .val (.int e0_), .val (.int e1_), .val (.int e2_), .val (.ref key), .unset, .unset, .unset, .unset] [])) _
          refine XS.iload X8.here hx rfl (hb hby at_59) rfl ?_
          show Steps p.tables e below (T8.setTop (mkF m 61 #[.val (.int p0), .val (.int p1), .val (.int p2), .val (.int p3), .val (.long q4), .second, .val (.int (0 : Int32)), .val (.int (0 : Int32)), .val (.int (0 : Int32)), .val (.int e0_), .val (.int e1_), .val (.int e2_), .val (.ref key), .unset, .unset, .unset, .unset] [(.int (0 : Int32))])) _
          refine XS.ifYes X8.here hx rfl (pc0 := 61) (pc' := 70) rfl (hb hby at_61) rfl ((if0 _ _).trans (flt (by decide : ¬ ((0 : Int32) < (0 : Int32)))).2.2.2) (by decide) (by decide) ?_
          show Steps p.tables e below (T8.setTop (mkF m 70 #[.val (.int p0), .val (.int p1), .val (.int p2), .val (.int p3), .val (.long q4), .second, .val (.int (0 : Int32)), .val (.int (0 : Int32)), .val (.int (0 : Int32)), .val (.int e0_), .val (.int e1_), .val (.int e2_), .val (.ref key), .unset, .unset, .unset, .unset] [])) _
          refine XS.iload X8.here hx rfl (hb hby at_70) rfl ?_
          show Steps p.tables e below (T8.setTop (mkF m 72 #[.val (.int p0), .val (.int p1), .val (.int p2), .val (.int p3), .val (.long q4), .second, .val (.int (0 : Int32)), .val (.int (0 : Int32)), .val (.int (0 : Int32)), .val (.int e0_), .val (.int e1_), .val (.int e2_), .val (.ref key), .unset, .unset, .unset, .unset] [(.int (0 : Int32))])) _
          refine XS.iconst X8.here hx rfl (hb hby at_72) ?_
          show Steps p.tables e below (T8.setTop (mkF m 73 #[.val (.int p0), .val (.int p1), .val (.int p2), .val (.int p3), .val (.long q4), .second, .val (.int (0 : Int32)), .val (.int (0 : Int32)), .val (.int (0 : Int32)), .val (.int e0_), .val (.int e1_), .val (.int e2_), .val (.ref key), .unset, .unset, .unset, .unset] [(.int (1 : Int32)), (.int (0 : Int32))])) _
          refine XS.icmpYes X8.here hx rfl (pc0 := 73) (pc' := 82) rfl (hb hby at_73) rfl (flt (by decide : ¬ ((1 : Int32) < (0 : Int32)))).2.2.2 (by decide) (by decide) ?_
          show Steps p.tables e below (T8.setTop (mkF m 82 #[.val (.int p0), .val (.int p1), .val (.int p2), .val (.int p3), .val (.long q4), .second, .val (.int (0 : Int32)), .val (.int (0 : Int32)), .val (.int (0 : Int32)), .val (.int e0_), .val (.int e1_), .val (.int e2_), .val (.ref key), .unset, .unset, .unset, .unset] [])) _
          refine XS.iload X8.here hx rfl (hb hby at_82) rfl ?_
          show Steps p.tables e below (T8.setTop (mkF m 84 #[.val (.int p0), .val (.int p1), .val (.int p2), .val (.int p3), .val (.long q4), .second, .val (.int (0 : Int32)), .val (.int (0 : Int32)), .val (.int (0 : Int32)), .val (.int e0_), .val (.int e1_), .val (.int e2_), .val (.ref key), .unset, .unset, .unset, .unset] [(.int (0 : Int32))])) _
          refine XS.iconst X8.here hx rfl (hb hby at_84) ?_
          show Steps p.tables e below (T8.setTop (mkF m 85 #[.val (.int p0), .val (.int p1), .val (.int p2), .val (.int p3), .val (.long q4), .second, .val (.int (0 : Int32)), .val (.int (0 : Int32)), .val (.int (0 : Int32)), .val (.int e0_), .val (.int e1_), .val (.int e2_), .val (.ref key), .unset, .unset, .unset, .unset] [(.int (2 : Int32)), (.int (0 : Int32))])) _
          refine XS.icmpYes X8.here hx rfl (pc0 := 85) (pc' := 94) rfl (hb hby at_85) rfl (flt (by decide : ¬ ((2 : Int32) < (0 : Int32)))).2.2.2 (by decide) (by decide) ?_
          show Steps p.tables e below (T8.setTop (mkF m 94 #[.val (.int p0), .val (.int p1), .val (.int p2), .val (.int p3), .val (.long q4), .second, .val (.int (0 : Int32)), .val (.int (0 : Int32)), .val (.int (0 : Int32)), .val (.int e0_), .val (.int e1_), .val (.int e2_), .val (.ref key), .unset, .unset, .unset, .unset] [])) _
          refine XS.aconstNull X8.here hx rfl (hb hby at_94) ?_
          show Steps p.tables e below (T8.setTop (mkF m 95 #[.val (.int p0), .val (.int p1), .val (.int p2), .val (.int p3), .val (.long q4), .second, .val (.int (0 : Int32)), .val (.int (0 : Int32)), .val (.int (0 : Int32)), .val (.int e0_), .val (.int e1_), .val (.int e2_), .val (.ref key), .unset, .unset, .unset, .unset] [.null])) _
          refine XS.astore X8.here hx rfl (hb hby at_95) rfl rfl (l' := #[.val (.int p0), .val (.int p1), .val (.int p2), .val (.int p3), .val (.long q4), .second, .val (.int (0 : Int32)), .val (.int (0 : Int32)), .val (.int (0 : Int32)), .val (.int e0_), .val (.int e1_), .val (.int e2_), .val (.ref key), .val .null, .unset, .unset, .unset]) rfl ?_
          show Steps p.tables e below (T8.setTop (mkF m 97 #[.val (.int p0), .val (.int p1), .val (.int p2), .val (.int p3), .val (.long q4), .second, .val (.int (0 : Int32)), .val (.int (0 : Int32)), .val (.int (0 : Int32)), .val (.int e0_), .val (.int e1_), .val (.int e2_), .val (.ref key), .val .null, .unset, .unset, .unset] [])) _
          refine XS.iload X8.here hx rfl (hb hby at_97) rfl ?_
          show Steps p.tables e below (T8.setTop (mkF m 99 #[.val (.int p0), .val (.int p1), .val (.int p2), .val (.int p3), .val (.long q4), .second, .val (.int (0 : Int32)), .val (.int (0 : Int32)), .val (.int (0 : Int32)), .val (.int e0_), .val (.int e1_), .val (.int e2_), .val (.ref key), .val .null, .unset, .unset, .unset] [(.int (0 : Int32))])) _
          refine XS.ifYes X8.here hx rfl (pc0 := 99) (pc' := 126) rfl (hb hby at_99) rfl ((if0 _ _).trans (teq (rfl : (0 : Int32) = (0 : Int32))).1) (by decide) (by decide) ?_
          exact kt
        obtain ⟨T10, h10, X10, e10, E10, A10, D10, -, st10⟩ := newO X8 hx hZ hown (hw _ (List.mem_of_getElem? (i := 1) rfl)) (hw _ (List.mem_of_getElem? (i := 2) rfl)) (hw _ (List.mem_of_getElem? (i := 3) rfl)) e8 (g := (mkF m 126 #[.val (.int p0), .val (.int p1), .val (.int p2), .val (.int p3), .val (.long q4), .second, .val (.int (0 : Int32)), .val (.int (0 : Int32)), .val (.int (0 : Int32)), .val (.int e0_), .val (.int e1_), .val (.int e2_), .val (.ref key), .val .null, .unset, .unset, .unset] [])) rfl (hb hby at_126) (by decide) (by decide)
        obtain ⟨d, g10⟩ : ∃ z, z = h8.size := ⟨_, rfl⟩
        rw [← g10] at A10 D10 st10
        have g_d : n0 ≤ d := Nat.le_trans Z_8 (Nat.le_of_eq g10.symm)
        have ne_key_d : key ≠ d := Nat.ne_of_lt (Nat.lt_of_lt_of_le Hh_key.lt (Nat.le_of_eq g10.symm))
        have Od_10 := Od_8.ext E10
        have Hh_key_10 := Hh_key.ext E10
        have Ex8_10 := Ex8.ext E10
        have Z_10 : n0 ≤ h10.size := Nat.le_trans Z_8 E10.1
        have E_d : Exa Z h10 d "com/example/imprimatur/imprimatur/verify/DeviceValues" := A10
        have F_pkHash_d : Fld Z h10 d "com/example/imprimatur/imprimatur/verify/DeviceValues" "pkHash" "[B" .null := D10 (Or.inr (hw _ (List.mem_of_getElem? (i := 31) rfl))) (ty := (.array .byte)) (by decide)
        have F_hwId_d : Fld Z h10 d "com/example/imprimatur/imprimatur/verify/DeviceValues" "hwId" "Ljava/lang/Long;" .null := D10 (Or.inr (hw _ (List.mem_of_getElem? (i := 33) rfl))) (ty := (.object "java/lang/Long")) (by decide)
        have F_swId_d : Fld Z h10 d "com/example/imprimatur/imprimatur/verify/DeviceValues" "swId" "Ljava/lang/Long;" .null := D10 (Or.inr (hw _ (List.mem_of_getElem? (i := 35) rfl))) (ty := (.object "java/lang/Long")) (by decide)
        have F_publicKey_d : Fld Z h10 d "com/example/imprimatur/imprimatur/verify/DeviceValues" "publicKey" "[B" .null := D10 (Or.inr (hw _ (List.mem_of_getElem? (i := 46) rfl))) (ty := (.array .byte)) (by decide)
        have st11 : ∀ target, Steps p.tables e below (T10.setTop (mkF m 134 #[.val (.int p0), .val (.int p1), .val (.int p2), .val (.int p3), .val (.long q4), .second, .val (.int (0 : Int32)), .val (.int (0 : Int32)), .val (.int (0 : Int32)), .val (.int e0_), .val (.int e1_), .val (.int e2_), .val (.ref key), .val .null, .unset, .unset, .unset] [(.long q4), .null, (.ref d), (.ref d)])) target → Steps p.tables e below (T10.setTop (mkF m 129 #[.val (.int p0), .val (.int p1), .val (.int p2), .val (.int p3), .val (.long q4), .second, .val (.int (0 : Int32)), .val (.int (0 : Int32)), .val (.int (0 : Int32)), .val (.int e0_), .val (.int e1_), .val (.int e2_), .val (.ref key), .val .null, .unset, .unset, .unset] [(.ref d)])) target := by
          intro target kt
          show Steps p.tables e below (T10.setTop (mkF m 129 #[.val (.int p0), .val (.int p1), .val (.int p2), .val (.int p3), .val (.long q4), .second, .val (.int (0 : Int32)), .val (.int (0 : Int32)), .val (.int (0 : Int32)), .val (.int e0_), .val (.int e1_), .val (.int e2_), .val (.ref key), .val .null, .unset, .unset, .unset] [(.ref d)])) _
          refine XS.dup X10.here hx rfl (hb hby at_129) rfl rfl ?_
          show Steps p.tables e below (T10.setTop (mkF m 130 #[.val (.int p0), .val (.int p1), .val (.int p2), .val (.int p3), .val (.long q4), .second, .val (.int (0 : Int32)), .val (.int (0 : Int32)), .val (.int (0 : Int32)), .val (.int e0_), .val (.int e1_), .val (.int e2_), .val (.ref key), .val .null, .unset, .unset, .unset] [(.ref d), (.ref d)])) _
          refine XS.aload X10.here hx rfl (hb hby at_130) rfl rfl ?_
          show Steps p.tables e below (T10.setTop (mkF m 132 #[.val (.int p0), .val (.int p1), .val (.int p2), .val (.int p3), .val (.long q4), .second, .val (.int (0 : Int32)), .val (.int (0 : Int32)), .val (.int (0 : Int32)), .val (.int e0_), .val (.int e1_), .val (.int e2_), .val (.ref key), .val .null, .unset, .unset, .unset] [.null, (.ref d), (.ref d)])) _
          refine XS.lload X10.here hx rfl (hb hby at_132) rfl ?_
          exact kt
        obtain ⟨_, _, ⟨T12, L12, k12, n12⟩, -, X12, ⟨Lc12, hQ12, l12, y12, z12⟩, st12⟩ := Jvm.LawKit.callS X10 hx (y := (⟨"java/lang/Long", "valueOf", "(J)Ljava/lang/Long;"⟩ : MethodName)) hown (mvT hZ (hw _ (List.mem_of_getElem? (i := 4) rfl))) (mvT hZ (hw _ (List.mem_of_getElem? (i := 5) rfl))) (mvT hZ (hw _ (List.mem_of_getElem? (i := 6) rfl))) (mvT hZ (hw _ (List.mem_of_getElem? (i := 7) rfl))) (by decide) (backOf (W := 3) (rm1 l Z a0 hw [] q4 ca cc val h10 n0 Z_10 Bx Od_10 S_c) hZ (hw _ (List.mem_of_getElem? (i := 7) rfl)) (hw _ (List.mem_of_getElem? (i := 6) rfl)) (by decide) (by decide)) (g := (mkF m 134 #[.val (.int p0), .val (.int p1), .val (.int p2), .val (.int p3), .val (.long q4), .second, .val (.int (0 : Int32)), .val (.int (0 : Int32)), .val (.int (0 : Int32)), .val (.int e0_), .val (.int e1_), .val (.int e2_), .val (.ref key), .val .null, .unset, .unset, .unset] [(.long q4), .null, (.ref d), (.ref d)])) rfl (by rw [hml]; rfl) (argsL := [(.long q4)]) (rest := [.null, (.ref d), (.ref d)]) (lenOf pd_0 rfl) rfl (by show 2 * 0 + _ ≤ _; exact Nat.le_of_eq rfl) (hb hby at_134) (fun _ _ => ⟨rfl, e10, (by decide : 2 + 1 ≤ _), (by decide : 4 + 1 ≤ _)⟩)
        dsimp only [Pt.U, Pt.locs, Pt.cells, Pt.slots] at X12 l12 y12 z12 st12 hQ12
        subst l12 y12 z12
        obtain ⟨t12, rfl, Nq12, K12, Et12⟩ := hQ12
        have N12 := Fr.app N0 Nq12
        have Od_12 := Od_10.keep K12 (all0)
        have Hh_key_12 := Hh_key_10.keep K12 nin0
        have Ex8_12 := Ex8_10.keep K12
        have E_d_12 := E_d.keep K12
        have F_pkHash_d_12 := F_pkHash_d.keep K12 nin0
        have F_hwId_d_12 := F_hwId_d.keep K12 nin0
        have F_swId_d_12 := F_swId_d.keep K12 nin0
        have F_publicKey_d_12 := F_publicKey_d.keep K12 nin0
        have Z_12 : n0 ≤ T12.heap.size := Nat.le_trans Z_10 K12.1
        have st13 : ∀ target, Steps p.tables e below (T12.setTop (mkF m 140 #[.val (.int p0), .val (.int p1), .val (.int p2), .val (.int p3), .val (.long q4), .second, .val (.int (0 : Int32)), .val (.int (0 : Int32)), .val (.int (0 : Int32)), .val (.int e0_), .val (.int e1_), .val (.int e2_), .val (.ref key), .val .null, .unset, .unset, .unset] [(.ref key), .null, (.ref t12), .null, (.ref d), (.ref d)])) target → Steps p.tables e below (T12.setTop (mkF m 137 #[.val (.int p0), .val (.int p1), .val (.int p2), .val (.int p3), .val (.long q4), .second, .val (.int (0 : Int32)), .val (.int (0 : Int32)), .val (.int (0 : Int32)), .val (.int e0_), .val (.int e1_), .val (.int e2_), .val (.ref key), .val .null, .unset, .unset, .unset] [(.ref t12), .null, (.ref d), (.ref d)])) target := by
          intro target kt
          show Steps p.tables e below (T12.setTop (mkF m 137 #[.val (.int p0), .val (.int p1), .val (.int p2), .val (.int p3), .val (.long q4), .second, .val (.int (0 : Int32)), .val (.int (0 : Int32)), .val (.int (0 : Int32)), .val (.int e0_), .val (.int e1_), .val (.int e2_), .val (.ref key), .val .null, .unset, .unset, .unset] [(.ref t12), .null, (.ref d), (.ref d)])) _
          refine XS.aconstNull X12.here hx rfl (hb hby at_137) ?_
          show Steps p.tables e below (T12.setTop (mkF m 138 #[.val (.int p0), .val (.int p1), .val (.int p2), .val (.int p3), .val (.long q4), .second, .val (.int (0 : Int32)), .val (.int (0 : Int32)), .val (.int (0 : Int32)), .val (.int e0_), .val (.int e1_), .val (.int e2_), .val (.ref key), .val .null, .unset, .unset, .unset] [.null, (.ref t12), .null, (.ref d), (.ref d)])) _
          refine XS.aload X12.here hx rfl (hb hby at_138) rfl rfl ?_
          exact kt
        obtain ⟨_, _, ⟨T14, L14, k14, n14⟩, -, X14, ⟨Lc14, hQ14, l14, y14, z14⟩, st14⟩ := X12.specialBack hx (y := (⟨"com/example/imprimatur/imprimatur/verify/DeviceValues", "<init>", "([BLjava/lang/Long;Ljava/lang/Long;[B)V"⟩ : MethodName)) rfl hown (mvT hZ (hw _ (List.mem_of_getElem? (i := 26) rfl))) (mvT hZ (hw _ (List.mem_of_getElem? (i := 27) rfl))) (mvT hZ (hw _ (List.mem_of_getElem? (i := 28) rfl))) (by decide) (backOf (W := 1) (rmI01 l Z a0 hw [] d t12 key k8 (0 : Int32) [] T12.heap n0 Z_12 F_pkHash_d_12 F_hwId_d_12 F_swId_d_12 F_publicKey_d_12 E_d_12 g_d Hh_key_12 Ex8_12 (Ne.symm ne_key_d) (by decide)) hZ (hw _ (List.mem_of_getElem? (i := 28) rfl)) (hw _ (List.mem_of_getElem? (i := 3) rfl)) (by decide) (by decide)) (g := (mkF m 140 #[.val (.int p0), .val (.int p1), .val (.int p2), .val (.int p3), .val (.long q4), .second, .val (.int (0 : Int32)), .val (.int (0 : Int32)), .val (.int (0 : Int32)), .val (.int e0_), .val (.int e1_), .val (.int e2_), .val (.ref key), .val .null, .unset, .unset, .unset] [(.ref key), .null, (.ref t12), .null, (.ref d), (.ref d)])) rfl (by rw [hml]; rfl) (Steps.refl _) (a := d) (argsL := [.null, (.ref t12), .null, (.ref key)]) (rest := [(.ref d)]) (lenOf pd_3 rfl) rfl (by show 2 * 0 + _ ≤ _; exact Nat.le_of_eq rfl) (hb hby at_140) (fun _ _ => ⟨rfl, rfl, (by decide : 3 + 1 ≤ _), (by decide : 5 + 3 ≤ _)⟩)
        dsimp only [Pt.U, Pt.locs, Pt.cells, Pt.slots] at X14 l14 y14 z14 st14 hQ14
        subst l14 y14 z14
        obtain ⟨rfl, Nq14, K14, Ed, c, szc, Fc, Hc, Ec⟩ := hQ14
        have N14 := Fr.app N12 Nq14
        have g_c : n0 ≤ c := Nat.le_trans Z_12 szc
        have ne_key_c : key ≠ c := Nat.ne_of_lt (Nat.lt_of_lt_of_le Hh_key_12.lt szc)
        have ne_d_c : d ≠ c := Nat.ne_of_lt (Nat.lt_of_lt_of_le E_d_12.lt szc)
        have ne_t12_c : t12 ≠ c := Nat.ne_of_lt (Nat.lt_of_lt_of_le Et12.lt szc)
        have Od_14 := Od_12.keep K14 (allS g_d (all0))
        have Hh_key_14 := Hh_key_12.keep K14 (ninS ne_key_d nin0)
        have Ex8_14 := Ex8_12.keep K14
        have E_d_14 := E_d_12.keep K14
        have Et12_14 := Et12.keep K14
        have Z_14 : n0 ≤ T14.heap.size := Nat.le_trans Z_12 K14.1
        have st15 : ∀ target, Steps p.tables e below (T14.setTop (mkF m 169 #[.val (.int p0), .val (.int p1), .val (.int p2), .val (.int p3), .val (.long q4), .second, .val (.int (0 : Int32)), .val (.int (0 : Int32)), .val (.int (0 : Int32)), .val (.int e0_), .val (.int e1_), .val (.int e2_), .val (.ref key), .val .null, .val (.ref d), .unset, .unset] [(.ref d)])) target → Steps p.tables e below (T14.setTop (mkF m 143 #[.val (.int p0), .val (.int p1), .val (.int p2), .val (.int p3), .val (.long q4), .second, .val (.int (0 : Int32)), .val (.int (0 : Int32)), .val (.int (0 : Int32)), .val (.int e0_), .val (.int e1_), .val (.int e2_), .val (.ref key), .val .null, .unset, .unset, .unset] [(.ref d)])) target := by
          intro target kt
          show Steps p.tables e below (T14.setTop (mkF m 143 #[.val (.int p0), .val (.int p1), .val (.int p2), .val (.int p3), .val (.long q4), .second, .val (.int (0 : Int32)), .val (.int (0 : Int32)), .val (.int (0 : Int32)), .val (.int e0_), .val (.int e1_), .val (.int e2_), .val (.ref key), .val .null, .unset, .unset, .unset] [(.ref d)])) _
          refine XS.astore X14.here hx rfl (hb hby at_143) rfl rfl (l' := #[.val (.int p0), .val (.int p1), .val (.int p2), .val (.int p3), .val (.long q4), .second, .val (.int (0 : Int32)), .val (.int (0 : Int32)), .val (.int (0 : Int32)), .val (.int e0_), .val (.int e1_), .val (.int e2_), .val (.ref key), .val .null, .val (.ref d), .unset, .unset]) rfl ?_
          show Steps p.tables e below (T14.setTop (mkF m 145 #[.val (.int p0), .val (.int p1), .val (.int p2), .val (.int p3), .val (.long q4), .second, .val (.int (0 : Int32)), .val (.int (0 : Int32)), .val (.int (0 : Int32)), .val (.int e0_), .val (.int e1_), .val (.int e2_), .val (.ref key), .val .null, .val (.ref d), .unset, .unset] [])) _
          refine XS.aload X14.here hx rfl (hb hby at_145) rfl rfl ?_
          show Steps p.tables e below (T14.setTop (mkF m 147 #[.val (.int p0), .val (.int p1), .val (.int p2), .val (.int p3), .val (.long q4), .second, .val (.int (0 : Int32)), .val (.int (0 : Int32)), .val (.int (0 : Int32)), .val (.int e0_), .val (.int e1_), .val (.int e2_), .val (.ref key), .val .null, .val (.ref d), .unset, .unset] [(.ref key)])) _
          refine XS.ifnullNo X14.here hx rfl (hb hby at_147) rfl ?_
          show Steps p.tables e below (T14.setTop (mkF m 150 #[.val (.int p0), .val (.int p1), .val (.int p2), .val (.int p3), .val (.long q4), .second, .val (.int (0 : Int32)), .val (.int (0 : Int32)), .val (.int (0 : Int32)), .val (.int e0_), .val (.int e1_), .val (.int e2_), .val (.ref key), .val .null, .val (.ref d), .unset, .unset] [])) _
          refine XS.iload X14.here hx rfl (hb hby at_150) rfl ?_
          show Steps p.tables e below (T14.setTop (mkF m 152 #[.val (.int p0), .val (.int p1), .val (.int p2), .val (.int p3), .val (.long q4), .second, .val (.int (0 : Int32)), .val (.int (0 : Int32)), .val (.int (0 : Int32)), .val (.int e0_), .val (.int e1_), .val (.int e2_), .val (.ref key), .val .null, .val (.ref d), .unset, .unset] [(.int (0 : Int32))])) _
          refine XS.ifYes X14.here hx rfl (pc0 := 152) (pc' := 167) rfl (hb hby at_152) rfl ((if0 _ _).trans (flt (by decide : ¬ ((0 : Int32) < (0 : Int32)))).2.2.2) (by decide) (by decide) ?_
          show Steps p.tables e below (T14.setTop (mkF m 167 #[.val (.int p0), .val (.int p1), .val (.int p2), .val (.int p3), .val (.long q4), .second, .val (.int (0 : Int32)), .val (.int (0 : Int32)), .val (.int (0 : Int32)), .val (.int e0_), .val (.int e1_), .val (.int e2_), .val (.ref key), .val .null, .val (.ref d), .unset, .unset] [])) _
          refine XS.aload X14.here hx rfl (hb hby at_167) rfl rfl ?_
          exact kt
        obtain ⟨cq16, kq16, qv16a, qv16b, qv16c⟩ := isOf hZ rfl Ed
        obtain ⟨_, _, ⟨T16, L16, k16, n16⟩, -, X16, ⟨Lc16, hQ16, l16, y16, z16⟩, st16⟩ := X14.virtualBack hx (y := (⟨"com/example/imprimatur/imprimatur/verify/DeviceValues", "publicKey", "()[B"⟩ : MethodName)) (z := (⟨"com/example/imprimatur/imprimatur/verify/DeviceValues", "publicKey", "()[B"⟩ : MethodName)) hown (mvT hZ (hw _ (List.mem_of_getElem? (i := 47) rfl))) (mvT hZ (hw _ (List.mem_of_getElem? (i := 48) rfl))) (notFace_of_selects (args := #[]) (mvT hZ (hw _ (List.mem_of_getElem? (i := 50) rfl)))) (mvT hZ (hw _ (List.mem_of_getElem? (i := 50) rfl))) (mvT hZ (hw _ (List.mem_of_getElem? (i := 49) rfl))) (by decide) (backOf (W := 0) (rm_publicKey l Z a0 hw [] d c k8 (0 : Int32) [] T14.heap n0 Z_14 Fc Hc Ec (by decide)) hZ (hw _ (List.mem_of_getElem? (i := 51) rfl)) (hw _ (List.mem_of_getElem? (i := 3) rfl)) (by decide) (by decide)) qv16a qv16c (g := (mkF m 169 #[.val (.int p0), .val (.int p1), .val (.int p2), .val (.int p3), .val (.long q4), .second, .val (.int (0 : Int32)), .val (.int (0 : Int32)), .val (.int (0 : Int32)), .val (.int e0_), .val (.int e1_), .val (.int e2_), .val (.ref key), .val .null, .val (.ref d), .unset, .unset] [(.ref d)])) rfl (by rw [hml]; rfl) (Steps.refl _) (argsL := []) (rest := []) (lenOf pd_5 rfl) rfl (by show 2 * 0 + _ ≤ _; exact Nat.le_of_eq rfl) (hb hby at_169) (fun _ _ => ⟨rfl, rfl, (by decide : 4 + 1 ≤ _), (by decide : 8 + 3 ≤ _)⟩)
        dsimp only [Pt.U, Pt.locs, Pt.cells, Pt.slots] at X16 l16 y16 z16 st16 hQ16
        subst l16 y16 z16
        obtain ⟨c2_16, rfl, Nq16, K16, sz16, Hr1, Er1⟩ := hQ16
        have N16 := Fr.app N14 Nq16
        have g_c2_16 : n0 ≤ c2_16 := Nat.le_trans Z_14 sz16
        have ne_key_c2_16 : key ≠ c2_16 := Nat.ne_of_lt (Nat.lt_of_lt_of_le Hh_key_14.lt sz16)
        have ne_d_c2_16 : d ≠ c2_16 := Nat.ne_of_lt (Nat.lt_of_lt_of_le Ed.lt sz16)
        have ne_t12_c2_16 : t12 ≠ c2_16 := Nat.ne_of_lt (Nat.lt_of_lt_of_le Et12_14.lt sz16)
        have ne_c_c2_16 : c ≠ c2_16 := Nat.ne_of_lt (Nat.lt_of_lt_of_le Hc.lt sz16)
        have Od_16 := Od_14.keep K16 (all0)
        have Hh_key_16 := Hh_key_14.keep K16 nin0
        have Ex8_16 := Ex8_14.keep K16
        have Ed_16 := Ed.keep K16
        have Et12_16 := Et12_14.keep K16
        have Fc_16 := Fc.keep K16 nin0
        have Hc_16 := Hc.keep K16 nin0
        have Ec_16 := Ec.keep K16
        have Z_16 : n0 ≤ T16.heap.size := Nat.le_trans Z_14 K16.1
        have st17 : ∀ target, Steps p.tables e below (T16.setTop (mkF m 200 #[.val (.int p0), .val (.int p1), .val (.int p2), .val (.int p3), .val (.long q4), .second, .val (.int (0 : Int32)), .val (.int (0 : Int32)), .val (.int (0 : Int32)), .val (.int e0_), .val (.int e1_), .val (.int e2_), .val (.ref key), .val .null, .val (.ref d), .val (.ref c2_16), .unset] [(.int e2_), (.int e1_), (.int e0_), (.int (0 : Int32)), (.ref c2_16)])) target → Steps p.tables e below (T16.setTop (mkF m 172 #[.val (.int p0), .val (.int p1), .val (.int p2), .val (.int p3), .val (.long q4), .second, .val (.int (0 : Int32)), .val (.int (0 : Int32)), .val (.int (0 : Int32)), .val (.int e0_), .val (.int e1_), .val (.int e2_), .val (.ref key), .val .null, .val (.ref d), .unset, .unset] [(.ref c2_16)])) target := by
          intro target kt
          show Steps p.tables e below (T16.setTop (mkF m 172 #[.val (.int p0), .val (.int p1), .val (.int p2), .val (.int p3), .val (.long q4), .second, .val (.int (0 : Int32)), .val (.int (0 : Int32)), .val (.int (0 : Int32)), .val (.int e0_), .val (.int e1_), .val (.int e2_), .val (.ref key), .val .null, .val (.ref d), .unset, .unset] [(.ref c2_16)])) _
          refine XS.astore X16.here hx rfl (hb hby at_172) rfl rfl (l' := #[.val (.int p0), .val (.int p1), .val (.int p2), .val (.int p3), .val (.long q4), .second, .val (.int (0 : Int32)), .val (.int (0 : Int32)), .val (.int (0 : Int32)), .val (.int e0_), .val (.int e1_), .val (.int e2_), .val (.ref key), .val .null, .val (.ref d), .val (.ref c2_16), .unset]) rfl ?_
          show Steps p.tables e below (T16.setTop (mkF m 174 #[.val (.int p0), .val (.int p1), .val (.int p2), .val (.int p3), .val (.long q4), .second, .val (.int (0 : Int32)), .val (.int (0 : Int32)), .val (.int (0 : Int32)), .val (.int e0_), .val (.int e1_), .val (.int e2_), .val (.ref key), .val .null, .val (.ref d), .val (.ref c2_16), .unset] [])) _
          refine XS.iload X16.here hx rfl (hb hby at_174) rfl ?_
          show Steps p.tables e below (T16.setTop (mkF m 176 #[.val (.int p0), .val (.int p1), .val (.int p2), .val (.int p3), .val (.long q4), .second, .val (.int (0 : Int32)), .val (.int (0 : Int32)), .val (.int (0 : Int32)), .val (.int e0_), .val (.int e1_), .val (.int e2_), .val (.ref key), .val .null, .val (.ref d), .val (.ref c2_16), .unset] [(.int (0 : Int32))])) _
          refine XS.ifYes X16.here hx rfl (pc0 := 176) (pc' := 190) rfl (hb hby at_176) rfl ((if0 _ _).trans (teq (rfl : (0 : Int32) = (0 : Int32))).1) (by decide) (by decide) ?_
          show Steps p.tables e below (T16.setTop (mkF m 190 #[.val (.int p0), .val (.int p1), .val (.int p2), .val (.int p3), .val (.long q4), .second, .val (.int (0 : Int32)), .val (.int (0 : Int32)), .val (.int (0 : Int32)), .val (.int e0_), .val (.int e1_), .val (.int e2_), .val (.ref key), .val .null, .val (.ref d), .val (.ref c2_16), .unset] [])) _
          refine XS.aload X16.here hx rfl (hb hby at_190) rfl rfl ?_
          show Steps p.tables e below (T16.setTop (mkF m 192 #[.val (.int p0), .val (.int p1), .val (.int p2), .val (.int p3), .val (.long q4), .second, .val (.int (0 : Int32)), .val (.int (0 : Int32)), .val (.int (0 : Int32)), .val (.int e0_), .val (.int e1_), .val (.int e2_), .val (.ref key), .val .null, .val (.ref d), .val (.ref c2_16), .unset] [(.ref c2_16)])) _
          refine XS.iload X16.here hx rfl (hb hby at_192) rfl ?_
          show Steps p.tables e below (T16.setTop (mkF m 194 #[.val (.int p0), .val (.int p1), .val (.int p2), .val (.int p3), .val (.long q4), .second, .val (.int (0 : Int32)), .val (.int (0 : Int32)), .val (.int (0 : Int32)), .val (.int e0_), .val (.int e1_), .val (.int e2_), .val (.ref key), .val .null, .val (.ref d), .val (.ref c2_16), .unset] [(.int (0 : Int32)), (.ref c2_16)])) _
          refine XS.iload X16.here hx rfl (hb hby at_194) rfl ?_
          show Steps p.tables e below (T16.setTop (mkF m 196 #[.val (.int p0), .val (.int p1), .val (.int p2), .val (.int p3), .val (.long q4), .second, .val (.int (0 : Int32)), .val (.int (0 : Int32)), .val (.int (0 : Int32)), .val (.int e0_), .val (.int e1_), .val (.int e2_), .val (.ref key), .val .null, .val (.ref d), .val (.ref c2_16), .unset] [(.int e0_), (.int (0 : Int32)), (.ref c2_16)])) _
          refine XS.iload X16.here hx rfl (hb hby at_196) rfl ?_
          show Steps p.tables e below (T16.setTop (mkF m 198 #[.val (.int p0), .val (.int p1), .val (.int p2), .val (.int p3), .val (.long q4), .second, .val (.int (0 : Int32)), .val (.int (0 : Int32)), .val (.int (0 : Int32)), .val (.int e0_), .val (.int e1_), .val (.int e2_), .val (.ref key), .val .null, .val (.ref d), .val (.ref c2_16), .unset] [(.int e1_), (.int e0_), (.int (0 : Int32)), (.ref c2_16)])) _
          refine XS.iload X16.here hx rfl (hb hby at_198) rfl ?_
          exact kt
        obtain ⟨_, _, ⟨T18, L18, k18, n18⟩, -, X18, ⟨Lc18, hQ18, l18, y18, z18⟩, st18⟩ := Jvm.LawKit.callS X16 hx (y := (⟨"com/example/imprimatur/imprimatur/verify/DeviceValuesPublicKeyPinLaw", "same", "([BIBBB)Z"⟩ : MethodName)) hown (mvT hZ (hw _ (List.mem_of_getElem? (i := 52) rfl))) (mvT hZ (hw _ (List.mem_of_getElem? (i := 53) rfl))) (mvT hZ (hw _ (List.mem_of_getElem? (i := 54) rfl))) (mvT hZ (hw _ (List.mem_of_getElem? (i := 55) rfl))) (by decide) (backOf (W := 0) (rmS0 l Z a0 hw [] c2_16 e0_ e1_ e2_ k8 [] T16.heap n0 Z_16 Hr1) hZ (hw _ (List.mem_of_getElem? (i := 55) rfl)) (hw _ (List.mem_of_getElem? (i := 54) rfl)) (by decide) (by decide)) (g := (mkF m 200 #[.val (.int p0), .val (.int p1), .val (.int p2), .val (.int p3), .val (.long q4), .second, .val (.int (0 : Int32)), .val (.int (0 : Int32)), .val (.int (0 : Int32)), .val (.int e0_), .val (.int e1_), .val (.int e2_), .val (.ref key), .val .null, .val (.ref d), .val (.ref c2_16), .unset] [(.int e2_), (.int e1_), (.int e0_), (.int (0 : Int32)), (.ref c2_16)])) rfl (by rw [hml]; rfl) (argsL := [(.ref c2_16), (.int (0 : Int32)), (.int e0_), (.int e1_), (.int e2_)]) (rest := []) (lenOf pd_6 rfl) rfl (by show 2 * 0 + _ ≤ _; exact Nat.le_of_eq rfl) (hb hby at_200) (fun _ _ => ⟨rfl, rfl, (by decide : 5 + 0 ≤ _), (by decide : 11 + 0 ≤ _)⟩)
        dsimp only [Pt.U, Pt.locs, Pt.cells, Pt.slots] at X18 l18 y18 z18 st18 hQ18
        subst l18 y18 z18
        obtain ⟨rfl, Nq18, e18⟩ := hQ18
        have N18 := Fr.app N16 Nq18
        have st19 : ∀ target, Steps p.tables e below (T18.setTop (mkF m 226 #[.val (.int p0), .val (.int p1), .val (.int p2), .val (.int p3), .val (.long q4), .second, .val (.int (0 : Int32)), .val (.int (0 : Int32)), .val (.int (0 : Int32)), .val (.int e0_), .val (.int e1_), .val (.int e2_), .val (.ref key), .val .null, .val (.ref d), .val (.ref c2_16), .unset] [(.ref d)])) target → Steps p.tables e below (T18.setTop (mkF m 203 #[.val (.int p0), .val (.int p1), .val (.int p2), .val (.int p3), .val (.long q4), .second, .val (.int (0 : Int32)), .val (.int (0 : Int32)), .val (.int (0 : Int32)), .val (.int e0_), .val (.int e1_), .val (.int e2_), .val (.ref key), .val .null, .val (.ref d), .val (.ref c2_16), .unset] [(.int (1 : Int32))])) target := by
          intro target kt
          show Steps p.tables e below (T18.setTop (mkF m 203 #[.val (.int p0), .val (.int p1), .val (.int p2), .val (.int p3), .val (.long q4), .second, .val (.int (0 : Int32)), .val (.int (0 : Int32)), .val (.int (0 : Int32)), .val (.int e0_), .val (.int e1_), .val (.int e2_), .val (.ref key), .val .null, .val (.ref d), .val (.ref c2_16), .unset] [(.int (1 : Int32))])) _
          refine XS.ifYes X18.here hx rfl (pc0 := 203) (pc' := 208) rfl (hb hby at_203) rfl ((if0 _ _).trans (feq (by decide : ¬ ((1 : Int32) = (0 : Int32)))).2) (by decide) (by decide) ?_
          show Steps p.tables e below (T18.setTop (mkF m 208 #[.val (.int p0), .val (.int p1), .val (.int p2), .val (.int p3), .val (.long q4), .second, .val (.int (0 : Int32)), .val (.int (0 : Int32)), .val (.int (0 : Int32)), .val (.int e0_), .val (.int e1_), .val (.int e2_), .val (.ref key), .val .null, .val (.ref d), .val (.ref c2_16), .unset] [])) _
          refine XS.iload X18.here hx rfl (hb hby at_208) rfl ?_
          show Steps p.tables e below (T18.setTop (mkF m 210 #[.val (.int p0), .val (.int p1), .val (.int p2), .val (.int p3), .val (.long q4), .second, .val (.int (0 : Int32)), .val (.int (0 : Int32)), .val (.int (0 : Int32)), .val (.int e0_), .val (.int e1_), .val (.int e2_), .val (.ref key), .val .null, .val (.ref d), .val (.ref c2_16), .unset] [(.int (0 : Int32))])) _
          refine XS.ifYes X18.here hx rfl (pc0 := 210) (pc' := 224) rfl (hb hby at_210) rfl ((if0 _ _).trans (flt (by decide : ¬ ((0 : Int32) < (0 : Int32)))).2.2.2) (by decide) (by decide) ?_
          show Steps p.tables e below (T18.setTop (mkF m 224 #[.val (.int p0), .val (.int p1), .val (.int p2), .val (.int p3), .val (.long q4), .second, .val (.int (0 : Int32)), .val (.int (0 : Int32)), .val (.int (0 : Int32)), .val (.int e0_), .val (.int e1_), .val (.int e2_), .val (.ref key), .val .null, .val (.ref d), .val (.ref c2_16), .unset] [])) _
          refine XS.aload X18.here hx rfl (hb hby at_224) rfl rfl ?_
          exact kt
        obtain ⟨cq20, kq20, qv20a, qv20b, qv20c⟩ := isOf hZ e18 Ed_16
        obtain ⟨_, _, ⟨T20, L20, k20, n20⟩, -, X20, ⟨Lc20, hQ20, l20, y20, z20⟩, st20⟩ := X18.virtualBack hx (y := (⟨"com/example/imprimatur/imprimatur/verify/DeviceValues", "publicKey", "()[B"⟩ : MethodName)) (z := (⟨"com/example/imprimatur/imprimatur/verify/DeviceValues", "publicKey", "()[B"⟩ : MethodName)) hown (mvT hZ (hw _ (List.mem_of_getElem? (i := 47) rfl))) (mvT hZ (hw _ (List.mem_of_getElem? (i := 48) rfl))) (notFace_of_selects (args := #[]) (mvT hZ (hw _ (List.mem_of_getElem? (i := 50) rfl)))) (mvT hZ (hw _ (List.mem_of_getElem? (i := 50) rfl))) (mvT hZ (hw _ (List.mem_of_getElem? (i := 49) rfl))) (by decide) (backOf (W := 0) (rm_publicKey l Z a0 hw [] d c k8 (0 : Int32) [] T16.heap n0 Z_16 Fc_16 Hc_16 Ec_16 (by decide)) hZ (hw _ (List.mem_of_getElem? (i := 51) rfl)) (hw _ (List.mem_of_getElem? (i := 3) rfl)) (by decide) (by decide)) qv20a qv20c (g := (mkF m 226 #[.val (.int p0), .val (.int p1), .val (.int p2), .val (.int p3), .val (.long q4), .second, .val (.int (0 : Int32)), .val (.int (0 : Int32)), .val (.int (0 : Int32)), .val (.int e0_), .val (.int e1_), .val (.int e2_), .val (.ref key), .val .null, .val (.ref d), .val (.ref c2_16), .unset] [(.ref d)])) rfl (by rw [hml]; rfl) (Steps.refl _) (argsL := []) (rest := []) (lenOf pd_5 rfl) rfl (by show 2 * 0 + _ ≤ _; exact Nat.le_of_eq rfl) (hb hby at_226) (fun _ _ => ⟨rfl, e18, (by decide : 5 + 1 ≤ _), (by decide : 11 + 3 ≤ _)⟩)
        dsimp only [Pt.U, Pt.locs, Pt.cells, Pt.slots] at X20 l20 y20 z20 st20 hQ20
        subst l20 y20 z20
        obtain ⟨c2_20, rfl, Nq20, K20, sz20, Hr2, Er2⟩ := hQ20
        have N20 := Fr.app N18 Nq20
        have g_c2_20 : n0 ≤ c2_20 := Nat.le_trans Z_16 sz20
        have ne_key_c2_20 : key ≠ c2_20 := Nat.ne_of_lt (Nat.lt_of_lt_of_le Hh_key_16.lt sz20)
        have ne_d_c2_20 : d ≠ c2_20 := Nat.ne_of_lt (Nat.lt_of_lt_of_le Ed_16.lt sz20)
        have ne_t12_c2_20 : t12 ≠ c2_20 := Nat.ne_of_lt (Nat.lt_of_lt_of_le Et12_16.lt sz20)
        have ne_c_c2_20 : c ≠ c2_20 := Nat.ne_of_lt (Nat.lt_of_lt_of_le Hc_16.lt sz20)
        have ne_c2_16_c2_20 : c2_16 ≠ c2_20 := Nat.ne_of_lt (Nat.lt_of_lt_of_le Hr1.lt sz20)
        have Od_20 := Od_16.keep K20 (all0)
        have Hh_key_20 := Hh_key_16.keep K20 nin0
        have Ex8_20 := Ex8_16.keep K20
        have Ed_20 := Ed_16.keep K20
        have Et12_20 := Et12_16.keep K20
        have Fc_20 := Fc_16.keep K20 nin0
        have Hc_20 := Hc_16.keep K20 nin0
        have Ec_20 := Ec_16.keep K20
        have Hr1_20 := Hr1.keep K20 nin0
        have Er1_20 := Er1.keep K20
        have Z_20 : n0 ≤ T20.heap.size := Nat.le_trans Z_16 K20.1
        have st21 : ∀ target, Steps p.tables e below (T20.setTop (mkF m 241 #[.val (.int p0), .val (.int p1), .val (.int p2), .val (.int p3), .val (.long q4), .second, .val (.int (0 : Int32)), .val (.int (0 : Int32)), .val (.int (0 : Int32)), .val (.int e0_), .val (.int e1_), .val (.int e2_), .val (.ref key), .val .null, .val (.ref d), .val (.ref c2_16), .val (.ref c2_20)] [(.int e2_), (.int e1_), (.int e0_), (.int (0 : Int32)), (.ref c2_20)])) target → Steps p.tables e below (T20.setTop (mkF m 229 #[.val (.int p0), .val (.int p1), .val (.int p2), .val (.int p3), .val (.long q4), .second, .val (.int (0 : Int32)), .val (.int (0 : Int32)), .val (.int (0 : Int32)), .val (.int e0_), .val (.int e1_), .val (.int e2_), .val (.ref key), .val .null, .val (.ref d), .val (.ref c2_16), .unset] [(.ref c2_20)])) target := by
          intro target kt
          show Steps p.tables e below (T20.setTop (mkF m 229 #[.val (.int p0), .val (.int p1), .val (.int p2), .val (.int p3), .val (.long q4), .second, .val (.int (0 : Int32)), .val (.int (0 : Int32)), .val (.int (0 : Int32)), .val (.int e0_), .val (.int e1_), .val (.int e2_), .val (.ref key), .val .null, .val (.ref d), .val (.ref c2_16), .unset] [(.ref c2_20)])) _
          refine XS.astore X20.here hx rfl (hb hby at_229) rfl rfl (l' := #[.val (.int p0), .val (.int p1), .val (.int p2), .val (.int p3), .val (.long q4), .second, .val (.int (0 : Int32)), .val (.int (0 : Int32)), .val (.int (0 : Int32)), .val (.int e0_), .val (.int e1_), .val (.int e2_), .val (.ref key), .val .null, .val (.ref d), .val (.ref c2_16), .val (.ref c2_20)]) rfl ?_
          show Steps p.tables e below (T20.setTop (mkF m 231 #[.val (.int p0), .val (.int p1), .val (.int p2), .val (.int p3), .val (.long q4), .second, .val (.int (0 : Int32)), .val (.int (0 : Int32)), .val (.int (0 : Int32)), .val (.int e0_), .val (.int e1_), .val (.int e2_), .val (.ref key), .val .null, .val (.ref d), .val (.ref c2_16), .val (.ref c2_20)] [])) _
          refine XS.aload X20.here hx rfl (hb hby at_231) rfl rfl ?_
          show Steps p.tables e below (T20.setTop (mkF m 233 #[.val (.int p0), .val (.int p1), .val (.int p2), .val (.int p3), .val (.long q4), .second, .val (.int (0 : Int32)), .val (.int (0 : Int32)), .val (.int (0 : Int32)), .val (.int e0_), .val (.int e1_), .val (.int e2_), .val (.ref key), .val .null, .val (.ref d), .val (.ref c2_16), .val (.ref c2_20)] [(.ref c2_20)])) _
          refine XS.iload X20.here hx rfl (hb hby at_233) rfl ?_
          show Steps p.tables e below (T20.setTop (mkF m 235 #[.val (.int p0), .val (.int p1), .val (.int p2), .val (.int p3), .val (.long q4), .second, .val (.int (0 : Int32)), .val (.int (0 : Int32)), .val (.int (0 : Int32)), .val (.int e0_), .val (.int e1_), .val (.int e2_), .val (.ref key), .val .null, .val (.ref d), .val (.ref c2_16), .val (.ref c2_20)] [(.int (0 : Int32)), (.ref c2_20)])) _
          refine XS.iload X20.here hx rfl (hb hby at_235) rfl ?_
          show Steps p.tables e below (T20.setTop (mkF m 237 #[.val (.int p0), .val (.int p1), .val (.int p2), .val (.int p3), .val (.long q4), .second, .val (.int (0 : Int32)), .val (.int (0 : Int32)), .val (.int (0 : Int32)), .val (.int e0_), .val (.int e1_), .val (.int e2_), .val (.ref key), .val .null, .val (.ref d), .val (.ref c2_16), .val (.ref c2_20)] [(.int e0_), (.int (0 : Int32)), (.ref c2_20)])) _
          refine XS.iload X20.here hx rfl (hb hby at_237) rfl ?_
          show Steps p.tables e below (T20.setTop (mkF m 239 #[.val (.int p0), .val (.int p1), .val (.int p2), .val (.int p3), .val (.long q4), .second, .val (.int (0 : Int32)), .val (.int (0 : Int32)), .val (.int (0 : Int32)), .val (.int e0_), .val (.int e1_), .val (.int e2_), .val (.ref key), .val .null, .val (.ref d), .val (.ref c2_16), .val (.ref c2_20)] [(.int e1_), (.int e0_), (.int (0 : Int32)), (.ref c2_20)])) _
          refine XS.iload X20.here hx rfl (hb hby at_239) rfl ?_
          exact kt
        obtain ⟨_, _, ⟨T22, L22, k22, n22⟩, -, X22, ⟨Lc22, hQ22, l22, y22, z22⟩, st22⟩ := Jvm.LawKit.callS X20 hx (y := (⟨"com/example/imprimatur/imprimatur/verify/DeviceValuesPublicKeyPinLaw", "same", "([BIBBB)Z"⟩ : MethodName)) hown (mvT hZ (hw _ (List.mem_of_getElem? (i := 52) rfl))) (mvT hZ (hw _ (List.mem_of_getElem? (i := 53) rfl))) (mvT hZ (hw _ (List.mem_of_getElem? (i := 54) rfl))) (mvT hZ (hw _ (List.mem_of_getElem? (i := 55) rfl))) (by decide) (backOf (W := 0) (rmS0 l Z a0 hw [] c2_20 e0_ e1_ e2_ k8 [] T20.heap n0 Z_20 Hr2) hZ (hw _ (List.mem_of_getElem? (i := 55) rfl)) (hw _ (List.mem_of_getElem? (i := 54) rfl)) (by decide) (by decide)) (g := (mkF m 241 #[.val (.int p0), .val (.int p1), .val (.int p2), .val (.int p3), .val (.long q4), .second, .val (.int (0 : Int32)), .val (.int (0 : Int32)), .val (.int (0 : Int32)), .val (.int e0_), .val (.int e1_), .val (.int e2_), .val (.ref key), .val .null, .val (.ref d), .val (.ref c2_16), .val (.ref c2_20)] [(.int e2_), (.int e1_), (.int e0_), (.int (0 : Int32)), (.ref c2_20)])) rfl (by rw [hml]; rfl) (argsL := [(.ref c2_20), (.int (0 : Int32)), (.int e0_), (.int e1_), (.int e2_)]) (rest := []) (lenOf pd_6 rfl) rfl (by show 2 * 0 + _ ≤ _; exact Nat.le_of_eq rfl) (hb hby at_241) (fun _ _ => ⟨rfl, rfl, (by decide : 6 + 0 ≤ _), (by decide : 14 + 0 ≤ _)⟩)
        dsimp only [Pt.U, Pt.locs, Pt.cells, Pt.slots] at X22 l22 y22 z22 st22 hQ22
        subst l22 y22 z22
        obtain ⟨rfl, Nq22, e22⟩ := hQ22
        have N22 := Fr.app N20 Nq22
        obtain ⟨fs, hr, hrun, hended, hW, hsame⟩ := X22.leave (v := some (.int (1 : Int32))) (fun h => by rw [Bd.returns] at h; cases h)
        refine ⟨_, _, pre0 _ (st1 _ (st2 _ (st3 _ (st4 _ (st5 _ (st6 _ (st7 _ (st8 _ (st9 _ (st10 _ (st11 _ (st12 _ (st13 _ (st14.trans (st15 _ (st16.trans (st17 _ (st18 _ (st19 _ (st20.trans (st21 _ (st22 _ ?_)))))))))))))))))))))), hrun, hended, _, _, rfl, ?_, ⟨_, rfl⟩, hW, hsame.mono (by decide) (by decide)⟩
        · show Steps p.tables e below (T22.setTop (mkF m 244 #[.val (.int p0), .val (.int p1), .val (.int p2), .val (.int p3), .val (.long q4), .second, .val (.int (0 : Int32)), .val (.int (0 : Int32)), .val (.int (0 : Int32)), .val (.int e0_), .val (.int e1_), .val (.int e2_), .val (.ref key), .val .null, .val (.ref d), .val (.ref c2_16), .val (.ref c2_20)] [(.int (1 : Int32))])) _
          exact retN X22 hx (t := .boolean) Bd.returns (by simp) (hb hby at_244) hr
        · show Q_rm0 Z p0 p1 p2 p3 q4 ca cc val h0 n0 _ T22.heap _
          rw [e22]
          exact ⟨rfl, N22⟩
      · have st23 : ∀ target, Steps p.tables e below (s₁.setTop (mkF m 55 #[.val (.int p0), .val (.int p1), .val (.int p2), .val (.int p3), .val (.long q4), .second, .val (.int (0 : Int32)), .val (.int (0 : Int32)), .val (.int (1 : Int32)), .val (.int e0_), .val (.int e1_), .val (.int e2_), .val .null, .unset, .unset, .unset, .unset] [(.int (1 : Int32))])) target → Steps p.tables e below (s₁.setTop (mkF m 45 #[.val (.int p0), .val (.int p1), .val (.int p2), .val (.int p3), .val (.long q4), .second, .val (.int (0 : Int32)), .val (.int (0 : Int32)), .val (.int (1 : Int32)), .val (.int e0_), .val (.int e1_), .val (.int e2_), .unset, .unset, .unset, .unset, .unset] [])) target := by
          intro target kt
          show Steps p.tables e below (s₁.setTop (mkF m 45 #[.val (.int p0), .val (.int p1), .val (.int p2), .val (.int p3), .val (.long q4), .second, .val (.int (0 : Int32)), .val (.int (0 : Int32)), .val (.int (1 : Int32)), .val (.int e0_), .val (.int e1_), .val (.int e2_), .unset, .unset, .unset, .unset, .unset] [])) _
          refine XS.aconstNull X0.here hx rfl (hb hby at_45) ?_
          show Steps p.tables e below (s₁.setTop (mkF m 46 #[.val (.int p0), .val (.int p1), .val (.int p2), .val (.int p3), .val (.long q4), .second, .val (.int (0 : Int32)), .val (.int (0 : Int32)), .val (.int (1 : Int32)), .val (.int e0_), .val (.int e1_), .val (.int e2_), .unset, .unset, .unset, .unset, .unset] [.null])) _
          refine XS.astore X0.here hx rfl (hb hby at_46) rfl rfl (l' := #[.val (.int p0), .val (.int p1), .val (.int p2), .val (.int p3), .val (.long q4), .second, .val (.int (0 : Int32)), .val (.int (0 : Int32)), .val (.int (1 : Int32)), .val (.int e0_), .val (.int e1_), .val (.int e2_), .val .null, .unset, .unset, .unset, .unset]) rfl ?_
          show Steps p.tables e below (s₁.setTop (mkF m 48 #[.val (.int p0), .val (.int p1), .val (.int p2), .val (.int p3), .val (.long q4), .second, .val (.int (0 : Int32)), .val (.int (0 : Int32)), .val (.int (1 : Int32)), .val (.int e0_), .val (.int e1_), .val (.int e2_), .val .null, .unset, .unset, .unset, .unset] [])) _
          refine XS.iload X0.here hx rfl (hb hby at_48) rfl ?_
          show Steps p.tables e below (s₁.setTop (mkF m 50 #[.val (.int p0), .val (.int p1), .val (.int p2), .val (.int p3), .val (.long q4), .second, .val (.int (0 : Int32)), .val (.int (0 : Int32)), .val (.int (1 : Int32)), .val (.int e0_), .val (.int e1_), .val (.int e2_), .val .null, .unset, .unset, .unset, .unset] [(.int (0 : Int32))])) _
          refine XS.ifNo X0.here hx rfl (hb hby at_50) rfl ((if0 _ _).trans (teq (rfl : (0 : Int32) = (0 : Int32))).2) ?_
          show Steps p.tables e below (s₁.setTop (mkF m 53 #[.val (.int p0), .val (.int p1), .val (.int p2), .val (.int p3), .val (.long q4), .second, .val (.int (0 : Int32)), .val (.int (0 : Int32)), .val (.int (1 : Int32)), .val (.int e0_), .val (.int e1_), .val (.int e2_), .val .null, .unset, .unset, .unset, .unset] [])) _
          refine XS.iload X0.here hx rfl (hb hby at_53) rfl ?_
          exact kt
        obtain ⟨T24, h24, k24, X24, e24, E24, A24, Ex24, st24⟩ := newPE X0 hx hZ (hw _ (List.mem_of_getElem? (i := 0) rfl)) e0 (g := (mkF m 55 #[.val (.int p0), .val (.int p1), .val (.int p2), .val (.int p3), .val (.long q4), .second, .val (.int (0 : Int32)), .val (.int (0 : Int32)), .val (.int (1 : Int32)), .val (.int e0_), .val (.int e1_), .val (.int e2_), .val .null, .unset, .unset, .unset, .unset] [(.int (1 : Int32))])) rfl (hb hby at_55) rfl (by decide) (cap := 1) (by decide) (by decide) (by decide) (by decide) (ad := "[B") (by decide)
        obtain ⟨key, g24⟩ : ∃ z, z = h0.size := ⟨_, rfl⟩
        rw [← g24] at A24 Ex24 st24
        have g_key : n0 ≤ key := Nat.le_trans Z0 (Nat.le_of_eq g24.symm)
        have Od_24 := Od.ext E24
        have Z_24 : n0 ≤ h24.size := Nat.le_trans Z0 E24.1
        have Hh_key : Arh Z h24 key k24 .byte (1 : Int32) [] [] (.int (0 : Int32)) := Arv.arh (Arv.new A24 (by decide))
        have st25 : ∀ target, Steps p.tables e below (T24.setTop (mkF m 69 #[.val (.int p0), .val (.int p1), .val (.int p2), .val (.int p3), .val (.long q4), .second, .val (.int (0 : Int32)), .val (.int (0 : Int32)), .val (.int (1 : Int32)), .val (.int e0_), .val (.int e1_), .val (.int e2_), .val (.ref key), .unset, .unset, .unset, .unset] [(.int e0_), (.int (0 : Int32)), (.ref key)])) target → Steps p.tables e below (T24.setTop (mkF m 57 #[.val (.int p0), .val (.int p1), .val (.int p2), .val (.int p3), .val (.long q4), .second, .val (.int (0 : Int32)), .val (.int (0 : Int32)), .val (.int (1 : Int32)), .val (.int e0_), .val (.int e1_), .val (.int e2_), .val .null, .unset, .unset, .unset, .unset] [(.ref key)])) target := by
          intro target kt
          show Steps p.tables e below (T24.setTop (mkF m 57 #[.val (.int p0), .val (.int p1), .val (.int p2), .val (.int p3), .val (.long q4), .second, .val (.int (0 : Int32)), .val (.int (0 : Int32)), .val (.int (1 : Int32)), .val (.int e0_), .val (.int e1_), .val (.int e2_), .val .null, .unset, .unset, .unset, .unset] [(.ref key)])) _
          refine XS.astore X24.here hx rfl (hb hby at_57) rfl rfl (l' := #[.val (.int p0), .val (.int p1), .val (.int p2), .val (.int p3), .val (.long q4), .second, .val (.int (0 : Int32)), .val (.int (0 : Int32)), .val (.int (1 : Int32)), .val (.int e0_), .val (.int e1_), .val (.int e2_), .val (.ref key), .unset, .unset, .unset, .unset]) rfl ?_
          show Steps p.tables e below (T24.setTop (mkF m 59 #[.val (.int p0), .val (.int p1), .val (.int p2), .val (.int p3), .val (.long q4), .second, .val (.int (0 : Int32)), .val (.int (0 : Int32)), .val (.int (1 : Int32)), .val (.int e0_), .val (.int e1_), .val (.int e2_), .val (.ref key), .unset, .unset, .unset, .unset] [])) _
          refine XS.iload X24.here hx rfl (hb hby at_59) rfl ?_
          show Steps p.tables e below (T24.setTop (mkF m 61 #[.val (.int p0), .val (.int p1), .val (.int p2), .val (.int p3), .val (.long q4), .second, .val (.int (0 : Int32)), .val (.int (0 : Int32)), .val (.int (1 : Int32)), .val (.int e0_), .val (.int e1_), .val (.int e2_), .val (.ref key), .unset, .unset, .unset, .unset] [(.int (1 : Int32))])) _
          refine XS.ifNo X24.here hx rfl (hb hby at_61) rfl ((if0 _ _).trans (tlt (by decide : ((0 : Int32) < (1 : Int32)))).2.2.2) ?_
          show Steps p.tables e below (T24.setTop (mkF m 64 #[.val (.int p0), .val (.int p1), .val (.int p2), .val (.int p3), .val (.long q4), .second, .val (.int (0 : Int32)), .val (.int (0 : Int32)), .val (.int (1 : Int32)), .val (.int e0_), .val (.int e1_), .val (.int e2_), .val (.ref key), .unset, .unset, .unset, .unset] [])) _
          refine XS.aload X24.here hx rfl (hb hby at_64) rfl rfl ?_
          show Steps p.tables e below (T24.setTop (mkF m 66 #[.val (.int p0), .val (.int p1), .val (.int p2), .val (.int p3), .val (.long q4), .second, .val (.int (0 : Int32)), .val (.int (0 : Int32)), .val (.int (1 : Int32)), .val (.int e0_), .val (.int e1_), .val (.int e2_), .val (.ref key), .unset, .unset, .unset, .unset] [(.ref key)])) _
          refine XS.iconst X24.here hx rfl (hb hby at_66) ?_
          show Steps p.tables e below (T24.setTop (mkF m 67 #[.val (.int p0), .val (.int p1), .val (.int p2), .val (.int p3), .val (.long q4), .second, .val (.int (0 : Int32)), .val (.int (0 : Int32)), .val (.int (1 : Int32)), .val (.int e0_), .val (.int e1_), .val (.int e2_), .val (.ref key), .unset, .unset, .unset, .unset] [(.int (0 : Int32)), (.ref key)])) _
          refine XS.iload X24.here hx rfl (hb hby at_67) rfl ?_
          exact kt
        obtain ⟨cl26, Ar26, qc26, Sz26, Mn26, Hs26, Gs26⟩ := id Hh_key
        have hin26 : ¬ ((0 : Int32) < 0 ∨ cl26.slots.size ≤ ((0 : Int32)).toNatClampNeg) := own_in Sz26 ⟨by decide, by decide⟩
        obtain ⟨T26, h26, X26, e26, W26, st26⟩ := stB X24 hx hZ e24 Ar26 (j := (0 : Int32)) hin26 (g := (mkF m 69 #[.val (.int p0), .val (.int p1), .val (.int p2), .val (.int p3), .val (.long q4), .second, .val (.int (0 : Int32)), .val (.int (0 : Int32)), .val (.int (1 : Int32)), .val (.int e0_), .val (.int e1_), .val (.int e2_), .val (.ref key), .unset, .unset, .unset, .unset] [(.int e0_), (.int (0 : Int32)), (.ref key)])) rfl rfl (hb hby at_69)
        have Hh_key_26 : Arh Z h26 key k24 .byte (1 : Int32) [((0 : Int32), (.int (nar .byte e0_)))] [] (.int (0 : Int32)) := Arh.push Ar26 qc26 Sz26 Mn26 Hs26 Gs26 (fits_nar_byte _) W26 hin26
        have Od_26 := Od_24.wr W26 g_key
        have Ex24_26 := Ex24.wr W26
        have Z_26 : n0 ≤ h26.size := Nat.le_trans Z_24 (Keep.of_wr W26).1
        have N26 := Fr.snoc X26 N0 g_key
        have Hk : Arh Z h26 key k24 .byte (1 : Int32) [((0 : Int32), (.int e0_))] [] (.int (0 : Int32)) := by have q := Hh_key_26; rw [ne0_] at q; exact q
        have st27 : ∀ target, Steps p.tables e below (T26.setTop (mkF m 126 #[.val (.int p0), .val (.int p1), .val (.int p2), .val (.int p3), .val (.long q4), .second, .val (.int (0 : Int32)), .val (.int (0 : Int32)), .val (.int (1 : Int32)), .val (.int e0_), .val (.int e1_), .val (.int e2_), .val (.ref key), .val .null, .unset, .unset, .unset] [])) target → Steps p.tables e below (T26.setTop (mkF m 70 #[.val (.int p0), .val (.int p1), .val (.int p2), .val (.int p3), .val (.long q4), .second, .val (.int (0 : Int32)), .val (.int (0 : Int32)), .val (.int (1 : Int32)), .val (.int e0_), .val (.int e1_), .val (.int e2_), .val (.ref key), .unset, .unset, .unset, .unset] [])) target := by
          intro target kt
          show Steps p.tables e below (T26.setTop (mkF m 70 #[.val (.int p0), .val (.int p1), .val (.int p2), .val (.int p3), .val (.long q4), .second, .val (.int (0 : Int32)), .val (.int (0 : Int32)), .val (.int (1 : Int32)), .val (.int e0_), .val (.int e1_), .val (.int e2_), .val (.ref key), .unset, .unset, .unset, .unset] [])) _
          refine XS.iload X26.here hx rfl (hb hby at_70) rfl ?_
          show Steps p.tables e below (T26.setTop (mkF m 72 #[.val (.int p0), .val (.int p1), .val (.int p2), .val (.int p3), .val (.long q4), .second, .val (.int (0 : Int32)), .val (.int (0 : Int32)), .val (.int (1 : Int32)), .val (.int e0_), .val (.int e1_), .val (.int e2_), .val (.ref key), .unset, .unset, .unset, .unset] [(.int (1 : Int32))])) _
          refine XS.iconst X26.here hx rfl (hb hby at_72) ?_
          show Steps p.tables e below (T26.setTop (mkF m 73 #[.val (.int p0), .val (.int p1), .val (.int p2), .val (.int p3), .val (.long q4), .second, .val (.int (0 : Int32)), .val (.int (0 : Int32)), .val (.int (1 : Int32)), .val (.int e0_), .val (.int e1_), .val (.int e2_), .val (.ref key), .unset, .unset, .unset, .unset] [(.int (1 : Int32)), (.int (1 : Int32))])) _
          refine XS.icmpYes X26.here hx rfl (pc0 := 73) (pc' := 82) rfl (hb hby at_73) rfl (flt (by decide : ¬ ((1 : Int32) < (1 : Int32)))).2.2.2 (by decide) (by decide) ?_
          show Steps p.tables e below (T26.setTop (mkF m 82 #[.val (.int p0), .val (.int p1), .val (.int p2), .val (.int p3), .val (.long q4), .second, .val (.int (0 : Int32)), .val (.int (0 : Int32)), .val (.int (1 : Int32)), .val (.int e0_), .val (.int e1_), .val (.int e2_), .val (.ref key), .unset, .unset, .unset, .unset] [])) _
          refine XS.iload X26.here hx rfl (hb hby at_82) rfl ?_
          show Steps p.tables e below (T26.setTop (mkF m 84 #[.val (.int p0), .val (.int p1), .val (.int p2), .val (.int p3), .val (.long q4), .second, .val (.int (0 : Int32)), .val (.int (0 : Int32)), .val (.int (1 : Int32)), .val (.int e0_), .val (.int e1_), .val (.int e2_), .val (.ref key), .unset, .unset, .unset, .unset] [(.int (1 : Int32))])) _
          refine XS.iconst X26.here hx rfl (hb hby at_84) ?_
          show Steps p.tables e below (T26.setTop (mkF m 85 #[.val (.int p0), .val (.int p1), .val (.int p2), .val (.int p3), .val (.long q4), .second, .val (.int (0 : Int32)), .val (.int (0 : Int32)), .val (.int (1 : Int32)), .val (.int e0_), .val (.int e1_), .val (.int e2_), .val (.ref key), .unset, .unset, .unset, .unset] [(.int (2 : Int32)), (.int (1 : Int32))])) _
          refine XS.icmpYes X26.here hx rfl (pc0 := 85) (pc' := 94) rfl (hb hby at_85) rfl (flt (by decide : ¬ ((2 : Int32) < (1 : Int32)))).2.2.2 (by decide) (by decide) ?_
          show Steps p.tables e below (T26.setTop (mkF m 94 #[.val (.int p0), .val (.int p1), .val (.int p2), .val (.int p3), .val (.long q4), .second, .val (.int (0 : Int32)), .val (.int (0 : Int32)), .val (.int (1 : Int32)), .val (.int e0_), .val (.int e1_), .val (.int e2_), .val (.ref key), .unset, .unset, .unset, .unset] [])) _
          refine XS.aconstNull X26.here hx rfl (hb hby at_94) ?_
          show Steps p.tables e below (T26.setTop (mkF m 95 #[.val (.int p0), .val (.int p1), .val (.int p2), .val (.int p3), .val (.long q4), .second, .val (.int (0 : Int32)), .val (.int (0 : Int32)), .val (.int (1 : Int32)), .val (.int e0_), .val (.int e1_), .val (.int e2_), .val (.ref key), .unset, .unset, .unset, .unset] [.null])) _
          refine XS.astore X26.here hx rfl (hb hby at_95) rfl rfl (l' := #[.val (.int p0), .val (.int p1), .val (.int p2), .val (.int p3), .val (.long q4), .second, .val (.int (0 : Int32)), .val (.int (0 : Int32)), .val (.int (1 : Int32)), .val (.int e0_), .val (.int e1_), .val (.int e2_), .val (.ref key), .val .null, .unset, .unset, .unset]) rfl ?_
          show Steps p.tables e below (T26.setTop (mkF m 97 #[.val (.int p0), .val (.int p1), .val (.int p2), .val (.int p3), .val (.long q4), .second, .val (.int (0 : Int32)), .val (.int (0 : Int32)), .val (.int (1 : Int32)), .val (.int e0_), .val (.int e1_), .val (.int e2_), .val (.ref key), .val .null, .unset, .unset, .unset] [])) _
          refine XS.iload X26.here hx rfl (hb hby at_97) rfl ?_
          show Steps p.tables e below (T26.setTop (mkF m 99 #[.val (.int p0), .val (.int p1), .val (.int p2), .val (.int p3), .val (.long q4), .second, .val (.int (0 : Int32)), .val (.int (0 : Int32)), .val (.int (1 : Int32)), .val (.int e0_), .val (.int e1_), .val (.int e2_), .val (.ref key), .val .null, .unset, .unset, .unset] [(.int (0 : Int32))])) _
          refine XS.ifYes X26.here hx rfl (pc0 := 99) (pc' := 126) rfl (hb hby at_99) rfl ((if0 _ _).trans (teq (rfl : (0 : Int32) = (0 : Int32))).1) (by decide) (by decide) ?_
          exact kt
        obtain ⟨T28, h28, X28, e28, E28, A28, D28, -, st28⟩ := newO X26 hx hZ hown (hw _ (List.mem_of_getElem? (i := 1) rfl)) (hw _ (List.mem_of_getElem? (i := 2) rfl)) (hw _ (List.mem_of_getElem? (i := 3) rfl)) e26 (g := (mkF m 126 #[.val (.int p0), .val (.int p1), .val (.int p2), .val (.int p3), .val (.long q4), .second, .val (.int (0 : Int32)), .val (.int (0 : Int32)), .val (.int (1 : Int32)), .val (.int e0_), .val (.int e1_), .val (.int e2_), .val (.ref key), .val .null, .unset, .unset, .unset] [])) rfl (hb hby at_126) (by decide) (by decide)
        obtain ⟨d, g28⟩ : ∃ z, z = h26.size := ⟨_, rfl⟩
        rw [← g28] at A28 D28 st28
        have g_d : n0 ≤ d := Nat.le_trans Z_26 (Nat.le_of_eq g28.symm)
        have ne_key_d : key ≠ d := Nat.ne_of_lt (Nat.lt_of_lt_of_le Ex24_26.lt (Nat.le_of_eq g28.symm))
        have Od_28 := Od_26.ext E28
        have Ex24_28 := Ex24_26.ext E28
        have Hk_28 := Hk.ext E28
        have Z_28 : n0 ≤ h28.size := Nat.le_trans Z_26 E28.1
        have E_d : Exa Z h28 d "com/example/imprimatur/imprimatur/verify/DeviceValues" := A28
        have F_pkHash_d : Fld Z h28 d "com/example/imprimatur/imprimatur/verify/DeviceValues" "pkHash" "[B" .null := D28 (Or.inr (hw _ (List.mem_of_getElem? (i := 31) rfl))) (ty := (.array .byte)) (by decide)
        have F_hwId_d : Fld Z h28 d "com/example/imprimatur/imprimatur/verify/DeviceValues" "hwId" "Ljava/lang/Long;" .null := D28 (Or.inr (hw _ (List.mem_of_getElem? (i := 33) rfl))) (ty := (.object "java/lang/Long")) (by decide)
        have F_swId_d : Fld Z h28 d "com/example/imprimatur/imprimatur/verify/DeviceValues" "swId" "Ljava/lang/Long;" .null := D28 (Or.inr (hw _ (List.mem_of_getElem? (i := 35) rfl))) (ty := (.object "java/lang/Long")) (by decide)
        have F_publicKey_d : Fld Z h28 d "com/example/imprimatur/imprimatur/verify/DeviceValues" "publicKey" "[B" .null := D28 (Or.inr (hw _ (List.mem_of_getElem? (i := 46) rfl))) (ty := (.array .byte)) (by decide)
        have st29 : ∀ target, Steps p.tables e below (T28.setTop (mkF m 134 #[.val (.int p0), .val (.int p1), .val (.int p2), .val (.int p3), .val (.long q4), .second, .val (.int (0 : Int32)), .val (.int (0 : Int32)), .val (.int (1 : Int32)), .val (.int e0_), .val (.int e1_), .val (.int e2_), .val (.ref key), .val .null, .unset, .unset, .unset] [(.long q4), .null, (.ref d), (.ref d)])) target → Steps p.tables e below (T28.setTop (mkF m 129 #[.val (.int p0), .val (.int p1), .val (.int p2), .val (.int p3), .val (.long q4), .second, .val (.int (0 : Int32)), .val (.int (0 : Int32)), .val (.int (1 : Int32)), .val (.int e0_), .val (.int e1_), .val (.int e2_), .val (.ref key), .val .null, .unset, .unset, .unset] [(.ref d)])) target := by
          intro target kt
          show Steps p.tables e below (T28.setTop (mkF m 129 #[.val (.int p0), .val (.int p1), .val (.int p2), .val (.int p3), .val (.long q4), .second, .val (.int (0 : Int32)), .val (.int (0 : Int32)), .val (.int (1 : Int32)), .val (.int e0_), .val (.int e1_), .val (.int e2_), .val (.ref key), .val .null, .unset, .unset, .unset] [(.ref d)])) _
          refine XS.dup X28.here hx rfl (hb hby at_129) rfl rfl ?_
          show Steps p.tables e below (T28.setTop (mkF m 130 #[.val (.int p0), .val (.int p1), .val (.int p2), .val (.int p3), .val (.long q4), .second, .val (.int (0 : Int32)), .val (.int (0 : Int32)), .val (.int (1 : Int32)), .val (.int e0_), .val (.int e1_), .val (.int e2_), .val (.ref key), .val .null, .unset, .unset, .unset] [(.ref d), (.ref d)])) _
          refine XS.aload X28.here hx rfl (hb hby at_130) rfl rfl ?_
          show Steps p.tables e below (T28.setTop (mkF m 132 #[.val (.int p0), .val (.int p1), .val (.int p2), .val (.int p3), .val (.long q4), .second, .val (.int (0 : Int32)), .val (.int (0 : Int32)), .val (.int (1 : Int32)), .val (.int e0_), .val (.int e1_), .val (.int e2_), .val (.ref key), .val .null, .unset, .unset, .unset] [.null, (.ref d), (.ref d)])) _
          refine XS.lload X28.here hx rfl (hb hby at_132) rfl ?_
          exact kt
        obtain ⟨_, _, ⟨T30, L30, k30, n30⟩, -, X30, ⟨Lc30, hQ30, l30, y30, z30⟩, st30⟩ := Jvm.LawKit.callS X28 hx (y := (⟨"java/lang/Long", "valueOf", "(J)Ljava/lang/Long;"⟩ : MethodName)) hown (mvT hZ (hw _ (List.mem_of_getElem? (i := 4) rfl))) (mvT hZ (hw _ (List.mem_of_getElem? (i := 5) rfl))) (mvT hZ (hw _ (List.mem_of_getElem? (i := 6) rfl))) (mvT hZ (hw _ (List.mem_of_getElem? (i := 7) rfl))) (by decide) (backOf (W := 3) (rm1 l Z a0 hw [] q4 ca cc val h28 n0 Z_28 Bx Od_28 S_c) hZ (hw _ (List.mem_of_getElem? (i := 7) rfl)) (hw _ (List.mem_of_getElem? (i := 6) rfl)) (by decide) (by decide)) (g := (mkF m 134 #[.val (.int p0), .val (.int p1), .val (.int p2), .val (.int p3), .val (.long q4), .second, .val (.int (0 : Int32)), .val (.int (0 : Int32)), .val (.int (1 : Int32)), .val (.int e0_), .val (.int e1_), .val (.int e2_), .val (.ref key), .val .null, .unset, .unset, .unset] [(.long q4), .null, (.ref d), (.ref d)])) rfl (by rw [hml]; rfl) (argsL := [(.long q4)]) (rest := [.null, (.ref d), (.ref d)]) (lenOf pd_0 rfl) rfl (by show 2 * 0 + _ ≤ _; exact Nat.le_of_eq rfl) (hb hby at_134) (fun _ _ => ⟨rfl, e28, (by decide : 2 + 1 ≤ _), (by decide : 5 + 1 ≤ _)⟩)
        dsimp only [Pt.U, Pt.locs, Pt.cells, Pt.slots] at X30 l30 y30 z30 st30 hQ30
        subst l30 y30 z30
        obtain ⟨t30, rfl, Nq30, K30, Et30⟩ := hQ30
        have N30 := Fr.app N26 Nq30
        have Od_30 := Od_28.keep K30 (all0)
        have Ex24_30 := Ex24_28.keep K30
        have Hk_30 := Hk_28.keep K30 nin0
        have E_d_30 := E_d.keep K30
        have F_pkHash_d_30 := F_pkHash_d.keep K30 nin0
        have F_hwId_d_30 := F_hwId_d.keep K30 nin0
        have F_swId_d_30 := F_swId_d.keep K30 nin0
        have F_publicKey_d_30 := F_publicKey_d.keep K30 nin0
        have Z_30 : n0 ≤ T30.heap.size := Nat.le_trans Z_28 K30.1
        have st31 : ∀ target, Steps p.tables e below (T30.setTop (mkF m 140 #[.val (.int p0), .val (.int p1), .val (.int p2), .val (.int p3), .val (.long q4), .second, .val (.int (0 : Int32)), .val (.int (0 : Int32)), .val (.int (1 : Int32)), .val (.int e0_), .val (.int e1_), .val (.int e2_), .val (.ref key), .val .null, .unset, .unset, .unset] [(.ref key), .null, (.ref t30), .null, (.ref d), (.ref d)])) target → Steps p.tables e below (T30.setTop (mkF m 137 #[.val (.int p0), .val (.int p1), .val (.int p2), .val (.int p3), .val (.long q4), .second, .val (.int (0 : Int32)), .val (.int (0 : Int32)), .val (.int (1 : Int32)), .val (.int e0_), .val (.int e1_), .val (.int e2_), .val (.ref key), .val .null, .unset, .unset, .unset] [(.ref t30), .null, (.ref d), (.ref d)])) target := by
          intro target kt
          show Steps p.tables e below (T30.setTop (mkF m 137 #[.val (.int p0), .val (.int p1), .val (.int p2), .val (.int p3), .val (.long q4), .second, .val (.int (0 : Int32)), .val (.int (0 : Int32)), .val (.int (1 : Int32)), .val (.int e0_), .val (.int e1_), .val (.int e2_), .val (.ref key), .val .null, .unset, .unset, .unset] [(.ref t30), .null, (.ref d), (.ref d)])) _
          refine XS.aconstNull X30.here hx rfl (hb hby at_137) ?_
          show Steps p.tables e below (T30.setTop (mkF m 138 #[.val (.int p0), .val (.int p1), .val (.int p2), .val (.int p3), .val (.long q4), .second, .val (.int (0 : Int32)), .val (.int (0 : Int32)), .val (.int (1 : Int32)), .val (.int e0_), .val (.int e1_), .val (.int e2_), .val (.ref key), .val .null, .unset, .unset, .unset] [.null, (.ref t30), .null, (.ref d), (.ref d)])) _
          refine XS.aload X30.here hx rfl (hb hby at_138) rfl rfl ?_
          exact kt
        obtain ⟨_, _, ⟨T32, L32, k32, n32⟩, -, X32, ⟨Lc32, hQ32, l32, y32, z32⟩, st32⟩ := X30.specialBack hx (y := (⟨"com/example/imprimatur/imprimatur/verify/DeviceValues", "<init>", "([BLjava/lang/Long;Ljava/lang/Long;[B)V"⟩ : MethodName)) rfl hown (mvT hZ (hw _ (List.mem_of_getElem? (i := 26) rfl))) (mvT hZ (hw _ (List.mem_of_getElem? (i := 27) rfl))) (mvT hZ (hw _ (List.mem_of_getElem? (i := 28) rfl))) (by decide) (backOf (W := 1) (rmI01 l Z a0 hw [] d t30 key k24 (1 : Int32) [((0 : Int32), (.int e0_))] T30.heap n0 Z_30 F_pkHash_d_30 F_hwId_d_30 F_swId_d_30 F_publicKey_d_30 E_d_30 g_d Hk_30 Ex24_30 (Ne.symm ne_key_d) (by decide)) hZ (hw _ (List.mem_of_getElem? (i := 28) rfl)) (hw _ (List.mem_of_getElem? (i := 3) rfl)) (by decide) (by decide)) (g := (mkF m 140 #[.val (.int p0), .val (.int p1), .val (.int p2), .val (.int p3), .val (.long q4), .second, .val (.int (0 : Int32)), .val (.int (0 : Int32)), .val (.int (1 : Int32)), .val (.int e0_), .val (.int e1_), .val (.int e2_), .val (.ref key), .val .null, .unset, .unset, .unset] [(.ref key), .null, (.ref t30), .null, (.ref d), (.ref d)])) rfl (by rw [hml]; rfl) (Steps.refl _) (a := d) (argsL := [.null, (.ref t30), .null, (.ref key)]) (rest := [(.ref d)]) (lenOf pd_3 rfl) rfl (by show 2 * 0 + _ ≤ _; exact Nat.le_of_eq rfl) (hb hby at_140) (fun _ _ => ⟨rfl, rfl, (by decide : 3 + 1 ≤ _), (by decide : 6 + 3 ≤ _)⟩)
        dsimp only [Pt.U, Pt.locs, Pt.cells, Pt.slots] at X32 l32 y32 z32 st32 hQ32
        subst l32 y32 z32
        obtain ⟨rfl, Nq32, K32, Ed, c, szc, Fc, Hc, Ec⟩ := hQ32
        have N32 := Fr.app N30 Nq32
        have g_c : n0 ≤ c := Nat.le_trans Z_30 szc
        have ne_key_c : key ≠ c := Nat.ne_of_lt (Nat.lt_of_lt_of_le Ex24_30.lt szc)
        have ne_d_c : d ≠ c := Nat.ne_of_lt (Nat.lt_of_lt_of_le E_d_30.lt szc)
        have ne_t30_c : t30 ≠ c := Nat.ne_of_lt (Nat.lt_of_lt_of_le Et30.lt szc)
        have Od_32 := Od_30.keep K32 (allS g_d (all0))
        have Ex24_32 := Ex24_30.keep K32
        have Hk_32 := Hk_30.keep K32 (ninS ne_key_d nin0)
        have E_d_32 := E_d_30.keep K32
        have Et30_32 := Et30.keep K32
        have Z_32 : n0 ≤ T32.heap.size := Nat.le_trans Z_30 K32.1
        have st33 : ∀ target, Steps p.tables e below (T32.setTop (mkF m 161 #[.val (.int p0), .val (.int p1), .val (.int p2), .val (.int p3), .val (.long q4), .second, .val (.int (0 : Int32)), .val (.int (0 : Int32)), .val (.int (1 : Int32)), .val (.int e0_), .val (.int e1_), .val (.int e2_), .val (.ref key), .val .null, .val (.ref d), .unset, .unset] [(.int (0 : Int32)), (.ref key), (.int (0 : Int32)), (.ref key)])) target → Steps p.tables e below (T32.setTop (mkF m 143 #[.val (.int p0), .val (.int p1), .val (.int p2), .val (.int p3), .val (.long q4), .second, .val (.int (0 : Int32)), .val (.int (0 : Int32)), .val (.int (1 : Int32)), .val (.int e0_), .val (.int e1_), .val (.int e2_), .val (.ref key), .val .null, .unset, .unset, .unset] [(.ref d)])) target := by
          intro target kt
          show Steps p.tables e below (T32.setTop (mkF m 143 #[.val (.int p0), .val (.int p1), .val (.int p2), .val (.int p3), .val (.long q4), .second, .val (.int (0 : Int32)), .val (.int (0 : Int32)), .val (.int (1 : Int32)), .val (.int e0_), .val (.int e1_), .val (.int e2_), .val (.ref key), .val .null, .unset, .unset, .unset] [(.ref d)])) _
          refine XS.astore X32.here hx rfl (hb hby at_143) rfl rfl (l' := #[.val (.int p0), .val (.int p1), .val (.int p2), .val (.int p3), .val (.long q4), .second, .val (.int (0 : Int32)), .val (.int (0 : Int32)), .val (.int (1 : Int32)), .val (.int e0_), .val (.int e1_), .val (.int e2_), .val (.ref key), .val .null, .val (.ref d), .unset, .unset]) rfl ?_
          show Steps p.tables e below (T32.setTop (mkF m 145 #[.val (.int p0), .val (.int p1), .val (.int p2), .val (.int p3), .val (.long q4), .second, .val (.int (0 : Int32)), .val (.int (0 : Int32)), .val (.int (1 : Int32)), .val (.int e0_), .val (.int e1_), .val (.int e2_), .val (.ref key), .val .null, .val (.ref d), .unset, .unset] [])) _
          refine XS.aload X32.here hx rfl (hb hby at_145) rfl rfl ?_
          show Steps p.tables e below (T32.setTop (mkF m 147 #[.val (.int p0), .val (.int p1), .val (.int p2), .val (.int p3), .val (.long q4), .second, .val (.int (0 : Int32)), .val (.int (0 : Int32)), .val (.int (1 : Int32)), .val (.int e0_), .val (.int e1_), .val (.int e2_), .val (.ref key), .val .null, .val (.ref d), .unset, .unset] [(.ref key)])) _
          refine XS.ifnullNo X32.here hx rfl (hb hby at_147) rfl ?_
          show Steps p.tables e below (T32.setTop (mkF m 150 #[.val (.int p0), .val (.int p1), .val (.int p2), .val (.int p3), .val (.long q4), .second, .val (.int (0 : Int32)), .val (.int (0 : Int32)), .val (.int (1 : Int32)), .val (.int e0_), .val (.int e1_), .val (.int e2_), .val (.ref key), .val .null, .val (.ref d), .unset, .unset] [])) _
          refine XS.iload X32.here hx rfl (hb hby at_150) rfl ?_
          show Steps p.tables e below (T32.setTop (mkF m 152 #[.val (.int p0), .val (.int p1), .val (.int p2), .val (.int p3), .val (.long q4), .second, .val (.int (0 : Int32)), .val (.int (0 : Int32)), .val (.int (1 : Int32)), .val (.int e0_), .val (.int e1_), .val (.int e2_), .val (.ref key), .val .null, .val (.ref d), .unset, .unset] [(.int (1 : Int32))])) _
          refine XS.ifNo X32.here hx rfl (hb hby at_152) rfl ((if0 _ _).trans (tlt (by decide : ((0 : Int32) < (1 : Int32)))).2.2.2) ?_
          show Steps p.tables e below (T32.setTop (mkF m 155 #[.val (.int p0), .val (.int p1), .val (.int p2), .val (.int p3), .val (.long q4), .second, .val (.int (0 : Int32)), .val (.int (0 : Int32)), .val (.int (1 : Int32)), .val (.int e0_), .val (.int e1_), .val (.int e2_), .val (.ref key), .val .null, .val (.ref d), .unset, .unset] [])) _
          refine XS.aload X32.here hx rfl (hb hby at_155) rfl rfl ?_
          show Steps p.tables e below (T32.setTop (mkF m 157 #[.val (.int p0), .val (.int p1), .val (.int p2), .val (.int p3), .val (.long q4), .second, .val (.int (0 : Int32)), .val (.int (0 : Int32)), .val (.int (1 : Int32)), .val (.int e0_), .val (.int e1_), .val (.int e2_), .val (.ref key), .val .null, .val (.ref d), .unset, .unset] [(.ref key)])) _
          refine XS.iconst X32.here hx rfl (hb hby at_157) ?_
          show Steps p.tables e below (T32.setTop (mkF m 158 #[.val (.int p0), .val (.int p1), .val (.int p2), .val (.int p3), .val (.long q4), .second, .val (.int (0 : Int32)), .val (.int (0 : Int32)), .val (.int (1 : Int32)), .val (.int e0_), .val (.int e1_), .val (.int e2_), .val (.ref key), .val .null, .val (.ref d), .unset, .unset] [(.int (0 : Int32)), (.ref key)])) _
          refine XS.aload X32.here hx rfl (hb hby at_158) rfl rfl ?_
          show Steps p.tables e below (T32.setTop (mkF m 160 #[.val (.int p0), .val (.int p1), .val (.int p2), .val (.int p3), .val (.long q4), .second, .val (.int (0 : Int32)), .val (.int (0 : Int32)), .val (.int (1 : Int32)), .val (.int e0_), .val (.int e1_), .val (.int e2_), .val (.ref key), .val .null, .val (.ref d), .unset, .unset] [(.ref key), (.int (0 : Int32)), (.ref key)])) _
          refine XS.iconst X32.here hx rfl (hb hby at_160) ?_
          exact kt
        obtain ⟨cl34, Ar34, qc34, Sz34, Mn34, Hs34, Gs34⟩ := id Hk_32
        have hin34 : ¬ ((0 : Int32) < 0 ∨ cl34.slots.size ≤ ((0 : Int32)).toNatClampNeg) := own_in Sz34 ⟨by decide, by decide⟩
        have hat34 : cl34.slots[((0 : Int32)).toNatClampNeg]? = some (.int e0_) := atH Hs34 hin34 rfl
        have st35 : ∀ target, Steps p.tables e below (T32.setTop (mkF m 162 #[.val (.int p0), .val (.int p1), .val (.int p2), .val (.int p3), .val (.long q4), .second, .val (.int (0 : Int32)), .val (.int (0 : Int32)), .val (.int (1 : Int32)), .val (.int e0_), .val (.int e1_), .val (.int e2_), .val (.ref key), .val .null, .val (.ref d), .unset, .unset] [(.int e0_), (.int (0 : Int32)), (.ref key)])) target → Steps p.tables e below (T32.setTop (mkF m 161 #[.val (.int p0), .val (.int p1), .val (.int p2), .val (.int p3), .val (.long q4), .second, .val (.int (0 : Int32)), .val (.int (0 : Int32)), .val (.int (1 : Int32)), .val (.int e0_), .val (.int e1_), .val (.int e2_), .val (.ref key), .val .null, .val (.ref d), .unset, .unset] [(.int (0 : Int32)), (.ref key), (.int (0 : Int32)), (.ref key)])) target := fun target kt => X32.baloadBytes hx (j := (0 : Int32)) (v := (.int e0_)) Ar34.1 (State.isArrayOf_alike hZ.alike Ar34.2.1) Ar34.2.2 hin34 hat34 (g := (mkF m 161 #[.val (.int p0), .val (.int p1), .val (.int p2), .val (.int p3), .val (.long q4), .second, .val (.int (0 : Int32)), .val (.int (0 : Int32)), .val (.int (1 : Int32)), .val (.int e0_), .val (.int e1_), .val (.int e2_), .val (.ref key), .val .null, .val (.ref d), .unset, .unset] [(.int (0 : Int32)), (.ref key), (.int (0 : Int32)), (.ref key)])) rfl rfl (hb hby at_161) _ kt
        have st36 : ∀ target, Steps p.tables e below (T32.setTop (mkF m 166 #[.val (.int p0), .val (.int p1), .val (.int p2), .val (.int p3), .val (.long q4), .second, .val (.int (0 : Int32)), .val (.int (0 : Int32)), .val (.int (1 : Int32)), .val (.int e0_), .val (.int e1_), .val (.int e2_), .val (.ref key), .val .null, .val (.ref d), .unset, .unset] [(.int ((e0_ ^^^ (90 : Int32)).toInt8.toInt32)), (.int (0 : Int32)), (.ref key)])) target → Steps p.tables e below (T32.setTop (mkF m 162 #[.val (.int p0), .val (.int p1), .val (.int p2), .val (.int p3), .val (.long q4), .second, .val (.int (0 : Int32)), .val (.int (0 : Int32)), .val (.int (1 : Int32)), .val (.int e0_), .val (.int e1_), .val (.int e2_), .val (.ref key), .val .null, .val (.ref d), .unset, .unset] [(.int e0_), (.int (0 : Int32)), (.ref key)])) target := by
          intro target kt
          show Steps p.tables e below (T32.setTop (mkF m 162 #[.val (.int p0), .val (.int p1), .val (.int p2), .val (.int p3), .val (.long q4), .second, .val (.int (0 : Int32)), .val (.int (0 : Int32)), .val (.int (1 : Int32)), .val (.int e0_), .val (.int e1_), .val (.int e2_), .val (.ref key), .val .null, .val (.ref d), .unset, .unset] [(.int e0_), (.int (0 : Int32)), (.ref key)])) _
          refine XS.bipush X32.here hx rfl (hb hby at_162) ?_
          show Steps p.tables e below (T32.setTop (mkF m 164 #[.val (.int p0), .val (.int p1), .val (.int p2), .val (.int p3), .val (.long q4), .second, .val (.int (0 : Int32)), .val (.int (0 : Int32)), .val (.int (1 : Int32)), .val (.int e0_), .val (.int e1_), .val (.int e2_), .val (.ref key), .val .null, .val (.ref d), .unset, .unset] [(.int (90 : Int32)), (.int e0_), (.int (0 : Int32)), (.ref key)])) _
          refine XS.ixor X32.here hx rfl (hb hby at_164) rfl ?_
          show Steps p.tables e below (T32.setTop (mkF m 165 #[.val (.int p0), .val (.int p1), .val (.int p2), .val (.int p3), .val (.long q4), .second, .val (.int (0 : Int32)), .val (.int (0 : Int32)), .val (.int (1 : Int32)), .val (.int e0_), .val (.int e1_), .val (.int e2_), .val (.ref key), .val .null, .val (.ref d), .unset, .unset] [(.int (e0_ ^^^ (90 : Int32))), (.int (0 : Int32)), (.ref key)])) _
          refine XS.i2b X32.here hx rfl (hb hby at_165) rfl ?_
          exact kt
        obtain ⟨cl37, Ar37, qc37, Sz37, Mn37, Hs37, Gs37⟩ := id Hk_32
        have hin37 : ¬ ((0 : Int32) < 0 ∨ cl37.slots.size ≤ ((0 : Int32)).toNatClampNeg) := own_in Sz37 ⟨by decide, by decide⟩
        obtain ⟨T37, h37, X37, e37, W37, st37⟩ := stB X32 hx hZ rfl Ar37 (j := (0 : Int32)) hin37 (g := (mkF m 166 #[.val (.int p0), .val (.int p1), .val (.int p2), .val (.int p3), .val (.long q4), .second, .val (.int (0 : Int32)), .val (.int (0 : Int32)), .val (.int (1 : Int32)), .val (.int e0_), .val (.int e1_), .val (.int e2_), .val (.ref key), .val .null, .val (.ref d), .unset, .unset] [(.int ((e0_ ^^^ (90 : Int32)).toInt8.toInt32)), (.int (0 : Int32)), (.ref key)])) rfl rfl (hb hby at_166)
        have Hh_key_37 : Arh Z h37 key k24 .byte (1 : Int32) [((0 : Int32), (.int (nar .byte ((e0_ ^^^ (90 : Int32)).toInt8.toInt32)))), ((0 : Int32), (.int e0_))] [] (.int (0 : Int32)) := Arh.push Ar37 qc37 Sz37 Mn37 Hs37 Gs37 (fits_nar_byte _) W37 hin37
        have Od_37 := Od_32.wr W37 g_key
        have Ex24_37 := Ex24_32.wr W37
        have Ed_37 := Ed.wr W37
        have Et30_37 := Et30_32.wr W37
        have Fc_37 := Fc.other W37 (Or.inl (Ne.symm ne_key_d))
        have Hc_37 := Hc.other W37 (Ne.symm ne_key_c)
        have Ec_37 := Ec.wr W37
        have Z_37 : n0 ≤ h37.size := Nat.le_trans Z_32 (Keep.of_wr W37).1
        have N37 := Fr.snoc X37 N32 g_key
        have st38 : ∀ target, Steps p.tables e below (T37.setTop (mkF m 169 #[.val (.int p0), .val (.int p1), .val (.int p2), .val (.int p3), .val (.long q4), .second, .val (.int (0 : Int32)), .val (.int (0 : Int32)), .val (.int (1 : Int32)), .val (.int e0_), .val (.int e1_), .val (.int e2_), .val (.ref key), .val .null, .val (.ref d), .unset, .unset] [(.ref d)])) target → Steps p.tables e below (T37.setTop (mkF m 167 #[.val (.int p0), .val (.int p1), .val (.int p2), .val (.int p3), .val (.long q4), .second, .val (.int (0 : Int32)), .val (.int (0 : Int32)), .val (.int (1 : Int32)), .val (.int e0_), .val (.int e1_), .val (.int e2_), .val (.ref key), .val .null, .val (.ref d), .unset, .unset] [])) target := by
          intro target kt
          show Steps p.tables e below (T37.setTop (mkF m 167 #[.val (.int p0), .val (.int p1), .val (.int p2), .val (.int p3), .val (.long q4), .second, .val (.int (0 : Int32)), .val (.int (0 : Int32)), .val (.int (1 : Int32)), .val (.int e0_), .val (.int e1_), .val (.int e2_), .val (.ref key), .val .null, .val (.ref d), .unset, .unset] [])) _
          refine XS.aload X37.here hx rfl (hb hby at_167) rfl rfl ?_
          exact kt
        obtain ⟨cq39, kq39, qv39a, qv39b, qv39c⟩ := isOf hZ e37 Ed_37
        obtain ⟨_, _, ⟨T39, L39, k39, n39⟩, -, X39, ⟨Lc39, hQ39, l39, y39, z39⟩, st39⟩ := X37.virtualBack hx (y := (⟨"com/example/imprimatur/imprimatur/verify/DeviceValues", "publicKey", "()[B"⟩ : MethodName)) (z := (⟨"com/example/imprimatur/imprimatur/verify/DeviceValues", "publicKey", "()[B"⟩ : MethodName)) hown (mvT hZ (hw _ (List.mem_of_getElem? (i := 47) rfl))) (mvT hZ (hw _ (List.mem_of_getElem? (i := 48) rfl))) (notFace_of_selects (args := #[]) (mvT hZ (hw _ (List.mem_of_getElem? (i := 50) rfl)))) (mvT hZ (hw _ (List.mem_of_getElem? (i := 50) rfl))) (mvT hZ (hw _ (List.mem_of_getElem? (i := 49) rfl))) (by decide) (backOf (W := 0) (rm_publicKey l Z a0 hw [] d c k24 (1 : Int32) [((0 : Int32), (.int e0_))] h37 n0 Z_37 Fc_37 Hc_37 Ec_37 (by decide)) hZ (hw _ (List.mem_of_getElem? (i := 51) rfl)) (hw _ (List.mem_of_getElem? (i := 3) rfl)) (by decide) (by decide)) qv39a qv39c (g := (mkF m 169 #[.val (.int p0), .val (.int p1), .val (.int p2), .val (.int p3), .val (.long q4), .second, .val (.int (0 : Int32)), .val (.int (0 : Int32)), .val (.int (1 : Int32)), .val (.int e0_), .val (.int e1_), .val (.int e2_), .val (.ref key), .val .null, .val (.ref d), .unset, .unset] [(.ref d)])) rfl (by rw [hml]; rfl) (Steps.refl _) (argsL := []) (rest := []) (lenOf pd_5 rfl) rfl (by show 2 * 0 + _ ≤ _; exact Nat.le_of_eq rfl) (hb hby at_169) (fun _ _ => ⟨rfl, e37, (by decide : 4 + 1 ≤ _), (by decide : 9 + 3 ≤ _)⟩)
        dsimp only [Pt.U, Pt.locs, Pt.cells, Pt.slots] at X39 l39 y39 z39 st39 hQ39
        subst l39 y39 z39
        obtain ⟨c2_39, rfl, Nq39, K39, sz39, Hr1, Er1⟩ := hQ39
        have N39 := Fr.app N37 Nq39
        have g_c2_39 : n0 ≤ c2_39 := Nat.le_trans Z_37 sz39
        have ne_key_c2_39 : key ≠ c2_39 := Nat.ne_of_lt (Nat.lt_of_lt_of_le Ex24_37.lt sz39)
        have ne_d_c2_39 : d ≠ c2_39 := Nat.ne_of_lt (Nat.lt_of_lt_of_le Ed_37.lt sz39)
        have ne_t30_c2_39 : t30 ≠ c2_39 := Nat.ne_of_lt (Nat.lt_of_lt_of_le Et30_37.lt sz39)
        have ne_c_c2_39 : c ≠ c2_39 := Nat.ne_of_lt (Nat.lt_of_lt_of_le Hc_37.lt sz39)
        have Od_39 := Od_37.keep K39 (all0)
        have Ex24_39 := Ex24_37.keep K39
        have Ed_39 := Ed_37.keep K39
        have Et30_39 := Et30_37.keep K39
        have Fc_39 := Fc_37.keep K39 nin0
        have Hc_39 := Hc_37.keep K39 nin0
        have Ec_39 := Ec_37.keep K39
        have Hh_key_39 := Hh_key_37.keep K39 nin0
        have Z_39 : n0 ≤ T39.heap.size := Nat.le_trans Z_37 K39.1
        have st40 : ∀ target, Steps p.tables e below (T39.setTop (mkF m 200 #[.val (.int p0), .val (.int p1), .val (.int p2), .val (.int p3), .val (.long q4), .second, .val (.int (0 : Int32)), .val (.int (0 : Int32)), .val (.int (1 : Int32)), .val (.int e0_), .val (.int e1_), .val (.int e2_), .val (.ref key), .val .null, .val (.ref d), .val (.ref c2_39), .unset] [(.int e2_), (.int e1_), (.int e0_), (.int (1 : Int32)), (.ref c2_39)])) target → Steps p.tables e below (T39.setTop (mkF m 172 #[.val (.int p0), .val (.int p1), .val (.int p2), .val (.int p3), .val (.long q4), .second, .val (.int (0 : Int32)), .val (.int (0 : Int32)), .val (.int (1 : Int32)), .val (.int e0_), .val (.int e1_), .val (.int e2_), .val (.ref key), .val .null, .val (.ref d), .unset, .unset] [(.ref c2_39)])) target := by
          intro target kt
          show Steps p.tables e below (T39.setTop (mkF m 172 #[.val (.int p0), .val (.int p1), .val (.int p2), .val (.int p3), .val (.long q4), .second, .val (.int (0 : Int32)), .val (.int (0 : Int32)), .val (.int (1 : Int32)), .val (.int e0_), .val (.int e1_), .val (.int e2_), .val (.ref key), .val .null, .val (.ref d), .unset, .unset] [(.ref c2_39)])) _
          refine XS.astore X39.here hx rfl (hb hby at_172) rfl rfl (l' := #[.val (.int p0), .val (.int p1), .val (.int p2), .val (.int p3), .val (.long q4), .second, .val (.int (0 : Int32)), .val (.int (0 : Int32)), .val (.int (1 : Int32)), .val (.int e0_), .val (.int e1_), .val (.int e2_), .val (.ref key), .val .null, .val (.ref d), .val (.ref c2_39), .unset]) rfl ?_
          show Steps p.tables e below (T39.setTop (mkF m 174 #[.val (.int p0), .val (.int p1), .val (.int p2), .val (.int p3), .val (.long q4), .second, .val (.int (0 : Int32)), .val (.int (0 : Int32)), .val (.int (1 : Int32)), .val (.int e0_), .val (.int e1_), .val (.int e2_), .val (.ref key), .val .null, .val (.ref d), .val (.ref c2_39), .unset] [])) _
          refine XS.iload X39.here hx rfl (hb hby at_174) rfl ?_
          show Steps p.tables e below (T39.setTop (mkF m 176 #[.val (.int p0), .val (.int p1), .val (.int p2), .val (.int p3), .val (.long q4), .second, .val (.int (0 : Int32)), .val (.int (0 : Int32)), .val (.int (1 : Int32)), .val (.int e0_), .val (.int e1_), .val (.int e2_), .val (.ref key), .val .null, .val (.ref d), .val (.ref c2_39), .unset] [(.int (0 : Int32))])) _
          refine XS.ifYes X39.here hx rfl (pc0 := 176) (pc' := 190) rfl (hb hby at_176) rfl ((if0 _ _).trans (teq (rfl : (0 : Int32) = (0 : Int32))).1) (by decide) (by decide) ?_
          show Steps p.tables e below (T39.setTop (mkF m 190 #[.val (.int p0), .val (.int p1), .val (.int p2), .val (.int p3), .val (.long q4), .second, .val (.int (0 : Int32)), .val (.int (0 : Int32)), .val (.int (1 : Int32)), .val (.int e0_), .val (.int e1_), .val (.int e2_), .val (.ref key), .val .null, .val (.ref d), .val (.ref c2_39), .unset] [])) _
          refine XS.aload X39.here hx rfl (hb hby at_190) rfl rfl ?_
          show Steps p.tables e below (T39.setTop (mkF m 192 #[.val (.int p0), .val (.int p1), .val (.int p2), .val (.int p3), .val (.long q4), .second, .val (.int (0 : Int32)), .val (.int (0 : Int32)), .val (.int (1 : Int32)), .val (.int e0_), .val (.int e1_), .val (.int e2_), .val (.ref key), .val .null, .val (.ref d), .val (.ref c2_39), .unset] [(.ref c2_39)])) _
          refine XS.iload X39.here hx rfl (hb hby at_192) rfl ?_
          show Steps p.tables e below (T39.setTop (mkF m 194 #[.val (.int p0), .val (.int p1), .val (.int p2), .val (.int p3), .val (.long q4), .second, .val (.int (0 : Int32)), .val (.int (0 : Int32)), .val (.int (1 : Int32)), .val (.int e0_), .val (.int e1_), .val (.int e2_), .val (.ref key), .val .null, .val (.ref d), .val (.ref c2_39), .unset] [(.int (1 : Int32)), (.ref c2_39)])) _
          refine XS.iload X39.here hx rfl (hb hby at_194) rfl ?_
          show Steps p.tables e below (T39.setTop (mkF m 196 #[.val (.int p0), .val (.int p1), .val (.int p2), .val (.int p3), .val (.long q4), .second, .val (.int (0 : Int32)), .val (.int (0 : Int32)), .val (.int (1 : Int32)), .val (.int e0_), .val (.int e1_), .val (.int e2_), .val (.ref key), .val .null, .val (.ref d), .val (.ref c2_39), .unset] [(.int e0_), (.int (1 : Int32)), (.ref c2_39)])) _
          refine XS.iload X39.here hx rfl (hb hby at_196) rfl ?_
          show Steps p.tables e below (T39.setTop (mkF m 198 #[.val (.int p0), .val (.int p1), .val (.int p2), .val (.int p3), .val (.long q4), .second, .val (.int (0 : Int32)), .val (.int (0 : Int32)), .val (.int (1 : Int32)), .val (.int e0_), .val (.int e1_), .val (.int e2_), .val (.ref key), .val .null, .val (.ref d), .val (.ref c2_39), .unset] [(.int e1_), (.int e0_), (.int (1 : Int32)), (.ref c2_39)])) _
          refine XS.iload X39.here hx rfl (hb hby at_198) rfl ?_
          exact kt
        obtain ⟨_, _, ⟨T41, L41, k41, n41⟩, -, X41, ⟨Lc41, hQ41, l41, y41, z41⟩, st41⟩ := Jvm.LawKit.callS X39 hx (y := (⟨"com/example/imprimatur/imprimatur/verify/DeviceValuesPublicKeyPinLaw", "same", "([BIBBB)Z"⟩ : MethodName)) hown (mvT hZ (hw _ (List.mem_of_getElem? (i := 52) rfl))) (mvT hZ (hw _ (List.mem_of_getElem? (i := 53) rfl))) (mvT hZ (hw _ (List.mem_of_getElem? (i := 54) rfl))) (mvT hZ (hw _ (List.mem_of_getElem? (i := 55) rfl))) (by decide) (backOf (W := 0) (rmS1 l Z a0 hw [] c2_39 e0_ e1_ e2_ k24 [((0 : Int32), (.int e0_))] T39.heap n0 Z_39 Hr1 rfl) hZ (hw _ (List.mem_of_getElem? (i := 55) rfl)) (hw _ (List.mem_of_getElem? (i := 54) rfl)) (by decide) (by decide)) (g := (mkF m 200 #[.val (.int p0), .val (.int p1), .val (.int p2), .val (.int p3), .val (.long q4), .second, .val (.int (0 : Int32)), .val (.int (0 : Int32)), .val (.int (1 : Int32)), .val (.int e0_), .val (.int e1_), .val (.int e2_), .val (.ref key), .val .null, .val (.ref d), .val (.ref c2_39), .unset] [(.int e2_), (.int e1_), (.int e0_), (.int (1 : Int32)), (.ref c2_39)])) rfl (by rw [hml]; rfl) (argsL := [(.ref c2_39), (.int (1 : Int32)), (.int e0_), (.int e1_), (.int e2_)]) (rest := []) (lenOf pd_6 rfl) rfl (by show 2 * 0 + _ ≤ _; exact Nat.le_of_eq rfl) (hb hby at_200) (fun _ _ => ⟨rfl, rfl, (by decide : 5 + 0 ≤ _), (by decide : 12 + 0 ≤ _)⟩)
        dsimp only [Pt.U, Pt.locs, Pt.cells, Pt.slots] at X41 l41 y41 z41 st41 hQ41
        subst l41 y41 z41
        obtain ⟨rfl, Nq41, e41⟩ := hQ41
        have N41 := Fr.app N39 Nq41
        have st42 : ∀ target, Steps p.tables e below (T41.setTop (mkF m 219 #[.val (.int p0), .val (.int p1), .val (.int p2), .val (.int p3), .val (.long q4), .second, .val (.int (0 : Int32)), .val (.int (0 : Int32)), .val (.int (1 : Int32)), .val (.int e0_), .val (.int e1_), .val (.int e2_), .val (.ref key), .val .null, .val (.ref d), .val (.ref c2_39), .unset] [(.int (0 : Int32)), (.ref c2_39), (.int (0 : Int32)), (.ref c2_39)])) target → Steps p.tables e below (T41.setTop (mkF m 203 #[.val (.int p0), .val (.int p1), .val (.int p2), .val (.int p3), .val (.long q4), .second, .val (.int (0 : Int32)), .val (.int (0 : Int32)), .val (.int (1 : Int32)), .val (.int e0_), .val (.int e1_), .val (.int e2_), .val (.ref key), .val .null, .val (.ref d), .val (.ref c2_39), .unset] [(.int (1 : Int32))])) target := by
          intro target kt
          show Steps p.tables e below (T41.setTop (mkF m 203 #[.val (.int p0), .val (.int p1), .val (.int p2), .val (.int p3), .val (.long q4), .second, .val (.int (0 : Int32)), .val (.int (0 : Int32)), .val (.int (1 : Int32)), .val (.int e0_), .val (.int e1_), .val (.int e2_), .val (.ref key), .val .null, .val (.ref d), .val (.ref c2_39), .unset] [(.int (1 : Int32))])) _
          refine XS.ifYes X41.here hx rfl (pc0 := 203) (pc' := 208) rfl (hb hby at_203) rfl ((if0 _ _).trans (feq (by decide : ¬ ((1 : Int32) = (0 : Int32)))).2) (by decide) (by decide) ?_
          show Steps p.tables e below (T41.setTop (mkF m 208 #[.val (.int p0), .val (.int p1), .val (.int p2), .val (.int p3), .val (.long q4), .second, .val (.int (0 : Int32)), .val (.int (0 : Int32)), .val (.int (1 : Int32)), .val (.int e0_), .val (.int e1_), .val (.int e2_), .val (.ref key), .val .null, .val (.ref d), .val (.ref c2_39), .unset] [])) _
          refine XS.iload X41.here hx rfl (hb hby at_208) rfl ?_
          show Steps p.tables e below (T41.setTop (mkF m 210 #[.val (.int p0), .val (.int p1), .val (.int p2), .val (.int p3), .val (.long q4), .second, .val (.int (0 : Int32)), .val (.int (0 : Int32)), .val (.int (1 : Int32)), .val (.int e0_), .val (.int e1_), .val (.int e2_), .val (.ref key), .val .null, .val (.ref d), .val (.ref c2_39), .unset] [(.int (1 : Int32))])) _
          refine XS.ifNo X41.here hx rfl (hb hby at_210) rfl ((if0 _ _).trans (tlt (by decide : ((0 : Int32) < (1 : Int32)))).2.2.2) ?_
          show Steps p.tables e below (T41.setTop (mkF m 213 #[.val (.int p0), .val (.int p1), .val (.int p2), .val (.int p3), .val (.long q4), .second, .val (.int (0 : Int32)), .val (.int (0 : Int32)), .val (.int (1 : Int32)), .val (.int e0_), .val (.int e1_), .val (.int e2_), .val (.ref key), .val .null, .val (.ref d), .val (.ref c2_39), .unset] [])) _
          refine XS.aload X41.here hx rfl (hb hby at_213) rfl rfl ?_
          show Steps p.tables e below (T41.setTop (mkF m 215 #[.val (.int p0), .val (.int p1), .val (.int p2), .val (.int p3), .val (.long q4), .second, .val (.int (0 : Int32)), .val (.int (0 : Int32)), .val (.int (1 : Int32)), .val (.int e0_), .val (.int e1_), .val (.int e2_), .val (.ref key), .val .null, .val (.ref d), .val (.ref c2_39), .unset] [(.ref c2_39)])) _
          refine XS.iconst X41.here hx rfl (hb hby at_215) ?_
          show Steps p.tables e below (T41.setTop (mkF m 216 #[.val (.int p0), .val (.int p1), .val (.int p2), .val (.int p3), .val (.long q4), .second, .val (.int (0 : Int32)), .val (.int (0 : Int32)), .val (.int (1 : Int32)), .val (.int e0_), .val (.int e1_), .val (.int e2_), .val (.ref key), .val .null, .val (.ref d), .val (.ref c2_39), .unset] [(.int (0 : Int32)), (.ref c2_39)])) _
          refine XS.aload X41.here hx rfl (hb hby at_216) rfl rfl ?_
          show Steps p.tables e below (T41.setTop (mkF m 218 #[.val (.int p0), .val (.int p1), .val (.int p2), .val (.int p3), .val (.long q4), .second, .val (.int (0 : Int32)), .val (.int (0 : Int32)), .val (.int (1 : Int32)), .val (.int e0_), .val (.int e1_), .val (.int e2_), .val (.ref key), .val .null, .val (.ref d), .val (.ref c2_39), .unset] [(.ref c2_39), (.int (0 : Int32)), (.ref c2_39)])) _
          refine XS.iconst X41.here hx rfl (hb hby at_218) ?_
          exact kt
        obtain ⟨cl43, Ar43, qc43, Sz43, Mn43, Hs43, Gs43⟩ := id Hr1
        have hin43 : ¬ ((0 : Int32) < 0 ∨ cl43.slots.size ≤ ((0 : Int32)).toNatClampNeg) := own_in Sz43 ⟨by decide, by decide⟩
        have hat43 : cl43.slots[((0 : Int32)).toNatClampNeg]? = some (.int e0_) := atH Hs43 hin43 rfl
        have st44 : ∀ target, Steps p.tables e below (T41.setTop (mkF m 220 #[.val (.int p0), .val (.int p1), .val (.int p2), .val (.int p3), .val (.long q4), .second, .val (.int (0 : Int32)), .val (.int (0 : Int32)), .val (.int (1 : Int32)), .val (.int e0_), .val (.int e1_), .val (.int e2_), .val (.ref key), .val .null, .val (.ref d), .val (.ref c2_39), .unset] [(.int e0_), (.int (0 : Int32)), (.ref c2_39)])) target → Steps p.tables e below (T41.setTop (mkF m 219 #[.val (.int p0), .val (.int p1), .val (.int p2), .val (.int p3), .val (.long q4), .second, .val (.int (0 : Int32)), .val (.int (0 : Int32)), .val (.int (1 : Int32)), .val (.int e0_), .val (.int e1_), .val (.int e2_), .val (.ref key), .val .null, .val (.ref d), .val (.ref c2_39), .unset] [(.int (0 : Int32)), (.ref c2_39), (.int (0 : Int32)), (.ref c2_39)])) target := fun target kt => X41.baloadBytes hx (j := (0 : Int32)) (v := (.int e0_)) (by rw [e41]; exact Ar43.1) (State.isArrayOf_alike hZ.alike Ar43.2.1) Ar43.2.2 hin43 hat43 (g := (mkF m 219 #[.val (.int p0), .val (.int p1), .val (.int p2), .val (.int p3), .val (.long q4), .second, .val (.int (0 : Int32)), .val (.int (0 : Int32)), .val (.int (1 : Int32)), .val (.int e0_), .val (.int e1_), .val (.int e2_), .val (.ref key), .val .null, .val (.ref d), .val (.ref c2_39), .unset] [(.int (0 : Int32)), (.ref c2_39), (.int (0 : Int32)), (.ref c2_39)])) rfl rfl (hb hby at_219) _ kt
        have st45 : ∀ target, Steps p.tables e below (T41.setTop (mkF m 223 #[.val (.int p0), .val (.int p1), .val (.int p2), .val (.int p3), .val (.long q4), .second, .val (.int (0 : Int32)), .val (.int (0 : Int32)), .val (.int (1 : Int32)), .val (.int e0_), .val (.int e1_), .val (.int e2_), .val (.ref key), .val .null, .val (.ref d), .val (.ref c2_39), .unset] [(.int ((e0_ ^^^ (1 : Int32)).toInt8.toInt32)), (.int (0 : Int32)), (.ref c2_39)])) target → Steps p.tables e below (T41.setTop (mkF m 220 #[.val (.int p0), .val (.int p1), .val (.int p2), .val (.int p3), .val (.long q4), .second, .val (.int (0 : Int32)), .val (.int (0 : Int32)), .val (.int (1 : Int32)), .val (.int e0_), .val (.int e1_), .val (.int e2_), .val (.ref key), .val .null, .val (.ref d), .val (.ref c2_39), .unset] [(.int e0_), (.int (0 : Int32)), (.ref c2_39)])) target := by
          intro target kt
          show Steps p.tables e below (T41.setTop (mkF m 220 #[.val (.int p0), .val (.int p1), .val (.int p2), .val (.int p3), .val (.long q4), .second, .val (.int (0 : Int32)), .val (.int (0 : Int32)), .val (.int (1 : Int32)), .val (.int e0_), .val (.int e1_), .val (.int e2_), .val (.ref key), .val .null, .val (.ref d), .val (.ref c2_39), .unset] [(.int e0_), (.int (0 : Int32)), (.ref c2_39)])) _
          refine XS.iconst X41.here hx rfl (hb hby at_220) ?_
          show Steps p.tables e below (T41.setTop (mkF m 221 #[.val (.int p0), .val (.int p1), .val (.int p2), .val (.int p3), .val (.long q4), .second, .val (.int (0 : Int32)), .val (.int (0 : Int32)), .val (.int (1 : Int32)), .val (.int e0_), .val (.int e1_), .val (.int e2_), .val (.ref key), .val .null, .val (.ref d), .val (.ref c2_39), .unset] [(.int (1 : Int32)), (.int e0_), (.int (0 : Int32)), (.ref c2_39)])) _
          refine XS.ixor X41.here hx rfl (hb hby at_221) rfl ?_
          show Steps p.tables e below (T41.setTop (mkF m 222 #[.val (.int p0), .val (.int p1), .val (.int p2), .val (.int p3), .val (.long q4), .second, .val (.int (0 : Int32)), .val (.int (0 : Int32)), .val (.int (1 : Int32)), .val (.int e0_), .val (.int e1_), .val (.int e2_), .val (.ref key), .val .null, .val (.ref d), .val (.ref c2_39), .unset] [(.int (e0_ ^^^ (1 : Int32))), (.int (0 : Int32)), (.ref c2_39)])) _
          refine XS.i2b X41.here hx rfl (hb hby at_222) rfl ?_
          exact kt
        obtain ⟨cl46, Ar46, qc46, Sz46, Mn46, Hs46, Gs46⟩ := id Hr1
        have hin46 : ¬ ((0 : Int32) < 0 ∨ cl46.slots.size ≤ ((0 : Int32)).toNatClampNeg) := own_in Sz46 ⟨by decide, by decide⟩
        obtain ⟨T46, h46, X46, e46, W46, st46⟩ := stB X41 hx hZ e41 Ar46 (j := (0 : Int32)) hin46 (g := (mkF m 223 #[.val (.int p0), .val (.int p1), .val (.int p2), .val (.int p3), .val (.long q4), .second, .val (.int (0 : Int32)), .val (.int (0 : Int32)), .val (.int (1 : Int32)), .val (.int e0_), .val (.int e1_), .val (.int e2_), .val (.ref key), .val .null, .val (.ref d), .val (.ref c2_39), .unset] [(.int ((e0_ ^^^ (1 : Int32)).toInt8.toInt32)), (.int (0 : Int32)), (.ref c2_39)])) rfl rfl (hb hby at_223)
        have Hh_c2_39_46 : Arh Z h46 c2_39 k24 .byte (1 : Int32) [((0 : Int32), (.int (nar .byte ((e0_ ^^^ (1 : Int32)).toInt8.toInt32)))), ((0 : Int32), (.int e0_))] [] (.int (0 : Int32)) := Arh.push Ar46 qc46 Sz46 Mn46 Hs46 Gs46 (fits_nar_byte _) W46 hin46
        have Od_46 := Od_39.wr W46 g_c2_39
        have Ex24_46 := Ex24_39.wr W46
        have Ed_46 := Ed_39.wr W46
        have Et30_46 := Et30_39.wr W46
        have Fc_46 := Fc_39.other W46 (Or.inl ne_d_c2_39)
        have Hc_46 := Hc_39.other W46 ne_c_c2_39
        have Ec_46 := Ec_39.wr W46
        have Hh_key_46 := Hh_key_39.other W46 ne_key_c2_39
        have Er1_46 := Er1.wr W46
        have Z_46 : n0 ≤ h46.size := Nat.le_trans Z_39 (Keep.of_wr W46).1
        have N46 := Fr.snoc X46 N41 g_c2_39
        have st47 : ∀ target, Steps p.tables e below (T46.setTop (mkF m 226 #[.val (.int p0), .val (.int p1), .val (.int p2), .val (.int p3), .val (.long q4), .second, .val (.int (0 : Int32)), .val (.int (0 : Int32)), .val (.int (1 : Int32)), .val (.int e0_), .val (.int e1_), .val (.int e2_), .val (.ref key), .val .null, .val (.ref d), .val (.ref c2_39), .unset] [(.ref d)])) target → Steps p.tables e below (T46.setTop (mkF m 224 #[.val (.int p0), .val (.int p1), .val (.int p2), .val (.int p3), .val (.long q4), .second, .val (.int (0 : Int32)), .val (.int (0 : Int32)), .val (.int (1 : Int32)), .val (.int e0_), .val (.int e1_), .val (.int e2_), .val (.ref key), .val .null, .val (.ref d), .val (.ref c2_39), .unset] [])) target := by
          intro target kt
          show Steps p.tables e below (T46.setTop (mkF m 224 #[.val (.int p0), .val (.int p1), .val (.int p2), .val (.int p3), .val (.long q4), .second, .val (.int (0 : Int32)), .val (.int (0 : Int32)), .val (.int (1 : Int32)), .val (.int e0_), .val (.int e1_), .val (.int e2_), .val (.ref key), .val .null, .val (.ref d), .val (.ref c2_39), .unset] [])) _
          refine XS.aload X46.here hx rfl (hb hby at_224) rfl rfl ?_
          exact kt
        obtain ⟨cq48, kq48, qv48a, qv48b, qv48c⟩ := isOf hZ e46 Ed_46
        obtain ⟨_, _, ⟨T48, L48, k48, n48⟩, -, X48, ⟨Lc48, hQ48, l48, y48, z48⟩, st48⟩ := X46.virtualBack hx (y := (⟨"com/example/imprimatur/imprimatur/verify/DeviceValues", "publicKey", "()[B"⟩ : MethodName)) (z := (⟨"com/example/imprimatur/imprimatur/verify/DeviceValues", "publicKey", "()[B"⟩ : MethodName)) hown (mvT hZ (hw _ (List.mem_of_getElem? (i := 47) rfl))) (mvT hZ (hw _ (List.mem_of_getElem? (i := 48) rfl))) (notFace_of_selects (args := #[]) (mvT hZ (hw _ (List.mem_of_getElem? (i := 50) rfl)))) (mvT hZ (hw _ (List.mem_of_getElem? (i := 50) rfl))) (mvT hZ (hw _ (List.mem_of_getElem? (i := 49) rfl))) (by decide) (backOf (W := 0) (rm_publicKey l Z a0 hw [] d c k24 (1 : Int32) [((0 : Int32), (.int e0_))] h46 n0 Z_46 Fc_46 Hc_46 Ec_46 (by decide)) hZ (hw _ (List.mem_of_getElem? (i := 51) rfl)) (hw _ (List.mem_of_getElem? (i := 3) rfl)) (by decide) (by decide)) qv48a qv48c (g := (mkF m 226 #[.val (.int p0), .val (.int p1), .val (.int p2), .val (.int p3), .val (.long q4), .second, .val (.int (0 : Int32)), .val (.int (0 : Int32)), .val (.int (1 : Int32)), .val (.int e0_), .val (.int e1_), .val (.int e2_), .val (.ref key), .val .null, .val (.ref d), .val (.ref c2_39), .unset] [(.ref d)])) rfl (by rw [hml]; rfl) (Steps.refl _) (argsL := []) (rest := []) (lenOf pd_5 rfl) rfl (by show 2 * 0 + _ ≤ _; exact Nat.le_of_eq rfl) (hb hby at_226) (fun _ _ => ⟨rfl, e46, (by decide : 5 + 1 ≤ _), (by decide : 12 + 3 ≤ _)⟩)
        dsimp only [Pt.U, Pt.locs, Pt.cells, Pt.slots] at X48 l48 y48 z48 st48 hQ48
        subst l48 y48 z48
        obtain ⟨c2_48, rfl, Nq48, K48, sz48, Hr2, Er2⟩ := hQ48
        have N48 := Fr.app N46 Nq48
        have g_c2_48 : n0 ≤ c2_48 := Nat.le_trans Z_46 sz48
        have ne_key_c2_48 : key ≠ c2_48 := Nat.ne_of_lt (Nat.lt_of_lt_of_le Ex24_46.lt sz48)
        have ne_d_c2_48 : d ≠ c2_48 := Nat.ne_of_lt (Nat.lt_of_lt_of_le Ed_46.lt sz48)
        have ne_t30_c2_48 : t30 ≠ c2_48 := Nat.ne_of_lt (Nat.lt_of_lt_of_le Et30_46.lt sz48)
        have ne_c_c2_48 : c ≠ c2_48 := Nat.ne_of_lt (Nat.lt_of_lt_of_le Hc_46.lt sz48)
        have ne_c2_39_c2_48 : c2_39 ≠ c2_48 := Nat.ne_of_lt (Nat.lt_of_lt_of_le Er1_46.lt sz48)
        have Od_48 := Od_46.keep K48 (all0)
        have Ex24_48 := Ex24_46.keep K48
        have Ed_48 := Ed_46.keep K48
        have Et30_48 := Et30_46.keep K48
        have Fc_48 := Fc_46.keep K48 nin0
        have Hc_48 := Hc_46.keep K48 nin0
        have Ec_48 := Ec_46.keep K48
        have Hh_key_48 := Hh_key_46.keep K48 nin0
        have Er1_48 := Er1_46.keep K48
        have Hh_c2_39_48 := Hh_c2_39_46.keep K48 nin0
        have Z_48 : n0 ≤ T48.heap.size := Nat.le_trans Z_46 K48.1
        have st49 : ∀ target, Steps p.tables e below (T48.setTop (mkF m 241 #[.val (.int p0), .val (.int p1), .val (.int p2), .val (.int p3), .val (.long q4), .second, .val (.int (0 : Int32)), .val (.int (0 : Int32)), .val (.int (1 : Int32)), .val (.int e0_), .val (.int e1_), .val (.int e2_), .val (.ref key), .val .null, .val (.ref d), .val (.ref c2_39), .val (.ref c2_48)] [(.int e2_), (.int e1_), (.int e0_), (.int (1 : Int32)), (.ref c2_48)])) target → Steps p.tables e below (T48.setTop (mkF m 229 #[.val (.int p0), .val (.int p1), .val (.int p2), .val (.int p3), .val (.long q4), .second, .val (.int (0 : Int32)), .val (.int (0 : Int32)), .val (.int (1 : Int32)), .val (.int e0_), .val (.int e1_), .val (.int e2_), .val (.ref key), .val .null, .val (.ref d), .val (.ref c2_39), .unset] [(.ref c2_48)])) target := by
          intro target kt
          show Steps p.tables e below (T48.setTop (mkF m 229 #[.val (.int p0), .val (.int p1), .val (.int p2), .val (.int p3), .val (.long q4), .second, .val (.int (0 : Int32)), .val (.int (0 : Int32)), .val (.int (1 : Int32)), .val (.int e0_), .val (.int e1_), .val (.int e2_), .val (.ref key), .val .null, .val (.ref d), .val (.ref c2_39), .unset] [(.ref c2_48)])) _
          refine XS.astore X48.here hx rfl (hb hby at_229) rfl rfl (l' := #[.val (.int p0), .val (.int p1), .val (.int p2), .val (.int p3), .val (.long q4), .second, .val (.int (0 : Int32)), .val (.int (0 : Int32)), .val (.int (1 : Int32)), .val (.int e0_), .val (.int e1_), .val (.int e2_), .val (.ref key), .val .null, .val (.ref d), .val (.ref c2_39), .val (.ref c2_48)]) rfl ?_
          show Steps p.tables e below (T48.setTop (mkF m 231 #[.val (.int p0), .val (.int p1), .val (.int p2), .val (.int p3), .val (.long q4), .second, .val (.int (0 : Int32)), .val (.int (0 : Int32)), .val (.int (1 : Int32)), .val (.int e0_), .val (.int e1_), .val (.int e2_), .val (.ref key), .val .null, .val (.ref d), .val (.ref c2_39), .val (.ref c2_48)] [])) _
          refine XS.aload X48.here hx rfl (hb hby at_231) rfl rfl ?_
          show Steps p.tables e below (T48.setTop (mkF m 233 #[.val (.int p0), .val (.int p1), .val (.int p2), .val (.int p3), .val (.long q4), .second, .val (.int (0 : Int32)), .val (.int (0 : Int32)), .val (.int (1 : Int32)), .val (.int e0_), .val (.int e1_), .val (.int e2_), .val (.ref key), .val .null, .val (.ref d), .val (.ref c2_39), .val (.ref c2_48)] [(.ref c2_48)])) _
          refine XS.iload X48.here hx rfl (hb hby at_233) rfl ?_
          show Steps p.tables e below (T48.setTop (mkF m 235 #[.val (.int p0), .val (.int p1), .val (.int p2), .val (.int p3), .val (.long q4), .second, .val (.int (0 : Int32)), .val (.int (0 : Int32)), .val (.int (1 : Int32)), .val (.int e0_), .val (.int e1_), .val (.int e2_), .val (.ref key), .val .null, .val (.ref d), .val (.ref c2_39), .val (.ref c2_48)] [(.int (1 : Int32)), (.ref c2_48)])) _
          refine XS.iload X48.here hx rfl (hb hby at_235) rfl ?_
          show Steps p.tables e below (T48.setTop (mkF m 237 #[.val (.int p0), .val (.int p1), .val (.int p2), .val (.int p3), .val (.long q4), .second, .val (.int (0 : Int32)), .val (.int (0 : Int32)), .val (.int (1 : Int32)), .val (.int e0_), .val (.int e1_), .val (.int e2_), .val (.ref key), .val .null, .val (.ref d), .val (.ref c2_39), .val (.ref c2_48)] [(.int e0_), (.int (1 : Int32)), (.ref c2_48)])) _
          refine XS.iload X48.here hx rfl (hb hby at_237) rfl ?_
          show Steps p.tables e below (T48.setTop (mkF m 239 #[.val (.int p0), .val (.int p1), .val (.int p2), .val (.int p3), .val (.long q4), .second, .val (.int (0 : Int32)), .val (.int (0 : Int32)), .val (.int (1 : Int32)), .val (.int e0_), .val (.int e1_), .val (.int e2_), .val (.ref key), .val .null, .val (.ref d), .val (.ref c2_39), .val (.ref c2_48)] [(.int e1_), (.int e0_), (.int (1 : Int32)), (.ref c2_48)])) _
          refine XS.iload X48.here hx rfl (hb hby at_239) rfl ?_
          exact kt
        obtain ⟨_, _, ⟨T50, L50, k50, n50⟩, -, X50, ⟨Lc50, hQ50, l50, y50, z50⟩, st50⟩ := Jvm.LawKit.callS X48 hx (y := (⟨"com/example/imprimatur/imprimatur/verify/DeviceValuesPublicKeyPinLaw", "same", "([BIBBB)Z"⟩ : MethodName)) hown (mvT hZ (hw _ (List.mem_of_getElem? (i := 52) rfl))) (mvT hZ (hw _ (List.mem_of_getElem? (i := 53) rfl))) (mvT hZ (hw _ (List.mem_of_getElem? (i := 54) rfl))) (mvT hZ (hw _ (List.mem_of_getElem? (i := 55) rfl))) (by decide) (backOf (W := 0) (rmS1 l Z a0 hw [] c2_48 e0_ e1_ e2_ k24 [((0 : Int32), (.int e0_))] T48.heap n0 Z_48 Hr2 rfl) hZ (hw _ (List.mem_of_getElem? (i := 55) rfl)) (hw _ (List.mem_of_getElem? (i := 54) rfl)) (by decide) (by decide)) (g := (mkF m 241 #[.val (.int p0), .val (.int p1), .val (.int p2), .val (.int p3), .val (.long q4), .second, .val (.int (0 : Int32)), .val (.int (0 : Int32)), .val (.int (1 : Int32)), .val (.int e0_), .val (.int e1_), .val (.int e2_), .val (.ref key), .val .null, .val (.ref d), .val (.ref c2_39), .val (.ref c2_48)] [(.int e2_), (.int e1_), (.int e0_), (.int (1 : Int32)), (.ref c2_48)])) rfl (by rw [hml]; rfl) (argsL := [(.ref c2_48), (.int (1 : Int32)), (.int e0_), (.int e1_), (.int e2_)]) (rest := []) (lenOf pd_6 rfl) rfl (by show 2 * 0 + _ ≤ _; exact Nat.le_of_eq rfl) (hb hby at_241) (fun _ _ => ⟨rfl, rfl, (by decide : 6 + 0 ≤ _), (by decide : 15 + 0 ≤ _)⟩)
        dsimp only [Pt.U, Pt.locs, Pt.cells, Pt.slots] at X50 l50 y50 z50 st50 hQ50
        subst l50 y50 z50
        obtain ⟨rfl, Nq50, e50⟩ := hQ50
        have N50 := Fr.app N48 Nq50
        obtain ⟨fs, hr, hrun, hended, hW, hsame⟩ := X50.leave (v := some (.int (1 : Int32))) (fun h => by rw [Bd.returns] at h; cases h)
        refine ⟨_, _, pre0 _ (st1 _ (st2 _ (st3 _ (st4 _ (st5 _ (st6 _ (st23 _ (st24 _ (st25 _ (st26 _ (st27 _ (st28 _ (st29 _ (st30 _ (st31 _ (st32.trans (st33 _ (st35 _ (st36 _ (st37 _ (st38 _ (st39.trans (st40 _ (st41 _ (st42 _ (st44 _ (st45 _ (st46 _ (st47 _ (st48.trans (st49 _ (st50 _ ?_)))))))))))))))))))))))))))))))), hrun, hended, _, _, rfl, ?_, ⟨_, rfl⟩, hW, hsame.mono (by decide) (by decide)⟩
        · show Steps p.tables e below (T50.setTop (mkF m 244 #[.val (.int p0), .val (.int p1), .val (.int p2), .val (.int p3), .val (.long q4), .second, .val (.int (0 : Int32)), .val (.int (0 : Int32)), .val (.int (1 : Int32)), .val (.int e0_), .val (.int e1_), .val (.int e2_), .val (.ref key), .val .null, .val (.ref d), .val (.ref c2_39), .val (.ref c2_48)] [(.int (1 : Int32))])) _
          exact retN X50 hx (t := .boolean) Bd.returns (by simp) (hb hby at_244) hr
        · show Q_rm0 Z p0 p1 p2 p3 q4 ca cc val h0 n0 _ T50.heap _
          rw [e50]
          exact ⟨rfl, N50⟩
      · have st51 : ∀ target, Steps p.tables e below (s₁.setTop (mkF m 55 #[.val (.int p0), .val (.int p1), .val (.int p2), .val (.int p3), .val (.long q4), .second, .val (.int (0 : Int32)), .val (.int (0 : Int32)), .val (.int (2 : Int32)), .val (.int e0_), .val (.int e1_), .val (.int e2_), .val .null, .unset, .unset, .unset, .unset] [(.int (2 : Int32))])) target → Steps p.tables e below (s₁.setTop (mkF m 45 #[.val (.int p0), .val (.int p1), .val (.int p2), .val (.int p3), .val (.long q4), .second, .val (.int (0 : Int32)), .val (.int (0 : Int32)), .val (.int (2 : Int32)), .val (.int e0_), .val (.int e1_), .val (.int e2_), .unset, .unset, .unset, .unset, .unset] [])) target := by
          intro target kt
          show Steps p.tables e below (s₁.setTop (mkF m 45 #[.val (.int p0), .val (.int p1), .val (.int p2), .val (.int p3), .val (.long q4), .second, .val (.int (0 : Int32)), .val (.int (0 : Int32)), .val (.int (2 : Int32)), .val (.int e0_), .val (.int e1_), .val (.int e2_), .unset, .unset, .unset, .unset, .unset] [])) _
          refine XS.aconstNull X0.here hx rfl (hb hby at_45) ?_
          show Steps p.tables e below (s₁.setTop (mkF m 46 #[.val (.int p0), .val (.int p1), .val (.int p2), .val (.int p3), .val (.long q4), .second, .val (.int (0 : Int32)), .val (.int (0 : Int32)), .val (.int (2 : Int32)), .val (.int e0_), .val (.int e1_), .val (.int e2_), .unset, .unset, .unset, .unset, .unset] [.null])) _
          refine XS.astore X0.here hx rfl (hb hby at_46) rfl rfl (l' := #[.val (.int p0), .val (.int p1), .val (.int p2), .val (.int p3), .val (.long q4), .second, .val (.int (0 : Int32)), .val (.int (0 : Int32)), .val (.int (2 : Int32)), .val (.int e0_), .val (.int e1_), .val (.int e2_), .val .null, .unset, .unset, .unset, .unset]) rfl ?_
          show Steps p.tables e below (s₁.setTop (mkF m 48 #[.val (.int p0), .val (.int p1), .val (.int p2), .val (.int p3), .val (.long q4), .second, .val (.int (0 : Int32)), .val (.int (0 : Int32)), .val (.int (2 : Int32)), .val (.int e0_), .val (.int e1_), .val (.int e2_), .val .null, .unset, .unset, .unset, .unset] [])) _
          refine XS.iload X0.here hx rfl (hb hby at_48) rfl ?_
          show Steps p.tables e below (s₁.setTop (mkF m 50 #[.val (.int p0), .val (.int p1), .val (.int p2), .val (.int p3), .val (.long q4), .second, .val (.int (0 : Int32)), .val (.int (0 : Int32)), .val (.int (2 : Int32)), .val (.int e0_), .val (.int e1_), .val (.int e2_), .val .null, .unset, .unset, .unset, .unset] [(.int (0 : Int32))])) _
          refine XS.ifNo X0.here hx rfl (hb hby at_50) rfl ((if0 _ _).trans (teq (rfl : (0 : Int32) = (0 : Int32))).2) ?_
          show Steps p.tables e below (s₁.setTop (mkF m 53 #[.val (.int p0), .val (.int p1), .val (.int p2), .val (.int p3), .val (.long q4), .second, .val (.int (0 : Int32)), .val (.int (0 : Int32)), .val (.int (2 : Int32)), .val (.int e0_), .val (.int e1_), .val (.int e2_), .val .null, .unset, .unset, .unset, .unset] [])) _
          refine XS.iload X0.here hx rfl (hb hby at_53) rfl ?_
          exact kt
        obtain ⟨T52, h52, k52, X52, e52, E52, A52, Ex52, st52⟩ := newPE X0 hx hZ (hw _ (List.mem_of_getElem? (i := 0) rfl)) e0 (g := (mkF m 55 #[.val (.int p0), .val (.int p1), .val (.int p2), .val (.int p3), .val (.long q4), .second, .val (.int (0 : Int32)), .val (.int (0 : Int32)), .val (.int (2 : Int32)), .val (.int e0_), .val (.int e1_), .val (.int e2_), .val .null, .unset, .unset, .unset, .unset] [(.int (2 : Int32))])) rfl (hb hby at_55) rfl (by decide) (cap := 2) (by decide) (by decide) (by decide) (by decide) (ad := "[B") (by decide)
        obtain ⟨key, g52⟩ : ∃ z, z = h0.size := ⟨_, rfl⟩
        rw [← g52] at A52 Ex52 st52
        have g_key : n0 ≤ key := Nat.le_trans Z0 (Nat.le_of_eq g52.symm)
        have Od_52 := Od.ext E52
        have Z_52 : n0 ≤ h52.size := Nat.le_trans Z0 E52.1
        have Hh_key : Arh Z h52 key k52 .byte (2 : Int32) [] [] (.int (0 : Int32)) := Arv.arh (Arv.new A52 (by decide))
        have st53 : ∀ target, Steps p.tables e below (T52.setTop (mkF m 69 #[.val (.int p0), .val (.int p1), .val (.int p2), .val (.int p3), .val (.long q4), .second, .val (.int (0 : Int32)), .val (.int (0 : Int32)), .val (.int (2 : Int32)), .val (.int e0_), .val (.int e1_), .val (.int e2_), .val (.ref key), .unset, .unset, .unset, .unset] [(.int e0_), (.int (0 : Int32)), (.ref key)])) target → Steps p.tables e below (T52.setTop (mkF m 57 #[.val (.int p0), .val (.int p1), .val (.int p2), .val (.int p3), .val (.long q4), .second, .val (.int (0 : Int32)), .val (.int (0 : Int32)), .val (.int (2 : Int32)), .val (.int e0_), .val (.int e1_), .val (.int e2_), .val .null, .unset, .unset, .unset, .unset] [(.ref key)])) target := by
          intro target kt
          show Steps p.tables e below (T52.setTop (mkF m 57 #[.val (.int p0), .val (.int p1), .val (.int p2), .val (.int p3), .val (.long q4), .second, .val (.int (0 : Int32)), .val (.int (0 : Int32)), .val (.int (2 : Int32)), .val (.int e0_), .val (.int e1_), .val (.int e2_), .val .null, .unset, .unset, .unset, .unset] [(.ref key)])) _
          refine XS.astore X52.here hx rfl (hb hby at_57) rfl rfl (l' := #[.val (.int p0), .val (.int p1), .val (.int p2), .val (.int p3), .val (.long q4), .second, .val (.int (0 : Int32)), .val (.int (0 : Int32)), .val (.int (2 : Int32)), .val (.int e0_), .val (.int e1_), .val (.int e2_), .val (.ref key), .unset, .unset, .unset, .unset]) rfl ?_
          show Steps p.tables e below (T52.setTop (mkF m 59 #[.val (.int p0), .val (.int p1), .val (.int p2), .val (.int p3), .val (.long q4), .second, .val (.int (0 : Int32)), .val (.int (0 : Int32)), .val (.int (2 : Int32)), .val (.int e0_), .val (.int e1_), .val (.int e2_), .val (.ref key), .unset, .unset, .unset, .unset] [])) _
          refine XS.iload X52.here hx rfl (hb hby at_59) rfl ?_
          show Steps p.tables e below (T52.setTop (mkF m 61 #[.val (.int p0), .val (.int p1), .val (.int p2), .val (.int p3), .val (.long q4), .second, .val (.int (0 : Int32)), .val (.int (0 : Int32)), .val (.int (2 : Int32)), .val (.int e0_), .val (.int e1_), .val (.int e2_), .val (.ref key), .unset, .unset, .unset, .unset] [(.int (2 : Int32))])) _
          refine XS.ifNo X52.here hx rfl (hb hby at_61) rfl ((if0 _ _).trans (tlt (by decide : ((0 : Int32) < (2 : Int32)))).2.2.2) ?_
          show Steps p.tables e below (T52.setTop (mkF m 64 #[.val (.int p0), .val (.int p1), .val (.int p2), .val (.int p3), .val (.long q4), .second, .val (.int (0 : Int32)), .val (.int (0 : Int32)), .val (.int (2 : Int32)), .val (.int e0_), .val (.int e1_), .val (.int e2_), .val (.ref key), .unset, .unset, .unset, .unset] [])) _
          refine XS.aload X52.here hx rfl (hb hby at_64) rfl rfl ?_
          show Steps p.tables e below (T52.setTop (mkF m 66 #[.val (.int p0), .val (.int p1), .val (.int p2), .val (.int p3), .val (.long q4), .second, .val (.int (0 : Int32)), .val (.int (0 : Int32)), .val (.int (2 : Int32)), .val (.int e0_), .val (.int e1_), .val (.int e2_), .val (.ref key), .unset, .unset, .unset, .unset] [(.ref key)])) _
          refine XS.iconst X52.here hx rfl (hb hby at_66) ?_
          show Steps p.tables e below (T52.setTop (mkF m 67 #[.val (.int p0), .val (.int p1), .val (.int p2), .val (.int p3), .val (.long q4), .second, .val (.int (0 : Int32)), .val (.int (0 : Int32)), .val (.int (2 : Int32)), .val (.int e0_), .val (.int e1_), .val (.int e2_), .val (.ref key), .unset, .unset, .unset, .unset] [(.int (0 : Int32)), (.ref key)])) _
          refine XS.iload X52.here hx rfl (hb hby at_67) rfl ?_
          exact kt
        obtain ⟨cl54, Ar54, qc54, Sz54, Mn54, Hs54, Gs54⟩ := id Hh_key
        have hin54 : ¬ ((0 : Int32) < 0 ∨ cl54.slots.size ≤ ((0 : Int32)).toNatClampNeg) := own_in Sz54 ⟨by decide, by decide⟩
        obtain ⟨T54, h54, X54, e54, W54, st54⟩ := stB X52 hx hZ e52 Ar54 (j := (0 : Int32)) hin54 (g := (mkF m 69 #[.val (.int p0), .val (.int p1), .val (.int p2), .val (.int p3), .val (.long q4), .second, .val (.int (0 : Int32)), .val (.int (0 : Int32)), .val (.int (2 : Int32)), .val (.int e0_), .val (.int e1_), .val (.int e2_), .val (.ref key), .unset, .unset, .unset, .unset] [(.int e0_), (.int (0 : Int32)), (.ref key)])) rfl rfl (hb hby at_69)
        have Hh_key_54 : Arh Z h54 key k52 .byte (2 : Int32) [((0 : Int32), (.int (nar .byte e0_)))] [] (.int (0 : Int32)) := Arh.push Ar54 qc54 Sz54 Mn54 Hs54 Gs54 (fits_nar_byte _) W54 hin54
        have Od_54 := Od_52.wr W54 g_key
        have Ex52_54 := Ex52.wr W54
        have Z_54 : n0 ≤ h54.size := Nat.le_trans Z_52 (Keep.of_wr W54).1
        have N54 := Fr.snoc X54 N0 g_key
        have st55 : ∀ target, Steps p.tables e below (T54.setTop (mkF m 81 #[.val (.int p0), .val (.int p1), .val (.int p2), .val (.int p3), .val (.long q4), .second, .val (.int (0 : Int32)), .val (.int (0 : Int32)), .val (.int (2 : Int32)), .val (.int e0_), .val (.int e1_), .val (.int e2_), .val (.ref key), .unset, .unset, .unset, .unset] [(.int e1_), (.int (1 : Int32)), (.ref key)])) target → Steps p.tables e below (T54.setTop (mkF m 70 #[.val (.int p0), .val (.int p1), .val (.int p2), .val (.int p3), .val (.long q4), .second, .val (.int (0 : Int32)), .val (.int (0 : Int32)), .val (.int (2 : Int32)), .val (.int e0_), .val (.int e1_), .val (.int e2_), .val (.ref key), .unset, .unset, .unset, .unset] [])) target := by
          intro target kt
          show Steps p.tables e below (T54.setTop (mkF m 70 #[.val (.int p0), .val (.int p1), .val (.int p2), .val (.int p3), .val (.long q4), .second, .val (.int (0 : Int32)), .val (.int (0 : Int32)), .val (.int (2 : Int32)), .val (.int e0_), .val (.int e1_), .val (.int e2_), .val (.ref key), .unset, .unset, .unset, .unset] [])) _
          refine XS.iload X54.here hx rfl (hb hby at_70) rfl ?_
          show Steps p.tables e below (T54.setTop (mkF m 72 #[.val (.int p0), .val (.int p1), .val (.int p2), .val (.int p3), .val (.long q4), .second, .val (.int (0 : Int32)), .val (.int (0 : Int32)), .val (.int (2 : Int32)), .val (.int e0_), .val (.int e1_), .val (.int e2_), .val (.ref key), .unset, .unset, .unset, .unset] [(.int (2 : Int32))])) _
          refine XS.iconst X54.here hx rfl (hb hby at_72) ?_
          show Steps p.tables e below (T54.setTop (mkF m 73 #[.val (.int p0), .val (.int p1), .val (.int p2), .val (.int p3), .val (.long q4), .second, .val (.int (0 : Int32)), .val (.int (0 : Int32)), .val (.int (2 : Int32)), .val (.int e0_), .val (.int e1_), .val (.int e2_), .val (.ref key), .unset, .unset, .unset, .unset] [(.int (1 : Int32)), (.int (2 : Int32))])) _
          refine XS.icmpNo X54.here hx rfl (hb hby at_73) rfl (tlt (by decide : ((1 : Int32) < (2 : Int32)))).2.2.2 ?_
          show Steps p.tables e below (T54.setTop (mkF m 76 #[.val (.int p0), .val (.int p1), .val (.int p2), .val (.int p3), .val (.long q4), .second, .val (.int (0 : Int32)), .val (.int (0 : Int32)), .val (.int (2 : Int32)), .val (.int e0_), .val (.int e1_), .val (.int e2_), .val (.ref key), .unset, .unset, .unset, .unset] [])) _
          refine XS.aload X54.here hx rfl (hb hby at_76) rfl rfl ?_
          show Steps p.tables e below (T54.setTop (mkF m 78 #[.val (.int p0), .val (.int p1), .val (.int p2), .val (.int p3), .val (.long q4), .second, .val (.int (0 : Int32)), .val (.int (0 : Int32)), .val (.int (2 : Int32)), .val (.int e0_), .val (.int e1_), .val (.int e2_), .val (.ref key), .unset, .unset, .unset, .unset] [(.ref key)])) _
          refine XS.iconst X54.here hx rfl (hb hby at_78) ?_
          show Steps p.tables e below (T54.setTop (mkF m 79 #[.val (.int p0), .val (.int p1), .val (.int p2), .val (.int p3), .val (.long q4), .second, .val (.int (0 : Int32)), .val (.int (0 : Int32)), .val (.int (2 : Int32)), .val (.int e0_), .val (.int e1_), .val (.int e2_), .val (.ref key), .unset, .unset, .unset, .unset] [(.int (1 : Int32)), (.ref key)])) _
          refine XS.iload X54.here hx rfl (hb hby at_79) rfl ?_
          exact kt
        obtain ⟨cl56, Ar56, qc56, Sz56, Mn56, Hs56, Gs56⟩ := id Hh_key_54
        have hin56 : ¬ ((1 : Int32) < 0 ∨ cl56.slots.size ≤ ((1 : Int32)).toNatClampNeg) := own_in Sz56 ⟨by decide, by decide⟩
        obtain ⟨T56, h56, X56, e56, W56, st56⟩ := stB X54 hx hZ e54 Ar56 (j := (1 : Int32)) hin56 (g := (mkF m 81 #[.val (.int p0), .val (.int p1), .val (.int p2), .val (.int p3), .val (.long q4), .second, .val (.int (0 : Int32)), .val (.int (0 : Int32)), .val (.int (2 : Int32)), .val (.int e0_), .val (.int e1_), .val (.int e2_), .val (.ref key), .unset, .unset, .unset, .unset] [(.int e1_), (.int (1 : Int32)), (.ref key)])) rfl rfl (hb hby at_81)
        have Hh_key_56 : Arh Z h56 key k52 .byte (2 : Int32) [((1 : Int32), (.int (nar .byte e1_))), ((0 : Int32), (.int (nar .byte e0_)))] [] (.int (0 : Int32)) := Arh.push Ar56 qc56 Sz56 Mn56 Hs56 Gs56 (fits_nar_byte _) W56 hin56
        have Od_56 := Od_54.wr W56 g_key
        have Ex52_56 := Ex52_54.wr W56
        have Z_56 : n0 ≤ h56.size := Nat.le_trans Z_54 (Keep.of_wr W56).1
        have N56 := Fr.snoc X56 N54 g_key
        have Hk : Arh Z h56 key k52 .byte (2 : Int32) [((1 : Int32), (.int e1_)), ((0 : Int32), (.int e0_))] [] (.int (0 : Int32)) := by have q := Hh_key_56; rw [ne0_, ne1_] at q; exact q
        have st57 : ∀ target, Steps p.tables e below (T56.setTop (mkF m 126 #[.val (.int p0), .val (.int p1), .val (.int p2), .val (.int p3), .val (.long q4), .second, .val (.int (0 : Int32)), .val (.int (0 : Int32)), .val (.int (2 : Int32)), .val (.int e0_), .val (.int e1_), .val (.int e2_), .val (.ref key), .val .null, .unset, .unset, .unset] [])) target → Steps p.tables e below (T56.setTop (mkF m 82 #[.val (.int p0), .val (.int p1), .val (.int p2), .val (.int p3), .val (.long q4), .second, .val (.int (0 : Int32)), .val (.int (0 : Int32)), .val (.int (2 : Int32)), .val (.int e0_), .val (.int e1_), .val (.int e2_), .val (.ref key), .unset, .unset, .unset, .unset] [])) target := by
          intro target kt
          show Steps p.tables e below (T56.setTop (mkF m 82 #[.val (.int p0), .val (.int p1), .val (.int p2), .val (.int p3), .val (.long q4), .second, .val (.int (0 : Int32)), .val (.int (0 : Int32)), .val (.int (2 : Int32)), .val (.int e0_), .val (.int e1_), .val (.int e2_), .val (.ref key), .unset, .unset, .unset, .unset] [])) _
          refine XS.iload X56.here hx rfl (hb hby at_82) rfl ?_
          show Steps p.tables e below (T56.setTop (mkF m 84 #[.val (.int p0), .val (.int p1), .val (.int p2), .val (.int p3), .val (.long q4), .second, .val (.int (0 : Int32)), .val (.int (0 : Int32)), .val (.int (2 : Int32)), .val (.int e0_), .val (.int e1_), .val (.int e2_), .val (.ref key), .unset, .unset, .unset, .unset] [(.int (2 : Int32))])) _
          refine XS.iconst X56.here hx rfl (hb hby at_84) ?_
          show Steps p.tables e below (T56.setTop (mkF m 85 #[.val (.int p0), .val (.int p1), .val (.int p2), .val (.int p3), .val (.long q4), .second, .val (.int (0 : Int32)), .val (.int (0 : Int32)), .val (.int (2 : Int32)), .val (.int e0_), .val (.int e1_), .val (.int e2_), .val (.ref key), .unset, .unset, .unset, .unset] [(.int (2 : Int32)), (.int (2 : Int32))])) _
          refine XS.icmpYes X56.here hx rfl (pc0 := 85) (pc' := 94) rfl (hb hby at_85) rfl (flt (by decide : ¬ ((2 : Int32) < (2 : Int32)))).2.2.2 (by decide) (by decide) ?_
          show Steps p.tables e below (T56.setTop (mkF m 94 #[.val (.int p0), .val (.int p1), .val (.int p2), .val (.int p3), .val (.long q4), .second, .val (.int (0 : Int32)), .val (.int (0 : Int32)), .val (.int (2 : Int32)), .val (.int e0_), .val (.int e1_), .val (.int e2_), .val (.ref key), .unset, .unset, .unset, .unset] [])) _
          refine XS.aconstNull X56.here hx rfl (hb hby at_94) ?_
          show Steps p.tables e below (T56.setTop (mkF m 95 #[.val (.int p0), .val (.int p1), .val (.int p2), .val (.int p3), .val (.long q4), .second, .val (.int (0 : Int32)), .val (.int (0 : Int32)), .val (.int (2 : Int32)), .val (.int e0_), .val (.int e1_), .val (.int e2_), .val (.ref key), .unset, .unset, .unset, .unset] [.null])) _
          refine XS.astore X56.here hx rfl (hb hby at_95) rfl rfl (l' := #[.val (.int p0), .val (.int p1), .val (.int p2), .val (.int p3), .val (.long q4), .second, .val (.int (0 : Int32)), .val (.int (0 : Int32)), .val (.int (2 : Int32)), .val (.int e0_), .val (.int e1_), .val (.int e2_), .val (.ref key), .val .null, .unset, .unset, .unset]) rfl ?_
          show Steps p.tables e below (T56.setTop (mkF m 97 #[.val (.int p0), .val (.int p1), .val (.int p2), .val (.int p3), .val (.long q4), .second, .val (.int (0 : Int32)), .val (.int (0 : Int32)), .val (.int (2 : Int32)), .val (.int e0_), .val (.int e1_), .val (.int e2_), .val (.ref key), .val .null, .unset, .unset, .unset] [])) _
          refine XS.iload X56.here hx rfl (hb hby at_97) rfl ?_
          show Steps p.tables e below (T56.setTop (mkF m 99 #[.val (.int p0), .val (.int p1), .val (.int p2), .val (.int p3), .val (.long q4), .second, .val (.int (0 : Int32)), .val (.int (0 : Int32)), .val (.int (2 : Int32)), .val (.int e0_), .val (.int e1_), .val (.int e2_), .val (.ref key), .val .null, .unset, .unset, .unset] [(.int (0 : Int32))])) _
          refine XS.ifYes X56.here hx rfl (pc0 := 99) (pc' := 126) rfl (hb hby at_99) rfl ((if0 _ _).trans (teq (rfl : (0 : Int32) = (0 : Int32))).1) (by decide) (by decide) ?_
          exact kt
        obtain ⟨T58, h58, X58, e58, E58, A58, D58, -, st58⟩ := newO X56 hx hZ hown (hw _ (List.mem_of_getElem? (i := 1) rfl)) (hw _ (List.mem_of_getElem? (i := 2) rfl)) (hw _ (List.mem_of_getElem? (i := 3) rfl)) e56 (g := (mkF m 126 #[.val (.int p0), .val (.int p1), .val (.int p2), .val (.int p3), .val (.long q4), .second, .val (.int (0 : Int32)), .val (.int (0 : Int32)), .val (.int (2 : Int32)), .val (.int e0_), .val (.int e1_), .val (.int e2_), .val (.ref key), .val .null, .unset, .unset, .unset] [])) rfl (hb hby at_126) (by decide) (by decide)
        obtain ⟨d, g58⟩ : ∃ z, z = h56.size := ⟨_, rfl⟩
        rw [← g58] at A58 D58 st58
        have g_d : n0 ≤ d := Nat.le_trans Z_56 (Nat.le_of_eq g58.symm)
        have ne_key_d : key ≠ d := Nat.ne_of_lt (Nat.lt_of_lt_of_le Ex52_56.lt (Nat.le_of_eq g58.symm))
        have Od_58 := Od_56.ext E58
        have Ex52_58 := Ex52_56.ext E58
        have Hk_58 := Hk.ext E58
        have Z_58 : n0 ≤ h58.size := Nat.le_trans Z_56 E58.1
        have E_d : Exa Z h58 d "com/example/imprimatur/imprimatur/verify/DeviceValues" := A58
        have F_pkHash_d : Fld Z h58 d "com/example/imprimatur/imprimatur/verify/DeviceValues" "pkHash" "[B" .null := D58 (Or.inr (hw _ (List.mem_of_getElem? (i := 31) rfl))) (ty := (.array .byte)) (by decide)
        have F_hwId_d : Fld Z h58 d "com/example/imprimatur/imprimatur/verify/DeviceValues" "hwId" "Ljava/lang/Long;" .null := D58 (Or.inr (hw _ (List.mem_of_getElem? (i := 33) rfl))) (ty := (.object "java/lang/Long")) (by decide)
        have F_swId_d : Fld Z h58 d "com/example/imprimatur/imprimatur/verify/DeviceValues" "swId" "Ljava/lang/Long;" .null := D58 (Or.inr (hw _ (List.mem_of_getElem? (i := 35) rfl))) (ty := (.object "java/lang/Long")) (by decide)
        have F_publicKey_d : Fld Z h58 d "com/example/imprimatur/imprimatur/verify/DeviceValues" "publicKey" "[B" .null := D58 (Or.inr (hw _ (List.mem_of_getElem? (i := 46) rfl))) (ty := (.array .byte)) (by decide)
        have st59 : ∀ target, Steps p.tables e below (T58.setTop (mkF m 134 #[.val (.int p0), .val (.int p1), .val (.int p2), .val (.int p3), .val (.long q4), .second, .val (.int (0 : Int32)), .val (.int (0 : Int32)), .val (.int (2 : Int32)), .val (.int e0_), .val (.int e1_), .val (.int e2_), .val (.ref key), .val .null, .unset, .unset, .unset] [(.long q4), .null, (.ref d), (.ref d)])) target → Steps p.tables e below (T58.setTop (mkF m 129 #[.val (.int p0), .val (.int p1), .val (.int p2), .val (.int p3), .val (.long q4), .second, .val (.int (0 : Int32)), .val (.int (0 : Int32)), .val (.int (2 : Int32)), .val (.int e0_), .val (.int e1_), .val (.int e2_), .val (.ref key), .val .null, .unset, .unset, .unset] [(.ref d)])) target := by
          intro target kt
          show Steps p.tables e below (T58.setTop (mkF m 129 #[.val (.int p0), .val (.int p1), .val (.int p2), .val (.int p3), .val (.long q4), .second, .val (.int (0 : Int32)), .val (.int (0 : Int32)), .val (.int (2 : Int32)), .val (.int e0_), .val (.int e1_), .val (.int e2_), .val (.ref key), .val .null, .unset, .unset, .unset] [(.ref d)])) _
          refine XS.dup X58.here hx rfl (hb hby at_129) rfl rfl ?_
          show Steps p.tables e below (T58.setTop (mkF m 130 #[.val (.int p0), .val (.int p1), .val (.int p2), .val (.int p3), .val (.long q4), .second, .val (.int (0 : Int32)), .val (.int (0 : Int32)), .val (.int (2 : Int32)), .val (.int e0_), .val (.int e1_), .val (.int e2_), .val (.ref key), .val .null, .unset, .unset, .unset] [(.ref d), (.ref d)])) _
          refine XS.aload X58.here hx rfl (hb hby at_130) rfl rfl ?_
          show Steps p.tables e below (T58.setTop (mkF m 132 #[.val (.int p0), .val (.int p1), .val (.int p2), .val (.int p3), .val (.long q4), .second, .val (.int (0 : Int32)), .val (.int (0 : Int32)), .val (.int (2 : Int32)), .val (.int e0_), .val (.int e1_), .val (.int e2_), .val (.ref key), .val .null, .unset, .unset, .unset] [.null, (.ref d), (.ref d)])) _
          refine XS.lload X58.here hx rfl (hb hby at_132) rfl ?_
          exact kt
        obtain ⟨_, _, ⟨T60, L60, k60, n60⟩, -, X60, ⟨Lc60, hQ60, l60, y60, z60⟩, st60⟩ := Jvm.LawKit.callS X58 hx (y := (⟨"java/lang/Long", "valueOf", "(J)Ljava/lang/Long;"⟩ : MethodName)) hown (mvT hZ (hw _ (List.mem_of_getElem? (i := 4) rfl))) (mvT hZ (hw _ (List.mem_of_getElem? (i := 5) rfl))) (mvT hZ (hw _ (List.mem_of_getElem? (i := 6) rfl))) (mvT hZ (hw _ (List.mem_of_getElem? (i := 7) rfl))) (by decide) (backOf (W := 3) (rm1 l Z a0 hw [] q4 ca cc val h58 n0 Z_58 Bx Od_58 S_c) hZ (hw _ (List.mem_of_getElem? (i := 7) rfl)) (hw _ (List.mem_of_getElem? (i := 6) rfl)) (by decide) (by decide)) (g := (mkF m 134 #[.val (.int p0), .val (.int p1), .val (.int p2), .val (.int p3), .val (.long q4), .second, .val (.int (0 : Int32)), .val (.int (0 : Int32)), .val (.int (2 : Int32)), .val (.int e0_), .val (.int e1_), .val (.int e2_), .val (.ref key), .val .null, .unset, .unset, .unset] [(.long q4), .null, (.ref d), (.ref d)])) rfl (by rw [hml]; rfl) (argsL := [(.long q4)]) (rest := [.null, (.ref d), (.ref d)]) (lenOf pd_0 rfl) rfl (by show 2 * 0 + _ ≤ _; exact Nat.le_of_eq rfl) (hb hby at_134) (fun _ _ => ⟨rfl, e58, (by decide : 2 + 1 ≤ _), (by decide : 6 + 1 ≤ _)⟩)
        dsimp only [Pt.U, Pt.locs, Pt.cells, Pt.slots] at X60 l60 y60 z60 st60 hQ60
        subst l60 y60 z60
        obtain ⟨t60, rfl, Nq60, K60, Et60⟩ := hQ60
        have N60 := Fr.app N56 Nq60
        have Od_60 := Od_58.keep K60 (all0)
        have Ex52_60 := Ex52_58.keep K60
        have Hk_60 := Hk_58.keep K60 nin0
        have E_d_60 := E_d.keep K60
        have F_pkHash_d_60 := F_pkHash_d.keep K60 nin0
        have F_hwId_d_60 := F_hwId_d.keep K60 nin0
        have F_swId_d_60 := F_swId_d.keep K60 nin0
        have F_publicKey_d_60 := F_publicKey_d.keep K60 nin0
        have Z_60 : n0 ≤ T60.heap.size := Nat.le_trans Z_58 K60.1
        have st61 : ∀ target, Steps p.tables e below (T60.setTop (mkF m 140 #[.val (.int p0), .val (.int p1), .val (.int p2), .val (.int p3), .val (.long q4), .second, .val (.int (0 : Int32)), .val (.int (0 : Int32)), .val (.int (2 : Int32)), .val (.int e0_), .val (.int e1_), .val (.int e2_), .val (.ref key), .val .null, .unset, .unset, .unset] [(.ref key), .null, (.ref t60), .null, (.ref d), (.ref d)])) target → Steps p.tables e below (T60.setTop (mkF m 137 #[.val (.int p0), .val (.int p1), .val (.int p2), .val (.int p3), .val (.long q4), .second, .val (.int (0 : Int32)), .val (.int (0 : Int32)), .val (.int (2 : Int32)), .val (.int e0_), .val (.int e1_), .val (.int e2_), .val (.ref key), .val .null, .unset, .unset, .unset] [(.ref t60), .null, (.ref d), (.ref d)])) target := by
          intro target kt
          show Steps p.tables e below (T60.setTop (mkF m 137 #[.val (.int p0), .val (.int p1), .val (.int p2), .val (.int p3), .val (.long q4), .second, .val (.int (0 : Int32)), .val (.int (0 : Int32)), .val (.int (2 : Int32)), .val (.int e0_), .val (.int e1_), .val (.int e2_), .val (.ref key), .val .null, .unset, .unset, .unset] [(.ref t60), .null, (.ref d), (.ref d)])) _
          refine XS.aconstNull X60.here hx rfl (hb hby at_137) ?_
          show Steps p.tables e below (T60.setTop (mkF m 138 #[.val (.int p0), .val (.int p1), .val (.int p2), .val (.int p3), .val (.long q4), .second, .val (.int (0 : Int32)), .val (.int (0 : Int32)), .val (.int (2 : Int32)), .val (.int e0_), .val (.int e1_), .val (.int e2_), .val (.ref key), .val .null, .unset, .unset, .unset] [.null, (.ref t60), .null, (.ref d), (.ref d)])) _
          refine XS.aload X60.here hx rfl (hb hby at_138) rfl rfl ?_
          exact kt
        obtain ⟨_, _, ⟨T62, L62, k62, n62⟩, -, X62, ⟨Lc62, hQ62, l62, y62, z62⟩, st62⟩ := X60.specialBack hx (y := (⟨"com/example/imprimatur/imprimatur/verify/DeviceValues", "<init>", "([BLjava/lang/Long;Ljava/lang/Long;[B)V"⟩ : MethodName)) rfl hown (mvT hZ (hw _ (List.mem_of_getElem? (i := 26) rfl))) (mvT hZ (hw _ (List.mem_of_getElem? (i := 27) rfl))) (mvT hZ (hw _ (List.mem_of_getElem? (i := 28) rfl))) (by decide) (backOf (W := 1) (rmI01 l Z a0 hw [] d t60 key k52 (2 : Int32) [((1 : Int32), (.int e1_)), ((0 : Int32), (.int e0_))] T60.heap n0 Z_60 F_pkHash_d_60 F_hwId_d_60 F_swId_d_60 F_publicKey_d_60 E_d_60 g_d Hk_60 Ex52_60 (Ne.symm ne_key_d) (by decide)) hZ (hw _ (List.mem_of_getElem? (i := 28) rfl)) (hw _ (List.mem_of_getElem? (i := 3) rfl)) (by decide) (by decide)) (g := (mkF m 140 #[.val (.int p0), .val (.int p1), .val (.int p2), .val (.int p3), .val (.long q4), .second, .val (.int (0 : Int32)), .val (.int (0 : Int32)), .val (.int (2 : Int32)), .val (.int e0_), .val (.int e1_), .val (.int e2_), .val (.ref key), .val .null, .unset, .unset, .unset] [(.ref key), .null, (.ref t60), .null, (.ref d), (.ref d)])) rfl (by rw [hml]; rfl) (Steps.refl _) (a := d) (argsL := [.null, (.ref t60), .null, (.ref key)]) (rest := [(.ref d)]) (lenOf pd_3 rfl) rfl (by show 2 * 0 + _ ≤ _; exact Nat.le_of_eq rfl) (hb hby at_140) (fun _ _ => ⟨rfl, rfl, (by decide : 3 + 1 ≤ _), (by decide : 7 + 3 ≤ _)⟩)
        dsimp only [Pt.U, Pt.locs, Pt.cells, Pt.slots] at X62 l62 y62 z62 st62 hQ62
        subst l62 y62 z62
        obtain ⟨rfl, Nq62, K62, Ed, c, szc, Fc, Hc, Ec⟩ := hQ62
        have N62 := Fr.app N60 Nq62
        have g_c : n0 ≤ c := Nat.le_trans Z_60 szc
        have ne_key_c : key ≠ c := Nat.ne_of_lt (Nat.lt_of_lt_of_le Ex52_60.lt szc)
        have ne_d_c : d ≠ c := Nat.ne_of_lt (Nat.lt_of_lt_of_le E_d_60.lt szc)
        have ne_t60_c : t60 ≠ c := Nat.ne_of_lt (Nat.lt_of_lt_of_le Et60.lt szc)
        have Od_62 := Od_60.keep K62 (allS g_d (all0))
        have Ex52_62 := Ex52_60.keep K62
        have Hk_62 := Hk_60.keep K62 (ninS ne_key_d nin0)
        have E_d_62 := E_d_60.keep K62
        have Et60_62 := Et60.keep K62
        have Z_62 : n0 ≤ T62.heap.size := Nat.le_trans Z_60 K62.1
        have st63 : ∀ target, Steps p.tables e below (T62.setTop (mkF m 161 #[.val (.int p0), .val (.int p1), .val (.int p2), .val (.int p3), .val (.long q4), .second, .val (.int (0 : Int32)), .val (.int (0 : Int32)), .val (.int (2 : Int32)), .val (.int e0_), .val (.int e1_), .val (.int e2_), .val (.ref key), .val .null, .val (.ref d), .unset, .unset] [(.int (0 : Int32)), (.ref key), (.int (0 : Int32)), (.ref key)])) target → Steps p.tables e below (T62.setTop (mkF m 143 #[.val (.int p0), .val (.int p1), .val (.int p2), .val (.int p3), .val (.long q4), .second, .val (.int (0 : Int32)), .val (.int (0 : Int32)), .val (.int (2 : Int32)), .val (.int e0_), .val (.int e1_), .val (.int e2_), .val (.ref key), .val .null, .unset, .unset, .unset] [(.ref d)])) target := by
          intro target kt
          show Steps p.tables e below (T62.setTop (mkF m 143 #[.val (.int p0), .val (.int p1), .val (.int p2), .val (.int p3), .val (.long q4), .second, .val (.int (0 : Int32)), .val (.int (0 : Int32)), .val (.int (2 : Int32)), .val (.int e0_), .val (.int e1_), .val (.int e2_), .val (.ref key), .val .null, .unset, .unset, .unset] [(.ref d)])) _
          refine XS.astore X62.here hx rfl (hb hby at_143) rfl rfl (l' := #[.val (.int p0), .val (.int p1), .val (.int p2), .val (.int p3), .val (.long q4), .second, .val (.int (0 : Int32)), .val (.int (0 : Int32)), .val (.int (2 : Int32)), .val (.int e0_), .val (.int e1_), .val (.int e2_), .val (.ref key), .val .null, .val (.ref d), .unset, .unset]) rfl ?_
          show Steps p.tables e below (T62.setTop (mkF m 145 #[.val (.int p0), .val (.int p1), .val (.int p2), .val (.int p3), .val (.long q4), .second, .val (.int (0 : Int32)), .val (.int (0 : Int32)), .val (.int (2 : Int32)), .val (.int e0_), .val (.int e1_), .val (.int e2_), .val (.ref key), .val .null, .val (.ref d), .unset, .unset] [])) _
          refine XS.aload X62.here hx rfl (hb hby at_145) rfl rfl ?_
          show Steps p.tables e below (T62.setTop (mkF m 147 #[.val (.int p0), .val (.int p1), .val (.int p2), .val (.int p3), .val (.long q4), .second, .val (.int (0 : Int32)), .val (.int (0 : Int32)), .val (.int (2 : Int32)), .val (.int e0_), .val (.int e1_), .val (.int e2_), .val (.ref key), .val .null, .val (.ref d), .unset, .unset] [(.ref key)])) _
          refine XS.ifnullNo X62.here hx rfl (hb hby at_147) rfl ?_
          show Steps p.tables e below (T62.setTop (mkF m 150 #[.val (.int p0), .val (.int p1), .val (.int p2), .val (.int p3), .val (.long q4), .second, .val (.int (0 : Int32)), .val (.int (0 : Int32)), .val (.int (2 : Int32)), .val (.int e0_), .val (.int e1_), .val (.int e2_), .val (.ref key), .val .null, .val (.ref d), .unset, .unset] [])) _
          refine XS.iload X62.here hx rfl (hb hby at_150) rfl ?_
          show Steps p.tables e below (T62.setTop (mkF m 152 #[.val (.int p0), .val (.int p1), .val (.int p2), .val (.int p3), .val (.long q4), .second, .val (.int (0 : Int32)), .val (.int (0 : Int32)), .val (.int (2 : Int32)), .val (.int e0_), .val (.int e1_), .val (.int e2_), .val (.ref key), .val .null, .val (.ref d), .unset, .unset] [(.int (2 : Int32))])) _
          refine XS.ifNo X62.here hx rfl (hb hby at_152) rfl ((if0 _ _).trans (tlt (by decide : ((0 : Int32) < (2 : Int32)))).2.2.2) ?_
          show Steps p.tables e below (T62.setTop (mkF m 155 #[.val (.int p0), .val (.int p1), .val (.int p2), .val (.int p3), .val (.long q4), .second, .val (.int (0 : Int32)), .val (.int (0 : Int32)), .val (.int (2 : Int32)), .val (.int e0_), .val (.int e1_), .val (.int e2_), .val (.ref key), .val .null, .val (.ref d), .unset, .unset] [])) _
          refine XS.aload X62.here hx rfl (hb hby at_155) rfl rfl ?_
          show Steps p.tables e below (T62.setTop (mkF m 157 #[.val (.int p0), .val (.int p1), .val (.int p2), .val (.int p3), .val (.long q4), .second, .val (.int (0 : Int32)), .val (.int (0 : Int32)), .val (.int (2 : Int32)), .val (.int e0_), .val (.int e1_), .val (.int e2_), .val (.ref key), .val .null, .val (.ref d), .unset, .unset] [(.ref key)])) _
          refine XS.iconst X62.here hx rfl (hb hby at_157) ?_
          show Steps p.tables e below (T62.setTop (mkF m 158 #[.val (.int p0), .val (.int p1), .val (.int p2), .val (.int p3), .val (.long q4), .second, .val (.int (0 : Int32)), .val (.int (0 : Int32)), .val (.int (2 : Int32)), .val (.int e0_), .val (.int e1_), .val (.int e2_), .val (.ref key), .val .null, .val (.ref d), .unset, .unset] [(.int (0 : Int32)), (.ref key)])) _
          refine XS.aload X62.here hx rfl (hb hby at_158) rfl rfl ?_
          show Steps p.tables e below (T62.setTop (mkF m 160 #[.val (.int p0), .val (.int p1), .val (.int p2), .val (.int p3), .val (.long q4), .second, .val (.int (0 : Int32)), .val (.int (0 : Int32)), .val (.int (2 : Int32)), .val (.int e0_), .val (.int e1_), .val (.int e2_), .val (.ref key), .val .null, .val (.ref d), .unset, .unset] [(.ref key), (.int (0 : Int32)), (.ref key)])) _
          refine XS.iconst X62.here hx rfl (hb hby at_160) ?_
          exact kt
        obtain ⟨cl64, Ar64, qc64, Sz64, Mn64, Hs64, Gs64⟩ := id Hk_62
        have hin64 : ¬ ((0 : Int32) < 0 ∨ cl64.slots.size ≤ ((0 : Int32)).toNatClampNeg) := own_in Sz64 ⟨by decide, by decide⟩
        have hat64 : cl64.slots[((0 : Int32)).toNatClampNeg]? = some (.int e0_) := atH Hs64 hin64 rfl
        have st65 : ∀ target, Steps p.tables e below (T62.setTop (mkF m 162 #[.val (.int p0), .val (.int p1), .val (.int p2), .val (.int p3), .val (.long q4), .second, .val (.int (0 : Int32)), .val (.int (0 : Int32)), .val (.int (2 : Int32)), .val (.int e0_), .val (.int e1_), .val (.int e2_), .val (.ref key), .val .null, .val (.ref d), .unset, .unset] [(.int e0_), (.int (0 : Int32)), (.ref key)])) target → Steps p.tables e below (T62.setTop (mkF m 161 #[.val (.int p0), .val (.int p1), .val (.int p2), .val (.int p3), .val (.long q4), .second, .val (.int (0 : Int32)), .val (.int (0 : Int32)), .val (.int (2 : Int32)), .val (.int e0_), .val (.int e1_), .val (.int e2_), .val (.ref key), .val .null, .val (.ref d), .unset, .unset] [(.int (0 : Int32)), (.ref key), (.int (0 : Int32)), (.ref key)])) target := fun target kt => X62.baloadBytes hx (j := (0 : Int32)) (v := (.int e0_)) Ar64.1 (State.isArrayOf_alike hZ.alike Ar64.2.1) Ar64.2.2 hin64 hat64 (g := (mkF m 161 #[.val (.int p0), .val (.int p1), .val (.int p2), .val (.int p3), .val (.long q4), .second, .val (.int (0 : Int32)), .val (.int (0 : Int32)), .val (.int (2 : Int32)), .val (.int e0_), .val (.int e1_), .val (.int e2_), .val (.ref key), .val .null, .val (.ref d), .unset, .unset] [(.int (0 : Int32)), (.ref key), (.int (0 : Int32)), (.ref key)])) rfl rfl (hb hby at_161) _ kt
        have st66 : ∀ target, Steps p.tables e below (T62.setTop (mkF m 166 #[.val (.int p0), .val (.int p1), .val (.int p2), .val (.int p3), .val (.long q4), .second, .val (.int (0 : Int32)), .val (.int (0 : Int32)), .val (.int (2 : Int32)), .val (.int e0_), .val (.int e1_), .val (.int e2_), .val (.ref key), .val .null, .val (.ref d), .unset, .unset] [(.int ((e0_ ^^^ (90 : Int32)).toInt8.toInt32)), (.int (0 : Int32)), (.ref key)])) target → Steps p.tables e below (T62.setTop (mkF m 162 #[.val (.int p0), .val (.int p1), .val (.int p2), .val (.int p3), .val (.long q4), .second, .val (.int (0 : Int32)), .val (.int (0 : Int32)), .val (.int (2 : Int32)), .val (.int e0_), .val (.int e1_), .val (.int e2_), .val (.ref key), .val .null, .val (.ref d), .unset, .unset] [(.int e0_), (.int (0 : Int32)), (.ref key)])) target := by
          intro target kt
          show Steps p.tables e below (T62.setTop (mkF m 162 #[.val (.int p0), .val (.int p1), .val (.int p2), .val (.int p3), .val (.long q4), .second, .val (.int (0 : Int32)), .val (.int (0 : Int32)), .val (.int (2 : Int32)), .val (.int e0_), .val (.int e1_), .val (.int e2_), .val (.ref key), .val .null, .val (.ref d), .unset, .unset] [(.int e0_), (.int (0 : Int32)), (.ref key)])) _
          refine XS.bipush X62.here hx rfl (hb hby at_162) ?_
          show Steps p.tables e below (T62.setTop (mkF m 164 #[.val (.int p0), .val (.int p1), .val (.int p2), .val (.int p3), .val (.long q4), .second, .val (.int (0 : Int32)), .val (.int (0 : Int32)), .val (.int (2 : Int32)), .val (.int e0_), .val (.int e1_), .val (.int e2_), .val (.ref key), .val .null, .val (.ref d), .unset, .unset] [(.int (90 : Int32)), (.int e0_), (.int (0 : Int32)), (.ref key)])) _
          refine XS.ixor X62.here hx rfl (hb hby at_164) rfl ?_
          show Steps p.tables e below (T62.setTop (mkF m 165 #[.val (.int p0), .val (.int p1), .val (.int p2), .val (.int p3), .val (.long q4), .second, .val (.int (0 : Int32)), .val (.int (0 : Int32)), .val (.int (2 : Int32)), .val (.int e0_), .val (.int e1_), .val (.int e2_), .val (.ref key), .val .null, .val (.ref d), .unset, .unset] [(.int (e0_ ^^^ (90 : Int32))), (.int (0 : Int32)), (.ref key)])) _
          refine XS.i2b X62.here hx rfl (hb hby at_165) rfl ?_
          exact kt
        obtain ⟨cl67, Ar67, qc67, Sz67, Mn67, Hs67, Gs67⟩ := id Hk_62
        have hin67 : ¬ ((0 : Int32) < 0 ∨ cl67.slots.size ≤ ((0 : Int32)).toNatClampNeg) := own_in Sz67 ⟨by decide, by decide⟩
        obtain ⟨T67, h67, X67, e67, W67, st67⟩ := stB X62 hx hZ rfl Ar67 (j := (0 : Int32)) hin67 (g := (mkF m 166 #[.val (.int p0), .val (.int p1), .val (.int p2), .val (.int p3), .val (.long q4), .second, .val (.int (0 : Int32)), .val (.int (0 : Int32)), .val (.int (2 : Int32)), .val (.int e0_), .val (.int e1_), .val (.int e2_), .val (.ref key), .val .null, .val (.ref d), .unset, .unset] [(.int ((e0_ ^^^ (90 : Int32)).toInt8.toInt32)), (.int (0 : Int32)), (.ref key)])) rfl rfl (hb hby at_166)
        have Hh_key_67 : Arh Z h67 key k52 .byte (2 : Int32) [((0 : Int32), (.int (nar .byte ((e0_ ^^^ (90 : Int32)).toInt8.toInt32)))), ((1 : Int32), (.int e1_)), ((0 : Int32), (.int e0_))] [] (.int (0 : Int32)) := Arh.push Ar67 qc67 Sz67 Mn67 Hs67 Gs67 (fits_nar_byte _) W67 hin67
        have Od_67 := Od_62.wr W67 g_key
        have Ex52_67 := Ex52_62.wr W67
        have Ed_67 := Ed.wr W67
        have Et60_67 := Et60_62.wr W67
        have Fc_67 := Fc.other W67 (Or.inl (Ne.symm ne_key_d))
        have Hc_67 := Hc.other W67 (Ne.symm ne_key_c)
        have Ec_67 := Ec.wr W67
        have Z_67 : n0 ≤ h67.size := Nat.le_trans Z_62 (Keep.of_wr W67).1
        have N67 := Fr.snoc X67 N62 g_key
        have st68 : ∀ target, Steps p.tables e below (T67.setTop (mkF m 169 #[.val (.int p0), .val (.int p1), .val (.int p2), .val (.int p3), .val (.long q4), .second, .val (.int (0 : Int32)), .val (.int (0 : Int32)), .val (.int (2 : Int32)), .val (.int e0_), .val (.int e1_), .val (.int e2_), .val (.ref key), .val .null, .val (.ref d), .unset, .unset] [(.ref d)])) target → Steps p.tables e below (T67.setTop (mkF m 167 #[.val (.int p0), .val (.int p1), .val (.int p2), .val (.int p3), .val (.long q4), .second, .val (.int (0 : Int32)), .val (.int (0 : Int32)), .val (.int (2 : Int32)), .val (.int e0_), .val (.int e1_), .val (.int e2_), .val (.ref key), .val .null, .val (.ref d), .unset, .unset] [])) target := by
          intro target kt
          show Steps p.tables e below (T67.setTop (mkF m 167 #[.val (.int p0), .val (.int p1), .val (.int p2), .val (.int p3), .val (.long q4), .second, .val (.int (0 : Int32)), .val (.int (0 : Int32)), .val (.int (2 : Int32)), .val (.int e0_), .val (.int e1_), .val (.int e2_), .val (.ref key), .val .null, .val (.ref d), .unset, .unset] [])) _
          refine XS.aload X67.here hx rfl (hb hby at_167) rfl rfl ?_
          exact kt
        obtain ⟨cq69, kq69, qv69a, qv69b, qv69c⟩ := isOf hZ e67 Ed_67
        obtain ⟨_, _, ⟨T69, L69, k69, n69⟩, -, X69, ⟨Lc69, hQ69, l69, y69, z69⟩, st69⟩ := X67.virtualBack hx (y := (⟨"com/example/imprimatur/imprimatur/verify/DeviceValues", "publicKey", "()[B"⟩ : MethodName)) (z := (⟨"com/example/imprimatur/imprimatur/verify/DeviceValues", "publicKey", "()[B"⟩ : MethodName)) hown (mvT hZ (hw _ (List.mem_of_getElem? (i := 47) rfl))) (mvT hZ (hw _ (List.mem_of_getElem? (i := 48) rfl))) (notFace_of_selects (args := #[]) (mvT hZ (hw _ (List.mem_of_getElem? (i := 50) rfl)))) (mvT hZ (hw _ (List.mem_of_getElem? (i := 50) rfl))) (mvT hZ (hw _ (List.mem_of_getElem? (i := 49) rfl))) (by decide) (backOf (W := 0) (rm_publicKey l Z a0 hw [] d c k52 (2 : Int32) [((1 : Int32), (.int e1_)), ((0 : Int32), (.int e0_))] h67 n0 Z_67 Fc_67 Hc_67 Ec_67 (by decide)) hZ (hw _ (List.mem_of_getElem? (i := 51) rfl)) (hw _ (List.mem_of_getElem? (i := 3) rfl)) (by decide) (by decide)) qv69a qv69c (g := (mkF m 169 #[.val (.int p0), .val (.int p1), .val (.int p2), .val (.int p3), .val (.long q4), .second, .val (.int (0 : Int32)), .val (.int (0 : Int32)), .val (.int (2 : Int32)), .val (.int e0_), .val (.int e1_), .val (.int e2_), .val (.ref key), .val .null, .val (.ref d), .unset, .unset] [(.ref d)])) rfl (by rw [hml]; rfl) (Steps.refl _) (argsL := []) (rest := []) (lenOf pd_5 rfl) rfl (by show 2 * 0 + _ ≤ _; exact Nat.le_of_eq rfl) (hb hby at_169) (fun _ _ => ⟨rfl, e67, (by decide : 4 + 1 ≤ _), (by decide : 10 + 3 ≤ _)⟩)
        dsimp only [Pt.U, Pt.locs, Pt.cells, Pt.slots] at X69 l69 y69 z69 st69 hQ69
        subst l69 y69 z69
        obtain ⟨c2_69, rfl, Nq69, K69, sz69, Hr1, Er1⟩ := hQ69
        have N69 := Fr.app N67 Nq69
        have g_c2_69 : n0 ≤ c2_69 := Nat.le_trans Z_67 sz69
        have ne_key_c2_69 : key ≠ c2_69 := Nat.ne_of_lt (Nat.lt_of_lt_of_le Ex52_67.lt sz69)
        have ne_d_c2_69 : d ≠ c2_69 := Nat.ne_of_lt (Nat.lt_of_lt_of_le Ed_67.lt sz69)
        have ne_t60_c2_69 : t60 ≠ c2_69 := Nat.ne_of_lt (Nat.lt_of_lt_of_le Et60_67.lt sz69)
        have ne_c_c2_69 : c ≠ c2_69 := Nat.ne_of_lt (Nat.lt_of_lt_of_le Hc_67.lt sz69)
        have Od_69 := Od_67.keep K69 (all0)
        have Ex52_69 := Ex52_67.keep K69
        have Ed_69 := Ed_67.keep K69
        have Et60_69 := Et60_67.keep K69
        have Fc_69 := Fc_67.keep K69 nin0
        have Hc_69 := Hc_67.keep K69 nin0
        have Ec_69 := Ec_67.keep K69
        have Hh_key_69 := Hh_key_67.keep K69 nin0
        have Z_69 : n0 ≤ T69.heap.size := Nat.le_trans Z_67 K69.1
        have st70 : ∀ target, Steps p.tables e below (T69.setTop (mkF m 200 #[.val (.int p0), .val (.int p1), .val (.int p2), .val (.int p3), .val (.long q4), .second, .val (.int (0 : Int32)), .val (.int (0 : Int32)), .val (.int (2 : Int32)), .val (.int e0_), .val (.int e1_), .val (.int e2_), .val (.ref key), .val .null, .val (.ref d), .val (.ref c2_69), .unset] [(.int e2_), (.int e1_), (.int e0_), (.int (2 : Int32)), (.ref c2_69)])) target → Steps p.tables e below (T69.setTop (mkF m 172 #[.val (.int p0), .val (.int p1), .val (.int p2), .val (.int p3), .val (.long q4), .second, .val (.int (0 : Int32)), .val (.int (0 : Int32)), .val (.int (2 : Int32)), .val (.int e0_), .val (.int e1_), .val (.int e2_), .val (.ref key), .val .null, .val (.ref d), .unset, .unset] [(.ref c2_69)])) target := by
          intro target kt
          show Steps p.tables e below (T69.setTop (mkF m 172 #[.val (.int p0), .val (.int p1), .val (.int p2), .val (.int p3), .val (.long q4), .second, .val (.int (0 : Int32)), .val (.int (0 : Int32)), .val (.int (2 : Int32)), .val (.int e0_), .val (.int e1_), .val (.int e2_), .val (.ref key), .val .null, .val (.ref d), .unset, .unset] [(.ref c2_69)])) _
          refine XS.astore X69.here hx rfl (hb hby at_172) rfl rfl (l' := #[.val (.int p0), .val (.int p1), .val (.int p2), .val (.int p3), .val (.long q4), .second, .val (.int (0 : Int32)), .val (.int (0 : Int32)), .val (.int (2 : Int32)), .val (.int e0_), .val (.int e1_), .val (.int e2_), .val (.ref key), .val .null, .val (.ref d), .val (.ref c2_69), .unset]) rfl ?_
          show Steps p.tables e below (T69.setTop (mkF m 174 #[.val (.int p0), .val (.int p1), .val (.int p2), .val (.int p3), .val (.long q4), .second, .val (.int (0 : Int32)), .val (.int (0 : Int32)), .val (.int (2 : Int32)), .val (.int e0_), .val (.int e1_), .val (.int e2_), .val (.ref key), .val .null, .val (.ref d), .val (.ref c2_69), .unset] [])) _
          refine XS.iload X69.here hx rfl (hb hby at_174) rfl ?_
          show Steps p.tables e below (T69.setTop (mkF m 176 #[.val (.int p0), .val (.int p1), .val (.int p2), .val (.int p3), .val (.long q4), .second, .val (.int (0 : Int32)), .val (.int (0 : Int32)), .val (.int (2 : Int32)), .val (.int e0_), .val (.int e1_), .val (.int e2_), .val (.ref key), .val .null, .val (.ref d), .val (.ref c2_69), .unset] [(.int (0 : Int32))])) _
          refine XS.ifYes X69.here hx rfl (pc0 := 176) (pc' := 190) rfl (hb hby at_176) rfl ((if0 _ _).trans (teq (rfl : (0 : Int32) = (0 : Int32))).1) (by decide) (by decide) ?_
          show Steps p.tables e below (T69.setTop (mkF m 190 #[.val (.int p0), .val (.int p1), .val (.int p2), .val (.int p3), .val (.long q4), .second, .val (.int (0 : Int32)), .val (.int (0 : Int32)), .val (.int (2 : Int32)), .val (.int e0_), .val (.int e1_), .val (.int e2_), .val (.ref key), .val .null, .val (.ref d), .val (.ref c2_69), .unset] [])) _
          refine XS.aload X69.here hx rfl (hb hby at_190) rfl rfl ?_
          show Steps p.tables e below (T69.setTop (mkF m 192 #[.val (.int p0), .val (.int p1), .val (.int p2), .val (.int p3), .val (.long q4), .second, .val (.int (0 : Int32)), .val (.int (0 : Int32)), .val (.int (2 : Int32)), .val (.int e0_), .val (.int e1_), .val (.int e2_), .val (.ref key), .val .null, .val (.ref d), .val (.ref c2_69), .unset] [(.ref c2_69)])) _
          refine XS.iload X69.here hx rfl (hb hby at_192) rfl ?_
          show Steps p.tables e below (T69.setTop (mkF m 194 #[.val (.int p0), .val (.int p1), .val (.int p2), .val (.int p3), .val (.long q4), .second, .val (.int (0 : Int32)), .val (.int (0 : Int32)), .val (.int (2 : Int32)), .val (.int e0_), .val (.int e1_), .val (.int e2_), .val (.ref key), .val .null, .val (.ref d), .val (.ref c2_69), .unset] [(.int (2 : Int32)), (.ref c2_69)])) _
          refine XS.iload X69.here hx rfl (hb hby at_194) rfl ?_
          show Steps p.tables e below (T69.setTop (mkF m 196 #[.val (.int p0), .val (.int p1), .val (.int p2), .val (.int p3), .val (.long q4), .second, .val (.int (0 : Int32)), .val (.int (0 : Int32)), .val (.int (2 : Int32)), .val (.int e0_), .val (.int e1_), .val (.int e2_), .val (.ref key), .val .null, .val (.ref d), .val (.ref c2_69), .unset] [(.int e0_), (.int (2 : Int32)), (.ref c2_69)])) _
          refine XS.iload X69.here hx rfl (hb hby at_196) rfl ?_
          show Steps p.tables e below (T69.setTop (mkF m 198 #[.val (.int p0), .val (.int p1), .val (.int p2), .val (.int p3), .val (.long q4), .second, .val (.int (0 : Int32)), .val (.int (0 : Int32)), .val (.int (2 : Int32)), .val (.int e0_), .val (.int e1_), .val (.int e2_), .val (.ref key), .val .null, .val (.ref d), .val (.ref c2_69), .unset] [(.int e1_), (.int e0_), (.int (2 : Int32)), (.ref c2_69)])) _
          refine XS.iload X69.here hx rfl (hb hby at_198) rfl ?_
          exact kt
        obtain ⟨_, _, ⟨T71, L71, k71, n71⟩, -, X71, ⟨Lc71, hQ71, l71, y71, z71⟩, st71⟩ := Jvm.LawKit.callS X69 hx (y := (⟨"com/example/imprimatur/imprimatur/verify/DeviceValuesPublicKeyPinLaw", "same", "([BIBBB)Z"⟩ : MethodName)) hown (mvT hZ (hw _ (List.mem_of_getElem? (i := 52) rfl))) (mvT hZ (hw _ (List.mem_of_getElem? (i := 53) rfl))) (mvT hZ (hw _ (List.mem_of_getElem? (i := 54) rfl))) (mvT hZ (hw _ (List.mem_of_getElem? (i := 55) rfl))) (by decide) (backOf (W := 0) (rmS2 l Z a0 hw [] c2_69 e0_ e1_ e2_ k52 [((1 : Int32), (.int e1_)), ((0 : Int32), (.int e0_))] T69.heap n0 Z_69 Hr1 rfl rfl) hZ (hw _ (List.mem_of_getElem? (i := 55) rfl)) (hw _ (List.mem_of_getElem? (i := 54) rfl)) (by decide) (by decide)) (g := (mkF m 200 #[.val (.int p0), .val (.int p1), .val (.int p2), .val (.int p3), .val (.long q4), .second, .val (.int (0 : Int32)), .val (.int (0 : Int32)), .val (.int (2 : Int32)), .val (.int e0_), .val (.int e1_), .val (.int e2_), .val (.ref key), .val .null, .val (.ref d), .val (.ref c2_69), .unset] [(.int e2_), (.int e1_), (.int e0_), (.int (2 : Int32)), (.ref c2_69)])) rfl (by rw [hml]; rfl) (argsL := [(.ref c2_69), (.int (2 : Int32)), (.int e0_), (.int e1_), (.int e2_)]) (rest := []) (lenOf pd_6 rfl) rfl (by show 2 * 0 + _ ≤ _; exact Nat.le_of_eq rfl) (hb hby at_200) (fun _ _ => ⟨rfl, rfl, (by decide : 5 + 0 ≤ _), (by decide : 13 + 0 ≤ _)⟩)
        dsimp only [Pt.U, Pt.locs, Pt.cells, Pt.slots] at X71 l71 y71 z71 st71 hQ71
        subst l71 y71 z71
        obtain ⟨rfl, Nq71, e71⟩ := hQ71
        have N71 := Fr.app N69 Nq71
        have st72 : ∀ target, Steps p.tables e below (T71.setTop (mkF m 219 #[.val (.int p0), .val (.int p1), .val (.int p2), .val (.int p3), .val (.long q4), .second, .val (.int (0 : Int32)), .val (.int (0 : Int32)), .val (.int (2 : Int32)), .val (.int e0_), .val (.int e1_), .val (.int e2_), .val (.ref key), .val .null, .val (.ref d), .val (.ref c2_69), .unset] [(.int (0 : Int32)), (.ref c2_69), (.int (0 : Int32)), (.ref c2_69)])) target → Steps p.tables e below (T71.setTop (mkF m 203 #[.val (.int p0), .val (.int p1), .val (.int p2), .val (.int p3), .val (.long q4), .second, .val (.int (0 : Int32)), .val (.int (0 : Int32)), .val (.int (2 : Int32)), .val (.int e0_), .val (.int e1_), .val (.int e2_), .val (.ref key), .val .null, .val (.ref d), .val (.ref c2_69), .unset] [(.int (1 : Int32))])) target := by
          intro target kt
          show Steps p.tables e below (T71.setTop (mkF m 203 #[.val (.int p0), .val (.int p1), .val (.int p2), .val (.int p3), .val (.long q4), .second, .val (.int (0 : Int32)), .val (.int (0 : Int32)), .val (.int (2 : Int32)), .val (.int e0_), .val (.int e1_), .val (.int e2_), .val (.ref key), .val .null, .val (.ref d), .val (.ref c2_69), .unset] [(.int (1 : Int32))])) _
          refine XS.ifYes X71.here hx rfl (pc0 := 203) (pc' := 208) rfl (hb hby at_203) rfl ((if0 _ _).trans (feq (by decide : ¬ ((1 : Int32) = (0 : Int32)))).2) (by decide) (by decide) ?_
          show Steps p.tables e below (T71.setTop (mkF m 208 #[.val (.int p0), .val (.int p1), .val (.int p2), .val (.int p3), .val (.long q4), .second, .val (.int (0 : Int32)), .val (.int (0 : Int32)), .val (.int (2 : Int32)), .val (.int e0_), .val (.int e1_), .val (.int e2_), .val (.ref key), .val .null, .val (.ref d), .val (.ref c2_69), .unset] [])) _
          refine XS.iload X71.here hx rfl (hb hby at_208) rfl ?_
          show Steps p.tables e below (T71.setTop (mkF m 210 #[.val (.int p0), .val (.int p1), .val (.int p2), .val (.int p3), .val (.long q4), .second, .val (.int (0 : Int32)), .val (.int (0 : Int32)), .val (.int (2 : Int32)), .val (.int e0_), .val (.int e1_), .val (.int e2_), .val (.ref key), .val .null, .val (.ref d), .val (.ref c2_69), .unset] [(.int (2 : Int32))])) _
          refine XS.ifNo X71.here hx rfl (hb hby at_210) rfl ((if0 _ _).trans (tlt (by decide : ((0 : Int32) < (2 : Int32)))).2.2.2) ?_
          show Steps p.tables e below (T71.setTop (mkF m 213 #[.val (.int p0), .val (.int p1), .val (.int p2), .val (.int p3), .val (.long q4), .second, .val (.int (0 : Int32)), .val (.int (0 : Int32)), .val (.int (2 : Int32)), .val (.int e0_), .val (.int e1_), .val (.int e2_), .val (.ref key), .val .null, .val (.ref d), .val (.ref c2_69), .unset] [])) _
          refine XS.aload X71.here hx rfl (hb hby at_213) rfl rfl ?_
          show Steps p.tables e below (T71.setTop (mkF m 215 #[.val (.int p0), .val (.int p1), .val (.int p2), .val (.int p3), .val (.long q4), .second, .val (.int (0 : Int32)), .val (.int (0 : Int32)), .val (.int (2 : Int32)), .val (.int e0_), .val (.int e1_), .val (.int e2_), .val (.ref key), .val .null, .val (.ref d), .val (.ref c2_69), .unset] [(.ref c2_69)])) _
          refine XS.iconst X71.here hx rfl (hb hby at_215) ?_
          show Steps p.tables e below (T71.setTop (mkF m 216 #[.val (.int p0), .val (.int p1), .val (.int p2), .val (.int p3), .val (.long q4), .second, .val (.int (0 : Int32)), .val (.int (0 : Int32)), .val (.int (2 : Int32)), .val (.int e0_), .val (.int e1_), .val (.int e2_), .val (.ref key), .val .null, .val (.ref d), .val (.ref c2_69), .unset] [(.int (0 : Int32)), (.ref c2_69)])) _
          refine XS.aload X71.here hx rfl (hb hby at_216) rfl rfl ?_
          show Steps p.tables e below (T71.setTop (mkF m 218 #[.val (.int p0), .val (.int p1), .val (.int p2), .val (.int p3), .val (.long q4), .second, .val (.int (0 : Int32)), .val (.int (0 : Int32)), .val (.int (2 : Int32)), .val (.int e0_), .val (.int e1_), .val (.int e2_), .val (.ref key), .val .null, .val (.ref d), .val (.ref c2_69), .unset] [(.ref c2_69), (.int (0 : Int32)), (.ref c2_69)])) _
          refine XS.iconst X71.here hx rfl (hb hby at_218) ?_
          exact kt
        obtain ⟨cl73, Ar73, qc73, Sz73, Mn73, Hs73, Gs73⟩ := id Hr1
        have hin73 : ¬ ((0 : Int32) < 0 ∨ cl73.slots.size ≤ ((0 : Int32)).toNatClampNeg) := own_in Sz73 ⟨by decide, by decide⟩
        have hat73 : cl73.slots[((0 : Int32)).toNatClampNeg]? = some (.int e0_) := atH Hs73 hin73 rfl
        have st74 : ∀ target, Steps p.tables e below (T71.setTop (mkF m 220 #[.val (.int p0), .val (.int p1), .val (.int p2), .val (.int p3), .val (.long q4), .second, .val (.int (0 : Int32)), .val (.int (0 : Int32)), .val (.int (2 : Int32)), .val (.int e0_), .val (.int e1_), .val (.int e2_), .val (.ref key), .val .null, .val (.ref d), .val (.ref c2_69), .unset] [(.int e0_), (.int (0 : Int32)), (.ref c2_69)])) target → Steps p.tables e below (T71.setTop (mkF m 219 #[.val (.int p0), .val (.int p1), .val (.int p2), .val (.int p3), .val (.long q4), .second, .val (.int (0 : Int32)), .val (.int (0 : Int32)), .val (.int (2 : Int32)), .val (.int e0_), .val (.int e1_), .val (.int e2_), .val (.ref key), .val .null, .val (.ref d), .val (.ref c2_69), .unset] [(.int (0 : Int32)), (.ref c2_69), (.int (0 : Int32)), (.ref c2_69)])) target := fun target kt => X71.baloadBytes hx (j := (0 : Int32)) (v := (.int e0_)) (by rw [e71]; exact Ar73.1) (State.isArrayOf_alike hZ.alike Ar73.2.1) Ar73.2.2 hin73 hat73 (g := (mkF m 219 #[.val (.int p0), .val (.int p1), .val (.int p2), .val (.int p3), .val (.long q4), .second, .val (.int (0 : Int32)), .val (.int (0 : Int32)), .val (.int (2 : Int32)), .val (.int e0_), .val (.int e1_), .val (.int e2_), .val (.ref key), .val .null, .val (.ref d), .val (.ref c2_69), .unset] [(.int (0 : Int32)), (.ref c2_69), (.int (0 : Int32)), (.ref c2_69)])) rfl rfl (hb hby at_219) _ kt
        have st75 : ∀ target, Steps p.tables e below (T71.setTop (mkF m 223 #[.val (.int p0), .val (.int p1), .val (.int p2), .val (.int p3), .val (.long q4), .second, .val (.int (0 : Int32)), .val (.int (0 : Int32)), .val (.int (2 : Int32)), .val (.int e0_), .val (.int e1_), .val (.int e2_), .val (.ref key), .val .null, .val (.ref d), .val (.ref c2_69), .unset] [(.int ((e0_ ^^^ (1 : Int32)).toInt8.toInt32)), (.int (0 : Int32)), (.ref c2_69)])) target → Steps p.tables e below (T71.setTop (mkF m 220 #[.val (.int p0), .val (.int p1), .val (.int p2), .val (.int p3), .val (.long q4), .second, .val (.int (0 : Int32)), .val (.int (0 : Int32)), .val (.int (2 : Int32)), .val (.int e0_), .val (.int e1_), .val (.int e2_), .val (.ref key), .val .null, .val (.ref d), .val (.ref c2_69), .unset] [(.int e0_), (.int (0 : Int32)), (.ref c2_69)])) target := by
          intro target kt
          show Steps p.tables e below (T71.setTop (mkF m 220 #[.val (.int p0), .val (.int p1), .val (.int p2), .val (.int p3), .val (.long q4), .second, .val (.int (0 : Int32)), .val (.int (0 : Int32)), .val (.int (2 : Int32)), .val (.int e0_), .val (.int e1_), .val (.int e2_), .val (.ref key), .val .null, .val (.ref d), .val (.ref c2_69), .unset] [(.int e0_), (.int (0 : Int32)), (.ref c2_69)])) _
          refine XS.iconst X71.here hx rfl (hb hby at_220) ?_
          show Steps p.tables e below (T71.setTop (mkF m 221 #[.val (.int p0), .val (.int p1), .val (.int p2), .val (.int p3), .val (.long q4), .second, .val (.int (0 : Int32)), .val (.int (0 : Int32)), .val (.int (2 : Int32)), .val (.int e0_), .val (.int e1_), .val (.int e2_), .val (.ref key), .val .null, .val (.ref d), .val (.ref c2_69), .unset] [(.int (1 : Int32)), (.int e0_), (.int (0 : Int32)), (.ref c2_69)])) _
          refine XS.ixor X71.here hx rfl (hb hby at_221) rfl ?_
          show Steps p.tables e below (T71.setTop (mkF m 222 #[.val (.int p0), .val (.int p1), .val (.int p2), .val (.int p3), .val (.long q4), .second, .val (.int (0 : Int32)), .val (.int (0 : Int32)), .val (.int (2 : Int32)), .val (.int e0_), .val (.int e1_), .val (.int e2_), .val (.ref key), .val .null, .val (.ref d), .val (.ref c2_69), .unset] [(.int (e0_ ^^^ (1 : Int32))), (.int (0 : Int32)), (.ref c2_69)])) _
          refine XS.i2b X71.here hx rfl (hb hby at_222) rfl ?_
          exact kt
        obtain ⟨cl76, Ar76, qc76, Sz76, Mn76, Hs76, Gs76⟩ := id Hr1
        have hin76 : ¬ ((0 : Int32) < 0 ∨ cl76.slots.size ≤ ((0 : Int32)).toNatClampNeg) := own_in Sz76 ⟨by decide, by decide⟩
        obtain ⟨T76, h76, X76, e76, W76, st76⟩ := stB X71 hx hZ e71 Ar76 (j := (0 : Int32)) hin76 (g := (mkF m 223 #[.val (.int p0), .val (.int p1), .val (.int p2), .val (.int p3), .val (.long q4), .second, .val (.int (0 : Int32)), .val (.int (0 : Int32)), .val (.int (2 : Int32)), .val (.int e0_), .val (.int e1_), .val (.int e2_), .val (.ref key), .val .null, .val (.ref d), .val (.ref c2_69), .unset] [(.int ((e0_ ^^^ (1 : Int32)).toInt8.toInt32)), (.int (0 : Int32)), (.ref c2_69)])) rfl rfl (hb hby at_223)
        have Hh_c2_69_76 : Arh Z h76 c2_69 k52 .byte (2 : Int32) [((0 : Int32), (.int (nar .byte ((e0_ ^^^ (1 : Int32)).toInt8.toInt32)))), ((1 : Int32), (.int e1_)), ((0 : Int32), (.int e0_))] [] (.int (0 : Int32)) := Arh.push Ar76 qc76 Sz76 Mn76 Hs76 Gs76 (fits_nar_byte _) W76 hin76
        have Od_76 := Od_69.wr W76 g_c2_69
        have Ex52_76 := Ex52_69.wr W76
        have Ed_76 := Ed_69.wr W76
        have Et60_76 := Et60_69.wr W76
        have Fc_76 := Fc_69.other W76 (Or.inl ne_d_c2_69)
        have Hc_76 := Hc_69.other W76 ne_c_c2_69
        have Ec_76 := Ec_69.wr W76
        have Hh_key_76 := Hh_key_69.other W76 ne_key_c2_69
        have Er1_76 := Er1.wr W76
        have Z_76 : n0 ≤ h76.size := Nat.le_trans Z_69 (Keep.of_wr W76).1
        have N76 := Fr.snoc X76 N71 g_c2_69
        have st77 : ∀ target, Steps p.tables e below (T76.setTop (mkF m 226 #[.val (.int p0), .val (.int p1), .val (.int p2), .val (.int p3), .val (.long q4), .second, .val (.int (0 : Int32)), .val (.int (0 : Int32)), .val (.int (2 : Int32)), .val (.int e0_), .val (.int e1_), .val (.int e2_), .val (.ref key), .val .null, .val (.ref d), .val (.ref c2_69), .unset] [(.ref d)])) target → Steps p.tables e below (T76.setTop (mkF m 224 #[.val (.int p0), .val (.int p1), .val (.int p2), .val (.int p3), .val (.long q4), .second, .val (.int (0 : Int32)), .val (.int (0 : Int32)), .val (.int (2 : Int32)), .val (.int e0_), .val (.int e1_), .val (.int e2_), .val (.ref key), .val .null, .val (.ref d), .val (.ref c2_69), .unset] [])) target := by
          intro target kt
          show Steps p.tables e below (T76.setTop (mkF m 224 #[.val (.int p0), .val (.int p1), .val (.int p2), .val (.int p3), .val (.long q4), .second, .val (.int (0 : Int32)), .val (.int (0 : Int32)), .val (.int (2 : Int32)), .val (.int e0_), .val (.int e1_), .val (.int e2_), .val (.ref key), .val .null, .val (.ref d), .val (.ref c2_69), .unset] [])) _
          refine XS.aload X76.here hx rfl (hb hby at_224) rfl rfl ?_
          exact kt
        obtain ⟨cq78, kq78, qv78a, qv78b, qv78c⟩ := isOf hZ e76 Ed_76
        obtain ⟨_, _, ⟨T78, L78, k78, n78⟩, -, X78, ⟨Lc78, hQ78, l78, y78, z78⟩, st78⟩ := X76.virtualBack hx (y := (⟨"com/example/imprimatur/imprimatur/verify/DeviceValues", "publicKey", "()[B"⟩ : MethodName)) (z := (⟨"com/example/imprimatur/imprimatur/verify/DeviceValues", "publicKey", "()[B"⟩ : MethodName)) hown (mvT hZ (hw _ (List.mem_of_getElem? (i := 47) rfl))) (mvT hZ (hw _ (List.mem_of_getElem? (i := 48) rfl))) (notFace_of_selects (args := #[]) (mvT hZ (hw _ (List.mem_of_getElem? (i := 50) rfl)))) (mvT hZ (hw _ (List.mem_of_getElem? (i := 50) rfl))) (mvT hZ (hw _ (List.mem_of_getElem? (i := 49) rfl))) (by decide) (backOf (W := 0) (rm_publicKey l Z a0 hw [] d c k52 (2 : Int32) [((1 : Int32), (.int e1_)), ((0 : Int32), (.int e0_))] h76 n0 Z_76 Fc_76 Hc_76 Ec_76 (by decide)) hZ (hw _ (List.mem_of_getElem? (i := 51) rfl)) (hw _ (List.mem_of_getElem? (i := 3) rfl)) (by decide) (by decide)) qv78a qv78c (g := (mkF m 226 #[.val (.int p0), .val (.int p1), .val (.int p2), .val (.int p3), .val (.long q4), .second, .val (.int (0 : Int32)), .val (.int (0 : Int32)), .val (.int (2 : Int32)), .val (.int e0_), .val (.int e1_), .val (.int e2_), .val (.ref key), .val .null, .val (.ref d), .val (.ref c2_69), .unset] [(.ref d)])) rfl (by rw [hml]; rfl) (Steps.refl _) (argsL := []) (rest := []) (lenOf pd_5 rfl) rfl (by show 2 * 0 + _ ≤ _; exact Nat.le_of_eq rfl) (hb hby at_226) (fun _ _ => ⟨rfl, e76, (by decide : 5 + 1 ≤ _), (by decide : 13 + 3 ≤ _)⟩)
        dsimp only [Pt.U, Pt.locs, Pt.cells, Pt.slots] at X78 l78 y78 z78 st78 hQ78
        subst l78 y78 z78
        obtain ⟨c2_78, rfl, Nq78, K78, sz78, Hr2, Er2⟩ := hQ78
        have N78 := Fr.app N76 Nq78
        have g_c2_78 : n0 ≤ c2_78 := Nat.le_trans Z_76 sz78
        have ne_key_c2_78 : key ≠ c2_78 := Nat.ne_of_lt (Nat.lt_of_lt_of_le Ex52_76.lt sz78)
        have ne_d_c2_78 : d ≠ c2_78 := Nat.ne_of_lt (Nat.lt_of_lt_of_le Ed_76.lt sz78)
        have ne_t60_c2_78 : t60 ≠ c2_78 := Nat.ne_of_lt (Nat.lt_of_lt_of_le Et60_76.lt sz78)
        have ne_c_c2_78 : c ≠ c2_78 := Nat.ne_of_lt (Nat.lt_of_lt_of_le Hc_76.lt sz78)
        have ne_c2_69_c2_78 : c2_69 ≠ c2_78 := Nat.ne_of_lt (Nat.lt_of_lt_of_le Er1_76.lt sz78)
        have Od_78 := Od_76.keep K78 (all0)
        have Ex52_78 := Ex52_76.keep K78
        have Ed_78 := Ed_76.keep K78
        have Et60_78 := Et60_76.keep K78
        have Fc_78 := Fc_76.keep K78 nin0
        have Hc_78 := Hc_76.keep K78 nin0
        have Ec_78 := Ec_76.keep K78
        have Hh_key_78 := Hh_key_76.keep K78 nin0
        have Er1_78 := Er1_76.keep K78
        have Hh_c2_69_78 := Hh_c2_69_76.keep K78 nin0
        have Z_78 : n0 ≤ T78.heap.size := Nat.le_trans Z_76 K78.1
        have st79 : ∀ target, Steps p.tables e below (T78.setTop (mkF m 241 #[.val (.int p0), .val (.int p1), .val (.int p2), .val (.int p3), .val (.long q4), .second, .val (.int (0 : Int32)), .val (.int (0 : Int32)), .val (.int (2 : Int32)), .val (.int e0_), .val (.int e1_), .val (.int e2_), .val (.ref key), .val .null, .val (.ref d), .val (.ref c2_69), .val (.ref c2_78)] [(.int e2_), (.int e1_), (.int e0_), (.int (2 : Int32)), (.ref c2_78)])) target → Steps p.tables e below (T78.setTop (mkF m 229 #[.val (.int p0), .val (.int p1), .val (.int p2), .val (.int p3), .val (.long q4), .second, .val (.int (0 : Int32)), .val (.int (0 : Int32)), .val (.int (2 : Int32)), .val (.int e0_), .val (.int e1_), .val (.int e2_), .val (.ref key), .val .null, .val (.ref d), .val (.ref c2_69), .unset] [(.ref c2_78)])) target := by
          intro target kt
          show Steps p.tables e below (T78.setTop (mkF m 229 #[.val (.int p0), .val (.int p1), .val (.int p2), .val (.int p3), .val (.long q4), .second, .val (.int (0 : Int32)), .val (.int (0 : Int32)), .val (.int (2 : Int32)), .val (.int e0_), .val (.int e1_), .val (.int e2_), .val (.ref key), .val .null, .val (.ref d), .val (.ref c2_69), .unset] [(.ref c2_78)])) _
          refine XS.astore X78.here hx rfl (hb hby at_229) rfl rfl (l' := #[.val (.int p0), .val (.int p1), .val (.int p2), .val (.int p3), .val (.long q4), .second, .val (.int (0 : Int32)), .val (.int (0 : Int32)), .val (.int (2 : Int32)), .val (.int e0_), .val (.int e1_), .val (.int e2_), .val (.ref key), .val .null, .val (.ref d), .val (.ref c2_69), .val (.ref c2_78)]) rfl ?_
          show Steps p.tables e below (T78.setTop (mkF m 231 #[.val (.int p0), .val (.int p1), .val (.int p2), .val (.int p3), .val (.long q4), .second, .val (.int (0 : Int32)), .val (.int (0 : Int32)), .val (.int (2 : Int32)), .val (.int e0_), .val (.int e1_), .val (.int e2_), .val (.ref key), .val .null, .val (.ref d), .val (.ref c2_69), .val (.ref c2_78)] [])) _
          refine XS.aload X78.here hx rfl (hb hby at_231) rfl rfl ?_
          show Steps p.tables e below (T78.setTop (mkF m 233 #[.val (.int p0), .val (.int p1), .val (.int p2), .val (.int p3), .val (.long q4), .second, .val (.int (0 : Int32)), .val (.int (0 : Int32)), .val (.int (2 : Int32)), .val (.int e0_), .val (.int e1_), .val (.int e2_), .val (.ref key), .val .null, .val (.ref d), .val (.ref c2_69), .val (.ref c2_78)] [(.ref c2_78)])) _
          refine XS.iload X78.here hx rfl (hb hby at_233) rfl ?_
          show Steps p.tables e below (T78.setTop (mkF m 235 #[.val (.int p0), .val (.int p1), .val (.int p2), .val (.int p3), .val (.long q4), .second, .val (.int (0 : Int32)), .val (.int (0 : Int32)), .val (.int (2 : Int32)), .val (.int e0_), .val (.int e1_), .val (.int e2_), .val (.ref key), .val .null, .val (.ref d), .val (.ref c2_69), .val (.ref c2_78)] [(.int (2 : Int32)), (.ref c2_78)])) _
          refine XS.iload X78.here hx rfl (hb hby at_235) rfl ?_
          show Steps p.tables e below (T78.setTop (mkF m 237 #[.val (.int p0), .val (.int p1), .val (.int p2), .val (.int p3), .val (.long q4), .second, .val (.int (0 : Int32)), .val (.int (0 : Int32)), .val (.int (2 : Int32)), .val (.int e0_), .val (.int e1_), .val (.int e2_), .val (.ref key), .val .null, .val (.ref d), .val (.ref c2_69), .val (.ref c2_78)] [(.int e0_), (.int (2 : Int32)), (.ref c2_78)])) _
          refine XS.iload X78.here hx rfl (hb hby at_237) rfl ?_
          show Steps p.tables e below (T78.setTop (mkF m 239 #[.val (.int p0), .val (.int p1), .val (.int p2), .val (.int p3), .val (.long q4), .second, .val (.int (0 : Int32)), .val (.int (0 : Int32)), .val (.int (2 : Int32)), .val (.int e0_), .val (.int e1_), .val (.int e2_), .val (.ref key), .val .null, .val (.ref d), .val (.ref c2_69), .val (.ref c2_78)] [(.int e1_), (.int e0_), (.int (2 : Int32)), (.ref c2_78)])) _
          refine XS.iload X78.here hx rfl (hb hby at_239) rfl ?_
          exact kt
        obtain ⟨_, _, ⟨T80, L80, k80, n80⟩, -, X80, ⟨Lc80, hQ80, l80, y80, z80⟩, st80⟩ := Jvm.LawKit.callS X78 hx (y := (⟨"com/example/imprimatur/imprimatur/verify/DeviceValuesPublicKeyPinLaw", "same", "([BIBBB)Z"⟩ : MethodName)) hown (mvT hZ (hw _ (List.mem_of_getElem? (i := 52) rfl))) (mvT hZ (hw _ (List.mem_of_getElem? (i := 53) rfl))) (mvT hZ (hw _ (List.mem_of_getElem? (i := 54) rfl))) (mvT hZ (hw _ (List.mem_of_getElem? (i := 55) rfl))) (by decide) (backOf (W := 0) (rmS2 l Z a0 hw [] c2_78 e0_ e1_ e2_ k52 [((1 : Int32), (.int e1_)), ((0 : Int32), (.int e0_))] T78.heap n0 Z_78 Hr2 rfl rfl) hZ (hw _ (List.mem_of_getElem? (i := 55) rfl)) (hw _ (List.mem_of_getElem? (i := 54) rfl)) (by decide) (by decide)) (g := (mkF m 241 #[.val (.int p0), .val (.int p1), .val (.int p2), .val (.int p3), .val (.long q4), .second, .val (.int (0 : Int32)), .val (.int (0 : Int32)), .val (.int (2 : Int32)), .val (.int e0_), .val (.int e1_), .val (.int e2_), .val (.ref key), .val .null, .val (.ref d), .val (.ref c2_69), .val (.ref c2_78)] [(.int e2_), (.int e1_), (.int e0_), (.int (2 : Int32)), (.ref c2_78)])) rfl (by rw [hml]; rfl) (argsL := [(.ref c2_78), (.int (2 : Int32)), (.int e0_), (.int e1_), (.int e2_)]) (rest := []) (lenOf pd_6 rfl) rfl (by show 2 * 0 + _ ≤ _; exact Nat.le_of_eq rfl) (hb hby at_241) (fun _ _ => ⟨rfl, rfl, (by decide : 6 + 0 ≤ _), (by decide : 16 + 0 ≤ _)⟩)
        dsimp only [Pt.U, Pt.locs, Pt.cells, Pt.slots] at X80 l80 y80 z80 st80 hQ80
        subst l80 y80 z80
        obtain ⟨rfl, Nq80, e80⟩ := hQ80
        have N80 := Fr.app N78 Nq80
        obtain ⟨fs, hr, hrun, hended, hW, hsame⟩ := X80.leave (v := some (.int (1 : Int32))) (fun h => by rw [Bd.returns] at h; cases h)
        refine ⟨_, _, pre0 _ (st1 _ (st2 _ (st3 _ (st4 _ (st5 _ (st6 _ (st51 _ (st52 _ (st53 _ (st54 _ (st55 _ (st56 _ (st57 _ (st58 _ (st59 _ (st60 _ (st61 _ (st62.trans (st63 _ (st65 _ (st66 _ (st67 _ (st68 _ (st69.trans (st70 _ (st71 _ (st72 _ (st74 _ (st75 _ (st76 _ (st77 _ (st78.trans (st79 _ (st80 _ ?_)))))))))))))))))))))))))))))))))), hrun, hended, _, _, rfl, ?_, ⟨_, rfl⟩, hW, hsame.mono (by decide) (by decide)⟩
        · show Steps p.tables e below (T80.setTop (mkF m 244 #[.val (.int p0), .val (.int p1), .val (.int p2), .val (.int p3), .val (.long q4), .second, .val (.int (0 : Int32)), .val (.int (0 : Int32)), .val (.int (2 : Int32)), .val (.int e0_), .val (.int e1_), .val (.int e2_), .val (.ref key), .val .null, .val (.ref d), .val (.ref c2_69), .val (.ref c2_78)] [(.int (1 : Int32))])) _
          exact retN X80 hx (t := .boolean) Bd.returns (by simp) (hb hby at_244) hr
        · show Q_rm0 Z p0 p1 p2 p3 q4 ca cc val h0 n0 _ T80.heap _
          rw [e80]
          exact ⟨rfl, N80⟩
      · have st81 : ∀ target, Steps p.tables e below (s₁.setTop (mkF m 55 #[.val (.int p0), .val (.int p1), .val (.int p2), .val (.int p3), .val (.long q4), .second, .val (.int (0 : Int32)), .val (.int (0 : Int32)), .val (.int (3 : Int32)), .val (.int e0_), .val (.int e1_), .val (.int e2_), .val .null, .unset, .unset, .unset, .unset] [(.int (3 : Int32))])) target → Steps p.tables e below (s₁.setTop (mkF m 45 #[.val (.int p0), .val (.int p1), .val (.int p2), .val (.int p3), .val (.long q4), .second, .val (.int (0 : Int32)), .val (.int (0 : Int32)), .val (.int (3 : Int32)), .val (.int e0_), .val (.int e1_), .val (.int e2_), .unset, .unset, .unset, .unset, .unset] [])) target := by
          intro target kt
          show Steps p.tables e below (s₁.setTop (mkF m 45 #[.val (.int p0), .val (.int p1), .val (.int p2), .val (.int p3), .val (.long q4), .second, .val (.int (0 : Int32)), .val (.int (0 : Int32)), .val (.int (3 : Int32)), .val (.int e0_), .val (.int e1_), .val (.int e2_), .unset, .unset, .unset, .unset, .unset] [])) _
          refine XS.aconstNull X0.here hx rfl (hb hby at_45) ?_
          show Steps p.tables e below (s₁.setTop (mkF m 46 #[.val (.int p0), .val (.int p1), .val (.int p2), .val (.int p3), .val (.long q4), .second, .val (.int (0 : Int32)), .val (.int (0 : Int32)), .val (.int (3 : Int32)), .val (.int e0_), .val (.int e1_), .val (.int e2_), .unset, .unset, .unset, .unset, .unset] [.null])) _
          refine XS.astore X0.here hx rfl (hb hby at_46) rfl rfl (l' := #[.val (.int p0), .val (.int p1), .val (.int p2), .val (.int p3), .val (.long q4), .second, .val (.int (0 : Int32)), .val (.int (0 : Int32)), .val (.int (3 : Int32)), .val (.int e0_), .val (.int e1_), .val (.int e2_), .val .null, .unset, .unset, .unset, .unset]) rfl ?_
          show Steps p.tables e below (s₁.setTop (mkF m 48 #[.val (.int p0), .val (.int p1), .val (.int p2), .val (.int p3), .val (.long q4), .second, .val (.int (0 : Int32)), .val (.int (0 : Int32)), .val (.int (3 : Int32)), .val (.int e0_), .val (.int e1_), .val (.int e2_), .val .null, .unset, .unset, .unset, .unset] [])) _
          refine XS.iload X0.here hx rfl (hb hby at_48) rfl ?_
          show Steps p.tables e below (s₁.setTop (mkF m 50 #[.val (.int p0), .val (.int p1), .val (.int p2), .val (.int p3), .val (.long q4), .second, .val (.int (0 : Int32)), .val (.int (0 : Int32)), .val (.int (3 : Int32)), .val (.int e0_), .val (.int e1_), .val (.int e2_), .val .null, .unset, .unset, .unset, .unset] [(.int (0 : Int32))])) _
          refine XS.ifNo X0.here hx rfl (hb hby at_50) rfl ((if0 _ _).trans (teq (rfl : (0 : Int32) = (0 : Int32))).2) ?_
          show Steps p.tables e below (s₁.setTop (mkF m 53 #[.val (.int p0), .val (.int p1), .val (.int p2), .val (.int p3), .val (.long q4), .second, .val (.int (0 : Int32)), .val (.int (0 : Int32)), .val (.int (3 : Int32)), .val (.int e0_), .val (.int e1_), .val (.int e2_), .val .null, .unset, .unset, .unset, .unset] [])) _
          refine XS.iload X0.here hx rfl (hb hby at_53) rfl ?_
          exact kt
        obtain ⟨T82, h82, k82, X82, e82, E82, A82, Ex82, st82⟩ := newPE X0 hx hZ (hw _ (List.mem_of_getElem? (i := 0) rfl)) e0 (g := (mkF m 55 #[.val (.int p0), .val (.int p1), .val (.int p2), .val (.int p3), .val (.long q4), .second, .val (.int (0 : Int32)), .val (.int (0 : Int32)), .val (.int (3 : Int32)), .val (.int e0_), .val (.int e1_), .val (.int e2_), .val .null, .unset, .unset, .unset, .unset] [(.int (3 : Int32))])) rfl (hb hby at_55) rfl (by decide) (cap := 3) (by decide) (by decide) (by decide) (by decide) (ad := "[B") (by decide)
        obtain ⟨key, g82⟩ : ∃ z, z = h0.size := ⟨_, rfl⟩
        rw [← g82] at A82 Ex82 st82
        have g_key : n0 ≤ key := Nat.le_trans Z0 (Nat.le_of_eq g82.symm)
        have Od_82 := Od.ext E82
        have Z_82 : n0 ≤ h82.size := Nat.le_trans Z0 E82.1
        have Hh_key : Arh Z h82 key k82 .byte (3 : Int32) [] [] (.int (0 : Int32)) := Arv.arh (Arv.new A82 (by decide))
        have st83 : ∀ target, Steps p.tables e below (T82.setTop (mkF m 69 #[.val (.int p0), .val (.int p1), .val (.int p2), .val (.int p3), .val (.long q4), .second, .val (.int (0 : Int32)), .val (.int (0 : Int32)), .val (.int (3 : Int32)), .val (.int e0_), .val (.int e1_), .val (.int e2_), .val (.ref key), .unset, .unset, .unset, .unset] [(.int e0_), (.int (0 : Int32)), (.ref key)])) target → Steps p.tables e below (T82.setTop (mkF m 57 #[.val (.int p0), .val (.int p1), .val (.int p2), .val (.int p3), .val (.long q4), .second, .val (.int (0 : Int32)), .val (.int (0 : Int32)), .val (.int (3 : Int32)), .val (.int e0_), .val (.int e1_), .val (.int e2_), .val .null, .unset, .unset, .unset, .unset] [(.ref key)])) target := by
          intro target kt
          show Steps p.tables e below (T82.setTop (mkF m 57 #[.val (.int p0), .val (.int p1), .val (.int p2), .val (.int p3), .val (.long q4), .second, .val (.int (0 : Int32)), .val (.int (0 : Int32)), .val (.int (3 : Int32)), .val (.int e0_), .val (.int e1_), .val (.int e2_), .val .null, .unset, .unset, .unset, .unset] [(.ref key)])) _
          refine XS.astore X82.here hx rfl (hb hby at_57) rfl rfl (l' := #[.val (.int p0), .val (.int p1), .val (.int p2), .val (.int p3), .val (.long q4), .second, .val (.int (0 : Int32)), .val (.int (0 : Int32)), .val (.int (3 : Int32)), .val (.int e0_), .val (.int e1_), .val (.int e2_), .val (.ref key), .unset, .unset, .unset, .unset]) rfl ?_
          show Steps p.tables e below (T82.setTop (mkF m 59 #[.val (.int p0), .val (.int p1), .val (.int p2), .val (.int p3), .val (.long q4), .second, .val (.int (0 : Int32)), .val (.int (0 : Int32)), .val (.int (3 : Int32)), .val (.int e0_), .val (.int e1_), .val (.int e2_), .val (.ref key), .unset, .unset, .unset, .unset] [])) _
          refine XS.iload X82.here hx rfl (hb hby at_59) rfl ?_
          show Steps p.tables e below (T82.setTop (mkF m 61 #[.val (.int p0), .val (.int p1), .val (.int p2), .val (.int p3), .val (.long q4), .second, .val (.int (0 : Int32)), .val (.int (0 : Int32)), .val (.int (3 : Int32)), .val (.int e0_), .val (.int e1_), .val (.int e2_), .val (.ref key), .unset, .unset, .unset, .unset] [(.int (3 : Int32))])) _
          refine XS.ifNo X82.here hx rfl (hb hby at_61) rfl ((if0 _ _).trans (tlt (by decide : ((0 : Int32) < (3 : Int32)))).2.2.2) ?_
          show Steps p.tables e below (T82.setTop (mkF m 64 #[.val (.int p0), .val (.int p1), .val (.int p2), .val (.int p3), .val (.long q4), .second, .val (.int (0 : Int32)), .val (.int (0 : Int32)), .val (.int (3 : Int32)), .val (.int e0_), .val (.int e1_), .val (.int e2_), .val (.ref key), .unset, .unset, .unset, .unset] [])) _
          refine XS.aload X82.here hx rfl (hb hby at_64) rfl rfl ?_
          show Steps p.tables e below (T82.setTop (mkF m 66 #[.val (.int p0), .val (.int p1), .val (.int p2), .val (.int p3), .val (.long q4), .second, .val (.int (0 : Int32)), .val (.int (0 : Int32)), .val (.int (3 : Int32)), .val (.int e0_), .val (.int e1_), .val (.int e2_), .val (.ref key), .unset, .unset, .unset, .unset] [(.ref key)])) _
          refine XS.iconst X82.here hx rfl (hb hby at_66) ?_
          show Steps p.tables e below (T82.setTop (mkF m 67 #[.val (.int p0), .val (.int p1), .val (.int p2), .val (.int p3), .val (.long q4), .second, .val (.int (0 : Int32)), .val (.int (0 : Int32)), .val (.int (3 : Int32)), .val (.int e0_), .val (.int e1_), .val (.int e2_), .val (.ref key), .unset, .unset, .unset, .unset] [(.int (0 : Int32)), (.ref key)])) _
          refine XS.iload X82.here hx rfl (hb hby at_67) rfl ?_
          exact kt
        obtain ⟨cl84, Ar84, qc84, Sz84, Mn84, Hs84, Gs84⟩ := id Hh_key
        have hin84 : ¬ ((0 : Int32) < 0 ∨ cl84.slots.size ≤ ((0 : Int32)).toNatClampNeg) := own_in Sz84 ⟨by decide, by decide⟩
        obtain ⟨T84, h84, X84, e84, W84, st84⟩ := stB X82 hx hZ e82 Ar84 (j := (0 : Int32)) hin84 (g := (mkF m 69 #[.val (.int p0), .val (.int p1), .val (.int p2), .val (.int p3), .val (.long q4), .second, .val (.int (0 : Int32)), .val (.int (0 : Int32)), .val (.int (3 : Int32)), .val (.int e0_), .val (.int e1_), .val (.int e2_), .val (.ref key), .unset, .unset, .unset, .unset] [(.int e0_), (.int (0 : Int32)), (.ref key)])) rfl rfl (hb hby at_69)
        have Hh_key_84 : Arh Z h84 key k82 .byte (3 : Int32) [((0 : Int32), (.int (nar .byte e0_)))] [] (.int (0 : Int32)) := Arh.push Ar84 qc84 Sz84 Mn84 Hs84 Gs84 (fits_nar_byte _) W84 hin84
        have Od_84 := Od_82.wr W84 g_key
        have Ex82_84 := Ex82.wr W84
        have Z_84 : n0 ≤ h84.size := Nat.le_trans Z_82 (Keep.of_wr W84).1
        have N84 := Fr.snoc X84 N0 g_key
        have st85 : ∀ target, Steps p.tables e below (T84.setTop (mkF m 81 #[.val (.int p0), .val (.int p1), .val (.int p2), .val (.int p3), .val (.long q4), .second, .val (.int (0 : Int32)), .val (.int (0 : Int32)), .val (.int (3 : Int32)), .val (.int e0_), .val (.int e1_), .val (.int e2_), .val (.ref key), .unset, .unset, .unset, .unset] [(.int e1_), (.int (1 : Int32)), (.ref key)])) target → Steps p.tables e below (T84.setTop (mkF m 70 #[.val (.int p0), .val (.int p1), .val (.int p2), .val (.int p3), .val (.long q4), .second, .val (.int (0 : Int32)), .val (.int (0 : Int32)), .val (.int (3 : Int32)), .val (.int e0_), .val (.int e1_), .val (.int e2_), .val (.ref key), .unset, .unset, .unset, .unset] [])) target := by
          intro target kt
          show Steps p.tables e below (T84.setTop (mkF m 70 #[.val (.int p0), .val (.int p1), .val (.int p2), .val (.int p3), .val (.long q4), .second, .val (.int (0 : Int32)), .val (.int (0 : Int32)), .val (.int (3 : Int32)), .val (.int e0_), .val (.int e1_), .val (.int e2_), .val (.ref key), .unset, .unset, .unset, .unset] [])) _
          refine XS.iload X84.here hx rfl (hb hby at_70) rfl ?_
          show Steps p.tables e below (T84.setTop (mkF m 72 #[.val (.int p0), .val (.int p1), .val (.int p2), .val (.int p3), .val (.long q4), .second, .val (.int (0 : Int32)), .val (.int (0 : Int32)), .val (.int (3 : Int32)), .val (.int e0_), .val (.int e1_), .val (.int e2_), .val (.ref key), .unset, .unset, .unset, .unset] [(.int (3 : Int32))])) _
          refine XS.iconst X84.here hx rfl (hb hby at_72) ?_
          show Steps p.tables e below (T84.setTop (mkF m 73 #[.val (.int p0), .val (.int p1), .val (.int p2), .val (.int p3), .val (.long q4), .second, .val (.int (0 : Int32)), .val (.int (0 : Int32)), .val (.int (3 : Int32)), .val (.int e0_), .val (.int e1_), .val (.int e2_), .val (.ref key), .unset, .unset, .unset, .unset] [(.int (1 : Int32)), (.int (3 : Int32))])) _
          refine XS.icmpNo X84.here hx rfl (hb hby at_73) rfl (tlt (by decide : ((1 : Int32) < (3 : Int32)))).2.2.2 ?_
          show Steps p.tables e below (T84.setTop (mkF m 76 #[.val (.int p0), .val (.int p1), .val (.int p2), .val (.int p3), .val (.long q4), .second, .val (.int (0 : Int32)), .val (.int (0 : Int32)), .val (.int (3 : Int32)), .val (.int e0_), .val (.int e1_), .val (.int e2_), .val (.ref key), .unset, .unset, .unset, .unset] [])) _
          refine XS.aload X84.here hx rfl (hb hby at_76) rfl rfl ?_
          show Steps p.tables e below (T84.setTop (mkF m 78 #[.val (.int p0), .val (.int p1), .val (.int p2), .val (.int p3), .val (.long q4), .second, .val (.int (0 : Int32)), .val (.int (0 : Int32)), .val (.int (3 : Int32)), .val (.int e0_), .val (.int e1_), .val (.int e2_), .val (.ref key), .unset, .unset, .unset, .unset] [(.ref key)])) _
          refine XS.iconst X84.here hx rfl (hb hby at_78) ?_
          show Steps p.tables e below (T84.setTop (mkF m 79 #[.val (.int p0), .val (.int p1), .val (.int p2), .val (.int p3), .val (.long q4), .second, .val (.int (0 : Int32)), .val (.int (0 : Int32)), .val (.int (3 : Int32)), .val (.int e0_), .val (.int e1_), .val (.int e2_), .val (.ref key), .unset, .unset, .unset, .unset] [(.int (1 : Int32)), (.ref key)])) _
          refine XS.iload X84.here hx rfl (hb hby at_79) rfl ?_
          exact kt
        obtain ⟨cl86, Ar86, qc86, Sz86, Mn86, Hs86, Gs86⟩ := id Hh_key_84
        have hin86 : ¬ ((1 : Int32) < 0 ∨ cl86.slots.size ≤ ((1 : Int32)).toNatClampNeg) := own_in Sz86 ⟨by decide, by decide⟩
        obtain ⟨T86, h86, X86, e86, W86, st86⟩ := stB X84 hx hZ e84 Ar86 (j := (1 : Int32)) hin86 (g := (mkF m 81 #[.val (.int p0), .val (.int p1), .val (.int p2), .val (.int p3), .val (.long q4), .second, .val (.int (0 : Int32)), .val (.int (0 : Int32)), .val (.int (3 : Int32)), .val (.int e0_), .val (.int e1_), .val (.int e2_), .val (.ref key), .unset, .unset, .unset, .unset] [(.int e1_), (.int (1 : Int32)), (.ref key)])) rfl rfl (hb hby at_81)
        have Hh_key_86 : Arh Z h86 key k82 .byte (3 : Int32) [((1 : Int32), (.int (nar .byte e1_))), ((0 : Int32), (.int (nar .byte e0_)))] [] (.int (0 : Int32)) := Arh.push Ar86 qc86 Sz86 Mn86 Hs86 Gs86 (fits_nar_byte _) W86 hin86
        have Od_86 := Od_84.wr W86 g_key
        have Ex82_86 := Ex82_84.wr W86
        have Z_86 : n0 ≤ h86.size := Nat.le_trans Z_84 (Keep.of_wr W86).1
        have N86 := Fr.snoc X86 N84 g_key
        have st87 : ∀ target, Steps p.tables e below (T86.setTop (mkF m 93 #[.val (.int p0), .val (.int p1), .val (.int p2), .val (.int p3), .val (.long q4), .second, .val (.int (0 : Int32)), .val (.int (0 : Int32)), .val (.int (3 : Int32)), .val (.int e0_), .val (.int e1_), .val (.int e2_), .val (.ref key), .unset, .unset, .unset, .unset] [(.int e2_), (.int (2 : Int32)), (.ref key)])) target → Steps p.tables e below (T86.setTop (mkF m 82 #[.val (.int p0), .val (.int p1), .val (.int p2), .val (.int p3), .val (.long q4), .second, .val (.int (0 : Int32)), .val (.int (0 : Int32)), .val (.int (3 : Int32)), .val (.int e0_), .val (.int e1_), .val (.int e2_), .val (.ref key), .unset, .unset, .unset, .unset] [])) target := by
          intro target kt
          show Steps p.tables e below (T86.setTop (mkF m 82 #[.val (.int p0), .val (.int p1), .val (.int p2), .val (.int p3), .val (.long q4), .second, .val (.int (0 : Int32)), .val (.int (0 : Int32)), .val (.int (3 : Int32)), .val (.int e0_), .val (.int e1_), .val (.int e2_), .val (.ref key), .unset, .unset, .unset, .unset] [])) _
          refine XS.iload X86.here hx rfl (hb hby at_82) rfl ?_
          show Steps p.tables e below (T86.setTop (mkF m 84 #[.val (.int p0), .val (.int p1), .val (.int p2), .val (.int p3), .val (.long q4), .second, .val (.int (0 : Int32)), .val (.int (0 : Int32)), .val (.int (3 : Int32)), .val (.int e0_), .val (.int e1_), .val (.int e2_), .val (.ref key), .unset, .unset, .unset, .unset] [(.int (3 : Int32))])) _
          refine XS.iconst X86.here hx rfl (hb hby at_84) ?_
          show Steps p.tables e below (T86.setTop (mkF m 85 #[.val (.int p0), .val (.int p1), .val (.int p2), .val (.int p3), .val (.long q4), .second, .val (.int (0 : Int32)), .val (.int (0 : Int32)), .val (.int (3 : Int32)), .val (.int e0_), .val (.int e1_), .val (.int e2_), .val (.ref key), .unset, .unset, .unset, .unset] [(.int (2 : Int32)), (.int (3 : Int32))])) _
          refine XS.icmpNo X86.here hx rfl (hb hby at_85) rfl (tlt (by decide : ((2 : Int32) < (3 : Int32)))).2.2.2 ?_
          show Steps p.tables e below (T86.setTop (mkF m 88 #[.val (.int p0), .val (.int p1), .val (.int p2), .val (.int p3), .val (.long q4), .second, .val (.int (0 : Int32)), .val (.int (0 : Int32)), .val (.int (3 : Int32)), .val (.int e0_), .val (.int e1_), .val (.int e2_), .val (.ref key), .unset, .unset, .unset, .unset] [])) _
          refine XS.aload X86.here hx rfl (hb hby at_88) rfl rfl ?_
          show Steps p.tables e below (T86.setTop (mkF m 90 #[.val (.int p0), .val (.int p1), .val (.int p2), .val (.int p3), .val (.long q4), .second, .val (.int (0 : Int32)), .val (.int (0 : Int32)), .val (.int (3 : Int32)), .val (.int e0_), .val (.int e1_), .val (.int e2_), .val (.ref key), .unset, .unset, .unset, .unset] [(.ref key)])) _
          refine XS.iconst X86.here hx rfl (hb hby at_90) ?_
          show Steps p.tables e below (T86.setTop (mkF m 91 #[.val (.int p0), .val (.int p1), .val (.int p2), .val (.int p3), .val (.long q4), .second, .val (.int (0 : Int32)), .val (.int (0 : Int32)), .val (.int (3 : Int32)), .val (.int e0_), .val (.int e1_), .val (.int e2_), .val (.ref key), .unset, .unset, .unset, .unset] [(.int (2 : Int32)), (.ref key)])) _
          refine XS.iload X86.here hx rfl (hb hby at_91) rfl ?_
          exact kt
        obtain ⟨cl88, Ar88, qc88, Sz88, Mn88, Hs88, Gs88⟩ := id Hh_key_86
        have hin88 : ¬ ((2 : Int32) < 0 ∨ cl88.slots.size ≤ ((2 : Int32)).toNatClampNeg) := own_in Sz88 ⟨by decide, by decide⟩
        obtain ⟨T88, h88, X88, e88, W88, st88⟩ := stB X86 hx hZ e86 Ar88 (j := (2 : Int32)) hin88 (g := (mkF m 93 #[.val (.int p0), .val (.int p1), .val (.int p2), .val (.int p3), .val (.long q4), .second, .val (.int (0 : Int32)), .val (.int (0 : Int32)), .val (.int (3 : Int32)), .val (.int e0_), .val (.int e1_), .val (.int e2_), .val (.ref key), .unset, .unset, .unset, .unset] [(.int e2_), (.int (2 : Int32)), (.ref key)])) rfl rfl (hb hby at_93)
        have Hh_key_88 : Arh Z h88 key k82 .byte (3 : Int32) [((2 : Int32), (.int (nar .byte e2_))), ((1 : Int32), (.int (nar .byte e1_))), ((0 : Int32), (.int (nar .byte e0_)))] [] (.int (0 : Int32)) := Arh.push Ar88 qc88 Sz88 Mn88 Hs88 Gs88 (fits_nar_byte _) W88 hin88
        have Od_88 := Od_86.wr W88 g_key
        have Ex82_88 := Ex82_86.wr W88
        have Z_88 : n0 ≤ h88.size := Nat.le_trans Z_86 (Keep.of_wr W88).1
        have N88 := Fr.snoc X88 N86 g_key
        have Hk : Arh Z h88 key k82 .byte (3 : Int32) [((2 : Int32), (.int e2_)), ((1 : Int32), (.int e1_)), ((0 : Int32), (.int e0_))] [] (.int (0 : Int32)) := by have q := Hh_key_88; rw [ne0_, ne1_, ne2_] at q; exact q
        have st89 : ∀ target, Steps p.tables e below (T88.setTop (mkF m 126 #[.val (.int p0), .val (.int p1), .val (.int p2), .val (.int p3), .val (.long q4), .second, .val (.int (0 : Int32)), .val (.int (0 : Int32)), .val (.int (3 : Int32)), .val (.int e0_), .val (.int e1_), .val (.int e2_), .val (.ref key), .val .null, .unset, .unset, .unset] [])) target → Steps p.tables e below (T88.setTop (mkF m 94 #[.val (.int p0), .val (.int p1), .val (.int p2), .val (.int p3), .val (.long q4), .second, .val (.int (0 : Int32)), .val (.int (0 : Int32)), .val (.int (3 : Int32)), .val (.int e0_), .val (.int e1_), .val (.int e2_), .val (.ref key), .unset, .unset, .unset, .unset] [])) target := by
          intro target kt
          show Steps p.tables e below (T88.setTop (mkF m 94 #[.val (.int p0), .val (.int p1), .val (.int p2), .val (.int p3), .val (.long q4), .second, .val (.int (0 : Int32)), .val (.int (0 : Int32)), .val (.int (3 : Int32)), .val (.int e0_), .val (.int e1_), .val (.int e2_), .val (.ref key), .unset, .unset, .unset, .unset] [])) _
          refine XS.aconstNull X88.here hx rfl (hb hby at_94) ?_
          show Steps p.tables e below (T88.setTop (mkF m 95 #[.val (.int p0), .val (.int p1), .val (.int p2), .val (.int p3), .val (.long q4), .second, .val (.int (0 : Int32)), .val (.int (0 : Int32)), .val (.int (3 : Int32)), .val (.int e0_), .val (.int e1_), .val (.int e2_), .val (.ref key), .unset, .unset, .unset, .unset] [.null])) _
          refine XS.astore X88.here hx rfl (hb hby at_95) rfl rfl (l' := #[.val (.int p0), .val (.int p1), .val (.int p2), .val (.int p3), .val (.long q4), .second, .val (.int (0 : Int32)), .val (.int (0 : Int32)), .val (.int (3 : Int32)), .val (.int e0_), .val (.int e1_), .val (.int e2_), .val (.ref key), .val .null, .unset, .unset, .unset]) rfl ?_
          show Steps p.tables e below (T88.setTop (mkF m 97 #[.val (.int p0), .val (.int p1), .val (.int p2), .val (.int p3), .val (.long q4), .second, .val (.int (0 : Int32)), .val (.int (0 : Int32)), .val (.int (3 : Int32)), .val (.int e0_), .val (.int e1_), .val (.int e2_), .val (.ref key), .val .null, .unset, .unset, .unset] [])) _
          refine XS.iload X88.here hx rfl (hb hby at_97) rfl ?_
          show Steps p.tables e below (T88.setTop (mkF m 99 #[.val (.int p0), .val (.int p1), .val (.int p2), .val (.int p3), .val (.long q4), .second, .val (.int (0 : Int32)), .val (.int (0 : Int32)), .val (.int (3 : Int32)), .val (.int e0_), .val (.int e1_), .val (.int e2_), .val (.ref key), .val .null, .unset, .unset, .unset] [(.int (0 : Int32))])) _
          refine XS.ifYes X88.here hx rfl (pc0 := 99) (pc' := 126) rfl (hb hby at_99) rfl ((if0 _ _).trans (teq (rfl : (0 : Int32) = (0 : Int32))).1) (by decide) (by decide) ?_
          exact kt
        obtain ⟨T90, h90, X90, e90, E90, A90, D90, -, st90⟩ := newO X88 hx hZ hown (hw _ (List.mem_of_getElem? (i := 1) rfl)) (hw _ (List.mem_of_getElem? (i := 2) rfl)) (hw _ (List.mem_of_getElem? (i := 3) rfl)) e88 (g := (mkF m 126 #[.val (.int p0), .val (.int p1), .val (.int p2), .val (.int p3), .val (.long q4), .second, .val (.int (0 : Int32)), .val (.int (0 : Int32)), .val (.int (3 : Int32)), .val (.int e0_), .val (.int e1_), .val (.int e2_), .val (.ref key), .val .null, .unset, .unset, .unset] [])) rfl (hb hby at_126) (by decide) (by decide)
        obtain ⟨d, g90⟩ : ∃ z, z = h88.size := ⟨_, rfl⟩
        rw [← g90] at A90 D90 st90
        have g_d : n0 ≤ d := Nat.le_trans Z_88 (Nat.le_of_eq g90.symm)
        have ne_key_d : key ≠ d := Nat.ne_of_lt (Nat.lt_of_lt_of_le Ex82_88.lt (Nat.le_of_eq g90.symm))
        have Od_90 := Od_88.ext E90
        have Ex82_90 := Ex82_88.ext E90
        have Hk_90 := Hk.ext E90
        have Z_90 : n0 ≤ h90.size := Nat.le_trans Z_88 E90.1
        have E_d : Exa Z h90 d "com/example/imprimatur/imprimatur/verify/DeviceValues" := A90
        have F_pkHash_d : Fld Z h90 d "com/example/imprimatur/imprimatur/verify/DeviceValues" "pkHash" "[B" .null := D90 (Or.inr (hw _ (List.mem_of_getElem? (i := 31) rfl))) (ty := (.array .byte)) (by decide)
        have F_hwId_d : Fld Z h90 d "com/example/imprimatur/imprimatur/verify/DeviceValues" "hwId" "Ljava/lang/Long;" .null := D90 (Or.inr (hw _ (List.mem_of_getElem? (i := 33) rfl))) (ty := (.object "java/lang/Long")) (by decide)
        have F_swId_d : Fld Z h90 d "com/example/imprimatur/imprimatur/verify/DeviceValues" "swId" "Ljava/lang/Long;" .null := D90 (Or.inr (hw _ (List.mem_of_getElem? (i := 35) rfl))) (ty := (.object "java/lang/Long")) (by decide)
        have F_publicKey_d : Fld Z h90 d "com/example/imprimatur/imprimatur/verify/DeviceValues" "publicKey" "[B" .null := D90 (Or.inr (hw _ (List.mem_of_getElem? (i := 46) rfl))) (ty := (.array .byte)) (by decide)
        have st91 : ∀ target, Steps p.tables e below (T90.setTop (mkF m 134 #[.val (.int p0), .val (.int p1), .val (.int p2), .val (.int p3), .val (.long q4), .second, .val (.int (0 : Int32)), .val (.int (0 : Int32)), .val (.int (3 : Int32)), .val (.int e0_), .val (.int e1_), .val (.int e2_), .val (.ref key), .val .null, .unset, .unset, .unset] [(.long q4), .null, (.ref d), (.ref d)])) target → Steps p.tables e below (T90.setTop (mkF m 129 #[.val (.int p0), .val (.int p1), .val (.int p2), .val (.int p3), .val (.long q4), .second, .val (.int (0 : Int32)), .val (.int (0 : Int32)), .val (.int (3 : Int32)), .val (.int e0_), .val (.int e1_), .val (.int e2_), .val (.ref key), .val .null, .unset, .unset, .unset] [(.ref d)])) target := by
          intro target kt
          show Steps p.tables e below (T90.setTop (mkF m 129 #[.val (.int p0), .val (.int p1), .val (.int p2), .val (.int p3), .val (.long q4), .second, .val (.int (0 : Int32)), .val (.int (0 : Int32)), .val (.int (3 : Int32)), .val (.int e0_), .val (.int e1_), .val (.int e2_), .val (.ref key), .val .null, .unset, .unset, .unset] [(.ref d)])) _
          refine XS.dup X90.here hx rfl (hb hby at_129) rfl rfl ?_
          show Steps p.tables e below (T90.setTop (mkF m 130 #[.val (.int p0), .val (.int p1), .val (.int p2), .val (.int p3), .val (.long q4), .second, .val (.int (0 : Int32)), .val (.int (0 : Int32)), .val (.int (3 : Int32)), .val (.int e0_), .val (.int e1_), .val (.int e2_), .val (.ref key), .val .null, .unset, .unset, .unset] [(.ref d), (.ref d)])) _
          refine XS.aload X90.here hx rfl (hb hby at_130) rfl rfl ?_
          show Steps p.tables e below (T90.setTop (mkF m 132 #[.val (.int p0), .val (.int p1), .val (.int p2), .val (.int p3), .val (.long q4), .second, .val (.int (0 : Int32)), .val (.int (0 : Int32)), .val (.int (3 : Int32)), .val (.int e0_), .val (.int e1_), .val (.int e2_), .val (.ref key), .val .null, .unset, .unset, .unset] [.null, (.ref d), (.ref d)])) _
          refine XS.lload X90.here hx rfl (hb hby at_132) rfl ?_
          exact kt
        obtain ⟨_, _, ⟨T92, L92, k92, n92⟩, -, X92, ⟨Lc92, hQ92, l92, y92, z92⟩, st92⟩ := Jvm.LawKit.callS X90 hx (y := (⟨"java/lang/Long", "valueOf", "(J)Ljava/lang/Long;"⟩ : MethodName)) hown (mvT hZ (hw _ (List.mem_of_getElem? (i := 4) rfl))) (mvT hZ (hw _ (List.mem_of_getElem? (i := 5) rfl))) (mvT hZ (hw _ (List.mem_of_getElem? (i := 6) rfl))) (mvT hZ (hw _ (List.mem_of_getElem? (i := 7) rfl))) (by decide) (backOf (W := 3) (rm1 l Z a0 hw [] q4 ca cc val h90 n0 Z_90 Bx Od_90 S_c) hZ (hw _ (List.mem_of_getElem? (i := 7) rfl)) (hw _ (List.mem_of_getElem? (i := 6) rfl)) (by decide) (by decide)) (g := (mkF m 134 #[.val (.int p0), .val (.int p1), .val (.int p2), .val (.int p3), .val (.long q4), .second, .val (.int (0 : Int32)), .val (.int (0 : Int32)), .val (.int (3 : Int32)), .val (.int e0_), .val (.int e1_), .val (.int e2_), .val (.ref key), .val .null, .unset, .unset, .unset] [(.long q4), .null, (.ref d), (.ref d)])) rfl (by rw [hml]; rfl) (argsL := [(.long q4)]) (rest := [.null, (.ref d), (.ref d)]) (lenOf pd_0 rfl) rfl (by show 2 * 0 + _ ≤ _; exact Nat.le_of_eq rfl) (hb hby at_134) (fun _ _ => ⟨rfl, e90, (by decide : 2 + 1 ≤ _), (by decide : 7 + 1 ≤ _)⟩)
        dsimp only [Pt.U, Pt.locs, Pt.cells, Pt.slots] at X92 l92 y92 z92 st92 hQ92
        subst l92 y92 z92
        obtain ⟨t92, rfl, Nq92, K92, Et92⟩ := hQ92
        have N92 := Fr.app N88 Nq92
        have Od_92 := Od_90.keep K92 (all0)
        have Ex82_92 := Ex82_90.keep K92
        have Hk_92 := Hk_90.keep K92 nin0
        have E_d_92 := E_d.keep K92
        have F_pkHash_d_92 := F_pkHash_d.keep K92 nin0
        have F_hwId_d_92 := F_hwId_d.keep K92 nin0
        have F_swId_d_92 := F_swId_d.keep K92 nin0
        have F_publicKey_d_92 := F_publicKey_d.keep K92 nin0
        have Z_92 : n0 ≤ T92.heap.size := Nat.le_trans Z_90 K92.1
        have st93 : ∀ target, Steps p.tables e below (T92.setTop (mkF m 140 #[.val (.int p0), .val (.int p1), .val (.int p2), .val (.int p3), .val (.long q4), .second, .val (.int (0 : Int32)), .val (.int (0 : Int32)), .val (.int (3 : Int32)), .val (.int e0_), .val (.int e1_), .val (.int e2_), .val (.ref key), .val .null, .unset, .unset, .unset] [(.ref key), .null, (.ref t92), .null, (.ref d), (.ref d)])) target → Steps p.tables e below (T92.setTop (mkF m 137 #[.val (.int p0), .val (.int p1), .val (.int p2), .val (.int p3), .val (.long q4), .second, .val (.int (0 : Int32)), .val (.int (0 : Int32)), .val (.int (3 : Int32)), .val (.int e0_), .val (.int e1_), .val (.int e2_), .val (.ref key), .val .null, .unset, .unset, .unset] [(.ref t92), .null, (.ref d), (.ref d)])) target := by
          intro target kt
          show Steps p.tables e below (T92.setTop (mkF m 137 #[.val (.int p0), .val (.int p1), .val (.int p2), .val (.int p3), .val (.long q4), .second, .val (.int (0 : Int32)), .val (.int (0 : Int32)), .val (.int (3 : Int32)), .val (.int e0_), .val (.int e1_), .val (.int e2_), .val (.ref key), .val .null, .unset, .unset, .unset] [(.ref t92), .null, (.ref d), (.ref d)])) _
          refine XS.aconstNull X92.here hx rfl (hb hby at_137) ?_
          show Steps p.tables e below (T92.setTop (mkF m 138 #[.val (.int p0), .val (.int p1), .val (.int p2), .val (.int p3), .val (.long q4), .second, .val (.int (0 : Int32)), .val (.int (0 : Int32)), .val (.int (3 : Int32)), .val (.int e0_), .val (.int e1_), .val (.int e2_), .val (.ref key), .val .null, .unset, .unset, .unset] [.null, (.ref t92), .null, (.ref d), (.ref d)])) _
          refine XS.aload X92.here hx rfl (hb hby at_138) rfl rfl ?_
          exact kt
        obtain ⟨_, _, ⟨T94, L94, k94, n94⟩, -, X94, ⟨Lc94, hQ94, l94, y94, z94⟩, st94⟩ := X92.specialBack hx (y := (⟨"com/example/imprimatur/imprimatur/verify/DeviceValues", "<init>", "([BLjava/lang/Long;Ljava/lang/Long;[B)V"⟩ : MethodName)) rfl hown (mvT hZ (hw _ (List.mem_of_getElem? (i := 26) rfl))) (mvT hZ (hw _ (List.mem_of_getElem? (i := 27) rfl))) (mvT hZ (hw _ (List.mem_of_getElem? (i := 28) rfl))) (by decide) (backOf (W := 1) (rmI01 l Z a0 hw [] d t92 key k82 (3 : Int32) [((2 : Int32), (.int e2_)), ((1 : Int32), (.int e1_)), ((0 : Int32), (.int e0_))] T92.heap n0 Z_92 F_pkHash_d_92 F_hwId_d_92 F_swId_d_92 F_publicKey_d_92 E_d_92 g_d Hk_92 Ex82_92 (Ne.symm ne_key_d) (by decide)) hZ (hw _ (List.mem_of_getElem? (i := 28) rfl)) (hw _ (List.mem_of_getElem? (i := 3) rfl)) (by decide) (by decide)) (g := (mkF m 140 #[.val (.int p0), .val (.int p1), .val (.int p2), .val (.int p3), .val (.long q4), .second, .val (.int (0 : Int32)), .val (.int (0 : Int32)), .val (.int (3 : Int32)), .val (.int e0_), .val (.int e1_), .val (.int e2_), .val (.ref key), .val .null, .unset, .unset, .unset] [(.ref key), .null, (.ref t92), .null, (.ref d), (.ref d)])) rfl (by rw [hml]; rfl) (Steps.refl _) (a := d) (argsL := [.null, (.ref t92), .null, (.ref key)]) (rest := [(.ref d)]) (lenOf pd_3 rfl) rfl (by show 2 * 0 + _ ≤ _; exact Nat.le_of_eq rfl) (hb hby at_140) (fun _ _ => ⟨rfl, rfl, (by decide : 3 + 1 ≤ _), (by decide : 8 + 3 ≤ _)⟩)
        dsimp only [Pt.U, Pt.locs, Pt.cells, Pt.slots] at X94 l94 y94 z94 st94 hQ94
        subst l94 y94 z94
        obtain ⟨rfl, Nq94, K94, Ed, c, szc, Fc, Hc, Ec⟩ := hQ94
        have N94 := Fr.app N92 Nq94
        have g_c : n0 ≤ c := Nat.le_trans Z_92 szc
        have ne_key_c : key ≠ c := Nat.ne_of_lt (Nat.lt_of_lt_of_le Ex82_92.lt szc)
        have ne_d_c : d ≠ c := Nat.ne_of_lt (Nat.lt_of_lt_of_le E_d_92.lt szc)
        have ne_t92_c : t92 ≠ c := Nat.ne_of_lt (Nat.lt_of_lt_of_le Et92.lt szc)
        have Od_94 := Od_92.keep K94 (allS g_d (all0))
        have Ex82_94 := Ex82_92.keep K94
        have Hk_94 := Hk_92.keep K94 (ninS ne_key_d nin0)
        have E_d_94 := E_d_92.keep K94
        have Et92_94 := Et92.keep K94
        have Z_94 : n0 ≤ T94.heap.size := Nat.le_trans Z_92 K94.1
        have st95 : ∀ target, Steps p.tables e below (T94.setTop (mkF m 161 #[.val (.int p0), .val (.int p1), .val (.int p2), .val (.int p3), .val (.long q4), .second, .val (.int (0 : Int32)), .val (.int (0 : Int32)), .val (.int (3 : Int32)), .val (.int e0_), .val (.int e1_), .val (.int e2_), .val (.ref key), .val .null, .val (.ref d), .unset, .unset] [(.int (0 : Int32)), (.ref key), (.int (0 : Int32)), (.ref key)])) target → Steps p.tables e below (T94.setTop (mkF m 143 #[.val (.int p0), .val (.int p1), .val (.int p2), .val (.int p3), .val (.long q4), .second, .val (.int (0 : Int32)), .val (.int (0 : Int32)), .val (.int (3 : Int32)), .val (.int e0_), .val (.int e1_), .val (.int e2_), .val (.ref key), .val .null, .unset, .unset, .unset] [(.ref d)])) target := by
          intro target kt
          show Steps p.tables e below (T94.setTop (mkF m 143 #[.val (.int p0), .val (.int p1), .val (.int p2), .val (.int p3), .val (.long q4), .second, .val (.int (0 : Int32)), .val (.int (0 : Int32)), .val (.int (3 : Int32)), .val (.int e0_), .val (.int e1_), .val (.int e2_), .val (.ref key), .val .null, .unset, .unset, .unset] [(.ref d)])) _
          refine XS.astore X94.here hx rfl (hb hby at_143) rfl rfl (l' := #[.val (.int p0), .val (.int p1), .val (.int p2), .val (.int p3), .val (.long q4), .second, .val (.int (0 : Int32)), .val (.int (0 : Int32)), .val (.int (3 : Int32)), .val (.int e0_), .val (.int e1_), .val (.int e2_), .val (.ref key), .val .null, .val (.ref d), .unset, .unset]) rfl ?_
          show Steps p.tables e below (T94.setTop (mkF m 145 #[.val (.int p0), .val (.int p1), .val (.int p2), .val (.int p3), .val (.long q4), .second, .val (.int (0 : Int32)), .val (.int (0 : Int32)), .val (.int (3 : Int32)), .val (.int e0_), .val (.int e1_), .val (.int e2_), .val (.ref key), .val .null, .val (.ref d), .unset, .unset] [])) _
          refine XS.aload X94.here hx rfl (hb hby at_145) rfl rfl ?_
          show Steps p.tables e below (T94.setTop (mkF m 147 #[.val (.int p0), .val (.int p1), .val (.int p2), .val (.int p3), .val (.long q4), .second, .val (.int (0 : Int32)), .val (.int (0 : Int32)), .val (.int (3 : Int32)), .val (.int e0_), .val (.int e1_), .val (.int e2_), .val (.ref key), .val .null, .val (.ref d), .unset, .unset] [(.ref key)])) _
          refine XS.ifnullNo X94.here hx rfl (hb hby at_147) rfl ?_
          show Steps p.tables e below (T94.setTop (mkF m 150 #[.val (.int p0), .val (.int p1), .val (.int p2), .val (.int p3), .val (.long q4), .second, .val (.int (0 : Int32)), .val (.int (0 : Int32)), .val (.int (3 : Int32)), .val (.int e0_), .val (.int e1_), .val (.int e2_), .val (.ref key), .val .null, .val (.ref d), .unset, .unset] [])) _
          refine XS.iload X94.here hx rfl (hb hby at_150) rfl ?_
          show Steps p.tables e below (T94.setTop (mkF m 152 #[.val (.int p0), .val (.int p1), .val (.int p2), .val (.int p3), .val (.long q4), .second, .val (.int (0 : Int32)), .val (.int (0 : Int32)), .val (.int (3 : Int32)), .val (.int e0_), .val (.int e1_), .val (.int e2_), .val (.ref key), .val .null, .val (.ref d), .unset, .unset] [(.int (3 : Int32))])) _
          refine XS.ifNo X94.here hx rfl (hb hby at_152) rfl ((if0 _ _).trans (tlt (by decide : ((0 : Int32) < (3 : Int32)))).2.2.2) ?_
          show Steps p.tables e below (T94.setTop (mkF m 155 #[.val (.int p0), .val (.int p1), .val (.int p2), .val (.int p3), .val (.long q4), .second, .val (.int (0 : Int32)), .val (.int (0 : Int32)), .val (.int (3 : Int32)), .val (.int e0_), .val (.int e1_), .val (.int e2_), .val (.ref key), .val .null, .val (.ref d), .unset, .unset] [])) _
          refine XS.aload X94.here hx rfl (hb hby at_155) rfl rfl ?_
          show Steps p.tables e below (T94.setTop (mkF m 157 #[.val (.int p0), .val (.int p1), .val (.int p2), .val (.int p3), .val (.long q4), .second, .val (.int (0 : Int32)), .val (.int (0 : Int32)), .val (.int (3 : Int32)), .val (.int e0_), .val (.int e1_), .val (.int e2_), .val (.ref key), .val .null, .val (.ref d), .unset, .unset] [(.ref key)])) _
          refine XS.iconst X94.here hx rfl (hb hby at_157) ?_
          show Steps p.tables e below (T94.setTop (mkF m 158 #[.val (.int p0), .val (.int p1), .val (.int p2), .val (.int p3), .val (.long q4), .second, .val (.int (0 : Int32)), .val (.int (0 : Int32)), .val (.int (3 : Int32)), .val (.int e0_), .val (.int e1_), .val (.int e2_), .val (.ref key), .val .null, .val (.ref d), .unset, .unset] [(.int (0 : Int32)), (.ref key)])) _
          refine XS.aload X94.here hx rfl (hb hby at_158) rfl rfl ?_
          show Steps p.tables e below (T94.setTop (mkF m 160 #[.val (.int p0), .val (.int p1), .val (.int p2), .val (.int p3), .val (.long q4), .second, .val (.int (0 : Int32)), .val (.int (0 : Int32)), .val (.int (3 : Int32)), .val (.int e0_), .val (.int e1_), .val (.int e2_), .val (.ref key), .val .null, .val (.ref d), .unset, .unset] [(.ref key), (.int (0 : Int32)), (.ref key)])) _
          refine XS.iconst X94.here hx rfl (hb hby at_160) ?_
          exact kt
        obtain ⟨cl96, Ar96, qc96, Sz96, Mn96, Hs96, Gs96⟩ := id Hk_94
        have hin96 : ¬ ((0 : Int32) < 0 ∨ cl96.slots.size ≤ ((0 : Int32)).toNatClampNeg) := own_in Sz96 ⟨by decide, by decide⟩
        have hat96 : cl96.slots[((0 : Int32)).toNatClampNeg]? = some (.int e0_) := atH Hs96 hin96 rfl
        have st97 : ∀ target, Steps p.tables e below (T94.setTop (mkF m 162 #[.val (.int p0), .val (.int p1), .val (.int p2), .val (.int p3), .val (.long q4), .second, .val (.int (0 : Int32)), .val (.int (0 : Int32)), .val (.int (3 : Int32)), .val (.int e0_), .val (.int e1_), .val (.int e2_), .val (.ref key), .val .null, .val (.ref d), .unset, .unset] [(.int e0_), (.int (0 : Int32)), (.ref key)])) target → Steps p.tables e below (T94.setTop (mkF m 161 #[.val (.int p0), .val (.int p1), .val (.int p2), .val (.int p3), .val (.long q4), .second, .val (.int (0 : Int32)), .val (.int (0 : Int32)), .val (.int (3 : Int32)), .val (.int e0_), .val (.int e1_), .val (.int e2_), .val (.ref key), .val .null, .val (.ref d), .unset, .unset] [(.int (0 : Int32)), (.ref key), (.int (0 : Int32)), (.ref key)])) target := fun target kt => X94.baloadBytes hx (j := (0 : Int32)) (v := (.int e0_)) Ar96.1 (State.isArrayOf_alike hZ.alike Ar96.2.1) Ar96.2.2 hin96 hat96 (g := (mkF m 161 #[.val (.int p0), .val (.int p1), .val (.int p2), .val (.int p3), .val (.long q4), .second, .val (.int (0 : Int32)), .val (.int (0 : Int32)), .val (.int (3 : Int32)), .val (.int e0_), .val (.int e1_), .val (.int e2_), .val (.ref key), .val .null, .val (.ref d), .unset, .unset] [(.int (0 : Int32)), (.ref key), (.int (0 : Int32)), (.ref key)])) rfl rfl (hb hby at_161) _ kt
        have st98 : ∀ target, Steps p.tables e below (T94.setTop (mkF m 166 #[.val (.int p0), .val (.int p1), .val (.int p2), .val (.int p3), .val (.long q4), .second, .val (.int (0 : Int32)), .val (.int (0 : Int32)), .val (.int (3 : Int32)), .val (.int e0_), .val (.int e1_), .val (.int e2_), .val (.ref key), .val .null, .val (.ref d), .unset, .unset] [(.int ((e0_ ^^^ (90 : Int32)).toInt8.toInt32)), (.int (0 : Int32)), (.ref key)])) target → Steps p.tables e below (T94.setTop (mkF m 162 #[.val (.int p0), .val (.int p1), .val (.int p2), .val (.int p3), .val (.long q4), .second, .val (.int (0 : Int32)), .val (.int (0 : Int32)), .val (.int (3 : Int32)), .val (.int e0_), .val (.int e1_), .val (.int e2_), .val (.ref key), .val .null, .val (.ref d), .unset, .unset] [(.int e0_), (.int (0 : Int32)), (.ref key)])) target := by
          intro target kt
          show Steps p.tables e below (T94.setTop (mkF m 162 #[.val (.int p0), .val (.int p1), .val (.int p2), .val (.int p3), .val (.long q4), .second, .val (.int (0 : Int32)), .val (.int (0 : Int32)), .val (.int (3 : Int32)), .val (.int e0_), .val (.int e1_), .val (.int e2_), .val (.ref key), .val .null, .val (.ref d), .unset, .unset] [(.int e0_), (.int (0 : Int32)), (.ref key)])) _
          refine XS.bipush X94.here hx rfl (hb hby at_162) ?_
          show Steps p.tables e below (T94.setTop (mkF m 164 #[.val (.int p0), .val (.int p1), .val (.int p2), .val (.int p3), .val (.long q4), .second, .val (.int (0 : Int32)), .val (.int (0 : Int32)), .val (.int (3 : Int32)), .val (.int e0_), .val (.int e1_), .val (.int e2_), .val (.ref key), .val .null, .val (.ref d), .unset, .unset] [(.int (90 : Int32)), (.int e0_), (.int (0 : Int32)), (.ref key)])) _
          refine XS.ixor X94.here hx rfl (hb hby at_164) rfl ?_
          show Steps p.tables e below (T94.setTop (mkF m 165 #[.val (.int p0), .val (.int p1), .val (.int p2), .val (.int p3), .val (.long q4), .second, .val (.int (0 : Int32)), .val (.int (0 : Int32)), .val (.int (3 : Int32)), .val (.int e0_), .val (.int e1_), .val (.int e2_), .val (.ref key), .val .null, .val (.ref d), .unset, .unset] [(.int (e0_ ^^^ (90 : Int32))), (.int (0 : Int32)), (.ref key)])) _
          refine XS.i2b X94.here hx rfl (hb hby at_165) rfl ?_
          exact kt
        obtain ⟨cl99, Ar99, qc99, Sz99, Mn99, Hs99, Gs99⟩ := id Hk_94
        have hin99 : ¬ ((0 : Int32) < 0 ∨ cl99.slots.size ≤ ((0 : Int32)).toNatClampNeg) := own_in Sz99 ⟨by decide, by decide⟩
        obtain ⟨T99, h99, X99, e99, W99, st99⟩ := stB X94 hx hZ rfl Ar99 (j := (0 : Int32)) hin99 (g := (mkF m 166 #[.val (.int p0), .val (.int p1), .val (.int p2), .val (.int p3), .val (.long q4), .second, .val (.int (0 : Int32)), .val (.int (0 : Int32)), .val (.int (3 : Int32)), .val (.int e0_), .val (.int e1_), .val (.int e2_), .val (.ref key), .val .null, .val (.ref d), .unset, .unset] [(.int ((e0_ ^^^ (90 : Int32)).toInt8.toInt32)), (.int (0 : Int32)), (.ref key)])) rfl rfl (hb hby at_166)
        have Hh_key_99 : Arh Z h99 key k82 .byte (3 : Int32) [((0 : Int32), (.int (nar .byte ((e0_ ^^^ (90 : Int32)).toInt8.toInt32)))), ((2 : Int32), (.int e2_)), ((1 : Int32), (.int e1_)), ((0 : Int32), (.int e0_))] [] (.int (0 : Int32)) := Arh.push Ar99 qc99 Sz99 Mn99 Hs99 Gs99 (fits_nar_byte _) W99 hin99
        have Od_99 := Od_94.wr W99 g_key
        have Ex82_99 := Ex82_94.wr W99
        have Ed_99 := Ed.wr W99
        have Et92_99 := Et92_94.wr W99
        have Fc_99 := Fc.other W99 (Or.inl (Ne.symm ne_key_d))
        have Hc_99 := Hc.other W99 (Ne.symm ne_key_c)
        have Ec_99 := Ec.wr W99
        have Z_99 : n0 ≤ h99.size := Nat.le_trans Z_94 (Keep.of_wr W99).1
        have N99 := Fr.snoc X99 N94 g_key
        have st100 : ∀ target, Steps p.tables e below (T99.setTop (mkF m 169 #[.val (.int p0), .val (.int p1), .val (.int p2), .val (.int p3), .val (.long q4), .second, .val (.int (0 : Int32)), .val (.int (0 : Int32)), .val (.int (3 : Int32)), .val (.int e0_), .val (.int e1_), .val (.int e2_), .val (.ref key), .val .null, .val (.ref d), .unset, .unset] [(.ref d)])) target → Steps p.tables e below (T99.setTop (mkF m 167 #[.val (.int p0), .val (.int p1), .val (.int p2), .val (.int p3), .val (.long q4), .second, .val (.int (0 : Int32)), .val (.int (0 : Int32)), .val (.int (3 : Int32)), .val (.int e0_), .val (.int e1_), .val (.int e2_), .val (.ref key), .val .null, .val (.ref d), .unset, .unset] [])) target := by
          intro target kt
          show Steps p.tables e below (T99.setTop (mkF m 167 #[.val (.int p0), .val (.int p1), .val (.int p2), .val (.int p3), .val (.long q4), .second, .val (.int (0 : Int32)), .val (.int (0 : Int32)), .val (.int (3 : Int32)), .val (.int e0_), .val (.int e1_), .val (.int e2_), .val (.ref key), .val .null, .val (.ref d), .unset, .unset] [])) _
          refine XS.aload X99.here hx rfl (hb hby at_167) rfl rfl ?_
          exact kt
        obtain ⟨cq101, kq101, qv101a, qv101b, qv101c⟩ := isOf hZ e99 Ed_99
        obtain ⟨_, _, ⟨T101, L101, k101, n101⟩, -, X101, ⟨Lc101, hQ101, l101, y101, z101⟩, st101⟩ := X99.virtualBack hx (y := (⟨"com/example/imprimatur/imprimatur/verify/DeviceValues", "publicKey", "()[B"⟩ : MethodName)) (z := (⟨"com/example/imprimatur/imprimatur/verify/DeviceValues", "publicKey", "()[B"⟩ : MethodName)) hown (mvT hZ (hw _ (List.mem_of_getElem? (i := 47) rfl))) (mvT hZ (hw _ (List.mem_of_getElem? (i := 48) rfl))) (notFace_of_selects (args := #[]) (mvT hZ (hw _ (List.mem_of_getElem? (i := 50) rfl)))) (mvT hZ (hw _ (List.mem_of_getElem? (i := 50) rfl))) (mvT hZ (hw _ (List.mem_of_getElem? (i := 49) rfl))) (by decide) (backOf (W := 0) (rm_publicKey l Z a0 hw [] d c k82 (3 : Int32) [((2 : Int32), (.int e2_)), ((1 : Int32), (.int e1_)), ((0 : Int32), (.int e0_))] h99 n0 Z_99 Fc_99 Hc_99 Ec_99 (by decide)) hZ (hw _ (List.mem_of_getElem? (i := 51) rfl)) (hw _ (List.mem_of_getElem? (i := 3) rfl)) (by decide) (by decide)) qv101a qv101c (g := (mkF m 169 #[.val (.int p0), .val (.int p1), .val (.int p2), .val (.int p3), .val (.long q4), .second, .val (.int (0 : Int32)), .val (.int (0 : Int32)), .val (.int (3 : Int32)), .val (.int e0_), .val (.int e1_), .val (.int e2_), .val (.ref key), .val .null, .val (.ref d), .unset, .unset] [(.ref d)])) rfl (by rw [hml]; rfl) (Steps.refl _) (argsL := []) (rest := []) (lenOf pd_5 rfl) rfl (by show 2 * 0 + _ ≤ _; exact Nat.le_of_eq rfl) (hb hby at_169) (fun _ _ => ⟨rfl, e99, (by decide : 4 + 1 ≤ _), (by decide : 11 + 3 ≤ _)⟩)
        dsimp only [Pt.U, Pt.locs, Pt.cells, Pt.slots] at X101 l101 y101 z101 st101 hQ101
        subst l101 y101 z101
        obtain ⟨c2_101, rfl, Nq101, K101, sz101, Hr1, Er1⟩ := hQ101
        have N101 := Fr.app N99 Nq101
        have g_c2_101 : n0 ≤ c2_101 := Nat.le_trans Z_99 sz101
        have ne_key_c2_101 : key ≠ c2_101 := Nat.ne_of_lt (Nat.lt_of_lt_of_le Ex82_99.lt sz101)
        have ne_d_c2_101 : d ≠ c2_101 := Nat.ne_of_lt (Nat.lt_of_lt_of_le Ed_99.lt sz101)
        have ne_t92_c2_101 : t92 ≠ c2_101 := Nat.ne_of_lt (Nat.lt_of_lt_of_le Et92_99.lt sz101)
        have ne_c_c2_101 : c ≠ c2_101 := Nat.ne_of_lt (Nat.lt_of_lt_of_le Hc_99.lt sz101)
        have Od_101 := Od_99.keep K101 (all0)
        have Ex82_101 := Ex82_99.keep K101
        have Ed_101 := Ed_99.keep K101
        have Et92_101 := Et92_99.keep K101
        have Fc_101 := Fc_99.keep K101 nin0
        have Hc_101 := Hc_99.keep K101 nin0
        have Ec_101 := Ec_99.keep K101
        have Hh_key_101 := Hh_key_99.keep K101 nin0
        have Z_101 : n0 ≤ T101.heap.size := Nat.le_trans Z_99 K101.1
        have st102 : ∀ target, Steps p.tables e below (T101.setTop (mkF m 200 #[.val (.int p0), .val (.int p1), .val (.int p2), .val (.int p3), .val (.long q4), .second, .val (.int (0 : Int32)), .val (.int (0 : Int32)), .val (.int (3 : Int32)), .val (.int e0_), .val (.int e1_), .val (.int e2_), .val (.ref key), .val .null, .val (.ref d), .val (.ref c2_101), .unset] [(.int e2_), (.int e1_), (.int e0_), (.int (3 : Int32)), (.ref c2_101)])) target → Steps p.tables e below (T101.setTop (mkF m 172 #[.val (.int p0), .val (.int p1), .val (.int p2), .val (.int p3), .val (.long q4), .second, .val (.int (0 : Int32)), .val (.int (0 : Int32)), .val (.int (3 : Int32)), .val (.int e0_), .val (.int e1_), .val (.int e2_), .val (.ref key), .val .null, .val (.ref d), .unset, .unset] [(.ref c2_101)])) target := by
          intro target kt
          show Steps p.tables e below (T101.setTop (mkF m 172 #[.val (.int p0), .val (.int p1), .val (.int p2), .val (.int p3), .val (.long q4), .second, .val (.int (0 : Int32)), .val (.int (0 : Int32)), .val (.int (3 : Int32)), .val (.int e0_), .val (.int e1_), .val (.int e2_), .val (.ref key), .val .null, .val (.ref d), .unset, .unset] [(.ref c2_101)])) _
          refine XS.astore X101.here hx rfl (hb hby at_172) rfl rfl (l' := #[.val (.int p0), .val (.int p1), .val (.int p2), .val (.int p3), .val (.long q4), .second, .val (.int (0 : Int32)), .val (.int (0 : Int32)), .val (.int (3 : Int32)), .val (.int e0_), .val (.int e1_), .val (.int e2_), .val (.ref key), .val .null, .val (.ref d), .val (.ref c2_101), .unset]) rfl ?_
          show Steps p.tables e below (T101.setTop (mkF m 174 #[.val (.int p0), .val (.int p1), .val (.int p2), .val (.int p3), .val (.long q4), .second, .val (.int (0 : Int32)), .val (.int (0 : Int32)), .val (.int (3 : Int32)), .val (.int e0_), .val (.int e1_), .val (.int e2_), .val (.ref key), .val .null, .val (.ref d), .val (.ref c2_101), .unset] [])) _
          refine XS.iload X101.here hx rfl (hb hby at_174) rfl ?_
          show Steps p.tables e below (T101.setTop (mkF m 176 #[.val (.int p0), .val (.int p1), .val (.int p2), .val (.int p3), .val (.long q4), .second, .val (.int (0 : Int32)), .val (.int (0 : Int32)), .val (.int (3 : Int32)), .val (.int e0_), .val (.int e1_), .val (.int e2_), .val (.ref key), .val .null, .val (.ref d), .val (.ref c2_101), .unset] [(.int (0 : Int32))])) _
          refine XS.ifYes X101.here hx rfl (pc0 := 176) (pc' := 190) rfl (hb hby at_176) rfl ((if0 _ _).trans (teq (rfl : (0 : Int32) = (0 : Int32))).1) (by decide) (by decide) ?_
          show Steps p.tables e below (T101.setTop (mkF m 190 #[.val (.int p0), .val (.int p1), .val (.int p2), .val (.int p3), .val (.long q4), .second, .val (.int (0 : Int32)), .val (.int (0 : Int32)), .val (.int (3 : Int32)), .val (.int e0_), .val (.int e1_), .val (.int e2_), .val (.ref key), .val .null, .val (.ref d), .val (.ref c2_101), .unset] [])) _
          refine XS.aload X101.here hx rfl (hb hby at_190) rfl rfl ?_
          show Steps p.tables e below (T101.setTop (mkF m 192 #[.val (.int p0), .val (.int p1), .val (.int p2), .val (.int p3), .val (.long q4), .second, .val (.int (0 : Int32)), .val (.int (0 : Int32)), .val (.int (3 : Int32)), .val (.int e0_), .val (.int e1_), .val (.int e2_), .val (.ref key), .val .null, .val (.ref d), .val (.ref c2_101), .unset] [(.ref c2_101)])) _
          refine XS.iload X101.here hx rfl (hb hby at_192) rfl ?_
          show Steps p.tables e below (T101.setTop (mkF m 194 #[.val (.int p0), .val (.int p1), .val (.int p2), .val (.int p3), .val (.long q4), .second, .val (.int (0 : Int32)), .val (.int (0 : Int32)), .val (.int (3 : Int32)), .val (.int e0_), .val (.int e1_), .val (.int e2_), .val (.ref key), .val .null, .val (.ref d), .val (.ref c2_101), .unset] [(.int (3 : Int32)), (.ref c2_101)])) _
          refine XS.iload X101.here hx rfl (hb hby at_194) rfl ?_
          show Steps p.tables e below (T101.setTop (mkF m 196 #[.val (.int p0), .val (.int p1), .val (.int p2), .val (.int p3), .val (.long q4), .second, .val (.int (0 : Int32)), .val (.int (0 : Int32)), .val (.int (3 : Int32)), .val (.int e0_), .val (.int e1_), .val (.int e2_), .val (.ref key), .val .null, .val (.ref d), .val (.ref c2_101), .unset] [(.int e0_), (.int (3 : Int32)), (.ref c2_101)])) _
          refine XS.iload X101.here hx rfl (hb hby at_196) rfl ?_
          show Steps p.tables e below (T101.setTop (mkF m 198 #[.val (.int p0), .val (.int p1), .val (.int p2), .val (.int p3), .val (.long q4), .second, .val (.int (0 : Int32)), .val (.int (0 : Int32)), .val (.int (3 : Int32)), .val (.int e0_), .val (.int e1_), .val (.int e2_), .val (.ref key), .val .null, .val (.ref d), .val (.ref c2_101), .unset] [(.int e1_), (.int e0_), (.int (3 : Int32)), (.ref c2_101)])) _
          refine XS.iload X101.here hx rfl (hb hby at_198) rfl ?_
          exact kt
        obtain ⟨_, _, ⟨T103, L103, k103, n103⟩, -, X103, ⟨Lc103, hQ103, l103, y103, z103⟩, st103⟩ := Jvm.LawKit.callS X101 hx (y := (⟨"com/example/imprimatur/imprimatur/verify/DeviceValuesPublicKeyPinLaw", "same", "([BIBBB)Z"⟩ : MethodName)) hown (mvT hZ (hw _ (List.mem_of_getElem? (i := 52) rfl))) (mvT hZ (hw _ (List.mem_of_getElem? (i := 53) rfl))) (mvT hZ (hw _ (List.mem_of_getElem? (i := 54) rfl))) (mvT hZ (hw _ (List.mem_of_getElem? (i := 55) rfl))) (by decide) (backOf (W := 0) (rmS3 l Z a0 hw [] c2_101 e0_ e1_ e2_ k82 [((2 : Int32), (.int e2_)), ((1 : Int32), (.int e1_)), ((0 : Int32), (.int e0_))] T101.heap n0 Z_101 Hr1 rfl rfl rfl) hZ (hw _ (List.mem_of_getElem? (i := 55) rfl)) (hw _ (List.mem_of_getElem? (i := 54) rfl)) (by decide) (by decide)) (g := (mkF m 200 #[.val (.int p0), .val (.int p1), .val (.int p2), .val (.int p3), .val (.long q4), .second, .val (.int (0 : Int32)), .val (.int (0 : Int32)), .val (.int (3 : Int32)), .val (.int e0_), .val (.int e1_), .val (.int e2_), .val (.ref key), .val .null, .val (.ref d), .val (.ref c2_101), .unset] [(.int e2_), (.int e1_), (.int e0_), (.int (3 : Int32)), (.ref c2_101)])) rfl (by rw [hml]; rfl) (argsL := [(.ref c2_101), (.int (3 : Int32)), (.int e0_), (.int e1_), (.int e2_)]) (rest := []) (lenOf pd_6 rfl) rfl (by show 2 * 0 + _ ≤ _; exact Nat.le_of_eq rfl) (hb hby at_200) (fun _ _ => ⟨rfl, rfl, (by decide : 5 + 0 ≤ _), (by decide : 14 + 0 ≤ _)⟩)
        dsimp only [Pt.U, Pt.locs, Pt.cells, Pt.slots] at X103 l103 y103 z103 st103 hQ103
        subst l103 y103 z103
        obtain ⟨rfl, Nq103, e103⟩ := hQ103
        have N103 := Fr.app N101 Nq103
        have st104 : ∀ target, Steps p.tables e below (T103.setTop (mkF m 219 #[.val (.int p0), .val (.int p1), .val (.int p2), .val (.int p3), .val (.long q4), .second, .val (.int (0 : Int32)), .val (.int (0 : Int32)), .val (.int (3 : Int32)), .val (.int e0_), .val (.int e1_), .val (.int e2_), .val (.ref key), .val .null, .val (.ref d), .val (.ref c2_101), .unset] [(.int (0 : Int32)), (.ref c2_101), (.int (0 : Int32)), (.ref c2_101)])) target → Steps p.tables e below (T103.setTop (mkF m 203 #[.val (.int p0), .val (.int p1), .val (.int p2), .val (.int p3), .val (.long q4), .second, .val (.int (0 : Int32)), .val (.int (0 : Int32)), .val (.int (3 : Int32)), .val (.int e0_), .val (.int e1_), .val (.int e2_), .val (.ref key), .val .null, .val (.ref d), .val (.ref c2_101), .unset] [(.int (1 : Int32))])) target := by
          intro target kt
          show Steps p.tables e below (T103.setTop (mkF m 203 #[.val (.int p0), .val (.int p1), .val (.int p2), .val (.int p3), .val (.long q4), .second, .val (.int (0 : Int32)), .val (.int (0 : Int32)), .val (.int (3 : Int32)), .val (.int e0_), .val (.int e1_), .val (.int e2_), .val (.ref key), .val .null, .val (.ref d), .val (.ref c2_101), .unset] [(.int (1 : Int32))])) _
          refine XS.ifYes X103.here hx rfl (pc0 := 203) (pc' := 208) rfl (hb hby at_203) rfl ((if0 _ _).trans (feq (by decide : ¬ ((1 : Int32) = (0 : Int32)))).2) (by decide) (by decide) ?_
          show Steps p.tables e below (T103.setTop (mkF m 208 #[.val (.int p0), .val (.int p1), .val (.int p2), .val (.int p3), .val (.long q4), .second, .val (.int (0 : Int32)), .val (.int (0 : Int32)), .val (.int (3 : Int32)), .val (.int e0_), .val (.int e1_), .val (.int e2_), .val (.ref key), .val .null, .val (.ref d), .val (.ref c2_101), .unset] [])) _
          refine XS.iload X103.here hx rfl (hb hby at_208) rfl ?_
          show Steps p.tables e below (T103.setTop (mkF m 210 #[.val (.int p0), .val (.int p1), .val (.int p2), .val (.int p3), .val (.long q4), .second, .val (.int (0 : Int32)), .val (.int (0 : Int32)), .val (.int (3 : Int32)), .val (.int e0_), .val (.int e1_), .val (.int e2_), .val (.ref key), .val .null, .val (.ref d), .val (.ref c2_101), .unset] [(.int (3 : Int32))])) _
          refine XS.ifNo X103.here hx rfl (hb hby at_210) rfl ((if0 _ _).trans (tlt (by decide : ((0 : Int32) < (3 : Int32)))).2.2.2) ?_
          show Steps p.tables e below (T103.setTop (mkF m 213 #[.val (.int p0), .val (.int p1), .val (.int p2), .val (.int p3), .val (.long q4), .second, .val (.int (0 : Int32)), .val (.int (0 : Int32)), .val (.int (3 : Int32)), .val (.int e0_), .val (.int e1_), .val (.int e2_), .val (.ref key), .val .null, .val (.ref d), .val (.ref c2_101), .unset] [])) _
          refine XS.aload X103.here hx rfl (hb hby at_213) rfl rfl ?_
          show Steps p.tables e below (T103.setTop (mkF m 215 #[.val (.int p0), .val (.int p1), .val (.int p2), .val (.int p3), .val (.long q4), .second, .val (.int (0 : Int32)), .val (.int (0 : Int32)), .val (.int (3 : Int32)), .val (.int e0_), .val (.int e1_), .val (.int e2_), .val (.ref key), .val .null, .val (.ref d), .val (.ref c2_101), .unset] [(.ref c2_101)])) _
          refine XS.iconst X103.here hx rfl (hb hby at_215) ?_
          show Steps p.tables e below (T103.setTop (mkF m 216 #[.val (.int p0), .val (.int p1), .val (.int p2), .val (.int p3), .val (.long q4), .second, .val (.int (0 : Int32)), .val (.int (0 : Int32)), .val (.int (3 : Int32)), .val (.int e0_), .val (.int e1_), .val (.int e2_), .val (.ref key), .val .null, .val (.ref d), .val (.ref c2_101), .unset] [(.int (0 : Int32)), (.ref c2_101)])) _
          refine XS.aload X103.here hx rfl (hb hby at_216) rfl rfl ?_
          show Steps p.tables e below (T103.setTop (mkF m 218 #[.val (.int p0), .val (.int p1), .val (.int p2), .val (.int p3), .val (.long q4), .second, .val (.int (0 : Int32)), .val (.int (0 : Int32)), .val (.int (3 : Int32)), .val (.int e0_), .val (.int e1_), .val (.int e2_), .val (.ref key), .val .null, .val (.ref d), .val (.ref c2_101), .unset] [(.ref c2_101), (.int (0 : Int32)), (.ref c2_101)])) _
          refine XS.iconst X103.here hx rfl (hb hby at_218) ?_
          exact kt
        obtain ⟨cl105, Ar105, qc105, Sz105, Mn105, Hs105, Gs105⟩ := id Hr1
        have hin105 : ¬ ((0 : Int32) < 0 ∨ cl105.slots.size ≤ ((0 : Int32)).toNatClampNeg) := own_in Sz105 ⟨by decide, by decide⟩
        have hat105 : cl105.slots[((0 : Int32)).toNatClampNeg]? = some (.int e0_) := atH Hs105 hin105 rfl
        have st106 : ∀ target, Steps p.tables e below (T103.setTop (mkF m 220 #[.val (.int p0), .val (.int p1), .val (.int p2), .val (.int p3), .val (.long q4), .second, .val (.int (0 : Int32)), .val (.int (0 : Int32)), .val (.int (3 : Int32)), .val (.int e0_), .val (.int e1_), .val (.int e2_), .val (.ref key), .val .null, .val (.ref d), .val (.ref c2_101), .unset] [(.int e0_), (.int (0 : Int32)), (.ref c2_101)])) target → Steps p.tables e below (T103.setTop (mkF m 219 #[.val (.int p0), .val (.int p1), .val (.int p2), .val (.int p3), .val (.long q4), .second, .val (.int (0 : Int32)), .val (.int (0 : Int32)), .val (.int (3 : Int32)), .val (.int e0_), .val (.int e1_), .val (.int e2_), .val (.ref key), .val .null, .val (.ref d), .val (.ref c2_101), .unset] [(.int (0 : Int32)), (.ref c2_101), (.int (0 : Int32)), (.ref c2_101)])) target := fun target kt => X103.baloadBytes hx (j := (0 : Int32)) (v := (.int e0_)) (by rw [e103]; exact Ar105.1) (State.isArrayOf_alike hZ.alike Ar105.2.1) Ar105.2.2 hin105 hat105 (g := (mkF m 219 #[.val (.int p0), .val (.int p1), .val (.int p2), .val (.int p3), .val (.long q4), .second, .val (.int (0 : Int32)), .val (.int (0 : Int32)), .val (.int (3 : Int32)), .val (.int e0_), .val (.int e1_), .val (.int e2_), .val (.ref key), .val .null, .val (.ref d), .val (.ref c2_101), .unset] [(.int (0 : Int32)), (.ref c2_101), (.int (0 : Int32)), (.ref c2_101)])) rfl rfl (hb hby at_219) _ kt
        have st107 : ∀ target, Steps p.tables e below (T103.setTop (mkF m 223 #[.val (.int p0), .val (.int p1), .val (.int p2), .val (.int p3), .val (.long q4), .second, .val (.int (0 : Int32)), .val (.int (0 : Int32)), .val (.int (3 : Int32)), .val (.int e0_), .val (.int e1_), .val (.int e2_), .val (.ref key), .val .null, .val (.ref d), .val (.ref c2_101), .unset] [(.int ((e0_ ^^^ (1 : Int32)).toInt8.toInt32)), (.int (0 : Int32)), (.ref c2_101)])) target → Steps p.tables e below (T103.setTop (mkF m 220 #[.val (.int p0), .val (.int p1), .val (.int p2), .val (.int p3), .val (.long q4), .second, .val (.int (0 : Int32)), .val (.int (0 : Int32)), .val (.int (3 : Int32)), .val (.int e0_), .val (.int e1_), .val (.int e2_), .val (.ref key), .val .null, .val (.ref d), .val (.ref c2_101), .unset] [(.int e0_), (.int (0 : Int32)), (.ref c2_101)])) target := by
          intro target kt
          show Steps p.tables e below (T103.setTop (mkF m 220 #[.val (.int p0), .val (.int p1), .val (.int p2), .val (.int p3), .val (.long q4), .second, .val (.int (0 : Int32)), .val (.int (0 : Int32)), .val (.int (3 : Int32)), .val (.int e0_), .val (.int e1_), .val (.int e2_), .val (.ref key), .val .null, .val (.ref d), .val (.ref c2_101), .unset] [(.int e0_), (.int (0 : Int32)), (.ref c2_101)])) _
          refine XS.iconst X103.here hx rfl (hb hby at_220) ?_
          show Steps p.tables e below (T103.setTop (mkF m 221 #[.val (.int p0), .val (.int p1), .val (.int p2), .val (.int p3), .val (.long q4), .second, .val (.int (0 : Int32)), .val (.int (0 : Int32)), .val (.int (3 : Int32)), .val (.int e0_), .val (.int e1_), .val (.int e2_), .val (.ref key), .val .null, .val (.ref d), .val (.ref c2_101), .unset] [(.int (1 : Int32)), (.int e0_), (.int (0 : Int32)), (.ref c2_101)])) _
          refine XS.ixor X103.here hx rfl (hb hby at_221) rfl ?_
          show Steps p.tables e below (T103.setTop (mkF m 222 #[.val (.int p0), .val (.int p1), .val (.int p2), .val (.int p3), .val (.long q4), .second, .val (.int (0 : Int32)), .val (.int (0 : Int32)), .val (.int (3 : Int32)), .val (.int e0_), .val (.int e1_), .val (.int e2_), .val (.ref key), .val .null, .val (.ref d), .val (.ref c2_101), .unset] [(.int (e0_ ^^^ (1 : Int32))), (.int (0 : Int32)), (.ref c2_101)])) _
          refine XS.i2b X103.here hx rfl (hb hby at_222) rfl ?_
          exact kt
        obtain ⟨cl108, Ar108, qc108, Sz108, Mn108, Hs108, Gs108⟩ := id Hr1
        have hin108 : ¬ ((0 : Int32) < 0 ∨ cl108.slots.size ≤ ((0 : Int32)).toNatClampNeg) := own_in Sz108 ⟨by decide, by decide⟩
        obtain ⟨T108, h108, X108, e108, W108, st108⟩ := stB X103 hx hZ e103 Ar108 (j := (0 : Int32)) hin108 (g := (mkF m 223 #[.val (.int p0), .val (.int p1), .val (.int p2), .val (.int p3), .val (.long q4), .second, .val (.int (0 : Int32)), .val (.int (0 : Int32)), .val (.int (3 : Int32)), .val (.int e0_), .val (.int e1_), .val (.int e2_), .val (.ref key), .val .null, .val (.ref d), .val (.ref c2_101), .unset] [(.int ((e0_ ^^^ (1 : Int32)).toInt8.toInt32)), (.int (0 : Int32)), (.ref c2_101)])) rfl rfl (hb hby at_223)
        have Hh_c2_101_108 : Arh Z h108 c2_101 k82 .byte (3 : Int32) [((0 : Int32), (.int (nar .byte ((e0_ ^^^ (1 : Int32)).toInt8.toInt32)))), ((2 : Int32), (.int e2_)), ((1 : Int32), (.int e1_)), ((0 : Int32), (.int e0_))] [] (.int (0 : Int32)) := Arh.push Ar108 qc108 Sz108 Mn108 Hs108 Gs108 (fits_nar_byte _) W108 hin108
        have Od_108 := Od_101.wr W108 g_c2_101
        have Ex82_108 := Ex82_101.wr W108
        have Ed_108 := Ed_101.wr W108
        have Et92_108 := Et92_101.wr W108
        have Fc_108 := Fc_101.other W108 (Or.inl ne_d_c2_101)
        have Hc_108 := Hc_101.other W108 ne_c_c2_101
        have Ec_108 := Ec_101.wr W108
        have Hh_key_108 := Hh_key_101.other W108 ne_key_c2_101
        have Er1_108 := Er1.wr W108
        have Z_108 : n0 ≤ h108.size := Nat.le_trans Z_101 (Keep.of_wr W108).1
        have N108 := Fr.snoc X108 N103 g_c2_101
        have st109 : ∀ target, Steps p.tables e below (T108.setTop (mkF m 226 #[.val (.int p0), .val (.int p1), .val (.int p2), .val (.int p3), .val (.long q4), .second, .val (.int (0 : Int32)), .val (.int (0 : Int32)), .val (.int (3 : Int32)), .val (.int e0_), .val (.int e1_), .val (.int e2_), .val (.ref key), .val .null, .val (.ref d), .val (.ref c2_101), .unset] [(.ref d)])) target → Steps p.tables e below (T108.setTop (mkF m 224 #[.val (.int p0), .val (.int p1), .val (.int p2), .val (.int p3), .val (.long q4), .second, .val (.int (0 : Int32)), .val (.int (0 : Int32)), .val (.int (3 : Int32)), .val (.int e0_), .val (.int e1_), .val (.int e2_), .val (.ref key), .val .null, .val (.ref d), .val (.ref c2_101), .unset] [])) target := by
          intro target kt
          show Steps p.tables e below (T108.setTop (mkF m 224 #[.val (.int p0), .val (.int p1), .val (.int p2), .val (.int p3), .val (.long q4), .second, .val (.int (0 : Int32)), .val (.int (0 : Int32)), .val (.int (3 : Int32)), .val (.int e0_), .val (.int e1_), .val (.int e2_), .val (.ref key), .val .null, .val (.ref d), .val (.ref c2_101), .unset] [])) _
          refine XS.aload X108.here hx rfl (hb hby at_224) rfl rfl ?_
          exact kt
        obtain ⟨cq110, kq110, qv110a, qv110b, qv110c⟩ := isOf hZ e108 Ed_108
        obtain ⟨_, _, ⟨T110, L110, k110, n110⟩, -, X110, ⟨Lc110, hQ110, l110, y110, z110⟩, st110⟩ := X108.virtualBack hx (y := (⟨"com/example/imprimatur/imprimatur/verify/DeviceValues", "publicKey", "()[B"⟩ : MethodName)) (z := (⟨"com/example/imprimatur/imprimatur/verify/DeviceValues", "publicKey", "()[B"⟩ : MethodName)) hown (mvT hZ (hw _ (List.mem_of_getElem? (i := 47) rfl))) (mvT hZ (hw _ (List.mem_of_getElem? (i := 48) rfl))) (notFace_of_selects (args := #[]) (mvT hZ (hw _ (List.mem_of_getElem? (i := 50) rfl)))) (mvT hZ (hw _ (List.mem_of_getElem? (i := 50) rfl))) (mvT hZ (hw _ (List.mem_of_getElem? (i := 49) rfl))) (by decide) (backOf (W := 0) (rm_publicKey l Z a0 hw [] d c k82 (3 : Int32) [((2 : Int32), (.int e2_)), ((1 : Int32), (.int e1_)), ((0 : Int32), (.int e0_))] h108 n0 Z_108 Fc_108 Hc_108 Ec_108 (by decide)) hZ (hw _ (List.mem_of_getElem? (i := 51) rfl)) (hw _ (List.mem_of_getElem? (i := 3) rfl)) (by decide) (by decide)) qv110a qv110c (g := (mkF m 226 #[.val (.int p0), .val (.int p1), .val (.int p2), .val (.int p3), .val (.long q4), .second, .val (.int (0 : Int32)), .val (.int (0 : Int32)), .val (.int (3 : Int32)), .val (.int e0_), .val (.int e1_), .val (.int e2_), .val (.ref key), .val .null, .val (.ref d), .val (.ref c2_101), .unset] [(.ref d)])) rfl (by rw [hml]; rfl) (Steps.refl _) (argsL := []) (rest := []) (lenOf pd_5 rfl) rfl (by show 2 * 0 + _ ≤ _; exact Nat.le_of_eq rfl) (hb hby at_226) (fun _ _ => ⟨rfl, e108, (by decide : 5 + 1 ≤ _), (by decide : 14 + 3 ≤ _)⟩)
        dsimp only [Pt.U, Pt.locs, Pt.cells, Pt.slots] at X110 l110 y110 z110 st110 hQ110
        subst l110 y110 z110
        obtain ⟨c2_110, rfl, Nq110, K110, sz110, Hr2, Er2⟩ := hQ110
        have N110 := Fr.app N108 Nq110
        have g_c2_110 : n0 ≤ c2_110 := Nat.le_trans Z_108 sz110
        have ne_key_c2_110 : key ≠ c2_110 := Nat.ne_of_lt (Nat.lt_of_lt_of_le Ex82_108.lt sz110)
        have ne_d_c2_110 : d ≠ c2_110 := Nat.ne_of_lt (Nat.lt_of_lt_of_le Ed_108.lt sz110)
        have ne_t92_c2_110 : t92 ≠ c2_110 := Nat.ne_of_lt (Nat.lt_of_lt_of_le Et92_108.lt sz110)
        have ne_c_c2_110 : c ≠ c2_110 := Nat.ne_of_lt (Nat.lt_of_lt_of_le Hc_108.lt sz110)
        have ne_c2_101_c2_110 : c2_101 ≠ c2_110 := Nat.ne_of_lt (Nat.lt_of_lt_of_le Er1_108.lt sz110)
        have Od_110 := Od_108.keep K110 (all0)
        have Ex82_110 := Ex82_108.keep K110
        have Ed_110 := Ed_108.keep K110
        have Et92_110 := Et92_108.keep K110
        have Fc_110 := Fc_108.keep K110 nin0
        have Hc_110 := Hc_108.keep K110 nin0
        have Ec_110 := Ec_108.keep K110
        have Hh_key_110 := Hh_key_108.keep K110 nin0
        have Er1_110 := Er1_108.keep K110
        have Hh_c2_101_110 := Hh_c2_101_108.keep K110 nin0
        have Z_110 : n0 ≤ T110.heap.size := Nat.le_trans Z_108 K110.1
        have st111 : ∀ target, Steps p.tables e below (T110.setTop (mkF m 241 #[.val (.int p0), .val (.int p1), .val (.int p2), .val (.int p3), .val (.long q4), .second, .val (.int (0 : Int32)), .val (.int (0 : Int32)), .val (.int (3 : Int32)), .val (.int e0_), .val (.int e1_), .val (.int e2_), .val (.ref key), .val .null, .val (.ref d), .val (.ref c2_101), .val (.ref c2_110)] [(.int e2_), (.int e1_), (.int e0_), (.int (3 : Int32)), (.ref c2_110)])) target → Steps p.tables e below (T110.setTop (mkF m 229 #[.val (.int p0), .val (.int p1), .val (.int p2), .val (.int p3), .val (.long q4), .second, .val (.int (0 : Int32)), .val (.int (0 : Int32)), .val (.int (3 : Int32)), .val (.int e0_), .val (.int e1_), .val (.int e2_), .val (.ref key), .val .null, .val (.ref d), .val (.ref c2_101), .unset] [(.ref c2_110)])) target := by
          intro target kt
          show Steps p.tables e below (T110.setTop (mkF m 229 #[.val (.int p0), .val (.int p1), .val (.int p2), .val (.int p3), .val (.long q4), .second, .val (.int (0 : Int32)), .val (.int (0 : Int32)), .val (.int (3 : Int32)), .val (.int e0_), .val (.int e1_), .val (.int e2_), .val (.ref key), .val .null, .val (.ref d), .val (.ref c2_101), .unset] [(.ref c2_110)])) _
          refine XS.astore X110.here hx rfl (hb hby at_229) rfl rfl (l' := #[.val (.int p0), .val (.int p1), .val (.int p2), .val (.int p3), .val (.long q4), .second, .val (.int (0 : Int32)), .val (.int (0 : Int32)), .val (.int (3 : Int32)), .val (.int e0_), .val (.int e1_), .val (.int e2_), .val (.ref key), .val .null, .val (.ref d), .val (.ref c2_101), .val (.ref c2_110)]) rfl ?_
          show Steps p.tables e below (T110.setTop (mkF m 231 #[.val (.int p0), .val (.int p1), .val (.int p2), .val (.int p3), .val (.long q4), .second, .val (.int (0 : Int32)), .val (.int (0 : Int32)), .val (.int (3 : Int32)), .val (.int e0_), .val (.int e1_), .val (.int e2_), .val (.ref key), .val .null, .val (.ref d), .val (.ref c2_101), .val (.ref c2_110)] [])) _
          refine XS.aload X110.here hx rfl (hb hby at_231) rfl rfl ?_
          show Steps p.tables e below (T110.setTop (mkF m 233 #[.val (.int p0), .val (.int p1), .val (.int p2), .val (.int p3), .val (.long q4), .second, .val (.int (0 : Int32)), .val (.int (0 : Int32)), .val (.int (3 : Int32)), .val (.int e0_), .val (.int e1_), .val (.int e2_), .val (.ref key), .val .null, .val (.ref d), .val (.ref c2_101), .val (.ref c2_110)] [(.ref c2_110)])) _
          refine XS.iload X110.here hx rfl (hb hby at_233) rfl ?_
          show Steps p.tables e below (T110.setTop (mkF m 235 #[.val (.int p0), .val (.int p1), .val (.int p2), .val (.int p3), .val (.long q4), .second, .val (.int (0 : Int32)), .val (.int (0 : Int32)), .val (.int (3 : Int32)), .val (.int e0_), .val (.int e1_), .val (.int e2_), .val (.ref key), .val .null, .val (.ref d), .val (.ref c2_101), .val (.ref c2_110)] [(.int (3 : Int32)), (.ref c2_110)])) _
          refine XS.iload X110.here hx rfl (hb hby at_235) rfl ?_
          show Steps p.tables e below (T110.setTop (mkF m 237 #[.val (.int p0), .val (.int p1), .val (.int p2), .val (.int p3), .val (.long q4), .second, .val (.int (0 : Int32)), .val (.int (0 : Int32)), .val (.int (3 : Int32)), .val (.int e0_), .val (.int e1_), .val (.int e2_), .val (.ref key), .val .null, .val (.ref d), .val (.ref c2_101), .val (.ref c2_110)] [(.int e0_), (.int (3 : Int32)), (.ref c2_110)])) _
          refine XS.iload X110.here hx rfl (hb hby at_237) rfl ?_
          show Steps p.tables e below (T110.setTop (mkF m 239 #[.val (.int p0), .val (.int p1), .val (.int p2), .val (.int p3), .val (.long q4), .second, .val (.int (0 : Int32)), .val (.int (0 : Int32)), .val (.int (3 : Int32)), .val (.int e0_), .val (.int e1_), .val (.int e2_), .val (.ref key), .val .null, .val (.ref d), .val (.ref c2_101), .val (.ref c2_110)] [(.int e1_), (.int e0_), (.int (3 : Int32)), (.ref c2_110)])) _
          refine XS.iload X110.here hx rfl (hb hby at_239) rfl ?_
          exact kt
        obtain ⟨_, _, ⟨T112, L112, k112, n112⟩, -, X112, ⟨Lc112, hQ112, l112, y112, z112⟩, st112⟩ := Jvm.LawKit.callS X110 hx (y := (⟨"com/example/imprimatur/imprimatur/verify/DeviceValuesPublicKeyPinLaw", "same", "([BIBBB)Z"⟩ : MethodName)) hown (mvT hZ (hw _ (List.mem_of_getElem? (i := 52) rfl))) (mvT hZ (hw _ (List.mem_of_getElem? (i := 53) rfl))) (mvT hZ (hw _ (List.mem_of_getElem? (i := 54) rfl))) (mvT hZ (hw _ (List.mem_of_getElem? (i := 55) rfl))) (by decide) (backOf (W := 0) (rmS3 l Z a0 hw [] c2_110 e0_ e1_ e2_ k82 [((2 : Int32), (.int e2_)), ((1 : Int32), (.int e1_)), ((0 : Int32), (.int e0_))] T110.heap n0 Z_110 Hr2 rfl rfl rfl) hZ (hw _ (List.mem_of_getElem? (i := 55) rfl)) (hw _ (List.mem_of_getElem? (i := 54) rfl)) (by decide) (by decide)) (g := (mkF m 241 #[.val (.int p0), .val (.int p1), .val (.int p2), .val (.int p3), .val (.long q4), .second, .val (.int (0 : Int32)), .val (.int (0 : Int32)), .val (.int (3 : Int32)), .val (.int e0_), .val (.int e1_), .val (.int e2_), .val (.ref key), .val .null, .val (.ref d), .val (.ref c2_101), .val (.ref c2_110)] [(.int e2_), (.int e1_), (.int e0_), (.int (3 : Int32)), (.ref c2_110)])) rfl (by rw [hml]; rfl) (argsL := [(.ref c2_110), (.int (3 : Int32)), (.int e0_), (.int e1_), (.int e2_)]) (rest := []) (lenOf pd_6 rfl) rfl (by show 2 * 0 + _ ≤ _; exact Nat.le_of_eq rfl) (hb hby at_241) (fun _ _ => ⟨rfl, rfl, (by decide : 6 + 0 ≤ _), (by decide : 17 + 0 ≤ _)⟩)
        dsimp only [Pt.U, Pt.locs, Pt.cells, Pt.slots] at X112 l112 y112 z112 st112 hQ112
        subst l112 y112 z112
        obtain ⟨rfl, Nq112, e112⟩ := hQ112
        have N112 := Fr.app N110 Nq112
        obtain ⟨fs, hr, hrun, hended, hW, hsame⟩ := X112.leave (v := some (.int (1 : Int32))) (fun h => by rw [Bd.returns] at h; cases h)
        refine ⟨_, _, pre0 _ (st1 _ (st2 _ (st3 _ (st4 _ (st5 _ (st6 _ (st81 _ (st82 _ (st83 _ (st84 _ (st85 _ (st86 _ (st87 _ (st88 _ (st89 _ (st90 _ (st91 _ (st92 _ (st93 _ (st94.trans (st95 _ (st97 _ (st98 _ (st99 _ (st100 _ (st101.trans (st102 _ (st103 _ (st104 _ (st106 _ (st107 _ (st108 _ (st109 _ (st110.trans (st111 _ (st112 _ ?_)))))))))))))))))))))))))))))))))))), hrun, hended, _, _, rfl, ?_, ⟨_, rfl⟩, hW, hsame.mono (by decide) (by decide)⟩
        · show Steps p.tables e below (T112.setTop (mkF m 244 #[.val (.int p0), .val (.int p1), .val (.int p2), .val (.int p3), .val (.long q4), .second, .val (.int (0 : Int32)), .val (.int (0 : Int32)), .val (.int (3 : Int32)), .val (.int e0_), .val (.int e1_), .val (.int e2_), .val (.ref key), .val .null, .val (.ref d), .val (.ref c2_101), .val (.ref c2_110)] [(.int (1 : Int32))])) _
          exact retN X112 hx (t := .boolean) Bd.returns (by simp) (hb hby at_244) hr
        · show Q_rm0 Z p0 p1 p2 p3 q4 ca cc val h0 n0 _ T112.heap _
          rw [e112]
          exact ⟨rfl, N112⟩
    · have st113 : ∀ target, Steps p.tables e below (s₁.setTop (mkF m 19 #[.val (.int p0), .val (.int p1), .val (.int p2), .val (.int p3), .val (.long q4), .second, .val (.int (0 : Int32)), .unset, .unset, .unset, .unset, .unset, .unset, .unset, .unset, .unset, .unset] [])) target → Steps p.tables e below (s₁.setTop (mkF m 16 #[.val (.int p0), .val (.int p1), .val (.int p2), .val (.int p3), .val (.long q4), .second, .val (.int (0 : Int32)), .unset, .unset, .unset, .unset, .unset, .unset, .unset, .unset, .unset, .unset] [(.int (p0 &&& (2 : Int32)))])) target := by
        intro target kt
        show Steps p.tables e below (s₁.setTop (mkF m 16 #[.val (.int p0), .val (.int p1), .val (.int p2), .val (.int p3), .val (.long q4), .second, .val (.int (0 : Int32)), .unset, .unset, .unset, .unset, .unset, .unset, .unset, .unset, .unset, .unset] [(.int (p0 &&& (2 : Int32)))])) _
        refine XS.ifNo X0.here hx rfl (hb hby at_16) rfl ((if0 _ _).trans (feq hc16).1) ?_
        exact kt
      have st114 : ∀ target, Steps p.tables e below (s₁.setTop (mkF m 33 #[.val (.int p0), .val (.int p1), .val (.int p2), .val (.int p3), .val (.long q4), .second, .val (.int (0 : Int32)), .val (.int (1 : Int32)), .val (.int (((p0.toUInt32 >>> ((2 : Int32) &&& 31).toUInt32).toInt32) &&& (3 : Int32))), .unset, .unset, .unset, .unset, .unset, .unset, .unset, .unset] [])) target → Steps p.tables e below (s₁.setTop (mkF m 19 #[.val (.int p0), .val (.int p1), .val (.int p2), .val (.int p3), .val (.long q4), .second, .val (.int (0 : Int32)), .unset, .unset, .unset, .unset, .unset, .unset, .unset, .unset, .unset, .unset] [])) target := by
        intro target kt
        show Steps p.tables e below (s₁.setTop (mkF m 19 #[.val (.int p0), .val (.int p1), .val (.int p2), .val (.int p3), .val (.long q4), .second, .val (.int (0 : Int32)), .unset, .unset, .unset, .unset, .unset, .unset, .unset, .unset, .unset, .unset] [])) _
        refine XS.iconst X0.here hx rfl (hb hby at_19) ?_
        show Steps p.tables e below (s₁.setTop (mkF m 20 #[.val (.int p0), .val (.int p1), .val (.int p2), .val (.int p3), .val (.long q4), .second, .val (.int (0 : Int32)), .unset, .unset, .unset, .unset, .unset, .unset, .unset, .unset, .unset, .unset] [(.int (1 : Int32))])) _
        refine XS.goto X0.here hx rfl (pc0 := 20) (pc' := 24) rfl (hb hby at_20) (by decide) (by decide) ?_
        show Steps p.tables e below (s₁.setTop (mkF m 24 #[.val (.int p0), .val (.int p1), .val (.int p2), .val (.int p3), .val (.long q4), .second, .val (.int (0 : Int32)), .unset, .unset, .unset, .unset, .unset, .unset, .unset, .unset, .unset, .unset] [(.int (1 : Int32))])) _
        refine XS.istore X0.here hx rfl (hb hby at_24) rfl (l' := #[.val (.int p0), .val (.int p1), .val (.int p2), .val (.int p3), .val (.long q4), .second, .val (.int (0 : Int32)), .val (.int (1 : Int32)), .unset, .unset, .unset, .unset, .unset, .unset, .unset, .unset, .unset]) rfl ?_
        show Steps p.tables e below (s₁.setTop (mkF m 26 #[.val (.int p0), .val (.int p1), .val (.int p2), .val (.int p3), .val (.long q4), .second, .val (.int (0 : Int32)), .val (.int (1 : Int32)), .unset, .unset, .unset, .unset, .unset, .unset, .unset, .unset, .unset] [])) _
        refine XS.iloadN X0.here hx rfl (hb hby at_26) rfl ?_
        show Steps p.tables e below (s₁.setTop (mkF m 27 #[.val (.int p0), .val (.int p1), .val (.int p2), .val (.int p3), .val (.long q4), .second, .val (.int (0 : Int32)), .val (.int (1 : Int32)), .unset, .unset, .unset, .unset, .unset, .unset, .unset, .unset, .unset] [(.int p0)])) _
        refine XS.iconst X0.here hx rfl (hb hby at_27) ?_
        show Steps p.tables e below (s₁.setTop (mkF m 28 #[.val (.int p0), .val (.int p1), .val (.int p2), .val (.int p3), .val (.long q4), .second, .val (.int (0 : Int32)), .val (.int (1 : Int32)), .unset, .unset, .unset, .unset, .unset, .unset, .unset, .unset, .unset] [(.int (2 : Int32)), (.int p0)])) _
        refine XS.iushr X0.here hx rfl (hb hby at_28) rfl ?_
        show Steps p.tables e below (s₁.setTop (mkF m 29 #[.val (.int p0), .val (.int p1), .val (.int p2), .val (.int p3), .val (.long q4), .second, .val (.int (0 : Int32)), .val (.int (1 : Int32)), .unset, .unset, .unset, .unset, .unset, .unset, .unset, .unset, .unset] [(.int ((p0.toUInt32 >>> ((2 : Int32) &&& 31).toUInt32).toInt32))])) _
        refine XS.iconst X0.here hx rfl (hb hby at_29) ?_
        show Steps p.tables e below (s₁.setTop (mkF m 30 #[.val (.int p0), .val (.int p1), .val (.int p2), .val (.int p3), .val (.long q4), .second, .val (.int (0 : Int32)), .val (.int (1 : Int32)), .unset, .unset, .unset, .unset, .unset, .unset, .unset, .unset, .unset] [(.int (3 : Int32)), (.int ((p0.toUInt32 >>> ((2 : Int32) &&& 31).toUInt32).toInt32))])) _
        refine XS.iand X0.here hx rfl (hb hby at_30) rfl ?_
        show Steps p.tables e below (s₁.setTop (mkF m 31 #[.val (.int p0), .val (.int p1), .val (.int p2), .val (.int p3), .val (.long q4), .second, .val (.int (0 : Int32)), .val (.int (1 : Int32)), .unset, .unset, .unset, .unset, .unset, .unset, .unset, .unset, .unset] [(.int (((p0.toUInt32 >>> ((2 : Int32) &&& 31).toUInt32).toInt32) &&& (3 : Int32)))])) _
        refine XS.istore X0.here hx rfl (hb hby at_31) rfl (l' := #[.val (.int p0), .val (.int p1), .val (.int p2), .val (.int p3), .val (.long q4), .second, .val (.int (0 : Int32)), .val (.int (1 : Int32)), .val (.int (((p0.toUInt32 >>> ((2 : Int32) &&& 31).toUInt32).toInt32) &&& (3 : Int32))), .unset, .unset, .unset, .unset, .unset, .unset, .unset, .unset]) rfl ?_
        exact kt
      obtain ⟨len, hlen⟩ : ∃ z : Int32, z = (((p0.toUInt32 >>> ((2 : Int32) &&& 31).toUInt32).toInt32) &&& (3 : Int32)) := ⟨_, rfl⟩
      rw [← hlen] at st114
      have hl4 : len = 0 ∨ len = 1 ∨ len = 2 ∨ len = 3 := hlen ▸ own_len4 p0
      clear hlen
      have st115 : ∀ target, Steps p.tables e below (s₁.setTop (mkF m 45 #[.val (.int p0), .val (.int p1), .val (.int p2), .val (.int p3), .val (.long q4), .second, .val (.int (0 : Int32)), .val (.int (1 : Int32)), .val (.int len), .val (.int (p1.toInt8.toInt32)), .val (.int (p2.toInt8.toInt32)), .val (.int (p3.toInt8.toInt32)), .unset, .unset, .unset, .unset, .unset] [])) target → Steps p.tables e below (s₁.setTop (mkF m 33 #[.val (.int p0), .val (.int p1), .val (.int p2), .val (.int p3), .val (.long q4), .second, .val (.int (0 : Int32)), .val (.int (1 : Int32)), .val (.int len), .unset, .unset, .unset, .unset, .unset, .unset, .unset, .unset] [])) target := by
        intro target kt
        show Steps p.tables e below (s₁.setTop (mkF m 33 #[.val (.int p0), .val (.int p1), .val (.int p2), .val (.int p3), .val (.long q4), .second, .val (.int (0 : Int32)), .val (.int (1 : Int32)), .val (.int len), .unset, .unset, .unset, .unset, .unset, .unset, .unset, .unset] [])) _
        refine XS.iloadN X0.here hx rfl (hb hby at_33) rfl ?_
        show Steps p.tables e below (s₁.setTop (mkF m 34 #[.val (.int p0), .val (.int p1), .val (.int p2), .val (.int p3), .val (.long q4), .second, .val (.int (0 : Int32)), .val (.int (1 : Int32)), .val (.int len), .unset, .unset, .unset, .unset, .unset, .unset, .unset, .unset] [(.int p1)])) _
        refine XS.i2b X0.here hx rfl (hb hby at_34) rfl ?_
        show Steps p.tables e below (s₁.setTop (mkF m 35 #[.val (.int p0), .val (.int p1), .val (.int p2), .val (.int p3), .val (.long q4), .second, .val (.int (0 : Int32)), .val (.int (1 : Int32)), .val (.int len), .unset, .unset, .unset, .unset, .unset, .unset, .unset, .unset] [(.int (p1.toInt8.toInt32))])) _
        refine XS.istore X0.here hx rfl (hb hby at_35) rfl (l' := #[.val (.int p0), .val (.int p1), .val (.int p2), .val (.int p3), .val (.long q4), .second, .val (.int (0 : Int32)), .val (.int (1 : Int32)), .val (.int len), .val (.int (p1.toInt8.toInt32)), .unset, .unset, .unset, .unset, .unset, .unset, .unset]) rfl ?_
        show Steps p.tables e below (s₁.setTop (mkF m 37 #[.val (.int p0), .val (.int p1), .val (.int p2), .val (.int p3), .val (.long q4), .second, .val (.int (0 : Int32)), .val (.int (1 : Int32)), .val (.int len), .val (.int (p1.toInt8.toInt32)), .unset, .unset, .unset, .unset, .unset, .unset, .unset] [])) _
        refine XS.iloadN X0.here hx rfl (hb hby at_37) rfl ?_
        show Steps p.tables e below (s₁.setTop (mkF m 38 #[.val (.int p0), .val (.int p1), .val (.int p2), .val (.int p3), .val (.long q4), .second, .val (.int (0 : Int32)), .val (.int (1 : Int32)), .val (.int len), .val (.int (p1.toInt8.toInt32)), .unset, .unset, .unset, .unset, .unset, .unset, .unset] [(.int p2)])) _
        refine XS.i2b X0.here hx rfl (hb hby at_38) rfl ?_
        show Steps p.tables e below (s₁.setTop (mkF m 39 #[.val (.int p0), .val (.int p1), .val (.int p2), .val (.int p3), .val (.long q4), .second, .val (.int (0 : Int32)), .val (.int (1 : Int32)), .val (.int len), .val (.int (p1.toInt8.toInt32)), .unset, .unset, .unset, .unset, .unset, .unset, .unset] [(.int (p2.toInt8.toInt32))])) _
        refine XS.istore X0.here hx rfl (hb hby at_39) rfl (l' := #[.val (.int p0), .val (.int p1), .val (.int p2), .val (.int p3), .val (.long q4), .second, .val (.int (0 : Int32)), .val (.int (1 : Int32)), .val (.int len), .val (.int (p1.toInt8.toInt32)), .val (.int (p2.toInt8.toInt32)), .unset, .unset, .unset, .unset, .unset, .unset]) rfl ?_
        show Steps p.tables e below (s₁.setTop (mkF m 41 #[.val (.int p0), .val (.int p1), .val (.int p2), .val (.int p3), .val (.long q4), .second, .val (.int (0 : Int32)), .val (.int (1 : Int32)), .val (.int len), .val (.int (p1.toInt8.toInt32)), .val (.int (p2.toInt8.toInt32)), .unset, .unset, .unset, .unset, .unset, .unset] [])) _
        refine XS.iloadN X0.here hx rfl (hb hby at_41) rfl ?_
        show Steps p.tables e below (s₁.setTop (mkF m 42 #[.val (.int p0), .val (.int p1), .val (.int p2), .val (.int p3), .val (.long q4), .second, .val (.int (0 : Int32)), .val (.int (1 : Int32)), .val (.int len), .val (.int (p1.toInt8.toInt32)), .val (.int (p2.toInt8.toInt32)), .unset, .unset, .unset, .unset, .unset, .unset] [(.int p3)])) _
        refine XS.i2b X0.here hx rfl (hb hby at_42) rfl ?_
        show Steps p.tables e below (s₁.setTop (mkF m 43 #[.val (.int p0), .val (.int p1), .val (.int p2), .val (.int p3), .val (.long q4), .second, .val (.int (0 : Int32)), .val (.int (1 : Int32)), .val (.int len), .val (.int (p1.toInt8.toInt32)), .val (.int (p2.toInt8.toInt32)), .unset, .unset, .unset, .unset, .unset, .unset] [(.int (p3.toInt8.toInt32))])) _
        refine XS.istore X0.here hx rfl (hb hby at_43) rfl (l' := #[.val (.int p0), .val (.int p1), .val (.int p2), .val (.int p3), .val (.long q4), .second, .val (.int (0 : Int32)), .val (.int (1 : Int32)), .val (.int len), .val (.int (p1.toInt8.toInt32)), .val (.int (p2.toInt8.toInt32)), .val (.int (p3.toInt8.toInt32)), .unset, .unset, .unset, .unset, .unset]) rfl ?_
        exact kt
      obtain ⟨e0_, he0_⟩ : ∃ z : Int32, z = (p1.toInt8.toInt32) := ⟨_, rfl⟩
      rw [← he0_] at st115
      have ne0_ : nar .byte e0_ = e0_ := by rw [he0_]; exact own_nar _
      obtain ⟨e1_, he1_⟩ : ∃ z : Int32, z = (p2.toInt8.toInt32) := ⟨_, rfl⟩
      rw [← he1_] at st115
      have ne1_ : nar .byte e1_ = e1_ := by rw [he1_]; exact own_nar _
      obtain ⟨e2_, he2_⟩ : ∃ z : Int32, z = (p3.toInt8.toInt32) := ⟨_, rfl⟩
      rw [← he2_] at st115
      have ne2_ : nar .byte e2_ = e2_ := by rw [he2_]; exact own_nar _
      rcases hl4 with rfl | rfl | rfl | rfl
      · have st116 : ∀ target, Steps p.tables e below (s₁.setTop (mkF m 55 #[.val (.int p0), .val (.int p1), .val (.int p2), .val (.int p3), .val (.long q4), .second, .val (.int (0 : Int32)), .val (.int (1 : Int32)), .val (.int (0 : Int32)), .val (.int e0_), .val (.int e1_), .val (.int e2_), .val .null, .unset, .unset, .unset, .unset] [(.int (0 : Int32))])) target → Steps p.tables e below (s₁.setTop (mkF m 45 #[.val (.int p0), .val (.int p1), .val (.int p2), .val (.int p3), .val (.long q4), .second, .val (.int (0 : Int32)), .val (.int (1 : Int32)), .val (.int (0 : Int32)), .val (.int e0_), .val (.int e1_), .val (.int e2_), .unset, .unset, .unset, .unset, .unset] [])) target := by
          intro target kt
          show Steps p.tables e below (s₁.setTop (mkF m 45 #[.val (.int p0), .val (.int p1), .val (.int p2), .val (.int p3), .val (.long q4), .second, .val (.int (0 : Int32)), .val (.int (1 : Int32)), .val (.int (0 : Int32)), .val (.int e0_), .val (.int e1_), .val (.int e2_), .unset, .unset, .unset, .unset, .unset] [])) _
          refine XS.aconstNull X0.here hx rfl (hb hby at_45) ?_
          show Steps p.tables e below (s₁.setTop (mkF m 46 #[.val (.int p0), .val (.int p1), .val (.int p2), .val (.int p3), .val (.long q4), .second, .val (.int (0 : Int32)), .val (.int (1 : Int32)), .val (.int (0 : Int32)), .val (.int e0_), .val (.int e1_), .val (.int e2_), .unset, .unset, .unset, .unset, .unset] [.null])) _
          refine XS.astore X0.here hx rfl (hb hby at_46) rfl rfl (l' := #[.val (.int p0), .val (.int p1), .val (.int p2), .val (.int p3), .val (.long q4), .second, .val (.int (0 : Int32)), .val (.int (1 : Int32)), .val (.int (0 : Int32)), .val (.int e0_), .val (.int e1_), .val (.int e2_), .val .null, .unset, .unset, .unset, .unset]) rfl ?_
          show Steps p.tables e below (s₁.setTop (mkF m 48 #[.val (.int p0), .val (.int p1), .val (.int p2), .val (.int p3), .val (.long q4), .second, .val (.int (0 : Int32)), .val (.int (1 : Int32)), .val (.int (0 : Int32)), .val (.int e0_), .val (.int e1_), .val (.int e2_), .val .null, .unset, .unset, .unset, .unset] [])) _
          refine XS.iload X0.here hx rfl (hb hby at_48) rfl ?_
          show Steps p.tables e below (s₁.setTop (mkF m 50 #[.val (.int p0), .val (.int p1), .val (.int p2), .val (.int p3), .val (.long q4), .second, .val (.int (0 : Int32)), .val (.int (1 : Int32)), .val (.int (0 : Int32)), .val (.int e0_), .val (.int e1_), .val (.int e2_), .val .null, .unset, .unset, .unset, .unset] [(.int (0 : Int32))])) _
          refine XS.ifNo X0.here hx rfl (hb hby at_50) rfl ((if0 _ _).trans (teq (rfl : (0 : Int32) = (0 : Int32))).2) ?_
          show Steps p.tables e below (s₁.setTop (mkF m 53 #[.val (.int p0), .val (.int p1), .val (.int p2), .val (.int p3), .val (.long q4), .second, .val (.int (0 : Int32)), .val (.int (1 : Int32)), .val (.int (0 : Int32)), .val (.int e0_), .val (.int e1_), .val (.int e2_), .val .null, .unset, .unset, .unset, .unset] [])) _
          refine XS.iload X0.here hx rfl (hb hby at_53) rfl ?_
          exact kt
        obtain ⟨T117, h117, k117, X117, e117, E117, A117, Ex117, st117⟩ := newPE X0 hx hZ (hw _ (List.mem_of_getElem? (i := 0) rfl)) e0 (g := (mkF m 55 #[.val (.int p0), .val (.int p1), .val (.int p2), .val (.int p3), .val (.long q4), .second, .val (.int (0 : Int32)), .val (.int (1 : Int32)), .val (.int (0 : Int32)), .val (.int e0_), .val (.int e1_), .val (.int e2_), .val .null, .unset, .unset, .unset, .unset] [(.int (0 : Int32))])) rfl (hb hby at_55) rfl (by decide) (cap := 0) (by decide) (by decide) (by decide) (by decide) (ad := "[B") (by decide)
        obtain ⟨key, g117⟩ : ∃ z, z = h0.size := ⟨_, rfl⟩
        rw [← g117] at A117 Ex117 st117
        have g_key : n0 ≤ key := Nat.le_trans Z0 (Nat.le_of_eq g117.symm)
        have Od_117 := Od.ext E117
        have Z_117 : n0 ≤ h117.size := Nat.le_trans Z0 E117.1
        have Hh_key : Arh Z h117 key k117 .byte (0 : Int32) [] [] (.int (0 : Int32)) := Arv.arh (Arv.new A117 (by decide))
        have st118 : ∀ target, Steps p.tables e below (T117.setTop (mkF m 104 #[.val (.int p0), .val (.int p1), .val (.int p2), .val (.int p3), .val (.long q4), .second, .val (.int (0 : Int32)), .val (.int (1 : Int32)), .val (.int (0 : Int32)), .val (.int e0_), .val (.int e1_), .val (.int e2_), .val (.ref key), .val .null, .unset, .unset, .unset] [(.int (32 : Int32))])) target → Steps p.tables e below (T117.setTop (mkF m 57 #[.val (.int p0), .val (.int p1), .val (.int p2), .val (.int p3), .val (.long q4), .second, .val (.int (0 : Int32)), .val (.int (1 : Int32)), .val (.int (0 : Int32)), .val (.int e0_), .val (.int e1_), .val (.int e2_), .val .null, .unset, .unset, .unset, .unset] [(.ref key)])) target := by
          intro target kt
          show Steps p.tables e below (T117.setTop (mkF m 57 #[.val (.int p0), .val (.int p1), .val (.int p2), .val (.int p3), .val (.long q4), .second, .val (.int (0 : Int32)), .val (.int (1 : Int32)), .val (.int (0 : Int32)), .val (.int e0_), .val (.int e1_), .val (.int e2_), .val .null, .unset, .unset, .unset, .unset] [(.ref key)])) _
          refine XS.astore X117.here hx rfl (hb hby at_57) rfl rfl (l' := #[.val (.int p0), .val (.int p1), .val (.int p2), .val (.int p3), .val (.long q4), .second, .val (.int (0 : Int32)), .val (.int (1 : Int32)), .val (.int (0 : Int32)), .val (.int e0_), .val (.int e1_), .val (.int e2_), .val (.ref key), .unset, .unset, .unset, .unset]) rfl ?_
          show Steps p.tables e below (T117.setTop (mkF m 59 #[.val (.int p0), .val (.int p1), .val (.int p2), .val (.int p3), .val (.long q4), .second, .val (.int (0 : Int32)), .val (.int (1 : Int32)), .val (.int (0 : Int32)), .val (.int e0_), .val (.int e1_), .val (.int e2_), .val (.ref key), .unset, .unset, .unset, .unset] [])) _
          refine XS.iload X117.here hx rfl (hb hby at_59) rfl ?_
          show Steps p.tables e below (T117.setTop (mkF m 61 #[.val (.int p0), .val (.int p1), .val (.int p2), .val (.int p3), .val (.long q4), .second, .val (.int (0 : Int32)), .val (.int (1 : Int32)), .val (.int (0 : Int32)), .val (.int e0_), .val (.int e1_), .val (.int e2_), .val (.ref key), .unset, .unset, .unset, .unset] [(.int (0 : Int32))])) _
          refine XS.ifYes X117.here hx rfl (pc0 := 61) (pc' := 70) rfl (hb hby at_61) rfl ((if0 _ _).trans (flt (by decide : ¬ ((0 : Int32) < (0 : Int32)))).2.2.2) (by decide) (by decide) ?_
          show Steps p.tables e below (T117.setTop (mkF m 70 #[.val (.int p0), .val (.int p1), .val (.int p2), .val (.int p3), .val (.long q4), .second, .val (.int (0 : Int32)), .val (.int (1 : Int32)), .val (.int (0 : Int32)), .val (.int e0_), .val (.int e1_), .val (.int e2_), .val (.ref key), .unset, .unset, .unset, .unset] [])) _
          refine XS.iload X117.here hx rfl (hb hby at_70) rfl ?_
          show Steps p.tables e below (T117.setTop (mkF m 72 #[.val (.int p0), .val (.int p1), .val (.int p2), .val (.int p3), .val (.long q4), .second, .val (.int (0 : Int32)), .val (.int (1 : Int32)), .val (.int (0 : Int32)), .val (.int e0_), .val (.int e1_), .val (.int e2_), .val (.ref key), .unset, .unset, .unset, .unset] [(.int (0 : Int32))])) _
          refine XS.iconst X117.here hx rfl (hb hby at_72) ?_
          show Steps p.tables e below (T117.setTop (mkF m 73 #[.val (.int p0), .val (.int p1), .val (.int p2), .val (.int p3), .val (.long q4), .second, .val (.int (0 : Int32)), .val (.int (1 : Int32)), .val (.int (0 : Int32)), .val (.int e0_), .val (.int e1_), .val (.int e2_), .val (.ref key), .unset, .unset, .unset, .unset] [(.int (1 : Int32)), (.int (0 : Int32))])) _
          refine XS.icmpYes X117.here hx rfl (pc0 := 73) (pc' := 82) rfl (hb hby at_73) rfl (flt (by decide : ¬ ((1 : Int32) < (0 : Int32)))).2.2.2 (by decide) (by decide) ?_
          show Steps p.tables e below (T117.setTop (mkF m 82 #[.val (.int p0), .val (.int p1), .val (.int p2), .val (.int p3), .val (.long q4), .second, .val (.int (0 : Int32)), .val (.int (1 : Int32)), .val (.int (0 : Int32)), .val (.int e0_), .val (.int e1_), .val (.int e2_), .val (.ref key), .unset, .unset, .unset, .unset] [])) _
          refine XS.iload X117.here hx rfl (hb hby at_82) rfl ?_
          show Steps p.tables e below (T117.setTop (mkF m 84 #[.val (.int p0), .val (.int p1), .val (.int p2), .val (.int p3), .val (.long q4), .second, .val (.int (0 : Int32)), .val (.int (1 : Int32)), .val (.int (0 : Int32)), .val (.int e0_), .val (.int e1_), .val (.int e2_), .val (.ref key), .unset, .unset, .unset, .unset] [(.int (0 : Int32))])) _
          refine XS.iconst X117.here hx rfl (hb hby at_84) ?_
          show Steps p.tables e below (T117.setTop (mkF m 85 #[.val (.int p0), .val (.int p1), .val (.int p2), .val (.int p3), .val (.long q4), .second, .val (.int (0 : Int32)), .val (.int (1 : Int32)), .val (.int (0 : Int32)), .val (.int e0_), .val (.int e1_), .val (.int e2_), .val (.ref key), .unset, .unset, .unset, .unset] [(.int (2 : Int32)), (.int (0 : Int32))])) _
          refine XS.icmpYes X117.here hx rfl (pc0 := 85) (pc' := 94) rfl (hb hby at_85) rfl (flt (by decide : ¬ ((2 : Int32) < (0 : Int32)))).2.2.2 (by decide) (by decide) ?_
          show Steps p.tables e below (T117.setTop (mkF m 94 #[.val (.int p0), .val (.int p1), .val (.int p2), .val (.int p3), .val (.long q4), .second, .val (.int (0 : Int32)), .val (.int (1 : Int32)), .val (.int (0 : Int32)), .val (.int e0_), .val (.int e1_), .val (.int e2_), .val (.ref key), .unset, .unset, .unset, .unset] [])) _
          refine XS.aconstNull X117.here hx rfl (hb hby at_94) ?_
          show Steps p.tables e below (T117.setTop (mkF m 95 #[.val (.int p0), .val (.int p1), .val (.int p2), .val (.int p3), .val (.long q4), .second, .val (.int (0 : Int32)), .val (.int (1 : Int32)), .val (.int (0 : Int32)), .val (.int e0_), .val (.int e1_), .val (.int e2_), .val (.ref key), .unset, .unset, .unset, .unset] [.null])) _
          refine XS.astore X117.here hx rfl (hb hby at_95) rfl rfl (l' := #[.val (.int p0), .val (.int p1), .val (.int p2), .val (.int p3), .val (.long q4), .second, .val (.int (0 : Int32)), .val (.int (1 : Int32)), .val (.int (0 : Int32)), .val (.int e0_), .val (.int e1_), .val (.int e2_), .val (.ref key), .val .null, .unset, .unset, .unset]) rfl ?_
          show Steps p.tables e below (T117.setTop (mkF m 97 #[.val (.int p0), .val (.int p1), .val (.int p2), .val (.int p3), .val (.long q4), .second, .val (.int (0 : Int32)), .val (.int (1 : Int32)), .val (.int (0 : Int32)), .val (.int e0_), .val (.int e1_), .val (.int e2_), .val (.ref key), .val .null, .unset, .unset, .unset] [])) _
          refine XS.iload X117.here hx rfl (hb hby at_97) rfl ?_
          show Steps p.tables e below (T117.setTop (mkF m 99 #[.val (.int p0), .val (.int p1), .val (.int p2), .val (.int p3), .val (.long q4), .second, .val (.int (0 : Int32)), .val (.int (1 : Int32)), .val (.int (0 : Int32)), .val (.int e0_), .val (.int e1_), .val (.int e2_), .val (.ref key), .val .null, .unset, .unset, .unset] [(.int (1 : Int32))])) _
          refine XS.ifNo X117.here hx rfl (hb hby at_99) rfl ((if0 _ _).trans (feq (by decide : ¬ ((1 : Int32) = (0 : Int32)))).1) ?_
          show Steps p.tables e below (T117.setTop (mkF m 102 #[.val (.int p0), .val (.int p1), .val (.int p2), .val (.int p3), .val (.long q4), .second, .val (.int (0 : Int32)), .val (.int (1 : Int32)), .val (.int (0 : Int32)), .val (.int e0_), .val (.int e1_), .val (.int e2_), .val (.ref key), .val .null, .unset, .unset, .unset] [])) _
          refine XS.bipush X117.here hx rfl (hb hby at_102) ?_
          exact kt
        obtain ⟨T119, h119, k119, X119, e119, E119, A119, Ex119, st119⟩ := newPE X117 hx hZ (hw _ (List.mem_of_getElem? (i := 0) rfl)) e117 (g := (mkF m 104 #[.val (.int p0), .val (.int p1), .val (.int p2), .val (.int p3), .val (.long q4), .second, .val (.int (0 : Int32)), .val (.int (1 : Int32)), .val (.int (0 : Int32)), .val (.int e0_), .val (.int e1_), .val (.int e2_), .val (.ref key), .val .null, .unset, .unset, .unset] [(.int (32 : Int32))])) rfl (hb hby at_104) rfl (by decide) (cap := 32) (by decide) (by decide) (by decide) (by decide) (ad := "[B") (by decide)
        obtain ⟨hh, g119⟩ : ∃ z, z = h117.size := ⟨_, rfl⟩
        rw [← g119] at A119 Ex119 st119
        have g_hh : n0 ≤ hh := Nat.le_trans Z_117 (Nat.le_of_eq g119.symm)
        have ne_key_hh : key ≠ hh := Nat.ne_of_lt (Nat.lt_of_lt_of_le Hh_key.lt (Nat.le_of_eq g119.symm))
        have Od_119 := Od_117.ext E119
        have Hh_key_119 := Hh_key.ext E119
        have Ex117_119 := Ex117.ext E119
        have Z_119 : n0 ≤ h119.size := Nat.le_trans Z_117 E119.1
        have Hh_hh : Arh Z h119 hh k119 .byte (32 : Int32) [] [] (.int (0 : Int32)) := Arv.arh (Arv.new A119 (by decide))
        have st120 : ∀ target, Steps p.tables e below (T119.setTop (mkF m 116 #[.val (.int p0), .val (.int p1), .val (.int p2), .val (.int p3), .val (.long q4), .second, .val (.int (0 : Int32)), .val (.int (1 : Int32)), .val (.int (0 : Int32)), .val (.int e0_), .val (.int e1_), .val (.int e2_), .val (.ref key), .val (.ref hh), .unset, .unset, .unset] [(.int ((p1 ^^^ (51 : Int32)).toInt8.toInt32)), (.int (0 : Int32)), (.ref hh)])) target → Steps p.tables e below (T119.setTop (mkF m 106 #[.val (.int p0), .val (.int p1), .val (.int p2), .val (.int p3), .val (.long q4), .second, .val (.int (0 : Int32)), .val (.int (1 : Int32)), .val (.int (0 : Int32)), .val (.int e0_), .val (.int e1_), .val (.int e2_), .val (.ref key), .val .null, .unset, .unset, .unset] [(.ref hh)])) target := by
          intro target kt
          show Steps p.tables e below (T119.setTop (mkF m 106 #[.val (.int p0), .val (.int p1), .val (.int p2), .val (.int p3), .val (.long q4), .second, .val (.int (0 : Int32)), .val (.int (1 : Int32)), .val (.int (0 : Int32)), .val (.int e0_), .val (.int e1_), .val (.int e2_), .val (.ref key), .val .null, .unset, .unset, .unset] [(.ref hh)])) _
          refine XS.astore X119.here hx rfl (hb hby at_106) rfl rfl (l' := #[.val (.int p0), .val (.int p1), .val (.int p2), .val (.int p3), .val (.long q4), .second, .val (.int (0 : Int32)), .val (.int (1 : Int32)), .val (.int (0 : Int32)), .val (.int e0_), .val (.int e1_), .val (.int e2_), .val (.ref key), .val (.ref hh), .unset, .unset, .unset]) rfl ?_
          show Steps p.tables e below (T119.setTop (mkF m 108 #[.val (.int p0), .val (.int p1), .val (.int p2), .val (.int p3), .val (.long q4), .second, .val (.int (0 : Int32)), .val (.int (1 : Int32)), .val (.int (0 : Int32)), .val (.int e0_), .val (.int e1_), .val (.int e2_), .val (.ref key), .val (.ref hh), .unset, .unset, .unset] [])) _
          refine XS.aload X119.here hx rfl (hb hby at_108) rfl rfl ?_
          show Steps p.tables e below (T119.setTop (mkF m 110 #[.val (.int p0), .val (.int p1), .val (.int p2), .val (.int p3), .val (.long q4), .second, .val (.int (0 : Int32)), .val (.int (1 : Int32)), .val (.int (0 : Int32)), .val (.int e0_), .val (.int e1_), .val (.int e2_), .val (.ref key), .val (.ref hh), .unset, .unset, .unset] [(.ref hh)])) _
          refine XS.iconst X119.here hx rfl (hb hby at_110) ?_
          show Steps p.tables e below (T119.setTop (mkF m 111 #[.val (.int p0), .val (.int p1), .val (.int p2), .val (.int p3), .val (.long q4), .second, .val (.int (0 : Int32)), .val (.int (1 : Int32)), .val (.int (0 : Int32)), .val (.int e0_), .val (.int e1_), .val (.int e2_), .val (.ref key), .val (.ref hh), .unset, .unset, .unset] [(.int (0 : Int32)), (.ref hh)])) _
          refine XS.iloadN X119.here hx rfl (hb hby at_111) rfl ?_
          show Steps p.tables e below (T119.setTop (mkF m 112 #[.val (.int p0), .val (.int p1), .val (.int p2), .val (.int p3), .val (.long q4), .second, .val (.int (0 : Int32)), .val (.int (1 : Int32)), .val (.int (0 : Int32)), .val (.int e0_), .val (.int e1_), .val (.int e2_), .val (.ref key), .val (.ref hh), .unset, .unset, .unset] [(.int p1), (.int (0 : Int32)), (.ref hh)])) _
          refine XS.bipush X119.here hx rfl (hb hby at_112) ?_
          show Steps p.tables e below (T119.setTop (mkF m 114 #[.val (.int p0), .val (.int p1), .val (.int p2), .val (.int p3), .val (.long q4), .second, .val (.int (0 : Int32)), .val (.int (1 : Int32)), .val (.int (0 : Int32)), .val (.int e0_), .val (.int e1_), .val (.int e2_), .val (.ref key), .val (.ref hh), .unset, .unset, .unset] [(.int (51 : Int32)), (.int p1), (.int (0 : Int32)), (.ref hh)])) _
          refine XS.ixor X119.here hx rfl (hb hby at_114) rfl ?_
          show Steps p.tables e below (T119.setTop (mkF m 115 #[.val (.int p0), .val (.int p1), .val (.int p2), .val (.int p3), .val (.long q4), .second, .val (.int (0 : Int32)), .val (.int (1 : Int32)), .val (.int (0 : Int32)), .val (.int e0_), .val (.int e1_), .val (.int e2_), .val (.ref key), .val (.ref hh), .unset, .unset, .unset] [(.int (p1 ^^^ (51 : Int32))), (.int (0 : Int32)), (.ref hh)])) _
          refine XS.i2b X119.here hx rfl (hb hby at_115) rfl ?_
          exact kt
        obtain ⟨cl121, Ar121, qc121, Sz121, Mn121, Hs121, Gs121⟩ := id Hh_hh
        have hin121 : ¬ ((0 : Int32) < 0 ∨ cl121.slots.size ≤ ((0 : Int32)).toNatClampNeg) := own_in Sz121 ⟨by decide, by decide⟩
        obtain ⟨T121, h121, X121, e121, W121, st121⟩ := stB X119 hx hZ e119 Ar121 (j := (0 : Int32)) hin121 (g := (mkF m 116 #[.val (.int p0), .val (.int p1), .val (.int p2), .val (.int p3), .val (.long q4), .second, .val (.int (0 : Int32)), .val (.int (1 : Int32)), .val (.int (0 : Int32)), .val (.int e0_), .val (.int e1_), .val (.int e2_), .val (.ref key), .val (.ref hh), .unset, .unset, .unset] [(.int ((p1 ^^^ (51 : Int32)).toInt8.toInt32)), (.int (0 : Int32)), (.ref hh)])) rfl rfl (hb hby at_116)
        have Hh_hh_121 : Arh Z h121 hh k119 .byte (32 : Int32) [((0 : Int32), (.int (nar .byte ((p1 ^^^ (51 : Int32)).toInt8.toInt32))))] [] (.int (0 : Int32)) := Arh.push Ar121 qc121 Sz121 Mn121 Hs121 Gs121 (fits_nar_byte _) W121 hin121
        have Od_121 := Od_119.wr W121 g_hh
        have Hh_key_121 := Hh_key_119.other W121 ne_key_hh
        have Ex117_121 := Ex117_119.wr W121
        have Ex119_121 := Ex119.wr W121
        have Z_121 : n0 ≤ h121.size := Nat.le_trans Z_119 (Keep.of_wr W121).1
        have N121 := Fr.snoc X121 N0 g_hh
        have st122 : ∀ target, Steps p.tables e below (T121.setTop (mkF m 125 #[.val (.int p0), .val (.int p1), .val (.int p2), .val (.int p3), .val (.long q4), .second, .val (.int (0 : Int32)), .val (.int (1 : Int32)), .val (.int (0 : Int32)), .val (.int e0_), .val (.int e1_), .val (.int e2_), .val (.ref key), .val (.ref hh), .unset, .unset, .unset] [(.int ((p2 ^^^ (119 : Int32)).toInt8.toInt32)), (.int (1 : Int32)), (.ref hh)])) target → Steps p.tables e below (T121.setTop (mkF m 117 #[.val (.int p0), .val (.int p1), .val (.int p2), .val (.int p3), .val (.long q4), .second, .val (.int (0 : Int32)), .val (.int (1 : Int32)), .val (.int (0 : Int32)), .val (.int e0_), .val (.int e1_), .val (.int e2_), .val (.ref key), .val (.ref hh), .unset, .unset, .unset] [])) target := by
          intro target kt
          show Steps p.tables e below (T121.setTop (mkF m 117 #[.val (.int p0), .val (.int p1), .val (.int p2), .val (.int p3), .val (.long q4), .second, .val (.int (0 : Int32)), .val (.int (1 : Int32)), .val (.int (0 : Int32)), .val (.int e0_), .val (.int e1_), .val (.int e2_), .val (.ref key), .val (.ref hh), .unset, .unset, .unset] [])) _
          refine XS.aload X121.here hx rfl (hb hby at_117) rfl rfl ?_
          show Steps p.tables e below (T121.setTop (mkF m 119 #[.val (.int p0), .val (.int p1), .val (.int p2), .val (.int p3), .val (.long q4), .second, .val (.int (0 : Int32)), .val (.int (1 : Int32)), .val (.int (0 : Int32)), .val (.int e0_), .val (.int e1_), .val (.int e2_), .val (.ref key), .val (.ref hh), .unset, .unset, .unset] [(.ref hh)])) _
          refine XS.iconst X121.here hx rfl (hb hby at_119) ?_
          show Steps p.tables e below (T121.setTop (mkF m 120 #[.val (.int p0), .val (.int p1), .val (.int p2), .val (.int p3), .val (.long q4), .second, .val (.int (0 : Int32)), .val (.int (1 : Int32)), .val (.int (0 : Int32)), .val (.int e0_), .val (.int e1_), .val (.int e2_), .val (.ref key), .val (.ref hh), .unset, .unset, .unset] [(.int (1 : Int32)), (.ref hh)])) _
          refine XS.iloadN X121.here hx rfl (hb hby at_120) rfl ?_
          show Steps p.tables e below (T121.setTop (mkF m 121 #[.val (.int p0), .val (.int p1), .val (.int p2), .val (.int p3), .val (.long q4), .second, .val (.int (0 : Int32)), .val (.int (1 : Int32)), .val (.int (0 : Int32)), .val (.int e0_), .val (.int e1_), .val (.int e2_), .val (.ref key), .val (.ref hh), .unset, .unset, .unset] [(.int p2), (.int (1 : Int32)), (.ref hh)])) _
          refine XS.bipush X121.here hx rfl (hb hby at_121) ?_
          show Steps p.tables e below (T121.setTop (mkF m 123 #[.val (.int p0), .val (.int p1), .val (.int p2), .val (.int p3), .val (.long q4), .second, .val (.int (0 : Int32)), .val (.int (1 : Int32)), .val (.int (0 : Int32)), .val (.int e0_), .val (.int e1_), .val (.int e2_), .val (.ref key), .val (.ref hh), .unset, .unset, .unset] [(.int (119 : Int32)), (.int p2), (.int (1 : Int32)), (.ref hh)])) _
          refine XS.ixor X121.here hx rfl (hb hby at_123) rfl ?_
          show Steps p.tables e below (T121.setTop (mkF m 124 #[.val (.int p0), .val (.int p1), .val (.int p2), .val (.int p3), .val (.long q4), .second, .val (.int (0 : Int32)), .val (.int (1 : Int32)), .val (.int (0 : Int32)), .val (.int e0_), .val (.int e1_), .val (.int e2_), .val (.ref key), .val (.ref hh), .unset, .unset, .unset] [(.int (p2 ^^^ (119 : Int32))), (.int (1 : Int32)), (.ref hh)])) _
          refine XS.i2b X121.here hx rfl (hb hby at_124) rfl ?_
          exact kt
        obtain ⟨cl123, Ar123, qc123, Sz123, Mn123, Hs123, Gs123⟩ := id Hh_hh_121
        have hin123 : ¬ ((1 : Int32) < 0 ∨ cl123.slots.size ≤ ((1 : Int32)).toNatClampNeg) := own_in Sz123 ⟨by decide, by decide⟩
        obtain ⟨T123, h123, X123, e123, W123, st123⟩ := stB X121 hx hZ e121 Ar123 (j := (1 : Int32)) hin123 (g := (mkF m 125 #[.val (.int p0), .val (.int p1), .val (.int p2), .val (.int p3), .val (.long q4), .second, .val (.int (0 : Int32)), .val (.int (1 : Int32)), .val (.int (0 : Int32)), .val (.int e0_), .val (.int e1_), .val (.int e2_), .val (.ref key), .val (.ref hh), .unset, .unset, .unset] [(.int ((p2 ^^^ (119 : Int32)).toInt8.toInt32)), (.int (1 : Int32)), (.ref hh)])) rfl rfl (hb hby at_125)
        have Hh_hh_123 : Arh Z h123 hh k119 .byte (32 : Int32) [((1 : Int32), (.int (nar .byte ((p2 ^^^ (119 : Int32)).toInt8.toInt32)))), ((0 : Int32), (.int (nar .byte ((p1 ^^^ (51 : Int32)).toInt8.toInt32))))] [] (.int (0 : Int32)) := Arh.push Ar123 qc123 Sz123 Mn123 Hs123 Gs123 (fits_nar_byte _) W123 hin123
        have Od_123 := Od_121.wr W123 g_hh
        have Hh_key_123 := Hh_key_121.other W123 ne_key_hh
        have Ex117_123 := Ex117_121.wr W123
        have Ex119_123 := Ex119_121.wr W123
        have Z_123 : n0 ≤ h123.size := Nat.le_trans Z_121 (Keep.of_wr W123).1
        have N123 := Fr.snoc X123 N121 g_hh
        obtain ⟨T124, h124, X124, e124, E124, A124, D124, -, st124⟩ := newO X123 hx hZ hown (hw _ (List.mem_of_getElem? (i := 1) rfl)) (hw _ (List.mem_of_getElem? (i := 2) rfl)) (hw _ (List.mem_of_getElem? (i := 3) rfl)) e123 (g := (mkF m 126 #[.val (.int p0), .val (.int p1), .val (.int p2), .val (.int p3), .val (.long q4), .second, .val (.int (0 : Int32)), .val (.int (1 : Int32)), .val (.int (0 : Int32)), .val (.int e0_), .val (.int e1_), .val (.int e2_), .val (.ref key), .val (.ref hh), .unset, .unset, .unset] [])) rfl (hb hby at_126) (by decide) (by decide)
        obtain ⟨d, g124⟩ : ∃ z, z = h123.size := ⟨_, rfl⟩
        rw [← g124] at A124 D124 st124
        have g_d : n0 ≤ d := Nat.le_trans Z_123 (Nat.le_of_eq g124.symm)
        have ne_key_d : key ≠ d := Nat.ne_of_lt (Nat.lt_of_lt_of_le Hh_key_123.lt (Nat.le_of_eq g124.symm))
        have ne_hh_d : hh ≠ d := Nat.ne_of_lt (Nat.lt_of_lt_of_le Ex119_123.lt (Nat.le_of_eq g124.symm))
        have Od_124 := Od_123.ext E124
        have Hh_key_124 := Hh_key_123.ext E124
        have Ex117_124 := Ex117_123.ext E124
        have Ex119_124 := Ex119_123.ext E124
        have Hh_hh_124 := Hh_hh_123.ext E124
        have Z_124 : n0 ≤ h124.size := Nat.le_trans Z_123 E124.1
        have E_d : Exa Z h124 d "com/example/imprimatur/imprimatur/verify/DeviceValues" := A124
        have F_pkHash_d : Fld Z h124 d "com/example/imprimatur/imprimatur/verify/DeviceValues" "pkHash" "[B" .null := D124 (Or.inr (hw _ (List.mem_of_getElem? (i := 31) rfl))) (ty := (.array .byte)) (by decide)
        have F_hwId_d : Fld Z h124 d "com/example/imprimatur/imprimatur/verify/DeviceValues" "hwId" "Ljava/lang/Long;" .null := D124 (Or.inr (hw _ (List.mem_of_getElem? (i := 33) rfl))) (ty := (.object "java/lang/Long")) (by decide)
        have F_swId_d : Fld Z h124 d "com/example/imprimatur/imprimatur/verify/DeviceValues" "swId" "Ljava/lang/Long;" .null := D124 (Or.inr (hw _ (List.mem_of_getElem? (i := 35) rfl))) (ty := (.object "java/lang/Long")) (by decide)
        have F_publicKey_d : Fld Z h124 d "com/example/imprimatur/imprimatur/verify/DeviceValues" "publicKey" "[B" .null := D124 (Or.inr (hw _ (List.mem_of_getElem? (i := 46) rfl))) (ty := (.array .byte)) (by decide)
        have st125 : ∀ target, Steps p.tables e below (T124.setTop (mkF m 134 #[.val (.int p0), .val (.int p1), .val (.int p2), .val (.int p3), .val (.long q4), .second, .val (.int (0 : Int32)), .val (.int (1 : Int32)), .val (.int (0 : Int32)), .val (.int e0_), .val (.int e1_), .val (.int e2_), .val (.ref key), .val (.ref hh), .unset, .unset, .unset] [(.long q4), (.ref hh), (.ref d), (.ref d)])) target → Steps p.tables e below (T124.setTop (mkF m 129 #[.val (.int p0), .val (.int p1), .val (.int p2), .val (.int p3), .val (.long q4), .second, .val (.int (0 : Int32)), .val (.int (1 : Int32)), .val (.int (0 : Int32)), .val (.int e0_), .val (.int e1_), .val (.int e2_), .val (.ref key), .val (.ref hh), .unset, .unset, .unset] [(.ref d)])) target := by
          intro target kt
          show Steps p.tables e below (T124.setTop (mkF m 129 #[.val (.int p0), .val (.int p1), .val (.int p2), .val (.int p3), .val (.long q4), .second, .val (.int (0 : Int32)), .val (.int (1 : Int32)), .val (.int (0 : Int32)), .val (.int e0_), .val (.int e1_), .val (.int e2_), .val (.ref key), .val (.ref hh), .unset, .unset, .unset] [(.ref d)])) _
          refine XS.dup X124.here hx rfl (hb hby at_129) rfl rfl ?_
          show Steps p.tables e below (T124.setTop (mkF m 130 #[.val (.int p0), .val (.int p1), .val (.int p2), .val (.int p3), .val (.long q4), .second, .val (.int (0 : Int32)), .val (.int (1 : Int32)), .val (.int (0 : Int32)), .val (.int e0_), .val (.int e1_), .val (.int e2_), .val (.ref key), .val (.ref hh), .unset, .unset, .unset] [(.ref d), (.ref d)])) _
          refine XS.aload X124.here hx rfl (hb hby at_130) rfl rfl ?_
          show Steps p.tables e below (T124.setTop (mkF m 132 #[.val (.int p0), .val (.int p1), .val (.int p2), .val (.int p3), .val (.long q4), .second, .val (.int (0 : Int32)), .val (.int (1 : Int32)), .val (.int (0 : Int32)), .val (.int e0_), .val (.int e1_), .val (.int e2_), .val (.ref key), .val (.ref hh), .unset, .unset, .unset] [(.ref hh), (.ref d), (.ref d)])) _
          refine XS.lload X124.here hx rfl (hb hby at_132) rfl ?_
          exact kt
        obtain ⟨_, _, ⟨T126, L126, k126, n126⟩, -, X126, ⟨Lc126, hQ126, l126, y126, z126⟩, st126⟩ := Jvm.LawKit.callS X124 hx (y := (⟨"java/lang/Long", "valueOf", "(J)Ljava/lang/Long;"⟩ : MethodName)) hown (mvT hZ (hw _ (List.mem_of_getElem? (i := 4) rfl))) (mvT hZ (hw _ (List.mem_of_getElem? (i := 5) rfl))) (mvT hZ (hw _ (List.mem_of_getElem? (i := 6) rfl))) (mvT hZ (hw _ (List.mem_of_getElem? (i := 7) rfl))) (by decide) (backOf (W := 3) (rm1 l Z a0 hw [] q4 ca cc val h124 n0 Z_124 Bx Od_124 S_c) hZ (hw _ (List.mem_of_getElem? (i := 7) rfl)) (hw _ (List.mem_of_getElem? (i := 6) rfl)) (by decide) (by decide)) (g := (mkF m 134 #[.val (.int p0), .val (.int p1), .val (.int p2), .val (.int p3), .val (.long q4), .second, .val (.int (0 : Int32)), .val (.int (1 : Int32)), .val (.int (0 : Int32)), .val (.int e0_), .val (.int e1_), .val (.int e2_), .val (.ref key), .val (.ref hh), .unset, .unset, .unset] [(.long q4), (.ref hh), (.ref d), (.ref d)])) rfl (by rw [hml]; rfl) (argsL := [(.long q4)]) (rest := [(.ref hh), (.ref d), (.ref d)]) (lenOf pd_0 rfl) rfl (by show 2 * 0 + _ ≤ _; exact Nat.le_of_eq rfl) (hb hby at_134) (fun _ _ => ⟨rfl, e124, (by decide : 3 + 1 ≤ _), (by decide : 36 + 1 ≤ _)⟩)
        dsimp only [Pt.U, Pt.locs, Pt.cells, Pt.slots] at X126 l126 y126 z126 st126 hQ126
        subst l126 y126 z126
        obtain ⟨t126, rfl, Nq126, K126, Et126⟩ := hQ126
        have N126 := Fr.app N123 Nq126
        have Od_126 := Od_124.keep K126 (all0)
        have Hh_key_126 := Hh_key_124.keep K126 nin0
        have Ex117_126 := Ex117_124.keep K126
        have Ex119_126 := Ex119_124.keep K126
        have Hh_hh_126 := Hh_hh_124.keep K126 nin0
        have E_d_126 := E_d.keep K126
        have F_pkHash_d_126 := F_pkHash_d.keep K126 nin0
        have F_hwId_d_126 := F_hwId_d.keep K126 nin0
        have F_swId_d_126 := F_swId_d.keep K126 nin0
        have F_publicKey_d_126 := F_publicKey_d.keep K126 nin0
        have Z_126 : n0 ≤ T126.heap.size := Nat.le_trans Z_124 K126.1
        have st127 : ∀ target, Steps p.tables e below (T126.setTop (mkF m 140 #[.val (.int p0), .val (.int p1), .val (.int p2), .val (.int p3), .val (.long q4), .second, .val (.int (0 : Int32)), .val (.int (1 : Int32)), .val (.int (0 : Int32)), .val (.int e0_), .val (.int e1_), .val (.int e2_), .val (.ref key), .val (.ref hh), .unset, .unset, .unset] [(.ref key), .null, (.ref t126), (.ref hh), (.ref d), (.ref d)])) target → Steps p.tables e below (T126.setTop (mkF m 137 #[.val (.int p0), .val (.int p1), .val (.int p2), .val (.int p3), .val (.long q4), .second, .val (.int (0 : Int32)), .val (.int (1 : Int32)), .val (.int (0 : Int32)), .val (.int e0_), .val (.int e1_), .val (.int e2_), .val (.ref key), .val (.ref hh), .unset, .unset, .unset] [(.ref t126), (.ref hh), (.ref d), (.ref d)])) target := by
          intro target kt
          show Steps p.tables e below (T126.setTop (mkF m 137 #[.val (.int p0), .val (.int p1), .val (.int p2), .val (.int p3), .val (.long q4), .second, .val (.int (0 : Int32)), .val (.int (1 : Int32)), .val (.int (0 : Int32)), .val (.int e0_), .val (.int e1_), .val (.int e2_), .val (.ref key), .val (.ref hh), .unset, .unset, .unset] [(.ref t126), (.ref hh), (.ref d), (.ref d)])) _
          refine XS.aconstNull X126.here hx rfl (hb hby at_137) ?_
          show Steps p.tables e below (T126.setTop (mkF m 138 #[.val (.int p0), .val (.int p1), .val (.int p2), .val (.int p3), .val (.long q4), .second, .val (.int (0 : Int32)), .val (.int (1 : Int32)), .val (.int (0 : Int32)), .val (.int e0_), .val (.int e1_), .val (.int e2_), .val (.ref key), .val (.ref hh), .unset, .unset, .unset] [.null, (.ref t126), (.ref hh), (.ref d), (.ref d)])) _
          refine XS.aload X126.here hx rfl (hb hby at_138) rfl rfl ?_
          exact kt
        obtain ⟨_, _, ⟨T128, L128, k128, n128⟩, -, X128, ⟨Lc128, hQ128, l128, y128, z128⟩, st128⟩ := X126.specialBack hx (y := (⟨"com/example/imprimatur/imprimatur/verify/DeviceValues", "<init>", "([BLjava/lang/Long;Ljava/lang/Long;[B)V"⟩ : MethodName)) rfl hown (mvT hZ (hw _ (List.mem_of_getElem? (i := 26) rfl))) (mvT hZ (hw _ (List.mem_of_getElem? (i := 27) rfl))) (mvT hZ (hw _ (List.mem_of_getElem? (i := 28) rfl))) (by decide) (backOf (W := 1) (rmI11 l Z a0 hw [] d hh t126 key k119 [((1 : Int32), (.int (nar .byte ((p2 ^^^ (119 : Int32)).toInt8.toInt32)))), ((0 : Int32), (.int (nar .byte ((p1 ^^^ (51 : Int32)).toInt8.toInt32))))] k117 (0 : Int32) [] T126.heap n0 Z_126 F_pkHash_d_126 F_hwId_d_126 F_swId_d_126 F_publicKey_d_126 E_d_126 g_d Hh_hh_126 Ex119_126 (Ne.symm ne_hh_d) Hh_key_126 Ex117_126 (Ne.symm ne_key_d) (by decide) (Ne.symm ne_key_hh)) hZ (hw _ (List.mem_of_getElem? (i := 28) rfl)) (hw _ (List.mem_of_getElem? (i := 3) rfl)) (by decide) (by decide)) (g := (mkF m 140 #[.val (.int p0), .val (.int p1), .val (.int p2), .val (.int p3), .val (.long q4), .second, .val (.int (0 : Int32)), .val (.int (1 : Int32)), .val (.int (0 : Int32)), .val (.int e0_), .val (.int e1_), .val (.int e2_), .val (.ref key), .val (.ref hh), .unset, .unset, .unset] [(.ref key), .null, (.ref t126), (.ref hh), (.ref d), (.ref d)])) rfl (by rw [hml]; rfl) (Steps.refl _) (a := d) (argsL := [(.ref hh), (.ref t126), .null, (.ref key)]) (rest := [(.ref d)]) (lenOf pd_3 rfl) rfl (by show 2 * 0 + _ ≤ _; exact Nat.le_of_eq rfl) (hb hby at_140) (fun _ _ => ⟨rfl, rfl, (by decide : 4 + 2 ≤ _), (by decide : 37 + 35 ≤ _)⟩)
        dsimp only [Pt.U, Pt.locs, Pt.cells, Pt.slots] at X128 l128 y128 z128 st128 hQ128
        subst l128 y128 z128
        obtain ⟨rfl, Nq128, K128, Ed, c, szc, Fc, Hc, Ec⟩ := hQ128
        have N128 := Fr.app N126 Nq128
        have g_c : n0 ≤ c := Nat.le_trans Z_126 szc
        have ne_key_c : key ≠ c := Nat.ne_of_lt (Nat.lt_of_lt_of_le Hh_key_126.lt szc)
        have ne_hh_c : hh ≠ c := Nat.ne_of_lt (Nat.lt_of_lt_of_le Ex119_126.lt szc)
        have ne_d_c : d ≠ c := Nat.ne_of_lt (Nat.lt_of_lt_of_le E_d_126.lt szc)
        have ne_t126_c : t126 ≠ c := Nat.ne_of_lt (Nat.lt_of_lt_of_le Et126.lt szc)
        have Od_128 := Od_126.keep K128 (allS g_d (all0))
        have Hh_key_128 := Hh_key_126.keep K128 (ninS ne_key_d nin0)
        have Ex117_128 := Ex117_126.keep K128
        have Ex119_128 := Ex119_126.keep K128
        have Hh_hh_128 := Hh_hh_126.keep K128 (ninS ne_hh_d nin0)
        have E_d_128 := E_d_126.keep K128
        have Et126_128 := Et126.keep K128
        have Z_128 : n0 ≤ T128.heap.size := Nat.le_trans Z_126 K128.1
        have st129 : ∀ target, Steps p.tables e below (T128.setTop (mkF m 169 #[.val (.int p0), .val (.int p1), .val (.int p2), .val (.int p3), .val (.long q4), .second, .val (.int (0 : Int32)), .val (.int (1 : Int32)), .val (.int (0 : Int32)), .val (.int e0_), .val (.int e1_), .val (.int e2_), .val (.ref key), .val (.ref hh), .val (.ref d), .unset, .unset] [(.ref d)])) target → Steps p.tables e below (T128.setTop (mkF m 143 #[.val (.int p0), .val (.int p1), .val (.int p2), .val (.int p3), .val (.long q4), .second, .val (.int (0 : Int32)), .val (.int (1 : Int32)), .val (.int (0 : Int32)), .val (.int e0_), .val (.int e1_), .val (.int e2_), .val (.ref key), .val (.ref hh), .unset, .unset, .unset] [(.ref d)])) target := by
          intro target kt
          show Steps p.tables e below (T128.setTop (mkF m 143 #[.val (.int p0), .val (.int p1), .val (.int p2), .val (.int p3), .val (.long q4), .second, .val (.int (0 : Int32)), .val (.int (1 : Int32)), .val (.int (0 : Int32)), .val (.int e0_), .val (.int e1_), .val (.int e2_), .val (.ref key), .val (.ref hh), .unset, .unset, .unset] [(.ref d)])) _
          refine XS.astore X128.here hx rfl (hb hby at_143) rfl rfl (l' := #[.val (.int p0), .val (.int p1), .val (.int p2), .val (.int p3), .val (.long q4), .second, .val (.int (0 : Int32)), .val (.int (1 : Int32)), .val (.int (0 : Int32)), .val (.int e0_), .val (.int e1_), .val (.int e2_), .val (.ref key), .val (.ref hh), .val (.ref d), .unset, .unset]) rfl ?_
          show Steps p.tables e below (T128.setTop (mkF m 145 #[.val (.int p0), .val (.int p1), .val (.int p2), .val (.int p3), .val (.long q4), .second, .val (.int (0 : Int32)), .val (.int (1 : Int32)), .val (.int (0 : Int32)), .val (.int e0_), .val (.int e1_), .val (.int e2_), .val (.ref key), .val (.ref hh), .val (.ref d), .unset, .unset] [])) _
          refine XS.aload X128.here hx rfl (hb hby at_145) rfl rfl ?_
          show Steps p.tables e below (T128.setTop (mkF m 147 #[.val (.int p0), .val (.int p1), .val (.int p2), .val (.int p3), .val (.long q4), .second, .val (.int (0 : Int32)), .val (.int (1 : Int32)), .val (.int (0 : Int32)), .val (.int e0_), .val (.int e1_), .val (.int e2_), .val (.ref key), .val (.ref hh), .val (.ref d), .unset, .unset] [(.ref key)])) _
          refine XS.ifnullNo X128.here hx rfl (hb hby at_147) rfl ?_
          show Steps p.tables e below (T128.setTop (mkF m 150 #[.val (.int p0), .val (.int p1), .val (.int p2), .val (.int p3), .val (.long q4), .second, .val (.int (0 : Int32)), .val (.int (1 : Int32)), .val (.int (0 : Int32)), .val (.int e0_), .val (.int e1_), .val (.int e2_), .val (.ref key), .val (.ref hh), .val (.ref d), .unset, .unset] [])) _
          refine XS.iload X128.here hx rfl (hb hby at_150) rfl ?_
          show Steps p.tables e below (T128.setTop (mkF m 152 #[.val (.int p0), .val (.int p1), .val (.int p2), .val (.int p3), .val (.long q4), .second, .val (.int (0 : Int32)), .val (.int (1 : Int32)), .val (.int (0 : Int32)), .val (.int e0_), .val (.int e1_), .val (.int e2_), .val (.ref key), .val (.ref hh), .val (.ref d), .unset, .unset] [(.int (0 : Int32))])) _
          refine XS.ifYes X128.here hx rfl (pc0 := 152) (pc' := 167) rfl (hb hby at_152) rfl ((if0 _ _).trans (flt (by decide : ¬ ((0 : Int32) < (0 : Int32)))).2.2.2) (by decide) (by decide) ?_
          show Steps p.tables e below (T128.setTop (mkF m 167 #[.val (.int p0), .val (.int p1), .val (.int p2), .val (.int p3), .val (.long q4), .second, .val (.int (0 : Int32)), .val (.int (1 : Int32)), .val (.int (0 : Int32)), .val (.int e0_), .val (.int e1_), .val (.int e2_), .val (.ref key), .val (.ref hh), .val (.ref d), .unset, .unset] [])) _
          refine XS.aload X128.here hx rfl (hb hby at_167) rfl rfl ?_
          exact kt
        obtain ⟨cq130, kq130, qv130a, qv130b, qv130c⟩ := isOf hZ rfl Ed
        obtain ⟨_, _, ⟨T130, L130, k130, n130⟩, -, X130, ⟨Lc130, hQ130, l130, y130, z130⟩, st130⟩ := X128.virtualBack hx (y := (⟨"com/example/imprimatur/imprimatur/verify/DeviceValues", "publicKey", "()[B"⟩ : MethodName)) (z := (⟨"com/example/imprimatur/imprimatur/verify/DeviceValues", "publicKey", "()[B"⟩ : MethodName)) hown (mvT hZ (hw _ (List.mem_of_getElem? (i := 47) rfl))) (mvT hZ (hw _ (List.mem_of_getElem? (i := 48) rfl))) (notFace_of_selects (args := #[]) (mvT hZ (hw _ (List.mem_of_getElem? (i := 50) rfl)))) (mvT hZ (hw _ (List.mem_of_getElem? (i := 50) rfl))) (mvT hZ (hw _ (List.mem_of_getElem? (i := 49) rfl))) (by decide) (backOf (W := 0) (rm_publicKey l Z a0 hw [] d c k117 (0 : Int32) [] T128.heap n0 Z_128 Fc Hc Ec (by decide)) hZ (hw _ (List.mem_of_getElem? (i := 51) rfl)) (hw _ (List.mem_of_getElem? (i := 3) rfl)) (by decide) (by decide)) qv130a qv130c (g := (mkF m 169 #[.val (.int p0), .val (.int p1), .val (.int p2), .val (.int p3), .val (.long q4), .second, .val (.int (0 : Int32)), .val (.int (1 : Int32)), .val (.int (0 : Int32)), .val (.int e0_), .val (.int e1_), .val (.int e2_), .val (.ref key), .val (.ref hh), .val (.ref d), .unset, .unset] [(.ref d)])) rfl (by rw [hml]; rfl) (Steps.refl _) (argsL := []) (rest := []) (lenOf pd_5 rfl) rfl (by show 2 * 0 + _ ≤ _; exact Nat.le_of_eq rfl) (hb hby at_169) (fun _ _ => ⟨rfl, rfl, (by decide : 6 + 1 ≤ _), (by decide : 72 + 3 ≤ _)⟩)
        dsimp only [Pt.U, Pt.locs, Pt.cells, Pt.slots] at X130 l130 y130 z130 st130 hQ130
        subst l130 y130 z130
        obtain ⟨c2_130, rfl, Nq130, K130, sz130, Hr1, Er1⟩ := hQ130
        have N130 := Fr.app N128 Nq130
        have g_c2_130 : n0 ≤ c2_130 := Nat.le_trans Z_128 sz130
        have ne_key_c2_130 : key ≠ c2_130 := Nat.ne_of_lt (Nat.lt_of_lt_of_le Hh_key_128.lt sz130)
        have ne_hh_c2_130 : hh ≠ c2_130 := Nat.ne_of_lt (Nat.lt_of_lt_of_le Ex119_128.lt sz130)
        have ne_d_c2_130 : d ≠ c2_130 := Nat.ne_of_lt (Nat.lt_of_lt_of_le Ed.lt sz130)
        have ne_t126_c2_130 : t126 ≠ c2_130 := Nat.ne_of_lt (Nat.lt_of_lt_of_le Et126_128.lt sz130)
        have ne_c_c2_130 : c ≠ c2_130 := Nat.ne_of_lt (Nat.lt_of_lt_of_le Hc.lt sz130)
        have Od_130 := Od_128.keep K130 (all0)
        have Hh_key_130 := Hh_key_128.keep K130 nin0
        have Ex117_130 := Ex117_128.keep K130
        have Ex119_130 := Ex119_128.keep K130
        have Hh_hh_130 := Hh_hh_128.keep K130 nin0
        have Ed_130 := Ed.keep K130
        have Et126_130 := Et126_128.keep K130
        have Fc_130 := Fc.keep K130 nin0
        have Hc_130 := Hc.keep K130 nin0
        have Ec_130 := Ec.keep K130
        have Z_130 : n0 ≤ T130.heap.size := Nat.le_trans Z_128 K130.1
        have st131 : ∀ target, Steps p.tables e below (T130.setTop (mkF m 200 #[.val (.int p0), .val (.int p1), .val (.int p2), .val (.int p3), .val (.long q4), .second, .val (.int (0 : Int32)), .val (.int (1 : Int32)), .val (.int (0 : Int32)), .val (.int e0_), .val (.int e1_), .val (.int e2_), .val (.ref key), .val (.ref hh), .val (.ref d), .val (.ref c2_130), .unset] [(.int e2_), (.int e1_), (.int e0_), (.int (0 : Int32)), (.ref c2_130)])) target → Steps p.tables e below (T130.setTop (mkF m 172 #[.val (.int p0), .val (.int p1), .val (.int p2), .val (.int p3), .val (.long q4), .second, .val (.int (0 : Int32)), .val (.int (1 : Int32)), .val (.int (0 : Int32)), .val (.int e0_), .val (.int e1_), .val (.int e2_), .val (.ref key), .val (.ref hh), .val (.ref d), .unset, .unset] [(.ref c2_130)])) target := by
          intro target kt
          show Steps p.tables e below (T130.setTop (mkF m 172 #[.val (.int p0), .val (.int p1), .val (.int p2), .val (.int p3), .val (.long q4), .second, .val (.int (0 : Int32)), .val (.int (1 : Int32)), .val (.int (0 : Int32)), .val (.int e0_), .val (.int e1_), .val (.int e2_), .val (.ref key), .val (.ref hh), .val (.ref d), .unset, .unset] [(.ref c2_130)])) _
          refine XS.astore X130.here hx rfl (hb hby at_172) rfl rfl (l' := #[.val (.int p0), .val (.int p1), .val (.int p2), .val (.int p3), .val (.long q4), .second, .val (.int (0 : Int32)), .val (.int (1 : Int32)), .val (.int (0 : Int32)), .val (.int e0_), .val (.int e1_), .val (.int e2_), .val (.ref key), .val (.ref hh), .val (.ref d), .val (.ref c2_130), .unset]) rfl ?_
          show Steps p.tables e below (T130.setTop (mkF m 174 #[.val (.int p0), .val (.int p1), .val (.int p2), .val (.int p3), .val (.long q4), .second, .val (.int (0 : Int32)), .val (.int (1 : Int32)), .val (.int (0 : Int32)), .val (.int e0_), .val (.int e1_), .val (.int e2_), .val (.ref key), .val (.ref hh), .val (.ref d), .val (.ref c2_130), .unset] [])) _
          refine XS.iload X130.here hx rfl (hb hby at_174) rfl ?_
          show Steps p.tables e below (T130.setTop (mkF m 176 #[.val (.int p0), .val (.int p1), .val (.int p2), .val (.int p3), .val (.long q4), .second, .val (.int (0 : Int32)), .val (.int (1 : Int32)), .val (.int (0 : Int32)), .val (.int e0_), .val (.int e1_), .val (.int e2_), .val (.ref key), .val (.ref hh), .val (.ref d), .val (.ref c2_130), .unset] [(.int (0 : Int32))])) _
          refine XS.ifYes X130.here hx rfl (pc0 := 176) (pc' := 190) rfl (hb hby at_176) rfl ((if0 _ _).trans (teq (rfl : (0 : Int32) = (0 : Int32))).1) (by decide) (by decide) ?_
          show Steps p.tables e below (T130.setTop (mkF m 190 #[.val (.int p0), .val (.int p1), .val (.int p2), .val (.int p3), .val (.long q4), .second, .val (.int (0 : Int32)), .val (.int (1 : Int32)), .val (.int (0 : Int32)), .val (.int e0_), .val (.int e1_), .val (.int e2_), .val (.ref key), .val (.ref hh), .val (.ref d), .val (.ref c2_130), .unset] [])) _
          refine XS.aload X130.here hx rfl (hb hby at_190) rfl rfl ?_
          show Steps p.tables e below (T130.setTop (mkF m 192 #[.val (.int p0), .val (.int p1), .val (.int p2), .val (.int p3), .val (.long q4), .second, .val (.int (0 : Int32)), .val (.int (1 : Int32)), .val (.int (0 : Int32)), .val (.int e0_), .val (.int e1_), .val (.int e2_), .val (.ref key), .val (.ref hh), .val (.ref d), .val (.ref c2_130), .unset] [(.ref c2_130)])) _
          refine XS.iload X130.here hx rfl (hb hby at_192) rfl ?_
          show Steps p.tables e below (T130.setTop (mkF m 194 #[.val (.int p0), .val (.int p1), .val (.int p2), .val (.int p3), .val (.long q4), .second, .val (.int (0 : Int32)), .val (.int (1 : Int32)), .val (.int (0 : Int32)), .val (.int e0_), .val (.int e1_), .val (.int e2_), .val (.ref key), .val (.ref hh), .val (.ref d), .val (.ref c2_130), .unset] [(.int (0 : Int32)), (.ref c2_130)])) _
          refine XS.iload X130.here hx rfl (hb hby at_194) rfl ?_
          show Steps p.tables e below (T130.setTop (mkF m 196 #[.val (.int p0), .val (.int p1), .val (.int p2), .val (.int p3), .val (.long q4), .second, .val (.int (0 : Int32)), .val (.int (1 : Int32)), .val (.int (0 : Int32)), .val (.int e0_), .val (.int e1_), .val (.int e2_), .val (.ref key), .val (.ref hh), .val (.ref d), .val (.ref c2_130), .unset] [(.int e0_), (.int (0 : Int32)), (.ref c2_130)])) _
          refine XS.iload X130.here hx rfl (hb hby at_196) rfl ?_
          show Steps p.tables e below (T130.setTop (mkF m 198 #[.val (.int p0), .val (.int p1), .val (.int p2), .val (.int p3), .val (.long q4), .second, .val (.int (0 : Int32)), .val (.int (1 : Int32)), .val (.int (0 : Int32)), .val (.int e0_), .val (.int e1_), .val (.int e2_), .val (.ref key), .val (.ref hh), .val (.ref d), .val (.ref c2_130), .unset] [(.int e1_), (.int e0_), (.int (0 : Int32)), (.ref c2_130)])) _
          refine XS.iload X130.here hx rfl (hb hby at_198) rfl ?_
          exact kt
        obtain ⟨_, _, ⟨T132, L132, k132, n132⟩, -, X132, ⟨Lc132, hQ132, l132, y132, z132⟩, st132⟩ := Jvm.LawKit.callS X130 hx (y := (⟨"com/example/imprimatur/imprimatur/verify/DeviceValuesPublicKeyPinLaw", "same", "([BIBBB)Z"⟩ : MethodName)) hown (mvT hZ (hw _ (List.mem_of_getElem? (i := 52) rfl))) (mvT hZ (hw _ (List.mem_of_getElem? (i := 53) rfl))) (mvT hZ (hw _ (List.mem_of_getElem? (i := 54) rfl))) (mvT hZ (hw _ (List.mem_of_getElem? (i := 55) rfl))) (by decide) (backOf (W := 0) (rmS0 l Z a0 hw [] c2_130 e0_ e1_ e2_ k117 [] T130.heap n0 Z_130 Hr1) hZ (hw _ (List.mem_of_getElem? (i := 55) rfl)) (hw _ (List.mem_of_getElem? (i := 54) rfl)) (by decide) (by decide)) (g := (mkF m 200 #[.val (.int p0), .val (.int p1), .val (.int p2), .val (.int p3), .val (.long q4), .second, .val (.int (0 : Int32)), .val (.int (1 : Int32)), .val (.int (0 : Int32)), .val (.int e0_), .val (.int e1_), .val (.int e2_), .val (.ref key), .val (.ref hh), .val (.ref d), .val (.ref c2_130), .unset] [(.int e2_), (.int e1_), (.int e0_), (.int (0 : Int32)), (.ref c2_130)])) rfl (by rw [hml]; rfl) (argsL := [(.ref c2_130), (.int (0 : Int32)), (.int e0_), (.int e1_), (.int e2_)]) (rest := []) (lenOf pd_6 rfl) rfl (by show 2 * 0 + _ ≤ _; exact Nat.le_of_eq rfl) (hb hby at_200) (fun _ _ => ⟨rfl, rfl, (by decide : 7 + 0 ≤ _), (by decide : 75 + 0 ≤ _)⟩)
        dsimp only [Pt.U, Pt.locs, Pt.cells, Pt.slots] at X132 l132 y132 z132 st132 hQ132
        subst l132 y132 z132
        obtain ⟨rfl, Nq132, e132⟩ := hQ132
        have N132 := Fr.app N130 Nq132
        have st133 : ∀ target, Steps p.tables e below (T132.setTop (mkF m 226 #[.val (.int p0), .val (.int p1), .val (.int p2), .val (.int p3), .val (.long q4), .second, .val (.int (0 : Int32)), .val (.int (1 : Int32)), .val (.int (0 : Int32)), .val (.int e0_), .val (.int e1_), .val (.int e2_), .val (.ref key), .val (.ref hh), .val (.ref d), .val (.ref c2_130), .unset] [(.ref d)])) target → Steps p.tables e below (T132.setTop (mkF m 203 #[.val (.int p0), .val (.int p1), .val (.int p2), .val (.int p3), .val (.long q4), .second, .val (.int (0 : Int32)), .val (.int (1 : Int32)), .val (.int (0 : Int32)), .val (.int e0_), .val (.int e1_), .val (.int e2_), .val (.ref key), .val (.ref hh), .val (.ref d), .val (.ref c2_130), .unset] [(.int (1 : Int32))])) target := by
          intro target kt
          show Steps p.tables e below (T132.setTop (mkF m 203 #[.val (.int p0), .val (.int p1), .val (.int p2), .val (.int p3), .val (.long q4), .second, .val (.int (0 : Int32)), .val (.int (1 : Int32)), .val (.int (0 : Int32)), .val (.int e0_), .val (.int e1_), .val (.int e2_), .val (.ref key), .val (.ref hh), .val (.ref d), .val (.ref c2_130), .unset] [(.int (1 : Int32))])) _
          refine XS.ifYes X132.here hx rfl (pc0 := 203) (pc' := 208) rfl (hb hby at_203) rfl ((if0 _ _).trans (feq (by decide : ¬ ((1 : Int32) = (0 : Int32)))).2) (by decide) (by decide) ?_
          show Steps p.tables e below (T132.setTop (mkF m 208 #[.val (.int p0), .val (.int p1), .val (.int p2), .val (.int p3), .val (.long q4), .second, .val (.int (0 : Int32)), .val (.int (1 : Int32)), .val (.int (0 : Int32)), .val (.int e0_), .val (.int e1_), .val (.int e2_), .val (.ref key), .val (.ref hh), .val (.ref d), .val (.ref c2_130), .unset] [])) _
          refine XS.iload X132.here hx rfl (hb hby at_208) rfl ?_
          show Steps p.tables e below (T132.setTop (mkF m 210 #[.val (.int p0), .val (.int p1), .val (.int p2), .val (.int p3), .val (.long q4), .second, .val (.int (0 : Int32)), .val (.int (1 : Int32)), .val (.int (0 : Int32)), .val (.int e0_), .val (.int e1_), .val (.int e2_), .val (.ref key), .val (.ref hh), .val (.ref d), .val (.ref c2_130), .unset] [(.int (0 : Int32))])) _
          refine XS.ifYes X132.here hx rfl (pc0 := 210) (pc' := 224) rfl (hb hby at_210) rfl ((if0 _ _).trans (flt (by decide : ¬ ((0 : Int32) < (0 : Int32)))).2.2.2) (by decide) (by decide) ?_
          show Steps p.tables e below (T132.setTop (mkF m 224 #[.val (.int p0), .val (.int p1), .val (.int p2), .val (.int p3), .val (.long q4), .second, .val (.int (0 : Int32)), .val (.int (1 : Int32)), .val (.int (0 : Int32)), .val (.int e0_), .val (.int e1_), .val (.int e2_), .val (.ref key), .val (.ref hh), .val (.ref d), .val (.ref c2_130), .unset] [])) _
          refine XS.aload X132.here hx rfl (hb hby at_224) rfl rfl ?_
          exact kt
        obtain ⟨cq134, kq134, qv134a, qv134b, qv134c⟩ := isOf hZ e132 Ed_130
        obtain ⟨_, _, ⟨T134, L134, k134, n134⟩, -, X134, ⟨Lc134, hQ134, l134, y134, z134⟩, st134⟩ := X132.virtualBack hx (y := (⟨"com/example/imprimatur/imprimatur/verify/DeviceValues", "publicKey", "()[B"⟩ : MethodName)) (z := (⟨"com/example/imprimatur/imprimatur/verify/DeviceValues", "publicKey", "()[B"⟩ : MethodName)) hown (mvT hZ (hw _ (List.mem_of_getElem? (i := 47) rfl))) (mvT hZ (hw _ (List.mem_of_getElem? (i := 48) rfl))) (notFace_of_selects (args := #[]) (mvT hZ (hw _ (List.mem_of_getElem? (i := 50) rfl)))) (mvT hZ (hw _ (List.mem_of_getElem? (i := 50) rfl))) (mvT hZ (hw _ (List.mem_of_getElem? (i := 49) rfl))) (by decide) (backOf (W := 0) (rm_publicKey l Z a0 hw [] d c k117 (0 : Int32) [] T130.heap n0 Z_130 Fc_130 Hc_130 Ec_130 (by decide)) hZ (hw _ (List.mem_of_getElem? (i := 51) rfl)) (hw _ (List.mem_of_getElem? (i := 3) rfl)) (by decide) (by decide)) qv134a qv134c (g := (mkF m 226 #[.val (.int p0), .val (.int p1), .val (.int p2), .val (.int p3), .val (.long q4), .second, .val (.int (0 : Int32)), .val (.int (1 : Int32)), .val (.int (0 : Int32)), .val (.int e0_), .val (.int e1_), .val (.int e2_), .val (.ref key), .val (.ref hh), .val (.ref d), .val (.ref c2_130), .unset] [(.ref d)])) rfl (by rw [hml]; rfl) (Steps.refl _) (argsL := []) (rest := []) (lenOf pd_5 rfl) rfl (by show 2 * 0 + _ ≤ _; exact Nat.le_of_eq rfl) (hb hby at_226) (fun _ _ => ⟨rfl, e132, (by decide : 7 + 1 ≤ _), (by decide : 75 + 3 ≤ _)⟩)
        dsimp only [Pt.U, Pt.locs, Pt.cells, Pt.slots] at X134 l134 y134 z134 st134 hQ134
        subst l134 y134 z134
        obtain ⟨c2_134, rfl, Nq134, K134, sz134, Hr2, Er2⟩ := hQ134
        have N134 := Fr.app N132 Nq134
        have g_c2_134 : n0 ≤ c2_134 := Nat.le_trans Z_130 sz134
        have ne_key_c2_134 : key ≠ c2_134 := Nat.ne_of_lt (Nat.lt_of_lt_of_le Hh_key_130.lt sz134)
        have ne_hh_c2_134 : hh ≠ c2_134 := Nat.ne_of_lt (Nat.lt_of_lt_of_le Ex119_130.lt sz134)
        have ne_d_c2_134 : d ≠ c2_134 := Nat.ne_of_lt (Nat.lt_of_lt_of_le Ed_130.lt sz134)
        have ne_t126_c2_134 : t126 ≠ c2_134 := Nat.ne_of_lt (Nat.lt_of_lt_of_le Et126_130.lt sz134)
        have ne_c_c2_134 : c ≠ c2_134 := Nat.ne_of_lt (Nat.lt_of_lt_of_le Hc_130.lt sz134)
        have ne_c2_130_c2_134 : c2_130 ≠ c2_134 := Nat.ne_of_lt (Nat.lt_of_lt_of_le Hr1.lt sz134)
        have Od_134 := Od_130.keep K134 (all0)
        have Hh_key_134 := Hh_key_130.keep K134 nin0
        have Ex117_134 := Ex117_130.keep K134
        have Ex119_134 := Ex119_130.keep K134
        have Hh_hh_134 := Hh_hh_130.keep K134 nin0
        have Ed_134 := Ed_130.keep K134
        have Et126_134 := Et126_130.keep K134
        have Fc_134 := Fc_130.keep K134 nin0
        have Hc_134 := Hc_130.keep K134 nin0
        have Ec_134 := Ec_130.keep K134
        have Hr1_134 := Hr1.keep K134 nin0
        have Er1_134 := Er1.keep K134
        have Z_134 : n0 ≤ T134.heap.size := Nat.le_trans Z_130 K134.1
        have st135 : ∀ target, Steps p.tables e below (T134.setTop (mkF m 241 #[.val (.int p0), .val (.int p1), .val (.int p2), .val (.int p3), .val (.long q4), .second, .val (.int (0 : Int32)), .val (.int (1 : Int32)), .val (.int (0 : Int32)), .val (.int e0_), .val (.int e1_), .val (.int e2_), .val (.ref key), .val (.ref hh), .val (.ref d), .val (.ref c2_130), .val (.ref c2_134)] [(.int e2_), (.int e1_), (.int e0_), (.int (0 : Int32)), (.ref c2_134)])) target → Steps p.tables e below (T134.setTop (mkF m 229 #[.val (.int p0), .val (.int p1), .val (.int p2), .val (.int p3), .val (.long q4), .second, .val (.int (0 : Int32)), .val (.int (1 : Int32)), .val (.int (0 : Int32)), .val (.int e0_), .val (.int e1_), .val (.int e2_), .val (.ref key), .val (.ref hh), .val (.ref d), .val (.ref c2_130), .unset] [(.ref c2_134)])) target := by
          intro target kt
          show Steps p.tables e below (T134.setTop (mkF m 229 #[.val (.int p0), .val (.int p1), .val (.int p2), .val (.int p3), .val (.long q4), .second, .val (.int (0 : Int32)), .val (.int (1 : Int32)), .val (.int (0 : Int32)), .val (.int e0_), .val (.int e1_), .val (.int e2_), .val (.ref key), .val (.ref hh), .val (.ref d), .val (.ref c2_130), .unset] [(.ref c2_134)])) _
          refine XS.astore X134.here hx rfl (hb hby at_229) rfl rfl (l' := #[.val (.int p0), .val (.int p1), .val (.int p2), .val (.int p3), .val (.long q4), .second, .val (.int (0 : Int32)), .val (.int (1 : Int32)), .val (.int (0 : Int32)), .val (.int e0_), .val (.int e1_), .val (.int e2_), .val (.ref key), .val (.ref hh), .val (.ref d), .val (.ref c2_130), .val (.ref c2_134)]) rfl ?_
          show Steps p.tables e below (T134.setTop (mkF m 231 #[.val (.int p0), .val (.int p1), .val (.int p2), .val (.int p3), .val (.long q4), .second, .val (.int (0 : Int32)), .val (.int (1 : Int32)), .val (.int (0 : Int32)), .val (.int e0_), .val (.int e1_), .val (.int e2_), .val (.ref key), .val (.ref hh), .val (.ref d), .val (.ref c2_130), .val (.ref c2_134)] [])) _
          refine XS.aload X134.here hx rfl (hb hby at_231) rfl rfl ?_
          show Steps p.tables e below (T134.setTop (mkF m 233 #[.val (.int p0), .val (.int p1), .val (.int p2), .val (.int p3), .val (.long q4), .second, .val (.int (0 : Int32)), .val (.int (1 : Int32)), .val (.int (0 : Int32)), .val (.int e0_), .val (.int e1_), .val (.int e2_), .val (.ref key), .val (.ref hh), .val (.ref d), .val (.ref c2_130), .val (.ref c2_134)] [(.ref c2_134)])) _
          refine XS.iload X134.here hx rfl (hb hby at_233) rfl ?_
          show Steps p.tables e below (T134.setTop (mkF m 235 #[.val (.int p0), .val (.int p1), .val (.int p2), .val (.int p3), .val (.long q4), .second, .val (.int (0 : Int32)), .val (.int (1 : Int32)), .val (.int (0 : Int32)), .val (.int e0_), .val (.int e1_), .val (.int e2_), .val (.ref key), .val (.ref hh), .val (.ref d), .val (.ref c2_130), .val (.ref c2_134)] [(.int (0 : Int32)), (.ref c2_134)])) _
          refine XS.iload X134.here hx rfl (hb hby at_235) rfl ?_
          show Steps p.tables e below (T134.setTop (mkF m 237 #[.val (.int p0), .val (.int p1), .val (.int p2), .val (.int p3), .val (.long q4), .second, .val (.int (0 : Int32)), .val (.int (1 : Int32)), .val (.int (0 : Int32)), .val (.int e0_), .val (.int e1_), .val (.int e2_), .val (.ref key), .val (.ref hh), .val (.ref d), .val (.ref c2_130), .val (.ref c2_134)] [(.int e0_), (.int (0 : Int32)), (.ref c2_134)])) _
          refine XS.iload X134.here hx rfl (hb hby at_237) rfl ?_
          show Steps p.tables e below (T134.setTop (mkF m 239 #[.val (.int p0), .val (.int p1), .val (.int p2), .val (.int p3), .val (.long q4), .second, .val (.int (0 : Int32)), .val (.int (1 : Int32)), .val (.int (0 : Int32)), .val (.int e0_), .val (.int e1_), .val (.int e2_), .val (.ref key), .val (.ref hh), .val (.ref d), .val (.ref c2_130), .val (.ref c2_134)] [(.int e1_), (.int e0_), (.int (0 : Int32)), (.ref c2_134)])) _
          refine XS.iload X134.here hx rfl (hb hby at_239) rfl ?_
          exact kt
        obtain ⟨_, _, ⟨T136, L136, k136, n136⟩, -, X136, ⟨Lc136, hQ136, l136, y136, z136⟩, st136⟩ := Jvm.LawKit.callS X134 hx (y := (⟨"com/example/imprimatur/imprimatur/verify/DeviceValuesPublicKeyPinLaw", "same", "([BIBBB)Z"⟩ : MethodName)) hown (mvT hZ (hw _ (List.mem_of_getElem? (i := 52) rfl))) (mvT hZ (hw _ (List.mem_of_getElem? (i := 53) rfl))) (mvT hZ (hw _ (List.mem_of_getElem? (i := 54) rfl))) (mvT hZ (hw _ (List.mem_of_getElem? (i := 55) rfl))) (by decide) (backOf (W := 0) (rmS0 l Z a0 hw [] c2_134 e0_ e1_ e2_ k117 [] T134.heap n0 Z_134 Hr2) hZ (hw _ (List.mem_of_getElem? (i := 55) rfl)) (hw _ (List.mem_of_getElem? (i := 54) rfl)) (by decide) (by decide)) (g := (mkF m 241 #[.val (.int p0), .val (.int p1), .val (.int p2), .val (.int p3), .val (.long q4), .second, .val (.int (0 : Int32)), .val (.int (1 : Int32)), .val (.int (0 : Int32)), .val (.int e0_), .val (.int e1_), .val (.int e2_), .val (.ref key), .val (.ref hh), .val (.ref d), .val (.ref c2_130), .val (.ref c2_134)] [(.int e2_), (.int e1_), (.int e0_), (.int (0 : Int32)), (.ref c2_134)])) rfl (by rw [hml]; rfl) (argsL := [(.ref c2_134), (.int (0 : Int32)), (.int e0_), (.int e1_), (.int e2_)]) (rest := []) (lenOf pd_6 rfl) rfl (by show 2 * 0 + _ ≤ _; exact Nat.le_of_eq rfl) (hb hby at_241) (fun _ _ => ⟨rfl, rfl, (by decide : 8 + 0 ≤ _), (by decide : 78 + 0 ≤ _)⟩)
        dsimp only [Pt.U, Pt.locs, Pt.cells, Pt.slots] at X136 l136 y136 z136 st136 hQ136
        subst l136 y136 z136
        obtain ⟨rfl, Nq136, e136⟩ := hQ136
        have N136 := Fr.app N134 Nq136
        obtain ⟨fs, hr, hrun, hended, hW, hsame⟩ := X136.leave (v := some (.int (1 : Int32))) (fun h => by rw [Bd.returns] at h; cases h)
        refine ⟨_, _, pre0 _ (st1 _ (st2 _ (st3 _ (st113 _ (st114 _ (st115 _ (st116 _ (st117 _ (st118 _ (st119 _ (st120 _ (st121 _ (st122 _ (st123 _ (st124 _ (st125 _ (st126 _ (st127 _ (st128.trans (st129 _ (st130.trans (st131 _ (st132 _ (st133 _ (st134.trans (st135 _ (st136 _ ?_))))))))))))))))))))))))))), hrun, hended, _, _, rfl, ?_, ⟨_, rfl⟩, hW, hsame.mono (by decide) (by decide)⟩
        · show Steps p.tables e below (T136.setTop (mkF m 244 #[.val (.int p0), .val (.int p1), .val (.int p2), .val (.int p3), .val (.long q4), .second, .val (.int (0 : Int32)), .val (.int (1 : Int32)), .val (.int (0 : Int32)), .val (.int e0_), .val (.int e1_), .val (.int e2_), .val (.ref key), .val (.ref hh), .val (.ref d), .val (.ref c2_130), .val (.ref c2_134)] [(.int (1 : Int32))])) _
          exact retN X136 hx (t := .boolean) Bd.returns (by simp) (hb hby at_244) hr
        · show Q_rm0 Z p0 p1 p2 p3 q4 ca cc val h0 n0 _ T136.heap _
          rw [e136]
          exact ⟨rfl, N136⟩
      · have st137 : ∀ target, Steps p.tables e below (s₁.setTop (mkF m 55 #[.val (.int p0), .val (.int p1), .val (.int p2), .val (.int p3), .val (.long q4), .second, .val (.int (0 : Int32)), .val (.int (1 : Int32)), .val (.int (1 : Int32)), .val (.int e0_), .val (.int e1_), .val (.int e2_), .val .null, .unset, .unset, .unset, .unset] [(.int (1 : Int32))])) target → Steps p.tables e below (s₁.setTop (mkF m 45 #[.val (.int p0), .val (.int p1), .val (.int p2), .val (.int p3), .val (.long q4), .second, .val (.int (0 : Int32)), .val (.int (1 : Int32)), .val (.int (1 : Int32)), .val (.int e0_), .val (.int e1_), .val (.int e2_), .unset, .unset, .unset, .unset, .unset] [])) target := by
          intro target kt
          show Steps p.tables e below (s₁.setTop (mkF m 45 #[.val (.int p0), .val (.int p1), .val (.int p2), .val (.int p3), .val (.long q4), .second, .val (.int (0 : Int32)), .val (.int (1 : Int32)), .val (.int (1 : Int32)), .val (.int e0_), .val (.int e1_), .val (.int e2_), .unset, .unset, .unset, .unset, .unset] [])) _
          refine XS.aconstNull X0.here hx rfl (hb hby at_45) ?_
          show Steps p.tables e below (s₁.setTop (mkF m 46 #[.val (.int p0), .val (.int p1), .val (.int p2), .val (.int p3), .val (.long q4), .second, .val (.int (0 : Int32)), .val (.int (1 : Int32)), .val (.int (1 : Int32)), .val (.int e0_), .val (.int e1_), .val (.int e2_), .unset, .unset, .unset, .unset, .unset] [.null])) _
          refine XS.astore X0.here hx rfl (hb hby at_46) rfl rfl (l' := #[.val (.int p0), .val (.int p1), .val (.int p2), .val (.int p3), .val (.long q4), .second, .val (.int (0 : Int32)), .val (.int (1 : Int32)), .val (.int (1 : Int32)), .val (.int e0_), .val (.int e1_), .val (.int e2_), .val .null, .unset, .unset, .unset, .unset]) rfl ?_
          show Steps p.tables e below (s₁.setTop (mkF m 48 #[.val (.int p0), .val (.int p1), .val (.int p2), .val (.int p3), .val (.long q4), .second, .val (.int (0 : Int32)), .val (.int (1 : Int32)), .val (.int (1 : Int32)), .val (.int e0_), .val (.int e1_), .val (.int e2_), .val .null, .unset, .unset, .unset, .unset] [])) _
          refine XS.iload X0.here hx rfl (hb hby at_48) rfl ?_
          show Steps p.tables e below (s₁.setTop (mkF m 50 #[.val (.int p0), .val (.int p1), .val (.int p2), .val (.int p3), .val (.long q4), .second, .val (.int (0 : Int32)), .val (.int (1 : Int32)), .val (.int (1 : Int32)), .val (.int e0_), .val (.int e1_), .val (.int e2_), .val .null, .unset, .unset, .unset, .unset] [(.int (0 : Int32))])) _
          refine XS.ifNo X0.here hx rfl (hb hby at_50) rfl ((if0 _ _).trans (teq (rfl : (0 : Int32) = (0 : Int32))).2) ?_
          show Steps p.tables e below (s₁.setTop (mkF m 53 #[.val (.int p0), .val (.int p1), .val (.int p2), .val (.int p3), .val (.long q4), .second, .val (.int (0 : Int32)), .val (.int (1 : Int32)), .val (.int (1 : Int32)), .val (.int e0_), .val (.int e1_), .val (.int e2_), .val .null, .unset, .unset, .unset, .unset] [])) _
          refine XS.iload X0.here hx rfl (hb hby at_53) rfl ?_
          exact kt
        obtain ⟨T138, h138, k138, X138, e138, E138, A138, Ex138, st138⟩ := newPE X0 hx hZ (hw _ (List.mem_of_getElem? (i := 0) rfl)) e0 (g := (mkF m 55 #[.val (.int p0), .val (.int p1), .val (.int p2), .val (.int p3), .val (.long q4), .second, .val (.int (0 : Int32)), .val (.int (1 : Int32)), .val (.int (1 : Int32)), .val (.int e0_), .val (.int e1_), .val (.int e2_), .val .null, .unset, .unset, .unset, .unset] [(.int (1 : Int32))])) rfl (hb hby at_55) rfl (by decide) (cap := 1) (by decide) (by decide) (by decide) (by decide) (ad := "[B") (by decide)
        obtain ⟨key, g138⟩ : ∃ z, z = h0.size := ⟨_, rfl⟩
        rw [← g138] at A138 Ex138 st138
        have g_key : n0 ≤ key := Nat.le_trans Z0 (Nat.le_of_eq g138.symm)
        have Od_138 := Od.ext E138
        have Z_138 : n0 ≤ h138.size := Nat.le_trans Z0 E138.1
        have Hh_key : Arh Z h138 key k138 .byte (1 : Int32) [] [] (.int (0 : Int32)) := Arv.arh (Arv.new A138 (by decide))
        have st139 : ∀ target, Steps p.tables e below (T138.setTop (mkF m 69 #[.val (.int p0), .val (.int p1), .val (.int p2), .val (.int p3), .val (.long q4), .second, .val (.int (0 : Int32)), .val (.int (1 : Int32)), .val (.int (1 : Int32)), .val (.int e0_), .val (.int e1_), .val (.int e2_), .val (.ref key), .unset, .unset, .unset, .unset] [(.int e0_), (.int (0 : Int32)), (.ref key)])) target → Steps p.tables e below (T138.setTop (mkF m 57 #[.val (.int p0), .val (.int p1), .val (.int p2), .val (.int p3), .val (.long q4), .second, .val (.int (0 : Int32)), .val (.int (1 : Int32)), .val (.int (1 : Int32)), .val (.int e0_), .val (.int e1_), .val (.int e2_), .val .null, .unset, .unset, .unset, .unset] [(.ref key)])) target := by
          intro target kt
          show Steps p.tables e below (T138.setTop (mkF m 57 #[.val (.int p0), .val (.int p1), .val (.int p2), .val (.int p3), .val (.long q4), .second, .val (.int (0 : Int32)), .val (.int (1 : Int32)), .val (.int (1 : Int32)), .val (.int e0_), .val (.int e1_), .val (.int e2_), .val .null, .unset, .unset, .unset, .unset] [(.ref key)])) _
          refine XS.astore X138.here hx rfl (hb hby at_57) rfl rfl (l' := #[.val (.int p0), .val (.int p1), .val (.int p2), .val (.int p3), .val (.long q4), .second, .val (.int (0 : Int32)), .val (.int (1 : Int32)), .val (.int (1 : Int32)), .val (.int e0_), .val (.int e1_), .val (.int e2_), .val (.ref key), .unset, .unset, .unset, .unset]) rfl ?_
          show Steps p.tables e below (T138.setTop (mkF m 59 #[.val (.int p0), .val (.int p1), .val (.int p2), .val (.int p3), .val (.long q4), .second, .val (.int (0 : Int32)), .val (.int (1 : Int32)), .val (.int (1 : Int32)), .val (.int e0_), .val (.int e1_), .val (.int e2_), .val (.ref key), .unset, .unset, .unset, .unset] [])) _
          refine XS.iload X138.here hx rfl (hb hby at_59) rfl ?_
          show Steps p.tables e below (T138.setTop (mkF m 61 #[.val (.int p0), .val (.int p1), .val (.int p2), .val (.int p3), .val (.long q4), .second, .val (.int (0 : Int32)), .val (.int (1 : Int32)), .val (.int (1 : Int32)), .val (.int e0_), .val (.int e1_), .val (.int e2_), .val (.ref key), .unset, .unset, .unset, .unset] [(.int (1 : Int32))])) _
          refine XS.ifNo X138.here hx rfl (hb hby at_61) rfl ((if0 _ _).trans (tlt (by decide : ((0 : Int32) < (1 : Int32)))).2.2.2) ?_
          show Steps p.tables e below (T138.setTop (mkF m 64 #[.val (.int p0), .val (.int p1), .val (.int p2), .val (.int p3), .val (.long q4), .second, .val (.int (0 : Int32)), .val (.int (1 : Int32)), .val (.int (1 : Int32)), .val (.int e0_), .val (.int e1_), .val (.int e2_), .val (.ref key), .unset, .unset, .unset, .unset] [])) _
          refine XS.aload X138.here hx rfl (hb hby at_64) rfl rfl ?_
          show Steps p.tables e below (T138.setTop (mkF m 66 #[.val (.int p0), .val (.int p1), .val (.int p2), .val (.int p3), .val (.long q4), .second, .val (.int (0 : Int32)), .val (.int (1 : Int32)), .val (.int (1 : Int32)), .val (.int e0_), .val (.int e1_), .val (.int e2_), .val (.ref key), .unset, .unset, .unset, .unset] [(.ref key)])) _
          refine XS.iconst X138.here hx rfl (hb hby at_66) ?_
          show Steps p.tables e below (T138.setTop (mkF m 67 #[.val (.int p0), .val (.int p1), .val (.int p2), .val (.int p3), .val (.long q4), .second, .val (.int (0 : Int32)), .val (.int (1 : Int32)), .val (.int (1 : Int32)), .val (.int e0_), .val (.int e1_), .val (.int e2_), .val (.ref key), .unset, .unset, .unset, .unset] [(.int (0 : Int32)), (.ref key)])) _
          refine XS.iload X138.here hx rfl (hb hby at_67) rfl ?_
          exact kt
        obtain ⟨cl140, Ar140, qc140, Sz140, Mn140, Hs140, Gs140⟩ := id Hh_key
        have hin140 : ¬ ((0 : Int32) < 0 ∨ cl140.slots.size ≤ ((0 : Int32)).toNatClampNeg) := own_in Sz140 ⟨by decide, by decide⟩
        obtain ⟨T140, h140, X140, e140, W140, st140⟩ := stB X138 hx hZ e138 Ar140 (j := (0 : Int32)) hin140 (g := (mkF m 69 #[.val (.int p0), .val (.int p1), .val (.int p2), .val (.int p3), .val (.long q4), .second, .val (.int (0 : Int32)), .val (.int (1 : Int32)), .val (.int (1 : Int32)), .val (.int e0_), .val (.int e1_), .val (.int e2_), .val (.ref key), .unset, .unset, .unset, .unset] [(.int e0_), (.int (0 : Int32)), (.ref key)])) rfl rfl (hb hby at_69)
        have Hh_key_140 : Arh Z h140 key k138 .byte (1 : Int32) [((0 : Int32), (.int (nar .byte e0_)))] [] (.int (0 : Int32)) := Arh.push Ar140 qc140 Sz140 Mn140 Hs140 Gs140 (fits_nar_byte _) W140 hin140
        have Od_140 := Od_138.wr W140 g_key
        have Ex138_140 := Ex138.wr W140
        have Z_140 : n0 ≤ h140.size := Nat.le_trans Z_138 (Keep.of_wr W140).1
        have N140 := Fr.snoc X140 N0 g_key
        have Hk : Arh Z h140 key k138 .byte (1 : Int32) [((0 : Int32), (.int e0_))] [] (.int (0 : Int32)) := by have q := Hh_key_140; rw [ne0_] at q; exact q
        have st141 : ∀ target, Steps p.tables e below (T140.setTop (mkF m 104 #[.val (.int p0), .val (.int p1), .val (.int p2), .val (.int p3), .val (.long q4), .second, .val (.int (0 : Int32)), .val (.int (1 : Int32)), .val (.int (1 : Int32)), .val (.int e0_), .val (.int e1_), .val (.int e2_), .val (.ref key), .val .null, .unset, .unset, .unset] [(.int (32 : Int32))])) target → Steps p.tables e below (T140.setTop (mkF m 70 #[.val (.int p0), .val (.int p1), .val (.int p2), .val (.int p3), .val (.long q4), .second, .val (.int (0 : Int32)), .val (.int (1 : Int32)), .val (.int (1 : Int32)), .val (.int e0_), .val (.int e1_), .val (.int e2_), .val (.ref key), .unset, .unset, .unset, .unset] [])) target := by
          intro target kt
          show Steps p.tables e below (T140.setTop (mkF m 70 #[.val (.int p0), .val (.int p1), .val (.int p2), .val (.int p3), .val (.long q4), .second, .val (.int (0 : Int32)), .val (.int (1 : Int32)), .val (.int (1 : Int32)), .val (.int e0_), .val (.int e1_), .val (.int e2_), .val (.ref key), .unset, .unset, .unset, .unset] [])) _
          refine XS.iload X140.here hx rfl (hb hby at_70) rfl ?_
          show Steps p.tables e below (T140.setTop (mkF m 72 #[.val (.int p0), .val (.int p1), .val (.int p2), .val (.int p3), .val (.long q4), .second, .val (.int (0 : Int32)), .val (.int (1 : Int32)), .val (.int (1 : Int32)), .val (.int e0_), .val (.int e1_), .val (.int e2_), .val (.ref key), .unset, .unset, .unset, .unset] [(.int (1 : Int32))])) _
          refine XS.iconst X140.here hx rfl (hb hby at_72) ?_
          show Steps p.tables e below (T140.setTop (mkF m 73 #[.val (.int p0), .val (.int p1), .val (.int p2), .val (.int p3), .val (.long q4), .second, .val (.int (0 : Int32)), .val (.int (1 : Int32)), .val (.int (1 : Int32)), .val (.int e0_), .val (.int e1_), .val (.int e2_), .val (.ref key), .unset, .unset, .unset, .unset] [(.int (1 : Int32)), (.int (1 : Int32))])) _
          refine XS.icmpYes X140.here hx rfl (pc0 := 73) (pc' := 82) rfl (hb hby at_73) rfl (flt (by decide : ¬ ((1 : Int32) < (1 : Int32)))).2.2.2 (by decide) (by decide) ?_
          show Steps p.tables e below (T140.setTop (mkF m 82 #[.val (.int p0), .val (.int p1), .val (.int p2), .val (.int p3), .val (.long q4), .second, .val (.int (0 : Int32)), .val (.int (1 : Int32)), .val (.int (1 : Int32)), .val (.int e0_), .val (.int e1_), .val (.int e2_), .val (.ref key), .unset, .unset, .unset, .unset] [])) _
          refine XS.iload X140.here hx rfl (hb hby at_82) rfl ?_
          show Steps p.tables e below (T140.setTop (mkF m 84 #[.val (.int p0), .val (.int p1), .val (.int p2), .val (.int p3), .val (.long q4), .second, .val (.int (0 : Int32)), .val (.int (1 : Int32)), .val (.int (1 : Int32)), .val (.int e0_), .val (.int e1_), .val (.int e2_), .val (.ref key), .unset, .unset, .unset, .unset] [(.int (1 : Int32))])) _
          refine XS.iconst X140.here hx rfl (hb hby at_84) ?_
          show Steps p.tables e below (T140.setTop (mkF m 85 #[.val (.int p0), .val (.int p1), .val (.int p2), .val (.int p3), .val (.long q4), .second, .val (.int (0 : Int32)), .val (.int (1 : Int32)), .val (.int (1 : Int32)), .val (.int e0_), .val (.int e1_), .val (.int e2_), .val (.ref key), .unset, .unset, .unset, .unset] [(.int (2 : Int32)), (.int (1 : Int32))])) _
          refine XS.icmpYes X140.here hx rfl (pc0 := 85) (pc' := 94) rfl (hb hby at_85) rfl (flt (by decide : ¬ ((2 : Int32) < (1 : Int32)))).2.2.2 (by decide) (by decide) ?_
          show Steps p.tables e below (T140.setTop (mkF m 94 #[.val (.int p0), .val (.int p1), .val (.int p2), .val (.int p3), .val (.long q4), .second, .val (.int (0 : Int32)), .val (.int (1 : Int32)), .val (.int (1 : Int32)), .val (.int e0_), .val (.int e1_), .val (.int e2_), .val (.ref key), .unset, .unset, .unset, .unset] [])) _
          refine XS.aconstNull X140.here hx rfl (hb hby at_94) ?_
          show Steps p.tables e below (T140.setTop (mkF m 95 #[.val (.int p0), .val (.int p1), .val (.int p2), .val (.int p3), .val (.long q4), .second, .val (.int (0 : Int32)), .val (.int (1 : Int32)), .val (.int (1 : Int32)), .val (.int e0_), .val (.int e1_), .val (.int e2_), .val (.ref key), .unset, .unset, .unset, .unset] [.null])) _
          refine XS.astore X140.here hx rfl (hb hby at_95) rfl rfl (l' := #[.val (.int p0), .val (.int p1), .val (.int p2), .val (.int p3), .val (.long q4), .second, .val (.int (0 : Int32)), .val (.int (1 : Int32)), .val (.int (1 : Int32)), .val (.int e0_), .val (.int e1_), .val (.int e2_), .val (.ref key), .val .null, .unset, .unset, .unset]) rfl ?_
          show Steps p.tables e below (T140.setTop (mkF m 97 #[.val (.int p0), .val (.int p1), .val (.int p2), .val (.int p3), .val (.long q4), .second, .val (.int (0 : Int32)), .val (.int (1 : Int32)), .val (.int (1 : Int32)), .val (.int e0_), .val (.int e1_), .val (.int e2_), .val (.ref key), .val .null, .unset, .unset, .unset] [])) _
          refine XS.iload X140.here hx rfl (hb hby at_97) rfl ?_
          show Steps p.tables e below (T140.setTop (mkF m 99 #[.val (.int p0), .val (.int p1), .val (.int p2), .val (.int p3), .val (.long q4), .second, .val (.int (0 : Int32)), .val (.int (1 : Int32)), .val (.int (1 : Int32)), .val (.int e0_), .val (.int e1_), .val (.int e2_), .val (.ref key), .val .null, .unset, .unset, .unset] [(.int (1 : Int32))])) _
          refine XS.ifNo X140.here hx rfl (hb hby at_99) rfl ((if0 _ _).trans (feq (by decide : ¬ ((1 : Int32) = (0 : Int32)))).1) ?_
          show Steps p.tables e below (T140.setTop (mkF m 102 #[.val (.int p0), .val (.int p1), .val (.int p2), .val (.int p3), .val (.long q4), .second, .val (.int (0 : Int32)), .val (.int (1 : Int32)), .val (.int (1 : Int32)), .val (.int e0_), .val (.int e1_), .val (.int e2_), .val (.ref key), .val .null, .unset, .unset, .unset] [])) _
          refine XS.bipush X140.here hx rfl (hb hby at_102) ?_
          exact kt
        obtain ⟨T142, h142, k142, X142, e142, E142, A142, Ex142, st142⟩ := newPE X140 hx hZ (hw _ (List.mem_of_getElem? (i := 0) rfl)) e140 (g := (mkF m 104 #[.val (.int p0), .val (.int p1), .val (.int p2), .val (.int p3), .val (.long q4), .second, .val (.int (0 : Int32)), .val (.int (1 : Int32)), .val (.int (1 : Int32)), .val (.int e0_), .val (.int e1_), .val (.int e2_), .val (.ref key), .val .null, .unset, .unset, .unset] [(.int (32 : Int32))])) rfl (hb hby at_104) rfl (by decide) (cap := 32) (by decide) (by decide) (by decide) (by decide) (ad := "[B") (by decide)
        obtain ⟨hh, g142⟩ : ∃ z, z = h140.size := ⟨_, rfl⟩
        rw [← g142] at A142 Ex142 st142
        have g_hh : n0 ≤ hh := Nat.le_trans Z_140 (Nat.le_of_eq g142.symm)
        have ne_key_hh : key ≠ hh := Nat.ne_of_lt (Nat.lt_of_lt_of_le Ex138_140.lt (Nat.le_of_eq g142.symm))
        have Od_142 := Od_140.ext E142
        have Ex138_142 := Ex138_140.ext E142
        have Hk_142 := Hk.ext E142
        have Z_142 : n0 ≤ h142.size := Nat.le_trans Z_140 E142.1
        have Hh_hh : Arh Z h142 hh k142 .byte (32 : Int32) [] [] (.int (0 : Int32)) := Arv.arh (Arv.new A142 (by decide))
        have st143 : ∀ target, Steps p.tables e below (T142.setTop (mkF m 116 #[.val (.int p0), .val (.int p1), .val (.int p2), .val (.int p3), .val (.long q4), .second, .val (.int (0 : Int32)), .val (.int (1 : Int32)), .val (.int (1 : Int32)), .val (.int e0_), .val (.int e1_), .val (.int e2_), .val (.ref key), .val (.ref hh), .unset, .unset, .unset] [(.int ((p1 ^^^ (51 : Int32)).toInt8.toInt32)), (.int (0 : Int32)), (.ref hh)])) target → Steps p.tables e below (T142.setTop (mkF m 106 #[.val (.int p0), .val (.int p1), .val (.int p2), .val (.int p3), .val (.long q4), .second, .val (.int (0 : Int32)), .val (.int (1 : Int32)), .val (.int (1 : Int32)), .val (.int e0_), .val (.int e1_), .val (.int e2_), .val (.ref key), .val .null, .unset, .unset, .unset] [(.ref hh)])) target := by
          intro target kt
          show Steps p.tables e below (T142.setTop (mkF m 106 #[.val (.int p0), .val (.int p1), .val (.int p2), .val (.int p3), .val (.long q4), .second, .val (.int (0 : Int32)), .val (.int (1 : Int32)), .val (.int (1 : Int32)), .val (.int e0_), .val (.int e1_), .val (.int e2_), .val (.ref key), .val .null, .unset, .unset, .unset] [(.ref hh)])) _
          refine XS.astore X142.here hx rfl (hb hby at_106) rfl rfl (l' := #[.val (.int p0), .val (.int p1), .val (.int p2), .val (.int p3), .val (.long q4), .second, .val (.int (0 : Int32)), .val (.int (1 : Int32)), .val (.int (1 : Int32)), .val (.int e0_), .val (.int e1_), .val (.int e2_), .val (.ref key), .val (.ref hh), .unset, .unset, .unset]) rfl ?_
          show Steps p.tables e below (T142.setTop (mkF m 108 #[.val (.int p0), .val (.int p1), .val (.int p2), .val (.int p3), .val (.long q4), .second, .val (.int (0 : Int32)), .val (.int (1 : Int32)), .val (.int (1 : Int32)), .val (.int e0_), .val (.int e1_), .val (.int e2_), .val (.ref key), .val (.ref hh), .unset, .unset, .unset] [])) _
          refine XS.aload X142.here hx rfl (hb hby at_108) rfl rfl ?_
          show Steps p.tables e below (T142.setTop (mkF m 110 #[.val (.int p0), .val (.int p1), .val (.int p2), .val (.int p3), .val (.long q4), .second, .val (.int (0 : Int32)), .val (.int (1 : Int32)), .val (.int (1 : Int32)), .val (.int e0_), .val (.int e1_), .val (.int e2_), .val (.ref key), .val (.ref hh), .unset, .unset, .unset] [(.ref hh)])) _
          refine XS.iconst X142.here hx rfl (hb hby at_110) ?_
          show Steps p.tables e below (T142.setTop (mkF m 111 #[.val (.int p0), .val (.int p1), .val (.int p2), .val (.int p3), .val (.long q4), .second, .val (.int (0 : Int32)), .val (.int (1 : Int32)), .val (.int (1 : Int32)), .val (.int e0_), .val (.int e1_), .val (.int e2_), .val (.ref key), .val (.ref hh), .unset, .unset, .unset] [(.int (0 : Int32)), (.ref hh)])) _
          refine XS.iloadN X142.here hx rfl (hb hby at_111) rfl ?_
          show Steps p.tables e below (T142.setTop (mkF m 112 #[.val (.int p0), .val (.int p1), .val (.int p2), .val (.int p3), .val (.long q4), .second, .val (.int (0 : Int32)), .val (.int (1 : Int32)), .val (.int (1 : Int32)), .val (.int e0_), .val (.int e1_), .val (.int e2_), .val (.ref key), .val (.ref hh), .unset, .unset, .unset] [(.int p1), (.int (0 : Int32)), (.ref hh)])) _
          refine XS.bipush X142.here hx rfl (hb hby at_112) ?_
          show Steps p.tables e below (T142.setTop (mkF m 114 #[.val (.int p0), .val (.int p1), .val (.int p2), .val (.int p3), .val (.long q4), .second, .val (.int (0 : Int32)), .val (.int (1 : Int32)), .val (.int (1 : Int32)), .val (.int e0_), .val (.int e1_), .val (.int e2_), .val (.ref key), .val (.ref hh), .unset, .unset, .unset] [(.int (51 : Int32)), (.int p1), (.int (0 : Int32)), (.ref hh)])) _
          refine XS.ixor X142.here hx rfl (hb hby at_114) rfl ?_
          show Steps p.tables e below (T142.setTop (mkF m 115 #[.val (.int p0), .val (.int p1), .val (.int p2), .val (.int p3), .val (.long q4), .second, .val (.int (0 : Int32)), .val (.int (1 : Int32)), .val (.int (1 : Int32)), .val (.int e0_), .val (.int e1_), .val (.int e2_), .val (.ref key), .val (.ref hh), .unset, .unset, .unset] [(.int (p1 ^^^ (51 : Int32))), (.int (0 : Int32)), (.ref hh)])) _
          refine XS.i2b X142.here hx rfl (hb hby at_115) rfl ?_
          exact kt
        obtain ⟨cl144, Ar144, qc144, Sz144, Mn144, Hs144, Gs144⟩ := id Hh_hh
        have hin144 : ¬ ((0 : Int32) < 0 ∨ cl144.slots.size ≤ ((0 : Int32)).toNatClampNeg) := own_in Sz144 ⟨by decide, by decide⟩
        obtain ⟨T144, h144, X144, e144, W144, st144⟩ := stB X142 hx hZ e142 Ar144 (j := (0 : Int32)) hin144 (g := (mkF m 116 #[.val (.int p0), .val (.int p1), .val (.int p2), .val (.int p3), .val (.long q4), .second, .val (.int (0 : Int32)), .val (.int (1 : Int32)), .val (.int (1 : Int32)), .val (.int e0_), .val (.int e1_), .val (.int e2_), .val (.ref key), .val (.ref hh), .unset, .unset, .unset] [(.int ((p1 ^^^ (51 : Int32)).toInt8.toInt32)), (.int (0 : Int32)), (.ref hh)])) rfl rfl (hb hby at_116)
        have Hh_hh_144 : Arh Z h144 hh k142 .byte (32 : Int32) [((0 : Int32), (.int (nar .byte ((p1 ^^^ (51 : Int32)).toInt8.toInt32))))] [] (.int (0 : Int32)) := Arh.push Ar144 qc144 Sz144 Mn144 Hs144 Gs144 (fits_nar_byte _) W144 hin144
        have Od_144 := Od_142.wr W144 g_hh
        have Ex138_144 := Ex138_142.wr W144
        have Hk_144 := Hk_142.other W144 ne_key_hh
        have Ex142_144 := Ex142.wr W144
        have Z_144 : n0 ≤ h144.size := Nat.le_trans Z_142 (Keep.of_wr W144).1
        have N144 := Fr.snoc X144 N140 g_hh
        have st145 : ∀ target, Steps p.tables e below (T144.setTop (mkF m 125 #[.val (.int p0), .val (.int p1), .val (.int p2), .val (.int p3), .val (.long q4), .second, .val (.int (0 : Int32)), .val (.int (1 : Int32)), .val (.int (1 : Int32)), .val (.int e0_), .val (.int e1_), .val (.int e2_), .val (.ref key), .val (.ref hh), .unset, .unset, .unset] [(.int ((p2 ^^^ (119 : Int32)).toInt8.toInt32)), (.int (1 : Int32)), (.ref hh)])) target → Steps p.tables e below (T144.setTop (mkF m 117 #[.val (.int p0), .val (.int p1), .val (.int p2), .val (.int p3), .val (.long q4), .second, .val (.int (0 : Int32)), .val (.int (1 : Int32)), .val (.int (1 : Int32)), .val (.int e0_), .val (.int e1_), .val (.int e2_), .val (.ref key), .val (.ref hh), .unset, .unset, .unset] [])) target := by
          intro target kt
          show Steps p.tables e below (T144.setTop (mkF m 117 #[.val (.int p0), .val (.int p1), .val (.int p2), .val (.int p3), .val (.long q4), .second, .val (.int (0 : Int32)), .val (.int (1 : Int32)), .val (.int (1 : Int32)), .val (.int e0_), .val (.int e1_), .val (.int e2_), .val (.ref key), .val (.ref hh), .unset, .unset, .unset] [])) _
          refine XS.aload X144.here hx rfl (hb hby at_117) rfl rfl ?_
          show Steps p.tables e below (T144.setTop (mkF m 119 #[.val (.int p0), .val (.int p1), .val (.int p2), .val (.int p3), .val (.long q4), .second, .val (.int (0 : Int32)), .val (.int (1 : Int32)), .val (.int (1 : Int32)), .val (.int e0_), .val (.int e1_), .val (.int e2_), .val (.ref key), .val (.ref hh), .unset, .unset, .unset] [(.ref hh)])) _
          refine XS.iconst X144.here hx rfl (hb hby at_119) ?_
          show Steps p.tables e below (T144.setTop (mkF m 120 #[.val (.int p0), .val (.int p1), .val (.int p2), .val (.int p3), .val (.long q4), .second, .val (.int (0 : Int32)), .val (.int (1 : Int32)), .val (.int (1 : Int32)), .val (.int e0_), .val (.int e1_), .val (.int e2_), .val (.ref key), .val (.ref hh), .unset, .unset, .unset] [(.int (1 : Int32)), (.ref hh)])) _
          refine XS.iloadN X144.here hx rfl (hb hby at_120) rfl ?_
          show Steps p.tables e below (T144.setTop (mkF m 121 #[.val (.int p0), .val (.int p1), .val (.int p2), .val (.int p3), .val (.long q4), .second, .val (.int (0 : Int32)), .val (.int (1 : Int32)), .val (.int (1 : Int32)), .val (.int e0_), .val (.int e1_), .val (.int e2_), .val (.ref key), .val (.ref hh), .unset, .unset, .unset] [(.int p2), (.int (1 : Int32)), (.ref hh)])) _
          refine XS.bipush X144.here hx rfl (hb hby at_121) ?_
          show Steps p.tables e below (T144.setTop (mkF m 123 #[.val (.int p0), .val (.int p1), .val (.int p2), .val (.int p3), .val (.long q4), .second, .val (.int (0 : Int32)), .val (.int (1 : Int32)), .val (.int (1 : Int32)), .val (.int e0_), .val (.int e1_), .val (.int e2_), .val (.ref key), .val (.ref hh), .unset, .unset, .unset] [(.int (119 : Int32)), (.int p2), (.int (1 : Int32)), (.ref hh)])) _
          refine XS.ixor X144.here hx rfl (hb hby at_123) rfl ?_
          show Steps p.tables e below (T144.setTop (mkF m 124 #[.val (.int p0), .val (.int p1), .val (.int p2), .val (.int p3), .val (.long q4), .second, .val (.int (0 : Int32)), .val (.int (1 : Int32)), .val (.int (1 : Int32)), .val (.int e0_), .val (.int e1_), .val (.int e2_), .val (.ref key), .val (.ref hh), .unset, .unset, .unset] [(.int (p2 ^^^ (119 : Int32))), (.int (1 : Int32)), (.ref hh)])) _
          refine XS.i2b X144.here hx rfl (hb hby at_124) rfl ?_
          exact kt
        obtain ⟨cl146, Ar146, qc146, Sz146, Mn146, Hs146, Gs146⟩ := id Hh_hh_144
        have hin146 : ¬ ((1 : Int32) < 0 ∨ cl146.slots.size ≤ ((1 : Int32)).toNatClampNeg) := own_in Sz146 ⟨by decide, by decide⟩
        obtain ⟨T146, h146, X146, e146, W146, st146⟩ := stB X144 hx hZ e144 Ar146 (j := (1 : Int32)) hin146 (g := (mkF m 125 #[.val (.int p0), .val (.int p1), .val (.int p2), .val (.int p3), .val (.long q4), .second, .val (.int (0 : Int32)), .val (.int (1 : Int32)), .val (.int (1 : Int32)), .val (.int e0_), .val (.int e1_), .val (.int e2_), .val (.ref key), .val (.ref hh), .unset, .unset, .unset] [(.int ((p2 ^^^ (119 : Int32)).toInt8.toInt32)), (.int (1 : Int32)), (.ref hh)])) rfl rfl (hb hby at_125)
        have Hh_hh_146 : Arh Z h146 hh k142 .byte (32 : Int32) [((1 : Int32), (.int (nar .byte ((p2 ^^^ (119 : Int32)).toInt8.toInt32)))), ((0 : Int32), (.int (nar .byte ((p1 ^^^ (51 : Int32)).toInt8.toInt32))))] [] (.int (0 : Int32)) := Arh.push Ar146 qc146 Sz146 Mn146 Hs146 Gs146 (fits_nar_byte _) W146 hin146
        have Od_146 := Od_144.wr W146 g_hh
        have Ex138_146 := Ex138_144.wr W146
        have Hk_146 := Hk_144.other W146 ne_key_hh
        have Ex142_146 := Ex142_144.wr W146
        have Z_146 : n0 ≤ h146.size := Nat.le_trans Z_144 (Keep.of_wr W146).1
        have N146 := Fr.snoc X146 N144 g_hh
        obtain ⟨T147, h147, X147, e147, E147, A147, D147, -, st147⟩ := newO X146 hx hZ hown (hw _ (List.mem_of_getElem? (i := 1) rfl)) (hw _ (List.mem_of_getElem? (i := 2) rfl)) (hw _ (List.mem_of_getElem? (i := 3) rfl)) e146 (g := (mkF m 126 #[.val (.int p0), .val (.int p1), .val (.int p2), .val (.int p3), .val (.long q4), .second, .val (.int (0 : Int32)), .val (.int (1 : Int32)), .val (.int (1 : Int32)), .val (.int e0_), .val (.int e1_), .val (.int e2_), .val (.ref key), .val (.ref hh), .unset, .unset, .unset] [])) rfl (hb hby at_126) (by decide) (by decide)
        obtain ⟨d, g147⟩ : ∃ z, z = h146.size := ⟨_, rfl⟩
        rw [← g147] at A147 D147 st147
        have g_d : n0 ≤ d := Nat.le_trans Z_146 (Nat.le_of_eq g147.symm)
        have ne_key_d : key ≠ d := Nat.ne_of_lt (Nat.lt_of_lt_of_le Ex138_146.lt (Nat.le_of_eq g147.symm))
        have ne_hh_d : hh ≠ d := Nat.ne_of_lt (Nat.lt_of_lt_of_le Ex142_146.lt (Nat.le_of_eq g147.symm))
        have Od_147 := Od_146.ext E147
        have Ex138_147 := Ex138_146.ext E147
        have Hk_147 := Hk_146.ext E147
        have Ex142_147 := Ex142_146.ext E147
        have Hh_hh_147 := Hh_hh_146.ext E147
        have Z_147 : n0 ≤ h147.size := Nat.le_trans Z_146 E147.1
        have E_d : Exa Z h147 d "com/example/imprimatur/imprimatur/verify/DeviceValues" := A147
        have F_pkHash_d : Fld Z h147 d "com/example/imprimatur/imprimatur/verify/DeviceValues" "pkHash" "[B" .null := D147 (Or.inr (hw _ (List.mem_of_getElem? (i := 31) rfl))) (ty := (.array .byte)) (by decide)
        have F_hwId_d : Fld Z h147 d "com/example/imprimatur/imprimatur/verify/DeviceValues" "hwId" "Ljava/lang/Long;" .null := D147 (Or.inr (hw _ (List.mem_of_getElem? (i := 33) rfl))) (ty := (.object "java/lang/Long")) (by decide)
        have F_swId_d : Fld Z h147 d "com/example/imprimatur/imprimatur/verify/DeviceValues" "swId" "Ljava/lang/Long;" .null := D147 (Or.inr (hw _ (List.mem_of_getElem? (i := 35) rfl))) (ty := (.object "java/lang/Long")) (by decide)
        have F_publicKey_d : Fld Z h147 d "com/example/imprimatur/imprimatur/verify/DeviceValues" "publicKey" "[B" .null := D147 (Or.inr (hw _ (List.mem_of_getElem? (i := 46) rfl))) (ty := (.array .byte)) (by decide)
        have st148 : ∀ target, Steps p.tables e below (T147.setTop (mkF m 134 #[.val (.int p0), .val (.int p1), .val (.int p2), .val (.int p3), .val (.long q4), .second, .val (.int (0 : Int32)), .val (.int (1 : Int32)), .val (.int (1 : Int32)), .val (.int e0_), .val (.int e1_), .val (.int e2_), .val (.ref key), .val (.ref hh), .unset, .unset, .unset] [(.long q4), (.ref hh), (.ref d), (.ref d)])) target → Steps p.tables e below (T147.setTop (mkF m 129 #[.val (.int p0), .val (.int p1), .val (.int p2), .val (.int p3), .val (.long q4), .second, .val (.int (0 : Int32)), .val (.int (1 : Int32)), .val (.int (1 : Int32)), .val (.int e0_), .val (.int e1_), .val (.int e2_), .val (.ref key), .val (.ref hh), .unset, .unset, .unset] [(.ref d)])) target := by
          intro target kt
          show Steps p.tables e below (T147.setTop (mkF m 129 #[.val (.int p0), .val (.int p1), .val (.int p2), .val (.int p3), .val (.long q4), .second, .val (.int (0 : Int32)), .val (.int (1 : Int32)), .val (.int (1 : Int32)), .val (.int e0_), .val (.int e1_), .val (.int e2_), .val (.ref key), .val (.ref hh), .unset, .unset, .unset] [(.ref d)])) _
          refine XS.dup X147.here hx rfl (hb hby at_129) rfl rfl ?_
          show Steps p.tables e below (T147.setTop (mkF m 130 #[.val (.int p0), .val (.int p1), .val (.int p2), .val (.int p3), .val (.long q4), .second, .val (.int (0 : Int32)), .val (.int (1 : Int32)), .val (.int (1 : Int32)), .val (.int e0_), .val (.int e1_), .val (.int e2_), .val (.ref key), .val (.ref hh), .unset, .unset, .unset] [(.ref d), (.ref d)])) _
          refine XS.aload X147.here hx rfl (hb hby at_130) rfl rfl ?_
          show Steps p.tables e below (T147.setTop (mkF m 132 #[.val (.int p0), .val (.int p1), .val (.int p2), .val (.int p3), .val (.long q4), .second, .val (.int (0 : Int32)), .val (.int (1 : Int32)), .val (.int (1 : Int32)), .val (.int e0_), .val (.int e1_), .val (.int e2_), .val (.ref key), .val (.ref hh), .unset, .unset, .unset] [(.ref hh), (.ref d), (.ref d)])) _
          refine XS.lload X147.here hx rfl (hb hby at_132) rfl ?_
          exact kt
        obtain ⟨_, _, ⟨T149, L149, k149, n149⟩, -, X149, ⟨Lc149, hQ149, l149, y149, z149⟩, st149⟩ := Jvm.LawKit.callS X147 hx (y := (⟨"java/lang/Long", "valueOf", "(J)Ljava/lang/Long;"⟩ : MethodName)) hown (mvT hZ (hw _ (List.mem_of_getElem? (i := 4) rfl))) (mvT hZ (hw _ (List.mem_of_getElem? (i := 5) rfl))) (mvT hZ (hw _ (List.mem_of_getElem? (i := 6) rfl))) (mvT hZ (hw _ (List.mem_of_getElem? (i := 7) rfl))) (by decide) (backOf (W := 3) (rm1 l Z a0 hw [] q4 ca cc val h147 n0 Z_147 Bx Od_147 S_c) hZ (hw _ (List.mem_of_getElem? (i := 7) rfl)) (hw _ (List.mem_of_getElem? (i := 6) rfl)) (by decide) (by decide)) (g := (mkF m 134 #[.val (.int p0), .val (.int p1), .val (.int p2), .val (.int p3), .val (.long q4), .second, .val (.int (0 : Int32)), .val (.int (1 : Int32)), .val (.int (1 : Int32)), .val (.int e0_), .val (.int e1_), .val (.int e2_), .val (.ref key), .val (.ref hh), .unset, .unset, .unset] [(.long q4), (.ref hh), (.ref d), (.ref d)])) rfl (by rw [hml]; rfl) (argsL := [(.long q4)]) (rest := [(.ref hh), (.ref d), (.ref d)]) (lenOf pd_0 rfl) rfl (by show 2 * 0 + _ ≤ _; exact Nat.le_of_eq rfl) (hb hby at_134) (fun _ _ => ⟨rfl, e147, (by decide : 3 + 1 ≤ _), (by decide : 37 + 1 ≤ _)⟩)
        dsimp only [Pt.U, Pt.locs, Pt.cells, Pt.slots] at X149 l149 y149 z149 st149 hQ149
        subst l149 y149 z149
        obtain ⟨t149, rfl, Nq149, K149, Et149⟩ := hQ149
        have N149 := Fr.app N146 Nq149
        have Od_149 := Od_147.keep K149 (all0)
        have Ex138_149 := Ex138_147.keep K149
        have Hk_149 := Hk_147.keep K149 nin0
        have Ex142_149 := Ex142_147.keep K149
        have Hh_hh_149 := Hh_hh_147.keep K149 nin0
        have E_d_149 := E_d.keep K149
        have F_pkHash_d_149 := F_pkHash_d.keep K149 nin0
        have F_hwId_d_149 := F_hwId_d.keep K149 nin0
        have F_swId_d_149 := F_swId_d.keep K149 nin0
        have F_publicKey_d_149 := F_publicKey_d.keep K149 nin0
        have Z_149 : n0 ≤ T149.heap.size := Nat.le_trans Z_147 K149.1
        have st150 : ∀ target, Steps p.tables e below (T149.setTop (mkF m 140 #[.val (.int p0), .val (.int p1), .val (.int p2), .val (.int p3), .val (.long q4), .second, .val (.int (0 : Int32)), .val (.int (1 : Int32)), .val (.int (1 : Int32)), .val (.int e0_), .val (.int e1_), .val (.int e2_), .val (.ref key), .val (.ref hh), .unset, .unset, .unset] [(.ref key), .null, (.ref t149), (.ref hh), (.ref d), (.ref d)])) target → Steps p.tables e below (T149.setTop (mkF m 137 #[.val (.int p0), .val (.int p1), .val (.int p2), .val (.int p3), .val (.long q4), .second, .val (.int (0 : Int32)), .val (.int (1 : Int32)), .val (.int (1 : Int32)), .val (.int e0_), .val (.int e1_), .val (.int e2_), .val (.ref key), .val (.ref hh), .unset, .unset, .unset] [(.ref t149), (.ref hh), (.ref d), (.ref d)])) target := by
          intro target kt
          show Steps p.tables e below (T149.setTop (mkF m 137 #[.val (.int p0), .val (.int p1), .val (.int p2), .val (.int p3), .val (.long q4), .second, .val (.int (0 : Int32)), .val (.int (1 : Int32)), .val (.int (1 : Int32)), .val (.int e0_), .val (.int e1_), .val (.int e2_), .val (.ref key), .val (.ref hh), .unset, .unset, .unset] [(.ref t149), (.ref hh), (.ref d), (.ref d)])) _
          refine XS.aconstNull X149.here hx rfl (hb hby at_137) ?_
          show Steps p.tables e below (T149.setTop (mkF m 138 #[.val (.int p0), .val (.int p1), .val (.int p2), .val (.int p3), .val (.long q4), .second, .val (.int (0 : Int32)), .val (.int (1 : Int32)), .val (.int (1 : Int32)), .val (.int e0_), .val (.int e1_), .val (.int e2_), .val (.ref key), .val (.ref hh), .unset, .unset, .unset] [.null, (.ref t149), (.ref hh), (.ref d), (.ref d)])) _
          refine XS.aload X149.here hx rfl (hb hby at_138) rfl rfl ?_
          exact kt
        obtain ⟨_, _, ⟨T151, L151, k151, n151⟩, -, X151, ⟨Lc151, hQ151, l151, y151, z151⟩, st151⟩ := X149.specialBack hx (y := (⟨"com/example/imprimatur/imprimatur/verify/DeviceValues", "<init>", "([BLjava/lang/Long;Ljava/lang/Long;[B)V"⟩ : MethodName)) rfl hown (mvT hZ (hw _ (List.mem_of_getElem? (i := 26) rfl))) (mvT hZ (hw _ (List.mem_of_getElem? (i := 27) rfl))) (mvT hZ (hw _ (List.mem_of_getElem? (i := 28) rfl))) (by decide) (backOf (W := 1) (rmI11 l Z a0 hw [] d hh t149 key k142 [((1 : Int32), (.int (nar .byte ((p2 ^^^ (119 : Int32)).toInt8.toInt32)))), ((0 : Int32), (.int (nar .byte ((p1 ^^^ (51 : Int32)).toInt8.toInt32))))] k138 (1 : Int32) [((0 : Int32), (.int e0_))] T149.heap n0 Z_149 F_pkHash_d_149 F_hwId_d_149 F_swId_d_149 F_publicKey_d_149 E_d_149 g_d Hh_hh_149 Ex142_149 (Ne.symm ne_hh_d) Hk_149 Ex138_149 (Ne.symm ne_key_d) (by decide) (Ne.symm ne_key_hh)) hZ (hw _ (List.mem_of_getElem? (i := 28) rfl)) (hw _ (List.mem_of_getElem? (i := 3) rfl)) (by decide) (by decide)) (g := (mkF m 140 #[.val (.int p0), .val (.int p1), .val (.int p2), .val (.int p3), .val (.long q4), .second, .val (.int (0 : Int32)), .val (.int (1 : Int32)), .val (.int (1 : Int32)), .val (.int e0_), .val (.int e1_), .val (.int e2_), .val (.ref key), .val (.ref hh), .unset, .unset, .unset] [(.ref key), .null, (.ref t149), (.ref hh), (.ref d), (.ref d)])) rfl (by rw [hml]; rfl) (Steps.refl _) (a := d) (argsL := [(.ref hh), (.ref t149), .null, (.ref key)]) (rest := [(.ref d)]) (lenOf pd_3 rfl) rfl (by show 2 * 0 + _ ≤ _; exact Nat.le_of_eq rfl) (hb hby at_140) (fun _ _ => ⟨rfl, rfl, (by decide : 4 + 2 ≤ _), (by decide : 38 + 35 ≤ _)⟩)
        dsimp only [Pt.U, Pt.locs, Pt.cells, Pt.slots] at X151 l151 y151 z151 st151 hQ151
        subst l151 y151 z151
        obtain ⟨rfl, Nq151, K151, Ed, c, szc, Fc, Hc, Ec⟩ := hQ151
        have N151 := Fr.app N149 Nq151
        have g_c : n0 ≤ c := Nat.le_trans Z_149 szc
        have ne_key_c : key ≠ c := Nat.ne_of_lt (Nat.lt_of_lt_of_le Ex138_149.lt szc)
        have ne_hh_c : hh ≠ c := Nat.ne_of_lt (Nat.lt_of_lt_of_le Ex142_149.lt szc)
        have ne_d_c : d ≠ c := Nat.ne_of_lt (Nat.lt_of_lt_of_le E_d_149.lt szc)
        have ne_t149_c : t149 ≠ c := Nat.ne_of_lt (Nat.lt_of_lt_of_le Et149.lt szc)
        have Od_151 := Od_149.keep K151 (allS g_d (all0))
        have Ex138_151 := Ex138_149.keep K151
        have Hk_151 := Hk_149.keep K151 (ninS ne_key_d nin0)
        have Ex142_151 := Ex142_149.keep K151
        have Hh_hh_151 := Hh_hh_149.keep K151 (ninS ne_hh_d nin0)
        have E_d_151 := E_d_149.keep K151
        have Et149_151 := Et149.keep K151
        have Z_151 : n0 ≤ T151.heap.size := Nat.le_trans Z_149 K151.1
        have st152 : ∀ target, Steps p.tables e below (T151.setTop (mkF m 161 #[.val (.int p0), .val (.int p1), .val (.int p2), .val (.int p3), .val (.long q4), .second, .val (.int (0 : Int32)), .val (.int (1 : Int32)), .val (.int (1 : Int32)), .val (.int e0_), .val (.int e1_), .val (.int e2_), .val (.ref key), .val (.ref hh), .val (.ref d), .unset, .unset] [(.int (0 : Int32)), (.ref key), (.int (0 : Int32)), (.ref key)])) target → Steps p.tables e below (T151.setTop (mkF m 143 #[.val (.int p0), .val (.int p1), .val (.int p2), .val (.int p3), .val (.long q4), .second, .val (.int (0 : Int32)), .val (.int (1 : Int32)), .val (.int (1 : Int32)), .val (.int e0_), .val (.int e1_), .val (.int e2_), .val (.ref key), .val (.ref hh), .unset, .unset, .unset] [(.ref d)])) target := by
          intro target kt
          show Steps p.tables e below (T151.setTop (mkF m 143 #[.val (.int p0), .val (.int p1), .val (.int p2), .val (.int p3), .val (.long q4), .second, .val (.int (0 : Int32)), .val (.int (1 : Int32)), .val (.int (1 : Int32)), .val (.int e0_), .val (.int e1_), .val (.int e2_), .val (.ref key), .val (.ref hh), .unset, .unset, .unset] [(.ref d)])) _
          refine XS.astore X151.here hx rfl (hb hby at_143) rfl rfl (l' := #[.val (.int p0), .val (.int p1), .val (.int p2), .val (.int p3), .val (.long q4), .second, .val (.int (0 : Int32)), .val (.int (1 : Int32)), .val (.int (1 : Int32)), .val (.int e0_), .val (.int e1_), .val (.int e2_), .val (.ref key), .val (.ref hh), .val (.ref d), .unset, .unset]) rfl ?_
          show Steps p.tables e below (T151.setTop (mkF m 145 #[.val (.int p0), .val (.int p1), .val (.int p2), .val (.int p3), .val (.long q4), .second, .val (.int (0 : Int32)), .val (.int (1 : Int32)), .val (.int (1 : Int32)), .val (.int e0_), .val (.int e1_), .val (.int e2_), .val (.ref key), .val (.ref hh), .val (.ref d), .unset, .unset] [])) _
          refine XS.aload X151.here hx rfl (hb hby at_145) rfl rfl ?_
          show Steps p.tables e below (T151.setTop (mkF m 147 #[.val (.int p0), .val (.int p1), .val (.int p2), .val (.int p3), .val (.long q4), .second, .val (.int (0 : Int32)), .val (.int (1 : Int32)), .val (.int (1 : Int32)), .val (.int e0_), .val (.int e1_), .val (.int e2_), .val (.ref key), .val (.ref hh), .val (.ref d), .unset, .unset] [(.ref key)])) _
          refine XS.ifnullNo X151.here hx rfl (hb hby at_147) rfl ?_
          show Steps p.tables e below (T151.setTop (mkF m 150 #[.val (.int p0), .val (.int p1), .val (.int p2), .val (.int p3), .val (.long q4), .second, .val (.int (0 : Int32)), .val (.int (1 : Int32)), .val (.int (1 : Int32)), .val (.int e0_), .val (.int e1_), .val (.int e2_), .val (.ref key), .val (.ref hh), .val (.ref d), .unset, .unset] [])) _
          refine XS.iload X151.here hx rfl (hb hby at_150) rfl ?_
          show Steps p.tables e below (T151.setTop (mkF m 152 #[.val (.int p0), .val (.int p1), .val (.int p2), .val (.int p3), .val (.long q4), .second, .val (.int (0 : Int32)), .val (.int (1 : Int32)), .val (.int (1 : Int32)), .val (.int e0_), .val (.int e1_), .val (.int e2_), .val (.ref key), .val (.ref hh), .val (.ref d), .unset, .unset] [(.int (1 : Int32))])) _
          refine XS.ifNo X151.here hx rfl (hb hby at_152) rfl ((if0 _ _).trans (tlt (by decide : ((0 : Int32) < (1 : Int32)))).2.2.2) ?_
          show Steps p.tables e below (T151.setTop (mkF m 155 #[.val (.int p0), .val (.int p1), .val (.int p2), .val (.int p3), .val (.long q4), .second, .val (.int (0 : Int32)), .val (.int (1 : Int32)), .val (.int (1 : Int32)), .val (.int e0_), .val (.int e1_), .val (.int e2_), .val (.ref key), .val (.ref hh), .val (.ref d), .unset, .unset] [])) _
          refine XS.aload X151.here hx rfl (hb hby at_155) rfl rfl ?_
          show Steps p.tables e below (T151.setTop (mkF m 157 #[.val (.int p0), .val (.int p1), .val (.int p2), .val (.int p3), .val (.long q4), .second, .val (.int (0 : Int32)), .val (.int (1 : Int32)), .val (.int (1 : Int32)), .val (.int e0_), .val (.int e1_), .val (.int e2_), .val (.ref key), .val (.ref hh), .val (.ref d), .unset, .unset] [(.ref key)])) _
          refine XS.iconst X151.here hx rfl (hb hby at_157) ?_
          show Steps p.tables e below (T151.setTop (mkF m 158 #[.val (.int p0), .val (.int p1), .val (.int p2), .val (.int p3), .val (.long q4), .second, .val (.int (0 : Int32)), .val (.int (1 : Int32)), .val (.int (1 : Int32)), .val (.int e0_), .val (.int e1_), .val (.int e2_), .val (.ref key), .val (.ref hh), .val (.ref d), .unset, .unset] [(.int (0 : Int32)), (.ref key)])) _
          refine XS.aload X151.here hx rfl (hb hby at_158) rfl rfl ?_
          show Steps p.tables e below (T151.setTop (mkF m 160 #[.val (.int p0), .val (.int p1), .val (.int p2), .val (.int p3), .val (.long q4), .second, .val (.int (0 : Int32)), .val (.int (1 : Int32)), .val (.int (1 : Int32)), .val (.int e0_), .val (.int e1_), .val (.int e2_), .val (.ref key), .val (.ref hh), .val (.ref d), .unset, .unset] [(.ref key), (.int (0 : Int32)), (.ref key)])) _
          refine XS.iconst X151.here hx rfl (hb hby at_160) ?_
          exact kt
        obtain ⟨cl153, Ar153, qc153, Sz153, Mn153, Hs153, Gs153⟩ := id Hk_151
        have hin153 : ¬ ((0 : Int32) < 0 ∨ cl153.slots.size ≤ ((0 : Int32)).toNatClampNeg) := own_in Sz153 ⟨by decide, by decide⟩
        have hat153 : cl153.slots[((0 : Int32)).toNatClampNeg]? = some (.int e0_) := atH Hs153 hin153 rfl
        have st154 : ∀ target, Steps p.tables e below (T151.setTop (mkF m 162 #[.val (.int p0), .val (.int p1), .val (.int p2), .val (.int p3), .val (.long q4), .second, .val (.int (0 : Int32)), .val (.int (1 : Int32)), .val (.int (1 : Int32)), .val (.int e0_), .val (.int e1_), .val (.int e2_), .val (.ref key), .val (.ref hh), .val (.ref d), .unset, .unset] [(.int e0_), (.int (0 : Int32)), (.ref key)])) target → Steps p.tables e below (T151.setTop (mkF m 161 #[.val (.int p0), .val (.int p1), .val (.int p2), .val (.int p3), .val (.long q4), .second, .val (.int (0 : Int32)), .val (.int (1 : Int32)), .val (.int (1 : Int32)), .val (.int e0_), .val (.int e1_), .val (.int e2_), .val (.ref key), .val (.ref hh), .val (.ref d), .unset, .unset] [(.int (0 : Int32)), (.ref key), (.int (0 : Int32)), (.ref key)])) target := fun target kt => X151.baloadBytes hx (j := (0 : Int32)) (v := (.int e0_)) Ar153.1 (State.isArrayOf_alike hZ.alike Ar153.2.1) Ar153.2.2 hin153 hat153 (g := (mkF m 161 #[.val (.int p0), .val (.int p1), .val (.int p2), .val (.int p3), .val (.long q4), .second, .val (.int (0 : Int32)), .val (.int (1 : Int32)), .val (.int (1 : Int32)), .val (.int e0_), .val (.int e1_), .val (.int e2_), .val (.ref key), .val (.ref hh), .val (.ref d), .unset, .unset] [(.int (0 : Int32)), (.ref key), (.int (0 : Int32)), (.ref key)])) rfl rfl (hb hby at_161) _ kt
        have st155 : ∀ target, Steps p.tables e below (T151.setTop (mkF m 166 #[.val (.int p0), .val (.int p1), .val (.int p2), .val (.int p3), .val (.long q4), .second, .val (.int (0 : Int32)), .val (.int (1 : Int32)), .val (.int (1 : Int32)), .val (.int e0_), .val (.int e1_), .val (.int e2_), .val (.ref key), .val (.ref hh), .val (.ref d), .unset, .unset] [(.int ((e0_ ^^^ (90 : Int32)).toInt8.toInt32)), (.int (0 : Int32)), (.ref key)])) target → Steps p.tables e below (T151.setTop (mkF m 162 #[.val (.int p0), .val (.int p1), .val (.int p2), .val (.int p3), .val (.long q4), .second, .val (.int (0 : Int32)), .val (.int (1 : Int32)), .val (.int (1 : Int32)), .val (.int e0_), .val (.int e1_), .val (.int e2_), .val (.ref key), .val (.ref hh), .val (.ref d), .unset, .unset] [(.int e0_), (.int (0 : Int32)), (.ref key)])) target := by
          intro target kt
          show Steps p.tables e below (T151.setTop (mkF m 162 #[.val (.int p0), .val (.int p1), .val (.int p2), .val (.int p3), .val (.long q4), .second, .val (.int (0 : Int32)), .val (.int (1 : Int32)), .val (.int (1 : Int32)), .val (.int e0_), .val (.int e1_), .val (.int e2_), .val (.ref key), .val (.ref hh), .val (.ref d), .unset, .unset] [(.int e0_), (.int (0 : Int32)), (.ref key)])) _
          refine XS.bipush X151.here hx rfl (hb hby at_162) ?_
          show Steps p.tables e below (T151.setTop (mkF m 164 #[.val (.int p0), .val (.int p1), .val (.int p2), .val (.int p3), .val (.long q4), .second, .val (.int (0 : Int32)), .val (.int (1 : Int32)), .val (.int (1 : Int32)), .val (.int e0_), .val (.int e1_), .val (.int e2_), .val (.ref key), .val (.ref hh), .val (.ref d), .unset, .unset] [(.int (90 : Int32)), (.int e0_), (.int (0 : Int32)), (.ref key)])) _
          refine XS.ixor X151.here hx rfl (hb hby at_164) rfl ?_
          show Steps p.tables e below (T151.setTop (mkF m 165 #[.val (.int p0), .val (.int p1), .val (.int p2), .val (.int p3), .val (.long q4), .second, .val (.int (0 : Int32)), .val (.int (1 : Int32)), .val (.int (1 : Int32)), .val (.int e0_), .val (.int e1_), .val (.int e2_), .val (.ref key), .val (.ref hh), .val (.ref d), .unset, .unset] [(.int (e0_ ^^^ (90 : Int32))), (.int (0 : Int32)), (.ref key)])) _
          refine XS.i2b X151.here hx rfl (hb hby at_165) rfl ?_
          exact kt
        obtain ⟨cl156, Ar156, qc156, Sz156, Mn156, Hs156, Gs156⟩ := id Hk_151
        have hin156 : ¬ ((0 : Int32) < 0 ∨ cl156.slots.size ≤ ((0 : Int32)).toNatClampNeg) := own_in Sz156 ⟨by decide, by decide⟩
        obtain ⟨T156, h156, X156, e156, W156, st156⟩ := stB X151 hx hZ rfl Ar156 (j := (0 : Int32)) hin156 (g := (mkF m 166 #[.val (.int p0), .val (.int p1), .val (.int p2), .val (.int p3), .val (.long q4), .second, .val (.int (0 : Int32)), .val (.int (1 : Int32)), .val (.int (1 : Int32)), .val (.int e0_), .val (.int e1_), .val (.int e2_), .val (.ref key), .val (.ref hh), .val (.ref d), .unset, .unset] [(.int ((e0_ ^^^ (90 : Int32)).toInt8.toInt32)), (.int (0 : Int32)), (.ref key)])) rfl rfl (hb hby at_166)
        have Hh_key_156 : Arh Z h156 key k138 .byte (1 : Int32) [((0 : Int32), (.int (nar .byte ((e0_ ^^^ (90 : Int32)).toInt8.toInt32)))), ((0 : Int32), (.int e0_))] [] (.int (0 : Int32)) := Arh.push Ar156 qc156 Sz156 Mn156 Hs156 Gs156 (fits_nar_byte _) W156 hin156
        have Od_156 := Od_151.wr W156 g_key
        have Ex138_156 := Ex138_151.wr W156
        have Ex142_156 := Ex142_151.wr W156
        have Hh_hh_156 := Hh_hh_151.other W156 (Ne.symm ne_key_hh)
        have Ed_156 := Ed.wr W156
        have Et149_156 := Et149_151.wr W156
        have Fc_156 := Fc.other W156 (Or.inl (Ne.symm ne_key_d))
        have Hc_156 := Hc.other W156 (Ne.symm ne_key_c)
        have Ec_156 := Ec.wr W156
        have Z_156 : n0 ≤ h156.size := Nat.le_trans Z_151 (Keep.of_wr W156).1
        have N156 := Fr.snoc X156 N151 g_key
        have st157 : ∀ target, Steps p.tables e below (T156.setTop (mkF m 169 #[.val (.int p0), .val (.int p1), .val (.int p2), .val (.int p3), .val (.long q4), .second, .val (.int (0 : Int32)), .val (.int (1 : Int32)), .val (.int (1 : Int32)), .val (.int e0_), .val (.int e1_), .val (.int e2_), .val (.ref key), .val (.ref hh), .val (.ref d), .unset, .unset] [(.ref d)])) target → Steps p.tables e below (T156.setTop (mkF m 167 #[.val (.int p0), .val (.int p1), .val (.int p2), .val (.int p3), .val (.long q4), .second, .val (.int (0 : Int32)), .val (.int (1 : Int32)), .val (.int (1 : Int32)), .val (.int e0_), .val (.int e1_), .val (.int e2_), .val (.ref key), .val (.ref hh), .val (.ref d), .unset, .unset] [])) target := by
          intro target kt
          show Steps p.tables e below (T156.setTop (mkF m 167 #[.val (.int p0), .val (.int p1), .val (.int p2), .val (.int p3), .val (.long q4), .second, .val (.int (0 : Int32)), .val (.int (1 : Int32)), .val (.int (1 : Int32)), .val (.int e0_), .val (.int e1_), .val (.int e2_), .val (.ref key), .val (.ref hh), .val (.ref d), .unset, .unset] [])) _
          refine XS.aload X156.here hx rfl (hb hby at_167) rfl rfl ?_
          exact kt
        obtain ⟨cq158, kq158, qv158a, qv158b, qv158c⟩ := isOf hZ e156 Ed_156
        obtain ⟨_, _, ⟨T158, L158, k158, n158⟩, -, X158, ⟨Lc158, hQ158, l158, y158, z158⟩, st158⟩ := X156.virtualBack hx (y := (⟨"com/example/imprimatur/imprimatur/verify/DeviceValues", "publicKey", "()[B"⟩ : MethodName)) (z := (⟨"com/example/imprimatur/imprimatur/verify/DeviceValues", "publicKey", "()[B"⟩ : MethodName)) hown (mvT hZ (hw _ (List.mem_of_getElem? (i := 47) rfl))) (mvT hZ (hw _ (List.mem_of_getElem? (i := 48) rfl))) (notFace_of_selects (args := #[]) (mvT hZ (hw _ (List.mem_of_getElem? (i := 50) rfl)))) (mvT hZ (hw _ (List.mem_of_getElem? (i := 50) rfl))) (mvT hZ (hw _ (List.mem_of_getElem? (i := 49) rfl))) (by decide) (backOf (W := 0) (rm_publicKey l Z a0 hw [] d c k138 (1 : Int32) [((0 : Int32), (.int e0_))] h156 n0 Z_156 Fc_156 Hc_156 Ec_156 (by decide)) hZ (hw _ (List.mem_of_getElem? (i := 51) rfl)) (hw _ (List.mem_of_getElem? (i := 3) rfl)) (by decide) (by decide)) qv158a qv158c (g := (mkF m 169 #[.val (.int p0), .val (.int p1), .val (.int p2), .val (.int p3), .val (.long q4), .second, .val (.int (0 : Int32)), .val (.int (1 : Int32)), .val (.int (1 : Int32)), .val (.int e0_), .val (.int e1_), .val (.int e2_), .val (.ref key), .val (.ref hh), .val (.ref d), .unset, .unset] [(.ref d)])) rfl (by rw [hml]; rfl) (Steps.refl _) (argsL := []) (rest := []) (lenOf pd_5 rfl) rfl (by show 2 * 0 + _ ≤ _; exact Nat.le_of_eq rfl) (hb hby at_169) (fun _ _ => ⟨rfl, e156, (by decide : 6 + 1 ≤ _), (by decide : 73 + 3 ≤ _)⟩)
        dsimp only [Pt.U, Pt.locs, Pt.cells, Pt.slots] at X158 l158 y158 z158 st158 hQ158
        subst l158 y158 z158
        obtain ⟨c2_158, rfl, Nq158, K158, sz158, Hr1, Er1⟩ := hQ158
        have N158 := Fr.app N156 Nq158
        have g_c2_158 : n0 ≤ c2_158 := Nat.le_trans Z_156 sz158
        have ne_key_c2_158 : key ≠ c2_158 := Nat.ne_of_lt (Nat.lt_of_lt_of_le Ex138_156.lt sz158)
        have ne_hh_c2_158 : hh ≠ c2_158 := Nat.ne_of_lt (Nat.lt_of_lt_of_le Ex142_156.lt sz158)
        have ne_d_c2_158 : d ≠ c2_158 := Nat.ne_of_lt (Nat.lt_of_lt_of_le Ed_156.lt sz158)
        have ne_t149_c2_158 : t149 ≠ c2_158 := Nat.ne_of_lt (Nat.lt_of_lt_of_le Et149_156.lt sz158)
        have ne_c_c2_158 : c ≠ c2_158 := Nat.ne_of_lt (Nat.lt_of_lt_of_le Hc_156.lt sz158)
        have Od_158 := Od_156.keep K158 (all0)
        have Ex138_158 := Ex138_156.keep K158
        have Ex142_158 := Ex142_156.keep K158
        have Hh_hh_158 := Hh_hh_156.keep K158 nin0
        have Ed_158 := Ed_156.keep K158
        have Et149_158 := Et149_156.keep K158
        have Fc_158 := Fc_156.keep K158 nin0
        have Hc_158 := Hc_156.keep K158 nin0
        have Ec_158 := Ec_156.keep K158
        have Hh_key_158 := Hh_key_156.keep K158 nin0
        have Z_158 : n0 ≤ T158.heap.size := Nat.le_trans Z_156 K158.1
        have st159 : ∀ target, Steps p.tables e below (T158.setTop (mkF m 200 #[.val (.int p0), .val (.int p1), .val (.int p2), .val (.int p3), .val (.long q4), .second, .val (.int (0 : Int32)), .val (.int (1 : Int32)), .val (.int (1 : Int32)), .val (.int e0_), .val (.int e1_), .val (.int e2_), .val (.ref key), .val (.ref hh), .val (.ref d), .val (.ref c2_158), .unset] [(.int e2_), (.int e1_), (.int e0_), (.int (1 : Int32)), (.ref c2_158)])) target → Steps p.tables e below (T158.setTop (mkF m 172 #[.val (.int p0), .val (.int p1), .val (.int p2), .val (.int p3), .val (.long q4), .second, .val (.int (0 : Int32)), .val (.int (1 : Int32)), .val (.int (1 : Int32)), .val (.int e0_), .val (.int e1_), .val (.int e2_), .val (.ref key), .val (.ref hh), .val (.ref d), .unset, .unset] [(.ref c2_158)])) target := by
          intro target kt
          show Steps p.tables e below (T158.setTop (mkF m 172 #[.val (.int p0), .val (.int p1), .val (.int p2), .val (.int p3), .val (.long q4), .second, .val (.int (0 : Int32)), .val (.int (1 : Int32)), .val (.int (1 : Int32)), .val (.int e0_), .val (.int e1_), .val (.int e2_), .val (.ref key), .val (.ref hh), .val (.ref d), .unset, .unset] [(.ref c2_158)])) _
          refine XS.astore X158.here hx rfl (hb hby at_172) rfl rfl (l' := #[.val (.int p0), .val (.int p1), .val (.int p2), .val (.int p3), .val (.long q4), .second, .val (.int (0 : Int32)), .val (.int (1 : Int32)), .val (.int (1 : Int32)), .val (.int e0_), .val (.int e1_), .val (.int e2_), .val (.ref key), .val (.ref hh), .val (.ref d), .val (.ref c2_158), .unset]) rfl ?_
          show Steps p.tables e below (T158.setTop (mkF m 174 #[.val (.int p0), .val (.int p1), .val (.int p2), .val (.int p3), .val (.long q4), .second, .val (.int (0 : Int32)), .val (.int (1 : Int32)), .val (.int (1 : Int32)), .val (.int e0_), .val (.int e1_), .val (.int e2_), .val (.ref key), .val (.ref hh), .val (.ref d), .val (.ref c2_158), .unset] [])) _
          refine XS.iload X158.here hx rfl (hb hby at_174) rfl ?_
          show Steps p.tables e below (T158.setTop (mkF m 176 #[.val (.int p0), .val (.int p1), .val (.int p2), .val (.int p3), .val (.long q4), .second, .val (.int (0 : Int32)), .val (.int (1 : Int32)), .val (.int (1 : Int32)), .val (.int e0_), .val (.int e1_), .val (.int e2_), .val (.ref key), .val (.ref hh), .val (.ref d), .val (.ref c2_158), .unset] [(.int (0 : Int32))])) _
          refine XS.ifYes X158.here hx rfl (pc0 := 176) (pc' := 190) rfl (hb hby at_176) rfl ((if0 _ _).trans (teq (rfl : (0 : Int32) = (0 : Int32))).1) (by decide) (by decide) ?_
          show Steps p.tables e below (T158.setTop (mkF m 190 #[.val (.int p0), .val (.int p1), .val (.int p2), .val (.int p3), .val (.long q4), .second, .val (.int (0 : Int32)), .val (.int (1 : Int32)), .val (.int (1 : Int32)), .val (.int e0_), .val (.int e1_), .val (.int e2_), .val (.ref key), .val (.ref hh), .val (.ref d), .val (.ref c2_158), .unset] [])) _
          refine XS.aload X158.here hx rfl (hb hby at_190) rfl rfl ?_
          show Steps p.tables e below (T158.setTop (mkF m 192 #[.val (.int p0), .val (.int p1), .val (.int p2), .val (.int p3), .val (.long q4), .second, .val (.int (0 : Int32)), .val (.int (1 : Int32)), .val (.int (1 : Int32)), .val (.int e0_), .val (.int e1_), .val (.int e2_), .val (.ref key), .val (.ref hh), .val (.ref d), .val (.ref c2_158), .unset] [(.ref c2_158)])) _
          refine XS.iload X158.here hx rfl (hb hby at_192) rfl ?_
          show Steps p.tables e below (T158.setTop (mkF m 194 #[.val (.int p0), .val (.int p1), .val (.int p2), .val (.int p3), .val (.long q4), .second, .val (.int (0 : Int32)), .val (.int (1 : Int32)), .val (.int (1 : Int32)), .val (.int e0_), .val (.int e1_), .val (.int e2_), .val (.ref key), .val (.ref hh), .val (.ref d), .val (.ref c2_158), .unset] [(.int (1 : Int32)), (.ref c2_158)])) _
          refine XS.iload X158.here hx rfl (hb hby at_194) rfl ?_
          show Steps p.tables e below (T158.setTop (mkF m 196 #[.val (.int p0), .val (.int p1), .val (.int p2), .val (.int p3), .val (.long q4), .second, .val (.int (0 : Int32)), .val (.int (1 : Int32)), .val (.int (1 : Int32)), .val (.int e0_), .val (.int e1_), .val (.int e2_), .val (.ref key), .val (.ref hh), .val (.ref d), .val (.ref c2_158), .unset] [(.int e0_), (.int (1 : Int32)), (.ref c2_158)])) _
          refine XS.iload X158.here hx rfl (hb hby at_196) rfl ?_
          show Steps p.tables e below (T158.setTop (mkF m 198 #[.val (.int p0), .val (.int p1), .val (.int p2), .val (.int p3), .val (.long q4), .second, .val (.int (0 : Int32)), .val (.int (1 : Int32)), .val (.int (1 : Int32)), .val (.int e0_), .val (.int e1_), .val (.int e2_), .val (.ref key), .val (.ref hh), .val (.ref d), .val (.ref c2_158), .unset] [(.int e1_), (.int e0_), (.int (1 : Int32)), (.ref c2_158)])) _
          refine XS.iload X158.here hx rfl (hb hby at_198) rfl ?_
          exact kt
        obtain ⟨_, _, ⟨T160, L160, k160, n160⟩, -, X160, ⟨Lc160, hQ160, l160, y160, z160⟩, st160⟩ := Jvm.LawKit.callS X158 hx (y := (⟨"com/example/imprimatur/imprimatur/verify/DeviceValuesPublicKeyPinLaw", "same", "([BIBBB)Z"⟩ : MethodName)) hown (mvT hZ (hw _ (List.mem_of_getElem? (i := 52) rfl))) (mvT hZ (hw _ (List.mem_of_getElem? (i := 53) rfl))) (mvT hZ (hw _ (List.mem_of_getElem? (i := 54) rfl))) (mvT hZ (hw _ (List.mem_of_getElem? (i := 55) rfl))) (by decide) (backOf (W := 0) (rmS1 l Z a0 hw [] c2_158 e0_ e1_ e2_ k138 [((0 : Int32), (.int e0_))] T158.heap n0 Z_158 Hr1 rfl) hZ (hw _ (List.mem_of_getElem? (i := 55) rfl)) (hw _ (List.mem_of_getElem? (i := 54) rfl)) (by decide) (by decide)) (g := (mkF m 200 #[.val (.int p0), .val (.int p1), .val (.int p2), .val (.int p3), .val (.long q4), .second, .val (.int (0 : Int32)), .val (.int (1 : Int32)), .val (.int (1 : Int32)), .val (.int e0_), .val (.int e1_), .val (.int e2_), .val (.ref key), .val (.ref hh), .val (.ref d), .val (.ref c2_158), .unset] [(.int e2_), (.int e1_), (.int e0_), (.int (1 : Int32)), (.ref c2_158)])) rfl (by rw [hml]; rfl) (argsL := [(.ref c2_158), (.int (1 : Int32)), (.int e0_), (.int e1_), (.int e2_)]) (rest := []) (lenOf pd_6 rfl) rfl (by show 2 * 0 + _ ≤ _; exact Nat.le_of_eq rfl) (hb hby at_200) (fun _ _ => ⟨rfl, rfl, (by decide : 7 + 0 ≤ _), (by decide : 76 + 0 ≤ _)⟩)
        dsimp only [Pt.U, Pt.locs, Pt.cells, Pt.slots] at X160 l160 y160 z160 st160 hQ160
        subst l160 y160 z160
        obtain ⟨rfl, Nq160, e160⟩ := hQ160
        have N160 := Fr.app N158 Nq160
        have st161 : ∀ target, Steps p.tables e below (T160.setTop (mkF m 219 #[.val (.int p0), .val (.int p1), .val (.int p2), .val (.int p3), .val (.long q4), .second, .val (.int (0 : Int32)), .val (.int (1 : Int32)), .val (.int (1 : Int32)), .val (.int e0_), .val (.int e1_), .val (.int e2_), .val (.ref key), .val (.ref hh), .val (.ref d), .val (.ref c2_158), .unset] [(.int (0 : Int32)), (.ref c2_158), (.int (0 : Int32)), (.ref c2_158)])) target → Steps p.tables e below (T160.setTop (mkF m 203 #[.val (.int p0), .val (.int p1), .val (.int p2), .val (.int p3), .val (.long q4), .second, .val (.int (0 : Int32)), .val (.int (1 : Int32)), .val (.int (1 : Int32)), .val (.int e0_), .val (.int e1_), .val (.int e2_), .val (.ref key), .val (.ref hh), .val (.ref d), .val (.ref c2_158), .unset] [(.int (1 : Int32))])) target := by
          intro target kt
          show Steps p.tables e below (T160.setTop (mkF m 203 #[.val (.int p0), .val (.int p1), .val (.int p2), .val (.int p3), .val (.long q4), .second, .val (.int (0 : Int32)), .val (.int (1 : Int32)), .val (.int (1 : Int32)), .val (.int e0_), .val (.int e1_), .val (.int e2_), .val (.ref key), .val (.ref hh), .val (.ref d), .val (.ref c2_158), .unset] [(.int (1 : Int32))])) _
          refine XS.ifYes X160.here hx rfl (pc0 := 203) (pc' := 208) rfl (hb hby at_203) rfl ((if0 _ _).trans (feq (by decide : ¬ ((1 : Int32) = (0 : Int32)))).2) (by decide) (by decide) ?_
          show Steps p.tables e below (T160.setTop (mkF m 208 #[.val (.int p0), .val (.int p1), .val (.int p2), .val (.int p3), .val (.long q4), .second, .val (.int (0 : Int32)), .val (.int (1 : Int32)), .val (.int (1 : Int32)), .val (.int e0_), .val (.int e1_), .val (.int e2_), .val (.ref key), .val (.ref hh), .val (.ref d), .val (.ref c2_158), .unset] [])) _
          refine XS.iload X160.here hx rfl (hb hby at_208) rfl ?_
          show Steps p.tables e below (T160.setTop (mkF m 210 #[.val (.int p0), .val (.int p1), .val (.int p2), .val (.int p3), .val (.long q4), .second, .val (.int (0 : Int32)), .val (.int (1 : Int32)), .val (.int (1 : Int32)), .val (.int e0_), .val (.int e1_), .val (.int e2_), .val (.ref key), .val (.ref hh), .val (.ref d), .val (.ref c2_158), .unset] [(.int (1 : Int32))])) _
          refine XS.ifNo X160.here hx rfl (hb hby at_210) rfl ((if0 _ _).trans (tlt (by decide : ((0 : Int32) < (1 : Int32)))).2.2.2) ?_
          show Steps p.tables e below (T160.setTop (mkF m 213 #[.val (.int p0), .val (.int p1), .val (.int p2), .val (.int p3), .val (.long q4), .second, .val (.int (0 : Int32)), .val (.int (1 : Int32)), .val (.int (1 : Int32)), .val (.int e0_), .val (.int e1_), .val (.int e2_), .val (.ref key), .val (.ref hh), .val (.ref d), .val (.ref c2_158), .unset] [])) _
          refine XS.aload X160.here hx rfl (hb hby at_213) rfl rfl ?_
          show Steps p.tables e below (T160.setTop (mkF m 215 #[.val (.int p0), .val (.int p1), .val (.int p2), .val (.int p3), .val (.long q4), .second, .val (.int (0 : Int32)), .val (.int (1 : Int32)), .val (.int (1 : Int32)), .val (.int e0_), .val (.int e1_), .val (.int e2_), .val (.ref key), .val (.ref hh), .val (.ref d), .val (.ref c2_158), .unset] [(.ref c2_158)])) _
          refine XS.iconst X160.here hx rfl (hb hby at_215) ?_
          show Steps p.tables e below (T160.setTop (mkF m 216 #[.val (.int p0), .val (.int p1), .val (.int p2), .val (.int p3), .val (.long q4), .second, .val (.int (0 : Int32)), .val (.int (1 : Int32)), .val (.int (1 : Int32)), .val (.int e0_), .val (.int e1_), .val (.int e2_), .val (.ref key), .val (.ref hh), .val (.ref d), .val (.ref c2_158), .unset] [(.int (0 : Int32)), (.ref c2_158)])) _
          refine XS.aload X160.here hx rfl (hb hby at_216) rfl rfl ?_
          show Steps p.tables e below (T160.setTop (mkF m 218 #[.val (.int p0), .val (.int p1), .val (.int p2), .val (.int p3), .val (.long q4), .second, .val (.int (0 : Int32)), .val (.int (1 : Int32)), .val (.int (1 : Int32)), .val (.int e0_), .val (.int e1_), .val (.int e2_), .val (.ref key), .val (.ref hh), .val (.ref d), .val (.ref c2_158), .unset] [(.ref c2_158), (.int (0 : Int32)), (.ref c2_158)])) _
          refine XS.iconst X160.here hx rfl (hb hby at_218) ?_
          exact kt
        obtain ⟨cl162, Ar162, qc162, Sz162, Mn162, Hs162, Gs162⟩ := id Hr1
        have hin162 : ¬ ((0 : Int32) < 0 ∨ cl162.slots.size ≤ ((0 : Int32)).toNatClampNeg) := own_in Sz162 ⟨by decide, by decide⟩
        have hat162 : cl162.slots[((0 : Int32)).toNatClampNeg]? = some (.int e0_) := atH Hs162 hin162 rfl
        have st163 : ∀ target, Steps p.tables e below (T160.setTop (mkF m 220 #[.val (.int p0), .val (.int p1), .val (.int p2), .val (.int p3), .val (.long q4), .second, .val (.int (0 : Int32)), .val (.int (1 : Int32)), .val (.int (1 : Int32)), .val (.int e0_), .val (.int e1_), .val (.int e2_), .val (.ref key), .val (.ref hh), .val (.ref d), .val (.ref c2_158), .unset] [(.int e0_), (.int (0 : Int32)), (.ref c2_158)])) target → Steps p.tables e below (T160.setTop (mkF m 219 #[.val (.int p0), .val (.int p1), .val (.int p2), .val (.int p3), .val (.long q4), .second, .val (.int (0 : Int32)), .val (.int (1 : Int32)), .val (.int (1 : Int32)), .val (.int e0_), .val (.int e1_), .val (.int e2_), .val (.ref key), .val (.ref hh), .val (.ref d), .val (.ref c2_158), .unset] [(.int (0 : Int32)), (.ref c2_158), (.int (0 : Int32)), (.ref c2_158)])) target := fun target kt => X160.baloadBytes hx (j := (0 : Int32)) (v := (.int e0_)) (by rw [e160]; exact Ar162.1) (State.isArrayOf_alike hZ.alike Ar162.2.1) Ar162.2.2 hin162 hat162 (g := (mkF m 219 #[.val (.int p0), .val (.int p1), .val (.int p2), .val (.int p3), .val (.long q4), .second, .val (.int (0 : Int32)), .val (.int (1 : Int32)), .val (.int (1 : Int32)), .val (.int e0_), .val (.int e1_), .val (.int e2_), .val (.ref key), .val (.ref hh), .val (.ref d), .val (.ref c2_158), .unset] [(.int (0 : Int32)), (.ref c2_158), (.int (0 : Int32)), (.ref c2_158)])) rfl rfl (hb hby at_219) _ kt
        have st164 : ∀ target, Steps p.tables e below (T160.setTop (mkF m 223 #[.val (.int p0), .val (.int p1), .val (.int p2), .val (.int p3), .val (.long q4), .second, .val (.int (0 : Int32)), .val (.int (1 : Int32)), .val (.int (1 : Int32)), .val (.int e0_), .val (.int e1_), .val (.int e2_), .val (.ref key), .val (.ref hh), .val (.ref d), .val (.ref c2_158), .unset] [(.int ((e0_ ^^^ (1 : Int32)).toInt8.toInt32)), (.int (0 : Int32)), (.ref c2_158)])) target → Steps p.tables e below (T160.setTop (mkF m 220 #[.val (.int p0), .val (.int p1), .val (.int p2), .val (.int p3), .val (.long q4), .second, .val (.int (0 : Int32)), .val (.int (1 : Int32)), .val (.int (1 : Int32)), .val (.int e0_), .val (.int e1_), .val (.int e2_), .val (.ref key), .val (.ref hh), .val (.ref d), .val (.ref c2_158), .unset] [(.int e0_), (.int (0 : Int32)), (.ref c2_158)])) target := by
          intro target kt
          show Steps p.tables e below (T160.setTop (mkF m 220 #[.val (.int p0), .val (.int p1), .val (.int p2), .val (.int p3), .val (.long q4), .second, .val (.int (0 : Int32)), .val (.int (1 : Int32)), .val (.int (1 : Int32)), .val (.int e0_), .val (.int e1_), .val (.int e2_), .val (.ref key), .val (.ref hh), .val (.ref d), .val (.ref c2_158), .unset] [(.int e0_), (.int (0 : Int32)), (.ref c2_158)])) _
          refine XS.iconst X160.here hx rfl (hb hby at_220) ?_
          show Steps p.tables e below (T160.setTop (mkF m 221 #[.val (.int p0), .val (.int p1), .val (.int p2), .val (.int p3), .val (.long q4), .second, .val (.int (0 : Int32)), .val (.int (1 : Int32)), .val (.int (1 : Int32)), .val (.int e0_), .val (.int e1_), .val (.int e2_), .val (.ref key), .val (.ref hh), .val (.ref d), .val (.ref c2_158), .unset] [(.int (1 : Int32)), (.int e0_), (.int (0 : Int32)), (.ref c2_158)])) _
          refine XS.ixor X160.here hx rfl (hb hby at_221) rfl ?_
          show Steps p.tables e below (T160.setTop (mkF m 222 #[.val (.int p0), .val (.int p1), .val (.int p2), .val (.int p3), .val (.long q4), .second, .val (.int (0 : Int32)), .val (.int (1 : Int32)), .val (.int (1 : Int32)), .val (.int e0_), .val (.int e1_), .val (.int e2_), .val (.ref key), .val (.ref hh), .val (.ref d), .val (.ref c2_158), .unset] [(.int (e0_ ^^^ (1 : Int32))), (.int (0 : Int32)), (.ref c2_158)])) _
          refine XS.i2b X160.here hx rfl (hb hby at_222) rfl ?_
          exact kt
        obtain ⟨cl165, Ar165, qc165, Sz165, Mn165, Hs165, Gs165⟩ := id Hr1
        have hin165 : ¬ ((0 : Int32) < 0 ∨ cl165.slots.size ≤ ((0 : Int32)).toNatClampNeg) := own_in Sz165 ⟨by decide, by decide⟩
        obtain ⟨T165, h165, X165, e165, W165, st165⟩ := stB X160 hx hZ e160 Ar165 (j := (0 : Int32)) hin165 (g := (mkF m 223 #[.val (.int p0), .val (.int p1), .val (.int p2), .val (.int p3), .val (.long q4), .second, .val (.int (0 : Int32)), .val (.int (1 : Int32)), .val (.int (1 : Int32)), .val (.int e0_), .val (.int e1_), .val (.int e2_), .val (.ref key), .val (.ref hh), .val (.ref d), .val (.ref c2_158), .unset] [(.int ((e0_ ^^^ (1 : Int32)).toInt8.toInt32)), (.int (0 : Int32)), (.ref c2_158)])) rfl rfl (hb hby at_223)
        have Hh_c2_158_165 : Arh Z h165 c2_158 k138 .byte (1 : Int32) [((0 : Int32), (.int (nar .byte ((e0_ ^^^ (1 : Int32)).toInt8.toInt32)))), ((0 : Int32), (.int e0_))] [] (.int (0 : Int32)) := Arh.push Ar165 qc165 Sz165 Mn165 Hs165 Gs165 (fits_nar_byte _) W165 hin165
        have Od_165 := Od_158.wr W165 g_c2_158
        have Ex138_165 := Ex138_158.wr W165
        have Ex142_165 := Ex142_158.wr W165
        have Hh_hh_165 := Hh_hh_158.other W165 ne_hh_c2_158
        have Ed_165 := Ed_158.wr W165
        have Et149_165 := Et149_158.wr W165
        have Fc_165 := Fc_158.other W165 (Or.inl ne_d_c2_158)
        have Hc_165 := Hc_158.other W165 ne_c_c2_158
        have Ec_165 := Ec_158.wr W165
        have Hh_key_165 := Hh_key_158.other W165 ne_key_c2_158
        have Er1_165 := Er1.wr W165
        have Z_165 : n0 ≤ h165.size := Nat.le_trans Z_158 (Keep.of_wr W165).1
        have N165 := Fr.snoc X165 N160 g_c2_158
        have st166 : ∀ target, Steps p.tables e below (T165.setTop (mkF m 226 #[.val (.int p0), .val (.int p1), .val (.int p2), .val (.int p3), .val (.long q4), .second, .val (.int (0 : Int32)), .val (.int (1 : Int32)), .val (.int (1 : Int32)), .val (.int e0_), .val (.int e1_), .val (.int e2_), .val (.ref key), .val (.ref hh), .val (.ref d), .val (.ref c2_158), .unset] [(.ref d)])) target → Steps p.tables e below (T165.setTop (mkF m 224 #[.val (.int p0), .val (.int p1), .val (.int p2), .val (.int p3), .val (.long q4), .second, .val (.int (0 : Int32)), .val (.int (1 : Int32)), .val (.int (1 : Int32)), .val (.int e0_), .val (.int e1_), .val (.int e2_), .val (.ref key), .val (.ref hh), .val (.ref d), .val (.ref c2_158), .unset] [])) target := by
          intro target kt
          show Steps p.tables e below (T165.setTop (mkF m 224 #[.val (.int p0), .val (.int p1), .val (.int p2), .val (.int p3), .val (.long q4), .second, .val (.int (0 : Int32)), .val (.int (1 : Int32)), .val (.int (1 : Int32)), .val (.int e0_), .val (.int e1_), .val (.int e2_), .val (.ref key), .val (.ref hh), .val (.ref d), .val (.ref c2_158), .unset] [])) _
          refine XS.aload X165.here hx rfl (hb hby at_224) rfl rfl ?_
          exact kt
        obtain ⟨cq167, kq167, qv167a, qv167b, qv167c⟩ := isOf hZ e165 Ed_165
        obtain ⟨_, _, ⟨T167, L167, k167, n167⟩, -, X167, ⟨Lc167, hQ167, l167, y167, z167⟩, st167⟩ := X165.virtualBack hx (y := (⟨"com/example/imprimatur/imprimatur/verify/DeviceValues", "publicKey", "()[B"⟩ : MethodName)) (z := (⟨"com/example/imprimatur/imprimatur/verify/DeviceValues", "publicKey", "()[B"⟩ : MethodName)) hown (mvT hZ (hw _ (List.mem_of_getElem? (i := 47) rfl))) (mvT hZ (hw _ (List.mem_of_getElem? (i := 48) rfl))) (notFace_of_selects (args := #[]) (mvT hZ (hw _ (List.mem_of_getElem? (i := 50) rfl)))) (mvT hZ (hw _ (List.mem_of_getElem? (i := 50) rfl))) (mvT hZ (hw _ (List.mem_of_getElem? (i := 49) rfl))) (by decide) (backOf (W := 0) (rm_publicKey l Z a0 hw [] d c k138 (1 : Int32) [((0 : Int32), (.int e0_))] h165 n0 Z_165 Fc_165 Hc_165 Ec_165 (by decide)) hZ (hw _ (List.mem_of_getElem? (i := 51) rfl)) (hw _ (List.mem_of_getElem? (i := 3) rfl)) (by decide) (by decide)) qv167a qv167c (g := (mkF m 226 #[.val (.int p0), .val (.int p1), .val (.int p2), .val (.int p3), .val (.long q4), .second, .val (.int (0 : Int32)), .val (.int (1 : Int32)), .val (.int (1 : Int32)), .val (.int e0_), .val (.int e1_), .val (.int e2_), .val (.ref key), .val (.ref hh), .val (.ref d), .val (.ref c2_158), .unset] [(.ref d)])) rfl (by rw [hml]; rfl) (Steps.refl _) (argsL := []) (rest := []) (lenOf pd_5 rfl) rfl (by show 2 * 0 + _ ≤ _; exact Nat.le_of_eq rfl) (hb hby at_226) (fun _ _ => ⟨rfl, e165, (by decide : 7 + 1 ≤ _), (by decide : 76 + 3 ≤ _)⟩)
        dsimp only [Pt.U, Pt.locs, Pt.cells, Pt.slots] at X167 l167 y167 z167 st167 hQ167
        subst l167 y167 z167
        obtain ⟨c2_167, rfl, Nq167, K167, sz167, Hr2, Er2⟩ := hQ167
        have N167 := Fr.app N165 Nq167
        have g_c2_167 : n0 ≤ c2_167 := Nat.le_trans Z_165 sz167
        have ne_key_c2_167 : key ≠ c2_167 := Nat.ne_of_lt (Nat.lt_of_lt_of_le Ex138_165.lt sz167)
        have ne_hh_c2_167 : hh ≠ c2_167 := Nat.ne_of_lt (Nat.lt_of_lt_of_le Ex142_165.lt sz167)
        have ne_d_c2_167 : d ≠ c2_167 := Nat.ne_of_lt (Nat.lt_of_lt_of_le Ed_165.lt sz167)
        have ne_t149_c2_167 : t149 ≠ c2_167 := Nat.ne_of_lt (Nat.lt_of_lt_of_le Et149_165.lt sz167)
        have ne_c_c2_167 : c ≠ c2_167 := Nat.ne_of_lt (Nat.lt_of_lt_of_le Hc_165.lt sz167)
        have ne_c2_158_c2_167 : c2_158 ≠ c2_167 := Nat.ne_of_lt (Nat.lt_of_lt_of_le Er1_165.lt sz167)
        have Od_167 := Od_165.keep K167 (all0)
        have Ex138_167 := Ex138_165.keep K167
        have Ex142_167 := Ex142_165.keep K167
        have Hh_hh_167 := Hh_hh_165.keep K167 nin0
        have Ed_167 := Ed_165.keep K167
        have Et149_167 := Et149_165.keep K167
        have Fc_167 := Fc_165.keep K167 nin0
        have Hc_167 := Hc_165.keep K167 nin0
        have Ec_167 := Ec_165.keep K167
        have Hh_key_167 := Hh_key_165.keep K167 nin0
        have Er1_167 := Er1_165.keep K167
        have Hh_c2_158_167 := Hh_c2_158_165.keep K167 nin0
        have Z_167 : n0 ≤ T167.heap.size := Nat.le_trans Z_165 K167.1
        have st168 : ∀ target, Steps p.tables e below (T167.setTop (mkF m 241 #[.val (.int p0), .val (.int p1), .val (.int p2), .val (.int p3), .val (.long q4), .second, .val (.int (0 : Int32)), .val (.int (1 : Int32)), .val (.int (1 : Int32)), .val (.int e0_), .val (.int e1_), .val (.int e2_), .val (.ref key), .val (.ref hh), .val (.ref d), .val (.ref c2_158), .val (.ref c2_167)] [(.int e2_), (.int e1_), (.int e0_), (.int (1 : Int32)), (.ref c2_167)])) target → Steps p.tables e below (T167.setTop (mkF m 229 #[.val (.int p0), .val (.int p1), .val (.int p2), .val (.int p3), .val (.long q4), .second, .val (.int (0 : Int32)), .val (.int (1 : Int32)), .val (.int (1 : Int32)), .val (.int e0_), .val (.int e1_), .val (.int e2_), .val (.ref key), .val (.ref hh), .val (.ref d), .val (.ref c2_158), .unset] [(.ref c2_167)])) target := by
          intro target kt
          show Steps p.tables e below (T167.setTop (mkF m 229 #[.val (.int p0), .val (.int p1), .val (.int p2), .val (.int p3), .val (.long q4), .second, .val (.int (0 : Int32)), .val (.int (1 : Int32)), .val (.int (1 : Int32)), .val (.int e0_), .val (.int e1_), .val (.int e2_), .val (.ref key), .val (.ref hh), .val (.ref d), .val (.ref c2_158), .unset] [(.ref c2_167)])) _
          refine XS.astore X167.here hx rfl (hb hby at_229) rfl rfl (l' := #[.val (.int p0), .val (.int p1), .val (.int p2), .val (.int p3), .val (.long q4), .second, .val (.int (0 : Int32)), .val (.int (1 : Int32)), .val (.int (1 : Int32)), .val (.int e0_), .val (.int e1_), .val (.int e2_), .val (.ref key), .val (.ref hh), .val (.ref d), .val (.ref c2_158), .val (.ref c2_167)]) rfl ?_
          show Steps p.tables e below (T167.setTop (mkF m 231 #[.val (.int p0), .val (.int p1), .val (.int p2), .val (.int p3), .val (.long q4), .second, .val (.int (0 : Int32)), .val (.int (1 : Int32)), .val (.int (1 : Int32)), .val (.int e0_), .val (.int e1_), .val (.int e2_), .val (.ref key), .val (.ref hh), .val (.ref d), .val (.ref c2_158), .val (.ref c2_167)] [])) _
          refine XS.aload X167.here hx rfl (hb hby at_231) rfl rfl ?_
          show Steps p.tables e below (T167.setTop (mkF m 233 #[.val (.int p0), .val (.int p1), .val (.int p2), .val (.int p3), .val (.long q4), .second, .val (.int (0 : Int32)), .val (.int (1 : Int32)), .val (.int (1 : Int32)), .val (.int e0_), .val (.int e1_), .val (.int e2_), .val (.ref key), .val (.ref hh), .val (.ref d), .val (.ref c2_158), .val (.ref c2_167)] [(.ref c2_167)])) _
          refine XS.iload X167.here hx rfl (hb hby at_233) rfl ?_
          show Steps p.tables e below (T167.setTop (mkF m 235 #[.val (.int p0), .val (.int p1), .val (.int p2), .val (.int p3), .val (.long q4), .second, .val (.int (0 : Int32)), .val (.int (1 : Int32)), .val (.int (1 : Int32)), .val (.int e0_), .val (.int e1_), .val (.int e2_), .val (.ref key), .val (.ref hh), .val (.ref d), .val (.ref c2_158), .val (.ref c2_167)] [(.int (1 : Int32)), (.ref c2_167)])) _
          refine XS.iload X167.here hx rfl (hb hby at_235) rfl ?_
          show Steps p.tables e below (T167.setTop (mkF m 237 #[.val (.int p0), .val (.int p1), .val (.int p2), .val (.int p3), .val (.long q4), .second, .val (.int (0 : Int32)), .val (.int (1 : Int32)), .val (.int (1 : Int32)), .val (.int e0_), .val (.int e1_), .val (.int e2_), .val (.ref key), .val (.ref hh), .val (.ref d), .val (.ref c2_158), .val (.ref c2_167)] [(.int e0_), (.int (1 : Int32)), (.ref c2_167)])) _
          refine XS.iload X167.here hx rfl (hb hby at_237) rfl ?_
          show Steps p.tables e below (T167.setTop (mkF m 239 #[.val (.int p0), .val (.int p1), .val (.int p2), .val (.int p3), .val (.long q4), .second, .val (.int (0 : Int32)), .val (.int (1 : Int32)), .val (.int (1 : Int32)), .val (.int e0_), .val (.int e1_), .val (.int e2_), .val (.ref key), .val (.ref hh), .val (.ref d), .val (.ref c2_158), .val (.ref c2_167)] [(.int e1_), (.int e0_), (.int (1 : Int32)), (.ref c2_167)])) _
          refine XS.iload X167.here hx rfl (hb hby at_239) rfl ?_
          exact kt
        obtain ⟨_, _, ⟨T169, L169, k169, n169⟩, -, X169, ⟨Lc169, hQ169, l169, y169, z169⟩, st169⟩ := Jvm.LawKit.callS X167 hx (y := (⟨"com/example/imprimatur/imprimatur/verify/DeviceValuesPublicKeyPinLaw", "same", "([BIBBB)Z"⟩ : MethodName)) hown (mvT hZ (hw _ (List.mem_of_getElem? (i := 52) rfl))) (mvT hZ (hw _ (List.mem_of_getElem? (i := 53) rfl))) (mvT hZ (hw _ (List.mem_of_getElem? (i := 54) rfl))) (mvT hZ (hw _ (List.mem_of_getElem? (i := 55) rfl))) (by decide) (backOf (W := 0) (rmS1 l Z a0 hw [] c2_167 e0_ e1_ e2_ k138 [((0 : Int32), (.int e0_))] T167.heap n0 Z_167 Hr2 rfl) hZ (hw _ (List.mem_of_getElem? (i := 55) rfl)) (hw _ (List.mem_of_getElem? (i := 54) rfl)) (by decide) (by decide)) (g := (mkF m 241 #[.val (.int p0), .val (.int p1), .val (.int p2), .val (.int p3), .val (.long q4), .second, .val (.int (0 : Int32)), .val (.int (1 : Int32)), .val (.int (1 : Int32)), .val (.int e0_), .val (.int e1_), .val (.int e2_), .val (.ref key), .val (.ref hh), .val (.ref d), .val (.ref c2_158), .val (.ref c2_167)] [(.int e2_), (.int e1_), (.int e0_), (.int (1 : Int32)), (.ref c2_167)])) rfl (by rw [hml]; rfl) (argsL := [(.ref c2_167), (.int (1 : Int32)), (.int e0_), (.int e1_), (.int e2_)]) (rest := []) (lenOf pd_6 rfl) rfl (by show 2 * 0 + _ ≤ _; exact Nat.le_of_eq rfl) (hb hby at_241) (fun _ _ => ⟨rfl, rfl, (by decide : 8 + 0 ≤ _), (by decide : 79 + 0 ≤ _)⟩)
        dsimp only [Pt.U, Pt.locs, Pt.cells, Pt.slots] at X169 l169 y169 z169 st169 hQ169
        subst l169 y169 z169
        obtain ⟨rfl, Nq169, e169⟩ := hQ169
        have N169 := Fr.app N167 Nq169
        obtain ⟨fs, hr, hrun, hended, hW, hsame⟩ := X169.leave (v := some (.int (1 : Int32))) (fun h => by rw [Bd.returns] at h; cases h)
        refine ⟨_, _, pre0 _ (st1 _ (st2 _ (st3 _ (st113 _ (st114 _ (st115 _ (st137 _ (st138 _ (st139 _ (st140 _ (st141 _ (st142 _ (st143 _ (st144 _ (st145 _ (st146 _ (st147 _ (st148 _ (st149 _ (st150 _ (st151.trans (st152 _ (st154 _ (st155 _ (st156 _ (st157 _ (st158.trans (st159 _ (st160 _ (st161 _ (st163 _ (st164 _ (st165 _ (st166 _ (st167.trans (st168 _ (st169 _ ?_))))))))))))))))))))))))))))))))))))), hrun, hended, _, _, rfl, ?_, ⟨_, rfl⟩, hW, hsame.mono (by decide) (by decide)⟩
        · show Steps p.tables e below (T169.setTop (mkF m 244 #[.val (.int p0), .val (.int p1), .val (.int p2), .val (.int p3), .val (.long q4), .second, .val (.int (0 : Int32)), .val (.int (1 : Int32)), .val (.int (1 : Int32)), .val (.int e0_), .val (.int e1_), .val (.int e2_), .val (.ref key), .val (.ref hh), .val (.ref d), .val (.ref c2_158), .val (.ref c2_167)] [(.int (1 : Int32))])) _
          exact retN X169 hx (t := .boolean) Bd.returns (by simp) (hb hby at_244) hr
        · show Q_rm0 Z p0 p1 p2 p3 q4 ca cc val h0 n0 _ T169.heap _
          rw [e169]
          exact ⟨rfl, N169⟩
      · have st170 : ∀ target, Steps p.tables e below (s₁.setTop (mkF m 55 #[.val (.int p0), .val (.int p1), .val (.int p2), .val (.int p3), .val (.long q4), .second, .val (.int (0 : Int32)), .val (.int (1 : Int32)), .val (.int (2 : Int32)), .val (.int e0_), .val (.int e1_), .val (.int e2_), .val .null, .unset, .unset, .unset, .unset] [(.int (2 : Int32))])) target → Steps p.tables e below (s₁.setTop (mkF m 45 #[.val (.int p0), .val (.int p1), .val (.int p2), .val (.int p3), .val (.long q4), .second, .val (.int (0 : Int32)), .val (.int (1 : Int32)), .val (.int (2 : Int32)), .val (.int e0_), .val (.int e1_), .val (.int e2_), .unset, .unset, .unset, .unset, .unset] [])) target := by
          intro target kt
          show Steps p.tables e below (s₁.setTop (mkF m 45 #[.val (.int p0), .val (.int p1), .val (.int p2), .val (.int p3), .val (.long q4), .second, .val (.int (0 : Int32)), .val (.int (1 : Int32)), .val (.int (2 : Int32)), .val (.int e0_), .val (.int e1_), .val (.int e2_), .unset, .unset, .unset, .unset, .unset] [])) _
          refine XS.aconstNull X0.here hx rfl (hb hby at_45) ?_
          show Steps p.tables e below (s₁.setTop (mkF m 46 #[.val (.int p0), .val (.int p1), .val (.int p2), .val (.int p3), .val (.long q4), .second, .val (.int (0 : Int32)), .val (.int (1 : Int32)), .val (.int (2 : Int32)), .val (.int e0_), .val (.int e1_), .val (.int e2_), .unset, .unset, .unset, .unset, .unset] [.null])) _
          refine XS.astore X0.here hx rfl (hb hby at_46) rfl rfl (l' := #[.val (.int p0), .val (.int p1), .val (.int p2), .val (.int p3), .val (.long q4), .second, .val (.int (0 : Int32)), .val (.int (1 : Int32)), .val (.int (2 : Int32)), .val (.int e0_), .val (.int e1_), .val (.int e2_), .val .null, .unset, .unset, .unset, .unset]) rfl ?_
          show Steps p.tables e below (s₁.setTop (mkF m 48 #[.val (.int p0), .val (.int p1), .val (.int p2), .val (.int p3), .val (.long q4), .second, .val (.int (0 : Int32)), .val (.int (1 : Int32)), .val (.int (2 : Int32)), .val (.int e0_), .val (.int e1_), .val (.int e2_), .val .null, .unset, .unset, .unset, .unset] [])) _
          refine XS.iload X0.here hx rfl (hb hby at_48) rfl ?_
          show Steps p.tables e below (s₁.setTop (mkF m 50 #[.val (.int p0), .val (.int p1), .val (.int p2), .val (.int p3), .val (.long q4), .second, .val (.int (0 : Int32)), .val (.int (1 : Int32)), .val (.int (2 : Int32)), .val (.int e0_), .val (.int e1_), .val (.int e2_), .val .null, .unset, .unset, .unset, .unset] [(.int (0 : Int32))])) _
          refine XS.ifNo X0.here hx rfl (hb hby at_50) rfl ((if0 _ _).trans (teq (rfl : (0 : Int32) = (0 : Int32))).2) ?_
          show Steps p.tables e below (s₁.setTop (mkF m 53 #[.val (.int p0), .val (.int p1), .val (.int p2), .val (.int p3), .val (.long q4), .second, .val (.int (0 : Int32)), .val (.int (1 : Int32)), .val (.int (2 : Int32)), .val (.int e0_), .val (.int e1_), .val (.int e2_), .val .null, .unset, .unset, .unset, .unset] [])) _
          refine XS.iload X0.here hx rfl (hb hby at_53) rfl ?_
          exact kt
        obtain ⟨T171, h171, k171, X171, e171, E171, A171, Ex171, st171⟩ := newPE X0 hx hZ (hw _ (List.mem_of_getElem? (i := 0) rfl)) e0 (g := (mkF m 55 #[.val (.int p0), .val (.int p1), .val (.int p2), .val (.int p3), .val (.long q4), .second, .val (.int (0 : Int32)), .val (.int (1 : Int32)), .val (.int (2 : Int32)), .val (.int e0_), .val (.int e1_), .val (.int e2_), .val .null, .unset, .unset, .unset, .unset] [(.int (2 : Int32))])) rfl (hb hby at_55) rfl (by decide) (cap := 2) (by decide) (by decide) (by decide) (by decide) (ad := "[B") (by decide)
        obtain ⟨key, g171⟩ : ∃ z, z = h0.size := ⟨_, rfl⟩
        rw [← g171] at A171 Ex171 st171
        have g_key : n0 ≤ key := Nat.le_trans Z0 (Nat.le_of_eq g171.symm)
        have Od_171 := Od.ext E171
        have Z_171 : n0 ≤ h171.size := Nat.le_trans Z0 E171.1
        have Hh_key : Arh Z h171 key k171 .byte (2 : Int32) [] [] (.int (0 : Int32)) := Arv.arh (Arv.new A171 (by decide))
        have st172 : ∀ target, Steps p.tables e below (T171.setTop (mkF m 69 #[.val (.int p0), .val (.int p1), .val (.int p2), .val (.int p3), .val (.long q4), .second, .val (.int (0 : Int32)), .val (.int (1 : Int32)), .val (.int (2 : Int32)), .val (.int e0_), .val (.int e1_), .val (.int e2_), .val (.ref key), .unset, .unset, .unset, .unset] [(.int e0_), (.int (0 : Int32)), (.ref key)])) target → Steps p.tables e below (T171.setTop (mkF m 57 #[.val (.int p0), .val (.int p1), .val (.int p2), .val (.int p3), .val (.long q4), .second, .val (.int (0 : Int32)), .val (.int (1 : Int32)), .val (.int (2 : Int32)), .val (.int e0_), .val (.int e1_), .val (.int e2_), .val .null, .unset, .unset, .unset, .unset] [(.ref key)])) target := by
          intro target kt
          show Steps p.tables e below (T171.setTop (mkF m 57 #[.val (.int p0), .val (.int p1), .val (.int p2), .val (.int p3), .val (.long q4), .second, .val (.int (0 : Int32)), .val (.int (1 : Int32)), .val (.int (2 : Int32)), .val (.int e0_), .val (.int e1_), .val (.int e2_), .val .null, .unset, .unset, .unset, .unset] [(.ref key)])) _
          refine XS.astore X171.here hx rfl (hb hby at_57) rfl rfl (l' := #[.val (.int p0), .val (.int p1), .val (.int p2), .val (.int p3), .val (.long q4), .second, .val (.int (0 : Int32)), .val (.int (1 : Int32)), .val (.int (2 : Int32)), .val (.int e0_), .val (.int e1_), .val (.int e2_), .val (.ref key), .unset, .unset, .unset, .unset]) rfl ?_
          show Steps p.tables e below (T171.setTop (mkF m 59 #[.val (.int p0), .val (.int p1), .val (.int p2), .val (.int p3), .val (.long q4), .second, .val (.int (0 : Int32)), .val (.int (1 : Int32)), .val (.int (2 : Int32)), .val (.int e0_), .val (.int e1_), .val (.int e2_), .val (.ref key), .unset, .unset, .unset, .unset] [])) _
          refine XS.iload X171.here hx rfl (hb hby at_59) rfl ?_
          show Steps p.tables e below (T171.setTop (mkF m 61 #[.val (.int p0), .val (.int p1), .val (.int p2), .val (.int p3), .val (.long q4), .second, .val (.int (0 : Int32)), .val (.int (1 : Int32)), .val (.int (2 : Int32)), .val (.int e0_), .val (.int e1_), .val (.int e2_), .val (.ref key), .unset, .unset, .unset, .unset] [(.int (2 : Int32))])) _
          refine XS.ifNo X171.here hx rfl (hb hby at_61) rfl ((if0 _ _).trans (tlt (by decide : ((0 : Int32) < (2 : Int32)))).2.2.2) ?_
          show Steps p.tables e below (T171.setTop (mkF m 64 #[.val (.int p0), .val (.int p1), .val (.int p2), .val (.int p3), .val (.long q4), .second, .val (.int (0 : Int32)), .val (.int (1 : Int32)), .val (.int (2 : Int32)), .val (.int e0_), .val (.int e1_), .val (.int e2_), .val (.ref key), .unset, .unset, .unset, .unset] [])) _
          refine XS.aload X171.here hx rfl (hb hby at_64) rfl rfl ?_
          show Steps p.tables e below (T171.setTop (mkF m 66 #[.val (.int p0), .val (.int p1), .val (.int p2), .val (.int p3), .val (.long q4), .second, .val (.int (0 : Int32)), .val (.int (1 : Int32)), .val (.int (2 : Int32)), .val (.int e0_), .val (.int e1_), .val (.int e2_), .val (.ref key), .unset, .unset, .unset, .unset] [(.ref key)])) _
          refine XS.iconst X171.here hx rfl (hb hby at_66) ?_
          show Steps p.tables e below (T171.setTop (mkF m 67 #[.val (.int p0), .val (.int p1), .val (.int p2), .val (.int p3), .val (.long q4), .second, .val (.int (0 : Int32)), .val (.int (1 : Int32)), .val (.int (2 : Int32)), .val (.int e0_), .val (.int e1_), .val (.int e2_), .val (.ref key), .unset, .unset, .unset, .unset] [(.int (0 : Int32)), (.ref key)])) _
          refine XS.iload X171.here hx rfl (hb hby at_67) rfl ?_
          exact kt
        obtain ⟨cl173, Ar173, qc173, Sz173, Mn173, Hs173, Gs173⟩ := id Hh_key
        have hin173 : ¬ ((0 : Int32) < 0 ∨ cl173.slots.size ≤ ((0 : Int32)).toNatClampNeg) := own_in Sz173 ⟨by decide, by decide⟩
        obtain ⟨T173, h173, X173, e173, W173, st173⟩ := stB X171 hx hZ e171 Ar173 (j := (0 : Int32)) hin173 (g := (mkF m 69 #[.val (.int p0), .val (.int p1), .val (.int p2), .val (.int p3), .val (.long q4), .second, .val (.int (0 : Int32)), .val (.int (1 : Int32)), .val (.int (2 : Int32)), .val (.int e0_), .val (.int e1_), .val (.int e2_), .val (.ref key), .unset, .unset, .unset, .unset] [(.int e0_), (.int (0 : Int32)), (.ref key)])) rfl rfl (hb hby at_69)
        have Hh_key_173 : Arh Z h173 key k171 .byte (2 : Int32) [((0 : Int32), (.int (nar .byte e0_)))] [] (.int (0 : Int32)) := Arh.push Ar173 qc173 Sz173 Mn173 Hs173 Gs173 (fits_nar_byte _) W173 hin173
        have Od_173 := Od_171.wr W173 g_key
        have Ex171_173 := Ex171.wr W173
        have Z_173 : n0 ≤ h173.size := Nat.le_trans Z_171 (Keep.of_wr W173).1
        have N173 := Fr.snoc X173 N0 g_key
        have st174 : ∀ target, Steps p.tables e below (T173.setTop (mkF m 81 #[.val (.int p0), .val (.int p1), .val (.int p2), .val (.int p3), .val (.long q4), .second, .val (.int (0 : Int32)), .val (.int (1 : Int32)), .val (.int (2 : Int32)), .val (.int e0_), .val (.int e1_), .val (.int e2_), .val (.ref key), .unset, .unset, .unset, .unset] [(.int e1_), (.int (1 : Int32)), (.ref key)])) target → Steps p.tables e below (T173.setTop (mkF m 70 #[.val (.int p0), .val (.int p1), .val (.int p2), .val (.int p3), .val (.long q4), .second, .val (.int (0 : Int32)), .val (.int (1 : Int32)), .val (.int (2 : Int32)), .val (.int e0_), .val (.int e1_), .val (.int e2_), .val (.ref key), .unset, .unset, .unset, .unset] [])) target := by
          intro target kt
          show Steps p.tables e below (T173.setTop (mkF m 70 #[.val (.int p0), .val (.int p1), .val (.int p2), .val (.int p3), .val (.long q4), .second, .val (.int (0 : Int32)), .val (.int (1 : Int32)), .val (.int (2 : Int32)), .val (.int e0_), .val (.int e1_), .val (.int e2_), .val (.ref key), .unset, .unset, .unset, .unset] [])) _
          refine XS.iload X173.here hx rfl (hb hby at_70) rfl ?_
          show Steps p.tables e below (T173.setTop (mkF m 72 #[.val (.int p0), .val (.int p1), .val (.int p2), .val (.int p3), .val (.long q4), .second, .val (.int (0 : Int32)), .val (.int (1 : Int32)), .val (.int (2 : Int32)), .val (.int e0_), .val (.int e1_), .val (.int e2_), .val (.ref key), .unset, .unset, .unset, .unset] [(.int (2 : Int32))])) _
          refine XS.iconst X173.here hx rfl (hb hby at_72) ?_
          show Steps p.tables e below (T173.setTop (mkF m 73 #[.val (.int p0), .val (.int p1), .val (.int p2), .val (.int p3), .val (.long q4), .second, .val (.int (0 : Int32)), .val (.int (1 : Int32)), .val (.int (2 : Int32)), .val (.int e0_), .val (.int e1_), .val (.int e2_), .val (.ref key), .unset, .unset, .unset, .unset] [(.int (1 : Int32)), (.int (2 : Int32))])) _
          refine XS.icmpNo X173.here hx rfl (hb hby at_73) rfl (tlt (by decide : ((1 : Int32) < (2 : Int32)))).2.2.2 ?_
          show Steps p.tables e below (T173.setTop (mkF m 76 #[.val (.int p0), .val (.int p1), .val (.int p2), .val (.int p3), .val (.long q4), .second, .val (.int (0 : Int32)), .val (.int (1 : Int32)), .val (.int (2 : Int32)), .val (.int e0_), .val (.int e1_), .val (.int e2_), .val (.ref key), .unset, .unset, .unset, .unset] [])) _
          refine XS.aload X173.here hx rfl (hb hby at_76) rfl rfl ?_
          show Steps p.tables e below (T173.setTop (mkF m 78 #[.val (.int p0), .val (.int p1), .val (.int p2), .val (.int p3), .val (.long q4), .second, .val (.int (0 : Int32)), .val (.int (1 : Int32)), .val (.int (2 : Int32)), .val (.int e0_), .val (.int e1_), .val (.int e2_), .val (.ref key), .unset, .unset, .unset, .unset] [(.ref key)])) _
          refine XS.iconst X173.here hx rfl (hb hby at_78) ?_
          show Steps p.tables e below (T173.setTop (mkF m 79 #[.val (.int p0), .val (.int p1), .val (.int p2), .val (.int p3), .val (.long q4), .second, .val (.int (0 : Int32)), .val (.int (1 : Int32)), .val (.int (2 : Int32)), .val (.int e0_), .val (.int e1_), .val (.int e2_), .val (.ref key), .unset, .unset, .unset, .unset] [(.int (1 : Int32)), (.ref key)])) _
          refine XS.iload X173.here hx rfl (hb hby at_79) rfl ?_
          exact kt
        obtain ⟨cl175, Ar175, qc175, Sz175, Mn175, Hs175, Gs175⟩ := id Hh_key_173
        have hin175 : ¬ ((1 : Int32) < 0 ∨ cl175.slots.size ≤ ((1 : Int32)).toNatClampNeg) := own_in Sz175 ⟨by decide, by decide⟩
        obtain ⟨T175, h175, X175, e175, W175, st175⟩ := stB X173 hx hZ e173 Ar175 (j := (1 : Int32)) hin175 (g := (mkF m 81 #[.val (.int p0), .val (.int p1), .val (.int p2), .val (.int p3), .val (.long q4), .second, .val (.int (0 : Int32)), .val (.int (1 : Int32)), .val (.int (2 : Int32)), .val (.int e0_), .val (.int e1_), .val (.int e2_), .val (.ref key), .unset, .unset, .unset, .unset] [(.int e1_), (.int (1 : Int32)), (.ref key)])) rfl rfl (hb hby at_81)
        have Hh_key_175 : Arh Z h175 key k171 .byte (2 : Int32) [((1 : Int32), (.int (nar .byte e1_))), ((0 : Int32), (.int (nar .byte e0_)))] [] (.int (0 : Int32)) := Arh.push Ar175 qc175 Sz175 Mn175 Hs175 Gs175 (fits_nar_byte _) W175 hin175
        have Od_175 := Od_173.wr W175 g_key
        have Ex171_175 := Ex171_173.wr W175
        have Z_175 : n0 ≤ h175.size := Nat.le_trans Z_173 (Keep.of_wr W175).1
        have N175 := Fr.snoc X175 N173 g_key
        have Hk : Arh Z h175 key k171 .byte (2 : Int32) [((1 : Int32), (.int e1_)), ((0 : Int32), (.int e0_))] [] (.int (0 : Int32)) := by have q := Hh_key_175; rw [ne0_, ne1_] at q; exact q
        have st176 : ∀ target, Steps p.tables e below (T175.setTop (mkF m 104 #[.val (.int p0), .val (.int p1), .val (.int p2), .val (.int p3), .val (.long q4), .second, .val (.int (0 : Int32)), .val (.int (1 : Int32)), .val (.int (2 : Int32)), .val (.int e0_), .val (.int e1_), .val (.int e2_), .val (.ref key), .val .null, .unset, .unset, .unset] [(.int (32 : Int32))])) target → Steps p.tables e below (T175.setTop (mkF m 82 #[.val (.int p0), .val (.int p1), .val (.int p2), .val (.int p3), .val (.long q4), .second, .val (.int (0 : Int32)), .val (.int (1 : Int32)), .val (.int (2 : Int32)), .val (.int e0_), .val (.int e1_), .val (.int e2_), .val (.ref key), .unset, .unset, .unset, .unset] [])) target := by
          intro target kt
          show Steps p.tables e below (T175.setTop (mkF m 82 #[.val (.int p0), .val (.int p1), .val (.int p2), .val (.int p3), .val (.long q4), .second, .val (.int (0 : Int32)), .val (.int (1 : Int32)), .val (.int (2 : Int32)), .val (.int e0_), .val (.int e1_), .val (.int e2_), .val (.ref key), .unset, .unset, .unset, .unset] [])) _
          refine XS.iload X175.here hx rfl (hb hby at_82) rfl ?_
          show Steps p.tables e below (T175.setTop (mkF m 84 #[.val (.int p0), .val (.int p1), .val (.int p2), .val (.int p3), .val (.long q4), .second, .val (.int (0 : Int32)), .val (.int (1 : Int32)), .val (.int (2 : Int32)), .val (.int e0_), .val (.int e1_), .val (.int e2_), .val (.ref key), .unset, .unset, .unset, .unset] [(.int (2 : Int32))])) _
          refine XS.iconst X175.here hx rfl (hb hby at_84) ?_
          show Steps p.tables e below (T175.setTop (mkF m 85 #[.val (.int p0), .val (.int p1), .val (.int p2), .val (.int p3), .val (.long q4), .second, .val (.int (0 : Int32)), .val (.int (1 : Int32)), .val (.int (2 : Int32)), .val (.int e0_), .val (.int e1_), .val (.int e2_), .val (.ref key), .unset, .unset, .unset, .unset] [(.int (2 : Int32)), (.int (2 : Int32))])) _
          refine XS.icmpYes X175.here hx rfl (pc0 := 85) (pc' := 94) rfl (hb hby at_85) rfl (flt (by decide : ¬ ((2 : Int32) < (2 : Int32)))).2.2.2 (by decide) (by decide) ?_
          show Steps p.tables e below (T175.setTop (mkF m 94 #[.val (.int p0), .val (.int p1), .val (.int p2), .val (.int p3), .val (.long q4), .second, .val (.int (0 : Int32)), .val (.int (1 : Int32)), .val (.int (2 : Int32)), .val (.int e0_), .val (.int e1_), .val (.int e2_), .val (.ref key), .unset, .unset, .unset, .unset] [])) _
          refine XS.aconstNull X175.here hx rfl (hb hby at_94) ?_
          show Steps p.tables e below (T175.setTop (mkF m 95 #[.val (.int p0), .val (.int p1), .val (.int p2), .val (.int p3), .val (.long q4), .second, .val (.int (0 : Int32)), .val (.int (1 : Int32)), .val (.int (2 : Int32)), .val (.int e0_), .val (.int e1_), .val (.int e2_), .val (.ref key), .unset, .unset, .unset, .unset] [.null])) _
          refine XS.astore X175.here hx rfl (hb hby at_95) rfl rfl (l' := #[.val (.int p0), .val (.int p1), .val (.int p2), .val (.int p3), .val (.long q4), .second, .val (.int (0 : Int32)), .val (.int (1 : Int32)), .val (.int (2 : Int32)), .val (.int e0_), .val (.int e1_), .val (.int e2_), .val (.ref key), .val .null, .unset, .unset, .unset]) rfl ?_
          show Steps p.tables e below (T175.setTop (mkF m 97 #[.val (.int p0), .val (.int p1), .val (.int p2), .val (.int p3), .val (.long q4), .second, .val (.int (0 : Int32)), .val (.int (1 : Int32)), .val (.int (2 : Int32)), .val (.int e0_), .val (.int e1_), .val (.int e2_), .val (.ref key), .val .null, .unset, .unset, .unset] [])) _
          refine XS.iload X175.here hx rfl (hb hby at_97) rfl ?_
          show Steps p.tables e below (T175.setTop (mkF m 99 #[.val (.int p0), .val (.int p1), .val (.int p2), .val (.int p3), .val (.long q4), .second, .val (.int (0 : Int32)), .val (.int (1 : Int32)), .val (.int (2 : Int32)), .val (.int e0_), .val (.int e1_), .val (.int e2_), .val (.ref key), .val .null, .unset, .unset, .unset] [(.int (1 : Int32))])) _
          refine XS.ifNo X175.here hx rfl (hb hby at_99) rfl ((if0 _ _).trans (feq (by decide : ¬ ((1 : Int32) = (0 : Int32)))).1) ?_
          show Steps p.tables e below (T175.setTop (mkF m 102 #[.val (.int p0), .val (.int p1), .val (.int p2), .val (.int p3), .val (.long q4), .second, .val (.int (0 : Int32)), .val (.int (1 : Int32)), .val (.int (2 : Int32)), .val (.int e0_), .val (.int e1_), .val (.int e2_), .val (.ref key), .val .null, .unset, .unset, .unset] [])) _
          refine XS.bipush X175.here hx rfl (hb hby at_102) ?_
          exact kt
        obtain ⟨T177, h177, k177, X177, e177, E177, A177, Ex177, st177⟩ := newPE X175 hx hZ (hw _ (List.mem_of_getElem? (i := 0) rfl)) e175 (g := (mkF m 104 #[.val (.int p0), .val (.int p1), .val (.int p2), .val (.int p3), .val (.long q4), .second, .val (.int (0 : Int32)), .val (.int (1 : Int32)), .val (.int (2 : Int32)), .val (.int e0_), .val (.int e1_), .val (.int e2_), .val (.ref key), .val .null, .unset, .unset, .unset] [(.int (32 : Int32))])) rfl (hb hby at_104) rfl (by decide) (cap := 32) (by decide) (by decide) (by decide) (by decide) (ad := "[B") (by decide)
        obtain ⟨hh, g177⟩ : ∃ z, z = h175.size := ⟨_, rfl⟩
        rw [← g177] at A177 Ex177 st177
        have g_hh : n0 ≤ hh := Nat.le_trans Z_175 (Nat.le_of_eq g177.symm)
        have ne_key_hh : key ≠ hh := Nat.ne_of_lt (Nat.lt_of_lt_of_le Ex171_175.lt (Nat.le_of_eq g177.symm))
        have Od_177 := Od_175.ext E177
        have Ex171_177 := Ex171_175.ext E177
        have Hk_177 := Hk.ext E177
        have Z_177 : n0 ≤ h177.size := Nat.le_trans Z_175 E177.1
        have Hh_hh : Arh Z h177 hh k177 .byte (32 : Int32) [] [] (.int (0 : Int32)) := Arv.arh (Arv.new A177 (by decide))
        have st178 : ∀ target, Steps p.tables e below (T177.setTop (mkF m 116 #[.val (.int p0), .val (.int p1), .val (.int p2), .val (.int p3), .val (.long q4), .second, .val (.int (0 : Int32)), .val (.int (1 : Int32)), .val (.int (2 : Int32)), .val (.int e0_), .val (.int e1_), .val (.int e2_), .val (.ref key), .val (.ref hh), .unset, .unset, .unset] [(.int ((p1 ^^^ (51 : Int32)).toInt8.toInt32)), (.int (0 : Int32)), (.ref hh)])) target → Steps p.tables e below (T177.setTop (mkF m 106 #[.val (.int p0), .val (.int p1), .val (.int p2), .val (.int p3), .val (.long q4), .second, .val (.int (0 : Int32)), .val (.int (1 : Int32)), .val (.int (2 : Int32)), .val (.int e0_), .val (.int e1_), .val (.int e2_), .val (.ref key), .val .null, .unset, .unset, .unset] [(.ref hh)])) target := by
          intro target kt
          show Steps p.tables e below (T177.setTop (mkF m 106 #[.val (.int p0), .val (.int p1), .val (.int p2), .val (.int p3), .val (.long q4), .second, .val (.int (0 : Int32)), .val (.int (1 : Int32)), .val (.int (2 : Int32)), .val (.int e0_), .val (.int e1_), .val (.int e2_), .val (.ref key), .val .null, .unset, .unset, .unset] [(.ref hh)])) _
          refine XS.astore X177.here hx rfl (hb hby at_106) rfl rfl (l' := #[.val (.int p0), .val (.int p1), .val (.int p2), .val (.int p3), .val (.long q4), .second, .val (.int (0 : Int32)), .val (.int (1 : Int32)), .val (.int (2 : Int32)), .val (.int e0_), .val (.int e1_), .val (.int e2_), .val (.ref key), .val (.ref hh), .unset, .unset, .unset]) rfl ?_
          show Steps p.tables e below (T177.setTop (mkF m 108 #[.val (.int p0), .val (.int p1), .val (.int p2), .val (.int p3), .val (.long q4), .second, .val (.int (0 : Int32)), .val (.int (1 : Int32)), .val (.int (2 : Int32)), .val (.int e0_), .val (.int e1_), .val (.int e2_), .val (.ref key), .val (.ref hh), .unset, .unset, .unset] [])) _
          refine XS.aload X177.here hx rfl (hb hby at_108) rfl rfl ?_
          show Steps p.tables e below (T177.setTop (mkF m 110 #[.val (.int p0), .val (.int p1), .val (.int p2), .val (.int p3), .val (.long q4), .second, .val (.int (0 : Int32)), .val (.int (1 : Int32)), .val (.int (2 : Int32)), .val (.int e0_), .val (.int e1_), .val (.int e2_), .val (.ref key), .val (.ref hh), .unset, .unset, .unset] [(.ref hh)])) _
          refine XS.iconst X177.here hx rfl (hb hby at_110) ?_
          show Steps p.tables e below (T177.setTop (mkF m 111 #[.val (.int p0), .val (.int p1), .val (.int p2), .val (.int p3), .val (.long q4), .second, .val (.int (0 : Int32)), .val (.int (1 : Int32)), .val (.int (2 : Int32)), .val (.int e0_), .val (.int e1_), .val (.int e2_), .val (.ref key), .val (.ref hh), .unset, .unset, .unset] [(.int (0 : Int32)), (.ref hh)])) _
          refine XS.iloadN X177.here hx rfl (hb hby at_111) rfl ?_
          show Steps p.tables e below (T177.setTop (mkF m 112 #[.val (.int p0), .val (.int p1), .val (.int p2), .val (.int p3), .val (.long q4), .second, .val (.int (0 : Int32)), .val (.int (1 : Int32)), .val (.int (2 : Int32)), .val (.int e0_), .val (.int e1_), .val (.int e2_), .val (.ref key), .val (.ref hh), .unset, .unset, .unset] [(.int p1), (.int (0 : Int32)), (.ref hh)])) _
          refine XS.bipush X177.here hx rfl (hb hby at_112) ?_
          show Steps p.tables e below (T177.setTop (mkF m 114 #[.val (.int p0), .val (.int p1), .val (.int p2), .val (.int p3), .val (.long q4), .second, .val (.int (0 : Int32)), .val (.int (1 : Int32)), .val (.int (2 : Int32)), .val (.int e0_), .val (.int e1_), .val (.int e2_), .val (.ref key), .val (.ref hh), .unset, .unset, .unset] [(.int (51 : Int32)), (.int p1), (.int (0 : Int32)), (.ref hh)])) _
          refine XS.ixor X177.here hx rfl (hb hby at_114) rfl ?_
          show Steps p.tables e below (T177.setTop (mkF m 115 #[.val (.int p0), .val (.int p1), .val (.int p2), .val (.int p3), .val (.long q4), .second, .val (.int (0 : Int32)), .val (.int (1 : Int32)), .val (.int (2 : Int32)), .val (.int e0_), .val (.int e1_), .val (.int e2_), .val (.ref key), .val (.ref hh), .unset, .unset, .unset] [(.int (p1 ^^^ (51 : Int32))), (.int (0 : Int32)), (.ref hh)])) _
          refine XS.i2b X177.here hx rfl (hb hby at_115) rfl ?_
          exact kt
        obtain ⟨cl179, Ar179, qc179, Sz179, Mn179, Hs179, Gs179⟩ := id Hh_hh
        have hin179 : ¬ ((0 : Int32) < 0 ∨ cl179.slots.size ≤ ((0 : Int32)).toNatClampNeg) := own_in Sz179 ⟨by decide, by decide⟩
        obtain ⟨T179, h179, X179, e179, W179, st179⟩ := stB X177 hx hZ e177 Ar179 (j := (0 : Int32)) hin179 (g := (mkF m 116 #[.val (.int p0), .val (.int p1), .val (.int p2), .val (.int p3), .val (.long q4), .second, .val (.int (0 : Int32)), .val (.int (1 : Int32)), .val (.int (2 : Int32)), .val (.int e0_), .val (.int e1_), .val (.int e2_), .val (.ref key), .val (.ref hh), .unset, .unset, .unset] [(.int ((p1 ^^^ (51 : Int32)).toInt8.toInt32)), (.int (0 : Int32)), (.ref hh)])) rfl rfl (hb hby at_116)
        have Hh_hh_179 : Arh Z h179 hh k177 .byte (32 : Int32) [((0 : Int32), (.int (nar .byte ((p1 ^^^ (51 : Int32)).toInt8.toInt32))))] [] (.int (0 : Int32)) := Arh.push Ar179 qc179 Sz179 Mn179 Hs179 Gs179 (fits_nar_byte _) W179 hin179
        have Od_179 := Od_177.wr W179 g_hh
        have Ex171_179 := Ex171_177.wr W179
        have Hk_179 := Hk_177.other W179 ne_key_hh
        have Ex177_179 := Ex177.wr W179
        have Z_179 : n0 ≤ h179.size := Nat.le_trans Z_177 (Keep.of_wr W179).1
        have N179 := Fr.snoc X179 N175 g_hh
        have st180 : ∀ target, Steps p.tables e below (T179.setTop (mkF m 125 #[.val (.int p0), .val (.int p1), .val (.int p2), .val (.int p3), .val (.long q4), .second, .val (.int (0 : Int32)), .val (.int (1 : Int32)), .val (.int (2 : Int32)), .val (.int e0_), .val (.int e1_), .val (.int e2_), .val (.ref key), .val (.ref hh), .unset, .unset, .unset] [(.int ((p2 ^^^ (119 : Int32)).toInt8.toInt32)), (.int (1 : Int32)), (.ref hh)])) target → Steps p.tables e below (T179.setTop (mkF m 117 #[.val (.int p0), .val (.int p1), .val (.int p2), .val (.int p3), .val (.long q4), .second, .val (.int (0 : Int32)), .val (.int (1 : Int32)), .val (.int (2 : Int32)), .val (.int e0_), .val (.int e1_), .val (.int e2_), .val (.ref key), .val (.ref hh), .unset, .unset, .unset] [])) target := by
          intro target kt
          show Steps p.tables e below (T179.setTop (mkF m 117 #[.val (.int p0), .val (.int p1), .val (.int p2), .val (.int p3), .val (.long q4), .second, .val (.int (0 : Int32)), .val (.int (1 : Int32)), .val (.int (2 : Int32)), .val (.int e0_), .val (.int e1_), .val (.int e2_), .val (.ref key), .val (.ref hh), .unset, .unset, .unset] [])) _
          refine XS.aload X179.here hx rfl (hb hby at_117) rfl rfl ?_
          show Steps p.tables e below (T179.setTop (mkF m 119 #[.val (.int p0), .val (.int p1), .val (.int p2), .val (.int p3), .val (.long q4), .second, .val (.int (0 : Int32)), .val (.int (1 : Int32)), .val (.int (2 : Int32)), .val (.int e0_), .val (.int e1_), .val (.int e2_), .val (.ref key), .val (.ref hh), .unset, .unset, .unset] [(.ref hh)])) _
          refine XS.iconst X179.here hx rfl (hb hby at_119) ?_
          show Steps p.tables e below (T179.setTop (mkF m 120 #[.val (.int p0), .val (.int p1), .val (.int p2), .val (.int p3), .val (.long q4), .second, .val (.int (0 : Int32)), .val (.int (1 : Int32)), .val (.int (2 : Int32)), .val (.int e0_), .val (.int e1_), .val (.int e2_), .val (.ref key), .val (.ref hh), .unset, .unset, .unset] [(.int (1 : Int32)), (.ref hh)])) _
          refine XS.iloadN X179.here hx rfl (hb hby at_120) rfl ?_
          show Steps p.tables e below (T179.setTop (mkF m 121 #[.val (.int p0), .val (.int p1), .val (.int p2), .val (.int p3), .val (.long q4), .second, .val (.int (0 : Int32)), .val (.int (1 : Int32)), .val (.int (2 : Int32)), .val (.int e0_), .val (.int e1_), .val (.int e2_), .val (.ref key), .val (.ref hh), .unset, .unset, .unset] [(.int p2), (.int (1 : Int32)), (.ref hh)])) _
          refine XS.bipush X179.here hx rfl (hb hby at_121) ?_
          show Steps p.tables e below (T179.setTop (mkF m 123 #[.val (.int p0), .val (.int p1), .val (.int p2), .val (.int p3), .val (.long q4), .second, .val (.int (0 : Int32)), .val (.int (1 : Int32)), .val (.int (2 : Int32)), .val (.int e0_), .val (.int e1_), .val (.int e2_), .val (.ref key), .val (.ref hh), .unset, .unset, .unset] [(.int (119 : Int32)), (.int p2), (.int (1 : Int32)), (.ref hh)])) _
          refine XS.ixor X179.here hx rfl (hb hby at_123) rfl ?_
          show Steps p.tables e below (T179.setTop (mkF m 124 #[.val (.int p0), .val (.int p1), .val (.int p2), .val (.int p3), .val (.long q4), .second, .val (.int (0 : Int32)), .val (.int (1 : Int32)), .val (.int (2 : Int32)), .val (.int e0_), .val (.int e1_), .val (.int e2_), .val (.ref key), .val (.ref hh), .unset, .unset, .unset] [(.int (p2 ^^^ (119 : Int32))), (.int (1 : Int32)), (.ref hh)])) _
          refine XS.i2b X179.here hx rfl (hb hby at_124) rfl ?_
          exact kt
        obtain ⟨cl181, Ar181, qc181, Sz181, Mn181, Hs181, Gs181⟩ := id Hh_hh_179
        have hin181 : ¬ ((1 : Int32) < 0 ∨ cl181.slots.size ≤ ((1 : Int32)).toNatClampNeg) := own_in Sz181 ⟨by decide, by decide⟩
        obtain ⟨T181, h181, X181, e181, W181, st181⟩ := stB X179 hx hZ e179 Ar181 (j := (1 : Int32)) hin181 (g := (mkF m 125 #[.val (.int p0), .val (.int p1), .val (.int p2), .val (.int p3), .val (.long q4), .second, .val (.int (0 : Int32)), .val (.int (1 : Int32)), .val (.int (2 : Int32)), .val (.int e0_), .val (.int e1_), .val (.int e2_), .val (.ref key), .val (.ref hh), .unset, .unset, .unset] [(.int ((p2 ^^^ (119 : Int32)).toInt8.toInt32)), (.int (1 : Int32)), (.ref hh)])) rfl rfl (hb hby at_125)
        have Hh_hh_181 : Arh Z h181 hh k177 .byte (32 : Int32) [((1 : Int32), (.int (nar .byte ((p2 ^^^ (119 : Int32)).toInt8.toInt32)))), ((0 : Int32), (.int (nar .byte ((p1 ^^^ (51 : Int32)).toInt8.toInt32))))] [] (.int (0 : Int32)) := Arh.push Ar181 qc181 Sz181 Mn181 Hs181 Gs181 (fits_nar_byte _) W181 hin181
        have Od_181 := Od_179.wr W181 g_hh
        have Ex171_181 := Ex171_179.wr W181
        have Hk_181 := Hk_179.other W181 ne_key_hh
        have Ex177_181 := Ex177_179.wr W181
        have Z_181 : n0 ≤ h181.size := Nat.le_trans Z_179 (Keep.of_wr W181).1
        have N181 := Fr.snoc X181 N179 g_hh
        obtain ⟨T182, h182, X182, e182, E182, A182, D182, -, st182⟩ := newO X181 hx hZ hown (hw _ (List.mem_of_getElem? (i := 1) rfl)) (hw _ (List.mem_of_getElem? (i := 2) rfl)) (hw _ (List.mem_of_getElem? (i := 3) rfl)) e181 (g := (mkF m 126 #[.val (.int p0), .val (.int p1), .val (.int p2), .val (.int p3), .val (.long q4), .second, .val (.int (0 : Int32)), .val (.int (1 : Int32)), .val (.int (2 : Int32)), .val (.int e0_), .val (.int e1_), .val (.int e2_), .val (.ref key), .val (.ref hh), .unset, .unset, .unset] [])) rfl (hb hby at_126) (by decide) (by decide)
        obtain ⟨d, g182⟩ : ∃ z, z = h181.size := ⟨_, rfl⟩
        rw [← g182] at A182 D182 st182
        have g_d : n0 ≤ d := Nat.le_trans Z_181 (Nat.le_of_eq g182.symm)
        have ne_key_d : key ≠ d := Nat.ne_of_lt (Nat.lt_of_lt_of_le Ex171_181.lt (Nat.le_of_eq g182.symm))
        have ne_hh_d : hh ≠ d := Nat.ne_of_lt (Nat.lt_of_lt_of_le Ex177_181.lt (Nat.le_of_eq g182.symm))
        have Od_182 := Od_181.ext E182
        have Ex171_182 := Ex171_181.ext E182
        have Hk_182 := Hk_181.ext E182
        have Ex177_182 := Ex177_181.ext E182
        have Hh_hh_182 := Hh_hh_181.ext E182
        have Z_182 : n0 ≤ h182.size := Nat.le_trans Z_181 E182.1
        have E_d : Exa Z h182 d "com/example/imprimatur/imprimatur/verify/DeviceValues" := A182
        have F_pkHash_d : Fld Z h182 d "com/example/imprimatur/imprimatur/verify/DeviceValues" "pkHash" "[B" .null := D182 (Or.inr (hw _ (List.mem_of_getElem? (i := 31) rfl))) (ty := (.array .byte)) (by decide)
        have F_hwId_d : Fld Z h182 d "com/example/imprimatur/imprimatur/verify/DeviceValues" "hwId" "Ljava/lang/Long;" .null := D182 (Or.inr (hw _ (List.mem_of_getElem? (i := 33) rfl))) (ty := (.object "java/lang/Long")) (by decide)
        have F_swId_d : Fld Z h182 d "com/example/imprimatur/imprimatur/verify/DeviceValues" "swId" "Ljava/lang/Long;" .null := D182 (Or.inr (hw _ (List.mem_of_getElem? (i := 35) rfl))) (ty := (.object "java/lang/Long")) (by decide)
        have F_publicKey_d : Fld Z h182 d "com/example/imprimatur/imprimatur/verify/DeviceValues" "publicKey" "[B" .null := D182 (Or.inr (hw _ (List.mem_of_getElem? (i := 46) rfl))) (ty := (.array .byte)) (by decide)
        have st183 : ∀ target, Steps p.tables e below (T182.setTop (mkF m 134 #[.val (.int p0), .val (.int p1), .val (.int p2), .val (.int p3), .val (.long q4), .second, .val (.int (0 : Int32)), .val (.int (1 : Int32)), .val (.int (2 : Int32)), .val (.int e0_), .val (.int e1_), .val (.int e2_), .val (.ref key), .val (.ref hh), .unset, .unset, .unset] [(.long q4), (.ref hh), (.ref d), (.ref d)])) target → Steps p.tables e below (T182.setTop (mkF m 129 #[.val (.int p0), .val (.int p1), .val (.int p2), .val (.int p3), .val (.long q4), .second, .val (.int (0 : Int32)), .val (.int (1 : Int32)), .val (.int (2 : Int32)), .val (.int e0_), .val (.int e1_), .val (.int e2_), .val (.ref key), .val (.ref hh), .unset, .unset, .unset] [(.ref d)])) target := by
          intro target kt
          show Steps p.tables e below (T182.setTop (mkF m 129 #[.val (.int p0), .val (.int p1), .val (.int p2), .val (.int p3), .val (.long q4), .second, .val (.int (0 : Int32)), .val (.int (1 : Int32)), .val (.int (2 : Int32)), .val (.int e0_), .val (.int e1_), .val (.int e2_), .val (.ref key), .val (.ref hh), .unset, .unset, .unset] [(.ref d)])) _
          refine XS.dup X182.here hx rfl (hb hby at_129) rfl rfl ?_
          show Steps p.tables e below (T182.setTop (mkF m 130 #[.val (.int p0), .val (.int p1), .val (.int p2), .val (.int p3), .val (.long q4), .second, .val (.int (0 : Int32)), .val (.int (1 : Int32)), .val (.int (2 : Int32)), .val (.int e0_), .val (.int e1_), .val (.int e2_), .val (.ref key), .val (.ref hh), .unset, .unset, .unset] [(.ref d), (.ref d)])) _
          refine XS.aload X182.here hx rfl (hb hby at_130) rfl rfl ?_
          show Steps p.tables e below (T182.setTop (mkF m 132 #[.val (.int p0), .val (.int p1), .val (.int p2), .val (.int p3), .val (.long q4), .second, .val (.int (0 : Int32)), .val (.int (1 : Int32)), .val (.int (2 : Int32)), .val (.int e0_), .val (.int e1_), .val (.int e2_), .val (.ref key), .val (.ref hh), .unset, .unset, .unset] [(.ref hh), (.ref d), (.ref d)])) _
          refine XS.lload X182.here hx rfl (hb hby at_132) rfl ?_
          exact kt
        obtain ⟨_, _, ⟨T184, L184, k184, n184⟩, -, X184, ⟨Lc184, hQ184, l184, y184, z184⟩, st184⟩ := Jvm.LawKit.callS X182 hx (y := (⟨"java/lang/Long", "valueOf", "(J)Ljava/lang/Long;"⟩ : MethodName)) hown (mvT hZ (hw _ (List.mem_of_getElem? (i := 4) rfl))) (mvT hZ (hw _ (List.mem_of_getElem? (i := 5) rfl))) (mvT hZ (hw _ (List.mem_of_getElem? (i := 6) rfl))) (mvT hZ (hw _ (List.mem_of_getElem? (i := 7) rfl))) (by decide) (backOf (W := 3) (rm1 l Z a0 hw [] q4 ca cc val h182 n0 Z_182 Bx Od_182 S_c) hZ (hw _ (List.mem_of_getElem? (i := 7) rfl)) (hw _ (List.mem_of_getElem? (i := 6) rfl)) (by decide) (by decide)) (g := (mkF m 134 #[.val (.int p0), .val (.int p1), .val (.int p2), .val (.int p3), .val (.long q4), .second, .val (.int (0 : Int32)), .val (.int (1 : Int32)), .val (.int (2 : Int32)), .val (.int e0_), .val (.int e1_), .val (.int e2_), .val (.ref key), .val (.ref hh), .unset, .unset, .unset] [(.long q4), (.ref hh), (.ref d), (.ref d)])) rfl (by rw [hml]; rfl) (argsL := [(.long q4)]) (rest := [(.ref hh), (.ref d), (.ref d)]) (lenOf pd_0 rfl) rfl (by show 2 * 0 + _ ≤ _; exact Nat.le_of_eq rfl) (hb hby at_134) (fun _ _ => ⟨rfl, e182, (by decide : 3 + 1 ≤ _), (by decide : 38 + 1 ≤ _)⟩)
        dsimp only [Pt.U, Pt.locs, Pt.cells, Pt.slots] at X184 l184 y184 z184 st184 hQ184
        subst l184 y184 z184
        obtain ⟨t184, rfl, Nq184, K184, Et184⟩ := hQ184
        have N184 := Fr.app N181 Nq184
        have Od_184 := Od_182.keep K184 (all0)
        have Ex171_184 := Ex171_182.keep K184
        have Hk_184 := Hk_182.keep K184 nin0
        have Ex177_184 := Ex177_182.keep K184
        have Hh_hh_184 := Hh_hh_182.keep K184 nin0
        have E_d_184 := E_d.keep K184
        have F_pkHash_d_184 := F_pkHash_d.keep K184 nin0
        have F_hwId_d_184 := F_hwId_d.keep K184 nin0
        have F_swId_d_184 := F_swId_d.keep K184 nin0
        have F_publicKey_d_184 := F_publicKey_d.keep K184 nin0
        have Z_184 : n0 ≤ T184.heap.size := Nat.le_trans Z_182 K184.1
        have st185 : ∀ target, Steps p.tables e below (T184.setTop (mkF m 140 #[.val (.int p0), .val (.int p1), .val (.int p2), .val (.int p3), .val (.long q4), .second, .val (.int (0 : Int32)), .val (.int (1 : Int32)), .val (.int (2 : Int32)), .val (.int e0_), .val (.int e1_), .val (.int e2_), .val (.ref key), .val (.ref hh), .unset, .unset, .unset] [(.ref key), .null, (.ref t184), (.ref hh), (.ref d), (.ref d)])) target → Steps p.tables e below (T184.setTop (mkF m 137 #[.val (.int p0), .val (.int p1), .val (.int p2), .val (.int p3), .val (.long q4), .second, .val (.int (0 : Int32)), .val (.int (1 : Int32)), .val (.int (2 : Int32)), .val (.int e0_), .val (.int e1_), .val (.int e2_), .val (.ref key), .val (.ref hh), .unset, .unset, .unset] [(.ref t184), (.ref hh), (.ref d), (.ref d)])) target := by
          intro target kt
          show Steps p.tables e below (T184.setTop (mkF m 137 #[.val (.int p0), .val (.int p1), .val (.int p2), .val (.int p3), .val (.long q4), .second, .val (.int (0 : Int32)), .val (.int (1 : Int32)), .val (.int (2 : Int32)), .val (.int e0_), .val (.int e1_), .val (.int e2_), .val (.ref key), .val (.ref hh), .unset, .unset, .unset] [(.ref t184), (.ref hh), (.ref d), (.ref d)])) _
          refine XS.aconstNull X184.here hx rfl (hb hby at_137) ?_
          show Steps p.tables e below (T184.setTop (mkF m 138 #[.val (.int p0), .val (.int p1), .val (.int p2), .val (.int p3), .val (.long q4), .second, .val (.int (0 : Int32)), .val (.int (1 : Int32)), .val (.int (2 : Int32)), .val (.int e0_), .val (.int e1_), .val (.int e2_), .val (.ref key), .val (.ref hh), .unset, .unset, .unset] [.null, (.ref t184), (.ref hh), (.ref d), (.ref d)])) _
          refine XS.aload X184.here hx rfl (hb hby at_138) rfl rfl ?_
          exact kt
        obtain ⟨_, _, ⟨T186, L186, k186, n186⟩, -, X186, ⟨Lc186, hQ186, l186, y186, z186⟩, st186⟩ := X184.specialBack hx (y := (⟨"com/example/imprimatur/imprimatur/verify/DeviceValues", "<init>", "([BLjava/lang/Long;Ljava/lang/Long;[B)V"⟩ : MethodName)) rfl hown (mvT hZ (hw _ (List.mem_of_getElem? (i := 26) rfl))) (mvT hZ (hw _ (List.mem_of_getElem? (i := 27) rfl))) (mvT hZ (hw _ (List.mem_of_getElem? (i := 28) rfl))) (by decide) (backOf (W := 1) (rmI11 l Z a0 hw [] d hh t184 key k177 [((1 : Int32), (.int (nar .byte ((p2 ^^^ (119 : Int32)).toInt8.toInt32)))), ((0 : Int32), (.int (nar .byte ((p1 ^^^ (51 : Int32)).toInt8.toInt32))))] k171 (2 : Int32) [((1 : Int32), (.int e1_)), ((0 : Int32), (.int e0_))] T184.heap n0 Z_184 F_pkHash_d_184 F_hwId_d_184 F_swId_d_184 F_publicKey_d_184 E_d_184 g_d Hh_hh_184 Ex177_184 (Ne.symm ne_hh_d) Hk_184 Ex171_184 (Ne.symm ne_key_d) (by decide) (Ne.symm ne_key_hh)) hZ (hw _ (List.mem_of_getElem? (i := 28) rfl)) (hw _ (List.mem_of_getElem? (i := 3) rfl)) (by decide) (by decide)) (g := (mkF m 140 #[.val (.int p0), .val (.int p1), .val (.int p2), .val (.int p3), .val (.long q4), .second, .val (.int (0 : Int32)), .val (.int (1 : Int32)), .val (.int (2 : Int32)), .val (.int e0_), .val (.int e1_), .val (.int e2_), .val (.ref key), .val (.ref hh), .unset, .unset, .unset] [(.ref key), .null, (.ref t184), (.ref hh), (.ref d), (.ref d)])) rfl (by rw [hml]; rfl) (Steps.refl _) (a := d) (argsL := [(.ref hh), (.ref t184), .null, (.ref key)]) (rest := [(.ref d)]) (lenOf pd_3 rfl) rfl (by show 2 * 0 + _ ≤ _; exact Nat.le_of_eq rfl) (hb hby at_140) (fun _ _ => ⟨rfl, rfl, (by decide : 4 + 2 ≤ _), (by decide : 39 + 35 ≤ _)⟩)
        dsimp only [Pt.U, Pt.locs, Pt.cells, Pt.slots] at X186 l186 y186 z186 st186 hQ186
        subst l186 y186 z186
        obtain ⟨rfl, Nq186, K186, Ed, c, szc, Fc, Hc, Ec⟩ := hQ186
        have N186 := Fr.app N184 Nq186
        have g_c : n0 ≤ c := Nat.le_trans Z_184 szc
        have ne_key_c : key ≠ c := Nat.ne_of_lt (Nat.lt_of_lt_of_le Ex171_184.lt szc)
        have ne_hh_c : hh ≠ c := Nat.ne_of_lt (Nat.lt_of_lt_of_le Ex177_184.lt szc)
        have ne_d_c : d ≠ c := Nat.ne_of_lt (Nat.lt_of_lt_of_le E_d_184.lt szc)
        have ne_t184_c : t184 ≠ c := Nat.ne_of_lt (Nat.lt_of_lt_of_le Et184.lt szc)
        have Od_186 := Od_184.keep K186 (allS g_d (all0))
        have Ex171_186 := Ex171_184.keep K186
        have Hk_186 := Hk_184.keep K186 (ninS ne_key_d nin0)
        have Ex177_186 := Ex177_184.keep K186
        have Hh_hh_186 := Hh_hh_184.keep K186 (ninS ne_hh_d nin0)
        have E_d_186 := E_d_184.keep K186
        have Et184_186 := Et184.keep K186
        have Z_186 : n0 ≤ T186.heap.size := Nat.le_trans Z_184 K186.1
        have st187 : ∀ target, Steps p.tables e below (T186.setTop (mkF m 161 #[.val (.int p0), .val (.int p1), .val (.int p2), .val (.int p3), .val (.long q4), .second, .val (.int (0 : Int32)), .val (.int (1 : Int32)), .val (.int (2 : Int32)), .val (.int e0_), .val (.int e1_), .val (.int e2_), .val (.ref key), .val (.ref hh), .val (.ref d), .unset, .unset] [(.int (0 : Int32)), (.ref key), (.int (0 : Int32)), (.ref key)])) target → Steps p.tables e below (T186.setTop (mkF m 143 #[.val (.int p0), .val (.int p1), .val (.int p2), .val (.int p3), .val (.long q4), .second, .val (.int (0 : Int32)), .val (.int (1 : Int32)), .val (.int (2 : Int32)), .val (.int e0_), .val (.int e1_), .val (.int e2_), .val (.ref key), .val (.ref hh), .unset, .unset, .unset] [(.ref d)])) target := by
          intro target kt
          show Steps p.tables e below (T186.setTop (mkF m 143 #[.val (.int p0), .val (.int p1), .val (.int p2), .val (.int p3), .val (.long q4), .second, .val (.int (0 : Int32)), .val (.int (1 : Int32)), .val (.int (2 : Int32)), .val (.int e0_), .val (.int e1_), .val (.int e2_), .val (.ref key), .val (.ref hh), .unset, .unset, .unset] [(.ref d)])) _
          refine XS.astore X186.here hx rfl (hb hby at_143) rfl rfl (l' := #[.val (.int p0), .val (.int p1), .val (.int p2), .val (.int p3), .val (.long q4), .second, .val (.int (0 : Int32)), .val (.int (1 : Int32)), .val (.int (2 : Int32)), .val (.int e0_), .val (.int e1_), .val (.int e2_), .val (.ref key), .val (.ref hh), .val (.ref d), .unset, .unset]) rfl ?_
          show Steps p.tables e below (T186.setTop (mkF m 145 #[.val (.int p0), .val (.int p1), .val (.int p2), .val (.int p3), .val (.long q4), .second, .val (.int (0 : Int32)), .val (.int (1 : Int32)), .val (.int (2 : Int32)), .val (.int e0_), .val (.int e1_), .val (.int e2_), .val (.ref key), .val (.ref hh), .val (.ref d), .unset, .unset] [])) _
          refine XS.aload X186.here hx rfl (hb hby at_145) rfl rfl ?_
          show Steps p.tables e below (T186.setTop (mkF m 147 #[.val (.int p0), .val (.int p1), .val (.int p2), .val (.int p3), .val (.long q4), .second, .val (.int (0 : Int32)), .val (.int (1 : Int32)), .val (.int (2 : Int32)), .val (.int e0_), .val (.int e1_), .val (.int e2_), .val (.ref key), .val (.ref hh), .val (.ref d), .unset, .unset] [(.ref key)])) _
          refine XS.ifnullNo X186.here hx rfl (hb hby at_147) rfl ?_
          show Steps p.tables e below (T186.setTop (mkF m 150 #[.val (.int p0), .val (.int p1), .val (.int p2), .val (.int p3), .val (.long q4), .second, .val (.int (0 : Int32)), .val (.int (1 : Int32)), .val (.int (2 : Int32)), .val (.int e0_), .val (.int e1_), .val (.int e2_), .val (.ref key), .val (.ref hh), .val (.ref d), .unset, .unset] [])) _
          refine XS.iload X186.here hx rfl (hb hby at_150) rfl ?_
          show Steps p.tables e below (T186.setTop (mkF m 152 #[.val (.int p0), .val (.int p1), .val (.int p2), .val (.int p3), .val (.long q4), .second, .val (.int (0 : Int32)), .val (.int (1 : Int32)), .val (.int (2 : Int32)), .val (.int e0_), .val (.int e1_), .val (.int e2_), .val (.ref key), .val (.ref hh), .val (.ref d), .unset, .unset] [(.int (2 : Int32))])) _
          refine XS.ifNo X186.here hx rfl (hb hby at_152) rfl ((if0 _ _).trans (tlt (by decide : ((0 : Int32) < (2 : Int32)))).2.2.2) ?_
          show Steps p.tables e below (T186.setTop (mkF m 155 #[.val (.int p0), .val (.int p1), .val (.int p2), .val (.int p3), .val (.long q4), .second, .val (.int (0 : Int32)), .val (.int (1 : Int32)), .val (.int (2 : Int32)), .val (.int e0_), .val (.int e1_), .val (.int e2_), .val (.ref key), .val (.ref hh), .val (.ref d), .unset, .unset] [])) _
          refine XS.aload X186.here hx rfl (hb hby at_155) rfl rfl ?_
          show Steps p.tables e below (T186.setTop (mkF m 157 #[.val (.int p0), .val (.int p1), .val (.int p2), .val (.int p3), .val (.long q4), .second, .val (.int (0 : Int32)), .val (.int (1 : Int32)), .val (.int (2 : Int32)), .val (.int e0_), .val (.int e1_), .val (.int e2_), .val (.ref key), .val (.ref hh), .val (.ref d), .unset, .unset] [(.ref key)])) _
          refine XS.iconst X186.here hx rfl (hb hby at_157) ?_
          show Steps p.tables e below (T186.setTop (mkF m 158 #[.val (.int p0), .val (.int p1), .val (.int p2), .val (.int p3), .val (.long q4), .second, .val (.int (0 : Int32)), .val (.int (1 : Int32)), .val (.int (2 : Int32)), .val (.int e0_), .val (.int e1_), .val (.int e2_), .val (.ref key), .val (.ref hh), .val (.ref d), .unset, .unset] [(.int (0 : Int32)), (.ref key)])) _
          refine XS.aload X186.here hx rfl (hb hby at_158) rfl rfl ?_
          show Steps p.tables e below (T186.setTop (mkF m 160 #[.val (.int p0), .val (.int p1), .val (.int p2), .val (.int p3), .val (.long q4), .second, .val (.int (0 : Int32)), .val (.int (1 : Int32)), .val (.int (2 : Int32)), .val (.int e0_), .val (.int e1_), .val (.int e2_), .val (.ref key), .val (.ref hh), .val (.ref d), .unset, .unset] [(.ref key), (.int (0 : Int32)), (.ref key)])) _
          refine XS.iconst X186.here hx rfl (hb hby at_160) ?_
          exact kt
        obtain ⟨cl188, Ar188, qc188, Sz188, Mn188, Hs188, Gs188⟩ := id Hk_186
        have hin188 : ¬ ((0 : Int32) < 0 ∨ cl188.slots.size ≤ ((0 : Int32)).toNatClampNeg) := own_in Sz188 ⟨by decide, by decide⟩
        have hat188 : cl188.slots[((0 : Int32)).toNatClampNeg]? = some (.int e0_) := atH Hs188 hin188 rfl
        have st189 : ∀ target, Steps p.tables e below (T186.setTop (mkF m 162 #[.val (.int p0), .val (.int p1), .val (.int p2), .val (.int p3), .val (.long q4), .second, .val (.int (0 : Int32)), .val (.int (1 : Int32)), .val (.int (2 : Int32)), .val (.int e0_), .val (.int e1_), .val (.int e2_), .val (.ref key), .val (.ref hh), .val (.ref d), .unset, .unset] [(.int e0_), (.int (0 : Int32)), (.ref key)])) target → Steps p.tables e below (T186.setTop (mkF m 161 #[.val (.int p0), .val (.int p1), .val (.int p2), .val (.int p3), .val (.long q4), .second, .val (.int (0 : Int32)), .val (.int (1 : Int32)), .val (.int (2 : Int32)), .val (.int e0_), .val (.int e1_), .val (.int e2_), .val (.ref key), .val (.ref hh), .val (.ref d), .unset, .unset] [(.int (0 : Int32)), (.ref key), (.int (0 : Int32)), (.ref key)])) target := fun target kt => X186.baloadBytes hx (j := (0 : Int32)) (v := (.int e0_)) Ar188.1 (State.isArrayOf_alike hZ.alike Ar188.2.1) Ar188.2.2 hin188 hat188 (g := (mkF m 161 #[.val (.int p0), .val (.int p1), .val (.int p2), .val (.int p3), .val (.long q4), .second, .val (.int (0 : Int32)), .val (.int (1 : Int32)), .val (.int (2 : Int32)), .val (.int e0_), .val (.int e1_), .val (.int e2_), .val (.ref key), .val (.ref hh), .val (.ref d), .unset, .unset] [(.int (0 : Int32)), (.ref key), (.int (0 : Int32)), (.ref key)])) rfl rfl (hb hby at_161) _ kt
        have st190 : ∀ target, Steps p.tables e below (T186.setTop (mkF m 166 #[.val (.int p0), .val (.int p1), .val (.int p2), .val (.int p3), .val (.long q4), .second, .val (.int (0 : Int32)), .val (.int (1 : Int32)), .val (.int (2 : Int32)), .val (.int e0_), .val (.int e1_), .val (.int e2_), .val (.ref key), .val (.ref hh), .val (.ref d), .unset, .unset] [(.int ((e0_ ^^^ (90 : Int32)).toInt8.toInt32)), (.int (0 : Int32)), (.ref key)])) target → Steps p.tables e below (T186.setTop (mkF m 162 #[.val (.int p0), .val (.int p1), .val (.int p2), .val (.int p3), .val (.long q4), .second, .val (.int (0 : Int32)), .val (.int (1 : Int32)), .val (.int (2 : Int32)), .val (.int e0_), .val (.int e1_), .val (.int e2_), .val (.ref key), .val (.ref hh), .val (.ref d), .unset, .unset] [(.int e0_), (.int (0 : Int32)), (.ref key)])) target := by
          intro target kt
          show Steps p.tables e below (T186.setTop (mkF m 162 #[.val (.int p0), .val (.int p1), .val (.int p2), .val (.int p3), .val (.long q4), .second, .val (.int (0 : Int32)), .val (.int (1 : Int32)), .val (.int (2 : Int32)), .val (.int e0_), .val (.int e1_), .val (.int e2_), .val (.ref key), .val (.ref hh), .val (.ref d), .unset, .unset] [(.int e0_), (.int (0 : Int32)), (.ref key)])) _
          refine XS.bipush X186.here hx rfl (hb hby at_162) ?_
          show Steps p.tables e below (T186.setTop (mkF m 164 #[.val (.int p0), .val (.int p1), .val (.int p2), .val (.int p3), .val (.long q4), .second, .val (.int (0 : Int32)), .val (.int (1 : Int32)), .val (.int (2 : Int32)), .val (.int e0_), .val (.int e1_), .val (.int e2_), .val (.ref key), .val (.ref hh), .val (.ref d), .unset, .unset] [(.int (90 : Int32)), (.int e0_), (.int (0 : Int32)), (.ref key)])) _
          refine XS.ixor X186.here hx rfl (hb hby at_164) rfl ?_
          show Steps p.tables e below (T186.setTop (mkF m 165 #[.val (.int p0), .val (.int p1), .val (.int p2), .val (.int p3), .val (.long q4), .second, .val (.int (0 : Int32)), .val (.int (1 : Int32)), .val (.int (2 : Int32)), .val (.int e0_), .val (.int e1_), .val (.int e2_), .val (.ref key), .val (.ref hh), .val (.ref d), .unset, .unset] [(.int (e0_ ^^^ (90 : Int32))), (.int (0 : Int32)), (.ref key)])) _
          refine XS.i2b X186.here hx rfl (hb hby at_165) rfl ?_
          exact kt
        obtain ⟨cl191, Ar191, qc191, Sz191, Mn191, Hs191, Gs191⟩ := id Hk_186
        have hin191 : ¬ ((0 : Int32) < 0 ∨ cl191.slots.size ≤ ((0 : Int32)).toNatClampNeg) := own_in Sz191 ⟨by decide, by decide⟩
        obtain ⟨T191, h191, X191, e191, W191, st191⟩ := stB X186 hx hZ rfl Ar191 (j := (0 : Int32)) hin191 (g := (mkF m 166 #[.val (.int p0), .val (.int p1), .val (.int p2), .val (.int p3), .val (.long q4), .second, .val (.int (0 : Int32)), .val (.int (1 : Int32)), .val (.int (2 : Int32)), .val (.int e0_), .val (.int e1_), .val (.int e2_), .val (.ref key), .val (.ref hh), .val (.ref d), .unset, .unset] [(.int ((e0_ ^^^ (90 : Int32)).toInt8.toInt32)), (.int (0 : Int32)), (.ref key)])) rfl rfl (hb hby at_166)
        have Hh_key_191 : Arh Z h191 key k171 .byte (2 : Int32) [((0 : Int32), (.int (nar .byte ((e0_ ^^^ (90 : Int32)).toInt8.toInt32)))), ((1 : Int32), (.int e1_)), ((0 : Int32), (.int e0_))] [] (.int (0 : Int32)) := Arh.push Ar191 qc191 Sz191 Mn191 Hs191 Gs191 (fits_nar_byte _) W191 hin191
        have Od_191 := Od_186.wr W191 g_key
        have Ex171_191 := Ex171_186.wr W191
        have Ex177_191 := Ex177_186.wr W191
        have Hh_hh_191 := Hh_hh_186.other W191 (Ne.symm ne_key_hh)
        have Ed_191 := Ed.wr W191
        have Et184_191 := Et184_186.wr W191
        have Fc_191 := Fc.other W191 (Or.inl (Ne.symm ne_key_d))
        have Hc_191 := Hc.other W191 (Ne.symm ne_key_c)
        have Ec_191 := Ec.wr W191
        have Z_191 : n0 ≤ h191.size := Nat.le_trans Z_186 (Keep.of_wr W191).1
        have N191 := Fr.snoc X191 N186 g_key
        have st192 : ∀ target, Steps p.tables e below (T191.setTop (mkF m 169 #[.val (.int p0), .val (.int p1), .val (.int p2), .val (.int p3), .val (.long q4), .second, .val (.int (0 : Int32)), .val (.int (1 : Int32)), .val (.int (2 : Int32)), .val (.int e0_), .val (.int e1_), .val (.int e2_), .val (.ref key), .val (.ref hh), .val (.ref d), .unset, .unset] [(.ref d)])) target → Steps p.tables e below (T191.setTop (mkF m 167 #[.val (.int p0), .val (.int p1), .val (.int p2), .val (.int p3), .val (.long q4), .second, .val (.int (0 : Int32)), .val (.int (1 : Int32)), .val (.int (2 : Int32)), .val (.int e0_), .val (.int e1_), .val (.int e2_), .val (.ref key), .val (.ref hh), .val (.ref d), .unset, .unset] [])) target := by
          intro target kt
          show Steps p.tables e below (T191.setTop (mkF m 167 #[.val (.int p0), .val (.int p1), .val (.int p2), .val (.int p3), .val (.long q4), .second, .val (.int (0 : Int32)), .val (.int (1 : Int32)), .val (.int (2 : Int32)), .val (.int e0_), .val (.int e1_), .val (.int e2_), .val (.ref key), .val (.ref hh), .val (.ref d), .unset, .unset] [])) _
          refine XS.aload X191.here hx rfl (hb hby at_167) rfl rfl ?_
          exact kt
        obtain ⟨cq193, kq193, qv193a, qv193b, qv193c⟩ := isOf hZ e191 Ed_191
        obtain ⟨_, _, ⟨T193, L193, k193, n193⟩, -, X193, ⟨Lc193, hQ193, l193, y193, z193⟩, st193⟩ := X191.virtualBack hx (y := (⟨"com/example/imprimatur/imprimatur/verify/DeviceValues", "publicKey", "()[B"⟩ : MethodName)) (z := (⟨"com/example/imprimatur/imprimatur/verify/DeviceValues", "publicKey", "()[B"⟩ : MethodName)) hown (mvT hZ (hw _ (List.mem_of_getElem? (i := 47) rfl))) (mvT hZ (hw _ (List.mem_of_getElem? (i := 48) rfl))) (notFace_of_selects (args := #[]) (mvT hZ (hw _ (List.mem_of_getElem? (i := 50) rfl)))) (mvT hZ (hw _ (List.mem_of_getElem? (i := 50) rfl))) (mvT hZ (hw _ (List.mem_of_getElem? (i := 49) rfl))) (by decide) (backOf (W := 0) (rm_publicKey l Z a0 hw [] d c k171 (2 : Int32) [((1 : Int32), (.int e1_)), ((0 : Int32), (.int e0_))] h191 n0 Z_191 Fc_191 Hc_191 Ec_191 (by decide)) hZ (hw _ (List.mem_of_getElem? (i := 51) rfl)) (hw _ (List.mem_of_getElem? (i := 3) rfl)) (by decide) (by decide)) qv193a qv193c (g := (mkF m 169 #[.val (.int p0), .val (.int p1), .val (.int p2), .val (.int p3), .val (.long q4), .second, .val (.int (0 : Int32)), .val (.int (1 : Int32)), .val (.int (2 : Int32)), .val (.int e0_), .val (.int e1_), .val (.int e2_), .val (.ref key), .val (.ref hh), .val (.ref d), .unset, .unset] [(.ref d)])) rfl (by rw [hml]; rfl) (Steps.refl _) (argsL := []) (rest := []) (lenOf pd_5 rfl) rfl (by show 2 * 0 + _ ≤ _; exact Nat.le_of_eq rfl) (hb hby at_169) (fun _ _ => ⟨rfl, e191, (by decide : 6 + 1 ≤ _), (by decide : 74 + 3 ≤ _)⟩)
        dsimp only [Pt.U, Pt.locs, Pt.cells, Pt.slots] at X193 l193 y193 z193 st193 hQ193
        subst l193 y193 z193
        obtain ⟨c2_193, rfl, Nq193, K193, sz193, Hr1, Er1⟩ := hQ193
        have N193 := Fr.app N191 Nq193
        have g_c2_193 : n0 ≤ c2_193 := Nat.le_trans Z_191 sz193
        have ne_key_c2_193 : key ≠ c2_193 := Nat.ne_of_lt (Nat.lt_of_lt_of_le Ex171_191.lt sz193)
        have ne_hh_c2_193 : hh ≠ c2_193 := Nat.ne_of_lt (Nat.lt_of_lt_of_le Ex177_191.lt sz193)
        have ne_d_c2_193 : d ≠ c2_193 := Nat.ne_of_lt (Nat.lt_of_lt_of_le Ed_191.lt sz193)
        have ne_t184_c2_193 : t184 ≠ c2_193 := Nat.ne_of_lt (Nat.lt_of_lt_of_le Et184_191.lt sz193)
        have ne_c_c2_193 : c ≠ c2_193 := Nat.ne_of_lt (Nat.lt_of_lt_of_le Hc_191.lt sz193)
        have Od_193 := Od_191.keep K193 (all0)
        have Ex171_193 := Ex171_191.keep K193
        have Ex177_193 := Ex177_191.keep K193
        have Hh_hh_193 := Hh_hh_191.keep K193 nin0
        have Ed_193 := Ed_191.keep K193
        have Et184_193 := Et184_191.keep K193
        have Fc_193 := Fc_191.keep K193 nin0
        have Hc_193 := Hc_191.keep K193 nin0
        have Ec_193 := Ec_191.keep K193
        have Hh_key_193 := Hh_key_191.keep K193 nin0
        have Z_193 : n0 ≤ T193.heap.size := Nat.le_trans Z_191 K193.1
        have st194 : ∀ target, Steps p.tables e below (T193.setTop (mkF m 200 #[.val (.int p0), .val (.int p1), .val (.int p2), .val (.int p3), .val (.long q4), .second, .val (.int (0 : Int32)), .val (.int (1 : Int32)), .val (.int (2 : Int32)), .val (.int e0_), .val (.int e1_), .val (.int e2_), .val (.ref key), .val (.ref hh), .val (.ref d), .val (.ref c2_193), .unset] [(.int e2_), (.int e1_), (.int e0_), (.int (2 : Int32)), (.ref c2_193)])) target → Steps p.tables e below (T193.setTop (mkF m 172 #[.val (.int p0), .val (.int p1), .val (.int p2), .val (.int p3), .val (.long q4), .second, .val (.int (0 : Int32)), .val (.int (1 : Int32)), .val (.int (2 : Int32)), .val (.int e0_), .val (.int e1_), .val (.int e2_), .val (.ref key), .val (.ref hh), .val (.ref d), .unset, .unset] [(.ref c2_193)])) target := by
          intro target kt
          show Steps p.tables e below (T193.setTop (mkF m 172 #[.val (.int p0), .val (.int p1), .val (.int p2), .val (.int p3), .val (.long q4), .second, .val (.int (0 : Int32)), .val (.int (1 : Int32)), .val (.int (2 : Int32)), .val (.int e0_), .val (.int e1_), .val (.int e2_), .val (.ref key), .val (.ref hh), .val (.ref d), .unset, .unset] [(.ref c2_193)])) _
          refine XS.astore X193.here hx rfl (hb hby at_172) rfl rfl (l' := #[.val (.int p0), .val (.int p1), .val (.int p2), .val (.int p3), .val (.long q4), .second, .val (.int (0 : Int32)), .val (.int (1 : Int32)), .val (.int (2 : Int32)), .val (.int e0_), .val (.int e1_), .val (.int e2_), .val (.ref key), .val (.ref hh), .val (.ref d), .val (.ref c2_193), .unset]) rfl ?_
          show Steps p.tables e below (T193.setTop (mkF m 174 #[.val (.int p0), .val (.int p1), .val (.int p2), .val (.int p3), .val (.long q4), .second, .val (.int (0 : Int32)), .val (.int (1 : Int32)), .val (.int (2 : Int32)), .val (.int e0_), .val (.int e1_), .val (.int e2_), .val (.ref key), .val (.ref hh), .val (.ref d), .val (.ref c2_193), .unset] [])) _
          refine XS.iload X193.here hx rfl (hb hby at_174) rfl ?_
          show Steps p.tables e below (T193.setTop (mkF m 176 #[.val (.int p0), .val (.int p1), .val (.int p2), .val (.int p3), .val (.long q4), .second, .val (.int (0 : Int32)), .val (.int (1 : Int32)), .val (.int (2 : Int32)), .val (.int e0_), .val (.int e1_), .val (.int e2_), .val (.ref key), .val (.ref hh), .val (.ref d), .val (.ref c2_193), .unset] [(.int (0 : Int32))])) _
          refine XS.ifYes X193.here hx rfl (pc0 := 176) (pc' := 190) rfl (hb hby at_176) rfl ((if0 _ _).trans (teq (rfl : (0 : Int32) = (0 : Int32))).1) (by decide) (by decide) ?_
          show Steps p.tables e below (T193.setTop (mkF m 190 #[.val (.int p0), .val (.int p1), .val (.int p2), .val (.int p3), .val (.long q4), .second, .val (.int (0 : Int32)), .val (.int (1 : Int32)), .val (.int (2 : Int32)), .val (.int e0_), .val (.int e1_), .val (.int e2_), .val (.ref key), .val (.ref hh), .val (.ref d), .val (.ref c2_193), .unset] [])) _
          refine XS.aload X193.here hx rfl (hb hby at_190) rfl rfl ?_
          show Steps p.tables e below (T193.setTop (mkF m 192 #[.val (.int p0), .val (.int p1), .val (.int p2), .val (.int p3), .val (.long q4), .second, .val (.int (0 : Int32)), .val (.int (1 : Int32)), .val (.int (2 : Int32)), .val (.int e0_), .val (.int e1_), .val (.int e2_), .val (.ref key), .val (.ref hh), .val (.ref d), .val (.ref c2_193), .unset] [(.ref c2_193)])) _
          refine XS.iload X193.here hx rfl (hb hby at_192) rfl ?_
          show Steps p.tables e below (T193.setTop (mkF m 194 #[.val (.int p0), .val (.int p1), .val (.int p2), .val (.int p3), .val (.long q4), .second, .val (.int (0 : Int32)), .val (.int (1 : Int32)), .val (.int (2 : Int32)), .val (.int e0_), .val (.int e1_), .val (.int e2_), .val (.ref key), .val (.ref hh), .val (.ref d), .val (.ref c2_193), .unset] [(.int (2 : Int32)), (.ref c2_193)])) _
          refine XS.iload X193.here hx rfl (hb hby at_194) rfl ?_
          show Steps p.tables e below (T193.setTop (mkF m 196 #[.val (.int p0), .val (.int p1), .val (.int p2), .val (.int p3), .val (.long q4), .second, .val (.int (0 : Int32)), .val (.int (1 : Int32)), .val (.int (2 : Int32)), .val (.int e0_), .val (.int e1_), .val (.int e2_), .val (.ref key), .val (.ref hh), .val (.ref d), .val (.ref c2_193), .unset] [(.int e0_), (.int (2 : Int32)), (.ref c2_193)])) _
          refine XS.iload X193.here hx rfl (hb hby at_196) rfl ?_
          show Steps p.tables e below (T193.setTop (mkF m 198 #[.val (.int p0), .val (.int p1), .val (.int p2), .val (.int p3), .val (.long q4), .second, .val (.int (0 : Int32)), .val (.int (1 : Int32)), .val (.int (2 : Int32)), .val (.int e0_), .val (.int e1_), .val (.int e2_), .val (.ref key), .val (.ref hh), .val (.ref d), .val (.ref c2_193), .unset] [(.int e1_), (.int e0_), (.int (2 : Int32)), (.ref c2_193)])) _
          refine XS.iload X193.here hx rfl (hb hby at_198) rfl ?_
          exact kt
        obtain ⟨_, _, ⟨T195, L195, k195, n195⟩, -, X195, ⟨Lc195, hQ195, l195, y195, z195⟩, st195⟩ := Jvm.LawKit.callS X193 hx (y := (⟨"com/example/imprimatur/imprimatur/verify/DeviceValuesPublicKeyPinLaw", "same", "([BIBBB)Z"⟩ : MethodName)) hown (mvT hZ (hw _ (List.mem_of_getElem? (i := 52) rfl))) (mvT hZ (hw _ (List.mem_of_getElem? (i := 53) rfl))) (mvT hZ (hw _ (List.mem_of_getElem? (i := 54) rfl))) (mvT hZ (hw _ (List.mem_of_getElem? (i := 55) rfl))) (by decide) (backOf (W := 0) (rmS2 l Z a0 hw [] c2_193 e0_ e1_ e2_ k171 [((1 : Int32), (.int e1_)), ((0 : Int32), (.int e0_))] T193.heap n0 Z_193 Hr1 rfl rfl) hZ (hw _ (List.mem_of_getElem? (i := 55) rfl)) (hw _ (List.mem_of_getElem? (i := 54) rfl)) (by decide) (by decide)) (g := (mkF m 200 #[.val (.int p0), .val (.int p1), .val (.int p2), .val (.int p3), .val (.long q4), .second, .val (.int (0 : Int32)), .val (.int (1 : Int32)), .val (.int (2 : Int32)), .val (.int e0_), .val (.int e1_), .val (.int e2_), .val (.ref key), .val (.ref hh), .val (.ref d), .val (.ref c2_193), .unset] [(.int e2_), (.int e1_), (.int e0_), (.int (2 : Int32)), (.ref c2_193)])) rfl (by rw [hml]; rfl) (argsL := [(.ref c2_193), (.int (2 : Int32)), (.int e0_), (.int e1_), (.int e2_)]) (rest := []) (lenOf pd_6 rfl) rfl (by show 2 * 0 + _ ≤ _; exact Nat.le_of_eq rfl) (hb hby at_200) (fun _ _ => ⟨rfl, rfl, (by decide : 7 + 0 ≤ _), (by decide : 77 + 0 ≤ _)⟩)
        dsimp only [Pt.U, Pt.locs, Pt.cells, Pt.slots] at X195 l195 y195 z195 st195 hQ195
        subst l195 y195 z195
        obtain ⟨rfl, Nq195, e195⟩ := hQ195
        have N195 := Fr.app N193 Nq195
        have st196 : ∀ target, Steps p.tables e below (T195.setTop (mkF m 219 #[.val (.int p0), .val (.int p1), .val (.int p2), .val (.int p3), .val (.long q4), .second, .val (.int (0 : Int32)), .val (.int (1 : Int32)), .val (.int (2 : Int32)), .val (.int e0_), .val (.int e1_), .val (.int e2_), .val (.ref key), .val (.ref hh), .val (.ref d), .val (.ref c2_193), .unset] [(.int (0 : Int32)), (.ref c2_193), (.int (0 : Int32)), (.ref c2_193)])) target → Steps p.tables e below (T195.setTop (mkF m 203 #[.val (.int p0), .val (.int p1), .val (.int p2), .val (.int p3), .val (.long q4), .second, .val (.int (0 : Int32)), .val (.int (1 : Int32)), .val (.int (2 : Int32)), .val (.int e0_), .val (.int e1_), .val (.int e2_), .val (.ref key), .val (.ref hh), .val (.ref d), .val (.ref c2_193), .unset] [(.int (1 : Int32))])) target := by
          intro target kt
          show Steps p.tables e below (T195.setTop (mkF m 203 #[.val (.int p0), .val (.int p1), .val (.int p2), .val (.int p3), .val (.long q4), .second, .val (.int (0 : Int32)), .val (.int (1 : Int32)), .val (.int (2 : Int32)), .val (.int e0_), .val (.int e1_), .val (.int e2_), .val (.ref key), .val (.ref hh), .val (.ref d), .val (.ref c2_193), .unset] [(.int (1 : Int32))])) _
          refine XS.ifYes X195.here hx rfl (pc0 := 203) (pc' := 208) rfl (hb hby at_203) rfl ((if0 _ _).trans (feq (by decide : ¬ ((1 : Int32) = (0 : Int32)))).2) (by decide) (by decide) ?_
          show Steps p.tables e below (T195.setTop (mkF m 208 #[.val (.int p0), .val (.int p1), .val (.int p2), .val (.int p3), .val (.long q4), .second, .val (.int (0 : Int32)), .val (.int (1 : Int32)), .val (.int (2 : Int32)), .val (.int e0_), .val (.int e1_), .val (.int e2_), .val (.ref key), .val (.ref hh), .val (.ref d), .val (.ref c2_193), .unset] [])) _
          refine XS.iload X195.here hx rfl (hb hby at_208) rfl ?_
          show Steps p.tables e below (T195.setTop (mkF m 210 #[.val (.int p0), .val (.int p1), .val (.int p2), .val (.int p3), .val (.long q4), .second, .val (.int (0 : Int32)), .val (.int (1 : Int32)), .val (.int (2 : Int32)), .val (.int e0_), .val (.int e1_), .val (.int e2_), .val (.ref key), .val (.ref hh), .val (.ref d), .val (.ref c2_193), .unset] [(.int (2 : Int32))])) _
          refine XS.ifNo X195.here hx rfl (hb hby at_210) rfl ((if0 _ _).trans (tlt (by decide : ((0 : Int32) < (2 : Int32)))).2.2.2) ?_
          show Steps p.tables e below (T195.setTop (mkF m 213 #[.val (.int p0), .val (.int p1), .val (.int p2), .val (.int p3), .val (.long q4), .second, .val (.int (0 : Int32)), .val (.int (1 : Int32)), .val (.int (2 : Int32)), .val (.int e0_), .val (.int e1_), .val (.int e2_), .val (.ref key), .val (.ref hh), .val (.ref d), .val (.ref c2_193), .unset] [])) _
          refine XS.aload X195.here hx rfl (hb hby at_213) rfl rfl ?_
          show Steps p.tables e below (T195.setTop (mkF m 215 #[.val (.int p0), .val (.int p1), .val (.int p2), .val (.int p3), .val (.long q4), .second, .val (.int (0 : Int32)), .val (.int (1 : Int32)), .val (.int (2 : Int32)), .val (.int e0_), .val (.int e1_), .val (.int e2_), .val (.ref key), .val (.ref hh), .val (.ref d), .val (.ref c2_193), .unset] [(.ref c2_193)])) _
          refine XS.iconst X195.here hx rfl (hb hby at_215) ?_
          show Steps p.tables e below (T195.setTop (mkF m 216 #[.val (.int p0), .val (.int p1), .val (.int p2), .val (.int p3), .val (.long q4), .second, .val (.int (0 : Int32)), .val (.int (1 : Int32)), .val (.int (2 : Int32)), .val (.int e0_), .val (.int e1_), .val (.int e2_), .val (.ref key), .val (.ref hh), .val (.ref d), .val (.ref c2_193), .unset] [(.int (0 : Int32)), (.ref c2_193)])) _
          refine XS.aload X195.here hx rfl (hb hby at_216) rfl rfl ?_
          show Steps p.tables e below (T195.setTop (mkF m 218 #[.val (.int p0), .val (.int p1), .val (.int p2), .val (.int p3), .val (.long q4), .second, .val (.int (0 : Int32)), .val (.int (1 : Int32)), .val (.int (2 : Int32)), .val (.int e0_), .val (.int e1_), .val (.int e2_), .val (.ref key), .val (.ref hh), .val (.ref d), .val (.ref c2_193), .unset] [(.ref c2_193), (.int (0 : Int32)), (.ref c2_193)])) _
          refine XS.iconst X195.here hx rfl (hb hby at_218) ?_
          exact kt
        obtain ⟨cl197, Ar197, qc197, Sz197, Mn197, Hs197, Gs197⟩ := id Hr1
        have hin197 : ¬ ((0 : Int32) < 0 ∨ cl197.slots.size ≤ ((0 : Int32)).toNatClampNeg) := own_in Sz197 ⟨by decide, by decide⟩
        have hat197 : cl197.slots[((0 : Int32)).toNatClampNeg]? = some (.int e0_) := atH Hs197 hin197 rfl
        have st198 : ∀ target, Steps p.tables e below (T195.setTop (mkF m 220 #[.val (.int p0), .val (.int p1), .val (.int p2), .val (.int p3), .val (.long q4), .second, .val (.int (0 : Int32)), .val (.int (1 : Int32)), .val (.int (2 : Int32)), .val (.int e0_), .val (.int e1_), .val (.int e2_), .val (.ref key), .val (.ref hh), .val (.ref d), .val (.ref c2_193), .unset] [(.int e0_), (.int (0 : Int32)), (.ref c2_193)])) target → Steps p.tables e below (T195.setTop (mkF m 219 #[.val (.int p0), .val (.int p1), .val (.int p2), .val (.int p3), .val (.long q4), .second, .val (.int (0 : Int32)), .val (.int (1 : Int32)), .val (.int (2 : Int32)), .val (.int e0_), .val (.int e1_), .val (.int e2_), .val (.ref key), .val (.ref hh), .val (.ref d), .val (.ref c2_193), .unset] [(.int (0 : Int32)), (.ref c2_193), (.int (0 : Int32)), (.ref c2_193)])) target := fun target kt => X195.baloadBytes hx (j := (0 : Int32)) (v := (.int e0_)) (by rw [e195]; exact Ar197.1) (State.isArrayOf_alike hZ.alike Ar197.2.1) Ar197.2.2 hin197 hat197 (g := (mkF m 219 #[.val (.int p0), .val (.int p1), .val (.int p2), .val (.int p3), .val (.long q4), .second, .val (.int (0 : Int32)), .val (.int (1 : Int32)), .val (.int (2 : Int32)), .val (.int e0_), .val (.int e1_), .val (.int e2_), .val (.ref key), .val (.ref hh), .val (.ref d), .val (.ref c2_193), .unset] [(.int (0 : Int32)), (.ref c2_193), (.int (0 : Int32)), (.ref c2_193)])) rfl rfl (hb hby at_219) _ kt
        have st199 : ∀ target, Steps p.tables e below (T195.setTop (mkF m 223 #[.val (.int p0), .val (.int p1), .val (.int p2), .val (.int p3), .val (.long q4), .second, .val (.int (0 : Int32)), .val (.int (1 : Int32)), .val (.int (2 : Int32)), .val (.int e0_), .val (.int e1_), .val (.int e2_), .val (.ref key), .val (.ref hh), .val (.ref d), .val (.ref c2_193), .unset] [(.int ((e0_ ^^^ (1 : Int32)).toInt8.toInt32)), (.int (0 : Int32)), (.ref c2_193)])) target → Steps p.tables e below (T195.setTop (mkF m 220 #[.val (.int p0), .val (.int p1), .val (.int p2), .val (.int p3), .val (.long q4), .second, .val (.int (0 : Int32)), .val (.int (1 : Int32)), .val (.int (2 : Int32)), .val (.int e0_), .val (.int e1_), .val (.int e2_), .val (.ref key), .val (.ref hh), .val (.ref d), .val (.ref c2_193), .unset] [(.int e0_), (.int (0 : Int32)), (.ref c2_193)])) target := by
          intro target kt
          show Steps p.tables e below (T195.setTop (mkF m 220 #[.val (.int p0), .val (.int p1), .val (.int p2), .val (.int p3), .val (.long q4), .second, .val (.int (0 : Int32)), .val (.int (1 : Int32)), .val (.int (2 : Int32)), .val (.int e0_), .val (.int e1_), .val (.int e2_), .val (.ref key), .val (.ref hh), .val (.ref d), .val (.ref c2_193), .unset] [(.int e0_), (.int (0 : Int32)), (.ref c2_193)])) _
          refine XS.iconst X195.here hx rfl (hb hby at_220) ?_
          show Steps p.tables e below (T195.setTop (mkF m 221 #[.val (.int p0), .val (.int p1), .val (.int p2), .val (.int p3), .val (.long q4), .second, .val (.int (0 : Int32)), .val (.int (1 : Int32)), .val (.int (2 : Int32)), .val (.int e0_), .val (.int e1_), .val (.int e2_), .val (.ref key), .val (.ref hh), .val (.ref d), .val (.ref c2_193), .unset] [(.int (1 : Int32)), (.int e0_), (.int (0 : Int32)), (.ref c2_193)])) _
          refine XS.ixor X195.here hx rfl (hb hby at_221) rfl ?_
          show Steps p.tables e below (T195.setTop (mkF m 222 #[.val (.int p0), .val (.int p1), .val (.int p2), .val (.int p3), .val (.long q4), .second, .val (.int (0 : Int32)), .val (.int (1 : Int32)), .val (.int (2 : Int32)), .val (.int e0_), .val (.int e1_), .val (.int e2_), .val (.ref key), .val (.ref hh), .val (.ref d), .val (.ref c2_193), .unset] [(.int (e0_ ^^^ (1 : Int32))), (.int (0 : Int32)), (.ref c2_193)])) _
          refine XS.i2b X195.here hx rfl (hb hby at_222) rfl ?_
          exact kt
        obtain ⟨cl200, Ar200, qc200, Sz200, Mn200, Hs200, Gs200⟩ := id Hr1
        have hin200 : ¬ ((0 : Int32) < 0 ∨ cl200.slots.size ≤ ((0 : Int32)).toNatClampNeg) := own_in Sz200 ⟨by decide, by decide⟩
        obtain ⟨T200, h200, X200, e200, W200, st200⟩ := stB X195 hx hZ e195 Ar200 (j := (0 : Int32)) hin200 (g := (mkF m 223 #[.val (.int p0), .val (.int p1), .val (.int p2), .val (.int p3), .val (.long q4), .second, .val (.int (0 : Int32)), .val (.int (1 : Int32)), .val (.int (2 : Int32)), .val (.int e0_), .val (.int e1_), .val (.int e2_), .val (.ref key), .val (.ref hh), .val (.ref d), .val (.ref c2_193), .unset] [(.int ((e0_ ^^^ (1 : Int32)).toInt8.toInt32)), (.int (0 : Int32)), (.ref c2_193)])) rfl rfl (hb hby at_223)
        have Hh_c2_193_200 : Arh Z h200 c2_193 k171 .byte (2 : Int32) [((0 : Int32), (.int (nar .byte ((e0_ ^^^ (1 : Int32)).toInt8.toInt32)))), ((1 : Int32), (.int e1_)), ((0 : Int32), (.int e0_))] [] (.int (0 : Int32)) := Arh.push Ar200 qc200 Sz200 Mn200 Hs200 Gs200 (fits_nar_byte _) W200 hin200
        have Od_200 := Od_193.wr W200 g_c2_193
        have Ex171_200 := Ex171_193.wr W200
        have Ex177_200 := Ex177_193.wr W200
        have Hh_hh_200 := Hh_hh_193.other W200 ne_hh_c2_193
        have Ed_200 := Ed_193.wr W200
        have Et184_200 := Et184_193.wr W200
        have Fc_200 := Fc_193.other W200 (Or.inl ne_d_c2_193)
        have Hc_200 := Hc_193.other W200 ne_c_c2_193
        have Ec_200 := Ec_193.wr W200
        have Hh_key_200 := Hh_key_193.other W200 ne_key_c2_193
        have Er1_200 := Er1.wr W200
        have Z_200 : n0 ≤ h200.size := Nat.le_trans Z_193 (Keep.of_wr W200).1
        have N200 := Fr.snoc X200 N195 g_c2_193
        have st201 : ∀ target, Steps p.tables e below (T200.setTop (mkF m 226 #[.val (.int p0), .val (.int p1), .val (.int p2), .val (.int p3), .val (.long q4), .second, .val (.int (0 : Int32)), .val (.int (1 : Int32)), .val (.int (2 : Int32)), .val (.int e0_), .val (.int e1_), .val (.int e2_), .val (.ref key), .val (.ref hh), .val (.ref d), .val (.ref c2_193), .unset] [(.ref d)])) target → Steps p.tables e below (T200.setTop (mkF m 224 #[.val (.int p0), .val (.int p1), .val (.int p2), .val (.int p3), .val (.long q4), .second, .val (.int (0 : Int32)), .val (.int (1 : Int32)), .val (.int (2 : Int32)), .val (.int e0_), .val (.int e1_), .val (.int e2_), .val (.ref key), .val (.ref hh), .val (.ref d), .val (.ref c2_193), .unset] [])) target := by
          intro target kt
          show Steps p.tables e below (T200.setTop (mkF m 224 #[.val (.int p0), .val (.int p1), .val (.int p2), .val (.int p3), .val (.long q4), .second, .val (.int (0 : Int32)), .val (.int (1 : Int32)), .val (.int (2 : Int32)), .val (.int e0_), .val (.int e1_), .val (.int e2_), .val (.ref key), .val (.ref hh), .val (.ref d), .val (.ref c2_193), .unset] [])) _
          refine XS.aload X200.here hx rfl (hb hby at_224) rfl rfl ?_
          exact kt
        obtain ⟨cq202, kq202, qv202a, qv202b, qv202c⟩ := isOf hZ e200 Ed_200
        obtain ⟨_, _, ⟨T202, L202, k202, n202⟩, -, X202, ⟨Lc202, hQ202, l202, y202, z202⟩, st202⟩ := X200.virtualBack hx (y := (⟨"com/example/imprimatur/imprimatur/verify/DeviceValues", "publicKey", "()[B"⟩ : MethodName)) (z := (⟨"com/example/imprimatur/imprimatur/verify/DeviceValues", "publicKey", "()[B"⟩ : MethodName)) hown (mvT hZ (hw _ (List.mem_of_getElem? (i := 47) rfl))) (mvT hZ (hw _ (List.mem_of_getElem? (i := 48) rfl))) (notFace_of_selects (args := #[]) (mvT hZ (hw _ (List.mem_of_getElem? (i := 50) rfl)))) (mvT hZ (hw _ (List.mem_of_getElem? (i := 50) rfl))) (mvT hZ (hw _ (List.mem_of_getElem? (i := 49) rfl))) (by decide) (backOf (W := 0) (rm_publicKey l Z a0 hw [] d c k171 (2 : Int32) [((1 : Int32), (.int e1_)), ((0 : Int32), (.int e0_))] h200 n0 Z_200 Fc_200 Hc_200 Ec_200 (by decide)) hZ (hw _ (List.mem_of_getElem? (i := 51) rfl)) (hw _ (List.mem_of_getElem? (i := 3) rfl)) (by decide) (by decide)) qv202a qv202c (g := (mkF m 226 #[.val (.int p0), .val (.int p1), .val (.int p2), .val (.int p3), .val (.long q4), .second, .val (.int (0 : Int32)), .val (.int (1 : Int32)), .val (.int (2 : Int32)), .val (.int e0_), .val (.int e1_), .val (.int e2_), .val (.ref key), .val (.ref hh), .val (.ref d), .val (.ref c2_193), .unset] [(.ref d)])) rfl (by rw [hml]; rfl) (Steps.refl _) (argsL := []) (rest := []) (lenOf pd_5 rfl) rfl (by show 2 * 0 + _ ≤ _; exact Nat.le_of_eq rfl) (hb hby at_226) (fun _ _ => ⟨rfl, e200, (by decide : 7 + 1 ≤ _), (by decide : 77 + 3 ≤ _)⟩)
        dsimp only [Pt.U, Pt.locs, Pt.cells, Pt.slots] at X202 l202 y202 z202 st202 hQ202
        subst l202 y202 z202
        obtain ⟨c2_202, rfl, Nq202, K202, sz202, Hr2, Er2⟩ := hQ202
        have N202 := Fr.app N200 Nq202
        have g_c2_202 : n0 ≤ c2_202 := Nat.le_trans Z_200 sz202
        have ne_key_c2_202 : key ≠ c2_202 := Nat.ne_of_lt (Nat.lt_of_lt_of_le Ex171_200.lt sz202)
        have ne_hh_c2_202 : hh ≠ c2_202 := Nat.ne_of_lt (Nat.lt_of_lt_of_le Ex177_200.lt sz202)
        have ne_d_c2_202 : d ≠ c2_202 := Nat.ne_of_lt (Nat.lt_of_lt_of_le Ed_200.lt sz202)
        have ne_t184_c2_202 : t184 ≠ c2_202 := Nat.ne_of_lt (Nat.lt_of_lt_of_le Et184_200.lt sz202)
        have ne_c_c2_202 : c ≠ c2_202 := Nat.ne_of_lt (Nat.lt_of_lt_of_le Hc_200.lt sz202)
        have ne_c2_193_c2_202 : c2_193 ≠ c2_202 := Nat.ne_of_lt (Nat.lt_of_lt_of_le Er1_200.lt sz202)
        have Od_202 := Od_200.keep K202 (all0)
        have Ex171_202 := Ex171_200.keep K202
        have Ex177_202 := Ex177_200.keep K202
        have Hh_hh_202 := Hh_hh_200.keep K202 nin0
        have Ed_202 := Ed_200.keep K202
        have Et184_202 := Et184_200.keep K202
        have Fc_202 := Fc_200.keep K202 nin0
        have Hc_202 := Hc_200.keep K202 nin0
        have Ec_202 := Ec_200.keep K202
        have Hh_key_202 := Hh_key_200.keep K202 nin0
        have Er1_202 := Er1_200.keep K202
        have Hh_c2_193_202 := Hh_c2_193_200.keep K202 nin0
        have Z_202 : n0 ≤ T202.heap.size := Nat.le_trans Z_200 K202.1
        have st203 : ∀ target, Steps p.tables e below (T202.setTop (mkF m 241 #[.val (.int p0), .val (.int p1), .val (.int p2), .val (.int p3), .val (.long q4), .second, .val (.int (0 : Int32)), .val (.int (1 : Int32)), .val (.int (2 : Int32)), .val (.int e0_), .val (.int e1_), .val (.int e2_), .val (.ref key), .val (.ref hh), .val (.ref d), .val (.ref c2_193), .val (.ref c2_202)] [(.int e2_), (.int e1_), (.int e0_), (.int (2 : Int32)), (.ref c2_202)])) target → Steps p.tables e below (T202.setTop (mkF m 229 #[.val (.int p0), .val (.int p1), .val (.int p2), .val (.int p3), .val (.long q4), .second, .val (.int (0 : Int32)), .val (.int (1 : Int32)), .val (.int (2 : Int32)), .val (.int e0_), .val (.int e1_), .val (.int e2_), .val (.ref key), .val (.ref hh), .val (.ref d), .val (.ref c2_193), .unset] [(.ref c2_202)])) target := by
          intro target kt
          show Steps p.tables e below (T202.setTop (mkF m 229 #[.val (.int p0), .val (.int p1), .val (.int p2), .val (.int p3), .val (.long q4), .second, .val (.int (0 : Int32)), .val (.int (1 : Int32)), .val (.int (2 : Int32)), .val (.int e0_), .val (.int e1_), .val (.int e2_), .val (.ref key), .val (.ref hh), .val (.ref d), .val (.ref c2_193), .unset] [(.ref c2_202)])) _
          refine XS.astore X202.here hx rfl (hb hby at_229) rfl rfl (l' := #[.val (.int p0), .val (.int p1), .val (.int p2), .val (.int p3), .val (.long q4), .second, .val (.int (0 : Int32)), .val (.int (1 : Int32)), .val (.int (2 : Int32)), .val (.int e0_), .val (.int e1_), .val (.int e2_), .val (.ref key), .val (.ref hh), .val (.ref d), .val (.ref c2_193), .val (.ref c2_202)]) rfl ?_
          show Steps p.tables e below (T202.setTop (mkF m 231 #[.val (.int p0), .val (.int p1), .val (.int p2), .val (.int p3), .val (.long q4), .second, .val (.int (0 : Int32)), .val (.int (1 : Int32)), .val (.int (2 : Int32)), .val (.int e0_), .val (.int e1_), .val (.int e2_), .val (.ref key), .val (.ref hh), .val (.ref d), .val (.ref c2_193), .val (.ref c2_202)] [])) _
          refine XS.aload X202.here hx rfl (hb hby at_231) rfl rfl ?_
          show Steps p.tables e below (T202.setTop (mkF m 233 #[.val (.int p0), .val (.int p1), .val (.int p2), .val (.int p3), .val (.long q4), .second, .val (.int (0 : Int32)), .val (.int (1 : Int32)), .val (.int (2 : Int32)), .val (.int e0_), .val (.int e1_), .val (.int e2_), .val (.ref key), .val (.ref hh), .val (.ref d), .val (.ref c2_193), .val (.ref c2_202)] [(.ref c2_202)])) _
          refine XS.iload X202.here hx rfl (hb hby at_233) rfl ?_
          show Steps p.tables e below (T202.setTop (mkF m 235 #[.val (.int p0), .val (.int p1), .val (.int p2), .val (.int p3), .val (.long q4), .second, .val (.int (0 : Int32)), .val (.int (1 : Int32)), .val (.int (2 : Int32)), .val (.int e0_), .val (.int e1_), .val (.int e2_), .val (.ref key), .val (.ref hh), .val (.ref d), .val (.ref c2_193), .val (.ref c2_202)] [(.int (2 : Int32)), (.ref c2_202)])) _
          refine XS.iload X202.here hx rfl (hb hby at_235) rfl ?_
          show Steps p.tables e below (T202.setTop (mkF m 237 #[.val (.int p0), .val (.int p1), .val (.int p2), .val (.int p3), .val (.long q4), .second, .val (.int (0 : Int32)), .val (.int (1 : Int32)), .val (.int (2 : Int32)), .val (.int e0_), .val (.int e1_), .val (.int e2_), .val (.ref key), .val (.ref hh), .val (.ref d), .val (.ref c2_193), .val (.ref c2_202)] [(.int e0_), (.int (2 : Int32)), (.ref c2_202)])) _
          refine XS.iload X202.here hx rfl (hb hby at_237) rfl ?_
          show Steps p.tables e below (T202.setTop (mkF m 239 #[.val (.int p0), .val (.int p1), .val (.int p2), .val (.int p3), .val (.long q4), .second, .val (.int (0 : Int32)), .val (.int (1 : Int32)), .val (.int (2 : Int32)), .val (.int e0_), .val (.int e1_), .val (.int e2_), .val (.ref key), .val (.ref hh), .val (.ref d), .val (.ref c2_193), .val (.ref c2_202)] [(.int e1_), (.int e0_), (.int (2 : Int32)), (.ref c2_202)])) _
          refine XS.iload X202.here hx rfl (hb hby at_239) rfl ?_
          exact kt
        obtain ⟨_, _, ⟨T204, L204, k204, n204⟩, -, X204, ⟨Lc204, hQ204, l204, y204, z204⟩, st204⟩ := Jvm.LawKit.callS X202 hx (y := (⟨"com/example/imprimatur/imprimatur/verify/DeviceValuesPublicKeyPinLaw", "same", "([BIBBB)Z"⟩ : MethodName)) hown (mvT hZ (hw _ (List.mem_of_getElem? (i := 52) rfl))) (mvT hZ (hw _ (List.mem_of_getElem? (i := 53) rfl))) (mvT hZ (hw _ (List.mem_of_getElem? (i := 54) rfl))) (mvT hZ (hw _ (List.mem_of_getElem? (i := 55) rfl))) (by decide) (backOf (W := 0) (rmS2 l Z a0 hw [] c2_202 e0_ e1_ e2_ k171 [((1 : Int32), (.int e1_)), ((0 : Int32), (.int e0_))] T202.heap n0 Z_202 Hr2 rfl rfl) hZ (hw _ (List.mem_of_getElem? (i := 55) rfl)) (hw _ (List.mem_of_getElem? (i := 54) rfl)) (by decide) (by decide)) (g := (mkF m 241 #[.val (.int p0), .val (.int p1), .val (.int p2), .val (.int p3), .val (.long q4), .second, .val (.int (0 : Int32)), .val (.int (1 : Int32)), .val (.int (2 : Int32)), .val (.int e0_), .val (.int e1_), .val (.int e2_), .val (.ref key), .val (.ref hh), .val (.ref d), .val (.ref c2_193), .val (.ref c2_202)] [(.int e2_), (.int e1_), (.int e0_), (.int (2 : Int32)), (.ref c2_202)])) rfl (by rw [hml]; rfl) (argsL := [(.ref c2_202), (.int (2 : Int32)), (.int e0_), (.int e1_), (.int e2_)]) (rest := []) (lenOf pd_6 rfl) rfl (by show 2 * 0 + _ ≤ _; exact Nat.le_of_eq rfl) (hb hby at_241) (fun _ _ => ⟨rfl, rfl, (by decide : 8 + 0 ≤ _), (by decide : 80 + 0 ≤ _)⟩)
        dsimp only [Pt.U, Pt.locs, Pt.cells, Pt.slots] at X204 l204 y204 z204 st204 hQ204
        subst l204 y204 z204
        obtain ⟨rfl, Nq204, e204⟩ := hQ204
        have N204 := Fr.app N202 Nq204
        obtain ⟨fs, hr, hrun, hended, hW, hsame⟩ := X204.leave (v := some (.int (1 : Int32))) (fun h => by rw [Bd.returns] at h; cases h)
        refine ⟨_, _, pre0 _ (st1 _ (st2 _ (st3 _ (st113 _ (st114 _ (st115 _ (st170 _ (st171 _ (st172 _ (st173 _ (st174 _ (st175 _ (st176 _ (st177 _ (st178 _ (st179 _ (st180 _ (st181 _ (st182 _ (st183 _ (st184 _ (st185 _ (st186.trans (st187 _ (st189 _ (st190 _ (st191 _ (st192 _ (st193.trans (st194 _ (st195 _ (st196 _ (st198 _ (st199 _ (st200 _ (st201 _ (st202.trans (st203 _ (st204 _ ?_))))))))))))))))))))))))))))))))))))))), hrun, hended, _, _, rfl, ?_, ⟨_, rfl⟩, hW, hsame.mono (by decide) (by decide)⟩
        · show Steps p.tables e below (T204.setTop (mkF m 244 #[.val (.int p0), .val (.int p1), .val (.int p2), .val (.int p3), .val (.long q4), .second, .val (.int (0 : Int32)), .val (.int (1 : Int32)), .val (.int (2 : Int32)), .val (.int e0_), .val (.int e1_), .val (.int e2_), .val (.ref key), .val (.ref hh), .val (.ref d), .val (.ref c2_193), .val (.ref c2_202)] [(.int (1 : Int32))])) _
          exact retN X204 hx (t := .boolean) Bd.returns (by simp) (hb hby at_244) hr
        · show Q_rm0 Z p0 p1 p2 p3 q4 ca cc val h0 n0 _ T204.heap _
          rw [e204]
          exact ⟨rfl, N204⟩
      · have st205 : ∀ target, Steps p.tables e below (s₁.setTop (mkF m 55 #[.val (.int p0), .val (.int p1), .val (.int p2), .val (.int p3), .val (.long q4), .second, .val (.int (0 : Int32)), .val (.int (1 : Int32)), .val (.int (3 : Int32)), .val (.int e0_), .val (.int e1_), .val (.int e2_), .val .null, .unset, .unset, .unset, .unset] [(.int (3 : Int32))])) target → Steps p.tables e below (s₁.setTop (mkF m 45 #[.val (.int p0), .val (.int p1), .val (.int p2), .val (.int p3), .val (.long q4), .second, .val (.int (0 : Int32)), .val (.int (1 : Int32)), .val (.int (3 : Int32)), .val (.int e0_), .val (.int e1_), .val (.int e2_), .unset, .unset, .unset, .unset, .unset] [])) target := by
          intro target kt
          show Steps p.tables e below (s₁.setTop (mkF m 45 #[.val (.int p0), .val (.int p1), .val (.int p2), .val (.int p3), .val (.long q4), .second, .val (.int (0 : Int32)), .val (.int (1 : Int32)), .val (.int (3 : Int32)), .val (.int e0_), .val (.int e1_), .val (.int e2_), .unset, .unset, .unset, .unset, .unset] [])) _
          refine XS.aconstNull X0.here hx rfl (hb hby at_45) ?_
          show Steps p.tables e below (s₁.setTop (mkF m 46 #[.val (.int p0), .val (.int p1), .val (.int p2), .val (.int p3), .val (.long q4), .second, .val (.int (0 : Int32)), .val (.int (1 : Int32)), .val (.int (3 : Int32)), .val (.int e0_), .val (.int e1_), .val (.int e2_), .unset, .unset, .unset, .unset, .unset] [.null])) _
          refine XS.astore X0.here hx rfl (hb hby at_46) rfl rfl (l' := #[.val (.int p0), .val (.int p1), .val (.int p2), .val (.int p3), .val (.long q4), .second, .val (.int (0 : Int32)), .val (.int (1 : Int32)), .val (.int (3 : Int32)), .val (.int e0_), .val (.int e1_), .val (.int e2_), .val .null, .unset, .unset, .unset, .unset]) rfl ?_
          show Steps p.tables e below (s₁.setTop (mkF m 48 #[.val (.int p0), .val (.int p1), .val (.int p2), .val (.int p3), .val (.long q4), .second, .val (.int (0 : Int32)), .val (.int (1 : Int32)), .val (.int (3 : Int32)), .val (.int e0_), .val (.int e1_), .val (.int e2_), .val .null, .unset, .unset, .unset, .unset] [])) _
          refine XS.iload X0.here hx rfl (hb hby at_48) rfl ?_
          show Steps p.tables e below (s₁.setTop (mkF m 50 #[.val (.int p0), .val (.int p1), .val (.int p2), .val (.int p3), .val (.long q4), .second, .val (.int (0 : Int32)), .val (.int (1 : Int32)), .val (.int (3 : Int32)), .val (.int e0_), .val (.int e1_), .val (.int e2_), .val .null, .unset, .unset, .unset, .unset] [(.int (0 : Int32))])) _
          refine XS.ifNo X0.here hx rfl (hb hby at_50) rfl ((if0 _ _).trans (teq (rfl : (0 : Int32) = (0 : Int32))).2) ?_
          show Steps p.tables e below (s₁.setTop (mkF m 53 #[.val (.int p0), .val (.int p1), .val (.int p2), .val (.int p3), .val (.long q4), .second, .val (.int (0 : Int32)), .val (.int (1 : Int32)), .val (.int (3 : Int32)), .val (.int e0_), .val (.int e1_), .val (.int e2_), .val .null, .unset, .unset, .unset, .unset] [])) _
          refine XS.iload X0.here hx rfl (hb hby at_53) rfl ?_
          exact kt
        obtain ⟨T206, h206, k206, X206, e206, E206, A206, Ex206, st206⟩ := newPE X0 hx hZ (hw _ (List.mem_of_getElem? (i := 0) rfl)) e0 (g := (mkF m 55 #[.val (.int p0), .val (.int p1), .val (.int p2), .val (.int p3), .val (.long q4), .second, .val (.int (0 : Int32)), .val (.int (1 : Int32)), .val (.int (3 : Int32)), .val (.int e0_), .val (.int e1_), .val (.int e2_), .val .null, .unset, .unset, .unset, .unset] [(.int (3 : Int32))])) rfl (hb hby at_55) rfl (by decide) (cap := 3) (by decide) (by decide) (by decide) (by decide) (ad := "[B") (by decide)
        obtain ⟨key, g206⟩ : ∃ z, z = h0.size := ⟨_, rfl⟩
        rw [← g206] at A206 Ex206 st206
        have g_key : n0 ≤ key := Nat.le_trans Z0 (Nat.le_of_eq g206.symm)
        have Od_206 := Od.ext E206
        have Z_206 : n0 ≤ h206.size := Nat.le_trans Z0 E206.1
        have Hh_key : Arh Z h206 key k206 .byte (3 : Int32) [] [] (.int (0 : Int32)) := Arv.arh (Arv.new A206 (by decide))
        have st207 : ∀ target, Steps p.tables e below (T206.setTop (mkF m 69 #[.val (.int p0), .val (.int p1), .val (.int p2), .val (.int p3), .val (.long q4), .second, .val (.int (0 : Int32)), .val (.int (1 : Int32)), .val (.int (3 : Int32)), .val (.int e0_), .val (.int e1_), .val (.int e2_), .val (.ref key), .unset, .unset, .unset, .unset] [(.int e0_), (.int (0 : Int32)), (.ref key)])) target → Steps p.tables e below (T206.setTop (mkF m 57 #[.val (.int p0), .val (.int p1), .val (.int p2), .val (.int p3), .val (.long q4), .second, .val (.int (0 : Int32)), .val (.int (1 : Int32)), .val (.int (3 : Int32)), .val (.int e0_), .val (.int e1_), .val (.int e2_), .val .null, .unset, .unset, .unset, .unset] [(.ref key)])) target := by
          intro target kt
          show Steps p.tables e below (T206.setTop (mkF m 57 #[.val (.int p0), .val (.int p1), .val (.int p2), .val (.int p3), .val (.long q4), .second, .val (.int (0 : Int32)), .val (.int (1 : Int32)), .val (.int (3 : Int32)), .val (.int e0_), .val (.int e1_), .val (.int e2_), .val .null, .unset, .unset, .unset, .unset] [(.ref key)])) _
          refine XS.astore X206.here hx rfl (hb hby at_57) rfl rfl (l' := #[.val (.int p0), .val (.int p1), .val (.int p2), .val (.int p3), .val (.long q4), .second, .val (.int (0 : Int32)), .val (.int (1 : Int32)), .val (.int (3 : Int32)), .val (.int e0_), .val (.int e1_), .val (.int e2_), .val (.ref key), .unset, .unset, .unset, .unset]) rfl ?_
          show Steps p.tables e below (T206.setTop (mkF m 59 #[.val (.int p0), .val (.int p1), .val (.int p2), .val (.int p3), .val (.long q4), .second, .val (.int (0 : Int32)), .val (.int (1 : Int32)), .val (.int (3 : Int32)), .val (.int e0_), .val (.int e1_), .val (.int e2_), .val (.ref key), .unset, .unset, .unset, .unset] [])) _
          refine XS.iload X206.here hx rfl (hb hby at_59) rfl ?_
          show Steps p.tables e below (T206.setTop (mkF m 61 #[.val (.int p0), .val (.int p1), .val (.int p2), .val (.int p3), .val (.long q4), .second, .val (.int (0 : Int32)), .val (.int (1 : Int32)), .val (.int (3 : Int32)), .val (.int e0_), .val (.int e1_), .val (.int e2_), .val (.ref key), .unset, .unset, .unset, .unset] [(.int (3 : Int32))])) _
          refine XS.ifNo X206.here hx rfl (hb hby at_61) rfl ((if0 _ _).trans (tlt (by decide : ((0 : Int32) < (3 : Int32)))).2.2.2) ?_
          show Steps p.tables e below (T206.setTop (mkF m 64 #[.val (.int p0), .val (.int p1), .val (.int p2), .val (.int p3), .val (.long q4), .second, .val (.int (0 : Int32)), .val (.int (1 : Int32)), .val (.int (3 : Int32)), .val (.int e0_), .val (.int e1_), .val (.int e2_), .val (.ref key), .unset, .unset, .unset, .unset] [])) _
          refine XS.aload X206.here hx rfl (hb hby at_64) rfl rfl ?_
          show Steps p.tables e below (T206.setTop (mkF m 66 #[.val (.int p0), .val (.int p1), .val (.int p2), .val (.int p3), .val (.long q4), .second, .val (.int (0 : Int32)), .val (.int (1 : Int32)), .val (.int (3 : Int32)), .val (.int e0_), .val (.int e1_), .val (.int e2_), .val (.ref key), .unset, .unset, .unset, .unset] [(.ref key)])) _
          refine XS.iconst X206.here hx rfl (hb hby at_66) ?_
          show Steps p.tables e below (T206.setTop (mkF m 67 #[.val (.int p0), .val (.int p1), .val (.int p2), .val (.int p3), .val (.long q4), .second, .val (.int (0 : Int32)), .val (.int (1 : Int32)), .val (.int (3 : Int32)), .val (.int e0_), .val (.int e1_), .val (.int e2_), .val (.ref key), .unset, .unset, .unset, .unset] [(.int (0 : Int32)), (.ref key)])) _
          refine XS.iload X206.here hx rfl (hb hby at_67) rfl ?_
          exact kt
        obtain ⟨cl208, Ar208, qc208, Sz208, Mn208, Hs208, Gs208⟩ := id Hh_key
        have hin208 : ¬ ((0 : Int32) < 0 ∨ cl208.slots.size ≤ ((0 : Int32)).toNatClampNeg) := own_in Sz208 ⟨by decide, by decide⟩
        obtain ⟨T208, h208, X208, e208, W208, st208⟩ := stB X206 hx hZ e206 Ar208 (j := (0 : Int32)) hin208 (g := (mkF m 69 #[.val (.int p0), .val (.int p1), .val (.int p2), .val (.int p3), .val (.long q4), .second, .val (.int (0 : Int32)), .val (.int (1 : Int32)), .val (.int (3 : Int32)), .val (.int e0_), .val (.int e1_), .val (.int e2_), .val (.ref key), .unset, .unset, .unset, .unset] [(.int e0_), (.int (0 : Int32)), (.ref key)])) rfl rfl (hb hby at_69)
        have Hh_key_208 : Arh Z h208 key k206 .byte (3 : Int32) [((0 : Int32), (.int (nar .byte e0_)))] [] (.int (0 : Int32)) := Arh.push Ar208 qc208 Sz208 Mn208 Hs208 Gs208 (fits_nar_byte _) W208 hin208
        have Od_208 := Od_206.wr W208 g_key
        have Ex206_208 := Ex206.wr W208
        have Z_208 : n0 ≤ h208.size := Nat.le_trans Z_206 (Keep.of_wr W208).1
        have N208 := Fr.snoc X208 N0 g_key
        have st209 : ∀ target, Steps p.tables e below (T208.setTop (mkF m 81 #[.val (.int p0), .val (.int p1), .val (.int p2), .val (.int p3), .val (.long q4), .second, .val (.int (0 : Int32)), .val (.int (1 : Int32)), .val (.int (3 : Int32)), .val (.int e0_), .val (.int e1_), .val (.int e2_), .val (.ref key), .unset, .unset, .unset, .unset] [(.int e1_), (.int (1 : Int32)), (.ref key)])) target → Steps p.tables e below (T208.setTop (mkF m 70 #[.val (.int p0), .val (.int p1), .val (.int p2), .val (.int p3), .val (.long q4), .second, .val (.int (0 : Int32)), .val (.int (1 : Int32)), .val (.int (3 : Int32)), .val (.int e0_), .val (.int e1_), .val (.int e2_), .val (.ref key), .unset, .unset, .unset, .unset] [])) target := by
          intro target kt
          show Steps p.tables e below (T208.setTop (mkF m 70 #[.val (.int p0), .val (.int p1), .val (.int p2), .val (.int p3), .val (.long q4), .second, .val (.int (0 : Int32)), .val (.int (1 : Int32)), .val (.int (3 : Int32)), .val (.int e0_), .val (.int e1_), .val (.int e2_), .val (.ref key), .unset, .unset, .unset, .unset] [])) _
          refine XS.iload X208.here hx rfl (hb hby at_70) rfl ?_
          show Steps p.tables e below (T208.setTop (mkF m 72 #[.val (.int p0), .val (.int p1), .val (.int p2), .val (.int p3), .val (.long q4), .second, .val (.int (0 : Int32)), .val (.int (1 : Int32)), .val (.int (3 : Int32)), .val (.int e0_), .val (.int e1_), .val (.int e2_), .val (.ref key), .unset, .unset, .unset, .unset] [(.int (3 : Int32))])) _
          refine XS.iconst X208.here hx rfl (hb hby at_72) ?_
          show Steps p.tables e below (T208.setTop (mkF m 73 #[.val (.int p0), .val (.int p1), .val (.int p2), .val (.int p3), .val (.long q4), .second, .val (.int (0 : Int32)), .val (.int (1 : Int32)), .val (.int (3 : Int32)), .val (.int e0_), .val (.int e1_), .val (.int e2_), .val (.ref key), .unset, .unset, .unset, .unset] [(.int (1 : Int32)), (.int (3 : Int32))])) _
          refine XS.icmpNo X208.here hx rfl (hb hby at_73) rfl (tlt (by decide : ((1 : Int32) < (3 : Int32)))).2.2.2 ?_
          show Steps p.tables e below (T208.setTop (mkF m 76 #[.val (.int p0), .val (.int p1), .val (.int p2), .val (.int p3), .val (.long q4), .second, .val (.int (0 : Int32)), .val (.int (1 : Int32)), .val (.int (3 : Int32)), .val (.int e0_), .val (.int e1_), .val (.int e2_), .val (.ref key), .unset, .unset, .unset, .unset] [])) _
          refine XS.aload X208.here hx rfl (hb hby at_76) rfl rfl ?_
          show Steps p.tables e below (T208.setTop (mkF m 78 #[.val (.int p0), .val (.int p1), .val (.int p2), .val (.int p3), .val (.long q4), .second, .val (.int (0 : Int32)), .val (.int (1 : Int32)), .val (.int (3 : Int32)), .val (.int e0_), .val (.int e1_), .val (.int e2_), .val (.ref key), .unset, .unset, .unset, .unset] [(.ref key)])) _
          refine XS.iconst X208.here hx rfl (hb hby at_78) ?_
          show Steps p.tables e below (T208.setTop (mkF m 79 #[.val (.int p0), .val (.int p1), .val (.int p2), .val (.int p3), .val (.long q4), .second, .val (.int (0 : Int32)), .val (.int (1 : Int32)), .val (.int (3 : Int32)), .val (.int e0_), .val (.int e1_), .val (.int e2_), .val (.ref key), .unset, .unset, .unset, .unset] [(.int (1 : Int32)), (.ref key)])) _
          refine XS.iload X208.here hx rfl (hb hby at_79) rfl ?_
          exact kt
        obtain ⟨cl210, Ar210, qc210, Sz210, Mn210, Hs210, Gs210⟩ := id Hh_key_208
        have hin210 : ¬ ((1 : Int32) < 0 ∨ cl210.slots.size ≤ ((1 : Int32)).toNatClampNeg) := own_in Sz210 ⟨by decide, by decide⟩
        obtain ⟨T210, h210, X210, e210, W210, st210⟩ := stB X208 hx hZ e208 Ar210 (j := (1 : Int32)) hin210 (g := (mkF m 81 #[.val (.int p0), .val (.int p1), .val (.int p2), .val (.int p3), .val (.long q4), .second, .val (.int (0 : Int32)), .val (.int (1 : Int32)), .val (.int (3 : Int32)), .val (.int e0_), .val (.int e1_), .val (.int e2_), .val (.ref key), .unset, .unset, .unset, .unset] [(.int e1_), (.int (1 : Int32)), (.ref key)])) rfl rfl (hb hby at_81)
        have Hh_key_210 : Arh Z h210 key k206 .byte (3 : Int32) [((1 : Int32), (.int (nar .byte e1_))), ((0 : Int32), (.int (nar .byte e0_)))] [] (.int (0 : Int32)) := Arh.push Ar210 qc210 Sz210 Mn210 Hs210 Gs210 (fits_nar_byte _) W210 hin210
        have Od_210 := Od_208.wr W210 g_key
        have Ex206_210 := Ex206_208.wr W210
        have Z_210 : n0 ≤ h210.size := Nat.le_trans Z_208 (Keep.of_wr W210).1
        have N210 := Fr.snoc X210 N208 g_key
        have st211 : ∀ target, Steps p.tables e below (T210.setTop (mkF m 93 #[.val (.int p0), .val (.int p1), .val (.int p2), .val (.int p3), .val (.long q4), .second, .val (.int (0 : Int32)), .val (.int (1 : Int32)), .val (.int (3 : Int32)), .val (.int e0_), .val (.int e1_), .val (.int e2_), .val (.ref key), .unset, .unset, .unset, .unset] [(.int e2_), (.int (2 : Int32)), (.ref key)])) target → Steps p.tables e below (T210.setTop (mkF m 82 #[.val (.int p0), .val (.int p1), .val (.int p2), .val (.int p3), .val (.long q4), .second, .val (.int (0 : Int32)), .val (.int (1 : Int32)), .val (.int (3 : Int32)), .val (.int e0_), .val (.int e1_), .val (.int e2_), .val (.ref key), .unset, .unset, .unset, .unset] [])) target := by
          intro target kt
          show Steps p.tables e below (T210.setTop (mkF m 82 #[.val (.int p0), .val (.int p1), .val (.int p2), .val (.int p3), .val (.long q4), .second, .val (.int (0 : Int32)), .val (.int (1 : Int32)), .val (.int (3 : Int32)), .val (.int e0_), .val (.int e1_), .val (.int e2_), .val (.ref key), .unset, .unset, .unset, .unset] [])) _
          refine XS.iload X210.here hx rfl (hb hby at_82) rfl ?_
          show Steps p.tables e below (T210.setTop (mkF m 84 #[.val (.int p0), .val (.int p1), .val (.int p2), .val (.int p3), .val (.long q4), .second, .val (.int (0 : Int32)), .val (.int (1 : Int32)), .val (.int (3 : Int32)), .val (.int e0_), .val (.int e1_), .val (.int e2_), .val (.ref key), .unset, .unset, .unset, .unset] [(.int (3 : Int32))])) _
          refine XS.iconst X210.here hx rfl (hb hby at_84) ?_
          show Steps p.tables e below (T210.setTop (mkF m 85 #[.val (.int p0), .val (.int p1), .val (.int p2), .val (.int p3), .val (.long q4), .second, .val (.int (0 : Int32)), .val (.int (1 : Int32)), .val (.int (3 : Int32)), .val (.int e0_), .val (.int e1_), .val (.int e2_), .val (.ref key), .unset, .unset, .unset, .unset] [(.int (2 : Int32)), (.int (3 : Int32))])) _
          refine XS.icmpNo X210.here hx rfl (hb hby at_85) rfl (tlt (by decide : ((2 : Int32) < (3 : Int32)))).2.2.2 ?_
          show Steps p.tables e below (T210.setTop (mkF m 88 #[.val (.int p0), .val (.int p1), .val (.int p2), .val (.int p3), .val (.long q4), .second, .val (.int (0 : Int32)), .val (.int (1 : Int32)), .val (.int (3 : Int32)), .val (.int e0_), .val (.int e1_), .val (.int e2_), .val (.ref key), .unset, .unset, .unset, .unset] [])) _
          refine XS.aload X210.here hx rfl (hb hby at_88) rfl rfl ?_
          show Steps p.tables e below (T210.setTop (mkF m 90 #[.val (.int p0), .val (.int p1), .val (.int p2), .val (.int p3), .val (.long q4), .second, .val (.int (0 : Int32)), .val (.int (1 : Int32)), .val (.int (3 : Int32)), .val (.int e0_), .val (.int e1_), .val (.int e2_), .val (.ref key), .unset, .unset, .unset, .unset] [(.ref key)])) _
          refine XS.iconst X210.here hx rfl (hb hby at_90) ?_
          show Steps p.tables e below (T210.setTop (mkF m 91 #[.val (.int p0), .val (.int p1), .val (.int p2), .val (.int p3), .val (.long q4), .second, .val (.int (0 : Int32)), .val (.int (1 : Int32)), .val (.int (3 : Int32)), .val (.int e0_), .val (.int e1_), .val (.int e2_), .val (.ref key), .unset, .unset, .unset, .unset] [(.int (2 : Int32)), (.ref key)])) _
          refine XS.iload X210.here hx rfl (hb hby at_91) rfl ?_
          exact kt
        obtain ⟨cl212, Ar212, qc212, Sz212, Mn212, Hs212, Gs212⟩ := id Hh_key_210
        have hin212 : ¬ ((2 : Int32) < 0 ∨ cl212.slots.size ≤ ((2 : Int32)).toNatClampNeg) := own_in Sz212 ⟨by decide, by decide⟩
        obtain ⟨T212, h212, X212, e212, W212, st212⟩ := stB X210 hx hZ e210 Ar212 (j := (2 : Int32)) hin212 (g := (mkF m 93 #[.val (.int p0), .val (.int p1), .val (.int p2), .val (.int p3), .val (.long q4), .second, .val (.int (0 : Int32)), .val (.int (1 : Int32)), .val (.int (3 : Int32)), .val (.int e0_), .val (.int e1_), .val (.int e2_), .val (.ref key), .unset, .unset, .unset, .unset] [(.int e2_), (.int (2 : Int32)), (.ref key)])) rfl rfl (hb hby at_93)
        have Hh_key_212 : Arh Z h212 key k206 .byte (3 : Int32) [((2 : Int32), (.int (nar .byte e2_))), ((1 : Int32), (.int (nar .byte e1_))), ((0 : Int32), (.int (nar .byte e0_)))] [] (.int (0 : Int32)) := Arh.push Ar212 qc212 Sz212 Mn212 Hs212 Gs212 (fits_nar_byte _) W212 hin212
        have Od_212 := Od_210.wr W212 g_key
        have Ex206_212 := Ex206_210.wr W212
        have Z_212 : n0 ≤ h212.size := Nat.le_trans Z_210 (Keep.of_wr W212).1
        have N212 := Fr.snoc X212 N210 g_key
        have Hk : Arh Z h212 key k206 .byte (3 : Int32) [((2 : Int32), (.int e2_)), ((1 : Int32), (.int e1_)), ((0 : Int32), (.int e0_))] [] (.int (0 : Int32)) := by have q := Hh_key_212; rw [ne0_, ne1_, ne2_] at q; exact q
        have st213 : ∀ target, Steps p.tables e below (T212.setTop (mkF m 104 #[.val (.int p0), .val (.int p1), .val (.int p2), .val (.int p3), .val (.long q4), .second, .val (.int (0 : Int32)), .val (.int (1 : Int32)), .val (.int (3 : Int32)), .val (.int e0_), .val (.int e1_), .val (.int e2_), .val (.ref key), .val .null, .unset, .unset, .unset] [(.int (32 : Int32))])) target → Steps p.tables e below (T212.setTop (mkF m 94 #[.val (.int p0), .val (.int p1), .val (.int p2), .val (.int p3), .val (.long q4), .second, .val (.int (0 : Int32)), .val (.int (1 : Int32)), .val (.int (3 : Int32)), .val (.int e0_), .val (.int e1_), .val (.int e2_), .val (.ref key), .unset, .unset, .unset, .unset] [])) target := by
          intro target kt
          show Steps p.tables e below (T212.setTop (mkF m 94 #[.val (.int p0), .val (.int p1), .val (.int p2), .val (.int p3), .val (.long q4), .second, .val (.int (0 : Int32)), .val (.int (1 : Int32)), .val (.int (3 : Int32)), .val (.int e0_), .val (.int e1_), .val (.int e2_), .val (.ref key), .unset, .unset, .unset, .unset] [])) _
          refine XS.aconstNull X212.here hx rfl (hb hby at_94) ?_
          show Steps p.tables e below (T212.setTop (mkF m 95 #[.val (.int p0), .val (.int p1), .val (.int p2), .val (.int p3), .val (.long q4), .second, .val (.int (0 : Int32)), .val (.int (1 : Int32)), .val (.int (3 : Int32)), .val (.int e0_), .val (.int e1_), .val (.int e2_), .val (.ref key), .unset, .unset, .unset, .unset] [.null])) _
          refine XS.astore X212.here hx rfl (hb hby at_95) rfl rfl (l' := #[.val (.int p0), .val (.int p1), .val (.int p2), .val (.int p3), .val (.long q4), .second, .val (.int (0 : Int32)), .val (.int (1 : Int32)), .val (.int (3 : Int32)), .val (.int e0_), .val (.int e1_), .val (.int e2_), .val (.ref key), .val .null, .unset, .unset, .unset]) rfl ?_
          show Steps p.tables e below (T212.setTop (mkF m 97 #[.val (.int p0), .val (.int p1), .val (.int p2), .val (.int p3), .val (.long q4), .second, .val (.int (0 : Int32)), .val (.int (1 : Int32)), .val (.int (3 : Int32)), .val (.int e0_), .val (.int e1_), .val (.int e2_), .val (.ref key), .val .null, .unset, .unset, .unset] [])) _
          refine XS.iload X212.here hx rfl (hb hby at_97) rfl ?_
          show Steps p.tables e below (T212.setTop (mkF m 99 #[.val (.int p0), .val (.int p1), .val (.int p2), .val (.int p3), .val (.long q4), .second, .val (.int (0 : Int32)), .val (.int (1 : Int32)), .val (.int (3 : Int32)), .val (.int e0_), .val (.int e1_), .val (.int e2_), .val (.ref key), .val .null, .unset, .unset, .unset] [(.int (1 : Int32))])) _
          refine XS.ifNo X212.here hx rfl (hb hby at_99) rfl ((if0 _ _).trans (feq (by decide : ¬ ((1 : Int32) = (0 : Int32)))).1) ?_
          show Steps p.tables e below (T212.setTop (mkF m 102 #[.val (.int p0), .val (.int p1), .val (.int p2), .val (.int p3), .val (.long q4), .second, .val (.int (0 : Int32)), .val (.int (1 : Int32)), .val (.int (3 : Int32)), .val (.int e0_), .val (.int e1_), .val (.int e2_), .val (.ref key), .val .null, .unset, .unset, .unset] [])) _
          refine XS.bipush X212.here hx rfl (hb hby at_102) ?_
          exact kt
        obtain ⟨T214, h214, k214, X214, e214, E214, A214, Ex214, st214⟩ := newPE X212 hx hZ (hw _ (List.mem_of_getElem? (i := 0) rfl)) e212 (g := (mkF m 104 #[.val (.int p0), .val (.int p1), .val (.int p2), .val (.int p3), .val (.long q4), .second, .val (.int (0 : Int32)), .val (.int (1 : Int32)), .val (.int (3 : Int32)), .val (.int e0_), .val (.int e1_), .val (.int e2_), .val (.ref key), .val .null, .unset, .unset, .unset] [(.int (32 : Int32))])) rfl (hb hby at_104) rfl (by decide) (cap := 32) (by decide) (by decide) (by decide) (by decide) (ad := "[B") (by decide)
        obtain ⟨hh, g214⟩ : ∃ z, z = h212.size := ⟨_, rfl⟩
        rw [← g214] at A214 Ex214 st214
        have g_hh : n0 ≤ hh := Nat.le_trans Z_212 (Nat.le_of_eq g214.symm)
        have ne_key_hh : key ≠ hh := Nat.ne_of_lt (Nat.lt_of_lt_of_le Ex206_212.lt (Nat.le_of_eq g214.symm))
        have Od_214 := Od_212.ext E214
        have Ex206_214 := Ex206_212.ext E214
        have Hk_214 := Hk.ext E214
        have Z_214 : n0 ≤ h214.size := Nat.le_trans Z_212 E214.1
        have Hh_hh : Arh Z h214 hh k214 .byte (32 : Int32) [] [] (.int (0 : Int32)) := Arv.arh (Arv.new A214 (by decide))
        have st215 : ∀ target, Steps p.tables e below (T214.setTop (mkF m 116 #[.val (.int p0), .val (.int p1), .val (.int p2), .val (.int p3), .val (.long q4), .second, .val (.int (0 : Int32)), .val (.int (1 : Int32)), .val (.int (3 : Int32)), .val (.int e0_), .val (.int e1_), .val (.int e2_), .val (.ref key), .val (.ref hh), .unset, .unset, .unset] [(.int ((p1 ^^^ (51 : Int32)).toInt8.toInt32)), (.int (0 : Int32)), (.ref hh)])) target → Steps p.tables e below (T214.setTop (mkF m 106 #[.val (.int p0), .val (.int p1), .val (.int p2), .val (.int p3), .val (.long q4), .second, .val (.int (0 : Int32)), .val (.int (1 : Int32)), .val (.int (3 : Int32)), .val (.int e0_), .val (.int e1_), .val (.int e2_), .val (.ref key), .val .null, .unset, .unset, .unset] [(.ref hh)])) target := by
          intro target kt
          show Steps p.tables e below (T214.setTop (mkF m 106 #[.val (.int p0), .val (.int p1), .val (.int p2), .val (.int p3), .val (.long q4), .second, .val (.int (0 : Int32)), .val (.int (1 : Int32)), .val (.int (3 : Int32)), .val (.int e0_), .val (.int e1_), .val (.int e2_), .val (.ref key), .val .null, .unset, .unset, .unset] [(.ref hh)])) _
          refine XS.astore X214.here hx rfl (hb hby at_106) rfl rfl (l' := #[.val (.int p0), .val (.int p1), .val (.int p2), .val (.int p3), .val (.long q4), .second, .val (.int (0 : Int32)), .val (.int (1 : Int32)), .val (.int (3 : Int32)), .val (.int e0_), .val (.int e1_), .val (.int e2_), .val (.ref key), .val (.ref hh), .unset, .unset, .unset]) rfl ?_
          show Steps p.tables e below (T214.setTop (mkF m 108 #[.val (.int p0), .val (.int p1), .val (.int p2), .val (.int p3), .val (.long q4), .second, .val (.int (0 : Int32)), .val (.int (1 : Int32)), .val (.int (3 : Int32)), .val (.int e0_), .val (.int e1_), .val (.int e2_), .val (.ref key), .val (.ref hh), .unset, .unset, .unset] [])) _
          refine XS.aload X214.here hx rfl (hb hby at_108) rfl rfl ?_
          show Steps p.tables e below (T214.setTop (mkF m 110 #[.val (.int p0), .val (.int p1), .val (.int p2), .val (.int p3), .val (.long q4), .second, .val (.int (0 : Int32)), .val (.int (1 : Int32)), .val (.int (3 : Int32)), .val (.int e0_), .val (.int e1_), .val (.int e2_), .val (.ref key), .val (.ref hh), .unset, .unset, .unset] [(.ref hh)])) _
          refine XS.iconst X214.here hx rfl (hb hby at_110) ?_
          show Steps p.tables e below (T214.setTop (mkF m 111 #[.val (.int p0), .val (.int p1), .val (.int p2), .val (.int p3), .val (.long q4), .second, .val (.int (0 : Int32)), .val (.int (1 : Int32)), .val (.int (3 : Int32)), .val (.int e0_), .val (.int e1_), .val (.int e2_), .val (.ref key), .val (.ref hh), .unset, .unset, .unset] [(.int (0 : Int32)), (.ref hh)])) _
          refine XS.iloadN X214.here hx rfl (hb hby at_111) rfl ?_
          show Steps p.tables e below (T214.setTop (mkF m 112 #[.val (.int p0), .val (.int p1), .val (.int p2), .val (.int p3), .val (.long q4), .second, .val (.int (0 : Int32)), .val (.int (1 : Int32)), .val (.int (3 : Int32)), .val (.int e0_), .val (.int e1_), .val (.int e2_), .val (.ref key), .val (.ref hh), .unset, .unset, .unset] [(.int p1), (.int (0 : Int32)), (.ref hh)])) _
          refine XS.bipush X214.here hx rfl (hb hby at_112) ?_
          show Steps p.tables e below (T214.setTop (mkF m 114 #[.val (.int p0), .val (.int p1), .val (.int p2), .val (.int p3), .val (.long q4), .second, .val (.int (0 : Int32)), .val (.int (1 : Int32)), .val (.int (3 : Int32)), .val (.int e0_), .val (.int e1_), .val (.int e2_), .val (.ref key), .val (.ref hh), .unset, .unset, .unset] [(.int (51 : Int32)), (.int p1), (.int (0 : Int32)), (.ref hh)])) _
          refine XS.ixor X214.here hx rfl (hb hby at_114) rfl ?_
          show Steps p.tables e below (T214.setTop (mkF m 115 #[.val (.int p0), .val (.int p1), .val (.int p2), .val (.int p3), .val (.long q4), .second, .val (.int (0 : Int32)), .val (.int (1 : Int32)), .val (.int (3 : Int32)), .val (.int e0_), .val (.int e1_), .val (.int e2_), .val (.ref key), .val (.ref hh), .unset, .unset, .unset] [(.int (p1 ^^^ (51 : Int32))), (.int (0 : Int32)), (.ref hh)])) _
          refine XS.i2b X214.here hx rfl (hb hby at_115) rfl ?_
          exact kt
        obtain ⟨cl216, Ar216, qc216, Sz216, Mn216, Hs216, Gs216⟩ := id Hh_hh
        have hin216 : ¬ ((0 : Int32) < 0 ∨ cl216.slots.size ≤ ((0 : Int32)).toNatClampNeg) := own_in Sz216 ⟨by decide, by decide⟩
        obtain ⟨T216, h216, X216, e216, W216, st216⟩ := stB X214 hx hZ e214 Ar216 (j := (0 : Int32)) hin216 (g := (mkF m 116 #[.val (.int p0), .val (.int p1), .val (.int p2), .val (.int p3), .val (.long q4), .second, .val (.int (0 : Int32)), .val (.int (1 : Int32)), .val (.int (3 : Int32)), .val (.int e0_), .val (.int e1_), .val (.int e2_), .val (.ref key), .val (.ref hh), .unset, .unset, .unset] [(.int ((p1 ^^^ (51 : Int32)).toInt8.toInt32)), (.int (0 : Int32)), (.ref hh)])) rfl rfl (hb hby at_116)
        have Hh_hh_216 : Arh Z h216 hh k214 .byte (32 : Int32) [((0 : Int32), (.int (nar .byte ((p1 ^^^ (51 : Int32)).toInt8.toInt32))))] [] (.int (0 : Int32)) := Arh.push Ar216 qc216 Sz216 Mn216 Hs216 Gs216 (fits_nar_byte _) W216 hin216
        have Od_216 := Od_214.wr W216 g_hh
        have Ex206_216 := Ex206_214.wr W216
        have Hk_216 := Hk_214.other W216 ne_key_hh
        have Ex214_216 := Ex214.wr W216
        have Z_216 : n0 ≤ h216.size := Nat.le_trans Z_214 (Keep.of_wr W216).1
        have N216 := Fr.snoc X216 N212 g_hh
        have st217 : ∀ target, Steps p.tables e below (T216.setTop (mkF m 125 #[.val (.int p0), .val (.int p1), .val (.int p2), .val (.int p3), .val (.long q4), .second, .val (.int (0 : Int32)), .val (.int (1 : Int32)), .val (.int (3 : Int32)), .val (.int e0_), .val (.int e1_), .val (.int e2_), .val (.ref key), .val (.ref hh), .unset, .unset, .unset] [(.int ((p2 ^^^ (119 : Int32)).toInt8.toInt32)), (.int (1 : Int32)), (.ref hh)])) target → Steps p.tables e below (T216.setTop (mkF m 117 #[.val (.int p0), .val (.int p1), .val (.int p2), .val (.int p3), .val (.long q4), .second, .val (.int (0 : Int32)), .val (.int (1 : Int32)), .val (.int (3 : Int32)), .val (.int e0_), .val (.int e1_), .val (.int e2_), .val (.ref key), .val (.ref hh), .unset, .unset, .unset] [])) target := by
          intro target kt
          show Steps p.tables e below (T216.setTop (mkF m 117 #[.val (.int p0), .val (.int p1), .val (.int p2), .val (.int p3), .val (.long q4), .second, .val (.int (0 : Int32)), .val (.int (1 : Int32)), .val (.int (3 : Int32)), .val (.int e0_), .val (.int e1_), .val (.int e2_), .val (.ref key), .val (.ref hh), .unset, .unset, .unset] [])) _
          refine XS.aload X216.here hx rfl (hb hby at_117) rfl rfl ?_
          show Steps p.tables e below (T216.setTop (mkF m 119 #[.val (.int p0), .val (.int p1), .val (.int p2), .val (.int p3), .val (.long q4), .second, .val (.int (0 : Int32)), .val (.int (1 : Int32)), .val (.int (3 : Int32)), .val (.int e0_), .val (.int e1_), .val (.int e2_), .val (.ref key), .val (.ref hh), .unset, .unset, .unset] [(.ref hh)])) _
          refine XS.iconst X216.here hx rfl (hb hby at_119) ?_
          show Steps p.tables e below (T216.setTop (mkF m 120 #[.val (.int p0), .val (.int p1), .val (.int p2), .val (.int p3), .val (.long q4), .second, .val (.int (0 : Int32)), .val (.int (1 : Int32)), .val (.int (3 : Int32)), .val (.int e0_), .val (.int e1_), .val (.int e2_), .val (.ref key), .val (.ref hh), .unset, .unset, .unset] [(.int (1 : Int32)), (.ref hh)])) _
          refine XS.iloadN X216.here hx rfl (hb hby at_120) rfl ?_
          show Steps p.tables e below (T216.setTop (mkF m 121 #[.val (.int p0), .val (.int p1), .val (.int p2), .val (.int p3), .val (.long q4), .second, .val (.int (0 : Int32)), .val (.int (1 : Int32)), .val (.int (3 : Int32)), .val (.int e0_), .val (.int e1_), .val (.int e2_), .val (.ref key), .val (.ref hh), .unset, .unset, .unset] [(.int p2), (.int (1 : Int32)), (.ref hh)])) _
          refine XS.bipush X216.here hx rfl (hb hby at_121) ?_
          show Steps p.tables e below (T216.setTop (mkF m 123 #[.val (.int p0), .val (.int p1), .val (.int p2), .val (.int p3), .val (.long q4), .second, .val (.int (0 : Int32)), .val (.int (1 : Int32)), .val (.int (3 : Int32)), .val (.int e0_), .val (.int e1_), .val (.int e2_), .val (.ref key), .val (.ref hh), .unset, .unset, .unset] [(.int (119 : Int32)), (.int p2), (.int (1 : Int32)), (.ref hh)])) _
          refine XS.ixor X216.here hx rfl (hb hby at_123) rfl ?_
          show Steps p.tables e below (T216.setTop (mkF m 124 #[.val (.int p0), .val (.int p1), .val (.int p2), .val (.int p3), .val (.long q4), .second, .val (.int (0 : Int32)), .val (.int (1 : Int32)), .val (.int (3 : Int32)), .val (.int e0_), .val (.int e1_), .val (.int e2_), .val (.ref key), .val (.ref hh), .unset, .unset, .unset] [(.int (p2 ^^^ (119 : Int32))), (.int (1 : Int32)), (.ref hh)])) _
          refine XS.i2b X216.here hx rfl (hb hby at_124) rfl ?_
          exact kt
        obtain ⟨cl218, Ar218, qc218, Sz218, Mn218, Hs218, Gs218⟩ := id Hh_hh_216
        have hin218 : ¬ ((1 : Int32) < 0 ∨ cl218.slots.size ≤ ((1 : Int32)).toNatClampNeg) := own_in Sz218 ⟨by decide, by decide⟩
        obtain ⟨T218, h218, X218, e218, W218, st218⟩ := stB X216 hx hZ e216 Ar218 (j := (1 : Int32)) hin218 (g := (mkF m 125 #[.val (.int p0), .val (.int p1), .val (.int p2), .val (.int p3), .val (.long q4), .second, .val (.int (0 : Int32)), .val (.int (1 : Int32)), .val (.int (3 : Int32)), .val (.int e0_), .val (.int e1_), .val (.int e2_), .val (.ref key), .val (.ref hh), .unset, .unset, .unset] [(.int ((p2 ^^^ (119 : Int32)).toInt8.toInt32)), (.int (1 : Int32)), (.ref hh)])) rfl rfl (hb hby at_125)
        have Hh_hh_218 : Arh Z h218 hh k214 .byte (32 : Int32) [((1 : Int32), (.int (nar .byte ((p2 ^^^ (119 : Int32)).toInt8.toInt32)))), ((0 : Int32), (.int (nar .byte ((p1 ^^^ (51 : Int32)).toInt8.toInt32))))] [] (.int (0 : Int32)) := Arh.push Ar218 qc218 Sz218 Mn218 Hs218 Gs218 (fits_nar_byte _) W218 hin218
        have Od_218 := Od_216.wr W218 g_hh
        have Ex206_218 := Ex206_216.wr W218
        have Hk_218 := Hk_216.other W218 ne_key_hh
        have Ex214_218 := Ex214_216.wr W218
        have Z_218 : n0 ≤ h218.size := Nat.le_trans Z_216 (Keep.of_wr W218).1
        have N218 := Fr.snoc X218 N216 g_hh
        obtain ⟨T219, h219, X219, e219, E219, A219, D219, -, st219⟩ := newO X218 hx hZ hown (hw _ (List.mem_of_getElem? (i := 1) rfl)) (hw _ (List.mem_of_getElem? (i := 2) rfl)) (hw _ (List.mem_of_getElem? (i := 3) rfl)) e218 (g := (mkF m 126 #[.val (.int p0), .val (.int p1), .val (.int p2), .val (.int p3), .val (.long q4), .second, .val (.int (0 : Int32)), .val (.int (1 : Int32)), .val (.int (3 : Int32)), .val (.int e0_), .val (.int e1_), .val (.int e2_), .val (.ref key), .val (.ref hh), .unset, .unset, .unset] [])) rfl (hb hby at_126) (by decide) (by decide)
        obtain ⟨d, g219⟩ : ∃ z, z = h218.size := ⟨_, rfl⟩
        rw [← g219] at A219 D219 st219
        have g_d : n0 ≤ d := Nat.le_trans Z_218 (Nat.le_of_eq g219.symm)
        have ne_key_d : key ≠ d := Nat.ne_of_lt (Nat.lt_of_lt_of_le Ex206_218.lt (Nat.le_of_eq g219.symm))
        have ne_hh_d : hh ≠ d := Nat.ne_of_lt (Nat.lt_of_lt_of_le Ex214_218.lt (Nat.le_of_eq g219.symm))
        have Od_219 := Od_218.ext E219
        have Ex206_219 := Ex206_218.ext E219
        have Hk_219 := Hk_218.ext E219
        have Ex214_219 := Ex214_218.ext E219
        have Hh_hh_219 := Hh_hh_218.ext E219
        have Z_219 : n0 ≤ h219.size := Nat.le_trans Z_218 E219.1
        have E_d : Exa Z h219 d "com/example/imprimatur/imprimatur/verify/DeviceValues" := A219
        have F_pkHash_d : Fld Z h219 d "com/example/imprimatur/imprimatur/verify/DeviceValues" "pkHash" "[B" .null := D219 (Or.inr (hw _ (List.mem_of_getElem? (i := 31) rfl))) (ty := (.array .byte)) (by decide)
        have F_hwId_d : Fld Z h219 d "com/example/imprimatur/imprimatur/verify/DeviceValues" "hwId" "Ljava/lang/Long;" .null := D219 (Or.inr (hw _ (List.mem_of_getElem? (i := 33) rfl))) (ty := (.object "java/lang/Long")) (by decide)
        have F_swId_d : Fld Z h219 d "com/example/imprimatur/imprimatur/verify/DeviceValues" "swId" "Ljava/lang/Long;" .null := D219 (Or.inr (hw _ (List.mem_of_getElem? (i := 35) rfl))) (ty := (.object "java/lang/Long")) (by decide)
        have F_publicKey_d : Fld Z h219 d "com/example/imprimatur/imprimatur/verify/DeviceValues" "publicKey" "[B" .null := D219 (Or.inr (hw _ (List.mem_of_getElem? (i := 46) rfl))) (ty := (.array .byte)) (by decide)
        have st220 : ∀ target, Steps p.tables e below (T219.setTop (mkF m 134 #[.val (.int p0), .val (.int p1), .val (.int p2), .val (.int p3), .val (.long q4), .second, .val (.int (0 : Int32)), .val (.int (1 : Int32)), .val (.int (3 : Int32)), .val (.int e0_), .val (.int e1_), .val (.int e2_), .val (.ref key), .val (.ref hh), .unset, .unset, .unset] [(.long q4), (.ref hh), (.ref d), (.ref d)])) target → Steps p.tables e below (T219.setTop (mkF m 129 #[.val (.int p0), .val (.int p1), .val (.int p2), .val (.int p3), .val (.long q4), .second, .val (.int (0 : Int32)), .val (.int (1 : Int32)), .val (.int (3 : Int32)), .val (.int e0_), .val (.int e1_), .val (.int e2_), .val (.ref key), .val (.ref hh), .unset, .unset, .unset] [(.ref d)])) target := by
          intro target kt
          show Steps p.tables e below (T219.setTop (mkF m 129 #[.val (.int p0), .val (.int p1), .val (.int p2), .val (.int p3), .val (.long q4), .second, .val (.int (0 : Int32)), .val (.int (1 : Int32)), .val (.int (3 : Int32)), .val (.int e0_), .val (.int e1_), .val (.int e2_), .val (.ref key), .val (.ref hh), .unset, .unset, .unset] [(.ref d)])) _
          refine XS.dup X219.here hx rfl (hb hby at_129) rfl rfl ?_
          show Steps p.tables e below (T219.setTop (mkF m 130 #[.val (.int p0), .val (.int p1), .val (.int p2), .val (.int p3), .val (.long q4), .second, .val (.int (0 : Int32)), .val (.int (1 : Int32)), .val (.int (3 : Int32)), .val (.int e0_), .val (.int e1_), .val (.int e2_), .val (.ref key), .val (.ref hh), .unset, .unset, .unset] [(.ref d), (.ref d)])) _
          refine XS.aload X219.here hx rfl (hb hby at_130) rfl rfl ?_
          show Steps p.tables e below (T219.setTop (mkF m 132 #[.val (.int p0), .val (.int p1), .val (.int p2), .val (.int p3), .val (.long q4), .second, .val (.int (0 : Int32)), .val (.int (1 : Int32)), .val (.int (3 : Int32)), .val (.int e0_), .val (.int e1_), .val (.int e2_), .val (.ref key), .val (.ref hh), .unset, .unset, .unset] [(.ref hh), (.ref d), (.ref d)])) _
          refine XS.lload X219.here hx rfl (hb hby at_132) rfl ?_
          exact kt
        obtain ⟨_, _, ⟨T221, L221, k221, n221⟩, -, X221, ⟨Lc221, hQ221, l221, y221, z221⟩, st221⟩ := Jvm.LawKit.callS X219 hx (y := (⟨"java/lang/Long", "valueOf", "(J)Ljava/lang/Long;"⟩ : MethodName)) hown (mvT hZ (hw _ (List.mem_of_getElem? (i := 4) rfl))) (mvT hZ (hw _ (List.mem_of_getElem? (i := 5) rfl))) (mvT hZ (hw _ (List.mem_of_getElem? (i := 6) rfl))) (mvT hZ (hw _ (List.mem_of_getElem? (i := 7) rfl))) (by decide) (backOf (W := 3) (rm1 l Z a0 hw [] q4 ca cc val h219 n0 Z_219 Bx Od_219 S_c) hZ (hw _ (List.mem_of_getElem? (i := 7) rfl)) (hw _ (List.mem_of_getElem? (i := 6) rfl)) (by decide) (by decide)) (g := (mkF m 134 #[.val (.int p0), .val (.int p1), .val (.int p2), .val (.int p3), .val (.long q4), .second, .val (.int (0 : Int32)), .val (.int (1 : Int32)), .val (.int (3 : Int32)), .val (.int e0_), .val (.int e1_), .val (.int e2_), .val (.ref key), .val (.ref hh), .unset, .unset, .unset] [(.long q4), (.ref hh), (.ref d), (.ref d)])) rfl (by rw [hml]; rfl) (argsL := [(.long q4)]) (rest := [(.ref hh), (.ref d), (.ref d)]) (lenOf pd_0 rfl) rfl (by show 2 * 0 + _ ≤ _; exact Nat.le_of_eq rfl) (hb hby at_134) (fun _ _ => ⟨rfl, e219, (by decide : 3 + 1 ≤ _), (by decide : 39 + 1 ≤ _)⟩)
        dsimp only [Pt.U, Pt.locs, Pt.cells, Pt.slots] at X221 l221 y221 z221 st221 hQ221
        subst l221 y221 z221
        obtain ⟨t221, rfl, Nq221, K221, Et221⟩ := hQ221
        have N221 := Fr.app N218 Nq221
        have Od_221 := Od_219.keep K221 (all0)
        have Ex206_221 := Ex206_219.keep K221
        have Hk_221 := Hk_219.keep K221 nin0
        have Ex214_221 := Ex214_219.keep K221
        have Hh_hh_221 := Hh_hh_219.keep K221 nin0
        have E_d_221 := E_d.keep K221
        have F_pkHash_d_221 := F_pkHash_d.keep K221 nin0
        have F_hwId_d_221 := F_hwId_d.keep K221 nin0
        have F_swId_d_221 := F_swId_d.keep K221 nin0
        have F_publicKey_d_221 := F_publicKey_d.keep K221 nin0
        have Z_221 : n0 ≤ T221.heap.size := Nat.le_trans Z_219 K221.1
        have st222 : ∀ target, Steps p.tables e below (T221.setTop (mkF m 140 #[.val (.int p0), .val (.int p1), .val (.int p2), .val (.int p3), .val (.long q4), .second, .val (.int (0 : Int32)), .val (.int (1 : Int32)), .val (.int (3 : Int32)), .val (.int e0_), .val (.int e1_), .val (.int e2_), .val (.ref key), .val (.ref hh), .unset, .unset, .unset] [(.ref key), .null, (.ref t221), (.ref hh), (.ref d), (.ref d)])) target → Steps p.tables e below (T221.setTop (mkF m 137 #[.val (.int p0), .val (.int p1), .val (.int p2), .val (.int p3), .val (.long q4), .second, .val (.int (0 : Int32)), .val (.int (1 : Int32)), .val (.int (3 : Int32)), .val (.int e0_), .val (.int e1_), .val (.int e2_), .val (.ref key), .val (.ref hh), .unset, .unset, .unset] [(.ref t221), (.ref hh), (.ref d), (.ref d)])) target := by
          intro target kt
          show Steps p.tables e below (T221.setTop (mkF m 137 #[.val (.int p0), .val (.int p1), .val (.int p2), .val (.int p3), .val (.long q4), .second, .val (.int (0 : Int32)), .val (.int (1 : Int32)), .val (.int (3 : Int32)), .val (.int e0_), .val (.int e1_), .val (.int e2_), .val (.ref key), .val (.ref hh), .unset, .unset, .unset] [(.ref t221), (.ref hh), (.ref d), (.ref d)])) _
          refine XS.aconstNull X221.here hx rfl (hb hby at_137) ?_
          show Steps p.tables e below (T221.setTop (mkF m 138 #[.val (.int p0), .val (.int p1), .val (.int p2), .val (.int p3), .val (.long q4), .second, .val (.int (0 : Int32)), .val (.int (1 : Int32)), .val (.int (3 : Int32)), .val (.int e0_), .val (.int e1_), .val (.int e2_), .val (.ref key), .val (.ref hh), .unset, .unset, .unset] [.null, (.ref t221), (.ref hh), (.ref d), (.ref d)])) _
          refine XS.aload X221.here hx rfl (hb hby at_138) rfl rfl ?_
          exact kt
        obtain ⟨_, _, ⟨T223, L223, k223, n223⟩, -, X223, ⟨Lc223, hQ223, l223, y223, z223⟩, st223⟩ := X221.specialBack hx (y := (⟨"com/example/imprimatur/imprimatur/verify/DeviceValues", "<init>", "([BLjava/lang/Long;Ljava/lang/Long;[B)V"⟩ : MethodName)) rfl hown (mvT hZ (hw _ (List.mem_of_getElem? (i := 26) rfl))) (mvT hZ (hw _ (List.mem_of_getElem? (i := 27) rfl))) (mvT hZ (hw _ (List.mem_of_getElem? (i := 28) rfl))) (by decide) (backOf (W := 1) (rmI11 l Z a0 hw [] d hh t221 key k214 [((1 : Int32), (.int (nar .byte ((p2 ^^^ (119 : Int32)).toInt8.toInt32)))), ((0 : Int32), (.int (nar .byte ((p1 ^^^ (51 : Int32)).toInt8.toInt32))))] k206 (3 : Int32) [((2 : Int32), (.int e2_)), ((1 : Int32), (.int e1_)), ((0 : Int32), (.int e0_))] T221.heap n0 Z_221 F_pkHash_d_221 F_hwId_d_221 F_swId_d_221 F_publicKey_d_221 E_d_221 g_d Hh_hh_221 Ex214_221 (Ne.symm ne_hh_d) Hk_221 Ex206_221 (Ne.symm ne_key_d) (by decide) (Ne.symm ne_key_hh)) hZ (hw _ (List.mem_of_getElem? (i := 28) rfl)) (hw _ (List.mem_of_getElem? (i := 3) rfl)) (by decide) (by decide)) (g := (mkF m 140 #[.val (.int p0), .val (.int p1), .val (.int p2), .val (.int p3), .val (.long q4), .second, .val (.int (0 : Int32)), .val (.int (1 : Int32)), .val (.int (3 : Int32)), .val (.int e0_), .val (.int e1_), .val (.int e2_), .val (.ref key), .val (.ref hh), .unset, .unset, .unset] [(.ref key), .null, (.ref t221), (.ref hh), (.ref d), (.ref d)])) rfl (by rw [hml]; rfl) (Steps.refl _) (a := d) (argsL := [(.ref hh), (.ref t221), .null, (.ref key)]) (rest := [(.ref d)]) (lenOf pd_3 rfl) rfl (by show 2 * 0 + _ ≤ _; exact Nat.le_of_eq rfl) (hb hby at_140) (fun _ _ => ⟨rfl, rfl, (by decide : 4 + 2 ≤ _), (by decide : 40 + 35 ≤ _)⟩)
        dsimp only [Pt.U, Pt.locs, Pt.cells, Pt.slots] at X223 l223 y223 z223 st223 hQ223
        subst l223 y223 z223
        obtain ⟨rfl, Nq223, K223, Ed, c, szc, Fc, Hc, Ec⟩ := hQ223
        have N223 := Fr.app N221 Nq223
        have g_c : n0 ≤ c := Nat.le_trans Z_221 szc
        have ne_key_c : key ≠ c := Nat.ne_of_lt (Nat.lt_of_lt_of_le Ex206_221.lt szc)
        have ne_hh_c : hh ≠ c := Nat.ne_of_lt (Nat.lt_of_lt_of_le Ex214_221.lt szc)
        have ne_d_c : d ≠ c := Nat.ne_of_lt (Nat.lt_of_lt_of_le E_d_221.lt szc)
        have ne_t221_c : t221 ≠ c := Nat.ne_of_lt (Nat.lt_of_lt_of_le Et221.lt szc)
        have Od_223 := Od_221.keep K223 (allS g_d (all0))
        have Ex206_223 := Ex206_221.keep K223
        have Hk_223 := Hk_221.keep K223 (ninS ne_key_d nin0)
        have Ex214_223 := Ex214_221.keep K223
        have Hh_hh_223 := Hh_hh_221.keep K223 (ninS ne_hh_d nin0)
        have E_d_223 := E_d_221.keep K223
        have Et221_223 := Et221.keep K223
        have Z_223 : n0 ≤ T223.heap.size := Nat.le_trans Z_221 K223.1
        have st224 : ∀ target, Steps p.tables e below (T223.setTop (mkF m 161 #[.val (.int p0), .val (.int p1), .val (.int p2), .val (.int p3), .val (.long q4), .second, .val (.int (0 : Int32)), .val (.int (1 : Int32)), .val (.int (3 : Int32)), .val (.int e0_), .val (.int e1_), .val (.int e2_), .val (.ref key), .val (.ref hh), .val (.ref d), .unset, .unset] [(.int (0 : Int32)), (.ref key), (.int (0 : Int32)), (.ref key)])) target → Steps p.tables e below (T223.setTop (mkF m 143 #[.val (.int p0), .val (.int p1), .val (.int p2), .val (.int p3), .val (.long q4), .second, .val (.int (0 : Int32)), .val (.int (1 : Int32)), .val (.int (3 : Int32)), .val (.int e0_), .val (.int e1_), .val (.int e2_), .val (.ref key), .val (.ref hh), .unset, .unset, .unset] [(.ref d)])) target := by
          intro target kt
          show Steps p.tables e below (T223.setTop (mkF m 143 #[.val (.int p0), .val (.int p1), .val (.int p2), .val (.int p3), .val (.long q4), .second, .val (.int (0 : Int32)), .val (.int (1 : Int32)), .val (.int (3 : Int32)), .val (.int e0_), .val (.int e1_), .val (.int e2_), .val (.ref key), .val (.ref hh), .unset, .unset, .unset] [(.ref d)])) _
          refine XS.astore X223.here hx rfl (hb hby at_143) rfl rfl (l' := #[.val (.int p0), .val (.int p1), .val (.int p2), .val (.int p3), .val (.long q4), .second, .val (.int (0 : Int32)), .val (.int (1 : Int32)), .val (.int (3 : Int32)), .val (.int e0_), .val (.int e1_), .val (.int e2_), .val (.ref key), .val (.ref hh), .val (.ref d), .unset, .unset]) rfl ?_
          show Steps p.tables e below (T223.setTop (mkF m 145 #[.val (.int p0), .val (.int p1), .val (.int p2), .val (.int p3), .val (.long q4), .second, .val (.int (0 : Int32)), .val (.int (1 : Int32)), .val (.int (3 : Int32)), .val (.int e0_), .val (.int e1_), .val (.int e2_), .val (.ref key), .val (.ref hh), .val (.ref d), .unset, .unset] [])) _
          refine XS.aload X223.here hx rfl (hb hby at_145) rfl rfl ?_
          show Steps p.tables e below (T223.setTop (mkF m 147 #[.val (.int p0), .val (.int p1), .val (.int p2), .val (.int p3), .val (.long q4), .second, .val (.int (0 : Int32)), .val (.int (1 : Int32)), .val (.int (3 : Int32)), .val (.int e0_), .val (.int e1_), .val (.int e2_), .val (.ref key), .val (.ref hh), .val (.ref d), .unset, .unset] [(.ref key)])) _
          refine XS.ifnullNo X223.here hx rfl (hb hby at_147) rfl ?_
          show Steps p.tables e below (T223.setTop (mkF m 150 #[.val (.int p0), .val (.int p1), .val (.int p2), .val (.int p3), .val (.long q4), .second, .val (.int (0 : Int32)), .val (.int (1 : Int32)), .val (.int (3 : Int32)), .val (.int e0_), .val (.int e1_), .val (.int e2_), .val (.ref key), .val (.ref hh), .val (.ref d), .unset, .unset] [])) _
          refine XS.iload X223.here hx rfl (hb hby at_150) rfl ?_
          show Steps p.tables e below (T223.setTop (mkF m 152 #[.val (.int p0), .val (.int p1), .val (.int p2), .val (.int p3), .val (.long q4), .second, .val (.int (0 : Int32)), .val (.int (1 : Int32)), .val (.int (3 : Int32)), .val (.int e0_), .val (.int e1_), .val (.int e2_), .val (.ref key), .val (.ref hh), .val (.ref d), .unset, .unset] [(.int (3 : Int32))])) _
          refine XS.ifNo X223.here hx rfl (hb hby at_152) rfl ((if0 _ _).trans (tlt (by decide : ((0 : Int32) < (3 : Int32)))).2.2.2) ?_
          show Steps p.tables e below (T223.setTop (mkF m 155 #[.val (.int p0), .val (.int p1), .val (.int p2), .val (.int p3), .val (.long q4), .second, .val (.int (0 : Int32)), .val (.int (1 : Int32)), .val (.int (3 : Int32)), .val (.int e0_), .val (.int e1_), .val (.int e2_), .val (.ref key), .val (.ref hh), .val (.ref d), .unset, .unset] [])) _
          refine XS.aload X223.here hx rfl (hb hby at_155) rfl rfl ?_
          show Steps p.tables e below (T223.setTop (mkF m 157 #[.val (.int p0), .val (.int p1), .val (.int p2), .val (.int p3), .val (.long q4), .second, .val (.int (0 : Int32)), .val (.int (1 : Int32)), .val (.int (3 : Int32)), .val (.int e0_), .val (.int e1_), .val (.int e2_), .val (.ref key), .val (.ref hh), .val (.ref d), .unset, .unset] [(.ref key)])) _
          refine XS.iconst X223.here hx rfl (hb hby at_157) ?_
          show Steps p.tables e below (T223.setTop (mkF m 158 #[.val (.int p0), .val (.int p1), .val (.int p2), .val (.int p3), .val (.long q4), .second, .val (.int (0 : Int32)), .val (.int (1 : Int32)), .val (.int (3 : Int32)), .val (.int e0_), .val (.int e1_), .val (.int e2_), .val (.ref key), .val (.ref hh), .val (.ref d), .unset, .unset] [(.int (0 : Int32)), (.ref key)])) _
          refine XS.aload X223.here hx rfl (hb hby at_158) rfl rfl ?_
          show Steps p.tables e below (T223.setTop (mkF m 160 #[.val (.int p0), .val (.int p1), .val (.int p2), .val (.int p3), .val (.long q4), .second, .val (.int (0 : Int32)), .val (.int (1 : Int32)), .val (.int (3 : Int32)), .val (.int e0_), .val (.int e1_), .val (.int e2_), .val (.ref key), .val (.ref hh), .val (.ref d), .unset, .unset] [(.ref key), (.int (0 : Int32)), (.ref key)])) _
          refine XS.iconst X223.here hx rfl (hb hby at_160) ?_
          exact kt
        obtain ⟨cl225, Ar225, qc225, Sz225, Mn225, Hs225, Gs225⟩ := id Hk_223
        have hin225 : ¬ ((0 : Int32) < 0 ∨ cl225.slots.size ≤ ((0 : Int32)).toNatClampNeg) := own_in Sz225 ⟨by decide, by decide⟩
        have hat225 : cl225.slots[((0 : Int32)).toNatClampNeg]? = some (.int e0_) := atH Hs225 hin225 rfl
        have st226 : ∀ target, Steps p.tables e below (T223.setTop (mkF m 162 #[.val (.int p0), .val (.int p1), .val (.int p2), .val (.int p3), .val (.long q4), .second, .val (.int (0 : Int32)), .val (.int (1 : Int32)), .val (.int (3 : Int32)), .val (.int e0_), .val (.int e1_), .val (.int e2_), .val (.ref key), .val (.ref hh), .val (.ref d), .unset, .unset] [(.int e0_), (.int (0 : Int32)), (.ref key)])) target → Steps p.tables e below (T223.setTop (mkF m 161 #[.val (.int p0), .val (.int p1), .val (.int p2), .val (.int p3), .val (.long q4), .second, .val (.int (0 : Int32)), .val (.int (1 : Int32)), .val (.int (3 : Int32)), .val (.int e0_), .val (.int e1_), .val (.int e2_), .val (.ref key), .val (.ref hh), .val (.ref d), .unset, .unset] [(.int (0 : Int32)), (.ref key), (.int (0 : Int32)), (.ref key)])) target := fun target kt => X223.baloadBytes hx (j := (0 : Int32)) (v := (.int e0_)) Ar225.1 (State.isArrayOf_alike hZ.alike Ar225.2.1) Ar225.2.2 hin225 hat225 (g := (mkF m 161 #[.val (.int p0), .val (.int p1), .val (.int p2), .val (.int p3), .val (.long q4), .second, .val (.int (0 : Int32)), .val (.int (1 : Int32)), .val (.int (3 : Int32)), .val (.int e0_), .val (.int e1_), .val (.int e2_), .val (.ref key), .val (.ref hh), .val (.ref d), .unset, .unset] [(.int (0 : Int32)), (.ref key), (.int (0 : Int32)), (.ref key)])) rfl rfl (hb hby at_161) _ kt
        have st227 : ∀ target, Steps p.tables e below (T223.setTop (mkF m 166 #[.val (.int p0), .val (.int p1), .val (.int p2), .val (.int p3), .val (.long q4), .second, .val (.int (0 : Int32)), .val (.int (1 : Int32)), .val (.int (3 : Int32)), .val (.int e0_), .val (.int e1_), .val (.int e2_), .val (.ref key), .val (.ref hh), .val (.ref d), .unset, .unset] [(.int ((e0_ ^^^ (90 : Int32)).toInt8.toInt32)), (.int (0 : Int32)), (.ref key)])) target → Steps p.tables e below (T223.setTop (mkF m 162 #[.val (.int p0), .val (.int p1), .val (.int p2), .val (.int p3), .val (.long q4), .second, .val (.int (0 : Int32)), .val (.int (1 : Int32)), .val (.int (3 : Int32)), .val (.int e0_), .val (.int e1_), .val (.int e2_), .val (.ref key), .val (.ref hh), .val (.ref d), .unset, .unset] [(.int e0_), (.int (0 : Int32)), (.ref key)])) target := by
          intro target kt
          show Steps p.tables e below (T223.setTop (mkF m 162 #[.val (.int p0), .val (.int p1), .val (.int p2), .val (.int p3), .val (.long q4), .second, .val (.int (0 : Int32)), .val (.int (1 : Int32)), .val (.int (3 : Int32)), .val (.int e0_), .val (.int e1_), .val (.int e2_), .val (.ref key), .val (.ref hh), .val (.ref d), .unset, .unset] [(.int e0_), (.int (0 : Int32)), (.ref key)])) _
          refine XS.bipush X223.here hx rfl (hb hby at_162) ?_
          show Steps p.tables e below (T223.setTop (mkF m 164 #[.val (.int p0), .val (.int p1), .val (.int p2), .val (.int p3), .val (.long q4), .second, .val (.int (0 : Int32)), .val (.int (1 : Int32)), .val (.int (3 : Int32)), .val (.int e0_), .val (.int e1_), .val (.int e2_), .val (.ref key), .val (.ref hh), .val (.ref d), .unset, .unset] [(.int (90 : Int32)), (.int e0_), (.int (0 : Int32)), (.ref key)])) _
          refine XS.ixor X223.here hx rfl (hb hby at_164) rfl ?_
          show Steps p.tables e below (T223.setTop (mkF m 165 #[.val (.int p0), .val (.int p1), .val (.int p2), .val (.int p3), .val (.long q4), .second, .val (.int (0 : Int32)), .val (.int (1 : Int32)), .val (.int (3 : Int32)), .val (.int e0_), .val (.int e1_), .val (.int e2_), .val (.ref key), .val (.ref hh), .val (.ref d), .unset, .unset] [(.int (e0_ ^^^ (90 : Int32))), (.int (0 : Int32)), (.ref key)])) _
          refine XS.i2b X223.here hx rfl (hb hby at_165) rfl ?_
          exact kt
        obtain ⟨cl228, Ar228, qc228, Sz228, Mn228, Hs228, Gs228⟩ := id Hk_223
        have hin228 : ¬ ((0 : Int32) < 0 ∨ cl228.slots.size ≤ ((0 : Int32)).toNatClampNeg) := own_in Sz228 ⟨by decide, by decide⟩
        obtain ⟨T228, h228, X228, e228, W228, st228⟩ := stB X223 hx hZ rfl Ar228 (j := (0 : Int32)) hin228 (g := (mkF m 166 #[.val (.int p0), .val (.int p1), .val (.int p2), .val (.int p3), .val (.long q4), .second, .val (.int (0 : Int32)), .val (.int (1 : Int32)), .val (.int (3 : Int32)), .val (.int e0_), .val (.int e1_), .val (.int e2_), .val (.ref key), .val (.ref hh), .val (.ref d), .unset, .unset] [(.int ((e0_ ^^^ (90 : Int32)).toInt8.toInt32)), (.int (0 : Int32)), (.ref key)])) rfl rfl (hb hby at_166)
        have Hh_key_228 : Arh Z h228 key k206 .byte (3 : Int32) [((0 : Int32), (.int (nar .byte ((e0_ ^^^ (90 : Int32)).toInt8.toInt32)))), ((2 : Int32), (.int e2_)), ((1 : Int32), (.int e1_)), ((0 : Int32), (.int e0_))] [] (.int (0 : Int32)) := Arh.push Ar228 qc228 Sz228 Mn228 Hs228 Gs228 (fits_nar_byte _) W228 hin228
        have Od_228 := Od_223.wr W228 g_key
        have Ex206_228 := Ex206_223.wr W228
        have Ex214_228 := Ex214_223.wr W228
        have Hh_hh_228 := Hh_hh_223.other W228 (Ne.symm ne_key_hh)
        have Ed_228 := Ed.wr W228
        have Et221_228 := Et221_223.wr W228
        have Fc_228 := Fc.other W228 (Or.inl (Ne.symm ne_key_d))
        have Hc_228 := Hc.other W228 (Ne.symm ne_key_c)
        have Ec_228 := Ec.wr W228
        have Z_228 : n0 ≤ h228.size := Nat.le_trans Z_223 (Keep.of_wr W228).1
        have N228 := Fr.snoc X228 N223 g_key
        have st229 : ∀ target, Steps p.tables e below (T228.setTop (mkF m 169 #[.val (.int p0), .val (.int p1), .val (.int p2), .val (.int p3), .val (.long q4), .second, .val (.int (0 : Int32)), .val (.int (1 : Int32)), .val (.int (3 : Int32)), .val (.int e0_), .val (.int e1_), .val (.int e2_), .val (.ref key), .val (.ref hh), .val (.ref d), .unset, .unset] [(.ref d)])) target → Steps p.tables e below (T228.setTop (mkF m 167 #[.val (.int p0), .val (.int p1), .val (.int p2), .val (.int p3), .val (.long q4), .second, .val (.int (0 : Int32)), .val (.int (1 : Int32)), .val (.int (3 : Int32)), .val (.int e0_), .val (.int e1_), .val (.int e2_), .val (.ref key), .val (.ref hh), .val (.ref d), .unset, .unset] [])) target := by
          intro target kt
          show Steps p.tables e below (T228.setTop (mkF m 167 #[.val (.int p0), .val (.int p1), .val (.int p2), .val (.int p3), .val (.long q4), .second, .val (.int (0 : Int32)), .val (.int (1 : Int32)), .val (.int (3 : Int32)), .val (.int e0_), .val (.int e1_), .val (.int e2_), .val (.ref key), .val (.ref hh), .val (.ref d), .unset, .unset] [])) _
          refine XS.aload X228.here hx rfl (hb hby at_167) rfl rfl ?_
          exact kt
        obtain ⟨cq230, kq230, qv230a, qv230b, qv230c⟩ := isOf hZ e228 Ed_228
        obtain ⟨_, _, ⟨T230, L230, k230, n230⟩, -, X230, ⟨Lc230, hQ230, l230, y230, z230⟩, st230⟩ := X228.virtualBack hx (y := (⟨"com/example/imprimatur/imprimatur/verify/DeviceValues", "publicKey", "()[B"⟩ : MethodName)) (z := (⟨"com/example/imprimatur/imprimatur/verify/DeviceValues", "publicKey", "()[B"⟩ : MethodName)) hown (mvT hZ (hw _ (List.mem_of_getElem? (i := 47) rfl))) (mvT hZ (hw _ (List.mem_of_getElem? (i := 48) rfl))) (notFace_of_selects (args := #[]) (mvT hZ (hw _ (List.mem_of_getElem? (i := 50) rfl)))) (mvT hZ (hw _ (List.mem_of_getElem? (i := 50) rfl))) (mvT hZ (hw _ (List.mem_of_getElem? (i := 49) rfl))) (by decide) (backOf (W := 0) (rm_publicKey l Z a0 hw [] d c k206 (3 : Int32) [((2 : Int32), (.int e2_)), ((1 : Int32), (.int e1_)), ((0 : Int32), (.int e0_))] h228 n0 Z_228 Fc_228 Hc_228 Ec_228 (by decide)) hZ (hw _ (List.mem_of_getElem? (i := 51) rfl)) (hw _ (List.mem_of_getElem? (i := 3) rfl)) (by decide) (by decide)) qv230a qv230c (g := (mkF m 169 #[.val (.int p0), .val (.int p1), .val (.int p2), .val (.int p3), .val (.long q4), .second, .val (.int (0 : Int32)), .val (.int (1 : Int32)), .val (.int (3 : Int32)), .val (.int e0_), .val (.int e1_), .val (.int e2_), .val (.ref key), .val (.ref hh), .val (.ref d), .unset, .unset] [(.ref d)])) rfl (by rw [hml]; rfl) (Steps.refl _) (argsL := []) (rest := []) (lenOf pd_5 rfl) rfl (by show 2 * 0 + _ ≤ _; exact Nat.le_of_eq rfl) (hb hby at_169) (fun _ _ => ⟨rfl, e228, (by decide : 6 + 1 ≤ _), (by decide : 75 + 3 ≤ _)⟩)
        dsimp only [Pt.U, Pt.locs, Pt.cells, Pt.slots] at X230 l230 y230 z230 st230 hQ230
        subst l230 y230 z230
        obtain ⟨c2_230, rfl, Nq230, K230, sz230, Hr1, Er1⟩ := hQ230
        have N230 := Fr.app N228 Nq230
        have g_c2_230 : n0 ≤ c2_230 := Nat.le_trans Z_228 sz230
        have ne_key_c2_230 : key ≠ c2_230 := Nat.ne_of_lt (Nat.lt_of_lt_of_le Ex206_228.lt sz230)
        have ne_hh_c2_230 : hh ≠ c2_230 := Nat.ne_of_lt (Nat.lt_of_lt_of_le Ex214_228.lt sz230)
        have ne_d_c2_230 : d ≠ c2_230 := Nat.ne_of_lt (Nat.lt_of_lt_of_le Ed_228.lt sz230)
        have ne_t221_c2_230 : t221 ≠ c2_230 := Nat.ne_of_lt (Nat.lt_of_lt_of_le Et221_228.lt sz230)
        have ne_c_c2_230 : c ≠ c2_230 := Nat.ne_of_lt (Nat.lt_of_lt_of_le Hc_228.lt sz230)
        have Od_230 := Od_228.keep K230 (all0)
        have Ex206_230 := Ex206_228.keep K230
        have Ex214_230 := Ex214_228.keep K230
        have Hh_hh_230 := Hh_hh_228.keep K230 nin0
        have Ed_230 := Ed_228.keep K230
        have Et221_230 := Et221_228.keep K230
        have Fc_230 := Fc_228.keep K230 nin0
        have Hc_230 := Hc_228.keep K230 nin0
        have Ec_230 := Ec_228.keep K230
        have Hh_key_230 := Hh_key_228.keep K230 nin0
        have Z_230 : n0 ≤ T230.heap.size := Nat.le_trans Z_228 K230.1
        have st231 : ∀ target, Steps p.tables e below (T230.setTop (mkF m 200 #[.val (.int p0), .val (.int p1), .val (.int p2), .val (.int p3), .val (.long q4), .second, .val (.int (0 : Int32)), .val (.int (1 : Int32)), .val (.int (3 : Int32)), .val (.int e0_), .val (.int e1_), .val (.int e2_), .val (.ref key), .val (.ref hh), .val (.ref d), .val (.ref c2_230), .unset] [(.int e2_), (.int e1_), (.int e0_), (.int (3 : Int32)), (.ref c2_230)])) target → Steps p.tables e below (T230.setTop (mkF m 172 #[.val (.int p0), .val (.int p1), .val (.int p2), .val (.int p3), .val (.long q4), .second, .val (.int (0 : Int32)), .val (.int (1 : Int32)), .val (.int (3 : Int32)), .val (.int e0_), .val (.int e1_), .val (.int e2_), .val (.ref key), .val (.ref hh), .val (.ref d), .unset, .unset] [(.ref c2_230)])) target := by
          intro target kt
          show Steps p.tables e below (T230.setTop (mkF m 172 #[.val (.int p0), .val (.int p1), .val (.int p2), .val (.int p3), .val (.long q4), .second, .val (.int (0 : Int32)), .val (.int (1 : Int32)), .val (.int (3 : Int32)), .val (.int e0_), .val (.int e1_), .val (.int e2_), .val (.ref key), .val (.ref hh), .val (.ref d), .unset, .unset] [(.ref c2_230)])) _
          refine XS.astore X230.here hx rfl (hb hby at_172) rfl rfl (l' := #[.val (.int p0), .val (.int p1), .val (.int p2), .val (.int p3), .val (.long q4), .second, .val (.int (0 : Int32)), .val (.int (1 : Int32)), .val (.int (3 : Int32)), .val (.int e0_), .val (.int e1_), .val (.int e2_), .val (.ref key), .val (.ref hh), .val (.ref d), .val (.ref c2_230), .unset]) rfl ?_
          show Steps p.tables e below (T230.setTop (mkF m 174 #[.val (.int p0), .val (.int p1), .val (.int p2), .val (.int p3), .val (.long q4), .second, .val (.int (0 : Int32)), .val (.int (1 : Int32)), .val (.int (3 : Int32)), .val (.int e0_), .val (.int e1_), .val (.int e2_), .val (.ref key), .val (.ref hh), .val (.ref d), .val (.ref c2_230), .unset] [])) _
          refine XS.iload X230.here hx rfl (hb hby at_174) rfl ?_
          show Steps p.tables e below (T230.setTop (mkF m 176 #[.val (.int p0), .val (.int p1), .val (.int p2), .val (.int p3), .val (.long q4), .second, .val (.int (0 : Int32)), .val (.int (1 : Int32)), .val (.int (3 : Int32)), .val (.int e0_), .val (.int e1_), .val (.int e2_), .val (.ref key), .val (.ref hh), .val (.ref d), .val (.ref c2_230), .unset] [(.int (0 : Int32))])) _
          refine XS.ifYes X230.here hx rfl (pc0 := 176) (pc' := 190) rfl (hb hby at_176) rfl ((if0 _ _).trans (teq (rfl : (0 : Int32) = (0 : Int32))).1) (by decide) (by decide) ?_
          show Steps p.tables e below (T230.setTop (mkF m 190 #[.val (.int p0), .val (.int p1), .val (.int p2), .val (.int p3), .val (.long q4), .second, .val (.int (0 : Int32)), .val (.int (1 : Int32)), .val (.int (3 : Int32)), .val (.int e0_), .val (.int e1_), .val (.int e2_), .val (.ref key), .val (.ref hh), .val (.ref d), .val (.ref c2_230), .unset] [])) _
          refine XS.aload X230.here hx rfl (hb hby at_190) rfl rfl ?_
          show Steps p.tables e below (T230.setTop (mkF m 192 #[.val (.int p0), .val (.int p1), .val (.int p2), .val (.int p3), .val (.long q4), .second, .val (.int (0 : Int32)), .val (.int (1 : Int32)), .val (.int (3 : Int32)), .val (.int e0_), .val (.int e1_), .val (.int e2_), .val (.ref key), .val (.ref hh), .val (.ref d), .val (.ref c2_230), .unset] [(.ref c2_230)])) _
          refine XS.iload X230.here hx rfl (hb hby at_192) rfl ?_
          show Steps p.tables e below (T230.setTop (mkF m 194 #[.val (.int p0), .val (.int p1), .val (.int p2), .val (.int p3), .val (.long q4), .second, .val (.int (0 : Int32)), .val (.int (1 : Int32)), .val (.int (3 : Int32)), .val (.int e0_), .val (.int e1_), .val (.int e2_), .val (.ref key), .val (.ref hh), .val (.ref d), .val (.ref c2_230), .unset] [(.int (3 : Int32)), (.ref c2_230)])) _
          refine XS.iload X230.here hx rfl (hb hby at_194) rfl ?_
          show Steps p.tables e below (T230.setTop (mkF m 196 #[.val (.int p0), .val (.int p1), .val (.int p2), .val (.int p3), .val (.long q4), .second, .val (.int (0 : Int32)), .val (.int (1 : Int32)), .val (.int (3 : Int32)), .val (.int e0_), .val (.int e1_), .val (.int e2_), .val (.ref key), .val (.ref hh), .val (.ref d), .val (.ref c2_230), .unset] [(.int e0_), (.int (3 : Int32)), (.ref c2_230)])) _
          refine XS.iload X230.here hx rfl (hb hby at_196) rfl ?_
          show Steps p.tables e below (T230.setTop (mkF m 198 #[.val (.int p0), .val (.int p1), .val (.int p2), .val (.int p3), .val (.long q4), .second, .val (.int (0 : Int32)), .val (.int (1 : Int32)), .val (.int (3 : Int32)), .val (.int e0_), .val (.int e1_), .val (.int e2_), .val (.ref key), .val (.ref hh), .val (.ref d), .val (.ref c2_230), .unset] [(.int e1_), (.int e0_), (.int (3 : Int32)), (.ref c2_230)])) _
          refine XS.iload X230.here hx rfl (hb hby at_198) rfl ?_
          exact kt
        obtain ⟨_, _, ⟨T232, L232, k232, n232⟩, -, X232, ⟨Lc232, hQ232, l232, y232, z232⟩, st232⟩ := Jvm.LawKit.callS X230 hx (y := (⟨"com/example/imprimatur/imprimatur/verify/DeviceValuesPublicKeyPinLaw", "same", "([BIBBB)Z"⟩ : MethodName)) hown (mvT hZ (hw _ (List.mem_of_getElem? (i := 52) rfl))) (mvT hZ (hw _ (List.mem_of_getElem? (i := 53) rfl))) (mvT hZ (hw _ (List.mem_of_getElem? (i := 54) rfl))) (mvT hZ (hw _ (List.mem_of_getElem? (i := 55) rfl))) (by decide) (backOf (W := 0) (rmS3 l Z a0 hw [] c2_230 e0_ e1_ e2_ k206 [((2 : Int32), (.int e2_)), ((1 : Int32), (.int e1_)), ((0 : Int32), (.int e0_))] T230.heap n0 Z_230 Hr1 rfl rfl rfl) hZ (hw _ (List.mem_of_getElem? (i := 55) rfl)) (hw _ (List.mem_of_getElem? (i := 54) rfl)) (by decide) (by decide)) (g := (mkF m 200 #[.val (.int p0), .val (.int p1), .val (.int p2), .val (.int p3), .val (.long q4), .second, .val (.int (0 : Int32)), .val (.int (1 : Int32)), .val (.int (3 : Int32)), .val (.int e0_), .val (.int e1_), .val (.int e2_), .val (.ref key), .val (.ref hh), .val (.ref d), .val (.ref c2_230), .unset] [(.int e2_), (.int e1_), (.int e0_), (.int (3 : Int32)), (.ref c2_230)])) rfl (by rw [hml]; rfl) (argsL := [(.ref c2_230), (.int (3 : Int32)), (.int e0_), (.int e1_), (.int e2_)]) (rest := []) (lenOf pd_6 rfl) rfl (by show 2 * 0 + _ ≤ _; exact Nat.le_of_eq rfl) (hb hby at_200) (fun _ _ => ⟨rfl, rfl, (by decide : 7 + 0 ≤ _), (by decide : 78 + 0 ≤ _)⟩)
        dsimp only [Pt.U, Pt.locs, Pt.cells, Pt.slots] at X232 l232 y232 z232 st232 hQ232
        subst l232 y232 z232
        obtain ⟨rfl, Nq232, e232⟩ := hQ232
        have N232 := Fr.app N230 Nq232
        have st233 : ∀ target, Steps p.tables e below (T232.setTop (mkF m 219 #[.val (.int p0), .val (.int p1), .val (.int p2), .val (.int p3), .val (.long q4), .second, .val (.int (0 : Int32)), .val (.int (1 : Int32)), .val (.int (3 : Int32)), .val (.int e0_), .val (.int e1_), .val (.int e2_), .val (.ref key), .val (.ref hh), .val (.ref d), .val (.ref c2_230), .unset] [(.int (0 : Int32)), (.ref c2_230), (.int (0 : Int32)), (.ref c2_230)])) target → Steps p.tables e below (T232.setTop (mkF m 203 #[.val (.int p0), .val (.int p1), .val (.int p2), .val (.int p3), .val (.long q4), .second, .val (.int (0 : Int32)), .val (.int (1 : Int32)), .val (.int (3 : Int32)), .val (.int e0_), .val (.int e1_), .val (.int e2_), .val (.ref key), .val (.ref hh), .val (.ref d), .val (.ref c2_230), .unset] [(.int (1 : Int32))])) target := by
          intro target kt
          show Steps p.tables e below (T232.setTop (mkF m 203 #[.val (.int p0), .val (.int p1), .val (.int p2), .val (.int p3), .val (.long q4), .second, .val (.int (0 : Int32)), .val (.int (1 : Int32)), .val (.int (3 : Int32)), .val (.int e0_), .val (.int e1_), .val (.int e2_), .val (.ref key), .val (.ref hh), .val (.ref d), .val (.ref c2_230), .unset] [(.int (1 : Int32))])) _
          refine XS.ifYes X232.here hx rfl (pc0 := 203) (pc' := 208) rfl (hb hby at_203) rfl ((if0 _ _).trans (feq (by decide : ¬ ((1 : Int32) = (0 : Int32)))).2) (by decide) (by decide) ?_
          show Steps p.tables e below (T232.setTop (mkF m 208 #[.val (.int p0), .val (.int p1), .val (.int p2), .val (.int p3), .val (.long q4), .second, .val (.int (0 : Int32)), .val (.int (1 : Int32)), .val (.int (3 : Int32)), .val (.int e0_), .val (.int e1_), .val (.int e2_), .val (.ref key), .val (.ref hh), .val (.ref d), .val (.ref c2_230), .unset] [])) _
          refine XS.iload X232.here hx rfl (hb hby at_208) rfl ?_
          show Steps p.tables e below (T232.setTop (mkF m 210 #[.val (.int p0), .val (.int p1), .val (.int p2), .val (.int p3), .val (.long q4), .second, .val (.int (0 : Int32)), .val (.int (1 : Int32)), .val (.int (3 : Int32)), .val (.int e0_), .val (.int e1_), .val (.int e2_), .val (.ref key), .val (.ref hh), .val (.ref d), .val (.ref c2_230), .unset] [(.int (3 : Int32))])) _
          refine XS.ifNo X232.here hx rfl (hb hby at_210) rfl ((if0 _ _).trans (tlt (by decide : ((0 : Int32) < (3 : Int32)))).2.2.2) ?_
          show Steps p.tables e below (T232.setTop (mkF m 213 #[.val (.int p0), .val (.int p1), .val (.int p2), .val (.int p3), .val (.long q4), .second, .val (.int (0 : Int32)), .val (.int (1 : Int32)), .val (.int (3 : Int32)), .val (.int e0_), .val (.int e1_), .val (.int e2_), .val (.ref key), .val (.ref hh), .val (.ref d), .val (.ref c2_230), .unset] [])) _
          refine XS.aload X232.here hx rfl (hb hby at_213) rfl rfl ?_
          show Steps p.tables e below (T232.setTop (mkF m 215 #[.val (.int p0), .val (.int p1), .val (.int p2), .val (.int p3), .val (.long q4), .second, .val (.int (0 : Int32)), .val (.int (1 : Int32)), .val (.int (3 : Int32)), .val (.int e0_), .val (.int e1_), .val (.int e2_), .val (.ref key), .val (.ref hh), .val (.ref d), .val (.ref c2_230), .unset] [(.ref c2_230)])) _
          refine XS.iconst X232.here hx rfl (hb hby at_215) ?_
          show Steps p.tables e below (T232.setTop (mkF m 216 #[.val (.int p0), .val (.int p1), .val (.int p2), .val (.int p3), .val (.long q4), .second, .val (.int (0 : Int32)), .val (.int (1 : Int32)), .val (.int (3 : Int32)), .val (.int e0_), .val (.int e1_), .val (.int e2_), .val (.ref key), .val (.ref hh), .val (.ref d), .val (.ref c2_230), .unset] [(.int (0 : Int32)), (.ref c2_230)])) _
          refine XS.aload X232.here hx rfl (hb hby at_216) rfl rfl ?_
          show Steps p.tables e below (T232.setTop (mkF m 218 #[.val (.int p0), .val (.int p1), .val (.int p2), .val (.int p3), .val (.long q4), .second, .val (.int (0 : Int32)), .val (.int (1 : Int32)), .val (.int (3 : Int32)), .val (.int e0_), .val (.int e1_), .val (.int e2_), .val (.ref key), .val (.ref hh), .val (.ref d), .val (.ref c2_230), .unset] [(.ref c2_230), (.int (0 : Int32)), (.ref c2_230)])) _
          refine XS.iconst X232.here hx rfl (hb hby at_218) ?_
          exact kt
        obtain ⟨cl234, Ar234, qc234, Sz234, Mn234, Hs234, Gs234⟩ := id Hr1
        have hin234 : ¬ ((0 : Int32) < 0 ∨ cl234.slots.size ≤ ((0 : Int32)).toNatClampNeg) := own_in Sz234 ⟨by decide, by decide⟩
        have hat234 : cl234.slots[((0 : Int32)).toNatClampNeg]? = some (.int e0_) := atH Hs234 hin234 rfl
        have st235 : ∀ target, Steps p.tables e below (T232.setTop (mkF m 220 #[.val (.int p0), .val (.int p1), .val (.int p2), .val (.int p3), .val (.long q4), .second, .val (.int (0 : Int32)), .val (.int (1 : Int32)), .val (.int (3 : Int32)), .val (.int e0_), .val (.int e1_), .val (.int e2_), .val (.ref key), .val (.ref hh), .val (.ref d), .val (.ref c2_230), .unset] [(.int e0_), (.int (0 : Int32)), (.ref c2_230)])) target → Steps p.tables e below (T232.setTop (mkF m 219 #[.val (.int p0), .val (.int p1), .val (.int p2), .val (.int p3), .val (.long q4), .second, .val (.int (0 : Int32)), .val (.int (1 : Int32)), .val (.int (3 : Int32)), .val (.int e0_), .val (.int e1_), .val (.int e2_), .val (.ref key), .val (.ref hh), .val (.ref d), .val (.ref c2_230), .unset] [(.int (0 : Int32)), (.ref c2_230), (.int (0 : Int32)), (.ref c2_230)])) target := fun target kt => X232.baloadBytes hx (j := (0 : Int32)) (v := (.int e0_)) (by rw [e232]; exact Ar234.1) (State.isArrayOf_alike hZ.alike Ar234.2.1) Ar234.2.2 hin234 hat234 (g := (mkF m 219 #[.val (.int p0), .val (.int p1), .val (.int p2), .val (.int p3), .val (.long q4), .second, .val (.int (0 : Int32)), .val (.int (1 : Int32)), .val (.int (3 : Int32)), .val (.int e0_), .val (.int e1_), .val (.int e2_), .val (.ref key), .val (.ref hh), .val (.ref d), .val (.ref c2_230), .unset] [(.int (0 : Int32)), (.ref c2_230), (.int (0 : Int32)), (.ref c2_230)])) rfl rfl (hb hby at_219) _ kt
        have st236 : ∀ target, Steps p.tables e below (T232.setTop (mkF m 223 #[.val (.int p0), .val (.int p1), .val (.int p2), .val (.int p3), .val (.long q4), .second, .val (.int (0 : Int32)), .val (.int (1 : Int32)), .val (.int (3 : Int32)), .val (.int e0_), .val (.int e1_), .val (.int e2_), .val (.ref key), .val (.ref hh), .val (.ref d), .val (.ref c2_230), .unset] [(.int ((e0_ ^^^ (1 : Int32)).toInt8.toInt32)), (.int (0 : Int32)), (.ref c2_230)])) target → Steps p.tables e below (T232.setTop (mkF m 220 #[.val (.int p0), .val (.int p1), .val (.int p2), .val (.int p3), .val (.long q4), .second, .val (.int (0 : Int32)), .val (.int (1 : Int32)), .val (.int (3 : Int32)), .val (.int e0_), .val (.int e1_), .val (.int e2_), .val (.ref key), .val (.ref hh), .val (.ref d), .val (.ref c2_230), .unset] [(.int e0_), (.int (0 : Int32)), (.ref c2_230)])) target := by
          intro target kt
          show Steps p.tables e below (T232.setTop (mkF m 220 #[.val (.int p0), .val (.int p1), .val (.int p2), .val (.int p3), .val (.long q4), .second, .val (.int (0 : Int32)), .val (.int (1 : Int32)), .val (.int (3 : Int32)), .val (.int e0_), .val (.int e1_), .val (.int e2_), .val (.ref key), .val (.ref hh), .val (.ref d), .val (.ref c2_230), .unset] [(.int e0_), (.int (0 : Int32)), (.ref c2_230)])) _
          refine XS.iconst X232.here hx rfl (hb hby at_220) ?_
          show Steps p.tables e below (T232.setTop (mkF m 221 #[.val (.int p0), .val (.int p1), .val (.int p2), .val (.int p3), .val (.long q4), .second, .val (.int (0 : Int32)), .val (.int (1 : Int32)), .val (.int (3 : Int32)), .val (.int e0_), .val (.int e1_), .val (.int e2_), .val (.ref key), .val (.ref hh), .val (.ref d), .val (.ref c2_230), .unset] [(.int (1 : Int32)), (.int e0_), (.int (0 : Int32)), (.ref c2_230)])) _
          refine XS.ixor X232.here hx rfl (hb hby at_221) rfl ?_
          show Steps p.tables e below (T232.setTop (mkF m 222 #[.val (.int p0), .val (.int p1), .val (.int p2), .val (.int p3), .val (.long q4), .second, .val (.int (0 : Int32)), .val (.int (1 : Int32)), .val (.int (3 : Int32)), .val (.int e0_), .val (.int e1_), .val (.int e2_), .val (.ref key), .val (.ref hh), .val (.ref d), .val (.ref c2_230), .unset] [(.int (e0_ ^^^ (1 : Int32))), (.int (0 : Int32)), (.ref c2_230)])) _
          refine XS.i2b X232.here hx rfl (hb hby at_222) rfl ?_
          exact kt
        obtain ⟨cl237, Ar237, qc237, Sz237, Mn237, Hs237, Gs237⟩ := id Hr1
        have hin237 : ¬ ((0 : Int32) < 0 ∨ cl237.slots.size ≤ ((0 : Int32)).toNatClampNeg) := own_in Sz237 ⟨by decide, by decide⟩
        obtain ⟨T237, h237, X237, e237, W237, st237⟩ := stB X232 hx hZ e232 Ar237 (j := (0 : Int32)) hin237 (g := (mkF m 223 #[.val (.int p0), .val (.int p1), .val (.int p2), .val (.int p3), .val (.long q4), .second, .val (.int (0 : Int32)), .val (.int (1 : Int32)), .val (.int (3 : Int32)), .val (.int e0_), .val (.int e1_), .val (.int e2_), .val (.ref key), .val (.ref hh), .val (.ref d), .val (.ref c2_230), .unset] [(.int ((e0_ ^^^ (1 : Int32)).toInt8.toInt32)), (.int (0 : Int32)), (.ref c2_230)])) rfl rfl (hb hby at_223)
        have Hh_c2_230_237 : Arh Z h237 c2_230 k206 .byte (3 : Int32) [((0 : Int32), (.int (nar .byte ((e0_ ^^^ (1 : Int32)).toInt8.toInt32)))), ((2 : Int32), (.int e2_)), ((1 : Int32), (.int e1_)), ((0 : Int32), (.int e0_))] [] (.int (0 : Int32)) := Arh.push Ar237 qc237 Sz237 Mn237 Hs237 Gs237 (fits_nar_byte _) W237 hin237
        have Od_237 := Od_230.wr W237 g_c2_230
        have Ex206_237 := Ex206_230.wr W237
        have Ex214_237 := Ex214_230.wr W237
        have Hh_hh_237 := Hh_hh_230.other W237 ne_hh_c2_230
        have Ed_237 := Ed_230.wr W237
        have Et221_237 := Et221_230.wr W237
        have Fc_237 := Fc_230.other W237 (Or.inl ne_d_c2_230)
        have Hc_237 := Hc_230.other W237 ne_c_c2_230
        have Ec_237 := Ec_230.wr W237
        have Hh_key_237 := Hh_key_230.other W237 ne_key_c2_230
        have Er1_237 := Er1.wr W237
        have Z_237 : n0 ≤ h237.size := Nat.le_trans Z_230 (Keep.of_wr W237).1
        have N237 := Fr.snoc X237 N232 g_c2_230
        have st238 : ∀ target, Steps p.tables e below (T237.setTop (mkF m 226 #[.val (.int p0), .val (.int p1), .val (.int p2), .val (.int p3), .val (.long q4), .second, .val (.int (0 : Int32)), .val (.int (1 : Int32)), .val (.int (3 : Int32)), .val (.int e0_), .val (.int e1_), .val (.int e2_), .val (.ref key), .val (.ref hh), .val (.ref d), .val (.ref c2_230), .unset] [(.ref d)])) target → Steps p.tables e below (T237.setTop (mkF m 224 #[.val (.int p0), .val (.int p1), .val (.int p2), .val (.int p3), .val (.long q4), .second, .val (.int (0 : Int32)), .val (.int (1 : Int32)), .val (.int (3 : Int32)), .val (.int e0_), .val (.int e1_), .val (.int e2_), .val (.ref key), .val (.ref hh), .val (.ref d), .val (.ref c2_230), .unset] [])) target := by
          intro target kt
          show Steps p.tables e below (T237.setTop (mkF m 224 #[.val (.int p0), .val (.int p1), .val (.int p2), .val (.int p3), .val (.long q4), .second, .val (.int (0 : Int32)), .val (.int (1 : Int32)), .val (.int (3 : Int32)), .val (.int e0_), .val (.int e1_), .val (.int e2_), .val (.ref key), .val (.ref hh), .val (.ref d), .val (.ref c2_230), .unset] [])) _
          refine XS.aload X237.here hx rfl (hb hby at_224) rfl rfl ?_
          exact kt
        obtain ⟨cq239, kq239, qv239a, qv239b, qv239c⟩ := isOf hZ e237 Ed_237
        obtain ⟨_, _, ⟨T239, L239, k239, n239⟩, -, X239, ⟨Lc239, hQ239, l239, y239, z239⟩, st239⟩ := X237.virtualBack hx (y := (⟨"com/example/imprimatur/imprimatur/verify/DeviceValues", "publicKey", "()[B"⟩ : MethodName)) (z := (⟨"com/example/imprimatur/imprimatur/verify/DeviceValues", "publicKey", "()[B"⟩ : MethodName)) hown (mvT hZ (hw _ (List.mem_of_getElem? (i := 47) rfl))) (mvT hZ (hw _ (List.mem_of_getElem? (i := 48) rfl))) (notFace_of_selects (args := #[]) (mvT hZ (hw _ (List.mem_of_getElem? (i := 50) rfl)))) (mvT hZ (hw _ (List.mem_of_getElem? (i := 50) rfl))) (mvT hZ (hw _ (List.mem_of_getElem? (i := 49) rfl))) (by decide) (backOf (W := 0) (rm_publicKey l Z a0 hw [] d c k206 (3 : Int32) [((2 : Int32), (.int e2_)), ((1 : Int32), (.int e1_)), ((0 : Int32), (.int e0_))] h237 n0 Z_237 Fc_237 Hc_237 Ec_237 (by decide)) hZ (hw _ (List.mem_of_getElem? (i := 51) rfl)) (hw _ (List.mem_of_getElem? (i := 3) rfl)) (by decide) (by decide)) qv239a qv239c (g := (mkF m 226 #[.val (.int p0), .val (.int p1), .val (.int p2), .val (.int p3), .val (.long q4), .second, .val (.int (0 : Int32)), .val (.int (1 : Int32)), .val (.int (3 : Int32)), .val (.int e0_), .val (.int e1_), .val (.int e2_), .val (.ref key), .val (.ref hh), .val (.ref d), .val (.ref c2_230), .unset] [(.ref d)])) rfl (by rw [hml]; rfl) (Steps.refl _) (argsL := []) (rest := []) (lenOf pd_5 rfl) rfl (by show 2 * 0 + _ ≤ _; exact Nat.le_of_eq rfl) (hb hby at_226) (fun _ _ => ⟨rfl, e237, (by decide : 7 + 1 ≤ _), (by decide : 78 + 3 ≤ _)⟩)
        dsimp only [Pt.U, Pt.locs, Pt.cells, Pt.slots] at X239 l239 y239 z239 st239 hQ239
        subst l239 y239 z239
        obtain ⟨c2_239, rfl, Nq239, K239, sz239, Hr2, Er2⟩ := hQ239
        have N239 := Fr.app N237 Nq239
        have g_c2_239 : n0 ≤ c2_239 := Nat.le_trans Z_237 sz239
        have ne_key_c2_239 : key ≠ c2_239 := Nat.ne_of_lt (Nat.lt_of_lt_of_le Ex206_237.lt sz239)
        have ne_hh_c2_239 : hh ≠ c2_239 := Nat.ne_of_lt (Nat.lt_of_lt_of_le Ex214_237.lt sz239)
        have ne_d_c2_239 : d ≠ c2_239 := Nat.ne_of_lt (Nat.lt_of_lt_of_le Ed_237.lt sz239)
        have ne_t221_c2_239 : t221 ≠ c2_239 := Nat.ne_of_lt (Nat.lt_of_lt_of_le Et221_237.lt sz239)
        have ne_c_c2_239 : c ≠ c2_239 := Nat.ne_of_lt (Nat.lt_of_lt_of_le Hc_237.lt sz239)
        have ne_c2_230_c2_239 : c2_230 ≠ c2_239 := Nat.ne_of_lt (Nat.lt_of_lt_of_le Er1_237.lt sz239)
        have Od_239 := Od_237.keep K239 (all0)
        have Ex206_239 := Ex206_237.keep K239
        have Ex214_239 := Ex214_237.keep K239
        have Hh_hh_239 := Hh_hh_237.keep K239 nin0
        have Ed_239 := Ed_237.keep K239
        have Et221_239 := Et221_237.keep K239
        have Fc_239 := Fc_237.keep K239 nin0
        have Hc_239 := Hc_237.keep K239 nin0
        have Ec_239 := Ec_237.keep K239
        have Hh_key_239 := Hh_key_237.keep K239 nin0
        have Er1_239 := Er1_237.keep K239
        have Hh_c2_230_239 := Hh_c2_230_237.keep K239 nin0
        have Z_239 : n0 ≤ T239.heap.size := Nat.le_trans Z_237 K239.1
        have st240 : ∀ target, Steps p.tables e below (T239.setTop (mkF m 241 #[.val (.int p0), .val (.int p1), .val (.int p2), .val (.int p3), .val (.long q4), .second, .val (.int (0 : Int32)), .val (.int (1 : Int32)), .val (.int (3 : Int32)), .val (.int e0_), .val (.int e1_), .val (.int e2_), .val (.ref key), .val (.ref hh), .val (.ref d), .val (.ref c2_230), .val (.ref c2_239)] [(.int e2_), (.int e1_), (.int e0_), (.int (3 : Int32)), (.ref c2_239)])) target → Steps p.tables e below (T239.setTop (mkF m 229 #[.val (.int p0), .val (.int p1), .val (.int p2), .val (.int p3), .val (.long q4), .second, .val (.int (0 : Int32)), .val (.int (1 : Int32)), .val (.int (3 : Int32)), .val (.int e0_), .val (.int e1_), .val (.int e2_), .val (.ref key), .val (.ref hh), .val (.ref d), .val (.ref c2_230), .unset] [(.ref c2_239)])) target := by
          intro target kt
          show Steps p.tables e below (T239.setTop (mkF m 229 #[.val (.int p0), .val (.int p1), .val (.int p2), .val (.int p3), .val (.long q4), .second, .val (.int (0 : Int32)), .val (.int (1 : Int32)), .val (.int (3 : Int32)), .val (.int e0_), .val (.int e1_), .val (.int e2_), .val (.ref key), .val (.ref hh), .val (.ref d), .val (.ref c2_230), .unset] [(.ref c2_239)])) _
          refine XS.astore X239.here hx rfl (hb hby at_229) rfl rfl (l' := #[.val (.int p0), .val (.int p1), .val (.int p2), .val (.int p3), .val (.long q4), .second, .val (.int (0 : Int32)), .val (.int (1 : Int32)), .val (.int (3 : Int32)), .val (.int e0_), .val (.int e1_), .val (.int e2_), .val (.ref key), .val (.ref hh), .val (.ref d), .val (.ref c2_230), .val (.ref c2_239)]) rfl ?_
          show Steps p.tables e below (T239.setTop (mkF m 231 #[.val (.int p0), .val (.int p1), .val (.int p2), .val (.int p3), .val (.long q4), .second, .val (.int (0 : Int32)), .val (.int (1 : Int32)), .val (.int (3 : Int32)), .val (.int e0_), .val (.int e1_), .val (.int e2_), .val (.ref key), .val (.ref hh), .val (.ref d), .val (.ref c2_230), .val (.ref c2_239)] [])) _
          refine XS.aload X239.here hx rfl (hb hby at_231) rfl rfl ?_
          show Steps p.tables e below (T239.setTop (mkF m 233 #[.val (.int p0), .val (.int p1), .val (.int p2), .val (.int p3), .val (.long q4), .second, .val (.int (0 : Int32)), .val (.int (1 : Int32)), .val (.int (3 : Int32)), .val (.int e0_), .val (.int e1_), .val (.int e2_), .val (.ref key), .val (.ref hh), .val (.ref d), .val (.ref c2_230), .val (.ref c2_239)] [(.ref c2_239)])) _
          refine XS.iload X239.here hx rfl (hb hby at_233) rfl ?_
          show Steps p.tables e below (T239.setTop (mkF m 235 #[.val (.int p0), .val (.int p1), .val (.int p2), .val (.int p3), .val (.long q4), .second, .val (.int (0 : Int32)), .val (.int (1 : Int32)), .val (.int (3 : Int32)), .val (.int e0_), .val (.int e1_), .val (.int e2_), .val (.ref key), .val (.ref hh), .val (.ref d), .val (.ref c2_230), .val (.ref c2_239)] [(.int (3 : Int32)), (.ref c2_239)])) _
          refine XS.iload X239.here hx rfl (hb hby at_235) rfl ?_
          show Steps p.tables e below (T239.setTop (mkF m 237 #[.val (.int p0), .val (.int p1), .val (.int p2), .val (.int p3), .val (.long q4), .second, .val (.int (0 : Int32)), .val (.int (1 : Int32)), .val (.int (3 : Int32)), .val (.int e0_), .val (.int e1_), .val (.int e2_), .val (.ref key), .val (.ref hh), .val (.ref d), .val (.ref c2_230), .val (.ref c2_239)] [(.int e0_), (.int (3 : Int32)), (.ref c2_239)])) _
          refine XS.iload X239.here hx rfl (hb hby at_237) rfl ?_
          show Steps p.tables e below (T239.setTop (mkF m 239 #[.val (.int p0), .val (.int p1), .val (.int p2), .val (.int p3), .val (.long q4), .second, .val (.int (0 : Int32)), .val (.int (1 : Int32)), .val (.int (3 : Int32)), .val (.int e0_), .val (.int e1_), .val (.int e2_), .val (.ref key), .val (.ref hh), .val (.ref d), .val (.ref c2_230), .val (.ref c2_239)] [(.int e1_), (.int e0_), (.int (3 : Int32)), (.ref c2_239)])) _
          refine XS.iload X239.here hx rfl (hb hby at_239) rfl ?_
          exact kt
        obtain ⟨_, _, ⟨T241, L241, k241, n241⟩, -, X241, ⟨Lc241, hQ241, l241, y241, z241⟩, st241⟩ := Jvm.LawKit.callS X239 hx (y := (⟨"com/example/imprimatur/imprimatur/verify/DeviceValuesPublicKeyPinLaw", "same", "([BIBBB)Z"⟩ : MethodName)) hown (mvT hZ (hw _ (List.mem_of_getElem? (i := 52) rfl))) (mvT hZ (hw _ (List.mem_of_getElem? (i := 53) rfl))) (mvT hZ (hw _ (List.mem_of_getElem? (i := 54) rfl))) (mvT hZ (hw _ (List.mem_of_getElem? (i := 55) rfl))) (by decide) (backOf (W := 0) (rmS3 l Z a0 hw [] c2_239 e0_ e1_ e2_ k206 [((2 : Int32), (.int e2_)), ((1 : Int32), (.int e1_)), ((0 : Int32), (.int e0_))] T239.heap n0 Z_239 Hr2 rfl rfl rfl) hZ (hw _ (List.mem_of_getElem? (i := 55) rfl)) (hw _ (List.mem_of_getElem? (i := 54) rfl)) (by decide) (by decide)) (g := (mkF m 241 #[.val (.int p0), .val (.int p1), .val (.int p2), .val (.int p3), .val (.long q4), .second, .val (.int (0 : Int32)), .val (.int (1 : Int32)), .val (.int (3 : Int32)), .val (.int e0_), .val (.int e1_), .val (.int e2_), .val (.ref key), .val (.ref hh), .val (.ref d), .val (.ref c2_230), .val (.ref c2_239)] [(.int e2_), (.int e1_), (.int e0_), (.int (3 : Int32)), (.ref c2_239)])) rfl (by rw [hml]; rfl) (argsL := [(.ref c2_239), (.int (3 : Int32)), (.int e0_), (.int e1_), (.int e2_)]) (rest := []) (lenOf pd_6 rfl) rfl (by show 2 * 0 + _ ≤ _; exact Nat.le_of_eq rfl) (hb hby at_241) (fun _ _ => ⟨rfl, rfl, (by decide : 8 + 0 ≤ _), (by decide : 81 + 0 ≤ _)⟩)
        dsimp only [Pt.U, Pt.locs, Pt.cells, Pt.slots] at X241 l241 y241 z241 st241 hQ241
        subst l241 y241 z241
        obtain ⟨rfl, Nq241, e241⟩ := hQ241
        have N241 := Fr.app N239 Nq241
        obtain ⟨fs, hr, hrun, hended, hW, hsame⟩ := X241.leave (v := some (.int (1 : Int32))) (fun h => by rw [Bd.returns] at h; cases h)
        refine ⟨_, _, pre0 _ (st1 _ (st2 _ (st3 _ (st113 _ (st114 _ (st115 _ (st205 _ (st206 _ (st207 _ (st208 _ (st209 _ (st210 _ (st211 _ (st212 _ (st213 _ (st214 _ (st215 _ (st216 _ (st217 _ (st218 _ (st219 _ (st220 _ (st221 _ (st222 _ (st223.trans (st224 _ (st226 _ (st227 _ (st228 _ (st229 _ (st230.trans (st231 _ (st232 _ (st233 _ (st235 _ (st236 _ (st237 _ (st238 _ (st239.trans (st240 _ (st241 _ ?_))))))))))))))))))))))))))))))))))))))))), hrun, hended, _, _, rfl, ?_, ⟨_, rfl⟩, hW, hsame.mono (by decide) (by decide)⟩
        · show Steps p.tables e below (T241.setTop (mkF m 244 #[.val (.int p0), .val (.int p1), .val (.int p2), .val (.int p3), .val (.long q4), .second, .val (.int (0 : Int32)), .val (.int (1 : Int32)), .val (.int (3 : Int32)), .val (.int e0_), .val (.int e1_), .val (.int e2_), .val (.ref key), .val (.ref hh), .val (.ref d), .val (.ref c2_230), .val (.ref c2_239)] [(.int (1 : Int32))])) _
          exact retN X241 hx (t := .boolean) Bd.returns (by simp) (hb hby at_244) hr
        · show Q_rm0 Z p0 p1 p2 p3 q4 ca cc val h0 n0 _ T241.heap _
          rw [e241]
          exact ⟨rfl, N241⟩
  · have st242 : ∀ target, Steps p.tables e below (s₁.setTop (mkF m 6 #[.val (.int p0), .val (.int p1), .val (.int p2), .val (.int p3), .val (.long q4), .second, .unset, .unset, .unset, .unset, .unset, .unset, .unset, .unset, .unset, .unset, .unset] [])) target → Steps p.tables e below (s₁.setTop (mkF m 3 #[.val (.int p0), .val (.int p1), .val (.int p2), .val (.int p3), .val (.long q4), .second, .unset, .unset, .unset, .unset, .unset, .unset, .unset, .unset, .unset, .unset, .unset] [(.int (p0 &&& (1 : Int32)))])) target := by
      intro target kt
      show Steps p.tables e below (s₁.setTop (mkF m 3 #[.val (.int p0), .val (.int p1), .val (.int p2), .val (.int p3), .val (.long q4), .second, .unset, .unset, .unset, .unset, .unset, .unset, .unset, .unset, .unset, .unset, .unset] [(.int (p0 &&& (1 : Int32)))])) _
      refine XS.ifNo X0.here hx rfl (hb hby at_3) rfl ((if0 _ _).trans (feq hc3).1) ?_
      exact kt
    have st243 : ∀ target, Steps p.tables e below (s₁.setTop (mkF m 16 #[.val (.int p0), .val (.int p1), .val (.int p2), .val (.int p3), .val (.long q4), .second, .val (.int (1 : Int32)), .unset, .unset, .unset, .unset, .unset, .unset, .unset, .unset, .unset, .unset] [(.int (p0 &&& (2 : Int32)))])) target → Steps p.tables e below (s₁.setTop (mkF m 6 #[.val (.int p0), .val (.int p1), .val (.int p2), .val (.int p3), .val (.long q4), .second, .unset, .unset, .unset, .unset, .unset, .unset, .unset, .unset, .unset, .unset, .unset] [])) target := by
      intro target kt
      show Steps p.tables e below (s₁.setTop (mkF m 6 #[.val (.int p0), .val (.int p1), .val (.int p2), .val (.int p3), .val (.long q4), .second, .unset, .unset, .unset, .unset, .unset, .unset, .unset, .unset, .unset, .unset, .unset] [])) _
      refine XS.iconst X0.here hx rfl (hb hby at_6) ?_
      show Steps p.tables e below (s₁.setTop (mkF m 7 #[.val (.int p0), .val (.int p1), .val (.int p2), .val (.int p3), .val (.long q4), .second, .unset, .unset, .unset, .unset, .unset, .unset, .unset, .unset, .unset, .unset, .unset] [(.int (1 : Int32))])) _
      refine XS.goto X0.here hx rfl (pc0 := 7) (pc' := 11) rfl (hb hby at_7) (by decide) (by decide) ?_
      show Steps p.tables e below (s₁.setTop (mkF m 11 #[.val (.int p0), .val (.int p1), .val (.int p2), .val (.int p3), .val (.long q4), .second, .unset, .unset, .unset, .unset, .unset, .unset, .unset, .unset, .unset, .unset, .unset] [(.int (1 : Int32))])) _
      refine XS.istore X0.here hx rfl (hb hby at_11) rfl (l' := #[.val (.int p0), .val (.int p1), .val (.int p2), .val (.int p3), .val (.long q4), .second, .val (.int (1 : Int32)), .unset, .unset, .unset, .unset, .unset, .unset, .unset, .unset, .unset, .unset]) rfl ?_
      show Steps p.tables e below (s₁.setTop (mkF m 13 #[.val (.int p0), .val (.int p1), .val (.int p2), .val (.int p3), .val (.long q4), .second, .val (.int (1 : Int32)), .unset, .unset, .unset, .unset, .unset, .unset, .unset, .unset, .unset, .unset] [])) _
      refine XS.iloadN X0.here hx rfl (hb hby at_13) rfl ?_
      show Steps p.tables e below (s₁.setTop (mkF m 14 #[.val (.int p0), .val (.int p1), .val (.int p2), .val (.int p3), .val (.long q4), .second, .val (.int (1 : Int32)), .unset, .unset, .unset, .unset, .unset, .unset, .unset, .unset, .unset, .unset] [(.int p0)])) _
      refine XS.iconst X0.here hx rfl (hb hby at_14) ?_
      show Steps p.tables e below (s₁.setTop (mkF m 15 #[.val (.int p0), .val (.int p1), .val (.int p2), .val (.int p3), .val (.long q4), .second, .val (.int (1 : Int32)), .unset, .unset, .unset, .unset, .unset, .unset, .unset, .unset, .unset, .unset] [(.int (2 : Int32)), (.int p0)])) _
      refine XS.iand X0.here hx rfl (hb hby at_15) rfl ?_
      exact kt
    by_cases hc16 : (p0 &&& (2 : Int32)) = (0 : Int32)
    · have st244 : ∀ target, Steps p.tables e below (s₁.setTop (mkF m 23 #[.val (.int p0), .val (.int p1), .val (.int p2), .val (.int p3), .val (.long q4), .second, .val (.int (1 : Int32)), .unset, .unset, .unset, .unset, .unset, .unset, .unset, .unset, .unset, .unset] [])) target → Steps p.tables e below (s₁.setTop (mkF m 16 #[.val (.int p0), .val (.int p1), .val (.int p2), .val (.int p3), .val (.long q4), .second, .val (.int (1 : Int32)), .unset, .unset, .unset, .unset, .unset, .unset, .unset, .unset, .unset, .unset] [(.int (p0 &&& (2 : Int32)))])) target := by
        intro target kt
        show Steps p.tables e below (s₁.setTop (mkF m 16 #[.val (.int p0), .val (.int p1), .val (.int p2), .val (.int p3), .val (.long q4), .second, .val (.int (1 : Int32)), .unset, .unset, .unset, .unset, .unset, .unset, .unset, .unset, .unset, .unset] [(.int (p0 &&& (2 : Int32)))])) _
        refine XS.ifYes X0.here hx rfl (pc0 := 16) (pc' := 23) rfl (hb hby at_16) rfl ((if0 _ _).trans (teq hc16).1) (by decide) (by decide) ?_
        exact kt
      have st245 : ∀ target, Steps p.tables e below (s₁.setTop (mkF m 126 #[.val (.int p0), .val (.int p1), .val (.int p2), .val (.int p3), .val (.long q4), .second, .val (.int (1 : Int32)), .val (.int (0 : Int32)), .val (.int (((p0.toUInt32 >>> ((2 : Int32) &&& 31).toUInt32).toInt32) &&& (3 : Int32))), .val (.int (p1.toInt8.toInt32)), .val (.int (p2.toInt8.toInt32)), .val (.int (p3.toInt8.toInt32)), .val .null, .val .null, .unset, .unset, .unset] [])) target → Steps p.tables e below (s₁.setTop (mkF m 23 #[.val (.int p0), .val (.int p1), .val (.int p2), .val (.int p3), .val (.long q4), .second, .val (.int (1 : Int32)), .unset, .unset, .unset, .unset, .unset, .unset, .unset, .unset, .unset, .unset] [])) target := by
        intro target kt
        show Steps p.tables e below (s₁.setTop (mkF m 23 #[.val (.int p0), .val (.int p1), .val (.int p2), .val (.int p3), .val (.long q4), .second, .val (.int (1 : Int32)), .unset, .unset, .unset, .unset, .unset, .unset, .unset, .unset, .unset, .unset] [])) _
        refine XS.iconst X0.here hx rfl (hb hby at_23) ?_
        show Steps p.tables e below (s₁.setTop (mkF m 24 #[.val (.int p0), .val (.int p1), .val (.int p2), .val (.int p3), .val (.long q4), .second, .val (.int (1 : Int32)), .unset, .unset, .unset, .unset, .unset, .unset, .unset, .unset, .unset, .unset] [(.int (0 : Int32))])) _
        refine XS.istore X0.here hx rfl (hb hby at_24) rfl (l' := #[.val (.int p0), .val (.int p1), .val (.int p2), .val (.int p3), .val (.long q4), .second, .val (.int (1 : Int32)), .val (.int (0 : Int32)), .unset, .unset, .unset, .unset, .unset, .unset, .unset, .unset, .unset]) rfl ?_
        show Steps p.tables e below (s₁.setTop (mkF m 26 #[.val (.int p0), .val (.int p1), .val (.int p2), .val (.int p3), .val (.long q4), .second, .val (.int (1 : Int32)), .val (.int (0 : Int32)), .unset, .unset, .unset, .unset, .unset, .unset, .unset, .unset, .unset] [])) _
        refine XS.iloadN X0.here hx rfl (hb hby at_26) rfl ?_
        show Steps p.tables e below (s₁.setTop (mkF m 27 #[.val (.int p0), .val (.int p1), .val (.int p2), .val (.int p3), .val (.long q4), .second, .val (.int (1 : Int32)), .val (.int (0 : Int32)), .unset, .unset, .unset, .unset, .unset, .unset, .unset, .unset, .unset] [(.int p0)])) _
        refine XS.iconst X0.here hx rfl (hb hby at_27) ?_
        show Steps p.tables e below (s₁.setTop (mkF m 28 #[.val (.int p0), .val (.int p1), .val (.int p2), .val (.int p3), .val (.long q4), .second, .val (.int (1 : Int32)), .val (.int (0 : Int32)), .unset, .unset, .unset, .unset, .unset, .unset, .unset, .unset, .unset] [(.int (2 : Int32)), (.int p0)])) _
        refine XS.iushr X0.here hx rfl (hb hby at_28) rfl ?_
        show Steps p.tables e below (s₁.setTop (mkF m 29 #[.val (.int p0), .val (.int p1), .val (.int p2), .val (.int p3), .val (.long q4), .second, .val (.int (1 : Int32)), .val (.int (0 : Int32)), .unset, .unset, .unset, .unset, .unset, .unset, .unset, .unset, .unset] [(.int ((p0.toUInt32 >>> ((2 : Int32) &&& 31).toUInt32).toInt32))])) _
        refine XS.iconst X0.here hx rfl (hb hby at_29) ?_
        show Steps p.tables e below (s₁.setTop (mkF m 30 #[.val (.int p0), .val (.int p1), .val (.int p2), .val (.int p3), .val (.long q4), .second, .val (.int (1 : Int32)), .val (.int (0 : Int32)), .unset, .unset, .unset, .unset, .unset, .unset, .unset, .unset, .unset] [(.int (3 : Int32)), (.int ((p0.toUInt32 >>> ((2 : Int32) &&& 31).toUInt32).toInt32))])) _
        refine XS.iand X0.here hx rfl (hb hby at_30) rfl ?_
        show Steps p.tables e below (s₁.setTop (mkF m 31 #[.val (.int p0), .val (.int p1), .val (.int p2), .val (.int p3), .val (.long q4), .second, .val (.int (1 : Int32)), .val (.int (0 : Int32)), .unset, .unset, .unset, .unset, .unset, .unset, .unset, .unset, .unset] [(.int (((p0.toUInt32 >>> ((2 : Int32) &&& 31).toUInt32).toInt32) &&& (3 : Int32)))])) _
        refine XS.istore X0.here hx rfl (hb hby at_31) rfl (l' := #[.val (.int p0), .val (.int p1), .val (.int p2), .val (.int p3), .val (.long q4), .second, .val (.int (1 : Int32)), .val (.int (0 : Int32)), .val (.int (((p0.toUInt32 >>> ((2 : Int32) &&& 31).toUInt32).toInt32) &&& (3 : Int32))), .unset, .unset, .unset, .unset, .unset, .unset, .unset, .unset]) rfl ?_
        show Steps p.tables e below (s₁.setTop (mkF m 33 #[.val (.int p0), .val (.int p1), .val (.int p2), .val (.int p3), .val (.long q4), .second, .val (.int (1 : Int32)), .val (.int (0 : Int32)), .val (.int (((p0.toUInt32 >>> ((2 : Int32) &&& 31).toUInt32).toInt32) &&& (3 : Int32))), .unset, .unset, .unset, .unset, .unset, .unset, .unset, .unset] [])) _
        refine XS.iloadN X0.here hx rfl (hb hby at_33) rfl ?_
        show Steps p.tables e below (s₁.setTop (mkF m 34 #[.val (.int p0), .val (.int p1), .val (.int p2), .val (.int p3), .val (.long q4), .second, .val (.int (1 : Int32)), .val (.int (0 : Int32)), .val (.int (((p0.toUInt32 >>> ((2 : Int32) &&& 31).toUInt32).toInt32) &&& (3 : Int32))), .unset, .unset, .unset, .unset, .unset, .unset, .unset, .unset] [(.int p1)])) _
        refine XS.i2b X0.here hx rfl (hb hby at_34) rfl ?_
        show Steps p.tables e below (s₁.setTop (mkF m 35 #[.val (.int p0), .val (.int p1), .val (.int p2), .val (.int p3), .val (.long q4), .second, .val (.int (1 : Int32)), .val (.int (0 : Int32)), .val (.int (((p0.toUInt32 >>> ((2 : Int32) &&& 31).toUInt32).toInt32) &&& (3 : Int32))), .unset, .unset, .unset, .unset, .unset, .unset, .unset, .unset] [(.int (p1.toInt8.toInt32))])) _
        refine XS.istore X0.here hx rfl (hb hby at_35) rfl (l' := #[.val (.int p0), .val (.int p1), .val (.int p2), .val (.int p3), .val (.long q4), .second, .val (.int (1 : Int32)), .val (.int (0 : Int32)), .val (.int (((p0.toUInt32 >>> ((2 : Int32) &&& 31).toUInt32).toInt32) &&& (3 : Int32))), .val (.int (p1.toInt8.toInt32)), .unset, .unset, .unset, .unset, .unset, .unset, .unset]) rfl ?_
        show Steps p.tables e below (s₁.setTop (mkF m 37 #[.val (.int p0), .val (.int p1), .val (.int p2), .val (.int p3), .val (.long q4), .second, .val (.int (1 : Int32)), .val (.int (0 : Int32)), .val (.int (((p0.toUInt32 >>> ((2 : Int32) &&& 31).toUInt32).toInt32) &&& (3 : Int32))), .val (.int (p1.toInt8.toInt32)), .unset, .unset, .unset, .unset, .unset, .unset, .unset] [])) _
        refine XS.iloadN X0.here hx rfl (hb hby at_37) rfl ?_
        show Steps p.tables e below (s₁.setTop (mkF m 38 #[.val (.int p0), .val (.int p1), .val (.int p2), .val (.int p3), .val (.long q4), .second, .val (.int (1 : Int32)), .val (.int (0 : Int32)), .val (.int (((p0.toUInt32 >>> ((2 : Int32) &&& 31).toUInt32).toInt32) &&& (3 : Int32))), .val (.int (p1.toInt8.toInt32)), .unset, .unset, .unset, .unset, .unset, .unset, .unset] [(.int p2)])) _
        refine XS.i2b X0.here hx rfl (hb hby at_38) rfl ?_
        show Steps p.tables e below (s₁.setTop (mkF m 39 #[.val (.int p0), .val (.int p1), .val (.int p2), .val (.int p3), .val (.long q4), .second, .val (.int (1 : Int32)), .val (.int (0 : Int32)), .val (.int (((p0.toUInt32 >>> ((2 : Int32) &&& 31).toUInt32).toInt32) &&& (3 : Int32))), .val (.int (p1.toInt8.toInt32)), .unset, .unset, .unset, .unset, .unset, .unset, .unset] [(.int (p2.toInt8.toInt32))])) _
        refine XS.istore X0.here hx rfl (hb hby at_39) rfl (l' := #[.val (.int p0), .val (.int p1), .val (.int p2), .val (.int p3), .val (.long q4), .second, .val (.int (1 : Int32)), .val (.int (0 : Int32)), .val (.int (((p0.toUInt32 >>> ((2 : Int32) &&& 31).toUInt32).toInt32) &&& (3 : Int32))), .val (.int (p1.toInt8.toInt32)), .val (.int (p2.toInt8.toInt32)), .unset, .unset, .unset, .unset, .unset, .unset]) rfl ?_
        show Steps p.tables e below (s₁.setTop (mkF m 41 #[.val (.int p0), .val (.int p1), .val (.int p2), .val (.int p3), .val (.long q4), .second, .val (.int (1 : Int32)), .val (.int (0 : Int32)), .val (.int (((p0.toUInt32 >>> ((2 : Int32) &&& 31).toUInt32).toInt32) &&& (3 : Int32))), .val (.int (p1.toInt8.toInt32)), .val (.int (p2.toInt8.toInt32)), .unset, .unset, .unset, .unset, .unset, .unset] [])) _
        refine XS.iloadN X0.here hx rfl (hb hby at_41) rfl ?_
        show Steps p.tables e below (s₁.setTop (mkF m 42 #[.val (.int p0), .val (.int p1), .val (.int p2), .val (.int p3), .val (.long q4), .second, .val (.int (1 : Int32)), .val (.int (0 : Int32)), .val (.int (((p0.toUInt32 >>> ((2 : Int32) &&& 31).toUInt32).toInt32) &&& (3 : Int32))), .val (.int (p1.toInt8.toInt32)), .val (.int (p2.toInt8.toInt32)), .unset, .unset, .unset, .unset, .unset, .unset] [(.int p3)])) _
        refine XS.i2b X0.here hx rfl (hb hby at_42) rfl ?_
        show Steps p.tables e below (s₁.setTop (mkF m 43 #[.val (.int p0), .val (.int p1), .val (.int p2), .val (.int p3), .val (.long q4), .second, .val (.int (1 : Int32)), .val (.int (0 : Int32)), .val (.int (((p0.toUInt32 >>> ((2 : Int32) &&& 31).toUInt32).toInt32) &&& (3 : Int32))), .val (.int (p1.toInt8.toInt32)), .val (.int (p2.toInt8.toInt32)), .unset, .unset, .unset, .unset, .unset, .unset] [(.int (p3.toInt8.toInt32))])) _
        refine XS.istore X0.here hx rfl (hb hby at_43) rfl (l' := #[.val (.int p0), .val (.int p1), .val (.int p2), .val (.int p3), .val (.long q4), .second, .val (.int (1 : Int32)), .val (.int (0 : Int32)), .val (.int (((p0.toUInt32 >>> ((2 : Int32) &&& 31).toUInt32).toInt32) &&& (3 : Int32))), .val (.int (p1.toInt8.toInt32)), .val (.int (p2.toInt8.toInt32)), .val (.int (p3.toInt8.toInt32)), .unset, .unset, .unset, .unset, .unset]) rfl ?_
        show Steps p.tables e below (s₁.setTop (mkF m 45 #[.val (.int p0), .val (.int p1), .val (.int p2), .val (.int p3), .val (.long q4), .second, .val (.int (1 : Int32)), .val (.int (0 : Int32)), .val (.int (((p0.toUInt32 >>> ((2 : Int32) &&& 31).toUInt32).toInt32) &&& (3 : Int32))), .val (.int (p1.toInt8.toInt32)), .val (.int (p2.toInt8.toInt32)), .val (.int (p3.toInt8.toInt32)), .unset, .unset, .unset, .unset, .unset] [])) _
        refine XS.aconstNull X0.here hx rfl (hb hby at_45) ?_
        show Steps p.tables e below (s₁.setTop (mkF m 46 #[.val (.int p0), .val (.int p1), .val (.int p2), .val (.int p3), .val (.long q4), .second, .val (.int (1 : Int32)), .val (.int (0 : Int32)), .val (.int (((p0.toUInt32 >>> ((2 : Int32) &&& 31).toUInt32).toInt32) &&& (3 : Int32))), .val (.int (p1.toInt8.toInt32)), .val (.int (p2.toInt8.toInt32)), .val (.int (p3.toInt8.toInt32)), .unset, .unset, .unset, .unset, .unset] [.null])) _
        refine XS.astore X0.here hx rfl (hb hby at_46) rfl rfl (l' := #[.val (.int p0), .val (.int p1), .val (.int p2), .val (.int p3), .val (.long q4), .second, .val (.int (1 : Int32)), .val (.int (0 : Int32)), .val (.int (((p0.toUInt32 >>> ((2 : Int32) &&& 31).toUInt32).toInt32) &&& (3 : Int32))), .val (.int (p1.toInt8.toInt32)), .val (.int (p2.toInt8.toInt32)), .val (.int (p3.toInt8.toInt32)), .val .null, .unset, .unset, .unset, .unset]) rfl ?_
        show Steps p.tables e below (s₁.setTop (mkF m 48 #[.val (.int p0), .val (.int p1), .val (.int p2), .val (.int p3), .val (.long q4), .second, .val (.int (1 : Int32)), .val (.int (0 : Int32)), .val (.int (((p0.toUInt32 >>> ((2 : Int32) &&& 31).toUInt32).toInt32) &&& (3 : Int32))), .val (.int (p1.toInt8.toInt32)), .val (.int (p2.toInt8.toInt32)), .val (.int (p3.toInt8.toInt32)), .val .null, .unset, .unset, .unset, .unset] [])) _
        refine XS.iload X0.here hx rfl (hb hby at_48) rfl ?_
        show Steps p.tables e below (s₁.setTop (mkF m 50 #[.val (.int p0), .val (.int p1), .val (.int p2), .val (.int p3), .val (.long q4), .second, .val (.int (1 : Int32)), .val (.int (0 : Int32)), .val (.int (((p0.toUInt32 >>> ((2 : Int32) &&& 31).toUInt32).toInt32) &&& (3 : Int32))), .val (.int (p1.toInt8.toInt32)), .val (.int (p2.toInt8.toInt32)), .val (.int (p3.toInt8.toInt32)), .val .null, .unset, .unset, .unset, .unset] [(.int (1 : Int32))])) _
        refine XS.ifYes X0.here hx rfl (pc0 := 50) (pc' := 94) rfl (hb hby at_50) rfl ((if0 _ _).trans (feq (by decide : ¬ ((1 : Int32) = (0 : Int32)))).2) (by decide) (by decide) ?_
        show Steps p.tables e below (s₁.setTop (mkF m 94 #[.val (.int p0), .val (.int p1), .val (.int p2), .val (.int p3), .val (.long q4), .second, .val (.int (1 : Int32)), .val (.int (0 : Int32)), .val (.int (((p0.toUInt32 >>> ((2 : Int32) &&& 31).toUInt32).toInt32) &&& (3 : Int32))), .val (.int (p1.toInt8.toInt32)), .val (.int (p2.toInt8.toInt32)), .val (.int (p3.toInt8.toInt32)), .val .null, .unset, .unset, .unset, .unset] [])) _
        refine XS.aconstNull X0.here hx rfl (hb hby at_94) ?_
        show Steps p.tables e below (s₁.setTop (mkF m 95 #[.val (.int p0), .val (.int p1), .val (.int p2), .val (.int p3), .val (.long q4), .second, .val (.int (1 : Int32)), .val (.int (0 : Int32)), .val (.int (((p0.toUInt32 >>> ((2 : Int32) &&& 31).toUInt32).toInt32) &&& (3 : Int32))), .val (.int (p1.toInt8.toInt32)), .val (.int (p2.toInt8.toInt32)), .val (.int (p3.toInt8.toInt32)), .val .null, .unset, .unset, .unset, .unset] [.null])) _
        refine XS.astore X0.here hx rfl (hb hby at_95) rfl rfl (l' := #[.val (.int p0), .val (.int p1), .val (.int p2), .val (.int p3), .val (.long q4), .second, .val (.int (1 : Int32)), .val (.int (0 : Int32)), .val (.int (((p0.toUInt32 >>> ((2 : Int32) &&& 31).toUInt32).toInt32) &&& (3 : Int32))), .val (.int (p1.toInt8.toInt32)), .val (.int (p2.toInt8.toInt32)), .val (.int (p3.toInt8.toInt32)), .val .null, .val .null, .unset, .unset, .unset]) rfl ?_
        show Steps p.tables e below (s₁.setTop (mkF m 97 #[.val (.int p0), .val (.int p1), .val (.int p2), .val (.int p3), .val (.long q4), .second, .val (.int (1 : Int32)), .val (.int (0 : Int32)), .val (.int (((p0.toUInt32 >>> ((2 : Int32) &&& 31).toUInt32).toInt32) &&& (3 : Int32))), .val (.int (p1.toInt8.toInt32)), .val (.int (p2.toInt8.toInt32)), .val (.int (p3.toInt8.toInt32)), .val .null, .val .null, .unset, .unset, .unset] [])) _
        refine XS.iload X0.here hx rfl (hb hby at_97) rfl ?_
        show Steps p.tables e below (s₁.setTop (mkF m 99 #[.val (.int p0), .val (.int p1), .val (.int p2), .val (.int p3), .val (.long q4), .second, .val (.int (1 : Int32)), .val (.int (0 : Int32)), .val (.int (((p0.toUInt32 >>> ((2 : Int32) &&& 31).toUInt32).toInt32) &&& (3 : Int32))), .val (.int (p1.toInt8.toInt32)), .val (.int (p2.toInt8.toInt32)), .val (.int (p3.toInt8.toInt32)), .val .null, .val .null, .unset, .unset, .unset] [(.int (0 : Int32))])) _
        refine XS.ifYes X0.here hx rfl (pc0 := 99) (pc' := 126) rfl (hb hby at_99) rfl ((if0 _ _).trans (teq (rfl : (0 : Int32) = (0 : Int32))).1) (by decide) (by decide) ?_
        exact kt
      obtain ⟨T246, h246, X246, e246, E246, A246, D246, -, st246⟩ := newO X0 hx hZ hown (hw _ (List.mem_of_getElem? (i := 1) rfl)) (hw _ (List.mem_of_getElem? (i := 2) rfl)) (hw _ (List.mem_of_getElem? (i := 3) rfl)) e0 (g := (mkF m 126 #[.val (.int p0), .val (.int p1), .val (.int p2), .val (.int p3), .val (.long q4), .second, .val (.int (1 : Int32)), .val (.int (0 : Int32)), .val (.int (((p0.toUInt32 >>> ((2 : Int32) &&& 31).toUInt32).toInt32) &&& (3 : Int32))), .val (.int (p1.toInt8.toInt32)), .val (.int (p2.toInt8.toInt32)), .val (.int (p3.toInt8.toInt32)), .val .null, .val .null, .unset, .unset, .unset] [])) rfl (hb hby at_126) (by decide) (by decide)
      obtain ⟨d, g246⟩ : ∃ z, z = h0.size := ⟨_, rfl⟩
      rw [← g246] at A246 D246 st246
      have g_d : n0 ≤ d := Nat.le_trans Z0 (Nat.le_of_eq g246.symm)
      have Od_246 := Od.ext E246
      have Z_246 : n0 ≤ h246.size := Nat.le_trans Z0 E246.1
      have E_d : Exa Z h246 d "com/example/imprimatur/imprimatur/verify/DeviceValues" := A246
      have F_pkHash_d : Fld Z h246 d "com/example/imprimatur/imprimatur/verify/DeviceValues" "pkHash" "[B" .null := D246 (Or.inr (hw _ (List.mem_of_getElem? (i := 31) rfl))) (ty := (.array .byte)) (by decide)
      have F_hwId_d : Fld Z h246 d "com/example/imprimatur/imprimatur/verify/DeviceValues" "hwId" "Ljava/lang/Long;" .null := D246 (Or.inr (hw _ (List.mem_of_getElem? (i := 33) rfl))) (ty := (.object "java/lang/Long")) (by decide)
      have F_swId_d : Fld Z h246 d "com/example/imprimatur/imprimatur/verify/DeviceValues" "swId" "Ljava/lang/Long;" .null := D246 (Or.inr (hw _ (List.mem_of_getElem? (i := 35) rfl))) (ty := (.object "java/lang/Long")) (by decide)
      have F_publicKey_d : Fld Z h246 d "com/example/imprimatur/imprimatur/verify/DeviceValues" "publicKey" "[B" .null := D246 (Or.inr (hw _ (List.mem_of_getElem? (i := 46) rfl))) (ty := (.array .byte)) (by decide)
      have st247 : ∀ target, Steps p.tables e below (T246.setTop (mkF m 134 #[.val (.int p0), .val (.int p1), .val (.int p2), .val (.int p3), .val (.long q4), .second, .val (.int (1 : Int32)), .val (.int (0 : Int32)), .val (.int (((p0.toUInt32 >>> ((2 : Int32) &&& 31).toUInt32).toInt32) &&& (3 : Int32))), .val (.int (p1.toInt8.toInt32)), .val (.int (p2.toInt8.toInt32)), .val (.int (p3.toInt8.toInt32)), .val .null, .val .null, .unset, .unset, .unset] [(.long q4), .null, (.ref d), (.ref d)])) target → Steps p.tables e below (T246.setTop (mkF m 129 #[.val (.int p0), .val (.int p1), .val (.int p2), .val (.int p3), .val (.long q4), .second, .val (.int (1 : Int32)), .val (.int (0 : Int32)), .val (.int (((p0.toUInt32 >>> ((2 : Int32) &&& 31).toUInt32).toInt32) &&& (3 : Int32))), .val (.int (p1.toInt8.toInt32)), .val (.int (p2.toInt8.toInt32)), .val (.int (p3.toInt8.toInt32)), .val .null, .val .null, .unset, .unset, .unset] [(.ref d)])) target := by
        intro target kt
        show Steps p.tables e below (T246.setTop (mkF m 129 #[.val (.int p0), .val (.int p1), .val (.int p2), .val (.int p3), .val (.long q4), .second, .val (.int (1 : Int32)), .val (.int (0 : Int32)), .val (.int (((p0.toUInt32 >>> ((2 : Int32) &&& 31).toUInt32).toInt32) &&& (3 : Int32))), .val (.int (p1.toInt8.toInt32)), .val (.int (p2.toInt8.toInt32)), .val (.int (p3.toInt8.toInt32)), .val .null, .val .null, .unset, .unset, .unset] [(.ref d)])) _
        refine XS.dup X246.here hx rfl (hb hby at_129) rfl rfl ?_
        show Steps p.tables e below (T246.setTop (mkF m 130 #[.val (.int p0), .val (.int p1), .val (.int p2), .val (.int p3), .val (.long q4), .second, .val (.int (1 : Int32)), .val (.int (0 : Int32)), .val (.int (((p0.toUInt32 >>> ((2 : Int32) &&& 31).toUInt32).toInt32) &&& (3 : Int32))), .val (.int (p1.toInt8.toInt32)), .val (.int (p2.toInt8.toInt32)), .val (.int (p3.toInt8.toInt32)), .val .null, .val .null, .unset, .unset, .unset] [(.ref d), (.ref d)])) _
        refine XS.aload X246.here hx rfl (hb hby at_130) rfl rfl ?_
        show Steps p.tables e below (T246.setTop (mkF m 132 #[.val (.int p0), .val (.int p1), .val (.int p2), .val (.int p3), .val (.long q4), .second, .val (.int (1 : Int32)), .val (.int (0 : Int32)), .val (.int (((p0.toUInt32 >>> ((2 : Int32) &&& 31).toUInt32).toInt32) &&& (3 : Int32))), .val (.int (p1.toInt8.toInt32)), .val (.int (p2.toInt8.toInt32)), .val (.int (p3.toInt8.toInt32)), .val .null, .val .null, .unset, .unset, .unset] [.null, (.ref d), (.ref d)])) _
        refine XS.lload X246.here hx rfl (hb hby at_132) rfl ?_
        exact kt
      obtain ⟨_, _, ⟨T248, L248, k248, n248⟩, -, X248, ⟨Lc248, hQ248, l248, y248, z248⟩, st248⟩ := Jvm.LawKit.callS X246 hx (y := (⟨"java/lang/Long", "valueOf", "(J)Ljava/lang/Long;"⟩ : MethodName)) hown (mvT hZ (hw _ (List.mem_of_getElem? (i := 4) rfl))) (mvT hZ (hw _ (List.mem_of_getElem? (i := 5) rfl))) (mvT hZ (hw _ (List.mem_of_getElem? (i := 6) rfl))) (mvT hZ (hw _ (List.mem_of_getElem? (i := 7) rfl))) (by decide) (backOf (W := 3) (rm1 l Z a0 hw [] q4 ca cc val h246 n0 Z_246 Bx Od_246 S_c) hZ (hw _ (List.mem_of_getElem? (i := 7) rfl)) (hw _ (List.mem_of_getElem? (i := 6) rfl)) (by decide) (by decide)) (g := (mkF m 134 #[.val (.int p0), .val (.int p1), .val (.int p2), .val (.int p3), .val (.long q4), .second, .val (.int (1 : Int32)), .val (.int (0 : Int32)), .val (.int (((p0.toUInt32 >>> ((2 : Int32) &&& 31).toUInt32).toInt32) &&& (3 : Int32))), .val (.int (p1.toInt8.toInt32)), .val (.int (p2.toInt8.toInt32)), .val (.int (p3.toInt8.toInt32)), .val .null, .val .null, .unset, .unset, .unset] [(.long q4), .null, (.ref d), (.ref d)])) rfl (by rw [hml]; rfl) (argsL := [(.long q4)]) (rest := [.null, (.ref d), (.ref d)]) (lenOf pd_0 rfl) rfl (by show 2 * 0 + _ ≤ _; exact Nat.le_of_eq rfl) (hb hby at_134) (fun _ _ => ⟨rfl, e246, (by decide : 1 + 1 ≤ _), (by decide : 4 + 1 ≤ _)⟩)
      dsimp only [Pt.U, Pt.locs, Pt.cells, Pt.slots] at X248 l248 y248 z248 st248 hQ248
      subst l248 y248 z248
      obtain ⟨t248, rfl, Nq248, K248, Et248⟩ := hQ248
      have N248 := Fr.app N0 Nq248
      have Od_248 := Od_246.keep K248 (all0)
      have E_d_248 := E_d.keep K248
      have F_pkHash_d_248 := F_pkHash_d.keep K248 nin0
      have F_hwId_d_248 := F_hwId_d.keep K248 nin0
      have F_swId_d_248 := F_swId_d.keep K248 nin0
      have F_publicKey_d_248 := F_publicKey_d.keep K248 nin0
      have Z_248 : n0 ≤ T248.heap.size := Nat.le_trans Z_246 K248.1
      have st249 : ∀ target, Steps p.tables e below (T248.setTop (mkF m 140 #[.val (.int p0), .val (.int p1), .val (.int p2), .val (.int p3), .val (.long q4), .second, .val (.int (1 : Int32)), .val (.int (0 : Int32)), .val (.int (((p0.toUInt32 >>> ((2 : Int32) &&& 31).toUInt32).toInt32) &&& (3 : Int32))), .val (.int (p1.toInt8.toInt32)), .val (.int (p2.toInt8.toInt32)), .val (.int (p3.toInt8.toInt32)), .val .null, .val .null, .unset, .unset, .unset] [.null, .null, (.ref t248), .null, (.ref d), (.ref d)])) target → Steps p.tables e below (T248.setTop (mkF m 137 #[.val (.int p0), .val (.int p1), .val (.int p2), .val (.int p3), .val (.long q4), .second, .val (.int (1 : Int32)), .val (.int (0 : Int32)), .val (.int (((p0.toUInt32 >>> ((2 : Int32) &&& 31).toUInt32).toInt32) &&& (3 : Int32))), .val (.int (p1.toInt8.toInt32)), .val (.int (p2.toInt8.toInt32)), .val (.int (p3.toInt8.toInt32)), .val .null, .val .null, .unset, .unset, .unset] [(.ref t248), .null, (.ref d), (.ref d)])) target := by
        intro target kt
        show Steps p.tables e below (T248.setTop (mkF m 137 #[.val (.int p0), .val (.int p1), .val (.int p2), .val (.int p3), .val (.long q4), .second, .val (.int (1 : Int32)), .val (.int (0 : Int32)), .val (.int (((p0.toUInt32 >>> ((2 : Int32) &&& 31).toUInt32).toInt32) &&& (3 : Int32))), .val (.int (p1.toInt8.toInt32)), .val (.int (p2.toInt8.toInt32)), .val (.int (p3.toInt8.toInt32)), .val .null, .val .null, .unset, .unset, .unset] [(.ref t248), .null, (.ref d), (.ref d)])) _
        refine XS.aconstNull X248.here hx rfl (hb hby at_137) ?_
        show Steps p.tables e below (T248.setTop (mkF m 138 #[.val (.int p0), .val (.int p1), .val (.int p2), .val (.int p3), .val (.long q4), .second, .val (.int (1 : Int32)), .val (.int (0 : Int32)), .val (.int (((p0.toUInt32 >>> ((2 : Int32) &&& 31).toUInt32).toInt32) &&& (3 : Int32))), .val (.int (p1.toInt8.toInt32)), .val (.int (p2.toInt8.toInt32)), .val (.int (p3.toInt8.toInt32)), .val .null, .val .null, .unset, .unset, .unset] [.null, (.ref t248), .null, (.ref d), (.ref d)])) _
        refine XS.aload X248.here hx rfl (hb hby at_138) rfl rfl ?_
        exact kt
      obtain ⟨_, _, ⟨T250, L250, k250, n250⟩, -, X250, ⟨Lc250, hQ250, l250, y250, z250⟩, st250⟩ := X248.specialBack hx (y := (⟨"com/example/imprimatur/imprimatur/verify/DeviceValues", "<init>", "([BLjava/lang/Long;Ljava/lang/Long;[B)V"⟩ : MethodName)) rfl hown (mvT hZ (hw _ (List.mem_of_getElem? (i := 26) rfl))) (mvT hZ (hw _ (List.mem_of_getElem? (i := 27) rfl))) (mvT hZ (hw _ (List.mem_of_getElem? (i := 28) rfl))) (by decide) (backOf (W := 1) (rmI00 l Z a0 hw [] d t248  T248.heap n0 Z_248 F_pkHash_d_248 F_hwId_d_248 F_swId_d_248 F_publicKey_d_248 E_d_248 g_d) hZ (hw _ (List.mem_of_getElem? (i := 28) rfl)) (hw _ (List.mem_of_getElem? (i := 3) rfl)) (by decide) (by decide)) (g := (mkF m 140 #[.val (.int p0), .val (.int p1), .val (.int p2), .val (.int p3), .val (.long q4), .second, .val (.int (1 : Int32)), .val (.int (0 : Int32)), .val (.int (((p0.toUInt32 >>> ((2 : Int32) &&& 31).toUInt32).toInt32) &&& (3 : Int32))), .val (.int (p1.toInt8.toInt32)), .val (.int (p2.toInt8.toInt32)), .val (.int (p3.toInt8.toInt32)), .val .null, .val .null, .unset, .unset, .unset] [.null, .null, (.ref t248), .null, (.ref d), (.ref d)])) rfl (by rw [hml]; rfl) (Steps.refl _) (a := d) (argsL := [.null, (.ref t248), .null, .null]) (rest := [(.ref d)]) (lenOf pd_3 rfl) rfl (by show 2 * 0 + _ ≤ _; exact Nat.le_of_eq rfl) (hb hby at_140) (fun _ _ => ⟨rfl, rfl, (by decide : 2 + 0 ≤ _), (by decide : 5 + 0 ≤ _)⟩)
      dsimp only [Pt.U, Pt.locs, Pt.cells, Pt.slots] at X250 l250 y250 z250 st250 hQ250
      subst l250 y250 z250
      obtain ⟨rfl, Nq250, K250, Ed, Fp⟩ := hQ250
      have N250 := Fr.app N248 Nq250
      have Od_250 := Od_248.keep K250 (allS g_d (all0))
      have E_d_250 := E_d_248.keep K250
      have Et248_250 := Et248.keep K250
      have Z_250 : n0 ≤ T250.heap.size := Nat.le_trans Z_248 K250.1
      have st251 : ∀ target, Steps p.tables e below (T250.setTop (mkF m 169 #[.val (.int p0), .val (.int p1), .val (.int p2), .val (.int p3), .val (.long q4), .second, .val (.int (1 : Int32)), .val (.int (0 : Int32)), .val (.int (((p0.toUInt32 >>> ((2 : Int32) &&& 31).toUInt32).toInt32) &&& (3 : Int32))), .val (.int (p1.toInt8.toInt32)), .val (.int (p2.toInt8.toInt32)), .val (.int (p3.toInt8.toInt32)), .val .null, .val .null, .val (.ref d), .unset, .unset] [(.ref d)])) target → Steps p.tables e below (T250.setTop (mkF m 143 #[.val (.int p0), .val (.int p1), .val (.int p2), .val (.int p3), .val (.long q4), .second, .val (.int (1 : Int32)), .val (.int (0 : Int32)), .val (.int (((p0.toUInt32 >>> ((2 : Int32) &&& 31).toUInt32).toInt32) &&& (3 : Int32))), .val (.int (p1.toInt8.toInt32)), .val (.int (p2.toInt8.toInt32)), .val (.int (p3.toInt8.toInt32)), .val .null, .val .null, .unset, .unset, .unset] [(.ref d)])) target := by
        intro target kt
        show Steps p.tables e below (T250.setTop (mkF m 143 #[.val (.int p0), .val (.int p1), .val (.int p2), .val (.int p3), .val (.long q4), .second, .val (.int (1 : Int32)), .val (.int (0 : Int32)), .val (.int (((p0.toUInt32 >>> ((2 : Int32) &&& 31).toUInt32).toInt32) &&& (3 : Int32))), .val (.int (p1.toInt8.toInt32)), .val (.int (p2.toInt8.toInt32)), .val (.int (p3.toInt8.toInt32)), .val .null, .val .null, .unset, .unset, .unset] [(.ref d)])) _
        refine XS.astore X250.here hx rfl (hb hby at_143) rfl rfl (l' := #[.val (.int p0), .val (.int p1), .val (.int p2), .val (.int p3), .val (.long q4), .second, .val (.int (1 : Int32)), .val (.int (0 : Int32)), .val (.int (((p0.toUInt32 >>> ((2 : Int32) &&& 31).toUInt32).toInt32) &&& (3 : Int32))), .val (.int (p1.toInt8.toInt32)), .val (.int (p2.toInt8.toInt32)), .val (.int (p3.toInt8.toInt32)), .val .null, .val .null, .val (.ref d), .unset, .unset]) rfl ?_
        show Steps p.tables e below (T250.setTop (mkF m 145 #[.val (.int p0), .val (.int p1), .val (.int p2), .val (.int p3), .val (.long q4), .second, .val (.int (1 : Int32)), .val (.int (0 : Int32)), .val (.int (((p0.toUInt32 >>> ((2 : Int32) &&& 31).toUInt32).toInt32) &&& (3 : Int32))), .val (.int (p1.toInt8.toInt32)), .val (.int (p2.toInt8.toInt32)), .val (.int (p3.toInt8.toInt32)), .val .null, .val .null, .val (.ref d), .unset, .unset] [])) _
        refine XS.aload X250.here hx rfl (hb hby at_145) rfl rfl ?_
        show Steps p.tables e below (T250.setTop (mkF m 147 #[.val (.int p0), .val (.int p1), .val (.int p2), .val (.int p3), .val (.long q4), .second, .val (.int (1 : Int32)), .val (.int (0 : Int32)), .val (.int (((p0.toUInt32 >>> ((2 : Int32) &&& 31).toUInt32).toInt32) &&& (3 : Int32))), .val (.int (p1.toInt8.toInt32)), .val (.int (p2.toInt8.toInt32)), .val (.int (p3.toInt8.toInt32)), .val .null, .val .null, .val (.ref d), .unset, .unset] [.null])) _
        refine XS.ifnullYes X250.here hx rfl (pc0 := 147) (pc' := 167) rfl (hb hby at_147) rfl (by decide) (by decide) ?_
        show Steps p.tables e below (T250.setTop (mkF m 167 #[.val (.int p0), .val (.int p1), .val (.int p2), .val (.int p3), .val (.long q4), .second, .val (.int (1 : Int32)), .val (.int (0 : Int32)), .val (.int (((p0.toUInt32 >>> ((2 : Int32) &&& 31).toUInt32).toInt32) &&& (3 : Int32))), .val (.int (p1.toInt8.toInt32)), .val (.int (p2.toInt8.toInt32)), .val (.int (p3.toInt8.toInt32)), .val .null, .val .null, .val (.ref d), .unset, .unset] [])) _
        refine XS.aload X250.here hx rfl (hb hby at_167) rfl rfl ?_
        exact kt
      obtain ⟨cq252, kq252, qv252a, qv252b, qv252c⟩ := isOf hZ rfl Ed
      obtain ⟨_, _, ⟨T252, L252, k252, n252⟩, -, X252, ⟨Lc252, hQ252, l252, y252, z252⟩, st252⟩ := X250.virtualBack hx (y := (⟨"com/example/imprimatur/imprimatur/verify/DeviceValues", "publicKey", "()[B"⟩ : MethodName)) (z := (⟨"com/example/imprimatur/imprimatur/verify/DeviceValues", "publicKey", "()[B"⟩ : MethodName)) hown (mvT hZ (hw _ (List.mem_of_getElem? (i := 47) rfl))) (mvT hZ (hw _ (List.mem_of_getElem? (i := 48) rfl))) (notFace_of_selects (args := #[]) (mvT hZ (hw _ (List.mem_of_getElem? (i := 50) rfl)))) (mvT hZ (hw _ (List.mem_of_getElem? (i := 50) rfl))) (mvT hZ (hw _ (List.mem_of_getElem? (i := 49) rfl))) (by decide) (backOf (W := 0) (rmN_publicKey l Z a0 hw [] d  T250.heap n0 Z_250 Fp) hZ (hw _ (List.mem_of_getElem? (i := 51) rfl)) (hw _ (List.mem_of_getElem? (i := 3) rfl)) (by decide) (by decide)) qv252a qv252c (g := (mkF m 169 #[.val (.int p0), .val (.int p1), .val (.int p2), .val (.int p3), .val (.long q4), .second, .val (.int (1 : Int32)), .val (.int (0 : Int32)), .val (.int (((p0.toUInt32 >>> ((2 : Int32) &&& 31).toUInt32).toInt32) &&& (3 : Int32))), .val (.int (p1.toInt8.toInt32)), .val (.int (p2.toInt8.toInt32)), .val (.int (p3.toInt8.toInt32)), .val .null, .val .null, .val (.ref d), .unset, .unset] [(.ref d)])) rfl (by rw [hml]; rfl) (Steps.refl _) (argsL := []) (rest := []) (lenOf pd_5 rfl) rfl (by show 2 * 0 + _ ≤ _; exact Nat.le_of_eq rfl) (hb hby at_169) (fun _ _ => ⟨rfl, rfl, (by decide : 2 + 0 ≤ _), (by decide : 5 + 0 ≤ _)⟩)
      dsimp only [Pt.U, Pt.locs, Pt.cells, Pt.slots] at X252 l252 y252 z252 st252 hQ252
      subst l252 y252 z252
      obtain ⟨rfl, Nq252, e252⟩ := hQ252
      have N252 := Fr.app N250 Nq252
      obtain ⟨fs, hr, hrun, hended, hW, hsame⟩ := X252.leave (v := some (.int (1 : Int32))) (fun h => by rw [Bd.returns] at h; cases h)
      refine ⟨_, _, pre0 _ (st1 _ (st242 _ (st243 _ (st244 _ (st245 _ (st246 _ (st247 _ (st248 _ (st249 _ (st250.trans (st251 _ (st252.trans ?_)))))))))))), hrun, hended, _, _, rfl, ?_, ⟨_, rfl⟩, hW, hsame.mono (by decide) (by decide)⟩
      · show Steps p.tables e below (T252.setTop (mkF m 172 #[.val (.int p0), .val (.int p1), .val (.int p2), .val (.int p3), .val (.long q4), .second, .val (.int (1 : Int32)), .val (.int (0 : Int32)), .val (.int (((p0.toUInt32 >>> ((2 : Int32) &&& 31).toUInt32).toInt32) &&& (3 : Int32))), .val (.int (p1.toInt8.toInt32)), .val (.int (p2.toInt8.toInt32)), .val (.int (p3.toInt8.toInt32)), .val .null, .val .null, .val (.ref d), .unset, .unset] [.null])) _
        refine XS.astore X252.here hx rfl (hb hby at_172) rfl rfl (l' := #[.val (.int p0), .val (.int p1), .val (.int p2), .val (.int p3), .val (.long q4), .second, .val (.int (1 : Int32)), .val (.int (0 : Int32)), .val (.int (((p0.toUInt32 >>> ((2 : Int32) &&& 31).toUInt32).toInt32) &&& (3 : Int32))), .val (.int (p1.toInt8.toInt32)), .val (.int (p2.toInt8.toInt32)), .val (.int (p3.toInt8.toInt32)), .val .null, .val .null, .val (.ref d), .val .null, .unset]) rfl ?_
        show Steps p.tables e below (T252.setTop (mkF m 174 #[.val (.int p0), .val (.int p1), .val (.int p2), .val (.int p3), .val (.long q4), .second, .val (.int (1 : Int32)), .val (.int (0 : Int32)), .val (.int (((p0.toUInt32 >>> ((2 : Int32) &&& 31).toUInt32).toInt32) &&& (3 : Int32))), .val (.int (p1.toInt8.toInt32)), .val (.int (p2.toInt8.toInt32)), .val (.int (p3.toInt8.toInt32)), .val .null, .val .null, .val (.ref d), .val .null, .unset] [])) _
        refine XS.iload X252.here hx rfl (hb hby at_174) rfl ?_
        show Steps p.tables e below (T252.setTop (mkF m 176 #[.val (.int p0), .val (.int p1), .val (.int p2), .val (.int p3), .val (.long q4), .second, .val (.int (1 : Int32)), .val (.int (0 : Int32)), .val (.int (((p0.toUInt32 >>> ((2 : Int32) &&& 31).toUInt32).toInt32) &&& (3 : Int32))), .val (.int (p1.toInt8.toInt32)), .val (.int (p2.toInt8.toInt32)), .val (.int (p3.toInt8.toInt32)), .val .null, .val .null, .val (.ref d), .val .null, .unset] [(.int (1 : Int32))])) _
        refine XS.ifNo X252.here hx rfl (hb hby at_176) rfl ((if0 _ _).trans (feq (by decide : ¬ ((1 : Int32) = (0 : Int32)))).1) ?_
        show Steps p.tables e below (T252.setTop (mkF m 179 #[.val (.int p0), .val (.int p1), .val (.int p2), .val (.int p3), .val (.long q4), .second, .val (.int (1 : Int32)), .val (.int (0 : Int32)), .val (.int (((p0.toUInt32 >>> ((2 : Int32) &&& 31).toUInt32).toInt32) &&& (3 : Int32))), .val (.int (p1.toInt8.toInt32)), .val (.int (p2.toInt8.toInt32)), .val (.int (p3.toInt8.toInt32)), .val .null, .val .null, .val (.ref d), .val .null, .unset] [])) _
        refine XS.aload X252.here hx rfl (hb hby at_179) rfl rfl ?_
        show Steps p.tables e below (T252.setTop (mkF m 181 #[.val (.int p0), .val (.int p1), .val (.int p2), .val (.int p3), .val (.long q4), .second, .val (.int (1 : Int32)), .val (.int (0 : Int32)), .val (.int (((p0.toUInt32 >>> ((2 : Int32) &&& 31).toUInt32).toInt32) &&& (3 : Int32))), .val (.int (p1.toInt8.toInt32)), .val (.int (p2.toInt8.toInt32)), .val (.int (p3.toInt8.toInt32)), .val .null, .val .null, .val (.ref d), .val .null, .unset] [.null])) _
        refine XS.ifnonnullNo X252.here hx rfl (hb hby at_181) rfl ?_
        show Steps p.tables e below (T252.setTop (mkF m 184 #[.val (.int p0), .val (.int p1), .val (.int p2), .val (.int p3), .val (.long q4), .second, .val (.int (1 : Int32)), .val (.int (0 : Int32)), .val (.int (((p0.toUInt32 >>> ((2 : Int32) &&& 31).toUInt32).toInt32) &&& (3 : Int32))), .val (.int (p1.toInt8.toInt32)), .val (.int (p2.toInt8.toInt32)), .val (.int (p3.toInt8.toInt32)), .val .null, .val .null, .val (.ref d), .val .null, .unset] [])) _
        refine XS.iconst X252.here hx rfl (hb hby at_184) ?_
        show Steps p.tables e below (T252.setTop (mkF m 185 #[.val (.int p0), .val (.int p1), .val (.int p2), .val (.int p3), .val (.long q4), .second, .val (.int (1 : Int32)), .val (.int (0 : Int32)), .val (.int (((p0.toUInt32 >>> ((2 : Int32) &&& 31).toUInt32).toInt32) &&& (3 : Int32))), .val (.int (p1.toInt8.toInt32)), .val (.int (p2.toInt8.toInt32)), .val (.int (p3.toInt8.toInt32)), .val .null, .val .null, .val (.ref d), .val .null, .unset] [(.int (1 : Int32))])) _
        refine XS.goto X252.here hx rfl (pc0 := 185) (pc' := 189) rfl (hb hby at_185) (by decide) (by decide) ?_
        show Steps p.tables e below (T252.setTop (mkF m 189 #[.val (.int p0), .val (.int p1), .val (.int p2), .val (.int p3), .val (.long q4), .second, .val (.int (1 : Int32)), .val (.int (0 : Int32)), .val (.int (((p0.toUInt32 >>> ((2 : Int32) &&& 31).toUInt32).toInt32) &&& (3 : Int32))), .val (.int (p1.toInt8.toInt32)), .val (.int (p2.toInt8.toInt32)), .val (.int (p3.toInt8.toInt32)), .val .null, .val .null, .val (.ref d), .val .null, .unset] [(.int (1 : Int32))])) _
        exact retN X252 hx (t := .boolean) Bd.returns (by simp) (hb hby at_189) hr
      · show Q_rm0 Z p0 p1 p2 p3 q4 ca cc val h0 n0 _ T252.heap _
        rw [e252]
        exact ⟨rfl, N252⟩
    · have st253 : ∀ target, Steps p.tables e below (s₁.setTop (mkF m 19 #[.val (.int p0), .val (.int p1), .val (.int p2), .val (.int p3), .val (.long q4), .second, .val (.int (1 : Int32)), .unset, .unset, .unset, .unset, .unset, .unset, .unset, .unset, .unset, .unset] [])) target → Steps p.tables e below (s₁.setTop (mkF m 16 #[.val (.int p0), .val (.int p1), .val (.int p2), .val (.int p3), .val (.long q4), .second, .val (.int (1 : Int32)), .unset, .unset, .unset, .unset, .unset, .unset, .unset, .unset, .unset, .unset] [(.int (p0 &&& (2 : Int32)))])) target := by
        intro target kt
        show Steps p.tables e below (s₁.setTop (mkF m 16 #[.val (.int p0), .val (.int p1), .val (.int p2), .val (.int p3), .val (.long q4), .second, .val (.int (1 : Int32)), .unset, .unset, .unset, .unset, .unset, .unset, .unset, .unset, .unset, .unset] [(.int (p0 &&& (2 : Int32)))])) _
        refine XS.ifNo X0.here hx rfl (hb hby at_16) rfl ((if0 _ _).trans (feq hc16).1) ?_
        exact kt
      have st254 : ∀ target, Steps p.tables e below (s₁.setTop (mkF m 104 #[.val (.int p0), .val (.int p1), .val (.int p2), .val (.int p3), .val (.long q4), .second, .val (.int (1 : Int32)), .val (.int (1 : Int32)), .val (.int (((p0.toUInt32 >>> ((2 : Int32) &&& 31).toUInt32).toInt32) &&& (3 : Int32))), .val (.int (p1.toInt8.toInt32)), .val (.int (p2.toInt8.toInt32)), .val (.int (p3.toInt8.toInt32)), .val .null, .val .null, .unset, .unset, .unset] [(.int (32 : Int32))])) target → Steps p.tables e below (s₁.setTop (mkF m 19 #[.val (.int p0), .val (.int p1), .val (.int p2), .val (.int p3), .val (.long q4), .second, .val (.int (1 : Int32)), .unset, .unset, .unset, .unset, .unset, .unset, .unset, .unset, .unset, .unset] [])) target := by
        intro target kt
        show Steps p.tables e below (s₁.setTop (mkF m 19 #[.val (.int p0), .val (.int p1), .val (.int p2), .val (.int p3), .val (.long q4), .second, .val (.int (1 : Int32)), .unset, .unset, .unset, .unset, .unset, .unset, .unset, .unset, .unset, .unset] [])) _
        refine XS.iconst X0.here hx rfl (hb hby at_19) ?_
        show Steps p.tables e below (s₁.setTop (mkF m 20 #[.val (.int p0), .val (.int p1), .val (.int p2), .val (.int p3), .val (.long q4), .second, .val (.int (1 : Int32)), .unset, .unset, .unset, .unset, .unset, .unset, .unset, .unset, .unset, .unset] [(.int (1 : Int32))])) _
        refine XS.goto X0.here hx rfl (pc0 := 20) (pc' := 24) rfl (hb hby at_20) (by decide) (by decide) ?_
        show Steps p.tables e below (s₁.setTop (mkF m 24 #[.val (.int p0), .val (.int p1), .val (.int p2), .val (.int p3), .val (.long q4), .second, .val (.int (1 : Int32)), .unset, .unset, .unset, .unset, .unset, .unset, .unset, .unset, .unset, .unset] [(.int (1 : Int32))])) _
        refine XS.istore X0.here hx rfl (hb hby at_24) rfl (l' := #[.val (.int p0), .val (.int p1), .val (.int p2), .val (.int p3), .val (.long q4), .second, .val (.int (1 : Int32)), .val (.int (1 : Int32)), .unset, .unset, .unset, .unset, .unset, .unset, .unset, .unset, .unset]) rfl ?_
        show Steps p.tables e below (s₁.setTop (mkF m 26 #[.val (.int p0), .val (.int p1), .val (.int p2), .val (.int p3), .val (.long q4), .second, .val (.int (1 : Int32)), .val (.int (1 : Int32)), .unset, .unset, .unset, .unset, .unset, .unset, .unset, .unset, .unset] [])) _
        refine XS.iloadN X0.here hx rfl (hb hby at_26) rfl ?_
        show Steps p.tables e below (s₁.setTop (mkF m 27 #[.val (.int p0), .val (.int p1), .val (.int p2), .val (.int p3), .val (.long q4), .second, .val (.int (1 : Int32)), .val (.int (1 : Int32)), .unset, .unset, .unset, .unset, .unset, .unset, .unset, .unset, .unset] [(.int p0)])) _
        refine XS.iconst X0.here hx rfl (hb hby at_27) ?_
        show Steps p.tables e below (s₁.setTop (mkF m 28 #[.val (.int p0), .val (.int p1), .val (.int p2), .val (.int p3), .val (.long q4), .second, .val (.int (1 : Int32)), .val (.int (1 : Int32)), .unset, .unset, .unset, .unset, .unset, .unset, .unset, .unset, .unset] [(.int (2 : Int32)), (.int p0)])) _
        refine XS.iushr X0.here hx rfl (hb hby at_28) rfl ?_
        show Steps p.tables e below (s₁.setTop (mkF m 29 #[.val (.int p0), .val (.int p1), .val (.int p2), .val (.int p3), .val (.long q4), .second, .val (.int (1 : Int32)), .val (.int (1 : Int32)), .unset, .unset, .unset, .unset, .unset, .unset, .unset, .unset, .unset] [(.int ((p0.toUInt32 >>> ((2 : Int32) &&& 31).toUInt32).toInt32))])) _
        refine XS.iconst X0.here hx rfl (hb hby at_29) ?_
        show Steps p.tables e below (s₁.setTop (mkF m 30 #[.val (.int p0), .val (.int p1), .val (.int p2), .val (.int p3), .val (.long q4), .second, .val (.int (1 : Int32)), .val (.int (1 : Int32)), .unset, .unset, .unset, .unset, .unset, .unset, .unset, .unset, .unset] [(.int (3 : Int32)), (.int ((p0.toUInt32 >>> ((2 : Int32) &&& 31).toUInt32).toInt32))])) _
        refine XS.iand X0.here hx rfl (hb hby at_30) rfl ?_
        show Steps p.tables e below (s₁.setTop (mkF m 31 #[.val (.int p0), .val (.int p1), .val (.int p2), .val (.int p3), .val (.long q4), .second, .val (.int (1 : Int32)), .val (.int (1 : Int32)), .unset, .unset, .unset, .unset, .unset, .unset, .unset, .unset, .unset] [(.int (((p0.toUInt32 >>> ((2 : Int32) &&& 31).toUInt32).toInt32) &&& (3 : Int32)))])) _
        refine XS.istore X0.here hx rfl (hb hby at_31) rfl (l' := #[.val (.int p0), .val (.int p1), .val (.int p2), .val (.int p3), .val (.long q4), .second, .val (.int (1 : Int32)), .val (.int (1 : Int32)), .val (.int (((p0.toUInt32 >>> ((2 : Int32) &&& 31).toUInt32).toInt32) &&& (3 : Int32))), .unset, .unset, .unset, .unset, .unset, .unset, .unset, .unset]) rfl ?_
        show Steps p.tables e below (s₁.setTop (mkF m 33 #[.val (.int p0), .val (.int p1), .val (.int p2), .val (.int p3), .val (.long q4), .second, .val (.int (1 : Int32)), .val (.int (1 : Int32)), .val (.int (((p0.toUInt32 >>> ((2 : Int32) &&& 31).toUInt32).toInt32) &&& (3 : Int32))), .unset, .unset, .unset, .unset, .unset, .unset, .unset, .unset] [])) _
        refine XS.iloadN X0.here hx rfl (hb hby at_33) rfl ?_
        show Steps p.tables e below (s₁.setTop (mkF m 34 #[.val (.int p0), .val (.int p1), .val (.int p2), .val (.int p3), .val (.long q4), .second, .val (.int (1 : Int32)), .val (.int (1 : Int32)), .val (.int (((p0.toUInt32 >>> ((2 : Int32) &&& 31).toUInt32).toInt32) &&& (3 : Int32))), .unset, .unset, .unset, .unset, .unset, .unset, .unset, .unset] [(.int p1)])) _
        refine XS.i2b X0.here hx rfl (hb hby at_34) rfl ?_
        show Steps p.tables e below (s₁.setTop (mkF m 35 #[.val (.int p0), .val (.int p1), .val (.int p2), .val (.int p3), .val (.long q4), .second, .val (.int (1 : Int32)), .val (.int (1 : Int32)), .val (.int (((p0.toUInt32 >>> ((2 : Int32) &&& 31).toUInt32).toInt32) &&& (3 : Int32))), .unset, .unset, .unset, .unset, .unset, .unset, .unset, .unset] [(.int (p1.toInt8.toInt32))])) _
        refine XS.istore X0.here hx rfl (hb hby at_35) rfl (l' := #[.val (.int p0), .val (.int p1), .val (.int p2), .val (.int p3), .val (.long q4), .second, .val (.int (1 : Int32)), .val (.int (1 : Int32)), .val (.int (((p0.toUInt32 >>> ((2 : Int32) &&& 31).toUInt32).toInt32) &&& (3 : Int32))), .val (.int (p1.toInt8.toInt32)), .unset, .unset, .unset, .unset, .unset, .unset, .unset]) rfl ?_
        show Steps p.tables e below (s₁.setTop (mkF m 37 #[.val (.int p0), .val (.int p1), .val (.int p2), .val (.int p3), .val (.long q4), .second, .val (.int (1 : Int32)), .val (.int (1 : Int32)), .val (.int (((p0.toUInt32 >>> ((2 : Int32) &&& 31).toUInt32).toInt32) &&& (3 : Int32))), .val (.int (p1.toInt8.toInt32)), .unset, .unset, .unset, .unset, .unset, .unset, .unset] [])) _
        refine XS.iloadN X0.here hx rfl (hb hby at_37) rfl ?_
        show Steps p.tables e below (s₁.setTop (mkF m 38 #[.val (.int p0), .val (.int p1), .val (.int p2), .val (.int p3), .val (.long q4), .second, .val (.int (1 : Int32)), .val (.int (1 : Int32)), .val (.int (((p0.toUInt32 >>> ((2 : Int32) &&& 31).toUInt32).toInt32) &&& (3 : Int32))), .val (.int (p1.toInt8.toInt32)), .unset, .unset, .unset, .unset, .unset, .unset, .unset] [(.int p2)])) _
        refine XS.i2b X0.here hx rfl (hb hby at_38) rfl ?_
        show Steps p.tables e below (s₁.setTop (mkF m 39 #[.val (.int p0), .val (.int p1), .val (.int p2), .val (.int p3), .val (.long q4), .second, .val (.int (1 : Int32)), .val (.int (1 : Int32)), .val (.int (((p0.toUInt32 >>> ((2 : Int32) &&& 31).toUInt32).toInt32) &&& (3 : Int32))), .val (.int (p1.toInt8.toInt32)), .unset, .unset, .unset, .unset, .unset, .unset, .unset] [(.int (p2.toInt8.toInt32))])) _
        refine XS.istore X0.here hx rfl (hb hby at_39) rfl (l' := #[.val (.int p0), .val (.int p1), .val (.int p2), .val (.int p3), .val (.long q4), .second, .val (.int (1 : Int32)), .val (.int (1 : Int32)), .val (.int (((p0.toUInt32 >>> ((2 : Int32) &&& 31).toUInt32).toInt32) &&& (3 : Int32))), .val (.int (p1.toInt8.toInt32)), .val (.int (p2.toInt8.toInt32)), .unset, .unset, .unset, .unset, .unset, .unset]) rfl ?_
        show Steps p.tables e below (s₁.setTop (mkF m 41 #[.val (.int p0), .val (.int p1), .val (.int p2), .val (.int p3), .val (.long q4), .second, .val (.int (1 : Int32)), .val (.int (1 : Int32)), .val (.int (((p0.toUInt32 >>> ((2 : Int32) &&& 31).toUInt32).toInt32) &&& (3 : Int32))), .val (.int (p1.toInt8.toInt32)), .val (.int (p2.toInt8.toInt32)), .unset, .unset, .unset, .unset, .unset, .unset] [])) _
        refine XS.iloadN X0.here hx rfl (hb hby at_41) rfl ?_
        show Steps p.tables e below (s₁.setTop (mkF m 42 #[.val (.int p0), .val (.int p1), .val (.int p2), .val (.int p3), .val (.long q4), .second, .val (.int (1 : Int32)), .val (.int (1 : Int32)), .val (.int (((p0.toUInt32 >>> ((2 : Int32) &&& 31).toUInt32).toInt32) &&& (3 : Int32))), .val (.int (p1.toInt8.toInt32)), .val (.int (p2.toInt8.toInt32)), .unset, .unset, .unset, .unset, .unset, .unset] [(.int p3)])) _
        refine XS.i2b X0.here hx rfl (hb hby at_42) rfl ?_
        show Steps p.tables e below (s₁.setTop (mkF m 43 #[.val (.int p0), .val (.int p1), .val (.int p2), .val (.int p3), .val (.long q4), .second, .val (.int (1 : Int32)), .val (.int (1 : Int32)), .val (.int (((p0.toUInt32 >>> ((2 : Int32) &&& 31).toUInt32).toInt32) &&& (3 : Int32))), .val (.int (p1.toInt8.toInt32)), .val (.int (p2.toInt8.toInt32)), .unset, .unset, .unset, .unset, .unset, .unset] [(.int (p3.toInt8.toInt32))])) _
        refine XS.istore X0.here hx rfl (hb hby at_43) rfl (l' := #[.val (.int p0), .val (.int p1), .val (.int p2), .val (.int p3), .val (.long q4), .second, .val (.int (1 : Int32)), .val (.int (1 : Int32)), .val (.int (((p0.toUInt32 >>> ((2 : Int32) &&& 31).toUInt32).toInt32) &&& (3 : Int32))), .val (.int (p1.toInt8.toInt32)), .val (.int (p2.toInt8.toInt32)), .val (.int (p3.toInt8.toInt32)), .unset, .unset, .unset, .unset, .unset]) rfl ?_
        show Steps p.tables e below (s₁.setTop (mkF m 45 #[.val (.int p0), .val (.int p1), .val (.int p2), .val (.int p3), .val (.long q4), .second, .val (.int (1 : Int32)), .val (.int (1 : Int32)), .val (.int (((p0.toUInt32 >>> ((2 : Int32) &&& 31).toUInt32).toInt32) &&& (3 : Int32))), .val (.int (p1.toInt8.toInt32)), .val (.int (p2.toInt8.toInt32)), .val (.int (p3.toInt8.toInt32)), .unset, .unset, .unset, .unset, .unset] [])) _
        refine XS.aconstNull X0.here hx rfl (hb hby at_45) ?_
        show Steps p.tables e below (s₁.setTop (mkF m 46 #[.val (.int p0), .val (.int p1), .val (.int p2), .val (.int p3), .val (.long q4), .second, .val (.int (1 : Int32)), .val (.int (1 : Int32)), .val (.int (((p0.toUInt32 >>> ((2 : Int32) &&& 31).toUInt32).toInt32) &&& (3 : Int32))), .val (.int (p1.toInt8.toInt32)), .val (.int (p2.toInt8.toInt32)), .val (.int (p3.toInt8.toInt32)), .unset, .unset, .unset, .unset, .unset] [.null])) _
        refine XS.astore X0.here hx rfl (hb hby at_46) rfl rfl (l' := #[.val (.int p0), .val (.int p1), .val (.int p2), .val (.int p3), .val (.long q4), .second, .val (.int (1 : Int32)), .val (.int (1 : Int32)), .val (.int (((p0.toUInt32 >>> ((2 : Int32) &&& 31).toUInt32).toInt32) &&& (3 : Int32))), .val (.int (p1.toInt8.toInt32)), .val (.int (p2.toInt8.toInt32)), .val (.int (p3.toInt8.toInt32)), .val .null, .unset, .unset, .unset, .unset]) rfl ?_
        show Steps p.tables e below (s₁.setTop (mkF m 48 #[.val (.int p0), .val (.int p1), .val (.int p2), .val (.int p3), .val (.long q4), .second, .val (.int (1 : Int32)), .val (.int (1 : Int32)), .val (.int (((p0.toUInt32 >>> ((2 : Int32) &&& 31).toUInt32).toInt32) &&& (3 : Int32))), .val (.int (p1.toInt8.toInt32)), .val (.int (p2.toInt8.toInt32)), .val (.int (p3.toInt8.toInt32)), .val .null, .unset, .unset, .unset, .unset] [])) _
        refine XS.iload X0.here hx rfl (hb hby at_48) rfl ?_
        show Steps p.tables e below (s₁.setTop (mkF m 50 #[.val (.int p0), .val (.int p1), .val (.int p2), .val (.int p3), .val (.long q4), .second, .val (.int (1 : Int32)), .val (.int (1 : Int32)), .val (.int (((p0.toUInt32 >>> ((2 : Int32) &&& 31).toUInt32).toInt32) &&& (3 : Int32))), .val (.int (p1.toInt8.toInt32)), .val (.int (p2.toInt8.toInt32)), .val (.int (p3.toInt8.toInt32)), .val .null, .unset, .unset, .unset, .unset] [(.int (1 : Int32))])) _
        refine XS.ifYes X0.here hx rfl (pc0 := 50) (pc' := 94) rfl (hb hby at_50) rfl ((if0 _ _).trans (feq (by decide : ¬ ((1 : Int32) = (0 : Int32)))).2) (by decide) (by decide) ?_
        show Steps p.tables e below (s₁.setTop (mkF m 94 #[.val (.int p0), .val (.int p1), .val (.int p2), .val (.int p3), .val (.long q4), .second, .val (.int (1 : Int32)), .val (.int (1 : Int32)), .val (.int (((p0.toUInt32 >>> ((2 : Int32) &&& 31).toUInt32).toInt32) &&& (3 : Int32))), .val (.int (p1.toInt8.toInt32)), .val (.int (p2.toInt8.toInt32)), .val (.int (p3.toInt8.toInt32)), .val .null, .unset, .unset, .unset, .unset] [])) _
        refine XS.aconstNull X0.here hx rfl (hb hby at_94) ?_
        show Steps p.tables e below (s₁.setTop (mkF m 95 #[.val (.int p0), .val (.int p1), .val (.int p2), .val (.int p3), .val (.long q4), .second, .val (.int (1 : Int32)), .val (.int (1 : Int32)), .val (.int (((p0.toUInt32 >>> ((2 : Int32) &&& 31).toUInt32).toInt32) &&& (3 : Int32))), .val (.int (p1.toInt8.toInt32)), .val (.int (p2.toInt8.toInt32)), .val (.int (p3.toInt8.toInt32)), .val .null, .unset, .unset, .unset, .unset] [.null])) _
        refine XS.astore X0.here hx rfl (hb hby at_95) rfl rfl (l' := #[.val (.int p0), .val (.int p1), .val (.int p2), .val (.int p3), .val (.long q4), .second, .val (.int (1 : Int32)), .val (.int (1 : Int32)), .val (.int (((p0.toUInt32 >>> ((2 : Int32) &&& 31).toUInt32).toInt32) &&& (3 : Int32))), .val (.int (p1.toInt8.toInt32)), .val (.int (p2.toInt8.toInt32)), .val (.int (p3.toInt8.toInt32)), .val .null, .val .null, .unset, .unset, .unset]) rfl ?_
        show Steps p.tables e below (s₁.setTop (mkF m 97 #[.val (.int p0), .val (.int p1), .val (.int p2), .val (.int p3), .val (.long q4), .second, .val (.int (1 : Int32)), .val (.int (1 : Int32)), .val (.int (((p0.toUInt32 >>> ((2 : Int32) &&& 31).toUInt32).toInt32) &&& (3 : Int32))), .val (.int (p1.toInt8.toInt32)), .val (.int (p2.toInt8.toInt32)), .val (.int (p3.toInt8.toInt32)), .val .null, .val .null, .unset, .unset, .unset] [])) _
        refine XS.iload X0.here hx rfl (hb hby at_97) rfl ?_
        show Steps p.tables e below (s₁.setTop (mkF m 99 #[.val (.int p0), .val (.int p1), .val (.int p2), .val (.int p3), .val (.long q4), .second, .val (.int (1 : Int32)), .val (.int (1 : Int32)), .val (.int (((p0.toUInt32 >>> ((2 : Int32) &&& 31).toUInt32).toInt32) &&& (3 : Int32))), .val (.int (p1.toInt8.toInt32)), .val (.int (p2.toInt8.toInt32)), .val (.int (p3.toInt8.toInt32)), .val .null, .val .null, .unset, .unset, .unset] [(.int (1 : Int32))])) _
        refine XS.ifNo X0.here hx rfl (hb hby at_99) rfl ((if0 _ _).trans (feq (by decide : ¬ ((1 : Int32) = (0 : Int32)))).1) ?_
        show Steps p.tables e below (s₁.setTop (mkF m 102 #[.val (.int p0), .val (.int p1), .val (.int p2), .val (.int p3), .val (.long q4), .second, .val (.int (1 : Int32)), .val (.int (1 : Int32)), .val (.int (((p0.toUInt32 >>> ((2 : Int32) &&& 31).toUInt32).toInt32) &&& (3 : Int32))), .val (.int (p1.toInt8.toInt32)), .val (.int (p2.toInt8.toInt32)), .val (.int (p3.toInt8.toInt32)), .val .null, .val .null, .unset, .unset, .unset] [])) _
        refine XS.bipush X0.here hx rfl (hb hby at_102) ?_
        exact kt
      obtain ⟨T255, h255, k255, X255, e255, E255, A255, Ex255, st255⟩ := newPE X0 hx hZ (hw _ (List.mem_of_getElem? (i := 0) rfl)) e0 (g := (mkF m 104 #[.val (.int p0), .val (.int p1), .val (.int p2), .val (.int p3), .val (.long q4), .second, .val (.int (1 : Int32)), .val (.int (1 : Int32)), .val (.int (((p0.toUInt32 >>> ((2 : Int32) &&& 31).toUInt32).toInt32) &&& (3 : Int32))), .val (.int (p1.toInt8.toInt32)), .val (.int (p2.toInt8.toInt32)), .val (.int (p3.toInt8.toInt32)), .val .null, .val .null, .unset, .unset, .unset] [(.int (32 : Int32))])) rfl (hb hby at_104) rfl (by decide) (cap := 32) (by decide) (by decide) (by decide) (by decide) (ad := "[B") (by decide)
      obtain ⟨hh, g255⟩ : ∃ z, z = h0.size := ⟨_, rfl⟩
      rw [← g255] at A255 Ex255 st255
      have g_hh : n0 ≤ hh := Nat.le_trans Z0 (Nat.le_of_eq g255.symm)
      have Od_255 := Od.ext E255
      have Z_255 : n0 ≤ h255.size := Nat.le_trans Z0 E255.1
      have Hh_hh : Arh Z h255 hh k255 .byte (32 : Int32) [] [] (.int (0 : Int32)) := Arv.arh (Arv.new A255 (by decide))
      have st256 : ∀ target, Steps p.tables e below (T255.setTop (mkF m 116 #[.val (.int p0), .val (.int p1), .val (.int p2), .val (.int p3), .val (.long q4), .second, .val (.int (1 : Int32)), .val (.int (1 : Int32)), .val (.int (((p0.toUInt32 >>> ((2 : Int32) &&& 31).toUInt32).toInt32) &&& (3 : Int32))), .val (.int (p1.toInt8.toInt32)), .val (.int (p2.toInt8.toInt32)), .val (.int (p3.toInt8.toInt32)), .val .null, .val (.ref hh), .unset, .unset, .unset] [(.int ((p1 ^^^ (51 : Int32)).toInt8.toInt32)), (.int (0 : Int32)), (.ref hh)])) target → Steps p.tables e below (T255.setTop (mkF m 106 #[.val (.int p0), .val (.int p1), .val (.int p2), .val (.int p3), .val (.long q4), .second, .val (.int (1 : Int32)), .val (.int (1 : Int32)), .val (.int (((p0.toUInt32 >>> ((2 : Int32) &&& 31).toUInt32).toInt32) &&& (3 : Int32))), .val (.int (p1.toInt8.toInt32)), .val (.int (p2.toInt8.toInt32)), .val (.int (p3.toInt8.toInt32)), .val .null, .val .null, .unset, .unset, .unset] [(.ref hh)])) target := by
        intro target kt
        show Steps p.tables e below (T255.setTop (mkF m 106 #[.val (.int p0), .val (.int p1), .val (.int p2), .val (.int p3), .val (.long q4), .second, .val (.int (1 : Int32)), .val (.int (1 : Int32)), .val (.int (((p0.toUInt32 >>> ((2 : Int32) &&& 31).toUInt32).toInt32) &&& (3 : Int32))), .val (.int (p1.toInt8.toInt32)), .val (.int (p2.toInt8.toInt32)), .val (.int (p3.toInt8.toInt32)), .val .null, .val .null, .unset, .unset, .unset] [(.ref hh)])) _
        refine XS.astore X255.here hx rfl (hb hby at_106) rfl rfl (l' := #[.val (.int p0), .val (.int p1), .val (.int p2), .val (.int p3), .val (.long q4), .second, .val (.int (1 : Int32)), .val (.int (1 : Int32)), .val (.int (((p0.toUInt32 >>> ((2 : Int32) &&& 31).toUInt32).toInt32) &&& (3 : Int32))), .val (.int (p1.toInt8.toInt32)), .val (.int (p2.toInt8.toInt32)), .val (.int (p3.toInt8.toInt32)), .val .null, .val (.ref hh), .unset, .unset, .unset]) rfl ?_
        show Steps p.tables e below (T255.setTop (mkF m 108 #[.val (.int p0), .val (.int p1), .val (.int p2), .val (.int p3), .val (.long q4), .second, .val (.int (1 : Int32)), .val (.int (1 : Int32)), .val (.int (((p0.toUInt32 >>> ((2 : Int32) &&& 31).toUInt32).toInt32) &&& (3 : Int32))), .val (.int (p1.toInt8.toInt32)), .val (.int (p2.toInt8.toInt32)), .val (.int (p3.toInt8.toInt32)), .val .null, .val (.ref hh), .unset, .unset, .unset] [])) _
        refine XS.aload X255.here hx rfl (hb hby at_108) rfl rfl ?_
        show Steps p.tables e below (T255.setTop (mkF m 110 #[.val (.int p0), .val (.int p1), .val (.int p2), .val (.int p3), .val (.long q4), .second, .val (.int (1 : Int32)), .val (.int (1 : Int32)), .val (.int (((p0.toUInt32 >>> ((2 : Int32) &&& 31).toUInt32).toInt32) &&& (3 : Int32))), .val (.int (p1.toInt8.toInt32)), .val (.int (p2.toInt8.toInt32)), .val (.int (p3.toInt8.toInt32)), .val .null, .val (.ref hh), .unset, .unset, .unset] [(.ref hh)])) _
        refine XS.iconst X255.here hx rfl (hb hby at_110) ?_
        show Steps p.tables e below (T255.setTop (mkF m 111 #[.val (.int p0), .val (.int p1), .val (.int p2), .val (.int p3), .val (.long q4), .second, .val (.int (1 : Int32)), .val (.int (1 : Int32)), .val (.int (((p0.toUInt32 >>> ((2 : Int32) &&& 31).toUInt32).toInt32) &&& (3 : Int32))), .val (.int (p1.toInt8.toInt32)), .val (.int (p2.toInt8.toInt32)), .val (.int (p3.toInt8.toInt32)), .val .null, .val (.ref hh), .unset, .unset, .unset] [(.int (0 : Int32)), (.ref hh)])) _
        refine XS.iloadN X255.here hx rfl (hb hby at_111) rfl ?_
        show Steps p.tables e below (T255.setTop (mkF m 112 #[.val (.int p0), .val (.int p1), .val (.int p2), .val (.int p3), .val (.long q4), .second, .val (.int (1 : Int32)), .val (.int (1 : Int32)), .val (.int (((p0.toUInt32 >>> ((2 : Int32) &&& 31).toUInt32).toInt32) &&& (3 : Int32))), .val (.int (p1.toInt8.toInt32)), .val (.int (p2.toInt8.toInt32)), .val (.int (p3.toInt8.toInt32)), .val .null, .val (.ref hh), .unset, .unset, .unset] [(.int p1), (.int (0 : Int32)), (.ref hh)])) _
        refine XS.bipush X255.here hx rfl (hb hby at_112) ?_
        show Steps p.tables e below (T255.setTop (mkF m 114 #[.val (.int p0), .val (.int p1), .val (.int p2), .val (.int p3), .val (.long q4), .second, .val (.int (1 : Int32)), .val (.int (1 : Int32)), .val (.int (((p0.toUInt32 >>> ((2 : Int32) &&& 31).toUInt32).toInt32) &&& (3 : Int32))), .val (.int (p1.toInt8.toInt32)), .val (.int (p2.toInt8.toInt32)), .val (.int (p3.toInt8.toInt32)), .val .null, .val (.ref hh), .unset, .unset, .unset] [(.int (51 : Int32)), (.int p1), (.int (0 : Int32)), (.ref hh)])) _
        refine XS.ixor X255.here hx rfl (hb hby at_114) rfl ?_
        show Steps p.tables e below (T255.setTop (mkF m 115 #[.val (.int p0), .val (.int p1), .val (.int p2), .val (.int p3), .val (.long q4), .second, .val (.int (1 : Int32)), .val (.int (1 : Int32)), .val (.int (((p0.toUInt32 >>> ((2 : Int32) &&& 31).toUInt32).toInt32) &&& (3 : Int32))), .val (.int (p1.toInt8.toInt32)), .val (.int (p2.toInt8.toInt32)), .val (.int (p3.toInt8.toInt32)), .val .null, .val (.ref hh), .unset, .unset, .unset] [(.int (p1 ^^^ (51 : Int32))), (.int (0 : Int32)), (.ref hh)])) _
        refine XS.i2b X255.here hx rfl (hb hby at_115) rfl ?_
        exact kt
      obtain ⟨cl257, Ar257, qc257, Sz257, Mn257, Hs257, Gs257⟩ := id Hh_hh
      have hin257 : ¬ ((0 : Int32) < 0 ∨ cl257.slots.size ≤ ((0 : Int32)).toNatClampNeg) := own_in Sz257 ⟨by decide, by decide⟩
      obtain ⟨T257, h257, X257, e257, W257, st257⟩ := stB X255 hx hZ e255 Ar257 (j := (0 : Int32)) hin257 (g := (mkF m 116 #[.val (.int p0), .val (.int p1), .val (.int p2), .val (.int p3), .val (.long q4), .second, .val (.int (1 : Int32)), .val (.int (1 : Int32)), .val (.int (((p0.toUInt32 >>> ((2 : Int32) &&& 31).toUInt32).toInt32) &&& (3 : Int32))), .val (.int (p1.toInt8.toInt32)), .val (.int (p2.toInt8.toInt32)), .val (.int (p3.toInt8.toInt32)), .val .null, .val (.ref hh), .unset, .unset, .unset] [(.int ((p1 ^^^ (51 : Int32)).toInt8.toInt32)), (.int (0 : Int32)), (.ref hh)])) rfl rfl (hb hby at_116)
      have Hh_hh_257 : Arh Z h257 hh k255 .byte (32 : Int32) [((0 : Int32), (.int (nar .byte ((p1 ^^^ (51 : Int32)).toInt8.toInt32))))] [] (.int (0 : Int32)) := Arh.push Ar257 qc257 Sz257 Mn257 Hs257 Gs257 (fits_nar_byte _) W257 hin257
      have Od_257 := Od_255.wr W257 g_hh
      have Ex255_257 := Ex255.wr W257
      have Z_257 : n0 ≤ h257.size := Nat.le_trans Z_255 (Keep.of_wr W257).1
      have N257 := Fr.snoc X257 N0 g_hh
      have st258 : ∀ target, Steps p.tables e below (T257.setTop (mkF m 125 #[.val (.int p0), .val (.int p1), .val (.int p2), .val (.int p3), .val (.long q4), .second, .val (.int (1 : Int32)), .val (.int (1 : Int32)), .val (.int (((p0.toUInt32 >>> ((2 : Int32) &&& 31).toUInt32).toInt32) &&& (3 : Int32))), .val (.int (p1.toInt8.toInt32)), .val (.int (p2.toInt8.toInt32)), .val (.int (p3.toInt8.toInt32)), .val .null, .val (.ref hh), .unset, .unset, .unset] [(.int ((p2 ^^^ (119 : Int32)).toInt8.toInt32)), (.int (1 : Int32)), (.ref hh)])) target → Steps p.tables e below (T257.setTop (mkF m 117 #[.val (.int p0), .val (.int p1), .val (.int p2), .val (.int p3), .val (.long q4), .second, .val (.int (1 : Int32)), .val (.int (1 : Int32)), .val (.int (((p0.toUInt32 >>> ((2 : Int32) &&& 31).toUInt32).toInt32) &&& (3 : Int32))), .val (.int (p1.toInt8.toInt32)), .val (.int (p2.toInt8.toInt32)), .val (.int (p3.toInt8.toInt32)), .val .null, .val (.ref hh), .unset, .unset, .unset] [])) target := by
        intro target kt
        show Steps p.tables e below (T257.setTop (mkF m 117 #[.val (.int p0), .val (.int p1), .val (.int p2), .val (.int p3), .val (.long q4), .second, .val (.int (1 : Int32)), .val (.int (1 : Int32)), .val (.int (((p0.toUInt32 >>> ((2 : Int32) &&& 31).toUInt32).toInt32) &&& (3 : Int32))), .val (.int (p1.toInt8.toInt32)), .val (.int (p2.toInt8.toInt32)), .val (.int (p3.toInt8.toInt32)), .val .null, .val (.ref hh), .unset, .unset, .unset] [])) _
        refine XS.aload X257.here hx rfl (hb hby at_117) rfl rfl ?_
        show Steps p.tables e below (T257.setTop (mkF m 119 #[.val (.int p0), .val (.int p1), .val (.int p2), .val (.int p3), .val (.long q4), .second, .val (.int (1 : Int32)), .val (.int (1 : Int32)), .val (.int (((p0.toUInt32 >>> ((2 : Int32) &&& 31).toUInt32).toInt32) &&& (3 : Int32))), .val (.int (p1.toInt8.toInt32)), .val (.int (p2.toInt8.toInt32)), .val (.int (p3.toInt8.toInt32)), .val .null, .val (.ref hh), .unset, .unset, .unset] [(.ref hh)])) _
        refine XS.iconst X257.here hx rfl (hb hby at_119) ?_
        show Steps p.tables e below (T257.setTop (mkF m 120 #[.val (.int p0), .val (.int p1), .val (.int p2), .val (.int p3), .val (.long q4), .second, .val (.int (1 : Int32)), .val (.int (1 : Int32)), .val (.int (((p0.toUInt32 >>> ((2 : Int32) &&& 31).toUInt32).toInt32) &&& (3 : Int32))), .val (.int (p1.toInt8.toInt32)), .val (.int (p2.toInt8.toInt32)), .val (.int (p3.toInt8.toInt32)), .val .null, .val (.ref hh), .unset, .unset, .unset] [(.int (1 : Int32)), (.ref hh)])) _
        refine XS.iloadN X257.here hx rfl (hb hby at_120) rfl ?_
        show Steps p.tables e below (T257.setTop (mkF m 121 #[.val (.int p0), .val (.int p1), .val (.int p2), .val (.int p3), .val (.long q4), .second, .val (.int (1 : Int32)), .val (.int (1 : Int32)), .val (.int (((p0.toUInt32 >>> ((2 : Int32) &&& 31).toUInt32).toInt32) &&& (3 : Int32))), .val (.int (p1.toInt8.toInt32)), .val (.int (p2.toInt8.toInt32)), .val (.int (p3.toInt8.toInt32)), .val .null, .val (.ref hh), .unset, .unset, .unset] [(.int p2), (.int (1 : Int32)), (.ref hh)])) _
        refine XS.bipush X257.here hx rfl (hb hby at_121) ?_
        show Steps p.tables e below (T257.setTop (mkF m 123 #[.val (.int p0), .val (.int p1), .val (.int p2), .val (.int p3), .val (.long q4), .second, .val (.int (1 : Int32)), .val (.int (1 : Int32)), .val (.int (((p0.toUInt32 >>> ((2 : Int32) &&& 31).toUInt32).toInt32) &&& (3 : Int32))), .val (.int (p1.toInt8.toInt32)), .val (.int (p2.toInt8.toInt32)), .val (.int (p3.toInt8.toInt32)), .val .null, .val (.ref hh), .unset, .unset, .unset] [(.int (119 : Int32)), (.int p2), (.int (1 : Int32)), (.ref hh)])) _
        refine XS.ixor X257.here hx rfl (hb hby at_123) rfl ?_
        show Steps p.tables e below (T257.setTop (mkF m 124 #[.val (.int p0), .val (.int p1), .val (.int p2), .val (.int p3), .val (.long q4), .second, .val (.int (1 : Int32)), .val (.int (1 : Int32)), .val (.int (((p0.toUInt32 >>> ((2 : Int32) &&& 31).toUInt32).toInt32) &&& (3 : Int32))), .val (.int (p1.toInt8.toInt32)), .val (.int (p2.toInt8.toInt32)), .val (.int (p3.toInt8.toInt32)), .val .null, .val (.ref hh), .unset, .unset, .unset] [(.int (p2 ^^^ (119 : Int32))), (.int (1 : Int32)), (.ref hh)])) _
        refine XS.i2b X257.here hx rfl (hb hby at_124) rfl ?_
        exact kt
      obtain ⟨cl259, Ar259, qc259, Sz259, Mn259, Hs259, Gs259⟩ := id Hh_hh_257
      have hin259 : ¬ ((1 : Int32) < 0 ∨ cl259.slots.size ≤ ((1 : Int32)).toNatClampNeg) := own_in Sz259 ⟨by decide, by decide⟩
      obtain ⟨T259, h259, X259, e259, W259, st259⟩ := stB X257 hx hZ e257 Ar259 (j := (1 : Int32)) hin259 (g := (mkF m 125 #[.val (.int p0), .val (.int p1), .val (.int p2), .val (.int p3), .val (.long q4), .second, .val (.int (1 : Int32)), .val (.int (1 : Int32)), .val (.int (((p0.toUInt32 >>> ((2 : Int32) &&& 31).toUInt32).toInt32) &&& (3 : Int32))), .val (.int (p1.toInt8.toInt32)), .val (.int (p2.toInt8.toInt32)), .val (.int (p3.toInt8.toInt32)), .val .null, .val (.ref hh), .unset, .unset, .unset] [(.int ((p2 ^^^ (119 : Int32)).toInt8.toInt32)), (.int (1 : Int32)), (.ref hh)])) rfl rfl (hb hby at_125)
      have Hh_hh_259 : Arh Z h259 hh k255 .byte (32 : Int32) [((1 : Int32), (.int (nar .byte ((p2 ^^^ (119 : Int32)).toInt8.toInt32)))), ((0 : Int32), (.int (nar .byte ((p1 ^^^ (51 : Int32)).toInt8.toInt32))))] [] (.int (0 : Int32)) := Arh.push Ar259 qc259 Sz259 Mn259 Hs259 Gs259 (fits_nar_byte _) W259 hin259
      have Od_259 := Od_257.wr W259 g_hh
      have Ex255_259 := Ex255_257.wr W259
      have Z_259 : n0 ≤ h259.size := Nat.le_trans Z_257 (Keep.of_wr W259).1
      have N259 := Fr.snoc X259 N257 g_hh
      obtain ⟨T260, h260, X260, e260, E260, A260, D260, -, st260⟩ := newO X259 hx hZ hown (hw _ (List.mem_of_getElem? (i := 1) rfl)) (hw _ (List.mem_of_getElem? (i := 2) rfl)) (hw _ (List.mem_of_getElem? (i := 3) rfl)) e259 (g := (mkF m 126 #[.val (.int p0), .val (.int p1), .val (.int p2), .val (.int p3), .val (.long q4), .second, .val (.int (1 : Int32)), .val (.int (1 : Int32)), .val (.int (((p0.toUInt32 >>> ((2 : Int32) &&& 31).toUInt32).toInt32) &&& (3 : Int32))), .val (.int (p1.toInt8.toInt32)), .val (.int (p2.toInt8.toInt32)), .val (.int (p3.toInt8.toInt32)), .val .null, .val (.ref hh), .unset, .unset, .unset] [])) rfl (hb hby at_126) (by decide) (by decide)
      obtain ⟨d, g260⟩ : ∃ z, z = h259.size := ⟨_, rfl⟩
      rw [← g260] at A260 D260 st260
      have g_d : n0 ≤ d := Nat.le_trans Z_259 (Nat.le_of_eq g260.symm)
      have ne_hh_d : hh ≠ d := Nat.ne_of_lt (Nat.lt_of_lt_of_le Ex255_259.lt (Nat.le_of_eq g260.symm))
      have Od_260 := Od_259.ext E260
      have Ex255_260 := Ex255_259.ext E260
      have Hh_hh_260 := Hh_hh_259.ext E260
      have Z_260 : n0 ≤ h260.size := Nat.le_trans Z_259 E260.1
      have E_d : Exa Z h260 d "com/example/imprimatur/imprimatur/verify/DeviceValues" := A260
      have F_pkHash_d : Fld Z h260 d "com/example/imprimatur/imprimatur/verify/DeviceValues" "pkHash" "[B" .null := D260 (Or.inr (hw _ (List.mem_of_getElem? (i := 31) rfl))) (ty := (.array .byte)) (by decide)
      have F_hwId_d : Fld Z h260 d "com/example/imprimatur/imprimatur/verify/DeviceValues" "hwId" "Ljava/lang/Long;" .null := D260 (Or.inr (hw _ (List.mem_of_getElem? (i := 33) rfl))) (ty := (.object "java/lang/Long")) (by decide)
      have F_swId_d : Fld Z h260 d "com/example/imprimatur/imprimatur/verify/DeviceValues" "swId" "Ljava/lang/Long;" .null := D260 (Or.inr (hw _ (List.mem_of_getElem? (i := 35) rfl))) (ty := (.object "java/lang/Long")) (by decide)
      have F_publicKey_d : Fld Z h260 d "com/example/imprimatur/imprimatur/verify/DeviceValues" "publicKey" "[B" .null := D260 (Or.inr (hw _ (List.mem_of_getElem? (i := 46) rfl))) (ty := (.array .byte)) (by decide)
      have st261 : ∀ target, Steps p.tables e below (T260.setTop (mkF m 134 #[.val (.int p0), .val (.int p1), .val (.int p2), .val (.int p3), .val (.long q4), .second, .val (.int (1 : Int32)), .val (.int (1 : Int32)), .val (.int (((p0.toUInt32 >>> ((2 : Int32) &&& 31).toUInt32).toInt32) &&& (3 : Int32))), .val (.int (p1.toInt8.toInt32)), .val (.int (p2.toInt8.toInt32)), .val (.int (p3.toInt8.toInt32)), .val .null, .val (.ref hh), .unset, .unset, .unset] [(.long q4), (.ref hh), (.ref d), (.ref d)])) target → Steps p.tables e below (T260.setTop (mkF m 129 #[.val (.int p0), .val (.int p1), .val (.int p2), .val (.int p3), .val (.long q4), .second, .val (.int (1 : Int32)), .val (.int (1 : Int32)), .val (.int (((p0.toUInt32 >>> ((2 : Int32) &&& 31).toUInt32).toInt32) &&& (3 : Int32))), .val (.int (p1.toInt8.toInt32)), .val (.int (p2.toInt8.toInt32)), .val (.int (p3.toInt8.toInt32)), .val .null, .val (.ref hh), .unset, .unset, .unset] [(.ref d)])) target := by
        intro target kt
        show Steps p.tables e below (T260.setTop (mkF m 129 #[.val (.int p0), .val (.int p1), .val (.int p2), .val (.int p3), .val (.long q4), .second, .val (.int (1 : Int32)), .val (.int (1 : Int32)), .val (.int (((p0.toUInt32 >>> ((2 : Int32) &&& 31).toUInt32).toInt32) &&& (3 : Int32))), .val (.int (p1.toInt8.toInt32)), .val (.int (p2.toInt8.toInt32)), .val (.int (p3.toInt8.toInt32)), .val .null, .val (.ref hh), .unset, .unset, .unset] [(.ref d)])) _
        refine XS.dup X260.here hx rfl (hb hby at_129) rfl rfl ?_
        show Steps p.tables e below (T260.setTop (mkF m 130 #[.val (.int p0), .val (.int p1), .val (.int p2), .val (.int p3), .val (.long q4), .second, .val (.int (1 : Int32)), .val (.int (1 : Int32)), .val (.int (((p0.toUInt32 >>> ((2 : Int32) &&& 31).toUInt32).toInt32) &&& (3 : Int32))), .val (.int (p1.toInt8.toInt32)), .val (.int (p2.toInt8.toInt32)), .val (.int (p3.toInt8.toInt32)), .val .null, .val (.ref hh), .unset, .unset, .unset] [(.ref d), (.ref d)])) _
        refine XS.aload X260.here hx rfl (hb hby at_130) rfl rfl ?_
        show Steps p.tables e below (T260.setTop (mkF m 132 #[.val (.int p0), .val (.int p1), .val (.int p2), .val (.int p3), .val (.long q4), .second, .val (.int (1 : Int32)), .val (.int (1 : Int32)), .val (.int (((p0.toUInt32 >>> ((2 : Int32) &&& 31).toUInt32).toInt32) &&& (3 : Int32))), .val (.int (p1.toInt8.toInt32)), .val (.int (p2.toInt8.toInt32)), .val (.int (p3.toInt8.toInt32)), .val .null, .val (.ref hh), .unset, .unset, .unset] [(.ref hh), (.ref d), (.ref d)])) _
        refine XS.lload X260.here hx rfl (hb hby at_132) rfl ?_
        exact kt
      obtain ⟨_, _, ⟨T262, L262, k262, n262⟩, -, X262, ⟨Lc262, hQ262, l262, y262, z262⟩, st262⟩ := Jvm.LawKit.callS X260 hx (y := (⟨"java/lang/Long", "valueOf", "(J)Ljava/lang/Long;"⟩ : MethodName)) hown (mvT hZ (hw _ (List.mem_of_getElem? (i := 4) rfl))) (mvT hZ (hw _ (List.mem_of_getElem? (i := 5) rfl))) (mvT hZ (hw _ (List.mem_of_getElem? (i := 6) rfl))) (mvT hZ (hw _ (List.mem_of_getElem? (i := 7) rfl))) (by decide) (backOf (W := 3) (rm1 l Z a0 hw [] q4 ca cc val h260 n0 Z_260 Bx Od_260 S_c) hZ (hw _ (List.mem_of_getElem? (i := 7) rfl)) (hw _ (List.mem_of_getElem? (i := 6) rfl)) (by decide) (by decide)) (g := (mkF m 134 #[.val (.int p0), .val (.int p1), .val (.int p2), .val (.int p3), .val (.long q4), .second, .val (.int (1 : Int32)), .val (.int (1 : Int32)), .val (.int (((p0.toUInt32 >>> ((2 : Int32) &&& 31).toUInt32).toInt32) &&& (3 : Int32))), .val (.int (p1.toInt8.toInt32)), .val (.int (p2.toInt8.toInt32)), .val (.int (p3.toInt8.toInt32)), .val .null, .val (.ref hh), .unset, .unset, .unset] [(.long q4), (.ref hh), (.ref d), (.ref d)])) rfl (by rw [hml]; rfl) (argsL := [(.long q4)]) (rest := [(.ref hh), (.ref d), (.ref d)]) (lenOf pd_0 rfl) rfl (by show 2 * 0 + _ ≤ _; exact Nat.le_of_eq rfl) (hb hby at_134) (fun _ _ => ⟨rfl, e260, (by decide : 2 + 1 ≤ _), (by decide : 36 + 1 ≤ _)⟩)
      dsimp only [Pt.U, Pt.locs, Pt.cells, Pt.slots] at X262 l262 y262 z262 st262 hQ262
      subst l262 y262 z262
      obtain ⟨t262, rfl, Nq262, K262, Et262⟩ := hQ262
      have N262 := Fr.app N259 Nq262
      have Od_262 := Od_260.keep K262 (all0)
      have Ex255_262 := Ex255_260.keep K262
      have Hh_hh_262 := Hh_hh_260.keep K262 nin0
      have E_d_262 := E_d.keep K262
      have F_pkHash_d_262 := F_pkHash_d.keep K262 nin0
      have F_hwId_d_262 := F_hwId_d.keep K262 nin0
      have F_swId_d_262 := F_swId_d.keep K262 nin0
      have F_publicKey_d_262 := F_publicKey_d.keep K262 nin0
      have Z_262 : n0 ≤ T262.heap.size := Nat.le_trans Z_260 K262.1
      have st263 : ∀ target, Steps p.tables e below (T262.setTop (mkF m 140 #[.val (.int p0), .val (.int p1), .val (.int p2), .val (.int p3), .val (.long q4), .second, .val (.int (1 : Int32)), .val (.int (1 : Int32)), .val (.int (((p0.toUInt32 >>> ((2 : Int32) &&& 31).toUInt32).toInt32) &&& (3 : Int32))), .val (.int (p1.toInt8.toInt32)), .val (.int (p2.toInt8.toInt32)), .val (.int (p3.toInt8.toInt32)), .val .null, .val (.ref hh), .unset, .unset, .unset] [.null, .null, (.ref t262), (.ref hh), (.ref d), (.ref d)])) target → Steps p.tables e below (T262.setTop (mkF m 137 #[.val (.int p0), .val (.int p1), .val (.int p2), .val (.int p3), .val (.long q4), .second, .val (.int (1 : Int32)), .val (.int (1 : Int32)), .val (.int (((p0.toUInt32 >>> ((2 : Int32) &&& 31).toUInt32).toInt32) &&& (3 : Int32))), .val (.int (p1.toInt8.toInt32)), .val (.int (p2.toInt8.toInt32)), .val (.int (p3.toInt8.toInt32)), .val .null, .val (.ref hh), .unset, .unset, .unset] [(.ref t262), (.ref hh), (.ref d), (.ref d)])) target := by
        intro target kt
        show Steps p.tables e below (T262.setTop (mkF m 137 #[.val (.int p0), .val (.int p1), .val (.int p2), .val (.int p3), .val (.long q4), .second, .val (.int (1 : Int32)), .val (.int (1 : Int32)), .val (.int (((p0.toUInt32 >>> ((2 : Int32) &&& 31).toUInt32).toInt32) &&& (3 : Int32))), .val (.int (p1.toInt8.toInt32)), .val (.int (p2.toInt8.toInt32)), .val (.int (p3.toInt8.toInt32)), .val .null, .val (.ref hh), .unset, .unset, .unset] [(.ref t262), (.ref hh), (.ref d), (.ref d)])) _
        refine XS.aconstNull X262.here hx rfl (hb hby at_137) ?_
        show Steps p.tables e below (T262.setTop (mkF m 138 #[.val (.int p0), .val (.int p1), .val (.int p2), .val (.int p3), .val (.long q4), .second, .val (.int (1 : Int32)), .val (.int (1 : Int32)), .val (.int (((p0.toUInt32 >>> ((2 : Int32) &&& 31).toUInt32).toInt32) &&& (3 : Int32))), .val (.int (p1.toInt8.toInt32)), .val (.int (p2.toInt8.toInt32)), .val (.int (p3.toInt8.toInt32)), .val .null, .val (.ref hh), .unset, .unset, .unset] [.null, (.ref t262), (.ref hh), (.ref d), (.ref d)])) _
        refine XS.aload X262.here hx rfl (hb hby at_138) rfl rfl ?_
        exact kt
      obtain ⟨_, _, ⟨T264, L264, k264, n264⟩, -, X264, ⟨Lc264, hQ264, l264, y264, z264⟩, st264⟩ := X262.specialBack hx (y := (⟨"com/example/imprimatur/imprimatur/verify/DeviceValues", "<init>", "([BLjava/lang/Long;Ljava/lang/Long;[B)V"⟩ : MethodName)) rfl hown (mvT hZ (hw _ (List.mem_of_getElem? (i := 26) rfl))) (mvT hZ (hw _ (List.mem_of_getElem? (i := 27) rfl))) (mvT hZ (hw _ (List.mem_of_getElem? (i := 28) rfl))) (by decide) (backOf (W := 1) (rmI10 l Z a0 hw [] d hh t262 k255 [((1 : Int32), (.int (nar .byte ((p2 ^^^ (119 : Int32)).toInt8.toInt32)))), ((0 : Int32), (.int (nar .byte ((p1 ^^^ (51 : Int32)).toInt8.toInt32))))] T262.heap n0 Z_262 F_pkHash_d_262 F_hwId_d_262 F_swId_d_262 F_publicKey_d_262 E_d_262 g_d Hh_hh_262 Ex255_262 (Ne.symm ne_hh_d)) hZ (hw _ (List.mem_of_getElem? (i := 28) rfl)) (hw _ (List.mem_of_getElem? (i := 3) rfl)) (by decide) (by decide)) (g := (mkF m 140 #[.val (.int p0), .val (.int p1), .val (.int p2), .val (.int p3), .val (.long q4), .second, .val (.int (1 : Int32)), .val (.int (1 : Int32)), .val (.int (((p0.toUInt32 >>> ((2 : Int32) &&& 31).toUInt32).toInt32) &&& (3 : Int32))), .val (.int (p1.toInt8.toInt32)), .val (.int (p2.toInt8.toInt32)), .val (.int (p3.toInt8.toInt32)), .val .null, .val (.ref hh), .unset, .unset, .unset] [.null, .null, (.ref t262), (.ref hh), (.ref d), (.ref d)])) rfl (by rw [hml]; rfl) (Steps.refl _) (a := d) (argsL := [(.ref hh), (.ref t262), .null, .null]) (rest := [(.ref d)]) (lenOf pd_3 rfl) rfl (by show 2 * 0 + _ ≤ _; exact Nat.le_of_eq rfl) (hb hby at_140) (fun _ _ => ⟨rfl, rfl, (by decide : 3 + 1 ≤ _), (by decide : 37 + 32 ≤ _)⟩)
      dsimp only [Pt.U, Pt.locs, Pt.cells, Pt.slots] at X264 l264 y264 z264 st264 hQ264
      subst l264 y264 z264
      obtain ⟨rfl, Nq264, K264, Ed, Fp⟩ := hQ264
      have N264 := Fr.app N262 Nq264
      have Od_264 := Od_262.keep K264 (allS g_d (all0))
      have Ex255_264 := Ex255_262.keep K264
      have Hh_hh_264 := Hh_hh_262.keep K264 (ninS ne_hh_d nin0)
      have E_d_264 := E_d_262.keep K264
      have Et262_264 := Et262.keep K264
      have Z_264 : n0 ≤ T264.heap.size := Nat.le_trans Z_262 K264.1
      have st265 : ∀ target, Steps p.tables e below (T264.setTop (mkF m 169 #[.val (.int p0), .val (.int p1), .val (.int p2), .val (.int p3), .val (.long q4), .second, .val (.int (1 : Int32)), .val (.int (1 : Int32)), .val (.int (((p0.toUInt32 >>> ((2 : Int32) &&& 31).toUInt32).toInt32) &&& (3 : Int32))), .val (.int (p1.toInt8.toInt32)), .val (.int (p2.toInt8.toInt32)), .val (.int (p3.toInt8.toInt32)), .val .null, .val (.ref hh), .val (.ref d), .unset, .unset] [(.ref d)])) target → Steps p.tables e below (T264.setTop (mkF m 143 #[.val (.int p0), .val (.int p1), .val (.int p2), .val (.int p3), .val (.long q4), .second, .val (.int (1 : Int32)), .val (.int (1 : Int32)), .val (.int (((p0.toUInt32 >>> ((2 : Int32) &&& 31).toUInt32).toInt32) &&& (3 : Int32))), .val (.int (p1.toInt8.toInt32)), .val (.int (p2.toInt8.toInt32)), .val (.int (p3.toInt8.toInt32)), .val .null, .val (.ref hh), .unset, .unset, .unset] [(.ref d)])) target := by
        intro target kt
        show Steps p.tables e below (T264.setTop (mkF m 143 #[.val (.int p0), .val (.int p1), .val (.int p2), .val (.int p3), .val (.long q4), .second, .val (.int (1 : Int32)), .val (.int (1 : Int32)), .val (.int (((p0.toUInt32 >>> ((2 : Int32) &&& 31).toUInt32).toInt32) &&& (3 : Int32))), .val (.int (p1.toInt8.toInt32)), .val (.int (p2.toInt8.toInt32)), .val (.int (p3.toInt8.toInt32)), .val .null, .val (.ref hh), .unset, .unset, .unset] [(.ref d)])) _
        refine XS.astore X264.here hx rfl (hb hby at_143) rfl rfl (l' := #[.val (.int p0), .val (.int p1), .val (.int p2), .val (.int p3), .val (.long q4), .second, .val (.int (1 : Int32)), .val (.int (1 : Int32)), .val (.int (((p0.toUInt32 >>> ((2 : Int32) &&& 31).toUInt32).toInt32) &&& (3 : Int32))), .val (.int (p1.toInt8.toInt32)), .val (.int (p2.toInt8.toInt32)), .val (.int (p3.toInt8.toInt32)), .val .null, .val (.ref hh), .val (.ref d), .unset, .unset]) rfl ?_
        show Steps p.tables e below (T264.setTop (mkF m 145 #[.val (.int p0), .val (.int p1), .val (.int p2), .val (.int p3), .val (.long q4), .second, .val (.int (1 : Int32)), .val (.int (1 : Int32)), .val (.int (((p0.toUInt32 >>> ((2 : Int32) &&& 31).toUInt32).toInt32) &&& (3 : Int32))), .val (.int (p1.toInt8.toInt32)), .val (.int (p2.toInt8.toInt32)), .val (.int (p3.toInt8.toInt32)), .val .null, .val (.ref hh), .val (.ref d), .unset, .unset] [])) _
        refine XS.aload X264.here hx rfl (hb hby at_145) rfl rfl ?_
        show Steps p.tables e below (T264.setTop (mkF m 147 #[.val (.int p0), .val (.int p1), .val (.int p2), .val (.int p3), .val (.long q4), .second, .val (.int (1 : Int32)), .val (.int (1 : Int32)), .val (.int (((p0.toUInt32 >>> ((2 : Int32) &&& 31).toUInt32).toInt32) &&& (3 : Int32))), .val (.int (p1.toInt8.toInt32)), .val (.int (p2.toInt8.toInt32)), .val (.int (p3.toInt8.toInt32)), .val .null, .val (.ref hh), .val (.ref d), .unset, .unset] [.null])) _
        refine XS.ifnullYes X264.here hx rfl (pc0 := 147) (pc' := 167) rfl (hb hby at_147) rfl (by decide) (by decide) ?_
        show Steps p.tables e below (T264.setTop (mkF m 167 #[.val (.int p0), .val (.int p1), .val (.int p2), .val (.int p3), .val (.long q4), .second, .val (.int (1 : Int32)), .val (.int (1 : Int32)), .val (.int (((p0.toUInt32 >>> ((2 : Int32) &&& 31).toUInt32).toInt32) &&& (3 : Int32))), .val (.int (p1.toInt8.toInt32)), .val (.int (p2.toInt8.toInt32)), .val (.int (p3.toInt8.toInt32)), .val .null, .val (.ref hh), .val (.ref d), .unset, .unset] [])) _
        refine XS.aload X264.here hx rfl (hb hby at_167) rfl rfl ?_
        exact kt
      obtain ⟨cq266, kq266, qv266a, qv266b, qv266c⟩ := isOf hZ rfl Ed
      obtain ⟨_, _, ⟨T266, L266, k266, n266⟩, -, X266, ⟨Lc266, hQ266, l266, y266, z266⟩, st266⟩ := X264.virtualBack hx (y := (⟨"com/example/imprimatur/imprimatur/verify/DeviceValues", "publicKey", "()[B"⟩ : MethodName)) (z := (⟨"com/example/imprimatur/imprimatur/verify/DeviceValues", "publicKey", "()[B"⟩ : MethodName)) hown (mvT hZ (hw _ (List.mem_of_getElem? (i := 47) rfl))) (mvT hZ (hw _ (List.mem_of_getElem? (i := 48) rfl))) (notFace_of_selects (args := #[]) (mvT hZ (hw _ (List.mem_of_getElem? (i := 50) rfl)))) (mvT hZ (hw _ (List.mem_of_getElem? (i := 50) rfl))) (mvT hZ (hw _ (List.mem_of_getElem? (i := 49) rfl))) (by decide) (backOf (W := 0) (rmN_publicKey l Z a0 hw [] d  T264.heap n0 Z_264 Fp) hZ (hw _ (List.mem_of_getElem? (i := 51) rfl)) (hw _ (List.mem_of_getElem? (i := 3) rfl)) (by decide) (by decide)) qv266a qv266c (g := (mkF m 169 #[.val (.int p0), .val (.int p1), .val (.int p2), .val (.int p3), .val (.long q4), .second, .val (.int (1 : Int32)), .val (.int (1 : Int32)), .val (.int (((p0.toUInt32 >>> ((2 : Int32) &&& 31).toUInt32).toInt32) &&& (3 : Int32))), .val (.int (p1.toInt8.toInt32)), .val (.int (p2.toInt8.toInt32)), .val (.int (p3.toInt8.toInt32)), .val .null, .val (.ref hh), .val (.ref d), .unset, .unset] [(.ref d)])) rfl (by rw [hml]; rfl) (Steps.refl _) (argsL := []) (rest := []) (lenOf pd_5 rfl) rfl (by show 2 * 0 + _ ≤ _; exact Nat.le_of_eq rfl) (hb hby at_169) (fun _ _ => ⟨rfl, rfl, (by decide : 4 + 0 ≤ _), (by decide : 69 + 0 ≤ _)⟩)
      dsimp only [Pt.U, Pt.locs, Pt.cells, Pt.slots] at X266 l266 y266 z266 st266 hQ266
      subst l266 y266 z266
      obtain ⟨rfl, Nq266, e266⟩ := hQ266
      have N266 := Fr.app N264 Nq266
      obtain ⟨fs, hr, hrun, hended, hW, hsame⟩ := X266.leave (v := some (.int (1 : Int32))) (fun h => by rw [Bd.returns] at h; cases h)
      refine ⟨_, _, pre0 _ (st1 _ (st242 _ (st243 _ (st253 _ (st254 _ (st255 _ (st256 _ (st257 _ (st258 _ (st259 _ (st260 _ (st261 _ (st262 _ (st263 _ (st264.trans (st265 _ (st266.trans ?_))))))))))))))))), hrun, hended, _, _, rfl, ?_, ⟨_, rfl⟩, hW, hsame.mono (by decide) (by decide)⟩
      · show Steps p.tables e below (T266.setTop (mkF m 172 #[.val (.int p0), .val (.int p1), .val (.int p2), .val (.int p3), .val (.long q4), .second, .val (.int (1 : Int32)), .val (.int (1 : Int32)), .val (.int (((p0.toUInt32 >>> ((2 : Int32) &&& 31).toUInt32).toInt32) &&& (3 : Int32))), .val (.int (p1.toInt8.toInt32)), .val (.int (p2.toInt8.toInt32)), .val (.int (p3.toInt8.toInt32)), .val .null, .val (.ref hh), .val (.ref d), .unset, .unset] [.null])) _
        refine XS.astore X266.here hx rfl (hb hby at_172) rfl rfl (l' := #[.val (.int p0), .val (.int p1), .val (.int p2), .val (.int p3), .val (.long q4), .second, .val (.int (1 : Int32)), .val (.int (1 : Int32)), .val (.int (((p0.toUInt32 >>> ((2 : Int32) &&& 31).toUInt32).toInt32) &&& (3 : Int32))), .val (.int (p1.toInt8.toInt32)), .val (.int (p2.toInt8.toInt32)), .val (.int (p3.toInt8.toInt32)), .val .null, .val (.ref hh), .val (.ref d), .val .null, .unset]) rfl ?_
        show Steps p.tables e below (T266.setTop (mkF m 174 #[.val (.int p0), .val (.int p1), .val (.int p2), .val (.int p3), .val (.long q4), .second, .val (.int (1 : Int32)), .val (.int (1 : Int32)), .val (.int (((p0.toUInt32 >>> ((2 : Int32) &&& 31).toUInt32).toInt32) &&& (3 : Int32))), .val (.int (p1.toInt8.toInt32)), .val (.int (p2.toInt8.toInt32)), .val (.int (p3.toInt8.toInt32)), .val .null, .val (.ref hh), .val (.ref d), .val .null, .unset] [])) _
        refine XS.iload X266.here hx rfl (hb hby at_174) rfl ?_
        show Steps p.tables e below (T266.setTop (mkF m 176 #[.val (.int p0), .val (.int p1), .val (.int p2), .val (.int p3), .val (.long q4), .second, .val (.int (1 : Int32)), .val (.int (1 : Int32)), .val (.int (((p0.toUInt32 >>> ((2 : Int32) &&& 31).toUInt32).toInt32) &&& (3 : Int32))), .val (.int (p1.toInt8.toInt32)), .val (.int (p2.toInt8.toInt32)), .val (.int (p3.toInt8.toInt32)), .val .null, .val (.ref hh), .val (.ref d), .val .null, .unset] [(.int (1 : Int32))])) _
        refine XS.ifNo X266.here hx rfl (hb hby at_176) rfl ((if0 _ _).trans (feq (by decide : ¬ ((1 : Int32) = (0 : Int32)))).1) ?_
        show Steps p.tables e below (T266.setTop (mkF m 179 #[.val (.int p0), .val (.int p1), .val (.int p2), .val (.int p3), .val (.long q4), .second, .val (.int (1 : Int32)), .val (.int (1 : Int32)), .val (.int (((p0.toUInt32 >>> ((2 : Int32) &&& 31).toUInt32).toInt32) &&& (3 : Int32))), .val (.int (p1.toInt8.toInt32)), .val (.int (p2.toInt8.toInt32)), .val (.int (p3.toInt8.toInt32)), .val .null, .val (.ref hh), .val (.ref d), .val .null, .unset] [])) _
        refine XS.aload X266.here hx rfl (hb hby at_179) rfl rfl ?_
        show Steps p.tables e below (T266.setTop (mkF m 181 #[.val (.int p0), .val (.int p1), .val (.int p2), .val (.int p3), .val (.long q4), .second, .val (.int (1 : Int32)), .val (.int (1 : Int32)), .val (.int (((p0.toUInt32 >>> ((2 : Int32) &&& 31).toUInt32).toInt32) &&& (3 : Int32))), .val (.int (p1.toInt8.toInt32)), .val (.int (p2.toInt8.toInt32)), .val (.int (p3.toInt8.toInt32)), .val .null, .val (.ref hh), .val (.ref d), .val .null, .unset] [.null])) _
        refine XS.ifnonnullNo X266.here hx rfl (hb hby at_181) rfl ?_
        show Steps p.tables e below (T266.setTop (mkF m 184 #[.val (.int p0), .val (.int p1), .val (.int p2), .val (.int p3), .val (.long q4), .second, .val (.int (1 : Int32)), .val (.int (1 : Int32)), .val (.int (((p0.toUInt32 >>> ((2 : Int32) &&& 31).toUInt32).toInt32) &&& (3 : Int32))), .val (.int (p1.toInt8.toInt32)), .val (.int (p2.toInt8.toInt32)), .val (.int (p3.toInt8.toInt32)), .val .null, .val (.ref hh), .val (.ref d), .val .null, .unset] [])) _
        refine XS.iconst X266.here hx rfl (hb hby at_184) ?_
        show Steps p.tables e below (T266.setTop (mkF m 185 #[.val (.int p0), .val (.int p1), .val (.int p2), .val (.int p3), .val (.long q4), .second, .val (.int (1 : Int32)), .val (.int (1 : Int32)), .val (.int (((p0.toUInt32 >>> ((2 : Int32) &&& 31).toUInt32).toInt32) &&& (3 : Int32))), .val (.int (p1.toInt8.toInt32)), .val (.int (p2.toInt8.toInt32)), .val (.int (p3.toInt8.toInt32)), .val .null, .val (.ref hh), .val (.ref d), .val .null, .unset] [(.int (1 : Int32))])) _
        refine XS.goto X266.here hx rfl (pc0 := 185) (pc' := 189) rfl (hb hby at_185) (by decide) (by decide) ?_
        show Steps p.tables e below (T266.setTop (mkF m 189 #[.val (.int p0), .val (.int p1), .val (.int p2), .val (.int p3), .val (.long q4), .second, .val (.int (1 : Int32)), .val (.int (1 : Int32)), .val (.int (((p0.toUInt32 >>> ((2 : Int32) &&& 31).toUInt32).toInt32) &&& (3 : Int32))), .val (.int (p1.toInt8.toInt32)), .val (.int (p2.toInt8.toInt32)), .val (.int (p3.toInt8.toInt32)), .val .null, .val (.ref hh), .val (.ref d), .val .null, .unset] [(.int (1 : Int32))])) _
        exact retN X266 hx (t := .boolean) Bd.returns (by simp) (hb hby at_189) hr
      · show Q_rm0 Z p0 p1 p2 p3 q4 ca cc val h0 n0 _ T266.heap _
        rw [e266]
        exact ⟨rfl, N266⟩
set_option maxRecDepth 65536 in
set_option maxHeartbeats 40000000 in
theorem comes_1 {Post : Tables → Env → Array Value → State → Outcome → State → Prop} (hpost : ∀ tb e args s v u, (limb_1_1.after args s (.returned v) u = true ∧ limb_1_2.after args s (.returned v) u = true ∧ True) → FrameEnd s (.returned v) u (Jvm.fieldLocs frame_1_writes args s ++ Jvm.arrayLocs frame_1_arrays args s ++ Jvm.staticLocs frame_1_statics s) 24 256 → Post tb e args s (.returned v) u) :
    ArmFor flags0 classFile x code maxLocals ret World_1 tables_1 room_1 Calls_1 rest_1 Pre_1 Post := by
  intro l hfl _ _ p e ha hc hk s m args below hf hA hF happ hP
  obtain ⟨hcalls, hrest, hpre⟩ := hP
  obtain ⟨-, -, -, hnamed, -, -, -, hat⟩ := (Spec.applies_iff hf).mp happ
  obtain ⟨hg, hn⟩ := and_e (Cond.before_iff.mp (show (Jvm.Cond.and given_1 narrow_1).before args s = true from hpre))
  obtain ⟨gg1, gg2⟩ := and_e hg
  obtain ⟨gg3, gg4⟩ := and_e gg2
  obtain ⟨gg5, gg6⟩ := and_e gg4
  obtain ⟨gg7, gg8⟩ := and_e gg6
  obtain ⟨gg9, gg10⟩ := and_e gg8
  obtain ⟨w0, w1, w2, w3, w4, rfl⟩ : ∃ w0 w1 w2 w3 w4 : Value, args = #[w0, w1, w2, w3, w4] := by
    have hs : args.size = 5 := by simpa [Cond.value, given_1] using gg1
    obtain ⟨L⟩ := args
    match L, hs with
    | [w0, w1, w2, w3, w4], _ => exact ⟨w0, w1, w2, w3, w4, rfl⟩
  have hw := fun d (hd : d ∈ tables_1) => atoms_spec (ws := Jvm.Cond.code x code maxLocals ret :: tables_1) hat d (List.mem_cons_of_mem _ hd)
  have hfit : Fit s := fun {y c} hc i hi => by
    obtain ⟨ha, rfl⟩ := Array.getElem?_eq_some_iff.mp hc
    have q := List.all_eq_true.mp ((Array.all_eq_true_iff_forall_mem.mp hF) _ (Array.getElem_mem ha)) i (List.mem_range.mpr hi)
    simpa [Array.getElem?_eq_getElem hi] using q
  obtain ⟨hsets, hown0⟩ := atoms_of _ (rest_1_c_eq ▸ (show rest_1_c.before _ s = true from hrest))
  have hr0 := Cond.before_iff.mp hown0
  obtain ⟨i0, ei0⟩ := is_v gg3
  obtain rfl : w0 = (.int i0) := Option.some.inj ei0
  obtain ⟨i1, ei1⟩ := is_v gg5
  obtain rfl : w1 = (.int i1) := Option.some.inj ei1
  obtain ⟨i2, ei2⟩ := is_v gg7
  obtain rfl : w2 = (.int i2) := Option.some.inj ei2
  obtain ⟨i3, ei3⟩ := is_v gg9
  obtain rfl : w3 = (.int i3) := Option.some.inj ei3
  obtain ⟨i4, ei4⟩ := isL_v gg10
  obtain rfl : w4 = (.long i4) := Option.some.inj ei4
  obtain ⟨ca, ev_c⟩ := exa_v (Cond.before_iff.mp (hsets _ (List.mem_of_getElem? (i := 3) rfl)))
  have S_c : Sta s s.heap "java/lang/Long$LongCache" "cache" "[Ljava/lang/Long;" (.ref ca) := Sta.start ev_c (Or.inl (hsets _ (List.mem_of_getElem? (i := 1) rfl)))
  obtain ⟨cc, Ac⟩ := Arr.start ev_c (Cond.before_iff.mp (hsets _ (List.mem_of_getElem? (i := 2) rfl)))
  have el := eqv_i (Term.int_eval (256 : Int32)) (Cond.before_iff.mp (hsets _ (List.mem_of_getElem? (i := 4) rfl)))
  have q31 := own_len ev_c (Ac.fin (Vm.Alike.refl _)) el
  obtain ⟨ca', cc', u1, u2, u3⟩ := Term.length_spec el
  cases ev_c.symm.trans u1
  cases (Ac.fin (Vm.Alike.refl _)).symm.trans u2
  have e256 : cc.slots.size.toInt32 = 256 := (Value.int.inj u3).symm
  have Bx : Bxs s ca cc "java/lang/Long" "J" (256 : Int32) (fun j => .long (j - (128 : Int32)).toInt64) := Bxs.start (fun _ => ev_c) Ac q31 e256 (by decide) (Cond.before_iff.mp (hsets _ (List.mem_of_getElem? (i := 5) rfl))) (fun X j nn hh => eqv_l (i2l_at (Term.sub_int (idx_at nn) (Term.int_eval _))) hh)
  obtain ⟨n, o, h1, h2, h3, _, L, rfl, ⟨rfl, N⟩, hq⟩ := rm0 l s _ hw tables_1 i0 i1 i2 i3 i4 ca cc _ s.heap s.heap.size (Nat.le_refl _) Bx (Old.start s) S_c p e ha hc hk s m _ below hf ((Spec.applies_iff_loose hf).mp happ).1 ⟨rfl, State.Warmed39.refl s, rfl⟩ trivial
  refine ⟨n, _, h1, h2, h3, hpost _ _ _ _ _ _ ⟨Cond.after_iff.mpr rfl, Cond.after_iff.mpr (eq_i res_at (Term.int_eval (1)) rfl), trivial⟩ ⟨hq.1, hq.2.1, (hq.2.2.sift fun y hy => Or.inr (N y hy)).mono (by decide) (by decide)⟩⟩
theorem main_1_1 : Claimed_1_1 := comes_1 fun _ _ _ _ _ _ h hF => ⟨h.1, hF⟩
theorem main_1_2 : Claimed_1_2 := comes_1 fun _ _ _ _ _ _ h hF => ⟨h.2.1, hF⟩
end Jvm.Pilot.@@N@@
namespace Jvm.Pilot.@@N@@
open Jvm Jvm.ClassFile Sem Op Lib Jvm.Free Jvm.Stand Jvm.Pilot.@@N@@.Jvm.D
/-! MADE BY PROGRAM (witnessworld.py) out of the Statement's table words and the real class files: 16 classes; the members and pool entries that the words name. The judged class is class 1, her method 2. -/
namespace start1
open Jvm.ClassFile
def u (s : String) : CpInfo := .utf8 (stringToUtf16 s)
/-- a pool by its gaps: so many unusable entries, then the entry; so many at the end -/
def gap : Nat → List CpInfo → List CpInfo
  | 0, r => r
  | n + 1, r => .unusable :: gap n r
def poolList (es : List (Nat × CpInfo)) (last : Nat) : List CpInfo := es.foldr (fun e r => gap e.1 (e.2 :: r)) (gap last [])
def pool (es : List (Nat × CpInfo)) (last : Nat) : Array CpInfo := ⟨poolList es last⟩
def fileOf (pool : Array CpInfo) (this : Nat) (attrs : Array Attribute := #[]) (ms : Array MethodInfo := #[]) (fl : Nat := 33) (sup : Nat := 0) (ifs : Array Nat := #[]) (fds : Array FieldInfo := #[]) : ClassFile where
  minorVersion := 0
  majorVersion := 65
  constantPool := pool
  accessFlags := fl
  thisClass := this
  superClass := sup
  interfaces := ifs
  fields := fds
  methods := ms
  attributes := attrs
def plain (name : String) (sup : Option ClassId) : Class where
  name := name
  kind := .ordinary
  loader := none
  accessFlags := 33
  super := sup
  interfaces := #[]
  cf := none
  fields := #[]
  methods := #[]
  instanceTypes := #[]
  staticTypes := #[]
  resolved := #[]
  callSites := []
  init := .initialized
  statics := none
  mirror := none

def pool0 : Array CpInfo := pool [(5, u "<init>"), (0, u "()V"), (1, .class_ 10), (1, u "java/lang/Object"), (85, u "clone"), (0, u "()Ljava/lang/Object;")] 26

def k0c0 : Code := { maxStack := 0, maxLocals := 1, code := object_method_1_code, exceptionTable := #[], attributes := #[] }
def k0m0 : Method := { name := "<init>", desc := "()V", sig := { parameters := [], returnType := none }, accessFlags := 1, code := some k0c0 }
def k0m1 : Method := { name := "clone", desc := "()Ljava/lang/Object;", sig := { parameters := [], returnType := some (.object "java/lang/Object") }, accessFlags := 260, code := none }
/-- java/lang/Object -/
def k0 : Class := { plain "java/lang/Object" none with
  accessFlags := 33
  interfaces := #[]
  cf := some (fileOf pool0 8 #[] #[{ accessFlags := 1, nameIndex := 5, descriptorIndex := 6, attributes := #[] }, { accessFlags := 260, nameIndex := 96, descriptorIndex := 97, attributes := #[] }] 33 0 #[] #[])
  fields := #[]
  methods := #[k0m0, k0m1]
  instanceTypes := #[]
  staticTypes := #[]
  resolved := Array.replicate 124 none
  statics := none }

def pool1 : Array CpInfo := pool [(2, .class_ 4), (1, u "java/lang/Object"), (0, u "<init>"), (0, u "()V"), (0, .class_ 8), (0, u "com/example/imprimatur/imprimatur/verify/DeviceValues"), (0, .methodref 10 11), (0, .class_ 12), (0, .nameAndType 13 14), (0, u "java/lang/Long"), (0, u "valueOf"), (0, u "(J)Ljava/lang/Long;"), (0, .methodref 7 16), (0, .nameAndType 5 17), (0, u "([BLjava/lang/Long;Ljava/lang/Long;[B)V"), (0, .methodref 7 19), (0, .nameAndType 20 21), (0, u "publicKey"), (0, u "()[B"), (0, .methodref 23 24), (0, .class_ 25), (0, .nameAndType 26 27), (0, u "com/example/imprimatur/imprimatur/verify/DeviceValuesPublicKeyPinLaw"), (0, u "same"), (0, u "([BIBBB)Z"), (3, u "law"), (0, u "(IIIIJ)Z")] 4

def k1m0 : Method := { name := "<init>", desc := "()V", sig := { parameters := [], returnType := none }, accessFlags := 1, code := none }
def k1c1 : Code := { maxStack := 2, maxLocals := 5, code := method_2_code, exceptionTable := #[], attributes := #[] }
def k1m1 : Method := { name := "same", desc := "([BIBBB)Z", sig := { parameters := [(.array .byte), .int, .byte, .byte, .byte], returnType := some .boolean }, accessFlags := 10, code := some k1c1 }
def k1c2 : Code := { maxStack := 6, maxLocals := 17, code := code, exceptionTable := #[], attributes := #[] }
def k1m2 : Method := { name := "law", desc := "(IIIIJ)Z", sig := { parameters := [.int, .int, .int, .int, .long], returnType := some .boolean }, accessFlags := 9, code := some k1c2 }
/-- com/example/imprimatur/imprimatur/verify/DeviceValuesPublicKeyPinLaw -/
def k1 : Class := { plain "com/example/imprimatur/imprimatur/verify/DeviceValuesPublicKeyPinLaw" (some 0) with
  accessFlags := 49
  interfaces := #[]
  cf := some (fileOf pool1 23 #[] #[{ accessFlags := 1, nameIndex := 5, descriptorIndex := 6, attributes := #[] }, { accessFlags := 10, nameIndex := 26, descriptorIndex := 27, attributes := #[] }, { accessFlags := 9, nameIndex := 31, descriptorIndex := 32, attributes := #[] }] 49 2 #[] #[])
  fields := #[]
  methods := #[k1m0, k1m1, k1m2]
  instanceTypes := #[]
  staticTypes := #[]
  resolved := Array.replicate 37 none
  statics := none }

def pool2 : Array CpInfo := pool [(1, .methodref 2 3), (0, .class_ 4), (0, .nameAndType 5 6), (0, u "java/lang/Object"), (0, u "<init>"), (0, u "()V"), (0, .class_ 8), (0, u "com/example/imprimatur/imprimatur/verify/DeviceValues"), (9, .methodref 19 20), (0, .class_ 21), (0, .nameAndType 22 23), (0, u "[B"), (0, u "clone"), (0, u "()Ljava/lang/Object;"), (0, .fieldref 7 25), (0, .nameAndType 26 21), (0, u "pkHash"), (0, .fieldref 7 28), (0, .nameAndType 29 30), (0, u "hwId"), (0, u "Ljava/lang/Long;"), (0, .fieldref 7 32), (0, .nameAndType 33 30), (0, u "swId"), (0, .fieldref 7 35), (0, .nameAndType 36 21), (0, u "publicKey"), (4, u "SHA256_LENGTH"), (0, u "I"), (2, u "SHA384_LENGTH"), (1, u "([BLjava/lang/Long;Ljava/lang/Long;[B)V"), (5, u "()[B")] 22

def k2c0 : Code := { maxStack := 3, maxLocals := 5, code := prog_47_method_1_code, exceptionTable := #[], attributes := #[] }
def k2m0 : Method := { name := "<init>", desc := "([BLjava/lang/Long;Ljava/lang/Long;[B)V", sig := { parameters := [(.array .byte), (.object "java/lang/Long"), (.object "java/lang/Long"), (.array .byte)], returnType := none }, accessFlags := 1, code := some k2c0 }
def k2c1 : Code := { maxStack := 1, maxLocals := 1, code := prog_47_method_6_code, exceptionTable := #[], attributes := #[] }
def k2m1 : Method := { name := "publicKey", desc := "()[B", sig := { parameters := [], returnType := some (.array .byte) }, accessFlags := 0, code := some k2c1 }
/-- com/example/imprimatur/imprimatur/verify/DeviceValues -/
def k2 : Class := { plain "com/example/imprimatur/imprimatur/verify/DeviceValues" (some 0) with
  accessFlags := 49
  interfaces := #[]
  cf := some (fileOf pool2 7 #[] #[{ accessFlags := 1, nameIndex := 5, descriptorIndex := 47, attributes := #[] }, { accessFlags := 0, nameIndex := 36, descriptorIndex := 53, attributes := #[] }] 49 2 #[] #[{ accessFlags := 26, nameIndex := 41, descriptorIndex := 42, attributes := #[] }, { accessFlags := 26, nameIndex := 45, descriptorIndex := 42, attributes := #[] }, { accessFlags := 18, nameIndex := 26, descriptorIndex := 21, attributes := #[] }, { accessFlags := 18, nameIndex := 29, descriptorIndex := 30, attributes := #[] }, { accessFlags := 18, nameIndex := 33, descriptorIndex := 30, attributes := #[] }, { accessFlags := 18, nameIndex := 36, descriptorIndex := 21, attributes := #[] }])
  fields := #[{ name := "SHA256_LENGTH", type := .int, accessFlags := 26, slot := 0, constantValue := 0 }, { name := "SHA384_LENGTH", type := .int, accessFlags := 26, slot := 1, constantValue := 0 }, { name := "pkHash", type := (.array .byte), accessFlags := 18, slot := 0, constantValue := 0 }, { name := "hwId", type := (.object "java/lang/Long"), accessFlags := 18, slot := 1, constantValue := 0 }, { name := "swId", type := (.object "java/lang/Long"), accessFlags := 18, slot := 2, constantValue := 0 }, { name := "publicKey", type := (.array .byte), accessFlags := 18, slot := 3, constantValue := 0 }]
  methods := #[k2m0, k2m1]
  instanceTypes := #[(.array .byte), (.object "java/lang/Long"), (.object "java/lang/Long"), (.array .byte)]
  staticTypes := #[.int, .int]
  resolved := Array.replicate 76 none
  statics := none }

def pool3 : Array CpInfo := pool [(1, .class_ 2), (0, u "java/io/Serializable"), (0, .class_ 4), (0, u "java/lang/Object")] 2

/-- java/io/Serializable -/
def k3 : Class := { plain "java/io/Serializable" (some 0) with
  accessFlags := 1537
  interfaces := #[]
  cf := some (fileOf pool3 1 #[] #[] 1537 3 #[] #[])
  fields := #[]
  methods := #[]
  instanceTypes := #[]
  staticTypes := #[]
  resolved := Array.replicate 7 none
  statics := none }

def pool4 : Array CpInfo := pool [(1, .methodref 2 3), (0, .class_ 4), (0, .nameAndType 5 6), (0, u "java/lang/Object"), (0, u "<init>"), (0, u "()V"), (1, .class_ 10), (1, u "java/lang/Number"), (2, .class_ 14), (0, u "java/io/Serializable"), (0, u "serialVersionUID"), (0, u "J")] 20

def k4c0 : Code := { maxStack := 1, maxLocals := 1, code := jdk_18_method_1_code, exceptionTable := #[], attributes := #[] }
def k4m0 : Method := { name := "<init>", desc := "()V", sig := { parameters := [], returnType := none }, accessFlags := 1, code := some k4c0 }
/-- java/lang/Number -/
def k4 : Class := { plain "java/lang/Number" (some 0) with
  accessFlags := 1057
  interfaces := #[3]
  cf := some (fileOf pool4 8 #[] #[{ accessFlags := 1, nameIndex := 5, descriptorIndex := 6, attributes := #[] }] 1057 2 #[13] #[{ accessFlags := 26, nameIndex := 15, descriptorIndex := 16, attributes := #[] }])
  fields := #[{ name := "serialVersionUID", type := .long, accessFlags := 26, slot := 0, constantValue := 0 }]
  methods := #[k4m0]
  instanceTypes := #[]
  staticTypes := #[.long]
  resolved := Array.replicate 37 none
  statics := none }

def pool5 : Array CpInfo := pool [(1, .class_ 2), (0, u "java/lang/Comparable"), (0, .class_ 4), (0, u "java/lang/Object")] 7

/-- java/lang/Comparable -/
def k5 : Class := { plain "java/lang/Comparable" (some 0) with
  accessFlags := 1537
  interfaces := #[]
  cf := some (fileOf pool5 1 #[] #[] 1537 3 #[] #[])
  fields := #[]
  methods := #[]
  instanceTypes := #[]
  staticTypes := #[]
  resolved := Array.replicate 12 none
  statics := none }

def pool6 : Array CpInfo := pool [(1, .class_ 2), (0, u "java/lang/constant/Constable"), (0, .class_ 4), (0, u "java/lang/Object")] 6

/-- java/lang/constant/Constable -/
def k6 : Class := { plain "java/lang/constant/Constable" (some 0) with
  accessFlags := 1537
  interfaces := #[]
  cf := some (fileOf pool6 1 #[] #[] 1537 3 #[] #[])
  fields := #[]
  methods := #[]
  instanceTypes := #[]
  staticTypes := #[]
  resolved := Array.replicate 11 none
  statics := none }

def pool7 : Array CpInfo := pool [(1, .class_ 2), (0, u "java/lang/constant/ConstantDesc"), (0, .class_ 4), (0, u "java/lang/Object")] 32

/-- java/lang/constant/ConstantDesc -/
def k7 : Class := { plain "java/lang/constant/ConstantDesc" (some 0) with
  accessFlags := 1537
  interfaces := #[]
  cf := some (fileOf pool7 1 #[] #[] 1537 3 #[] #[])
  fields := #[]
  methods := #[]
  instanceTypes := #[]
  staticTypes := #[]
  resolved := Array.replicate 37 none
  statics := none }

def pool8 : Array CpInfo := pool [(1, .class_ 2), (0, u "java/lang/Long"), (55, .nameAndType 59 60), (0, u "<init>"), (0, u "()V"), (24, u "valueOf"), (143, u "(J)Ljava/lang/Long;"), (0, .long 18446744073709551488), (1, .long 127), (1, .fieldref 235 236), (0, .class_ 237), (0, .nameAndType 238 239), (0, u "java/lang/Long$LongCache"), (0, u "cache"), (0, u "[Ljava/lang/Long;"), (0, .methodref 1 241), (0, .nameAndType 59 242), (0, u "(J)V"), (27, .methodref 271 58), (0, .class_ 272), (0, u "java/lang/Number"), (0, .fieldref 1 274), (0, .nameAndType 275 276), (0, u "value"), (0, u "J"), (84, u "TYPE"), (0, u "Ljava/lang/Class;"), (0, .class_ 364), (0, u "java/lang/Comparable"), (0, .class_ 366), (0, u "java/lang/constant/Constable"), (0, .class_ 368), (0, u "java/lang/constant/ConstantDesc"), (0, u "MIN_VALUE"), (1, u "MAX_VALUE"), (4, u "SIZE"), (0, u "I"), (1, u "BYTES"), (1, u "serialVersionUID")] 142

def k8c0 : Code := { maxStack := 4, maxLocals := 3, code := jdk_35_method_24_code, exceptionTable := #[], attributes := #[] }
def k8m0 : Method := { name := "valueOf", desc := "(J)Ljava/lang/Long;", sig := { parameters := [.long], returnType := some (.object "java/lang/Long") }, accessFlags := 9, code := some k8c0 }
def k8c1 : Code := { maxStack := 3, maxLocals := 3, code := jdk_35_method_26_code, exceptionTable := #[], attributes := #[] }
def k8m1 : Method := { name := "<init>", desc := "(J)V", sig := { parameters := [.long], returnType := none }, accessFlags := 1, code := some k8c1 }
/-- java/lang/Long -/
def k8 : Class := { plain "java/lang/Long" (some 4) with
  accessFlags := 49
  interfaces := #[5, 6, 7]
  cf := some (fileOf pool8 1 #[.nestMembers #[235]] #[{ accessFlags := 9, nameIndex := 85, descriptorIndex := 229, attributes := #[] }, { accessFlags := 1, nameIndex := 59, descriptorIndex := 242, attributes := #[] }] 49 271 #[363, 365, 367] #[{ accessFlags := 25, nameIndex := 369, descriptorIndex := 276, attributes := #[] }, { accessFlags := 25, nameIndex := 371, descriptorIndex := 276, attributes := #[] }, { accessFlags := 25, nameIndex := 361, descriptorIndex := 362, attributes := #[] }, { accessFlags := 18, nameIndex := 275, descriptorIndex := 276, attributes := #[] }, { accessFlags := 25, nameIndex := 376, descriptorIndex := 377, attributes := #[] }, { accessFlags := 25, nameIndex := 379, descriptorIndex := 377, attributes := #[] }, { accessFlags := 26, nameIndex := 381, descriptorIndex := 276, attributes := #[] }])
  fields := #[{ name := "MIN_VALUE", type := .long, accessFlags := 25, slot := 0, constantValue := 0 }, { name := "MAX_VALUE", type := .long, accessFlags := 25, slot := 1, constantValue := 0 }, { name := "TYPE", type := (.object "java/lang/Class"), accessFlags := 25, slot := 2, constantValue := 0 }, { name := "value", type := .long, accessFlags := 18, slot := 0, constantValue := 0 }, { name := "SIZE", type := .int, accessFlags := 25, slot := 3, constantValue := 0 }, { name := "BYTES", type := .int, accessFlags := 25, slot := 4, constantValue := 0 }, { name := "serialVersionUID", type := .long, accessFlags := 26, slot := 5, constantValue := 0 }]
  methods := #[k8m0, k8m1]
  instanceTypes := #[.long]
  staticTypes := #[.long, .long, (.object "java/lang/Class"), .int, .int, .long]
  resolved := Array.replicate 524 none
  statics := none }

def pool9 : Array CpInfo := pool [(1, .class_ 2), (0, u "java/lang/Cloneable"), (0, .class_ 4), (0, u "java/lang/Object")] 2

/-- java/lang/Cloneable -/
def k9 : Class := { plain "java/lang/Cloneable" (some 0) with
  accessFlags := 1537
  interfaces := #[]
  cf := some (fileOf pool9 1 #[] #[] 1537 3 #[] #[])
  fields := #[]
  methods := #[]
  instanceTypes := #[]
  staticTypes := #[]
  resolved := Array.replicate 7 none
  statics := none }

def pool10 : Array CpInfo := pool [(2, .class_ 4), (1, u "java/lang/Object"), (0, u "<init>"), (0, u "()V"), (0, .class_ 8), (0, u "java/lang/Long"), (7, .class_ 18), (1, u "java/lang/Long$LongCache"), (0, u "$assertionsDisabled"), (0, u "Z"), (8, u "archivedCache"), (0, u "[Ljava/lang/Long;"), (7, u "cache")] 24

def k10m0 : Method := { name := "<init>", desc := "()V", sig := { parameters := [], returnType := none }, accessFlags := 2, code := none }
/-- java/lang/Long$LongCache -/
def k10 : Class := { plain "java/lang/Long$LongCache" (some 0) with
  accessFlags := 48
  interfaces := #[]
  cf := some (fileOf pool10 16 #[.nestHost 7] #[{ accessFlags := 2, nameIndex := 5, descriptorIndex := 6, attributes := #[] }] 48 2 #[] #[{ accessFlags := 24, nameIndex := 38, descriptorIndex := 30, attributes := #[] }, { accessFlags := 8, nameIndex := 29, descriptorIndex := 30, attributes := #[] }, { accessFlags := 4120, nameIndex := 19, descriptorIndex := 20, attributes := #[] }])
  fields := #[{ name := "cache", type := (.array (.object "java/lang/Long")), accessFlags := 24, slot := 0, constantValue := 0 }, { name := "archivedCache", type := (.array (.object "java/lang/Long")), accessFlags := 8, slot := 1, constantValue := 0 }, { name := "$assertionsDisabled", type := .boolean, accessFlags := 4120, slot := 2, constantValue := 0 }]
  methods := #[k10m0]
  instanceTypes := #[]
  staticTypes := #[(.array (.object "java/lang/Long")), (.array (.object "java/lang/Long")), .boolean]
  resolved := Array.replicate 63 none
  statics := some 0 }

/-- the primitive byte -/
def k11 : Class := { plain "byte" none with kind := .primitive 'B', accessFlags := 0x411 }
/-- [B -/
def k12 : Class := { plain "[B" (some 0) with kind := .array 11 .byte, interfaces := #[9, 3], accessFlags := 1041 }

/-- the primitive int -/
def k13 : Class := { plain "int" none with kind := .primitive 'I', accessFlags := 0x411 }
/-- [I -/
def k14 : Class := { plain "[I" (some 0) with kind := .array 13 .int, interfaces := #[9, 3], accessFlags := 1041 }

/-- [Ljava/lang/Long; -/
def k15 : Class := { plain "[Ljava/lang/Long;" (some 0) with kind := .array 8 (.object "java/lang/Long"), interfaces := #[9, 3], accessFlags := 1041 }

def heap : Heap := #[{ cls := 10, slots := #[.ref 1, .null, .int 0], vm := .statics 10 },
  { cls := 15, slots := #[.ref 2, .ref 3, .ref 4, .ref 5, .ref 6, .ref 7, .ref 8, .ref 9, .ref 10, .ref 11, .ref 12, .ref 13, .ref 14, .ref 15, .ref 16, .ref 17, .ref 18, .ref 19, .ref 20, .ref 21, .ref 22, .ref 23, .ref 24, .ref 25, .ref 26, .ref 27, .ref 28, .ref 29, .ref 30, .ref 31, .ref 32, .ref 33, .ref 34, .ref 35, .ref 36, .ref 37, .ref 38, .ref 39, .ref 40, .ref 41, .ref 42, .ref 43, .ref 44, .ref 45, .ref 46, .ref 47, .ref 48, .ref 49, .ref 50, .ref 51, .ref 52, .ref 53, .ref 54, .ref 55, .ref 56, .ref 57, .ref 58, .ref 59, .ref 60, .ref 61, .ref 62, .ref 63, .ref 64, .ref 65, .ref 66, .ref 67, .ref 68, .ref 69, .ref 70, .ref 71, .ref 72, .ref 73, .ref 74, .ref 75, .ref 76, .ref 77, .ref 78, .ref 79, .ref 80, .ref 81, .ref 82, .ref 83, .ref 84, .ref 85, .ref 86, .ref 87, .ref 88, .ref 89, .ref 90, .ref 91, .ref 92, .ref 93, .ref 94, .ref 95, .ref 96, .ref 97, .ref 98, .ref 99, .ref 100, .ref 101, .ref 102, .ref 103, .ref 104, .ref 105, .ref 106, .ref 107, .ref 108, .ref 109, .ref 110, .ref 111, .ref 112, .ref 113, .ref 114, .ref 115, .ref 116, .ref 117, .ref 118, .ref 119, .ref 120, .ref 121, .ref 122, .ref 123, .ref 124, .ref 125, .ref 126, .ref 127, .ref 128, .ref 129, .ref 130, .ref 131, .ref 132, .ref 133, .ref 134, .ref 135, .ref 136, .ref 137, .ref 138, .ref 139, .ref 140, .ref 141, .ref 142, .ref 143, .ref 144, .ref 145, .ref 146, .ref 147, .ref 148, .ref 149, .ref 150, .ref 151, .ref 152, .ref 153, .ref 154, .ref 155, .ref 156, .ref 157, .ref 158, .ref 159, .ref 160, .ref 161, .ref 162, .ref 163, .ref 164, .ref 165, .ref 166, .ref 167, .ref 168, .ref 169, .ref 170, .ref 171, .ref 172, .ref 173, .ref 174, .ref 175, .ref 176, .ref 177, .ref 178, .ref 179, .ref 180, .ref 181, .ref 182, .ref 183, .ref 184, .ref 185, .ref 186, .ref 187, .ref 188, .ref 189, .ref 190, .ref 191, .ref 192, .ref 193, .ref 194, .ref 195, .ref 196, .ref 197, .ref 198, .ref 199, .ref 200, .ref 201, .ref 202, .ref 203, .ref 204, .ref 205, .ref 206, .ref 207, .ref 208, .ref 209, .ref 210, .ref 211, .ref 212, .ref 213, .ref 214, .ref 215, .ref 216, .ref 217, .ref 218, .ref 219, .ref 220, .ref 221, .ref 222, .ref 223, .ref 224, .ref 225, .ref 226, .ref 227, .ref 228, .ref 229, .ref 230, .ref 231, .ref 232, .ref 233, .ref 234, .ref 235, .ref 236, .ref 237, .ref 238, .ref 239, .ref 240, .ref 241, .ref 242, .ref 243, .ref 244, .ref 245, .ref 246, .ref 247, .ref 248, .ref 249, .ref 250, .ref 251, .ref 252, .ref 253, .ref 254, .ref 255, .ref 256, .ref 257], vm := .none },
  { cls := 8, slots := #[.long (-128)], vm := .none },
  { cls := 8, slots := #[.long (-127)], vm := .none },
  { cls := 8, slots := #[.long (-126)], vm := .none },
  { cls := 8, slots := #[.long (-125)], vm := .none },
  { cls := 8, slots := #[.long (-124)], vm := .none },
  { cls := 8, slots := #[.long (-123)], vm := .none },
  { cls := 8, slots := #[.long (-122)], vm := .none },
  { cls := 8, slots := #[.long (-121)], vm := .none },
  { cls := 8, slots := #[.long (-120)], vm := .none },
  { cls := 8, slots := #[.long (-119)], vm := .none },
  { cls := 8, slots := #[.long (-118)], vm := .none },
  { cls := 8, slots := #[.long (-117)], vm := .none },
  { cls := 8, slots := #[.long (-116)], vm := .none },
  { cls := 8, slots := #[.long (-115)], vm := .none },
  { cls := 8, slots := #[.long (-114)], vm := .none },
  { cls := 8, slots := #[.long (-113)], vm := .none },
  { cls := 8, slots := #[.long (-112)], vm := .none },
  { cls := 8, slots := #[.long (-111)], vm := .none },
  { cls := 8, slots := #[.long (-110)], vm := .none },
  { cls := 8, slots := #[.long (-109)], vm := .none },
  { cls := 8, slots := #[.long (-108)], vm := .none },
  { cls := 8, slots := #[.long (-107)], vm := .none },
  { cls := 8, slots := #[.long (-106)], vm := .none },
  { cls := 8, slots := #[.long (-105)], vm := .none },
  { cls := 8, slots := #[.long (-104)], vm := .none },
  { cls := 8, slots := #[.long (-103)], vm := .none },
  { cls := 8, slots := #[.long (-102)], vm := .none },
  { cls := 8, slots := #[.long (-101)], vm := .none },
  { cls := 8, slots := #[.long (-100)], vm := .none },
  { cls := 8, slots := #[.long (-99)], vm := .none },
  { cls := 8, slots := #[.long (-98)], vm := .none },
  { cls := 8, slots := #[.long (-97)], vm := .none },
  { cls := 8, slots := #[.long (-96)], vm := .none },
  { cls := 8, slots := #[.long (-95)], vm := .none },
  { cls := 8, slots := #[.long (-94)], vm := .none },
  { cls := 8, slots := #[.long (-93)], vm := .none },
  { cls := 8, slots := #[.long (-92)], vm := .none },
  { cls := 8, slots := #[.long (-91)], vm := .none },
  { cls := 8, slots := #[.long (-90)], vm := .none },
  { cls := 8, slots := #[.long (-89)], vm := .none },
  { cls := 8, slots := #[.long (-88)], vm := .none },
  { cls := 8, slots := #[.long (-87)], vm := .none },
  { cls := 8, slots := #[.long (-86)], vm := .none },
  { cls := 8, slots := #[.long (-85)], vm := .none },
  { cls := 8, slots := #[.long (-84)], vm := .none },
  { cls := 8, slots := #[.long (-83)], vm := .none },
  { cls := 8, slots := #[.long (-82)], vm := .none },
  { cls := 8, slots := #[.long (-81)], vm := .none },
  { cls := 8, slots := #[.long (-80)], vm := .none },
  { cls := 8, slots := #[.long (-79)], vm := .none },
  { cls := 8, slots := #[.long (-78)], vm := .none },
  { cls := 8, slots := #[.long (-77)], vm := .none },
  { cls := 8, slots := #[.long (-76)], vm := .none },
  { cls := 8, slots := #[.long (-75)], vm := .none },
  { cls := 8, slots := #[.long (-74)], vm := .none },
  { cls := 8, slots := #[.long (-73)], vm := .none },
  { cls := 8, slots := #[.long (-72)], vm := .none },
  { cls := 8, slots := #[.long (-71)], vm := .none },
  { cls := 8, slots := #[.long (-70)], vm := .none },
  { cls := 8, slots := #[.long (-69)], vm := .none },
  { cls := 8, slots := #[.long (-68)], vm := .none },
  { cls := 8, slots := #[.long (-67)], vm := .none },
  { cls := 8, slots := #[.long (-66)], vm := .none },
  { cls := 8, slots := #[.long (-65)], vm := .none },
  { cls := 8, slots := #[.long (-64)], vm := .none },
  { cls := 8, slots := #[.long (-63)], vm := .none },
  { cls := 8, slots := #[.long (-62)], vm := .none },
  { cls := 8, slots := #[.long (-61)], vm := .none },
  { cls := 8, slots := #[.long (-60)], vm := .none },
  { cls := 8, slots := #[.long (-59)], vm := .none },
  { cls := 8, slots := #[.long (-58)], vm := .none },
  { cls := 8, slots := #[.long (-57)], vm := .none },
  { cls := 8, slots := #[.long (-56)], vm := .none },
  { cls := 8, slots := #[.long (-55)], vm := .none },
  { cls := 8, slots := #[.long (-54)], vm := .none },
  { cls := 8, slots := #[.long (-53)], vm := .none },
  { cls := 8, slots := #[.long (-52)], vm := .none },
  { cls := 8, slots := #[.long (-51)], vm := .none },
  { cls := 8, slots := #[.long (-50)], vm := .none },
  { cls := 8, slots := #[.long (-49)], vm := .none },
  { cls := 8, slots := #[.long (-48)], vm := .none },
  { cls := 8, slots := #[.long (-47)], vm := .none },
  { cls := 8, slots := #[.long (-46)], vm := .none },
  { cls := 8, slots := #[.long (-45)], vm := .none },
  { cls := 8, slots := #[.long (-44)], vm := .none },
  { cls := 8, slots := #[.long (-43)], vm := .none },
  { cls := 8, slots := #[.long (-42)], vm := .none },
  { cls := 8, slots := #[.long (-41)], vm := .none },
  { cls := 8, slots := #[.long (-40)], vm := .none },
  { cls := 8, slots := #[.long (-39)], vm := .none },
  { cls := 8, slots := #[.long (-38)], vm := .none },
  { cls := 8, slots := #[.long (-37)], vm := .none },
  { cls := 8, slots := #[.long (-36)], vm := .none },
  { cls := 8, slots := #[.long (-35)], vm := .none },
  { cls := 8, slots := #[.long (-34)], vm := .none },
  { cls := 8, slots := #[.long (-33)], vm := .none },
  { cls := 8, slots := #[.long (-32)], vm := .none },
  { cls := 8, slots := #[.long (-31)], vm := .none },
  { cls := 8, slots := #[.long (-30)], vm := .none },
  { cls := 8, slots := #[.long (-29)], vm := .none },
  { cls := 8, slots := #[.long (-28)], vm := .none },
  { cls := 8, slots := #[.long (-27)], vm := .none },
  { cls := 8, slots := #[.long (-26)], vm := .none },
  { cls := 8, slots := #[.long (-25)], vm := .none },
  { cls := 8, slots := #[.long (-24)], vm := .none },
  { cls := 8, slots := #[.long (-23)], vm := .none },
  { cls := 8, slots := #[.long (-22)], vm := .none },
  { cls := 8, slots := #[.long (-21)], vm := .none },
  { cls := 8, slots := #[.long (-20)], vm := .none },
  { cls := 8, slots := #[.long (-19)], vm := .none },
  { cls := 8, slots := #[.long (-18)], vm := .none },
  { cls := 8, slots := #[.long (-17)], vm := .none },
  { cls := 8, slots := #[.long (-16)], vm := .none },
  { cls := 8, slots := #[.long (-15)], vm := .none },
  { cls := 8, slots := #[.long (-14)], vm := .none },
  { cls := 8, slots := #[.long (-13)], vm := .none },
  { cls := 8, slots := #[.long (-12)], vm := .none },
  { cls := 8, slots := #[.long (-11)], vm := .none },
  { cls := 8, slots := #[.long (-10)], vm := .none },
  { cls := 8, slots := #[.long (-9)], vm := .none },
  { cls := 8, slots := #[.long (-8)], vm := .none },
  { cls := 8, slots := #[.long (-7)], vm := .none },
  { cls := 8, slots := #[.long (-6)], vm := .none },
  { cls := 8, slots := #[.long (-5)], vm := .none },
  { cls := 8, slots := #[.long (-4)], vm := .none },
  { cls := 8, slots := #[.long (-3)], vm := .none },
  { cls := 8, slots := #[.long (-2)], vm := .none },
  { cls := 8, slots := #[.long (-1)], vm := .none },
  { cls := 8, slots := #[.long (0)], vm := .none },
  { cls := 8, slots := #[.long (1)], vm := .none },
  { cls := 8, slots := #[.long (2)], vm := .none },
  { cls := 8, slots := #[.long (3)], vm := .none },
  { cls := 8, slots := #[.long (4)], vm := .none },
  { cls := 8, slots := #[.long (5)], vm := .none },
  { cls := 8, slots := #[.long (6)], vm := .none },
  { cls := 8, slots := #[.long (7)], vm := .none },
  { cls := 8, slots := #[.long (8)], vm := .none },
  { cls := 8, slots := #[.long (9)], vm := .none },
  { cls := 8, slots := #[.long (10)], vm := .none },
  { cls := 8, slots := #[.long (11)], vm := .none },
  { cls := 8, slots := #[.long (12)], vm := .none },
  { cls := 8, slots := #[.long (13)], vm := .none },
  { cls := 8, slots := #[.long (14)], vm := .none },
  { cls := 8, slots := #[.long (15)], vm := .none },
  { cls := 8, slots := #[.long (16)], vm := .none },
  { cls := 8, slots := #[.long (17)], vm := .none },
  { cls := 8, slots := #[.long (18)], vm := .none },
  { cls := 8, slots := #[.long (19)], vm := .none },
  { cls := 8, slots := #[.long (20)], vm := .none },
  { cls := 8, slots := #[.long (21)], vm := .none },
  { cls := 8, slots := #[.long (22)], vm := .none },
  { cls := 8, slots := #[.long (23)], vm := .none },
  { cls := 8, slots := #[.long (24)], vm := .none },
  { cls := 8, slots := #[.long (25)], vm := .none },
  { cls := 8, slots := #[.long (26)], vm := .none },
  { cls := 8, slots := #[.long (27)], vm := .none },
  { cls := 8, slots := #[.long (28)], vm := .none },
  { cls := 8, slots := #[.long (29)], vm := .none },
  { cls := 8, slots := #[.long (30)], vm := .none },
  { cls := 8, slots := #[.long (31)], vm := .none },
  { cls := 8, slots := #[.long (32)], vm := .none },
  { cls := 8, slots := #[.long (33)], vm := .none },
  { cls := 8, slots := #[.long (34)], vm := .none },
  { cls := 8, slots := #[.long (35)], vm := .none },
  { cls := 8, slots := #[.long (36)], vm := .none },
  { cls := 8, slots := #[.long (37)], vm := .none },
  { cls := 8, slots := #[.long (38)], vm := .none },
  { cls := 8, slots := #[.long (39)], vm := .none },
  { cls := 8, slots := #[.long (40)], vm := .none },
  { cls := 8, slots := #[.long (41)], vm := .none },
  { cls := 8, slots := #[.long (42)], vm := .none },
  { cls := 8, slots := #[.long (43)], vm := .none },
  { cls := 8, slots := #[.long (44)], vm := .none },
  { cls := 8, slots := #[.long (45)], vm := .none },
  { cls := 8, slots := #[.long (46)], vm := .none },
  { cls := 8, slots := #[.long (47)], vm := .none },
  { cls := 8, slots := #[.long (48)], vm := .none },
  { cls := 8, slots := #[.long (49)], vm := .none },
  { cls := 8, slots := #[.long (50)], vm := .none },
  { cls := 8, slots := #[.long (51)], vm := .none },
  { cls := 8, slots := #[.long (52)], vm := .none },
  { cls := 8, slots := #[.long (53)], vm := .none },
  { cls := 8, slots := #[.long (54)], vm := .none },
  { cls := 8, slots := #[.long (55)], vm := .none },
  { cls := 8, slots := #[.long (56)], vm := .none },
  { cls := 8, slots := #[.long (57)], vm := .none },
  { cls := 8, slots := #[.long (58)], vm := .none },
  { cls := 8, slots := #[.long (59)], vm := .none },
  { cls := 8, slots := #[.long (60)], vm := .none },
  { cls := 8, slots := #[.long (61)], vm := .none },
  { cls := 8, slots := #[.long (62)], vm := .none },
  { cls := 8, slots := #[.long (63)], vm := .none },
  { cls := 8, slots := #[.long (64)], vm := .none },
  { cls := 8, slots := #[.long (65)], vm := .none },
  { cls := 8, slots := #[.long (66)], vm := .none },
  { cls := 8, slots := #[.long (67)], vm := .none },
  { cls := 8, slots := #[.long (68)], vm := .none },
  { cls := 8, slots := #[.long (69)], vm := .none },
  { cls := 8, slots := #[.long (70)], vm := .none },
  { cls := 8, slots := #[.long (71)], vm := .none },
  { cls := 8, slots := #[.long (72)], vm := .none },
  { cls := 8, slots := #[.long (73)], vm := .none },
  { cls := 8, slots := #[.long (74)], vm := .none },
  { cls := 8, slots := #[.long (75)], vm := .none },
  { cls := 8, slots := #[.long (76)], vm := .none },
  { cls := 8, slots := #[.long (77)], vm := .none },
  { cls := 8, slots := #[.long (78)], vm := .none },
  { cls := 8, slots := #[.long (79)], vm := .none },
  { cls := 8, slots := #[.long (80)], vm := .none },
  { cls := 8, slots := #[.long (81)], vm := .none },
  { cls := 8, slots := #[.long (82)], vm := .none },
  { cls := 8, slots := #[.long (83)], vm := .none },
  { cls := 8, slots := #[.long (84)], vm := .none },
  { cls := 8, slots := #[.long (85)], vm := .none },
  { cls := 8, slots := #[.long (86)], vm := .none },
  { cls := 8, slots := #[.long (87)], vm := .none },
  { cls := 8, slots := #[.long (88)], vm := .none },
  { cls := 8, slots := #[.long (89)], vm := .none },
  { cls := 8, slots := #[.long (90)], vm := .none },
  { cls := 8, slots := #[.long (91)], vm := .none },
  { cls := 8, slots := #[.long (92)], vm := .none },
  { cls := 8, slots := #[.long (93)], vm := .none },
  { cls := 8, slots := #[.long (94)], vm := .none },
  { cls := 8, slots := #[.long (95)], vm := .none },
  { cls := 8, slots := #[.long (96)], vm := .none },
  { cls := 8, slots := #[.long (97)], vm := .none },
  { cls := 8, slots := #[.long (98)], vm := .none },
  { cls := 8, slots := #[.long (99)], vm := .none },
  { cls := 8, slots := #[.long (100)], vm := .none },
  { cls := 8, slots := #[.long (101)], vm := .none },
  { cls := 8, slots := #[.long (102)], vm := .none },
  { cls := 8, slots := #[.long (103)], vm := .none },
  { cls := 8, slots := #[.long (104)], vm := .none },
  { cls := 8, slots := #[.long (105)], vm := .none },
  { cls := 8, slots := #[.long (106)], vm := .none },
  { cls := 8, slots := #[.long (107)], vm := .none },
  { cls := 8, slots := #[.long (108)], vm := .none },
  { cls := 8, slots := #[.long (109)], vm := .none },
  { cls := 8, slots := #[.long (110)], vm := .none },
  { cls := 8, slots := #[.long (111)], vm := .none },
  { cls := 8, slots := #[.long (112)], vm := .none },
  { cls := 8, slots := #[.long (113)], vm := .none },
  { cls := 8, slots := #[.long (114)], vm := .none },
  { cls := 8, slots := #[.long (115)], vm := .none },
  { cls := 8, slots := #[.long (116)], vm := .none },
  { cls := 8, slots := #[.long (117)], vm := .none },
  { cls := 8, slots := #[.long (118)], vm := .none },
  { cls := 8, slots := #[.long (119)], vm := .none },
  { cls := 8, slots := #[.long (120)], vm := .none },
  { cls := 8, slots := #[.long (121)], vm := .none },
  { cls := 8, slots := #[.long (122)], vm := .none },
  { cls := 8, slots := #[.long (123)], vm := .none },
  { cls := 8, slots := #[.long (124)], vm := .none },
  { cls := 8, slots := #[.long (125)], vm := .none },
  { cls := 8, slots := #[.long (126)], vm := .none },
  { cls := 8, slots := #[.long (127)], vm := .none }]
def classes : Array Class := #[k0, k1, k2, k3, k4, k5, k6, k7, k8, k9, k10, k11, k12, k13, k14, k15]
def interned : List (Array UInt16 × Addr) := []
def slotsUsed : Nat := 515
def theMethod : MethodId := ⟨1, 2⟩
def args0 : Array Value := #[.int 5, .int 5, .int 5, .int 5, .long 5]
def aboutOver (below : List Frame) : State where
  vm := { classes := classes, interned := interned.toArray }
  heap := heap
  slotsUsed := slotsUsed
  threads := #[{ frames := .invoking theMethod args0 :: below }]
def below0 : List Frame := [.native { method := ⟨0, 0⟩, args := #[] }]
def about1 : State := aboutOver below0
def p0 : Program := .bare "" "" ""
def e0 : Env := launch0.env 0 0 0
theorem w_frames : about1.frames = Frame.invoking theMethod args0 :: below0 := rfl
set_option maxRecDepth 65536 in
theorem w_args : argsFit about1.vm theMethod args0 = true := by decide +kernel
set_option maxRecDepth 65536 in
theorem w_heap : heapFits about1 = true := by decide +kernel
set_option maxRecDepth 65536 in
theorem w_runnable : about1.curStatus? = some .runnable := by decide +kernel
set_option maxRecDepth 65536 in
theorem w_alone : about1.alone = true := by decide +kernel
set_option maxRecDepth 65536 in
theorem w_named : about1.methodNamed? x = some theMethod := by decide +kernel
set_option maxRecDepth 65536 in
theorem w_hears : about1.hears theMethod below0 = true := by decide +kernel
set_option maxRecDepth 65536 in
theorem w_ripe : about1.ripe theMethod args0 below0 = true := by decide +kernel
theorem w_running : about1.status = .running := rfl
set_option maxRecDepth 65536 in
theorem w_room : about1.hasRoom e0.platform room_1 = true :=
  launch0.hasRoom_least _ room_1 (by decide +kernel) (by decide +kernel) (by decide +kernel) (by decide +kernel) (by decide +kernel) (by decide +kernel)
theorem allAtoms_all (ts : List Jvm.Cond) (a : Array Jvm.Value) (st : Jvm.State) : (allAtoms ts).before a st = ts.all (fun c => c.before a st) := by
  induction ts with
  | nil => rfl
  | cons c t ih =>
    show (Jvm.Cond.and c (allAtoms t)).before a st = _
    rw [Jvm.Cond.before_and, ih, List.all_cons]
def words1 : List Jvm.Cond := Jvm.Cond.code x code maxLocals ret :: tables_1
/-- a 'code' word, met by the world's own term for the bytes: nothing is compared byte by byte -/
theorem code_word {y : MethodName} {bytes : ByteArray} {mx : Nat} {rt : Option FieldType} {a : Array Value} {s : State} {m : MethodId} {meth : Method} {c : Code} (h1 : s.methodNamed? y = some m) (h2 : s.vm.method? m = some meth) (h3 : meth.code = some c) (h4 : c.code = bytes)
    (h5 : (c.maxLocals == mx && c.exceptionTable.isEmpty && decide (c.maxStack ≤ mostOperands) && decide (meth.sig.returnType = rt) && !meth.locks && decide (parseMethodDescriptor y.desc = some meth.sig)) = true) : (Jvm.Cond.code y bytes mx rt).before a s = true := by
  simp only [Bool.and_eq_true, beq_iff_eq, Bool.not_eq_true', decide_eq_true_eq] at h5
  obtain ⟨⟨⟨⟨⟨g1, g2⟩, g3⟩, g4⟩, g5⟩, g6⟩ := h5
  simp [Cond.before, Cond.holds, Cond.value, h1, h2, h3, h4, g1, g2, g3, g4, g5, g6]
def isCode : Jvm.Cond → Bool
  | .code _ _ _ _ => true
  | _ => false
theorem all_split {L : List Jvm.Cond} {P : Jvm.Cond → Bool} (h1 : L.all (fun c => isCode c || P c) = true) (h2 : ∀ c ∈ L.filter isCode, P c = true) : L.all P = true := by
  refine List.all_eq_true.mpr fun c hc => ?_
  have h := List.all_eq_true.mp h1 c hc
  rcases Bool.eq_false_or_eq_true (isCode c) with hi | hi
  · exact h2 c (List.mem_filter.mpr ⟨hc, hi⟩)
  · simpa [hi] using h
set_option maxRecDepth 65536 in
theorem w_c0 : (Jvm.Cond.code x code maxLocals ret).before args0 about1 = true := code_word (m := ⟨1, 2⟩) (meth := k1m2) (c := k1c2) (by decide +kernel) rfl rfl rfl (by decide +kernel)
set_option maxRecDepth 65536 in
theorem w_c1 : (Jvm.Cond.code ({ cls := "java/lang/Long", name := "valueOf", desc := "(J)Ljava/lang/Long;" } : Jvm.MethodName) jdk_35_method_24_code (3 : Nat) (Option.some (Jvm.ClassFile.FieldType.object "java/lang/Long"))).before args0 about1 = true := code_word (m := ⟨8, 0⟩) (meth := k8m0) (c := k8c0) (by decide +kernel) rfl rfl rfl (by decide +kernel)
set_option maxRecDepth 65536 in
theorem w_c2 : (Jvm.Cond.code ({ cls := "java/lang/Long", name := "<init>", desc := "(J)V" } : Jvm.MethodName) jdk_35_method_26_code (3 : Nat) (Option.none : Option Jvm.ClassFile.FieldType)).before args0 about1 = true := code_word (m := ⟨8, 1⟩) (meth := k8m1) (c := k8c1) (by decide +kernel) rfl rfl rfl (by decide +kernel)
set_option maxRecDepth 65536 in
theorem w_c3 : (Jvm.Cond.code ({ cls := "java/lang/Number", name := "<init>", desc := "()V" } : Jvm.MethodName) jdk_18_method_1_code (1 : Nat) (Option.none : Option Jvm.ClassFile.FieldType)).before args0 about1 = true := code_word (m := ⟨4, 0⟩) (meth := k4m0) (c := k4c0) (by decide +kernel) rfl rfl rfl (by decide +kernel)
set_option maxRecDepth 65536 in
theorem w_c4 : (Jvm.Cond.code ({ cls := "java/lang/Object", name := "<init>", desc := "()V" } : Jvm.MethodName) object_method_1_code (1 : Nat) (Option.none : Option Jvm.ClassFile.FieldType)).before args0 about1 = true := code_word (m := ⟨0, 0⟩) (meth := k0m0) (c := k0c0) (by decide +kernel) rfl rfl rfl (by decide +kernel)
set_option maxRecDepth 65536 in
theorem w_c5 : (Jvm.Cond.code ({ cls := "com/example/imprimatur/imprimatur/verify/DeviceValues", name := "<init>", desc := "([BLjava/lang/Long;Ljava/lang/Long;[B)V" } : Jvm.MethodName) prog_47_method_1_code (5 : Nat) (Option.none : Option Jvm.ClassFile.FieldType)).before args0 about1 = true := code_word (m := ⟨2, 0⟩) (meth := k2m0) (c := k2c0) (by decide +kernel) rfl rfl rfl (by decide +kernel)
set_option maxRecDepth 65536 in
theorem w_c6 : (Jvm.Cond.code ({ cls := "com/example/imprimatur/imprimatur/verify/DeviceValues", name := "publicKey", desc := "()[B" } : Jvm.MethodName) prog_47_method_6_code (1 : Nat) (Option.some (Jvm.ClassFile.FieldType.array Jvm.ClassFile.FieldType.byte))).before args0 about1 = true := code_word (m := ⟨2, 1⟩) (meth := k2m1) (c := k2c1) (by decide +kernel) rfl rfl rfl (by decide +kernel)
set_option maxRecDepth 65536 in
theorem w_c7 : (Jvm.Cond.code ({ cls := "com/example/imprimatur/imprimatur/verify/DeviceValuesPublicKeyPinLaw", name := "same", desc := "([BIBBB)Z" } : Jvm.MethodName) method_2_code (5 : Nat) (Option.some Jvm.ClassFile.FieldType.boolean)).before args0 about1 = true := code_word (m := ⟨1, 1⟩) (meth := k1m1) (c := k1c1) (by decide +kernel) rfl rfl rfl (by decide +kernel)
def codes1 : List Jvm.Cond := [Jvm.Cond.code x code maxLocals ret, Jvm.Cond.code ({ cls := "java/lang/Long", name := "valueOf", desc := "(J)Ljava/lang/Long;" } : Jvm.MethodName) jdk_35_method_24_code (3 : Nat) (Option.some (Jvm.ClassFile.FieldType.object "java/lang/Long")), Jvm.Cond.code ({ cls := "java/lang/Long", name := "<init>", desc := "(J)V" } : Jvm.MethodName) jdk_35_method_26_code (3 : Nat) (Option.none : Option Jvm.ClassFile.FieldType), Jvm.Cond.code ({ cls := "java/lang/Number", name := "<init>", desc := "()V" } : Jvm.MethodName) jdk_18_method_1_code (1 : Nat) (Option.none : Option Jvm.ClassFile.FieldType), Jvm.Cond.code ({ cls := "java/lang/Object", name := "<init>", desc := "()V" } : Jvm.MethodName) object_method_1_code (1 : Nat) (Option.none : Option Jvm.ClassFile.FieldType), Jvm.Cond.code ({ cls := "com/example/imprimatur/imprimatur/verify/DeviceValues", name := "<init>", desc := "([BLjava/lang/Long;Ljava/lang/Long;[B)V" } : Jvm.MethodName) prog_47_method_1_code (5 : Nat) (Option.none : Option Jvm.ClassFile.FieldType), Jvm.Cond.code ({ cls := "com/example/imprimatur/imprimatur/verify/DeviceValues", name := "publicKey", desc := "()[B" } : Jvm.MethodName) prog_47_method_6_code (1 : Nat) (Option.some (Jvm.ClassFile.FieldType.array Jvm.ClassFile.FieldType.byte)), Jvm.Cond.code ({ cls := "com/example/imprimatur/imprimatur/verify/DeviceValuesPublicKeyPinLaw", name := "same", desc := "([BIBBB)Z" } : Jvm.MethodName) method_2_code (5 : Nat) (Option.some Jvm.ClassFile.FieldType.boolean)]
set_option maxRecDepth 65536 in
theorem codes_eq : words1.filter isCode = codes1 := rfl
theorem w_codes : ∀ c ∈ words1.filter isCode, c.before args0 about1 = true := by
  rw [codes_eq]
  intro c hc
  simp only [codes1, List.mem_cons, List.not_mem_nil, or_false] at hc
  rcases hc with rfl | rfl | rfl | rfl | rfl | rfl | rfl | rfl
  · exact w_c0
  · exact w_c1
  · exact w_c2
  · exact w_c3
  · exact w_c4
  · exact w_c5
  · exact w_c6
  · exact w_c7
set_option maxRecDepth 65536 in
theorem w_t1 : (words1.take 24).all (fun c => isCode c || c.before args0 about1) = true := by decide +kernel
set_option maxRecDepth 65536 in
theorem w_t2 : ((words1.drop 24).take 24).all (fun c => isCode c || c.before args0 about1) = true := by decide +kernel
set_option maxRecDepth 65536 in
theorem w_t3 : ((words1.drop 24).drop 24).all (fun c => isCode c || c.before args0 about1) = true := by decide +kernel
theorem w_tables : (allAtoms (Jvm.Cond.code x code maxLocals ret :: tables_1)).before args0 about1 = true := by
  rw [allAtoms_all]
  show words1.all (fun c => c.before args0 about1) = true
  refine all_split ?_ w_codes
  rw [← List.take_append_drop 24 words1, List.all_append, w_t1, ← List.take_append_drop 24 (words1.drop 24), List.all_append, w_t2, w_t3]
  rfl
set_option maxRecDepth 65536 in
theorem w_rest : rest_1_c.before args0 about1 = true := by decide +kernel
set_option maxRecDepth 65536 in
theorem w_case : (Jvm.Cond.and given_1 narrow_1).before args0 about1 = true := by decide +kernel
theorem w_applies : (headSpec (Jvm.Cond.code x code maxLocals ret :: tables_1) room_1).applies x e0.platform about1 = true :=
  (Spec.applies_iff w_frames).mpr ⟨w_running, w_runnable, w_alone, w_named, w_hears, w_ripe, w_room, w_tables⟩
theorem atStart : AtStart classFile x code maxLocals ret World_1 tables_1 room_1 Calls_1 rest_1 Pre_1 launch0 p0 e0 about1 theMethod args0 below0 :=
  ⟨lists_1, trivial, launch0.admits_env _ _ _, launch0.least_env, fairChoices_fair.cas, fairChoices_fair.clock, w_frames, w_args, w_heap, w_applies, trivial, w_rest, w_case⟩
end start1
theorem witness_1 : WitnessClaimed_1 := ⟨start1.p0, start1.e0, start1.about1, start1.theMethod, start1.args0, start1.below0, start1.atStart⟩
end Jvm.Pilot.@@N@@
