import JvmDerived
import JvmDerived.Pilot.@@N@@Statement
import JvmDerived.Pilot.@@N@@Code
set_option linter.unusedVariables false
set_option linter.unusedSimpArgs false
namespace Jvm.RoadKit
open Sem ClassFile Op Lib Jvm.Stand Jvm.Free Jvm.LawKit
section New
variable {p : Program} {l : Launch} {e : Env} {R : Room} {s : State} {m : MethodId} {args : Array Value} {below : List Frame} {meth : Method} {c : Code} {T : State} {locs : List Loc} {cells slots : Nat}
theorem retI (X : Stand p l e R s m args below meth c T locs cells slots) (hx : p.tables.exec = Jvm.exec) {pc : Nat} {Ls : Array Slot} {z : Int32} {rest : List Value} (hret : meth.sig.returnType = some .int) (hd : decode c.code pc = .ok (.ireturn, 1)) {fs : List Frame}
    (hl : ∀ (f : JFrame) (acts : List Action), f.method = m → f.locked = none → f.entered = [] → (doReturn e (T.setTop f) acts (some (.int z))).1 = T.setFrames fs) : Steps p.tables e below (T.setTop (mkF m pc Ls (.int z :: rest))) (T.setFrames fs) := by
  have hm' : T.vm.method? m = some meth := X.method'
  have hn : narrow .int (.int z) = .int z := rfl
  show Steps p.tables e below (T.setTop { method := m, pc := pc, locals := Ls, stack := _ :: rest, locked := none }) _
  jvm_step X.here [X.here.top, hx, hd, hm', hret, hn]
  first | (intro acts; rw [hl _ acts rfl rfl rfl]) | rw [hl _ _ rfl rfl rfl]
  exact Steps.refl _
end New
end Jvm.RoadKit
namespace Jvm.Pilot.@@N@@
open Jvm Jvm.ClassFile Sem Op Lib Jvm.Free Jvm.Stand Jvm.LawKit Jvm.RoadKit Bundle Jvm.Pilot.@@N@@.Jvm.D
theorem own_lc_lt (x y : Int64) : lcmpW x y < 0 ↔ x < y := by rw [lcW]; exact lc_lt x y
theorem own_lc_gt (x y : Int64) : 0 < lcmpW x y ↔ y < x := by rw [lcW]; exact lc_gt x y
theorem own_lc_eq (x y : Int64) : lcmpW x y = 0 ↔ x = y := by rw [lcW]; exact lc_eq x y
theorem own_ri {P : Prop} [Decidable P] {a b : Value} (h1 : a.isRef = true) (h2 : b.isRef = true) : (if P then a else b).isRef = true := by
  by_cases h : P
  · rw [if_pos h]; exact h1
  · rw [if_neg h]; exact h2
theorem own_sta_keep {Z : State} {h h' : Heap} {C n d : String} {w : Value} {ws : List Addr} (F : Sta Z h C n d w) (K : Keep h h' ws) (q : ∀ x ∈ ws, ∀ cell : Cell, h[x]? = some cell → cell.vm.isStatics = false) : Sta Z h' C n d w := by
  obtain ⟨cf, i, k, f, st, cell, h1, h2, h3, h4, h5, h6, h7⟩ := F
  exact ⟨cf, i, k, f, st, cell, h1, h2, h3, h4, K.2.1 st cell h5 (fun z => by rw [q st z cell h5] at h6; cases h6), h6, h7⟩
theorem pd_0 : parseMethodDescriptor "(B)Lcom/example/afterimage/afterimage/log/LogRecord$Type;" = some ⟨[.byte], some (.object "com/example/afterimage/afterimage/log/LogRecord$Type")⟩ := by decide +kernel
theorem pd_1 : parseMethodDescriptor "()[Lcom/example/afterimage/afterimage/log/LogRecord$Type;" = some ⟨[], some (.array (.object "com/example/afterimage/afterimage/log/LogRecord$Type"))⟩ := by decide +kernel
theorem pd_2 : parseMethodDescriptor "()Ljava/lang/Object;" = some ⟨[], some (.object "java/lang/Object")⟩ := by decide +kernel
theorem pd_3 : parseMethodDescriptor "(I)Lcom/example/afterimage/afterimage/log/LogRecord$Type;" = some ⟨[.int], some (.object "com/example/afterimage/afterimage/log/LogRecord$Type")⟩ := by decide +kernel
theorem own_eqr {Z : State} {args : Array Value} {X F : Term} {idx : List Nat} {y : Addr} (hF : F.eval args Z none idx Z = some (.ref y)) (h : (Cond.eq X F).value args Z none Z idx = some true) : X.eval args Z none idx Z = some (.ref y) := by
  obtain ⟨x, y', e1, e2, k1, k2⟩ := cmp_v (Or.inl h)
  cases hF.symm.trans e2
  have hx : x.isRef = true := k2.2
  exact e1.trans (congrArg some (gotT (eq_R e1 hF hx rfl) h))
theorem own_len {args : Array Value} {s : State} {t : Term} {a : Addr} {cell : Cell} {v : Value} (ev : t.eval args s none [] s = some (.ref a)) (hc : s.arrayAt? a = some cell) (h : (Term.length t).eval args s none [] s = some v) : cell.slots.size < 2 ^ 31 := by
  simp only [Term.eval, ev, hc, Option.bind_eq_bind, Option.bind_some] at h
  split at h
  · assumption
  · cases h
def own_of (x : Int32) (a1 a2 a3 a4 a5 a6 a7 a8 a9 a10 a11 a12 a13 : Addr) : Value := if (1 : Int32) = x then .ref a1 else if (2 : Int32) = x then .ref a2 else if (12 : Int32) = x then .ref a12 else if (13 : Int32) = x then .ref a13 else if (3 : Int32) = x then .ref a3 else if (4 : Int32) = x then .ref a4 else if (5 : Int32) = x then .ref a5 else if (6 : Int32) = x then .ref a6 else if (7 : Int32) = x then .ref a7 else if (8 : Int32) = x then .ref a8 else if (9 : Int32) = x then .ref a9 else if (10 : Int32) = x then .ref a10 else if (11 : Int32) = x then .ref a11 else .null
def own_ex (x : Int32) (a1 a2 a3 a4 a5 a6 a7 a8 a9 a10 a11 a12 a13 : Addr) : Value := if x = (1 : Int32) then .ref a1 else if x = (2 : Int32) then .ref a2 else if x = (3 : Int32) then .ref a3 else if x = (4 : Int32) then .ref a4 else if x = (5 : Int32) then .ref a5 else if x = (6 : Int32) then .ref a6 else if x = (7 : Int32) then .ref a7 else if x = (8 : Int32) then .ref a8 else if x = (9 : Int32) then .ref a9 else if x = (10 : Int32) then .ref a10 else if x = (11 : Int32) then .ref a11 else if x = (12 : Int32) then .ref a12 else if x = (13 : Int32) then .ref a13 else .null
theorem own_of_ref (x : Int32) (a1 a2 a3 a4 a5 a6 a7 a8 a9 a10 a11 a12 a13 : Addr) : (own_of x a1 a2 a3 a4 a5 a6 a7 a8 a9 a10 a11 a12 a13).isRef = true := by unfold own_of; repeat' first | apply own_ri | rfl
theorem own_ex_ref (x : Int32) (a1 a2 a3 a4 a5 a6 a7 a8 a9 a10 a11 a12 a13 : Addr) : (own_ex x a1 a2 a3 a4 a5 a6 a7 a8 a9 a10 a11 a12 a13).isRef = true := by unfold own_ex; repeat' first | apply own_ri | rfl
theorem own_same (x : Int32) (a1 a2 a3 a4 a5 a6 a7 a8 a9 a10 a11 a12 a13 : Addr) : own_of x a1 a2 a3 a4 a5 a6 a7 a8 a9 a10 a11 a12 a13 = own_ex x a1 a2 a3 a4 a5 a6 a7 a8 a9 a10 a11 a12 a13 := by
  by_cases u1 : x = 1
  · subst u1; rfl
  by_cases u2 : x = 2
  · subst u2; rfl
  by_cases u3 : x = 3
  · subst u3; rfl
  by_cases u4 : x = 4
  · subst u4; rfl
  by_cases u5 : x = 5
  · subst u5; rfl
  by_cases u6 : x = 6
  · subst u6; rfl
  by_cases u7 : x = 7
  · subst u7; rfl
  by_cases u8 : x = 8
  · subst u8; rfl
  by_cases u9 : x = 9
  · subst u9; rfl
  by_cases u10 : x = 10
  · subst u10; rfl
  by_cases u11 : x = 11
  · subst u11; rfl
  by_cases u12 : x = 12
  · subst u12; rfl
  by_cases u13 : x = 13
  · subst u13; rfl
  unfold own_of own_ex
  rw [if_neg (fun q => u1 q.symm), if_neg (fun q => u2 q.symm), if_neg (fun q => u12 q.symm), if_neg (fun q => u13 q.symm), if_neg (fun q => u3 q.symm), if_neg (fun q => u4 q.symm), if_neg (fun q => u5 q.symm), if_neg (fun q => u6 q.symm), if_neg (fun q => u7 q.symm), if_neg (fun q => u8 q.symm), if_neg (fun q => u9 q.symm), if_neg (fun q => u10 q.symm), if_neg (fun q => u11 q.symm)]
  rw [if_neg u1, if_neg u2, if_neg u3, if_neg u4, if_neg u5, if_neg u6, if_neg u7, if_neg u8, if_neg u9, if_neg u10, if_neg u11, if_neg u12, if_neg u13]
theorem d2_0 : decode prog_39_method_1_code 0 = .ok (.getstatic 43, 3) := by decide +kernel
theorem d2_3 : decode prog_39_method_1_code 3 = .ok (.invokevirtual 47, 3) := by decide +kernel
theorem d2_6 : decode prog_39_method_1_code 6 = .ok (.checkcast 48, 3) := by decide +kernel
theorem d2_9 : decode prog_39_method_1_code 9 = .ok (.areturn, 1) := by decide +kernel
theorem pn_0 : plainName "com/example/afterimage/afterimage/log/LogRecord$Type" = true := by first | (simp [plainName, overriddenIn]; done) | decide +kernel
theorem ef_rm2 (m : MethodId)  : entryFrame m #[] 0 = mkF m 0 #[] [] := by first | (simp [entryFrame, mkF, argsToLocals, Value.category]; done) | rfl
def Q_rm2 (Z : State) (va : Addr) (cl : Cell) (h0 : Heap) (n0 : Nat) (v : Option Value) (h : Heap) (L : List Loc) : Prop := ∃ b, v = some (.ref b) ∧ Fr n0 L ∧ Keep h0 h [] ∧ h0.size ≤ b ∧ Arr Z h b (cloneOf cl) (.object "com/example/afterimage/afterimage/log/LogRecord$Type")
set_option maxRecDepth 65536 in
set_option maxHeartbeats 40000000 in
theorem rm2 (l : Launch) (Z : State) (a0 : Array Value) (hw : ∀ d ∈ tables_1, d.before a0 Z = true) (ws : List Jvm.Cond) (va : Addr) (cl : Cell) (h0 : Heap) (n0 : Nat) (Z0 : n0 ≤ h0.size) (S_V : Sta Z h0 "com/example/afterimage/afterimage/log/LogRecord$Type" "$VALUES" "[Lcom/example/afterimage/afterimage/log/LogRecord$Type;" (.ref va)) (Ar : Arr Z h0 va cl (.object "com/example/afterimage/afterimage/log/LogRecord$Type")) (Ev : Exa Z h0 va "[Lcom/example/afterimage/afterimage/log/LogRecord$Type;") (Fc : FitC Z cl) (hsz : cl.slots.size = (13 : Int32).toNatClampNeg) :
    MetFree l (⟨"com/example/afterimage/afterimage/log/LogRecord$Type", "values", "()[Lcom/example/afterimage/afterimage/log/LogRecord$Type;"⟩ : MethodName) (head1 (Jvm.Cond.code (⟨"com/example/afterimage/afterimage/log/LogRecord$Type", "values", "()[Lcom/example/afterimage/afterimage/log/LogRecord$Type;"⟩ : MethodName) prog_39_method_1_code 0 (some (.array (.object "com/example/afterimage/afterimage/log/LogRecord$Type"))) :: ws) ({ frames := 1, cells := 1, slots := 13, locals := 14 } : Room)) (fun a U => a = #[] ∧ Z.Warmed39 U.vm ∧ U.heap = h0) (fun _ _ _ _ _ => True) (fun _ U o U' => ∃ v L, o = .returned v ∧ Q_rm2 Z va cl h0 n0 v U'.heap L ∧ FrameEnd U o U' L ({ frames := 1, cells := 1, slots := 13, locals := 14 } : Room).cells ({ frames := 1, cells := 1, slots := 13, locals := 14 } : Room).slots) := by
  refine MetFree.of_bodySF (plainFor_of_name pn_0) hisR ?_
  intro p e s m args below meth c s₁ Bd hml0 hP hK
  obtain ⟨rfl, hZ, hh⟩ := hP
  have hx := Bd.exec
  have hby := Bd.bytes
  have hml : c.maxLocals = 0 := hml0
  have hown : s.vm.findClass "com/example/afterimage/afterimage/log/LogRecord$Type" = some m.cls := findClass_of_methodNamed Bd.named
  have hnm := (name_of_methodNamed Bd.named Bd.method).1
  have X0 : Stand p l e ({ frames := 1, cells := 1, slots := 13, locals := 14 } : Room) s m #[] below meth c s₁ [] 0 0 := Stand.of_body Bd
  have e0 : s₁.heap = h0 := by rw [← hh, Bd.state]; rfl
  have N0 := Fr.nil n0
  have pre0 : ∀ t, Steps p.tables e below (s₁.setTop (mkF m 0 #[] [])) t → Steps p.tables e below (s₁.setTop (entryFrame m #[] 0)) t := fun t k => castTop (ef_rm2 m ) k
  have Kp : Keep h0 h0 [] := Keep.refl _ _
  obtain ⟨T1, X1, e1, st1⟩ := getS2 X0 hx hZ hown (host := "") (Or.inl (hw _ (List.mem_of_getElem? (i := 7) rfl))) Via.refl e0 S_V (g := (mkF m 0 #[] [])) rfl (hb hby d2_0)
  obtain ⟨T2, h2, X2, e2, E2, Ar2, Ex2, st2⟩ := cloneA X1 hx hZ hown (hw _ (List.mem_of_getElem? (i := 9) rfl)) (hw _ (List.mem_of_getElem? (i := 10) rfl)) (hw _ (List.mem_of_getElem? (i := 14) rfl)) (hw _ (List.mem_of_getElem? (i := 12) rfl)) (hw _ (List.mem_of_getElem? (i := 13) rfl)) (hw _ (List.mem_of_getElem? (i := 15) rfl)) e1 Ar Ev Fc (g := (mkF m 3 #[] [(.ref va)])) rfl (by rw [hml]; rfl) rfl (hb hby d2_3) (by decide) (W := 0) (cap := 13) (by show 2 * 0 + _ ≤ _; exact Nat.le_of_eq rfl) (by decide) (Nat.le_of_eq hsz) (by decide) (by decide)
  obtain ⟨b, g2⟩ : ∃ z, z = h0.size := ⟨_, rfl⟩
  rw [← g2] at Ar2 Ex2 st2
  have g_b : n0 ≤ b := Nat.le_trans Z0 (Nat.le_of_eq g2.symm)
  have sz_b : h0.size ≤ b := Nat.le_trans Kp.1 (Nat.le_of_eq g2.symm)
  have S_V_2 := S_V.ext E2
  have Z_2 : n0 ≤ h2.size := Nat.le_trans Z0 E2.1
  have Kp_2 : Keep h0 h2 [] := Kp.ext E2
  obtain ⟨T3, X3, e3, st3⟩ := castY X2 hx hZ hown (hw _ (List.mem_of_getElem? (i := 30) rfl)) e2 (Ins.self Ex2) (g := (mkF m 6 #[] [(.ref b)])) rfl rfl (hb hby d2_6)
  obtain ⟨fs, hr, hrun, hended, hW, hsame⟩ := X3.leave (v := some (.ref b)) (fun h => by rw [Bd.returns] at h; cases h)
  refine ⟨_, _, pre0 _ (st1 _ (st2 _ (st3 _ ?_))), hrun, hended, _, _, rfl, ?_, ⟨_, rfl⟩, hW, hsame.mono (by decide) (by decide)⟩
  · show Steps p.tables e below (T3.setTop (mkF m 9 #[] [(.ref b)])) _
    jvm_step X3.here [X3.here.top, hx, (hb hby d2_9), X3.method', Bd.returns, Value.isRef, FieldType.isReference]
    first | (intro acts; rw [hr _ acts rfl rfl rfl]) | rw [hr _ _ rfl rfl rfl]
    exact Steps.refl _
  · show Q_rm2 Z va cl h0 n0 _ T3.heap _
    rw [e3]
    exact ⟨b, rfl, N0, Kp_2, sz_b, Ar2⟩
theorem d1_0 : decode prog_39_method_5_code 0 = .ok (.invokestatic 70, 3) := by decide +kernel
theorem d1_3 : decode prog_39_method_5_code 3 = .ok (.astore_n 1, 1) := by decide +kernel
theorem d1_4 : decode prog_39_method_5_code 4 = .ok (.aload_n 1, 1) := by decide +kernel
theorem d1_5 : decode prog_39_method_5_code 5 = .ok (.arraylength, 1) := by decide +kernel
theorem d1_6 : decode prog_39_method_5_code 6 = .ok (.istore_n 2, 1) := by decide +kernel
theorem d1_7 : decode prog_39_method_5_code 7 = .ok (.iconst 0, 1) := by decide +kernel
theorem d1_8 : decode prog_39_method_5_code 8 = .ok (.istore_n 3, 1) := by decide +kernel
theorem d1_9 : decode prog_39_method_5_code 9 = .ok (.iload_n 3, 1) := by decide +kernel
theorem d1_10 : decode prog_39_method_5_code 10 = .ok (.iload_n 2, 1) := by decide +kernel
theorem d1_11 : decode prog_39_method_5_code 11 = .ok (.if_icmp .ge 26, 3) := by decide +kernel
theorem d1_14 : decode prog_39_method_5_code 14 = .ok (.aload_n 1, 1) := by decide +kernel
theorem d1_15 : decode prog_39_method_5_code 15 = .ok (.iload_n 3, 1) := by decide +kernel
theorem d1_16 : decode prog_39_method_5_code 16 = .ok (.aaload, 1) := by decide +kernel
theorem d1_17 : decode prog_39_method_5_code 17 = .ok (.astore 4, 2) := by decide +kernel
theorem d1_19 : decode prog_39_method_5_code 19 = .ok (.aload 4, 2) := by decide +kernel
theorem d1_21 : decode prog_39_method_5_code 21 = .ok (.getfield 62, 3) := by decide +kernel
theorem d1_24 : decode prog_39_method_5_code 24 = .ok (.iload_n 0, 1) := by decide +kernel
theorem d1_25 : decode prog_39_method_5_code 25 = .ok (.if_icmp .ne 6, 3) := by decide +kernel
theorem d1_28 : decode prog_39_method_5_code 28 = .ok (.aload 4, 2) := by decide +kernel
theorem d1_30 : decode prog_39_method_5_code 30 = .ok (.areturn, 1) := by decide +kernel
theorem d1_31 : decode prog_39_method_5_code 31 = .ok (.iinc 3 1, 3) := by decide +kernel
theorem d1_34 : decode prog_39_method_5_code 34 = .ok (.goto (-25), 3) := by decide +kernel
theorem d1_37 : decode prog_39_method_5_code 37 = .ok (.aconst_null, 1) := by decide +kernel
theorem d1_38 : decode prog_39_method_5_code 38 = .ok (.areturn, 1) := by decide +kernel
theorem ef_rm1 (m : MethodId) (x0 : Int32) : entryFrame m #[(.int x0)] 5 = mkF m 0 #[.val (.int x0), .unset, .unset, .unset, .unset] [] := by first | (simp [entryFrame, mkF, argsToLocals, Value.category]; done) | rfl
def Q_rm1 (Z : State) (p0 : Int32) (va : Addr) (cl : Cell) (a1 : Addr) (a2 : Addr) (a3 : Addr) (a4 : Addr) (a5 : Addr) (a6 : Addr) (a7 : Addr) (a8 : Addr) (a9 : Addr) (a10 : Addr) (a11 : Addr) (a12 : Addr) (a13 : Addr) (h0 : Heap) (n0 : Nat) (v : Option Value) (h : Heap) (L : List Loc) : Prop := v = some (own_of p0 a1 a2 a3 a4 a5 a6 a7 a8 a9 a10 a11 a12 a13) ∧ Fr n0 L ∧ Keep h0 h []
set_option maxRecDepth 65536 in
set_option maxHeartbeats 40000000 in
theorem rm1 (l : Launch) (Z : State) (a0 : Array Value) (hw : ∀ d ∈ tables_1, d.before a0 Z = true) (ws : List Jvm.Cond) (p0 : Int32) (va : Addr) (cl : Cell) (a1 : Addr) (a2 : Addr) (a3 : Addr) (a4 : Addr) (a5 : Addr) (a6 : Addr) (a7 : Addr) (a8 : Addr) (a9 : Addr) (a10 : Addr) (a11 : Addr) (a12 : Addr) (a13 : Addr) (h0 : Heap) (n0 : Nat) (Z0 : n0 ≤ h0.size) (S_V : Sta Z h0 "com/example/afterimage/afterimage/log/LogRecord$Type" "$VALUES" "[Lcom/example/afterimage/afterimage/log/LogRecord$Type;" (.ref va)) (Ar : Arr Z h0 va cl (.object "com/example/afterimage/afterimage/log/LogRecord$Type")) (Ev : Exa Z h0 va "[Lcom/example/afterimage/afterimage/log/LogRecord$Type;") (Fc : FitC Z cl) (hsz : cl.slots.size = (13 : Int32).toNatClampNeg) (hat0 : cl.slots[0]? = some (.ref a1)) (hat1 : cl.slots[1]? = some (.ref a2)) (hat2 : cl.slots[2]? = some (.ref a12)) (hat3 : cl.slots[3]? = some (.ref a13)) (hat4 : cl.slots[4]? = some (.ref a3)) (hat5 : cl.slots[5]? = some (.ref a4)) (hat6 : cl.slots[6]? = some (.ref a5)) (hat7 : cl.slots[7]? = some (.ref a6)) (hat8 : cl.slots[8]? = some (.ref a7)) (hat9 : cl.slots[9]? = some (.ref a8)) (hat10 : cl.slots[10]? = some (.ref a9)) (hat11 : cl.slots[11]? = some (.ref a10)) (hat12 : cl.slots[12]? = some (.ref a11)) (F1 : Fld Z h0 a1 "com/example/afterimage/afterimage/log/LogRecord$Type" "code" "B" (.int (1 : Int32))) (F2 : Fld Z h0 a2 "com/example/afterimage/afterimage/log/LogRecord$Type" "code" "B" (.int (2 : Int32))) (F12 : Fld Z h0 a12 "com/example/afterimage/afterimage/log/LogRecord$Type" "code" "B" (.int (12 : Int32))) (F13 : Fld Z h0 a13 "com/example/afterimage/afterimage/log/LogRecord$Type" "code" "B" (.int (13 : Int32))) (F3 : Fld Z h0 a3 "com/example/afterimage/afterimage/log/LogRecord$Type" "code" "B" (.int (3 : Int32))) (F4 : Fld Z h0 a4 "com/example/afterimage/afterimage/log/LogRecord$Type" "code" "B" (.int (4 : Int32))) (F5 : Fld Z h0 a5 "com/example/afterimage/afterimage/log/LogRecord$Type" "code" "B" (.int (5 : Int32))) (F6 : Fld Z h0 a6 "com/example/afterimage/afterimage/log/LogRecord$Type" "code" "B" (.int (6 : Int32))) (F7 : Fld Z h0 a7 "com/example/afterimage/afterimage/log/LogRecord$Type" "code" "B" (.int (7 : Int32))) (F8 : Fld Z h0 a8 "com/example/afterimage/afterimage/log/LogRecord$Type" "code" "B" (.int (8 : Int32))) (F9 : Fld Z h0 a9 "com/example/afterimage/afterimage/log/LogRecord$Type" "code" "B" (.int (9 : Int32))) (F10 : Fld Z h0 a10 "com/example/afterimage/afterimage/log/LogRecord$Type" "code" "B" (.int (10 : Int32))) (F11 : Fld Z h0 a11 "com/example/afterimage/afterimage/log/LogRecord$Type" "code" "B" (.int (11 : Int32))) :
    MetFree l (⟨"com/example/afterimage/afterimage/log/LogRecord$Type", "of", "(B)Lcom/example/afterimage/afterimage/log/LogRecord$Type;"⟩ : MethodName) (head1 (Jvm.Cond.code (⟨"com/example/afterimage/afterimage/log/LogRecord$Type", "of", "(B)Lcom/example/afterimage/afterimage/log/LogRecord$Type;"⟩ : MethodName) prog_39_method_5_code 5 (some (.object "com/example/afterimage/afterimage/log/LogRecord$Type")) :: ws) ({ frames := 2, cells := 1, slots := 13, locals := 25 } : Room)) (fun a U => a = #[(.int p0)] ∧ Z.Warmed39 U.vm ∧ U.heap = h0) (fun _ _ _ _ _ => True) (fun _ U o U' => ∃ v L, o = .returned v ∧ Q_rm1 Z p0 va cl a1 a2 a3 a4 a5 a6 a7 a8 a9 a10 a11 a12 a13 h0 n0 v U'.heap L ∧ FrameEnd U o U' L ({ frames := 2, cells := 1, slots := 13, locals := 25 } : Room).cells ({ frames := 2, cells := 1, slots := 13, locals := 25 } : Room).slots) := by
  refine MetFree.of_bodySF (plainFor_of_name pn_0) hisR ?_
  intro p e s m args below meth c s₁ Bd hml0 hP hK
  obtain ⟨rfl, hZ, hh⟩ := hP
  have hx := Bd.exec
  have hby := Bd.bytes
  have hml : c.maxLocals = 5 := hml0
  have hown : s.vm.findClass "com/example/afterimage/afterimage/log/LogRecord$Type" = some m.cls := findClass_of_methodNamed Bd.named
  have hnm := (name_of_methodNamed Bd.named Bd.method).1
  have X0 : Stand p l e ({ frames := 2, cells := 1, slots := 13, locals := 25 } : Room) s m #[(.int p0)] below meth c s₁ [] 0 0 := Stand.of_body Bd
  have e0 : s₁.heap = h0 := by rw [← hh, Bd.state]; rfl
  have N0 := Fr.nil n0
  have pre0 : ∀ t, Steps p.tables e below (s₁.setTop (mkF m 0 #[.val (.int p0), .unset, .unset, .unset, .unset] [])) t → Steps p.tables e below (s₁.setTop (entryFrame m #[(.int p0)] 5)) t := fun t k => castTop (ef_rm1 m p0) k
  have Kp : Keep h0 h0 [] := Keep.refl _ _
  obtain ⟨_, _, ⟨T1, L1, k1, n1⟩, -, X1, ⟨Lc1, hQ1, l1, y1, z1⟩, st1⟩ := Jvm.LawKit.callS X0 hx (y := (⟨"com/example/afterimage/afterimage/log/LogRecord$Type", "values", "()[Lcom/example/afterimage/afterimage/log/LogRecord$Type;"⟩ : MethodName)) hown (mvT hZ (hw _ (List.mem_of_getElem? (i := 4) rfl))) (mvT hZ (hw _ (List.mem_of_getElem? (i := 5) rfl))) (mvT hZ (hw _ (List.mem_of_getElem? (i := 2) rfl))) (mvT hZ (hw _ (List.mem_of_getElem? (i := 6) rfl))) (by decide) (backOf (W := 0) (rm2 l Z a0 hw []  va cl h0 n0 Z0 S_V Ar Ev Fc hsz) hZ (hw _ (List.mem_of_getElem? (i := 6) rfl)) (hw _ (List.mem_of_getElem? (i := 2) rfl)) (by decide) (by decide)) (g := (mkF m 0 #[.val (.int p0), .unset, .unset, .unset, .unset] [])) rfl (by rw [hml]; rfl) (argsL := []) (rest := []) (lenOf pd_1 rfl) rfl (by show 2 * 0 + _ ≤ _; exact Nat.le_of_eq rfl) (hb hby d1_0) (fun _ _ => ⟨rfl, e0, (by decide : 0 + 1 ≤ _), (by decide : 0 + 13 ≤ _)⟩)
  dsimp only [Pt.U, Pt.locs, Pt.cells, Pt.slots] at X1 l1 y1 z1 st1 hQ1
  subst l1 y1 z1
  obtain ⟨b1, rfl, Nq1, K1, sz1, Ab⟩ := hQ1
  have N1 := Fr.app N0 Nq1
  have g_b1 : n0 ≤ b1 := Nat.le_trans Z0 sz1
  have sz_b1 : h0.size ≤ b1 := Nat.le_trans Kp.1 sz1
  have ne_a1_b1 : a1 ≠ b1 := Nat.ne_of_lt (Nat.lt_of_lt_of_le F1.lt sz1)
  have ne_a2_b1 : a2 ≠ b1 := Nat.ne_of_lt (Nat.lt_of_lt_of_le F2.lt sz1)
  have ne_a12_b1 : a12 ≠ b1 := Nat.ne_of_lt (Nat.lt_of_lt_of_le F12.lt sz1)
  have ne_a13_b1 : a13 ≠ b1 := Nat.ne_of_lt (Nat.lt_of_lt_of_le F13.lt sz1)
  have ne_a3_b1 : a3 ≠ b1 := Nat.ne_of_lt (Nat.lt_of_lt_of_le F3.lt sz1)
  have ne_a4_b1 : a4 ≠ b1 := Nat.ne_of_lt (Nat.lt_of_lt_of_le F4.lt sz1)
  have ne_a5_b1 : a5 ≠ b1 := Nat.ne_of_lt (Nat.lt_of_lt_of_le F5.lt sz1)
  have ne_a6_b1 : a6 ≠ b1 := Nat.ne_of_lt (Nat.lt_of_lt_of_le F6.lt sz1)
  have ne_a7_b1 : a7 ≠ b1 := Nat.ne_of_lt (Nat.lt_of_lt_of_le F7.lt sz1)
  have ne_a8_b1 : a8 ≠ b1 := Nat.ne_of_lt (Nat.lt_of_lt_of_le F8.lt sz1)
  have ne_a9_b1 : a9 ≠ b1 := Nat.ne_of_lt (Nat.lt_of_lt_of_le F9.lt sz1)
  have ne_a10_b1 : a10 ≠ b1 := Nat.ne_of_lt (Nat.lt_of_lt_of_le F10.lt sz1)
  have ne_a11_b1 : a11 ≠ b1 := Nat.ne_of_lt (Nat.lt_of_lt_of_le F11.lt sz1)
  have F1_1 := F1.keep K1 nin0
  have F2_1 := F2.keep K1 nin0
  have F12_1 := F12.keep K1 nin0
  have F13_1 := F13.keep K1 nin0
  have F3_1 := F3.keep K1 nin0
  have F4_1 := F4.keep K1 nin0
  have F5_1 := F5.keep K1 nin0
  have F6_1 := F6.keep K1 nin0
  have F7_1 := F7.keep K1 nin0
  have F8_1 := F8.keep K1 nin0
  have F9_1 := F9.keep K1 nin0
  have F10_1 := F10.keep K1 nin0
  have F11_1 := F11.keep K1 nin0
  have Z_1 : n0 ≤ T1.heap.size := Nat.le_trans Z0 K1.1
  have Kp_1 : Keep h0 T1.heap [] := Kp.trans K1 (all0)
  have st2 : ∀ target, Steps p.tables e below (T1.setTop (mkF m 5 #[.val (.int p0), .val (.ref b1), .unset, .unset, .unset] [(.ref b1)])) target → Steps p.tables e below (T1.setTop (mkF m 3 #[.val (.int p0), .unset, .unset, .unset, .unset] [(.ref b1)])) target := by
    intro target kt
    show Steps p.tables e below (T1.setTop (mkF m 3 #[.val (.int p0), .unset, .unset, .unset, .unset] [(.ref b1)])) _
    refine XS.astoreN X1.here hx rfl (hb hby d1_3) rfl rfl (l' := #[.val (.int p0), .val (.ref b1), .unset, .unset, .unset]) rfl ?_
    show Steps p.tables e below (T1.setTop (mkF m 4 #[.val (.int p0), .val (.ref b1), .unset, .unset, .unset] [])) _
    refine XS.aloadN X1.here hx rfl (hb hby d1_4) rfl rfl ?_
    exact kt
  have st3 : ∀ target, Steps p.tables e below (T1.setTop (mkF m 6 #[.val (.int p0), .val (.ref b1), .unset, .unset, .unset] [(.int (13 : Int32))])) target → Steps p.tables e below (T1.setTop (mkF m 5 #[.val (.int p0), .val (.ref b1), .unset, .unset, .unset] [(.ref b1)])) target := fun target kt => X1.arraylength hx (cell := (cloneOf cl)) Ab.1 (State.isArrayOf_alike hZ.alike Ab.2.1) (g := (mkF m 5 #[.val (.int p0), .val (.ref b1), .unset, .unset, .unset] [(.ref b1)])) rfl rfl (hb hby d1_5) _ (by rw [len_of (c := (cloneOf cl)) hsz (by decide)]; exact kt)
  have st4 : ∀ target, Steps p.tables e below (T1.setTop (mkF m 16 #[.val (.int p0), .val (.ref b1), .val (.int (13 : Int32)), .val (.int (0 : Int32)), .unset] [(.int (0 : Int32)), (.ref b1)])) target → Steps p.tables e below (T1.setTop (mkF m 6 #[.val (.int p0), .val (.ref b1), .unset, .unset, .unset] [(.int (13 : Int32))])) target := by
    intro target kt
    show Steps p.tables e below (T1.setTop (mkF m 6 #[.val (.int p0), .val (.ref b1), .unset, .unset, .unset] [(.int (13 : Int32))])) _
    refine XS.istoreN X1.here hx rfl (hb hby d1_6) rfl (l' := #[.val (.int p0), .val (.ref b1), .val (.int (13 : Int32)), .unset, .unset]) rfl ?_
    show Steps p.tables e below (T1.setTop (mkF m 7 #[.val (.int p0), .val (.ref b1), .val (.int (13 : Int32)), .unset, .unset] [])) _
    refine XS.iconst X1.here hx rfl (hb hby d1_7) ?_
    show Steps p.tables e below (T1.setTop (mkF m 8 #[.val (.int p0), .val (.ref b1), .val (.int (13 : Int32)), .unset, .unset] [(.int (0 : Int32))])) _
    refine XS.istoreN X1.here hx rfl (hb hby d1_8) rfl (l' := #[.val (.int p0), .val (.ref b1), .val (.int (13 : Int32)), .val (.int (0 : Int32)), .unset]) rfl ?_
    show Steps p.tables e below (T1.setTop (mkF m 9 #[.val (.int p0), .val (.ref b1), .val (.int (13 : Int32)), .val (.int (0 : Int32)), .unset] [])) _
    refine XS.iloadN X1.here hx rfl (hb hby d1_9) rfl ?_
    show Steps p.tables e below (T1.setTop (mkF m 10 #[.val (.int p0), .val (.ref b1), .val (.int (13 : Int32)), .val (.int (0 : Int32)), .unset] [(.int (0 : Int32))])) _
    refine XS.iloadN X1.here hx rfl (hb hby d1_10) rfl ?_
    show Steps p.tables e below (T1.setTop (mkF m 11 #[.val (.int p0), .val (.ref b1), .val (.int (13 : Int32)), .val (.int (0 : Int32)), .unset] [(.int (13 : Int32)), (.int (0 : Int32))])) _
    refine XS.icmpNo X1.here hx rfl (hb hby d1_11) rfl (tlt (by decide : ((0 : Int32) < (13 : Int32)))).2.1 ?_
    show Steps p.tables e below (T1.setTop (mkF m 14 #[.val (.int p0), .val (.ref b1), .val (.int (13 : Int32)), .val (.int (0 : Int32)), .unset] [])) _
    refine XS.aloadN X1.here hx rfl (hb hby d1_14) rfl rfl ?_
    show Steps p.tables e below (T1.setTop (mkF m 15 #[.val (.int p0), .val (.ref b1), .val (.int (13 : Int32)), .val (.int (0 : Int32)), .unset] [(.ref b1)])) _
    refine XS.iloadN X1.here hx rfl (hb hby d1_15) rfl ?_
    exact kt
  have st5 : ∀ target, Steps p.tables e below (T1.setTop (mkF m 17 #[.val (.int p0), .val (.ref b1), .val (.int (13 : Int32)), .val (.int (0 : Int32)), .unset] [(.ref a1)])) target → Steps p.tables e below (T1.setTop (mkF m 16 #[.val (.int p0), .val (.ref b1), .val (.int (13 : Int32)), .val (.int (0 : Int32)), .unset] [(.int (0 : Int32)), (.ref b1)])) target := fun target kt => X1.aaload hx (j := (0 : Int32)) (v := (.ref a1)) Ab.1 (State.isArrayOf_alike hZ.alike Ab.2.1) rfl Ab.2.2 (inb_of (c := cloneOf cl) hsz ⟨by decide, by decide⟩) hat0 (g := (mkF m 16 #[.val (.int p0), .val (.ref b1), .val (.int (13 : Int32)), .val (.int (0 : Int32)), .unset] [(.int (0 : Int32)), (.ref b1)])) rfl rfl (hb hby d1_16) _ kt
  have st6 : ∀ target, Steps p.tables e below (T1.setTop (mkF m 21 #[.val (.int p0), .val (.ref b1), .val (.int (13 : Int32)), .val (.int (0 : Int32)), .val (.ref a1)] [(.ref a1)])) target → Steps p.tables e below (T1.setTop (mkF m 17 #[.val (.int p0), .val (.ref b1), .val (.int (13 : Int32)), .val (.int (0 : Int32)), .unset] [(.ref a1)])) target := by
    intro target kt
    show Steps p.tables e below (T1.setTop (mkF m 17 #[.val (.int p0), .val (.ref b1), .val (.int (13 : Int32)), .val (.int (0 : Int32)), .unset] [(.ref a1)])) _
    refine XS.astore X1.here hx rfl (hb hby d1_17) rfl rfl (l' := #[.val (.int p0), .val (.ref b1), .val (.int (13 : Int32)), .val (.int (0 : Int32)), .val (.ref a1)]) rfl ?_
    show Steps p.tables e below (T1.setTop (mkF m 19 #[.val (.int p0), .val (.ref b1), .val (.int (13 : Int32)), .val (.int (0 : Int32)), .val (.ref a1)] [])) _
    refine XS.aload X1.here hx rfl (hb hby d1_19) rfl rfl ?_
    exact kt
  obtain ⟨T7, X7, e7, st7⟩ := getF X1 hx hZ hown (host := "") (Or.inl (hw _ (List.mem_of_getElem? (i := 32) rfl))) Via.refl rfl F1_1 (g := (mkF m 21 #[.val (.int p0), .val (.ref b1), .val (.int (13 : Int32)), .val (.int (0 : Int32)), .val (.ref a1)] [(.ref a1)])) rfl rfl (hb hby d1_21)
  have st8 : ∀ target, Steps p.tables e below (T7.setTop (mkF m 25 #[.val (.int p0), .val (.ref b1), .val (.int (13 : Int32)), .val (.int (0 : Int32)), .val (.ref a1)] [(.int p0), (.int (1 : Int32))])) target → Steps p.tables e below (T7.setTop (mkF m 24 #[.val (.int p0), .val (.ref b1), .val (.int (13 : Int32)), .val (.int (0 : Int32)), .val (.ref a1)] [(.int (1 : Int32))])) target := by
    intro target kt
    show Steps p.tables e below (T7.setTop (mkF m 24 #[.val (.int p0), .val (.ref b1), .val (.int (13 : Int32)), .val (.int (0 : Int32)), .val (.ref a1)] [(.int (1 : Int32))])) _
    refine XS.iloadN X7.here hx rfl (hb hby d1_24) rfl ?_
    exact kt
  by_cases k1 : (1 : Int32) = p0
  · have st9 : ∀ target, Steps p.tables e below (T7.setTop (mkF m 28 #[.val (.int p0), .val (.ref b1), .val (.int (13 : Int32)), .val (.int (0 : Int32)), .val (.ref a1)] [])) target → Steps p.tables e below (T7.setTop (mkF m 25 #[.val (.int p0), .val (.ref b1), .val (.int (13 : Int32)), .val (.int (0 : Int32)), .val (.ref a1)] [(.int p0), (.int (1 : Int32))])) target := by
      intro target kt
      show Steps p.tables e below (T7.setTop (mkF m 25 #[.val (.int p0), .val (.ref b1), .val (.int (13 : Int32)), .val (.int (0 : Int32)), .val (.ref a1)] [(.int p0), (.int (1 : Int32))])) _
      refine XS.icmpNo X7.here hx rfl (hb hby d1_25) rfl (teq k1).2 ?_
      exact kt
    obtain ⟨fs, hr, hrun, hended, hW, hsame⟩ := X7.leave (v := some (.ref a1)) (fun h => by rw [Bd.returns] at h; cases h)
    refine ⟨_, _, pre0 _ (st1 _ (st2 _ (st3 _ (st4 _ (st5 _ (st6 _ (st7 _ (st8 _ (st9 _ ?_))))))))), hrun, hended, _, _, rfl, ?_, ⟨_, rfl⟩, hW, hsame.mono (by decide) (by decide)⟩
    · show Steps p.tables e below (T7.setTop (mkF m 28 #[.val (.int p0), .val (.ref b1), .val (.int (13 : Int32)), .val (.int (0 : Int32)), .val (.ref a1)] [])) _
      refine XS.aload X7.here hx rfl (hb hby d1_28) rfl rfl ?_
      show Steps p.tables e below (T7.setTop (mkF m 30 #[.val (.int p0), .val (.ref b1), .val (.int (13 : Int32)), .val (.int (0 : Int32)), .val (.ref a1)] [(.ref a1)])) _
      jvm_step X7.here [X7.here.top, hx, (hb hby d1_30), X7.method', Bd.returns, Value.isRef, FieldType.isReference]
      first | (intro acts; rw [hr _ acts rfl rfl rfl]) | rw [hr _ _ rfl rfl rfl]
      exact Steps.refl _
    · show Q_rm1 Z p0 va cl a1 a2 a3 a4 a5 a6 a7 a8 a9 a10 a11 a12 a13 h0 n0 _ T7.heap _
      rw [e7]
      exact ⟨by unfold own_of; rw [if_pos k1], N1, Kp_1⟩
  · have st10 : ∀ target, Steps p.tables e below (T7.setTop (mkF m 31 #[.val (.int p0), .val (.ref b1), .val (.int (13 : Int32)), .val (.int (0 : Int32)), .val (.ref a1)] [])) target → Steps p.tables e below (T7.setTop (mkF m 25 #[.val (.int p0), .val (.ref b1), .val (.int (13 : Int32)), .val (.int (0 : Int32)), .val (.ref a1)] [(.int p0), (.int (1 : Int32))])) target := by
      intro target kt
      show Steps p.tables e below (T7.setTop (mkF m 25 #[.val (.int p0), .val (.ref b1), .val (.int (13 : Int32)), .val (.int (0 : Int32)), .val (.ref a1)] [(.int p0), (.int (1 : Int32))])) _
      refine XS.icmpYes X7.here hx rfl (pc0 := 25) (pc' := 31) rfl (hb hby d1_25) rfl (feq k1).2 (by decide) (by decide) ?_
      exact kt
    have st11 : ∀ target, Steps p.tables e below (T7.setTop (mkF m 16 #[.val (.int p0), .val (.ref b1), .val (.int (13 : Int32)), .val (.int (1 : Int32)), .val (.ref a1)] [(.int (1 : Int32)), (.ref b1)])) target → Steps p.tables e below (T7.setTop (mkF m 31 #[.val (.int p0), .val (.ref b1), .val (.int (13 : Int32)), .val (.int (0 : Int32)), .val (.ref a1)] [])) target := by
      intro target kt
      show Steps p.tables e below (T7.setTop (mkF m 31 #[.val (.int p0), .val (.ref b1), .val (.int (13 : Int32)), .val (.int (0 : Int32)), .val (.ref a1)] [])) _
      refine XS.iinc X7.here hx rfl (hb hby d1_31) rfl (l' := #[.val (.int p0), .val (.ref b1), .val (.int (13 : Int32)), .val (.int (1 : Int32)), .val (.ref a1)]) rfl ?_
      show Steps p.tables e below (T7.setTop (mkF m 34 #[.val (.int p0), .val (.ref b1), .val (.int (13 : Int32)), .val (.int (1 : Int32)), .val (.ref a1)] [])) _
      refine XS.goto X7.here hx rfl (pc0 := 34) (pc' := 9) rfl (hb hby d1_34) (by decide) (by decide) ?_
      show Steps p.tables e below (T7.setTop (mkF m 9 #[.val (.int p0), .val (.ref b1), .val (.int (13 : Int32)), .val (.int (1 : Int32)), .val (.ref a1)] [])) _
      refine XS.iloadN X7.here hx rfl (hb hby d1_9) rfl ?_
      show Steps p.tables e below (T7.setTop (mkF m 10 #[.val (.int p0), .val (.ref b1), .val (.int (13 : Int32)), .val (.int (1 : Int32)), .val (.ref a1)] [(.int (1 : Int32))])) _
      refine XS.iloadN X7.here hx rfl (hb hby d1_10) rfl ?_
      show Steps p.tables e below (T7.setTop (mkF m 11 #[.val (.int p0), .val (.ref b1), .val (.int (13 : Int32)), .val (.int (1 : Int32)), .val (.ref a1)] [(.int (13 : Int32)), (.int (1 : Int32))])) _
      refine XS.icmpNo X7.here hx rfl (hb hby d1_11) rfl (tlt (by decide : ((1 : Int32) < (13 : Int32)))).2.1 ?_
      show Steps p.tables e below (T7.setTop (mkF m 14 #[.val (.int p0), .val (.ref b1), .val (.int (13 : Int32)), .val (.int (1 : Int32)), .val (.ref a1)] [])) _
      refine XS.aloadN X7.here hx rfl (hb hby d1_14) rfl rfl ?_
      show Steps p.tables e below (T7.setTop (mkF m 15 #[.val (.int p0), .val (.ref b1), .val (.int (13 : Int32)), .val (.int (1 : Int32)), .val (.ref a1)] [(.ref b1)])) _
      refine XS.iloadN X7.here hx rfl (hb hby d1_15) rfl ?_
      exact kt
    have st12 : ∀ target, Steps p.tables e below (T7.setTop (mkF m 17 #[.val (.int p0), .val (.ref b1), .val (.int (13 : Int32)), .val (.int (1 : Int32)), .val (.ref a1)] [(.ref a2)])) target → Steps p.tables e below (T7.setTop (mkF m 16 #[.val (.int p0), .val (.ref b1), .val (.int (13 : Int32)), .val (.int (1 : Int32)), .val (.ref a1)] [(.int (1 : Int32)), (.ref b1)])) target := fun target kt => X7.aaload hx (j := (1 : Int32)) (v := (.ref a2)) (by rw [e7]; exact Ab.1) (State.isArrayOf_alike hZ.alike Ab.2.1) rfl Ab.2.2 (inb_of (c := cloneOf cl) hsz ⟨by decide, by decide⟩) hat1 (g := (mkF m 16 #[.val (.int p0), .val (.ref b1), .val (.int (13 : Int32)), .val (.int (1 : Int32)), .val (.ref a1)] [(.int (1 : Int32)), (.ref b1)])) rfl rfl (hb hby d1_16) _ kt
    have st13 : ∀ target, Steps p.tables e below (T7.setTop (mkF m 21 #[.val (.int p0), .val (.ref b1), .val (.int (13 : Int32)), .val (.int (1 : Int32)), .val (.ref a2)] [(.ref a2)])) target → Steps p.tables e below (T7.setTop (mkF m 17 #[.val (.int p0), .val (.ref b1), .val (.int (13 : Int32)), .val (.int (1 : Int32)), .val (.ref a1)] [(.ref a2)])) target := by
      intro target kt
      show Steps p.tables e below (T7.setTop (mkF m 17 #[.val (.int p0), .val (.ref b1), .val (.int (13 : Int32)), .val (.int (1 : Int32)), .val (.ref a1)] [(.ref a2)])) _
      refine XS.astore X7.here hx rfl (hb hby d1_17) rfl rfl (l' := #[.val (.int p0), .val (.ref b1), .val (.int (13 : Int32)), .val (.int (1 : Int32)), .val (.ref a2)]) rfl ?_
      show Steps p.tables e below (T7.setTop (mkF m 19 #[.val (.int p0), .val (.ref b1), .val (.int (13 : Int32)), .val (.int (1 : Int32)), .val (.ref a2)] [])) _
      refine XS.aload X7.here hx rfl (hb hby d1_19) rfl rfl ?_
      exact kt
    obtain ⟨T14, X14, e14, st14⟩ := getF X7 hx hZ hown (host := "") (Or.inl (hw _ (List.mem_of_getElem? (i := 32) rfl))) Via.refl e7 F2_1 (g := (mkF m 21 #[.val (.int p0), .val (.ref b1), .val (.int (13 : Int32)), .val (.int (1 : Int32)), .val (.ref a2)] [(.ref a2)])) rfl rfl (hb hby d1_21)
    have st15 : ∀ target, Steps p.tables e below (T14.setTop (mkF m 25 #[.val (.int p0), .val (.ref b1), .val (.int (13 : Int32)), .val (.int (1 : Int32)), .val (.ref a2)] [(.int p0), (.int (2 : Int32))])) target → Steps p.tables e below (T14.setTop (mkF m 24 #[.val (.int p0), .val (.ref b1), .val (.int (13 : Int32)), .val (.int (1 : Int32)), .val (.ref a2)] [(.int (2 : Int32))])) target := by
      intro target kt
      show Steps p.tables e below (T14.setTop (mkF m 24 #[.val (.int p0), .val (.ref b1), .val (.int (13 : Int32)), .val (.int (1 : Int32)), .val (.ref a2)] [(.int (2 : Int32))])) _
      refine XS.iloadN X14.here hx rfl (hb hby d1_24) rfl ?_
      exact kt
    by_cases k2 : (2 : Int32) = p0
    · have st16 : ∀ target, Steps p.tables e below (T14.setTop (mkF m 28 #[.val (.int p0), .val (.ref b1), .val (.int (13 : Int32)), .val (.int (1 : Int32)), .val (.ref a2)] [])) target → Steps p.tables e below (T14.setTop (mkF m 25 #[.val (.int p0), .val (.ref b1), .val (.int (13 : Int32)), .val (.int (1 : Int32)), .val (.ref a2)] [(.int p0), (.int (2 : Int32))])) target := by
        intro target kt
        show Steps p.tables e below (T14.setTop (mkF m 25 #[.val (.int p0), .val (.ref b1), .val (.int (13 : Int32)), .val (.int (1 : Int32)), .val (.ref a2)] [(.int p0), (.int (2 : Int32))])) _
        refine XS.icmpNo X14.here hx rfl (hb hby d1_25) rfl (teq k2).2 ?_
        exact kt
      obtain ⟨fs, hr, hrun, hended, hW, hsame⟩ := X14.leave (v := some (.ref a2)) (fun h => by rw [Bd.returns] at h; cases h)
      refine ⟨_, _, pre0 _ (st1 _ (st2 _ (st3 _ (st4 _ (st5 _ (st6 _ (st7 _ (st8 _ (st10 _ (st11 _ (st12 _ (st13 _ (st14 _ (st15 _ (st16 _ ?_))))))))))))))), hrun, hended, _, _, rfl, ?_, ⟨_, rfl⟩, hW, hsame.mono (by decide) (by decide)⟩
      · show Steps p.tables e below (T14.setTop (mkF m 28 #[.val (.int p0), .val (.ref b1), .val (.int (13 : Int32)), .val (.int (1 : Int32)), .val (.ref a2)] [])) _
        refine XS.aload X14.here hx rfl (hb hby d1_28) rfl rfl ?_
        show Steps p.tables e below (T14.setTop (mkF m 30 #[.val (.int p0), .val (.ref b1), .val (.int (13 : Int32)), .val (.int (1 : Int32)), .val (.ref a2)] [(.ref a2)])) _
        jvm_step X14.here [X14.here.top, hx, (hb hby d1_30), X14.method', Bd.returns, Value.isRef, FieldType.isReference]
        first | (intro acts; rw [hr _ acts rfl rfl rfl]) | rw [hr _ _ rfl rfl rfl]
        exact Steps.refl _
      · show Q_rm1 Z p0 va cl a1 a2 a3 a4 a5 a6 a7 a8 a9 a10 a11 a12 a13 h0 n0 _ T14.heap _
        rw [e14]
        exact ⟨by unfold own_of; rw [if_neg k1, if_pos k2], N1, Kp_1⟩
    · have st17 : ∀ target, Steps p.tables e below (T14.setTop (mkF m 31 #[.val (.int p0), .val (.ref b1), .val (.int (13 : Int32)), .val (.int (1 : Int32)), .val (.ref a2)] [])) target → Steps p.tables e below (T14.setTop (mkF m 25 #[.val (.int p0), .val (.ref b1), .val (.int (13 : Int32)), .val (.int (1 : Int32)), .val (.ref a2)] [(.int p0), (.int (2 : Int32))])) target := by
        intro target kt
        show Steps p.tables e below (T14.setTop (mkF m 25 #[.val (.int p0), .val (.ref b1), .val (.int (13 : Int32)), .val (.int (1 : Int32)), .val (.ref a2)] [(.int p0), (.int (2 : Int32))])) _
        refine XS.icmpYes X14.here hx rfl (pc0 := 25) (pc' := 31) rfl (hb hby d1_25) rfl (feq k2).2 (by decide) (by decide) ?_
        exact kt
      have st18 : ∀ target, Steps p.tables e below (T14.setTop (mkF m 16 #[.val (.int p0), .val (.ref b1), .val (.int (13 : Int32)), .val (.int (2 : Int32)), .val (.ref a2)] [(.int (2 : Int32)), (.ref b1)])) target → Steps p.tables e below (T14.setTop (mkF m 31 #[.val (.int p0), .val (.ref b1), .val (.int (13 : Int32)), .val (.int (1 : Int32)), .val (.ref a2)] [])) target := by
        intro target kt
        show Steps p.tables e below (T14.setTop (mkF m 31 #[.val (.int p0), .val (.ref b1), .val (.int (13 : Int32)), .val (.int (1 : Int32)), .val (.ref a2)] [])) _
        refine XS.iinc X14.here hx rfl (hb hby d1_31) rfl (l' := #[.val (.int p0), .val (.ref b1), .val (.int (13 : Int32)), .val (.int (2 : Int32)), .val (.ref a2)]) rfl ?_
        show Steps p.tables e below (T14.setTop (mkF m 34 #[.val (.int p0), .val (.ref b1), .val (.int (13 : Int32)), .val (.int (2 : Int32)), .val (.ref a2)] [])) _
        refine XS.goto X14.here hx rfl (pc0 := 34) (pc' := 9) rfl (hb hby d1_34) (by decide) (by decide) ?_
        show Steps p.tables e below (T14.setTop (mkF m 9 #[.val (.int p0), .val (.ref b1), .val (.int (13 : Int32)), .val (.int (2 : Int32)), .val (.ref a2)] [])) _
        refine XS.iloadN X14.here hx rfl (hb hby d1_9) rfl ?_
        show Steps p.tables e below (T14.setTop (mkF m 10 #[.val (.int p0), .val (.ref b1), .val (.int (13 : Int32)), .val (.int (2 : Int32)), .val (.ref a2)] [(.int (2 : Int32))])) _
        refine XS.iloadN X14.here hx rfl (hb hby d1_10) rfl ?_
        show Steps p.tables e below (T14.setTop (mkF m 11 #[.val (.int p0), .val (.ref b1), .val (.int (13 : Int32)), .val (.int (2 : Int32)), .val (.ref a2)] [(.int (13 : Int32)), (.int (2 : Int32))])) _
        refine XS.icmpNo X14.here hx rfl (hb hby d1_11) rfl (tlt (by decide : ((2 : Int32) < (13 : Int32)))).2.1 ?_
        show Steps p.tables e below (T14.setTop (mkF m 14 #[.val (.int p0), .val (.ref b1), .val (.int (13 : Int32)), .val (.int (2 : Int32)), .val (.ref a2)] [])) _
        refine XS.aloadN X14.here hx rfl (hb hby d1_14) rfl rfl ?_
        show Steps p.tables e below (T14.setTop (mkF m 15 #[.val (.int p0), .val (.ref b1), .val (.int (13 : Int32)), .val (.int (2 : Int32)), .val (.ref a2)] [(.ref b1)])) _
        refine XS.iloadN X14.here hx rfl (hb hby d1_15) rfl ?_
        exact kt
      have st19 : ∀ target, Steps p.tables e below (T14.setTop (mkF m 17 #[.val (.int p0), .val (.ref b1), .val (.int (13 : Int32)), .val (.int (2 : Int32)), .val (.ref a2)] [(.ref a12)])) target → Steps p.tables e below (T14.setTop (mkF m 16 #[.val (.int p0), .val (.ref b1), .val (.int (13 : Int32)), .val (.int (2 : Int32)), .val (.ref a2)] [(.int (2 : Int32)), (.ref b1)])) target := fun target kt => X14.aaload hx (j := (2 : Int32)) (v := (.ref a12)) (by rw [e14]; exact Ab.1) (State.isArrayOf_alike hZ.alike Ab.2.1) rfl Ab.2.2 (inb_of (c := cloneOf cl) hsz ⟨by decide, by decide⟩) hat2 (g := (mkF m 16 #[.val (.int p0), .val (.ref b1), .val (.int (13 : Int32)), .val (.int (2 : Int32)), .val (.ref a2)] [(.int (2 : Int32)), (.ref b1)])) rfl rfl (hb hby d1_16) _ kt
      have st20 : ∀ target, Steps p.tables e below (T14.setTop (mkF m 21 #[.val (.int p0), .val (.ref b1), .val (.int (13 : Int32)), .val (.int (2 : Int32)), .val (.ref a12)] [(.ref a12)])) target → Steps p.tables e below (T14.setTop (mkF m 17 #[.val (.int p0), .val (.ref b1), .val (.int (13 : Int32)), .val (.int (2 : Int32)), .val (.ref a2)] [(.ref a12)])) target := by
        intro target kt
        show Steps p.tables e below (T14.setTop (mkF m 17 #[.val (.int p0), .val (.ref b1), .val (.int (13 : Int32)), .val (.int (2 : Int32)), .val (.ref a2)] [(.ref a12)])) _
        refine XS.astore X14.here hx rfl (hb hby d1_17) rfl rfl (l' := #[.val (.int p0), .val (.ref b1), .val (.int (13 : Int32)), .val (.int (2 : Int32)), .val (.ref a12)]) rfl ?_
        show Steps p.tables e below (T14.setTop (mkF m 19 #[.val (.int p0), .val (.ref b1), .val (.int (13 : Int32)), .val (.int (2 : Int32)), .val (.ref a12)] [])) _
        refine XS.aload X14.here hx rfl (hb hby d1_19) rfl rfl ?_
        exact kt
      obtain ⟨T21, X21, e21, st21⟩ := getF X14 hx hZ hown (host := "") (Or.inl (hw _ (List.mem_of_getElem? (i := 32) rfl))) Via.refl e14 F12_1 (g := (mkF m 21 #[.val (.int p0), .val (.ref b1), .val (.int (13 : Int32)), .val (.int (2 : Int32)), .val (.ref a12)] [(.ref a12)])) rfl rfl (hb hby d1_21)
      have st22 : ∀ target, Steps p.tables e below (T21.setTop (mkF m 25 #[.val (.int p0), .val (.ref b1), .val (.int (13 : Int32)), .val (.int (2 : Int32)), .val (.ref a12)] [(.int p0), (.int (12 : Int32))])) target → Steps p.tables e below (T21.setTop (mkF m 24 #[.val (.int p0), .val (.ref b1), .val (.int (13 : Int32)), .val (.int (2 : Int32)), .val (.ref a12)] [(.int (12 : Int32))])) target := by
        intro target kt
        show Steps p.tables e below (T21.setTop (mkF m 24 #[.val (.int p0), .val (.ref b1), .val (.int (13 : Int32)), .val (.int (2 : Int32)), .val (.ref a12)] [(.int (12 : Int32))])) _
        refine XS.iloadN X21.here hx rfl (hb hby d1_24) rfl ?_
        exact kt
      by_cases k12 : (12 : Int32) = p0
      · have st23 : ∀ target, Steps p.tables e below (T21.setTop (mkF m 28 #[.val (.int p0), .val (.ref b1), .val (.int (13 : Int32)), .val (.int (2 : Int32)), .val (.ref a12)] [])) target → Steps p.tables e below (T21.setTop (mkF m 25 #[.val (.int p0), .val (.ref b1), .val (.int (13 : Int32)), .val (.int (2 : Int32)), .val (.ref a12)] [(.int p0), (.int (12 : Int32))])) target := by
          intro target kt
          show Steps p.tables e below (T21.setTop (mkF m 25 #[.val (.int p0), .val (.ref b1), .val (.int (13 : Int32)), .val (.int (2 : Int32)), .val (.ref a12)] [(.int p0), (.int (12 : Int32))])) _
          refine XS.icmpNo X21.here hx rfl (hb hby d1_25) rfl (teq k12).2 ?_
          exact kt
        obtain ⟨fs, hr, hrun, hended, hW, hsame⟩ := X21.leave (v := some (.ref a12)) (fun h => by rw [Bd.returns] at h; cases h)
        refine ⟨_, _, pre0 _ (st1 _ (st2 _ (st3 _ (st4 _ (st5 _ (st6 _ (st7 _ (st8 _ (st10 _ (st11 _ (st12 _ (st13 _ (st14 _ (st15 _ (st17 _ (st18 _ (st19 _ (st20 _ (st21 _ (st22 _ (st23 _ ?_))))))))))))))))))))), hrun, hended, _, _, rfl, ?_, ⟨_, rfl⟩, hW, hsame.mono (by decide) (by decide)⟩
        · show Steps p.tables e below (T21.setTop (mkF m 28 #[.val (.int p0), .val (.ref b1), .val (.int (13 : Int32)), .val (.int (2 : Int32)), .val (.ref a12)] [])) _
          refine XS.aload X21.here hx rfl (hb hby d1_28) rfl rfl ?_
          show Steps p.tables e below (T21.setTop (mkF m 30 #[.val (.int p0), .val (.ref b1), .val (.int (13 : Int32)), .val (.int (2 : Int32)), .val (.ref a12)] [(.ref a12)])) _
          jvm_step X21.here [X21.here.top, hx, (hb hby d1_30), X21.method', Bd.returns, Value.isRef, FieldType.isReference]
          first | (intro acts; rw [hr _ acts rfl rfl rfl]) | rw [hr _ _ rfl rfl rfl]
          exact Steps.refl _
        · show Q_rm1 Z p0 va cl a1 a2 a3 a4 a5 a6 a7 a8 a9 a10 a11 a12 a13 h0 n0 _ T21.heap _
          rw [e21]
          exact ⟨by unfold own_of; rw [if_neg k1, if_neg k2, if_pos k12], N1, Kp_1⟩
      · have st24 : ∀ target, Steps p.tables e below (T21.setTop (mkF m 31 #[.val (.int p0), .val (.ref b1), .val (.int (13 : Int32)), .val (.int (2 : Int32)), .val (.ref a12)] [])) target → Steps p.tables e below (T21.setTop (mkF m 25 #[.val (.int p0), .val (.ref b1), .val (.int (13 : Int32)), .val (.int (2 : Int32)), .val (.ref a12)] [(.int p0), (.int (12 : Int32))])) target := by
          intro target kt
          show Steps p.tables e below (T21.setTop (mkF m 25 #[.val (.int p0), .val (.ref b1), .val (.int (13 : Int32)), .val (.int (2 : Int32)), .val (.ref a12)] [(.int p0), (.int (12 : Int32))])) _
          refine XS.icmpYes X21.here hx rfl (pc0 := 25) (pc' := 31) rfl (hb hby d1_25) rfl (feq k12).2 (by decide) (by decide) ?_
          exact kt
        have st25 : ∀ target, Steps p.tables e below (T21.setTop (mkF m 16 #[.val (.int p0), .val (.ref b1), .val (.int (13 : Int32)), .val (.int (3 : Int32)), .val (.ref a12)] [(.int (3 : Int32)), (.ref b1)])) target → Steps p.tables e below (T21.setTop (mkF m 31 #[.val (.int p0), .val (.ref b1), .val (.int (13 : Int32)), .val (.int (2 : Int32)), .val (.ref a12)] [])) target := by
          intro target kt
          show Steps p.tables e below (T21.setTop (mkF m 31 #[.val (.int p0), .val (.ref b1), .val (.int (13 : Int32)), .val (.int (2 : Int32)), .val (.ref a12)] [])) _
          refine XS.iinc X21.here hx rfl (hb hby d1_31) rfl (l' := #[.val (.int p0), .val (.ref b1), .val (.int (13 : Int32)), .val (.int (3 : Int32)), .val (.ref a12)]) rfl ?_
          show Steps p.tables e below (T21.setTop (mkF m 34 #[.val (.int p0), .val (.ref b1), .val (.int (13 : Int32)), .val (.int (3 : Int32)), .val (.ref a12)] [])) _
          refine XS.goto X21.here hx rfl (pc0 := 34) (pc' := 9) rfl (hb hby d1_34) (by decide) (by decide) ?_
          show Steps p.tables e below (T21.setTop (mkF m 9 #[.val (.int p0), .val (.ref b1), .val (.int (13 : Int32)), .val (.int (3 : Int32)), .val (.ref a12)] [])) _
          refine XS.iloadN X21.here hx rfl (hb hby d1_9) rfl ?_
          show Steps p.tables e below (T21.setTop (mkF m 10 #[.val (.int p0), .val (.ref b1), .val (.int (13 : Int32)), .val (.int (3 : Int32)), .val (.ref a12)] [(.int (3 : Int32))])) _
          refine XS.iloadN X21.here hx rfl (hb hby d1_10) rfl ?_
          show Steps p.tables e below (T21.setTop (mkF m 11 #[.val (.int p0), .val (.ref b1), .val (.int (13 : Int32)), .val (.int (3 : Int32)), .val (.ref a12)] [(.int (13 : Int32)), (.int (3 : Int32))])) _
          refine XS.icmpNo X21.here hx rfl (hb hby d1_11) rfl (tlt (by decide : ((3 : Int32) < (13 : Int32)))).2.1 ?_
          show Steps p.tables e below (T21.setTop (mkF m 14 #[.val (.int p0), .val (.ref b1), .val (.int (13 : Int32)), .val (.int (3 : Int32)), .val (.ref a12)] [])) _
          refine XS.aloadN X21.here hx rfl (hb hby d1_14) rfl rfl ?_
          show Steps p.tables e below (T21.setTop (mkF m 15 #[.val (.int p0), .val (.ref b1), .val (.int (13 : Int32)), .val (.int (3 : Int32)), .val (.ref a12)] [(.ref b1)])) _
          refine XS.iloadN X21.here hx rfl (hb hby d1_15) rfl ?_
          exact kt
        have st26 : ∀ target, Steps p.tables e below (T21.setTop (mkF m 17 #[.val (.int p0), .val (.ref b1), .val (.int (13 : Int32)), .val (.int (3 : Int32)), .val (.ref a12)] [(.ref a13)])) target → Steps p.tables e below (T21.setTop (mkF m 16 #[.val (.int p0), .val (.ref b1), .val (.int (13 : Int32)), .val (.int (3 : Int32)), .val (.ref a12)] [(.int (3 : Int32)), (.ref b1)])) target := fun target kt => X21.aaload hx (j := (3 : Int32)) (v := (.ref a13)) (by rw [e21]; exact Ab.1) (State.isArrayOf_alike hZ.alike Ab.2.1) rfl Ab.2.2 (inb_of (c := cloneOf cl) hsz ⟨by decide, by decide⟩) hat3 (g := (mkF m 16 #[.val (.int p0), .val (.ref b1), .val (.int (13 : Int32)), .val (.int (3 : Int32)), .val (.ref a12)] [(.int (3 : Int32)), (.ref b1)])) rfl rfl (hb hby d1_16) _ kt
        have st27 : ∀ target, Steps p.tables e below (T21.setTop (mkF m 21 #[.val (.int p0), .val (.ref b1), .val (.int (13 : Int32)), .val (.int (3 : Int32)), .val (.ref a13)] [(.ref a13)])) target → Steps p.tables e below (T21.setTop (mkF m 17 #[.val (.int p0), .val (.ref b1), .val (.int (13 : Int32)), .val (.int (3 : Int32)), .val (.ref a12)] [(.ref a13)])) target := by
          intro target kt
          show Steps p.tables e below (T21.setTop (mkF m 17 #[.val (.int p0), .val (.ref b1), .val (.int (13 : Int32)), .val (.int (3 : Int32)), .val (.ref a12)] [(.ref a13)])) _
          refine XS.astore X21.here hx rfl (hb hby d1_17) rfl rfl (l' := #[.val (.int p0), .val (.ref b1), .val (.int (13 : Int32)), .val (.int (3 : Int32)), .val (.ref a13)]) rfl ?_
          show Steps p.tables e below (T21.setTop (mkF m 19 #[.val (.int p0), .val (.ref b1), .val (.int (13 : Int32)), .val (.int (3 : Int32)), .val (.ref a13)] [])) _
          refine XS.aload X21.here hx rfl (hb hby d1_19) rfl rfl ?_
          exact kt
        obtain ⟨T28, X28, e28, st28⟩ := getF X21 hx hZ hown (host := "") (Or.inl (hw _ (List.mem_of_getElem? (i := 32) rfl))) Via.refl e21 F13_1 (g := (mkF m 21 #[.val (.int p0), .val (.ref b1), .val (.int (13 : Int32)), .val (.int (3 : Int32)), .val (.ref a13)] [(.ref a13)])) rfl rfl (hb hby d1_21)
        have st29 : ∀ target, Steps p.tables e below (T28.setTop (mkF m 25 #[.val (.int p0), .val (.ref b1), .val (.int (13 : Int32)), .val (.int (3 : Int32)), .val (.ref a13)] [(.int p0), (.int (13 : Int32))])) target → Steps p.tables e below (T28.setTop (mkF m 24 #[.val (.int p0), .val (.ref b1), .val (.int (13 : Int32)), .val (.int (3 : Int32)), .val (.ref a13)] [(.int (13 : Int32))])) target := by
          intro target kt
          show Steps p.tables e below (T28.setTop (mkF m 24 #[.val (.int p0), .val (.ref b1), .val (.int (13 : Int32)), .val (.int (3 : Int32)), .val (.ref a13)] [(.int (13 : Int32))])) _
          refine XS.iloadN X28.here hx rfl (hb hby d1_24) rfl ?_
          exact kt
        by_cases k13 : (13 : Int32) = p0
        · have st30 : ∀ target, Steps p.tables e below (T28.setTop (mkF m 28 #[.val (.int p0), .val (.ref b1), .val (.int (13 : Int32)), .val (.int (3 : Int32)), .val (.ref a13)] [])) target → Steps p.tables e below (T28.setTop (mkF m 25 #[.val (.int p0), .val (.ref b1), .val (.int (13 : Int32)), .val (.int (3 : Int32)), .val (.ref a13)] [(.int p0), (.int (13 : Int32))])) target := by
            intro target kt
            show Steps p.tables e below (T28.setTop (mkF m 25 #[.val (.int p0), .val (.ref b1), .val (.int (13 : Int32)), .val (.int (3 : Int32)), .val (.ref a13)] [(.int p0), (.int (13 : Int32))])) _
            refine XS.icmpNo X28.here hx rfl (hb hby d1_25) rfl (teq k13).2 ?_
            exact kt
          obtain ⟨fs, hr, hrun, hended, hW, hsame⟩ := X28.leave (v := some (.ref a13)) (fun h => by rw [Bd.returns] at h; cases h)
          refine ⟨_, _, pre0 _ (st1 _ (st2 _ (st3 _ (st4 _ (st5 _ (st6 _ (st7 _ (st8 _ (st10 _ (st11 _ (st12 _ (st13 _ (st14 _ (st15 _ (st17 _ (st18 _ (st19 _ (st20 _ (st21 _ (st22 _ (st24 _ (st25 _ (st26 _ (st27 _ (st28 _ (st29 _ (st30 _ ?_))))))))))))))))))))))))))), hrun, hended, _, _, rfl, ?_, ⟨_, rfl⟩, hW, hsame.mono (by decide) (by decide)⟩
          · show Steps p.tables e below (T28.setTop (mkF m 28 #[.val (.int p0), .val (.ref b1), .val (.int (13 : Int32)), .val (.int (3 : Int32)), .val (.ref a13)] [])) _
            refine XS.aload X28.here hx rfl (hb hby d1_28) rfl rfl ?_
            show Steps p.tables e below (T28.setTop (mkF m 30 #[.val (.int p0), .val (.ref b1), .val (.int (13 : Int32)), .val (.int (3 : Int32)), .val (.ref a13)] [(.ref a13)])) _
            jvm_step X28.here [X28.here.top, hx, (hb hby d1_30), X28.method', Bd.returns, Value.isRef, FieldType.isReference]
            first | (intro acts; rw [hr _ acts rfl rfl rfl]) | rw [hr _ _ rfl rfl rfl]
            exact Steps.refl _
          · show Q_rm1 Z p0 va cl a1 a2 a3 a4 a5 a6 a7 a8 a9 a10 a11 a12 a13 h0 n0 _ T28.heap _
            rw [e28]
            exact ⟨by unfold own_of; rw [if_neg k1, if_neg k2, if_neg k12, if_pos k13], N1, Kp_1⟩
        · have st31 : ∀ target, Steps p.tables e below (T28.setTop (mkF m 31 #[.val (.int p0), .val (.ref b1), .val (.int (13 : Int32)), .val (.int (3 : Int32)), .val (.ref a13)] [])) target → Steps p.tables e below (T28.setTop (mkF m 25 #[.val (.int p0), .val (.ref b1), .val (.int (13 : Int32)), .val (.int (3 : Int32)), .val (.ref a13)] [(.int p0), (.int (13 : Int32))])) target := by
            intro target kt
            show Steps p.tables e below (T28.setTop (mkF m 25 #[.val (.int p0), .val (.ref b1), .val (.int (13 : Int32)), .val (.int (3 : Int32)), .val (.ref a13)] [(.int p0), (.int (13 : Int32))])) _
            refine XS.icmpYes X28.here hx rfl (pc0 := 25) (pc' := 31) rfl (hb hby d1_25) rfl (feq k13).2 (by decide) (by decide) ?_
            exact kt
          have st32 : ∀ target, Steps p.tables e below (T28.setTop (mkF m 16 #[.val (.int p0), .val (.ref b1), .val (.int (13 : Int32)), .val (.int (4 : Int32)), .val (.ref a13)] [(.int (4 : Int32)), (.ref b1)])) target → Steps p.tables e below (T28.setTop (mkF m 31 #[.val (.int p0), .val (.ref b1), .val (.int (13 : Int32)), .val (.int (3 : Int32)), .val (.ref a13)] [])) target := by
            intro target kt
            show Steps p.tables e below (T28.setTop (mkF m 31 #[.val (.int p0), .val (.ref b1), .val (.int (13 : Int32)), .val (.int (3 : Int32)), .val (.ref a13)] [])) _
            refine XS.iinc X28.here hx rfl (hb hby d1_31) rfl (l' := #[.val (.int p0), .val (.ref b1), .val (.int (13 : Int32)), .val (.int (4 : Int32)), .val (.ref a13)]) rfl ?_
            show Steps p.tables e below (T28.setTop (mkF m 34 #[.val (.int p0), .val (.ref b1), .val (.int (13 : Int32)), .val (.int (4 : Int32)), .val (.ref a13)] [])) _
            refine XS.goto X28.here hx rfl (pc0 := 34) (pc' := 9) rfl (hb hby d1_34) (by decide) (by decide) ?_
            show Steps p.tables e below (T28.setTop (mkF m 9 #[.val (.int p0), .val (.ref b1), .val (.int (13 : Int32)), .val (.int (4 : Int32)), .val (.ref a13)] [])) _
            refine XS.iloadN X28.here hx rfl (hb hby d1_9) rfl ?_
            show Steps p.tables e below (T28.setTop (mkF m 10 #[.val (.int p0), .val (.ref b1), .val (.int (13 : Int32)), .val (.int (4 : Int32)), .val (.ref a13)] [(.int (4 : Int32))])) _
            refine XS.iloadN X28.here hx rfl (hb hby d1_10) rfl ?_
            show Steps p.tables e below (T28.setTop (mkF m 11 #[.val (.int p0), .val (.ref b1), .val (.int (13 : Int32)), .val (.int (4 : Int32)), .val (.ref a13)] [(.int (13 : Int32)), (.int (4 : Int32))])) _
            refine XS.icmpNo X28.here hx rfl (hb hby d1_11) rfl (tlt (by decide : ((4 : Int32) < (13 : Int32)))).2.1 ?_
            show Steps p.tables e below (T28.setTop (mkF m 14 #[.val (.int p0), .val (.ref b1), .val (.int (13 : Int32)), .val (.int (4 : Int32)), .val (.ref a13)] [])) _
            refine XS.aloadN X28.here hx rfl (hb hby d1_14) rfl rfl ?_
            show Steps p.tables e below (T28.setTop (mkF m 15 #[.val (.int p0), .val (.ref b1), .val (.int (13 : Int32)), .val (.int (4 : Int32)), .val (.ref a13)] [(.ref b1)])) _
            refine XS.iloadN X28.here hx rfl (hb hby d1_15) rfl ?_
            exact kt
          have st33 : ∀ target, Steps p.tables e below (T28.setTop (mkF m 17 #[.val (.int p0), .val (.ref b1), .val (.int (13 : Int32)), .val (.int (4 : Int32)), .val (.ref a13)] [(.ref a3)])) target → Steps p.tables e below (T28.setTop (mkF m 16 #[.val (.int p0), .val (.ref b1), .val (.int (13 : Int32)), .val (.int (4 : Int32)), .val (.ref a13)] [(.int (4 : Int32)), (.ref b1)])) target := fun target kt => X28.aaload hx (j := (4 : Int32)) (v := (.ref a3)) (by rw [e28]; exact Ab.1) (State.isArrayOf_alike hZ.alike Ab.2.1) rfl Ab.2.2 (inb_of (c := cloneOf cl) hsz ⟨by decide, by decide⟩) hat4 (g := (mkF m 16 #[.val (.int p0), .val (.ref b1), .val (.int (13 : Int32)), .val (.int (4 : Int32)), .val (.ref a13)] [(.int (4 : Int32)), (.ref b1)])) rfl rfl (hb hby d1_16) _ kt
          have st34 : ∀ target, Steps p.tables e below (T28.setTop (mkF m 21 #[.val (.int p0), .val (.ref b1), .val (.int (13 : Int32)), .val (.int (4 : Int32)), .val (.ref a3)] [(.ref a3)])) target → Steps p.tables e below (T28.setTop (mkF m 17 #[.val (.int p0), .val (.ref b1), .val (.int (13 : Int32)), .val (.int (4 : Int32)), .val (.ref a13)] [(.ref a3)])) target := by
            intro target kt
            show Steps p.tables e below (T28.setTop (mkF m 17 #[.val (.int p0), .val (.ref b1), .val (.int (13 : Int32)), .val (.int (4 : Int32)), .val (.ref a13)] [(.ref a3)])) _
            refine XS.astore X28.here hx rfl (hb hby d1_17) rfl rfl (l' := #[.val (.int p0), .val (.ref b1), .val (.int (13 : Int32)), .val (.int (4 : Int32)), .val (.ref a3)]) rfl ?_
            show Steps p.tables e below (T28.setTop (mkF m 19 #[.val (.int p0), .val (.ref b1), .val (.int (13 : Int32)), .val (.int (4 : Int32)), .val (.ref a3)] [])) _
            refine XS.aload X28.here hx rfl (hb hby d1_19) rfl rfl ?_
            exact kt
          obtain ⟨T35, X35, e35, st35⟩ := getF X28 hx hZ hown (host := "") (Or.inl (hw _ (List.mem_of_getElem? (i := 32) rfl))) Via.refl e28 F3_1 (g := (mkF m 21 #[.val (.int p0), .val (.ref b1), .val (.int (13 : Int32)), .val (.int (4 : Int32)), .val (.ref a3)] [(.ref a3)])) rfl rfl (hb hby d1_21)
          have st36 : ∀ target, Steps p.tables e below (T35.setTop (mkF m 25 #[.val (.int p0), .val (.ref b1), .val (.int (13 : Int32)), .val (.int (4 : Int32)), .val (.ref a3)] [(.int p0), (.int (3 : Int32))])) target → Steps p.tables e below (T35.setTop (mkF m 24 #[.val (.int p0), .val (.ref b1), .val (.int (13 : Int32)), .val (.int (4 : Int32)), .val (.ref a3)] [(.int (3 : Int32))])) target := by
            intro target kt
            show Steps p.tables e below (T35.setTop (mkF m 24 #[.val (.int p0), .val (.ref b1), .val (.int (13 : Int32)), .val (.int (4 : Int32)), .val (.ref a3)] [(.int (3 : Int32))])) _
            refine XS.iloadN X35.here hx rfl (hb hby d1_24) rfl ?_
            exact kt
          by_cases k3 : (3 : Int32) = p0
          · have st37 : ∀ target, Steps p.tables e below (T35.setTop (mkF m 28 #[.val (.int p0), .val (.ref b1), .val (.int (13 : Int32)), .val (.int (4 : Int32)), .val (.ref a3)] [])) target → Steps p.tables e below (T35.setTop (mkF m 25 #[.val (.int p0), .val (.ref b1), .val (.int (13 : Int32)), .val (.int (4 : Int32)), .val (.ref a3)] [(.int p0), (.int (3 : Int32))])) target := by
              intro target kt
              show Steps p.tables e below (T35.setTop (mkF m 25 #[.val (.int p0), .val (.ref b1), .val (.int (13 : Int32)), .val (.int (4 : Int32)), .val (.ref a3)] [(.int p0), (.int (3 : Int32))])) _
              refine XS.icmpNo X35.here hx rfl (hb hby d1_25) rfl (teq k3).2 ?_
              exact kt
            obtain ⟨fs, hr, hrun, hended, hW, hsame⟩ := X35.leave (v := some (.ref a3)) (fun h => by rw [Bd.returns] at h; cases h)
            refine ⟨_, _, pre0 _ (st1 _ (st2 _ (st3 _ (st4 _ (st5 _ (st6 _ (st7 _ (st8 _ (st10 _ (st11 _ (st12 _ (st13 _ (st14 _ (st15 _ (st17 _ (st18 _ (st19 _ (st20 _ (st21 _ (st22 _ (st24 _ (st25 _ (st26 _ (st27 _ (st28 _ (st29 _ (st31 _ (st32 _ (st33 _ (st34 _ (st35 _ (st36 _ (st37 _ ?_))))))))))))))))))))))))))))))))), hrun, hended, _, _, rfl, ?_, ⟨_, rfl⟩, hW, hsame.mono (by decide) (by decide)⟩
            · show Steps p.tables e below (T35.setTop (mkF m 28 #[.val (.int p0), .val (.ref b1), .val (.int (13 : Int32)), .val (.int (4 : Int32)), .val (.ref a3)] [])) _
              refine XS.aload X35.here hx rfl (hb hby d1_28) rfl rfl ?_
              show Steps p.tables e below (T35.setTop (mkF m 30 #[.val (.int p0), .val (.ref b1), .val (.int (13 : Int32)), .val (.int (4 : Int32)), .val (.ref a3)] [(.ref a3)])) _
              jvm_step X35.here [X35.here.top, hx, (hb hby d1_30), X35.method', Bd.returns, Value.isRef, FieldType.isReference]
              first | (intro acts; rw [hr _ acts rfl rfl rfl]) | rw [hr _ _ rfl rfl rfl]
              exact Steps.refl _
            · show Q_rm1 Z p0 va cl a1 a2 a3 a4 a5 a6 a7 a8 a9 a10 a11 a12 a13 h0 n0 _ T35.heap _
              rw [e35]
              exact ⟨by unfold own_of; rw [if_neg k1, if_neg k2, if_neg k12, if_neg k13, if_pos k3], N1, Kp_1⟩
          · have st38 : ∀ target, Steps p.tables e below (T35.setTop (mkF m 31 #[.val (.int p0), .val (.ref b1), .val (.int (13 : Int32)), .val (.int (4 : Int32)), .val (.ref a3)] [])) target → Steps p.tables e below (T35.setTop (mkF m 25 #[.val (.int p0), .val (.ref b1), .val (.int (13 : Int32)), .val (.int (4 : Int32)), .val (.ref a3)] [(.int p0), (.int (3 : Int32))])) target := by
              intro target kt
              show Steps p.tables e below (T35.setTop (mkF m 25 #[.val (.int p0), .val (.ref b1), .val (.int (13 : Int32)), .val (.int (4 : Int32)), .val (.ref a3)] [(.int p0), (.int (3 : Int32))])) _
              refine XS.icmpYes X35.here hx rfl (pc0 := 25) (pc' := 31) rfl (hb hby d1_25) rfl (feq k3).2 (by decide) (by decide) ?_
              exact kt
            have st39 : ∀ target, Steps p.tables e below (T35.setTop (mkF m 16 #[.val (.int p0), .val (.ref b1), .val (.int (13 : Int32)), .val (.int (5 : Int32)), .val (.ref a3)] [(.int (5 : Int32)), (.ref b1)])) target → Steps p.tables e below (T35.setTop (mkF m 31 #[.val (.int p0), .val (.ref b1), .val (.int (13 : Int32)), .val (.int (4 : Int32)), .val (.ref a3)] [])) target := by
              intro target kt
              show Steps p.tables e below (T35.setTop (mkF m 31 #[.val (.int p0), .val (.ref b1), .val (.int (13 : Int32)), .val (.int (4 : Int32)), .val (.ref a3)] [])) _
              refine XS.iinc X35.here hx rfl (hb hby d1_31) rfl (l' := #[.val (.int p0), .val (.ref b1), .val (.int (13 : Int32)), .val (.int (5 : Int32)), .val (.ref a3)]) rfl ?_
              show Steps p.tables e below (T35.setTop (mkF m 34 #[.val (.int p0), .val (.ref b1), .val (.int (13 : Int32)), .val (.int (5 : Int32)), .val (.ref a3)] [])) _
              refine XS.goto X35.here hx rfl (pc0 := 34) (pc' := 9) rfl (hb hby d1_34) (by decide) (by decide) ?_
              show Steps p.tables e below (T35.setTop (mkF m 9 #[.val (.int p0), .val (.ref b1), .val (.int (13 : Int32)), .val (.int (5 : Int32)), .val (.ref a3)] [])) _
              refine XS.iloadN X35.here hx rfl (hb hby d1_9) rfl ?_
              show Steps p.tables e below (T35.setTop (mkF m 10 #[.val (.int p0), .val (.ref b1), .val (.int (13 : Int32)), .val (.int (5 : Int32)), .val (.ref a3)] [(.int (5 : Int32))])) _
              refine XS.iloadN X35.here hx rfl (hb hby d1_10) rfl ?_
              show Steps p.tables e below (T35.setTop (mkF m 11 #[.val (.int p0), .val (.ref b1), .val (.int (13 : Int32)), .val (.int (5 : Int32)), .val (.ref a3)] [(.int (13 : Int32)), (.int (5 : Int32))])) _
              refine XS.icmpNo X35.here hx rfl (hb hby d1_11) rfl (tlt (by decide : ((5 : Int32) < (13 : Int32)))).2.1 ?_
              show Steps p.tables e below (T35.setTop (mkF m 14 #[.val (.int p0), .val (.ref b1), .val (.int (13 : Int32)), .val (.int (5 : Int32)), .val (.ref a3)] [])) _
              refine XS.aloadN X35.here hx rfl (hb hby d1_14) rfl rfl ?_
              show Steps p.tables e below (T35.setTop (mkF m 15 #[.val (.int p0), .val (.ref b1), .val (.int (13 : Int32)), .val (.int (5 : Int32)), .val (.ref a3)] [(.ref b1)])) _
              refine XS.iloadN X35.here hx rfl (hb hby d1_15) rfl ?_
              exact kt
            have st40 : ∀ target, Steps p.tables e below (T35.setTop (mkF m 17 #[.val (.int p0), .val (.ref b1), .val (.int (13 : Int32)), .val (.int (5 : Int32)), .val (.ref a3)] [(.ref a4)])) target → Steps p.tables e below (T35.setTop (mkF m 16 #[.val (.int p0), .val (.ref b1), .val (.int (13 : Int32)), .val (.int (5 : Int32)), .val (.ref a3)] [(.int (5 : Int32)), (.ref b1)])) target := fun target kt => X35.aaload hx (j := (5 : Int32)) (v := (.ref a4)) (by rw [e35]; exact Ab.1) (State.isArrayOf_alike hZ.alike Ab.2.1) rfl Ab.2.2 (inb_of (c := cloneOf cl) hsz ⟨by decide, by decide⟩) hat5 (g := (mkF m 16 #[.val (.int p0), .val (.ref b1), .val (.int (13 : Int32)), .val (.int (5 : Int32)), .val (.ref a3)] [(.int (5 : Int32)), (.ref b1)])) rfl rfl (hb hby d1_16) _ kt
            have st41 : ∀ target, Steps p.tables e below (T35.setTop (mkF m 21 #[.val (.int p0), .val (.ref b1), .val (.int (13 : Int32)), .val (.int (5 : Int32)), .val (.ref a4)] [(.ref a4)])) target → Steps p.tables e below (T35.setTop (mkF m 17 #[.val (.int p0), .val (.ref b1), .val (.int (13 : Int32)), .val (.int (5 : Int32)), .val (.ref a3)] [(.ref a4)])) target := by
              intro target kt
              show Steps p.tables e below (T35.setTop (mkF m 17 #[.val (.int p0), .val (.ref b1), .val (.int (13 : Int32)), .val (.int (5 : Int32)), .val (.ref a3)] [(.ref a4)])) _
              refine XS.astore X35.here hx rfl (hb hby d1_17) rfl rfl (l' := #[.val (.int p0), .val (.ref b1), .val (.int (13 : Int32)), .val (.int (5 : Int32)), .val (.ref a4)]) rfl ?_
              show Steps p.tables e below (T35.setTop (mkF m 19 #[.val (.int p0), .val (.ref b1), .val (.int (13 : Int32)), .val (.int (5 : Int32)), .val (.ref a4)] [])) _
              refine XS.aload X35.here hx rfl (hb hby d1_19) rfl rfl ?_
              exact kt
            obtain ⟨T42, X42, e42, st42⟩ := getF X35 hx hZ hown (host := "") (Or.inl (hw _ (List.mem_of_getElem? (i := 32) rfl))) Via.refl e35 F4_1 (g := (mkF m 21 #[.val (.int p0), .val (.ref b1), .val (.int (13 : Int32)), .val (.int (5 : Int32)), .val (.ref a4)] [(.ref a4)])) rfl rfl (hb hby d1_21)
            have st43 : ∀ target, Steps p.tables e below (T42.setTop (mkF m 25 #[.val (.int p0), .val (.ref b1), .val (.int (13 : Int32)), .val (.int (5 : Int32)), .val (.ref a4)] [(.int p0), (.int (4 : Int32))])) target → Steps p.tables e below (T42.setTop (mkF m 24 #[.val (.int p0), .val (.ref b1), .val (.int (13 : Int32)), .val (.int (5 : Int32)), .val (.ref a4)] [(.int (4 : Int32))])) target := by
              intro target kt
              show Steps p.tables e below (T42.setTop (mkF m 24 #[.val (.int p0), .val (.ref b1), .val (.int (13 : Int32)), .val (.int (5 : Int32)), .val (.ref a4)] [(.int (4 : Int32))])) _
              refine XS.iloadN X42.here hx rfl (hb hby d1_24) rfl ?_
              exact kt
            by_cases k4 : (4 : Int32) = p0
            · have st44 : ∀ target, Steps p.tables e below (T42.setTop (mkF m 28 #[.val (.int p0), .val (.ref b1), .val (.int (13 : Int32)), .val (.int (5 : Int32)), .val (.ref a4)] [])) target → Steps p.tables e below (T42.setTop (mkF m 25 #[.val (.int p0), .val (.ref b1), .val (.int (13 : Int32)), .val (.int (5 : Int32)), .val (.ref a4)] [(.int p0), (.int (4 : Int32))])) target := by
                intro target kt
                show Steps p.tables e below (T42.setTop (mkF m 25 #[.val (.int p0), .val (.ref b1), .val (.int (13 : Int32)), .val (.int (5 : Int32)), .val (.ref a4)] [(.int p0), (.int (4 : Int32))])) _
                refine XS.icmpNo X42.here hx rfl (hb hby d1_25) rfl (teq k4).2 ?_
                exact kt
              obtain ⟨fs, hr, hrun, hended, hW, hsame⟩ := X42.leave (v := some (.ref a4)) (fun h => by rw [Bd.returns] at h; cases h)
              refine ⟨_, _, pre0 _ (st1 _ (st2 _ (st3 _ (st4 _ (st5 _ (st6 _ (st7 _ (st8 _ (st10 _ (st11 _ (st12 _ (st13 _ (st14 _ (st15 _ (st17 _ (st18 _ (st19 _ (st20 _ (st21 _ (st22 _ (st24 _ (st25 _ (st26 _ (st27 _ (st28 _ (st29 _ (st31 _ (st32 _ (st33 _ (st34 _ (st35 _ (st36 _ (st38 _ (st39 _ (st40 _ (st41 _ (st42 _ (st43 _ (st44 _ ?_))))))))))))))))))))))))))))))))))))))), hrun, hended, _, _, rfl, ?_, ⟨_, rfl⟩, hW, hsame.mono (by decide) (by decide)⟩
              · show Steps p.tables e below (T42.setTop (mkF m 28 #[.val (.int p0), .val (.ref b1), .val (.int (13 : Int32)), .val (.int (5 : Int32)), .val (.ref a4)] [])) _
                refine XS.aload X42.here hx rfl (hb hby d1_28) rfl rfl ?_
                show Steps p.tables e below (T42.setTop (mkF m 30 #[.val (.int p0), .val (.ref b1), .val (.int (13 : Int32)), .val (.int (5 : Int32)), .val (.ref a4)] [(.ref a4)])) _
                jvm_step X42.here [X42.here.top, hx, (hb hby d1_30), X42.method', Bd.returns, Value.isRef, FieldType.isReference]
                first | (intro acts; rw [hr _ acts rfl rfl rfl]) | rw [hr _ _ rfl rfl rfl]
                exact Steps.refl _
              · show Q_rm1 Z p0 va cl a1 a2 a3 a4 a5 a6 a7 a8 a9 a10 a11 a12 a13 h0 n0 _ T42.heap _
                rw [e42]
                exact ⟨by unfold own_of; rw [if_neg k1, if_neg k2, if_neg k12, if_neg k13, if_neg k3, if_pos k4], N1, Kp_1⟩
            · have st45 : ∀ target, Steps p.tables e below (T42.setTop (mkF m 31 #[.val (.int p0), .val (.ref b1), .val (.int (13 : Int32)), .val (.int (5 : Int32)), .val (.ref a4)] [])) target → Steps p.tables e below (T42.setTop (mkF m 25 #[.val (.int p0), .val (.ref b1), .val (.int (13 : Int32)), .val (.int (5 : Int32)), .val (.ref a4)] [(.int p0), (.int (4 : Int32))])) target := by
                intro target kt
                show Steps p.tables e below (T42.setTop (mkF m 25 #[.val (.int p0), .val (.ref b1), .val (.int (13 : Int32)), .val (.int (5 : Int32)), .val (.ref a4)] [(.int p0), (.int (4 : Int32))])) _
                refine XS.icmpYes X42.here hx rfl (pc0 := 25) (pc' := 31) rfl (hb hby d1_25) rfl (feq k4).2 (by decide) (by decide) ?_
                exact kt
              have st46 : ∀ target, Steps p.tables e below (T42.setTop (mkF m 16 #[.val (.int p0), .val (.ref b1), .val (.int (13 : Int32)), .val (.int (6 : Int32)), .val (.ref a4)] [(.int (6 : Int32)), (.ref b1)])) target → Steps p.tables e below (T42.setTop (mkF m 31 #[.val (.int p0), .val (.ref b1), .val (.int (13 : Int32)), .val (.int (5 : Int32)), .val (.ref a4)] [])) target := by
                intro target kt
                show Steps p.tables e below (T42.setTop (mkF m 31 #[.val (.int p0), .val (.ref b1), .val (.int (13 : Int32)), .val (.int (5 : Int32)), .val (.ref a4)] [])) _
                refine XS.iinc X42.here hx rfl (hb hby d1_31) rfl (l' := #[.val (.int p0), .val (.ref b1), .val (.int (13 : Int32)), .val (.int (6 : Int32)), .val (.ref a4)]) rfl ?_
                show Steps p.tables e below (T42.setTop (mkF m 34 #[.val (.int p0), .val (.ref b1), .val (.int (13 : Int32)), .val (.int (6 : Int32)), .val (.ref a4)] [])) _
                refine XS.goto X42.here hx rfl (pc0 := 34) (pc' := 9) rfl (hb hby d1_34) (by decide) (by decide) ?_
                show Steps p.tables e below (T42.setTop (mkF m 9 #[.val (.int p0), .val (.ref b1), .val (.int (13 : Int32)), .val (.int (6 : Int32)), .val (.ref a4)] [])) _
                refine XS.iloadN X42.here hx rfl (hb hby d1_9) rfl ?_
                show Steps p.tables e below (T42.setTop (mkF m 10 #[.val (.int p0), .val (.ref b1), .val (.int (13 : Int32)), .val (.int (6 : Int32)), .val (.ref a4)] [(.int (6 : Int32))])) _
                refine XS.iloadN X42.here hx rfl (hb hby d1_10) rfl ?_
                show Steps p.tables e below (T42.setTop (mkF m 11 #[.val (.int p0), .val (.ref b1), .val (.int (13 : Int32)), .val (.int (6 : Int32)), .val (.ref a4)] [(.int (13 : Int32)), (.int (6 : Int32))])) _
                refine XS.icmpNo X42.here hx rfl (hb hby d1_11) rfl (tlt (by decide : ((6 : Int32) < (13 : Int32)))).2.1 ?_
                show Steps p.tables e below (T42.setTop (mkF m 14 #[.val (.int p0), .val (.ref b1), .val (.int (13 : Int32)), .val (.int (6 : Int32)), .val (.ref a4)] [])) _
                refine XS.aloadN X42.here hx rfl (hb hby d1_14) rfl rfl ?_
                show Steps p.tables e below (T42.setTop (mkF m 15 #[.val (.int p0), .val (.ref b1), .val (.int (13 : Int32)), .val (.int (6 : Int32)), .val (.ref a4)] [(.ref b1)])) _
                refine XS.iloadN X42.here hx rfl (hb hby d1_15) rfl ?_
                exact kt
              have st47 : ∀ target, Steps p.tables e below (T42.setTop (mkF m 17 #[.val (.int p0), .val (.ref b1), .val (.int (13 : Int32)), .val (.int (6 : Int32)), .val (.ref a4)] [(.ref a5)])) target → Steps p.tables e below (T42.setTop (mkF m 16 #[.val (.int p0), .val (.ref b1), .val (.int (13 : Int32)), .val (.int (6 : Int32)), .val (.ref a4)] [(.int (6 : Int32)), (.ref b1)])) target := fun target kt => X42.aaload hx (j := (6 : Int32)) (v := (.ref a5)) (by rw [e42]; exact Ab.1) (State.isArrayOf_alike hZ.alike Ab.2.1) rfl Ab.2.2 (inb_of (c := cloneOf cl) hsz ⟨by decide, by decide⟩) hat6 (g := (mkF m 16 #[.val (.int p0), .val (.ref b1), .val (.int (13 : Int32)), .val (.int (6 : Int32)), .val (.ref a4)] [(.int (6 : Int32)), (.ref b1)])) rfl rfl (hb hby d1_16) _ kt
              have st48 : ∀ target, Steps p.tables e below (T42.setTop (mkF m 21 #[.val (.int p0), .val (.ref b1), .val (.int (13 : Int32)), .val (.int (6 : Int32)), .val (.ref a5)] [(.ref a5)])) target → Steps p.tables e below (T42.setTop (mkF m 17 #[.val (.int p0), .val (.ref b1), .val (.int (13 : Int32)), .val (.int (6 : Int32)), .val (.ref a4)] [(.ref a5)])) target := by
                intro target kt
                show Steps p.tables e below (T42.setTop (mkF m 17 #[.val (.int p0), .val (.ref b1), .val (.int (13 : Int32)), .val (.int (6 : Int32)), .val (.ref a4)] [(.ref a5)])) _
                refine XS.astore X42.here hx rfl (hb hby d1_17) rfl rfl (l' := #[.val (.int p0), .val (.ref b1), .val (.int (13 : Int32)), .val (.int (6 : Int32)), .val (.ref a5)]) rfl ?_
                show Steps p.tables e below (T42.setTop (mkF m 19 #[.val (.int p0), .val (.ref b1), .val (.int (13 : Int32)), .val (.int (6 : Int32)), .val (.ref a5)] [])) _
                refine XS.aload X42.here hx rfl (hb hby d1_19) rfl rfl ?_
                exact kt
              obtain ⟨T49, X49, e49, st49⟩ := getF X42 hx hZ hown (host := "") (Or.inl (hw _ (List.mem_of_getElem? (i := 32) rfl))) Via.refl e42 F5_1 (g := (mkF m 21 #[.val (.int p0), .val (.ref b1), .val (.int (13 : Int32)), .val (.int (6 : Int32)), .val (.ref a5)] [(.ref a5)])) rfl rfl (hb hby d1_21)
              have st50 : ∀ target, Steps p.tables e below (T49.setTop (mkF m 25 #[.val (.int p0), .val (.ref b1), .val (.int (13 : Int32)), .val (.int (6 : Int32)), .val (.ref a5)] [(.int p0), (.int (5 : Int32))])) target → Steps p.tables e below (T49.setTop (mkF m 24 #[.val (.int p0), .val (.ref b1), .val (.int (13 : Int32)), .val (.int (6 : Int32)), .val (.ref a5)] [(.int (5 : Int32))])) target := by
                intro target kt
                show Steps p.tables e below (T49.setTop (mkF m 24 #[.val (.int p0), .val (.ref b1), .val (.int (13 : Int32)), .val (.int (6 : Int32)), .val (.ref a5)] [(.int (5 : Int32))])) _
                refine XS.iloadN X49.here hx rfl (hb hby d1_24) rfl ?_
                exact kt
              by_cases k5 : (5 : Int32) = p0
              · have st51 : ∀ target, Steps p.tables e below (T49.setTop (mkF m 28 #[.val (.int p0), .val (.ref b1), .val (.int (13 : Int32)), .val (.int (6 : Int32)), .val (.ref a5)] [])) target → Steps p.tables e below (T49.setTop (mkF m 25 #[.val (.int p0), .val (.ref b1), .val (.int (13 : Int32)), .val (.int (6 : Int32)), .val (.ref a5)] [(.int p0), (.int (5 : Int32))])) target := by
                  intro target kt
                  show Steps p.tables e below (T49.setTop (mkF m 25 #[.val (.int p0), .val (.ref b1), .val (.int (13 : Int32)), .val (.int (6 : Int32)), .val (.ref a5)] [(.int p0), (.int (5 : Int32))])) _
                  refine XS.icmpNo X49.here hx rfl (hb hby d1_25) rfl (teq k5).2 ?_
                  exact kt
                obtain ⟨fs, hr, hrun, hended, hW, hsame⟩ := X49.leave (v := some (.ref a5)) (fun h => by rw [Bd.returns] at h; cases h)
                refine ⟨_, _, pre0 _ (st1 _ (st2 _ (st3 _ (st4 _ (st5 _ (st6 _ (st7 _ (st8 _ (st10 _ (st11 _ (st12 _ (st13 _ (st14 _ (st15 _ (st17 _ (st18 _ (st19 _ (st20 _ (st21 _ (st22 _ (st24 _ (st25 _ (st26 _ (st27 _ (st28 _ (st29 _ (st31 _ (st32 _ (st33 _ (st34 _ (st35 _ (st36 _ (st38 _ (st39 _ (st40 _ (st41 _ (st42 _ (st43 _ (st45 _ (st46 _ (st47 _ (st48 _ (st49 _ (st50 _ (st51 _ ?_))))))))))))))))))))))))))))))))))))))))))))), hrun, hended, _, _, rfl, ?_, ⟨_, rfl⟩, hW, hsame.mono (by decide) (by decide)⟩
                · show Steps p.tables e below (T49.setTop (mkF m 28 #[.val (.int p0), .val (.ref b1), .val (.int (13 : Int32)), .val (.int (6 : Int32)), .val (.ref a5)] [])) _
                  refine XS.aload X49.here hx rfl (hb hby d1_28) rfl rfl ?_
                  show Steps p.tables e below (T49.setTop (mkF m 30 #[.val (.int p0), .val (.ref b1), .val (.int (13 : Int32)), .val (.int (6 : Int32)), .val (.ref a5)] [(.ref a5)])) _
                  jvm_step X49.here [X49.here.top, hx, (hb hby d1_30), X49.method', Bd.returns, Value.isRef, FieldType.isReference]
                  first | (intro acts; rw [hr _ acts rfl rfl rfl]) | rw [hr _ _ rfl rfl rfl]
                  exact Steps.refl _
                · show Q_rm1 Z p0 va cl a1 a2 a3 a4 a5 a6 a7 a8 a9 a10 a11 a12 a13 h0 n0 _ T49.heap _
                  rw [e49]
                  exact ⟨by unfold own_of; rw [if_neg k1, if_neg k2, if_neg k12, if_neg k13, if_neg k3, if_neg k4, if_pos k5], N1, Kp_1⟩
              · have st52 : ∀ target, Steps p.tables e below (T49.setTop (mkF m 31 #[.val (.int p0), .val (.ref b1), .val (.int (13 : Int32)), .val (.int (6 : Int32)), .val (.ref a5)] [])) target → Steps p.tables e below (T49.setTop (mkF m 25 #[.val (.int p0), .val (.ref b1), .val (.int (13 : Int32)), .val (.int (6 : Int32)), .val (.ref a5)] [(.int p0), (.int (5 : Int32))])) target := by
                  intro target kt
                  show Steps p.tables e below (T49.setTop (mkF m 25 #[.val (.int p0), .val (.ref b1), .val (.int (13 : Int32)), .val (.int (6 : Int32)), .val (.ref a5)] [(.int p0), (.int (5 : Int32))])) _
                  refine XS.icmpYes X49.here hx rfl (pc0 := 25) (pc' := 31) rfl (hb hby d1_25) rfl (feq k5).2 (by decide) (by decide) ?_
                  exact kt
                have st53 : ∀ target, Steps p.tables e below (T49.setTop (mkF m 16 #[.val (.int p0), .val (.ref b1), .val (.int (13 : Int32)), .val (.int (7 : Int32)), .val (.ref a5)] [(.int (7 : Int32)), (.ref b1)])) target → Steps p.tables e below (T49.setTop (mkF m 31 #[.val (.int p0), .val (.ref b1), .val (.int (13 : Int32)), .val (.int (6 : Int32)), .val (.ref a5)] [])) target := by
                  intro target kt
                  show Steps p.tables e below (T49.setTop (mkF m 31 #[.val (.int p0), .val (.ref b1), .val (.int (13 : Int32)), .val (.int (6 : Int32)), .val (.ref a5)] [])) _
                  refine XS.iinc X49.here hx rfl (hb hby d1_31) rfl (l' := #[.val (.int p0), .val (.ref b1), .val (.int (13 : Int32)), .val (.int (7 : Int32)), .val (.ref a5)]) rfl ?_
                  show Steps p.tables e below (T49.setTop (mkF m 34 #[.val (.int p0), .val (.ref b1), .val (.int (13 : Int32)), .val (.int (7 : Int32)), .val (.ref a5)] [])) _
                  refine XS.goto X49.here hx rfl (pc0 := 34) (pc' := 9) rfl (hb hby d1_34) (by decide) (by decide) ?_
                  show Steps p.tables e below (T49.setTop (mkF m 9 #[.val (.int p0), .val (.ref b1), .val (.int (13 : Int32)), .val (.int (7 : Int32)), .val (.ref a5)] [])) _
                  refine XS.iloadN X49.here hx rfl (hb hby d1_9) rfl ?_
                  show Steps p.tables e below (T49.setTop (mkF m 10 #[.val (.int p0), .val (.ref b1), .val (.int (13 : Int32)), .val (.int (7 : Int32)), .val (.ref a5)] [(.int (7 : Int32))])) _
                  refine XS.iloadN X49.here hx rfl (hb hby d1_10) rfl ?_
                  show Steps p.tables e below (T49.setTop (mkF m 11 #[.val (.int p0), .val (.ref b1), .val (.int (13 : Int32)), .val (.int (7 : Int32)), .val (.ref a5)] [(.int (13 : Int32)), (.int (7 : Int32))])) _
                  refine XS.icmpNo X49.here hx rfl (hb hby d1_11) rfl (tlt (by decide : ((7 : Int32) < (13 : Int32)))).2.1 ?_
                  show Steps p.tables e below (T49.setTop (mkF m 14 #[.val (.int p0), .val (.ref b1), .val (.int (13 : Int32)), .val (.int (7 : Int32)), .val (.ref a5)] [])) _
                  refine XS.aloadN X49.here hx rfl (hb hby d1_14) rfl rfl ?_
                  show Steps p.tables e below (T49.setTop (mkF m 15 #[.val (.int p0), .val (.ref b1), .val (.int (13 : Int32)), .val (.int (7 : Int32)), .val (.ref a5)] [(.ref b1)])) _
                  refine XS.iloadN X49.here hx rfl (hb hby d1_15) rfl ?_
                  exact kt
                have st54 : ∀ target, Steps p.tables e below (T49.setTop (mkF m 17 #[.val (.int p0), .val (.ref b1), .val (.int (13 : Int32)), .val (.int (7 : Int32)), .val (.ref a5)] [(.ref a6)])) target → Steps p.tables e below (T49.setTop (mkF m 16 #[.val (.int p0), .val (.ref b1), .val (.int (13 : Int32)), .val (.int (7 : Int32)), .val (.ref a5)] [(.int (7 : Int32)), (.ref b1)])) target := fun target kt => X49.aaload hx (j := (7 : Int32)) (v := (.ref a6)) (by rw [e49]; exact Ab.1) (State.isArrayOf_alike hZ.alike Ab.2.1) rfl Ab.2.2 (inb_of (c := cloneOf cl) hsz ⟨by decide, by decide⟩) hat7 (g := (mkF m 16 #[.val (.int p0), .val (.ref b1), .val (.int (13 : Int32)), .val (.int (7 : Int32)), .val (.ref a5)] [(.int (7 : Int32)), (.ref b1)])) rfl rfl (hb hby d1_16) _ kt
                have st55 : ∀ target, Steps p.tables e below (T49.setTop (mkF m 21 #[.val (.int p0), .val (.ref b1), .val (.int (13 : Int32)), .val (.int (7 : Int32)), .val (.ref a6)] [(.ref a6)])) target → Steps p.tables e below (T49.setTop (mkF m 17 #[.val (.int p0), .val (.ref b1), .val (.int (13 : Int32)), .val (.int (7 : Int32)), .val (.ref a5)] [(.ref a6)])) target := by
                  intro target kt
                  show Steps p.tables e below (T49.setTop (mkF m 17 #[.val (.int p0), .val (.ref b1), .val (.int (13 : Int32)), .val (.int (7 : Int32)), .val (.ref a5)] [(.ref a6)])) _
                  refine XS.astore X49.here hx rfl (hb hby d1_17) rfl rfl (l' := #[.val (.int p0), .val (.ref b1), .val (.int (13 : Int32)), .val (.int (7 : Int32)), .val (.ref a6)]) rfl ?_
                  show Steps p.tables e below (T49.setTop (mkF m 19 #[.val (.int p0), .val (.ref b1), .val (.int (13 : Int32)), .val (.int (7 : Int32)), .val (.ref a6)] [])) _
                  refine XS.aload X49.here hx rfl (hb hby d1_19) rfl rfl ?_
                  exact kt
                obtain ⟨T56, X56, e56, st56⟩ := getF X49 hx hZ hown (host := "") (Or.inl (hw _ (List.mem_of_getElem? (i := 32) rfl))) Via.refl e49 F6_1 (g := (mkF m 21 #[.val (.int p0), .val (.ref b1), .val (.int (13 : Int32)), .val (.int (7 : Int32)), .val (.ref a6)] [(.ref a6)])) rfl rfl (hb hby d1_21)
                have st57 : ∀ target, Steps p.tables e below (T56.setTop (mkF m 25 #[.val (.int p0), .val (.ref b1), .val (.int (13 : Int32)), .val (.int (7 : Int32)), .val (.ref a6)] [(.int p0), (.int (6 : Int32))])) target → Steps p.tables e below (T56.setTop (mkF m 24 #[.val (.int p0), .val (.ref b1), .val (.int (13 : Int32)), .val (.int (7 : Int32)), .val (.ref a6)] [(.int (6 : Int32))])) target := by
                  intro target kt
                  show Steps p.tables e below (T56.setTop (mkF m 24 #[.val (.int p0), .val (.ref b1), .val (.int (13 : Int32)), .val (.int (7 : Int32)), .val (.ref a6)] [(.int (6 : Int32))])) _
                  refine XS.iloadN X56.here hx rfl (hb hby d1_24) rfl ?_
                  exact kt
                by_cases k6 : (6 : Int32) = p0
                · have st58 : ∀ target, Steps p.tables e below (T56.setTop (mkF m 28 #[.val (.int p0), .val (.ref b1), .val (.int (13 : Int32)), .val (.int (7 : Int32)), .val (.ref a6)] [])) target → Steps p.tables e below (T56.setTop (mkF m 25 #[.val (.int p0), .val (.ref b1), .val (.int (13 : Int32)), .val (.int (7 : Int32)), .val (.ref a6)] [(.int p0), (.int (6 : Int32))])) target := by
                    intro target kt
                    show Steps p.tables e below (T56.setTop (mkF m 25 #[.val (.int p0), .val (.ref b1), .val (.int (13 : Int32)), .val (.int (7 : Int32)), .val (.ref a6)] [(.int p0), (.int (6 : Int32))])) _
                    refine XS.icmpNo X56.here hx rfl (hb hby d1_25) rfl (teq k6).2 ?_
                    exact kt
                  obtain ⟨fs, hr, hrun, hended, hW, hsame⟩ := X56.leave (v := some (.ref a6)) (fun h => by rw [Bd.returns] at h; cases h)
                  refine ⟨_, _, pre0 _ (st1 _ (st2 _ (st3 _ (st4 _ (st5 _ (st6 _ (st7 _ (st8 _ (st10 _ (st11 _ (st12 _ (st13 _ (st14 _ (st15 _ (st17 _ (st18 _ (st19 _ (st20 _ (st21 _ (st22 _ (st24 _ (st25 _ (st26 _ (st27 _ (st28 _ (st29 _ (st31 _ (st32 _ (st33 _ (st34 _ (st35 _ (st36 _ (st38 _ (st39 _ (st40 _ (st41 _ (st42 _ (st43 _ (st45 _ (st46 _ (st47 _ (st48 _ (st49 _ (st50 _ (st52 _ (st53 _ (st54 _ (st55 _ (st56 _ (st57 _ (st58 _ ?_))))))))))))))))))))))))))))))))))))))))))))))))))), hrun, hended, _, _, rfl, ?_, ⟨_, rfl⟩, hW, hsame.mono (by decide) (by decide)⟩
                  · show Steps p.tables e below (T56.setTop (mkF m 28 #[.val (.int p0), .val (.ref b1), .val (.int (13 : Int32)), .val (.int (7 : Int32)), .val (.ref a6)] [])) _
                    refine XS.aload X56.here hx rfl (hb hby d1_28) rfl rfl ?_
                    show Steps p.tables e below (T56.setTop (mkF m 30 #[.val (.int p0), .val (.ref b1), .val (.int (13 : Int32)), .val (.int (7 : Int32)), .val (.ref a6)] [(.ref a6)])) _
                    jvm_step X56.here [X56.here.top, hx, (hb hby d1_30), X56.method', Bd.returns, Value.isRef, FieldType.isReference]
                    first | (intro acts; rw [hr _ acts rfl rfl rfl]) | rw [hr _ _ rfl rfl rfl]
                    exact Steps.refl _
                  · show Q_rm1 Z p0 va cl a1 a2 a3 a4 a5 a6 a7 a8 a9 a10 a11 a12 a13 h0 n0 _ T56.heap _
                    rw [e56]
                    exact ⟨by unfold own_of; rw [if_neg k1, if_neg k2, if_neg k12, if_neg k13, if_neg k3, if_neg k4, if_neg k5, if_pos k6], N1, Kp_1⟩
                · have st59 : ∀ target, Steps p.tables e below (T56.setTop (mkF m 31 #[.val (.int p0), .val (.ref b1), .val (.int (13 : Int32)), .val (.int (7 : Int32)), .val (.ref a6)] [])) target → Steps p.tables e below (T56.setTop (mkF m 25 #[.val (.int p0), .val (.ref b1), .val (.int (13 : Int32)), .val (.int (7 : Int32)), .val (.ref a6)] [(.int p0), (.int (6 : Int32))])) target := by
                    intro target kt
                    show Steps p.tables e below (T56.setTop (mkF m 25 #[.val (.int p0), .val (.ref b1), .val (.int (13 : Int32)), .val (.int (7 : Int32)), .val (.ref a6)] [(.int p0), (.int (6 : Int32))])) _
                    refine XS.icmpYes X56.here hx rfl (pc0 := 25) (pc' := 31) rfl (hb hby d1_25) rfl (feq k6).2 (by decide) (by decide) ?_
                    exact kt
                  have st60 : ∀ target, Steps p.tables e below (T56.setTop (mkF m 16 #[.val (.int p0), .val (.ref b1), .val (.int (13 : Int32)), .val (.int (8 : Int32)), .val (.ref a6)] [(.int (8 : Int32)), (.ref b1)])) target → Steps p.tables e below (T56.setTop (mkF m 31 #[.val (.int p0), .val (.ref b1), .val (.int (13 : Int32)), .val (.int (7 : Int32)), .val (.ref a6)] [])) target := by
                    intro target kt
                    show Steps p.tables e below (T56.setTop (mkF m 31 #[.val (.int p0), .val (.ref b1), .val (.int (13 : Int32)), .val (.int (7 : Int32)), .val (.ref a6)] [])) _
                    refine XS.iinc X56.here hx rfl (hb hby d1_31) rfl (l' := #[.val (.int p0), .val (.ref b1), .val (.int (13 : Int32)), .val (.int (8 : Int32)), .val (.ref a6)]) rfl ?_
                    show Steps p.tables e below (T56.setTop (mkF m 34 #[.val (.int p0), .val (.ref b1), .val (.int (13 : Int32)), .val (.int (8 : Int32)), .val (.ref a6)] [])) _
                    refine XS.goto X56.here hx rfl (pc0 := 34) (pc' := 9) rfl (hb hby d1_34) (by decide) (by decide) ?_
                    show Steps p.tables e below (T56.setTop (mkF m 9 #[.val (.int p0), .val (.ref b1), .val (.int (13 : Int32)), .val (.int (8 : Int32)), .val (.ref a6)] [])) _
                    refine XS.iloadN X56.here hx rfl (hb hby d1_9) rfl ?_
                    show Steps p.tables e below (T56.setTop (mkF m 10 #[.val (.int p0), .val (.ref b1), .val (.int (13 : Int32)), .val (.int (8 : Int32)), .val (.ref a6)] [(.int (8 : Int32))])) _
                    refine XS.iloadN X56.here hx rfl (hb hby d1_10) rfl ?_
                    show Steps p.tables e below (T56.setTop (mkF m 11 #[.val (.int p0), .val (.ref b1), .val (.int (13 : Int32)), .val (.int (8 : Int32)), .val (.ref a6)] [(.int (13 : Int32)), (.int (8 : Int32))])) _
                    refine XS.icmpNo X56.here hx rfl (hb hby d1_11) rfl (tlt (by decide : ((8 : Int32) < (13 : Int32)))).2.1 ?_
                    show Steps p.tables e below (T56.setTop (mkF m 14 #[.val (.int p0), .val (.ref b1), .val (.int (13 : Int32)), .val (.int (8 : Int32)), .val (.ref a6)] [])) _
                    refine XS.aloadN X56.here hx rfl (hb hby d1_14) rfl rfl ?_
                    show Steps p.tables e below (T56.setTop (mkF m 15 #[.val (.int p0), .val (.ref b1), .val (.int (13 : Int32)), .val (.int (8 : Int32)), .val (.ref a6)] [(.ref b1)])) _
                    refine XS.iloadN X56.here hx rfl (hb hby d1_15) rfl ?_
                    exact kt
                  have st61 : ∀ target, Steps p.tables e below (T56.setTop (mkF m 17 #[.val (.int p0), .val (.ref b1), .val (.int (13 : Int32)), .val (.int (8 : Int32)), .val (.ref a6)] [(.ref a7)])) target → Steps p.tables e below (T56.setTop (mkF m 16 #[.val (.int p0), .val (.ref b1), .val (.int (13 : Int32)), .val (.int (8 : Int32)), .val (.ref a6)] [(.int (8 : Int32)), (.ref b1)])) target := fun target kt => X56.aaload hx (j := (8 : Int32)) (v := (.ref a7)) (by rw [e56]; exact Ab.1) (State.isArrayOf_alike hZ.alike Ab.2.1) rfl Ab.2.2 (inb_of (c := cloneOf cl) hsz ⟨by decide, by decide⟩) hat8 (g := (mkF m 16 #[.val (.int p0), .val (.ref b1), .val (.int (13 : Int32)), .val (.int (8 : Int32)), .val (.ref a6)] [(.int (8 : Int32)), (.ref b1)])) rfl rfl (hb hby d1_16) _ kt
                  have st62 : ∀ target, Steps p.tables e below (T56.setTop (mkF m 21 #[.val (.int p0), .val (.ref b1), .val (.int (13 : Int32)), .val (.int (8 : Int32)), .val (.ref a7)] [(.ref a7)])) target → Steps p.tables e below (T56.setTop (mkF m 17 #[.val (.int p0), .val (.ref b1), .val (.int (13 : Int32)), .val (.int (8 : Int32)), .val (.ref a6)] [(.ref a7)])) target := by
                    intro target kt
                    show Steps p.tables e below (T56.setTop (mkF m 17 #[.val (.int p0), .val (.ref b1), .val (.int (13 : Int32)), .val (.int (8 : Int32)), .val (.ref a6)] [(.ref a7)])) _
                    refine XS.astore X56.here hx rfl (hb hby d1_17) rfl rfl (l' := #[.val (.int p0), .val (.ref b1), .val (.int (13 : Int32)), .val (.int (8 : Int32)), .val (.ref a7)]) rfl ?_
                    show Steps p.tables e below (T56.setTop (mkF m 19 #[.val (.int p0), .val (.ref b1), .val (.int (13 : Int32)), .val (.int (8 : Int32)), .val (.ref a7)] [])) _
                    refine XS.aload X56.here hx rfl (hb hby d1_19) rfl rfl ?_
                    exact kt
                  obtain ⟨T63, X63, e63, st63⟩ := getF X56 hx hZ hown (host := "") (Or.inl (hw _ (List.mem_of_getElem? (i := 32) rfl))) Via.refl e56 F7_1 (g := (mkF m 21 #[.val (.int p0), .val (.ref b1), .val (.int (13 : Int32)), .val (.int (8 : Int32)), .val (.ref a7)] [(.ref a7)])) rfl rfl (hb hby d1_21)
                  have st64 : ∀ target, Steps p.tables e below (T63.setTop (mkF m 25 #[.val (.int p0), .val (.ref b1), .val (.int (13 : Int32)), .val (.int (8 : Int32)), .val (.ref a7)] [(.int p0), (.int (7 : Int32))])) target → Steps p.tables e below (T63.setTop (mkF m 24 #[.val (.int p0), .val (.ref b1), .val (.int (13 : Int32)), .val (.int (8 : Int32)), .val (.ref a7)] [(.int (7 : Int32))])) target := by
                    intro target kt
                    show Steps p.tables e below (T63.setTop (mkF m 24 #[.val (.int p0), .val (.ref b1), .val (.int (13 : Int32)), .val (.int (8 : Int32)), .val (.ref a7)] [(.int (7 : Int32))])) _
                    refine XS.iloadN X63.here hx rfl (hb hby d1_24) rfl ?_
                    exact kt
                  by_cases k7 : (7 : Int32) = p0
                  · have st65 : ∀ target, Steps p.tables e below (T63.setTop (mkF m 28 #[.val (.int p0), .val (.ref b1), .val (.int (13 : Int32)), .val (.int (8 : Int32)), .val (.ref a7)] [])) target → Steps p.tables e below (T63.setTop (mkF m 25 #[.val (.int p0), .val (.ref b1), .val (.int (13 : Int32)), .val (.int (8 : Int32)), .val (.ref a7)] [(.int p0), (.int (7 : Int32))])) target := by
                      intro target kt
                      show Steps p.tables e below (T63.setTop (mkF m 25 #[.val (.int p0), .val (.ref b1), .val (.int (13 : Int32)), .val (.int (8 : Int32)), .val (.ref a7)] [(.int p0), (.int (7 : Int32))])) _
                      refine XS.icmpNo X63.here hx rfl (hb hby d1_25) rfl (teq k7).2 ?_
                      exact kt
                    obtain ⟨fs, hr, hrun, hended, hW, hsame⟩ := X63.leave (v := some (.ref a7)) (fun h => by rw [Bd.returns] at h; cases h)
                    refine ⟨_, _, pre0 _ (st1 _ (st2 _ (st3 _ (st4 _ (st5 _ (st6 _ (st7 _ (st8 _ (st10 _ (st11 _ (st12 _ (st13 _ (st14 _ (st15 _ (st17 _ (st18 _ (st19 _ (st20 _ (st21 _ (st22 _ (st24 _ (st25 _ (st26 _ (st27 _ (st28 _ (st29 _ (st31 _ (st32 _ (st33 _ (st34 _ (st35 _ (st36 _ (st38 _ (st39 _ (st40 _ (st41 _ (st42 _ (st43 _ (st45 _ (st46 _ (st47 _ (st48 _ (st49 _ (st50 _ (st52 _ (st53 _ (st54 _ (st55 _ (st56 _ (st57 _ (st59 _ (st60 _ (st61 _ (st62 _ (st63 _ (st64 _ (st65 _ ?_))))))))))))))))))))))))))))))))))))))))))))))))))))))))), hrun, hended, _, _, rfl, ?_, ⟨_, rfl⟩, hW, hsame.mono (by decide) (by decide)⟩
                    · show Steps p.tables e below (T63.setTop (mkF m 28 #[.val (.int p0), .val (.ref b1), .val (.int (13 : Int32)), .val (.int (8 : Int32)), .val (.ref a7)] [])) _
                      refine XS.aload X63.here hx rfl (hb hby d1_28) rfl rfl ?_
                      show Steps p.tables e below (T63.setTop (mkF m 30 #[.val (.int p0), .val (.ref b1), .val (.int (13 : Int32)), .val (.int (8 : Int32)), .val (.ref a7)] [(.ref a7)])) _
                      jvm_step X63.here [X63.here.top, hx, (hb hby d1_30), X63.method', Bd.returns, Value.isRef, FieldType.isReference]
                      first | (intro acts; rw [hr _ acts rfl rfl rfl]) | rw [hr _ _ rfl rfl rfl]
                      exact Steps.refl _
                    · show Q_rm1 Z p0 va cl a1 a2 a3 a4 a5 a6 a7 a8 a9 a10 a11 a12 a13 h0 n0 _ T63.heap _
                      rw [e63]
                      exact ⟨by unfold own_of; rw [if_neg k1, if_neg k2, if_neg k12, if_neg k13, if_neg k3, if_neg k4, if_neg k5, if_neg k6, if_pos k7], N1, Kp_1⟩
                  · have st66 : ∀ target, Steps p.tables e below (T63.setTop (mkF m 31 #[.val (.int p0), .val (.ref b1), .val (.int (13 : Int32)), .val (.int (8 : Int32)), .val (.ref a7)] [])) target → Steps p.tables e below (T63.setTop (mkF m 25 #[.val (.int p0), .val (.ref b1), .val (.int (13 : Int32)), .val (.int (8 : Int32)), .val (.ref a7)] [(.int p0), (.int (7 : Int32))])) target := by
                      intro target kt
                      show Steps p.tables e below (T63.setTop (mkF m 25 #[.val (.int p0), .val (.ref b1), .val (.int (13 : Int32)), .val (.int (8 : Int32)), .val (.ref a7)] [(.int p0), (.int (7 : Int32))])) _
                      refine XS.icmpYes X63.here hx rfl (pc0 := 25) (pc' := 31) rfl (hb hby d1_25) rfl (feq k7).2 (by decide) (by decide) ?_
                      exact kt
                    have st67 : ∀ target, Steps p.tables e below (T63.setTop (mkF m 16 #[.val (.int p0), .val (.ref b1), .val (.int (13 : Int32)), .val (.int (9 : Int32)), .val (.ref a7)] [(.int (9 : Int32)), (.ref b1)])) target → Steps p.tables e below (T63.setTop (mkF m 31 #[.val (.int p0), .val (.ref b1), .val (.int (13 : Int32)), .val (.int (8 : Int32)), .val (.ref a7)] [])) target := by
                      intro target kt
                      show Steps p.tables e below (T63.setTop (mkF m 31 #[.val (.int p0), .val (.ref b1), .val (.int (13 : Int32)), .val (.int (8 : Int32)), .val (.ref a7)] [])) _
                      refine XS.iinc X63.here hx rfl (hb hby d1_31) rfl (l' := #[.val (.int p0), .val (.ref b1), .val (.int (13 : Int32)), .val (.int (9 : Int32)), .val (.ref a7)]) rfl ?_
                      show Steps p.tables e below (T63.setTop (mkF m 34 #[.val (.int p0), .val (.ref b1), .val (.int (13 : Int32)), .val (.int (9 : Int32)), .val (.ref a7)] [])) _
                      refine XS.goto X63.here hx rfl (pc0 := 34) (pc' := 9) rfl (hb hby d1_34) (by decide) (by decide) ?_
                      show Steps p.tables e below (T63.setTop (mkF m 9 #[.val (.int p0), .val (.ref b1), .val (.int (13 : Int32)), .val (.int (9 : Int32)), .val (.ref a7)] [])) _
                      refine XS.iloadN X63.here hx rfl (hb hby d1_9) rfl ?_
                      show Steps p.tables e below (T63.setTop (mkF m 10 #[.val (.int p0), .val (.ref b1), .val (.int (13 : Int32)), .val (.int (9 : Int32)), .val (.ref a7)] [(.int (9 : Int32))])) _
                      refine XS.iloadN X63.here hx rfl (hb hby d1_10) rfl ?_
                      show Steps p.tables e below (T63.setTop (mkF m 11 #[.val (.int p0), .val (.ref b1), .val (.int (13 : Int32)), .val (.int (9 : Int32)), .val (.ref a7)] [(.int (13 : Int32)), (.int (9 : Int32))])) _
                      refine XS.icmpNo X63.here hx rfl (hb hby d1_11) rfl (tlt (by decide : ((9 : Int32) < (13 : Int32)))).2.1 ?_
                      show Steps p.tables e below (T63.setTop (mkF m 14 #[.val (.int p0), .val (.ref b1), .val (.int (13 : Int32)), .val (.int (9 : Int32)), .val (.ref a7)] [])) _
                      refine XS.aloadN X63.here hx rfl (hb hby d1_14) rfl rfl ?_
                      show Steps p.tables e below (T63.setTop (mkF m 15 #[.val (.int p0), .val (.ref b1), .val (.int (13 : Int32)), .val (.int (9 : Int32)), .val (.ref a7)] [(.ref b1)])) _
                      refine XS.iloadN X63.here hx rfl (hb hby d1_15) rfl ?_
                      exact kt
                    have st68 : ∀ target, Steps p.tables e below (T63.setTop (mkF m 17 #[.val (.int p0), .val (.ref b1), .val (.int (13 : Int32)), .val (.int (9 : Int32)), .val (.ref a7)] [(.ref a8)])) target → Steps p.tables e below (T63.setTop (mkF m 16 #[.val (.int p0), .val (.ref b1), .val (.int (13 : Int32)), .val (.int (9 : Int32)), .val (.ref a7)] [(.int (9 : Int32)), (.ref b1)])) target := fun target kt => X63.aaload hx (j := (9 : Int32)) (v := (.ref a8)) (by rw [e63]; exact Ab.1) (State.isArrayOf_alike hZ.alike Ab.2.1) rfl Ab.2.2 (inb_of (c := cloneOf cl) hsz ⟨by decide, by decide⟩) hat9 (g := (mkF m 16 #[.val (.int p0), .val (.ref b1), .val (.int (13 : Int32)), .val (.int (9 : Int32)), .val (.ref a7)] [(.int (9 : Int32)), (.ref b1)])) rfl rfl (hb hby d1_16) _ kt
                    have st69 : ∀ target, Steps p.tables e below (T63.setTop (mkF m 21 #[.val (.int p0), .val (.ref b1), .val (.int (13 : Int32)), .val (.int (9 : Int32)), .val (.ref a8)] [(.ref a8)])) target → Steps p.tables e below (T63.setTop (mkF m 17 #[.val (.int p0), .val (.ref b1), .val (.int (13 : Int32)), .val (.int (9 : Int32)), .val (.ref a7)] [(.ref a8)])) target := by
                      intro target kt
                      show Steps p.tables e below (T63.setTop (mkF m 17 #[.val (.int p0), .val (.ref b1), .val (.int (13 : Int32)), .val (.int (9 : Int32)), .val (.ref a7)] [(.ref a8)])) _
                      refine XS.astore X63.here hx rfl (hb hby d1_17) rfl rfl (l' := #[.val (.int p0), .val (.ref b1), .val (.int (13 : Int32)), .val (.int (9 : Int32)), .val (.ref a8)]) rfl ?_
                      show Steps p.tables e below (T63.setTop (mkF m 19 #[.val (.int p0), .val (.ref b1), .val (.int (13 : Int32)), .val (.int (9 : Int32)), .val (.ref a8)] [])) _
                      refine XS.aload X63.here hx rfl (hb hby d1_19) rfl rfl ?_
                      exact kt
                    obtain ⟨T70, X70, e70, st70⟩ := getF X63 hx hZ hown (host := "") (Or.inl (hw _ (List.mem_of_getElem? (i := 32) rfl))) Via.refl e63 F8_1 (g := (mkF m 21 #[.val (.int p0), .val (.ref b1), .val (.int (13 : Int32)), .val (.int (9 : Int32)), .val (.ref a8)] [(.ref a8)])) rfl rfl (hb hby d1_21)
                    have st71 : ∀ target, Steps p.tables e below (T70.setTop (mkF m 25 #[.val (.int p0), .val (.ref b1), .val (.int (13 : Int32)), .val (.int (9 : Int32)), .val (.ref a8)] [(.int p0), (.int (8 : Int32))])) target → Steps p.tables e below (T70.setTop (mkF m 24 #[.val (.int p0), .val (.ref b1), .val (.int (13 : Int32)), .val (.int (9 : Int32)), .val (.ref a8)] [(.int (8 : Int32))])) target := by
                      intro target kt
                      show Steps p.tables e below (T70.setTop (mkF m 24 #[.val (.int p0), .val (.ref b1), .val (.int (13 : Int32)), .val (.int (9 : Int32)), .val (.ref a8)] [(.int (8 : Int32))])) _
                      refine XS.iloadN X70.here hx rfl (hb hby d1_24) rfl ?_
                      exact kt
                    by_cases k8 : (8 : Int32) = p0
                    · have st72 : ∀ target, Steps p.tables e below (T70.setTop (mkF m 28 #[.val (.int p0), .val (.ref b1), .val (.int (13 : Int32)), .val (.int (9 : Int32)), .val (.ref a8)] [])) target → Steps p.tables e below (T70.setTop (mkF m 25 #[.val (.int p0), .val (.ref b1), .val (.int (13 : Int32)), .val (.int (9 : Int32)), .val (.ref a8)] [(.int p0), (.int (8 : Int32))])) target := by
                        intro target kt
                        show Steps p.tables e below (T70.setTop (mkF m 25 #[.val (.int p0), .val (.ref b1), .val (.int (13 : Int32)), .val (.int (9 : Int32)), .val (.ref a8)] [(.int p0), (.int (8 : Int32))])) _
                        refine XS.icmpNo X70.here hx rfl (hb hby d1_25) rfl (teq k8).2 ?_
                        exact kt
                      obtain ⟨fs, hr, hrun, hended, hW, hsame⟩ := X70.leave (v := some (.ref a8)) (fun h => by rw [Bd.returns] at h; cases h)
                      refine ⟨_, _, pre0 _ (st1 _ (st2 _ (st3 _ (st4 _ (st5 _ (st6 _ (st7 _ (st8 _ (st10 _ (st11 _ (st12 _ (st13 _ (st14 _ (st15 _ (st17 _ (st18 _ (st19 _ (st20 _ (st21 _ (st22 _ (st24 _ (st25 _ (st26 _ (st27 _ (st28 _ (st29 _ (st31 _ (st32 _ (st33 _ (st34 _ (st35 _ (st36 _ (st38 _ (st39 _ (st40 _ (st41 _ (st42 _ (st43 _ (st45 _ (st46 _ (st47 _ (st48 _ (st49 _ (st50 _ (st52 _ (st53 _ (st54 _ (st55 _ (st56 _ (st57 _ (st59 _ (st60 _ (st61 _ (st62 _ (st63 _ (st64 _ (st66 _ (st67 _ (st68 _ (st69 _ (st70 _ (st71 _ (st72 _ ?_))))))))))))))))))))))))))))))))))))))))))))))))))))))))))))))), hrun, hended, _, _, rfl, ?_, ⟨_, rfl⟩, hW, hsame.mono (by decide) (by decide)⟩
                      · show Steps p.tables e below (T70.setTop (mkF m 28 #[.val (.int p0), .val (.ref b1), .val (.int (13 : Int32)), .val (.int (9 : Int32)), .val (.ref a8)] [])) _
                        refine XS.aload X70.here hx rfl (hb hby d1_28) rfl rfl ?_
                        show Steps p.tables e below (T70.setTop (mkF m 30 #[.val (.int p0), .val (.ref b1), .val (.int (13 : Int32)), .val (.int (9 : Int32)), .val (.ref a8)] [(.ref a8)])) _
                        jvm_step X70.here [X70.here.top, hx, (hb hby d1_30), X70.method', Bd.returns, Value.isRef, FieldType.isReference]
                        first | (intro acts; rw [hr _ acts rfl rfl rfl]) | rw [hr _ _ rfl rfl rfl]
                        exact Steps.refl _
                      · show Q_rm1 Z p0 va cl a1 a2 a3 a4 a5 a6 a7 a8 a9 a10 a11 a12 a13 h0 n0 _ T70.heap _
                        rw [e70]
                        exact ⟨by unfold own_of; rw [if_neg k1, if_neg k2, if_neg k12, if_neg k13, if_neg k3, if_neg k4, if_neg k5, if_neg k6, if_neg k7, if_pos k8], N1, Kp_1⟩
                    · have st73 : ∀ target, Steps p.tables e below (T70.setTop (mkF m 31 #[.val (.int p0), .val (.ref b1), .val (.int (13 : Int32)), .val (.int (9 : Int32)), .val (.ref a8)] [])) target → Steps p.tables e below (T70.setTop (mkF m 25 #[.val (.int p0), .val (.ref b1), .val (.int (13 : Int32)), .val (.int (9 : Int32)), .val (.ref a8)] [(.int p0), (.int (8 : Int32))])) target := by
                        intro target kt
                        show Steps p.tables e below (T70.setTop (mkF m 25 #[.val (.int p0), .val (.ref b1), .val (.int (13 : Int32)), .val (.int (9 : Int32)), .val (.ref a8)] [(.int p0), (.int (8 : Int32))])) _
                        refine XS.icmpYes X70.here hx rfl (pc0 := 25) (pc' := 31) rfl (hb hby d1_25) rfl (feq k8).2 (by decide) (by decide) ?_
                        exact kt
                      have st74 : ∀ target, Steps p.tables e below (T70.setTop (mkF m 16 #[.val (.int p0), .val (.ref b1), .val (.int (13 : Int32)), .val (.int (10 : Int32)), .val (.ref a8)] [(.int (10 : Int32)), (.ref b1)])) target → Steps p.tables e below (T70.setTop (mkF m 31 #[.val (.int p0), .val (.ref b1), .val (.int (13 : Int32)), .val (.int (9 : Int32)), .val (.ref a8)] [])) target := by
                        intro target kt
                        show Steps p.tables e below (T70.setTop (mkF m 31 #[.val (.int p0), .val (.ref b1), .val (.int (13 : Int32)), .val (.int (9 : Int32)), .val (.ref a8)] [])) _
                        refine XS.iinc X70.here hx rfl (hb hby d1_31) rfl (l' := #[.val (.int p0), .val (.ref b1), .val (.int (13 : Int32)), .val (.int (10 : Int32)), .val (.ref a8)]) rfl ?_
                        show Steps p.tables e below (T70.setTop (mkF m 34 #[.val (.int p0), .val (.ref b1), .val (.int (13 : Int32)), .val (.int (10 : Int32)), .val (.ref a8)] [])) _
                        refine XS.goto X70.here hx rfl (pc0 := 34) (pc' := 9) rfl (hb hby d1_34) (by decide) (by decide) ?_
                        show Steps p.tables e below (T70.setTop (mkF m 9 #[.val (.int p0), .val (.ref b1), .val (.int (13 : Int32)), .val (.int (10 : Int32)), .val (.ref a8)] [])) _
                        refine XS.iloadN X70.here hx rfl (hb hby d1_9) rfl ?_
                        show Steps p.tables e below (T70.setTop (mkF m 10 #[.val (.int p0), .val (.ref b1), .val (.int (13 : Int32)), .val (.int (10 : Int32)), .val (.ref a8)] [(.int (10 : Int32))])) _
                        refine XS.iloadN X70.here hx rfl (hb hby d1_10) rfl ?_
                        show Steps p.tables e below (T70.setTop (mkF m 11 #[.val (.int p0), .val (.ref b1), .val (.int (13 : Int32)), .val (.int (10 : Int32)), .val (.ref a8)] [(.int (13 : Int32)), (.int (10 : Int32))])) _
                        refine XS.icmpNo X70.here hx rfl (hb hby d1_11) rfl (tlt (by decide : ((10 : Int32) < (13 : Int32)))).2.1 ?_
                        show Steps p.tables e below (T70.setTop (mkF m 14 #[.val (.int p0), .val (.ref b1), .val (.int (13 : Int32)), .val (.int (10 : Int32)), .val (.ref a8)] [])) _
                        refine XS.aloadN X70.here hx rfl (hb hby d1_14) rfl rfl ?_
                        show Steps p.tables e below (T70.setTop (mkF m 15 #[.val (.int p0), .val (.ref b1), .val (.int (13 : Int32)), .val (.int (10 : Int32)), .val (.ref a8)] [(.ref b1)])) _
                        refine XS.iloadN X70.here hx rfl (hb hby d1_15) rfl ?_
                        exact kt
                      have st75 : ∀ target, Steps p.tables e below (T70.setTop (mkF m 17 #[.val (.int p0), .val (.ref b1), .val (.int (13 : Int32)), .val (.int (10 : Int32)), .val (.ref a8)] [(.ref a9)])) target → Steps p.tables e below (T70.setTop (mkF m 16 #[.val (.int p0), .val (.ref b1), .val (.int (13 : Int32)), .val (.int (10 : Int32)), .val (.ref a8)] [(.int (10 : Int32)), (.ref b1)])) target := fun target kt => X70.aaload hx (j := (10 : Int32)) (v := (.ref a9)) (by rw [e70]; exact Ab.1) (State.isArrayOf_alike hZ.alike Ab.2.1) rfl Ab.2.2 (inb_of (c := cloneOf cl) hsz ⟨by decide, by decide⟩) hat10 (g := (mkF m 16 #[.val (.int p0), .val (.ref b1), .val (.int (13 : Int32)), .val (.int (10 : Int32)), .val (.ref a8)] [(.int (10 : Int32)), (.ref b1)])) rfl rfl (hb hby d1_16) _ kt
                      have st76 : ∀ target, Steps p.tables e below (T70.setTop (mkF m 21 #[.val (.int p0), .val (.ref b1), .val (.int (13 : Int32)), .val (.int (10 : Int32)), .val (.ref a9)] [(.ref a9)])) target → Steps p.tables e below (T70.setTop (mkF m 17 #[.val (.int p0), .val (.ref b1), .val (.int (13 : Int32)), .val (.int (10 : Int32)), .val (.ref a8)] [(.ref a9)])) target := by
                        intro target kt
                        show Steps p.tables e below (T70.setTop (mkF m 17 #[.val (.int p0), .val (.ref b1), .val (.int (13 : Int32)), .val (.int (10 : Int32)), .val (.ref a8)] [(.ref a9)])) _
                        refine XS.astore X70.here hx rfl (hb hby d1_17) rfl rfl (l' := #[.val (.int p0), .val (.ref b1), .val (.int (13 : Int32)), .val (.int (10 : Int32)), .val (.ref a9)]) rfl ?_
                        show Steps p.tables e below (T70.setTop (mkF m 19 #[.val (.int p0), .val (.ref b1), .val (.int (13 : Int32)), .val (.int (10 : Int32)), .val (.ref a9)] [])) _
                        refine XS.aload X70.here hx rfl (hb hby d1_19) rfl rfl ?_
                        exact kt
                      obtain ⟨T77, X77, e77, st77⟩ := getF X70 hx hZ hown (host := "") (Or.inl (hw _ (List.mem_of_getElem? (i := 32) rfl))) Via.refl e70 F9_1 (g := (mkF m 21 #[.val (.int p0), .val (.ref b1), .val (.int (13 : Int32)), .val (.int (10 : Int32)), .val (.ref a9)] [(.ref a9)])) rfl rfl (hb hby d1_21)
                      have st78 : ∀ target, Steps p.tables e below (T77.setTop (mkF m 25 #[.val (.int p0), .val (.ref b1), .val (.int (13 : Int32)), .val (.int (10 : Int32)), .val (.ref a9)] [(.int p0), (.int (9 : Int32))])) target → Steps p.tables e below (T77.setTop (mkF m 24 #[.val (.int p0), .val (.ref b1), .val (.int (13 : Int32)), .val (.int (10 : Int32)), .val (.ref a9)] [(.int (9 : Int32))])) target := by
                        intro target kt
                        show Steps p.tables e below (T77.setTop (mkF m 24 #[.val (.int p0), .val (.ref b1), .val (.int (13 : Int32)), .val (.int (10 : Int32)), .val (.ref a9)] [(.int (9 : Int32))])) _
                        refine XS.iloadN X77.here hx rfl (hb hby d1_24) rfl ?_
                        exact kt
                      by_cases k9 : (9 : Int32) = p0
                      · have st79 : ∀ target, Steps p.tables e below (T77.setTop (mkF m 28 #[.val (.int p0), .val (.ref b1), .val (.int (13 : Int32)), .val (.int (10 : Int32)), .val (.ref a9)] [])) target → Steps p.tables e below (T77.setTop (mkF m 25 #[.val (.int p0), .val (.ref b1), .val (.int (13 : Int32)), .val (.int (10 : Int32)), .val (.ref a9)] [(.int p0), (.int (9 : Int32))])) target := by
                          intro target kt
                          show Steps p.tables e below (T77.setTop (mkF m 25 #[.val (.int p0), .val (.ref b1), .val (.int (13 : Int32)), .val (.int (10 : Int32)), .val (.ref a9)] [(.int p0), (.int (9 : Int32))])) _
                          refine XS.icmpNo X77.here hx rfl (hb hby d1_25) rfl (teq k9).2 ?_
                          exact kt
                        obtain ⟨fs, hr, hrun, hended, hW, hsame⟩ := X77.leave (v := some (.ref a9)) (fun h => by rw [Bd.returns] at h; cases h)
                        refine ⟨_, _, pre0 _ (st1 _ (st2 _ (st3 _ (st4 _ (st5 _ (st6 _ (st7 _ (st8 _ (st10 _ (st11 _ (st12 _ (st13 _ (st14 _ (st15 _ (st17 _ (st18 _ (st19 _ (st20 _ (st21 _ (st22 _ (st24 _ (st25 _ (st26 _ (st27 _ (st28 _ (st29 _ (st31 _ (st32 _ (st33 _ (st34 _ (st35 _ (st36 _ (st38 _ (st39 _ (st40 _ (st41 _ (st42 _ (st43 _ (st45 _ (st46 _ (st47 _ (st48 _ (st49 _ (st50 _ (st52 _ (st53 _ (st54 _ (st55 _ (st56 _ (st57 _ (st59 _ (st60 _ (st61 _ (st62 _ (st63 _ (st64 _ (st66 _ (st67 _ (st68 _ (st69 _ (st70 _ (st71 _ (st73 _ (st74 _ (st75 _ (st76 _ (st77 _ (st78 _ (st79 _ ?_))))))))))))))))))))))))))))))))))))))))))))))))))))))))))))))))))))), hrun, hended, _, _, rfl, ?_, ⟨_, rfl⟩, hW, hsame.mono (by decide) (by decide)⟩
                        · show Steps p.tables e below (T77.setTop (mkF m 28 #[.val (.int p0), .val (.ref b1), .val (.int (13 : Int32)), .val (.int (10 : Int32)), .val (.ref a9)] [])) _
                          refine XS.aload X77.here hx rfl (hb hby d1_28) rfl rfl ?_
                          show Steps p.tables e below (T77.setTop (mkF m 30 #[.val (.int p0), .val (.ref b1), .val (.int (13 : Int32)), .val (.int (10 : Int32)), .val (.ref a9)] [(.ref a9)])) _
                          jvm_step X77.here [X77.here.top, hx, (hb hby d1_30), X77.method', Bd.returns, Value.isRef, FieldType.isReference]
                          first | (intro acts; rw [hr _ acts rfl rfl rfl]) | rw [hr _ _ rfl rfl rfl]
                          exact Steps.refl _
                        · show Q_rm1 Z p0 va cl a1 a2 a3 a4 a5 a6 a7 a8 a9 a10 a11 a12 a13 h0 n0 _ T77.heap _
                          rw [e77]
                          exact ⟨by unfold own_of; rw [if_neg k1, if_neg k2, if_neg k12, if_neg k13, if_neg k3, if_neg k4, if_neg k5, if_neg k6, if_neg k7, if_neg k8, if_pos k9], N1, Kp_1⟩
                      · have st80 : ∀ target, Steps p.tables e below (T77.setTop (mkF m 31 #[.val (.int p0), .val (.ref b1), .val (.int (13 : Int32)), .val (.int (10 : Int32)), .val (.ref a9)] [])) target → Steps p.tables e below (T77.setTop (mkF m 25 #[.val (.int p0), .val (.ref b1), .val (.int (13 : Int32)), .val (.int (10 : Int32)), .val (.ref a9)] [(.int p0), (.int (9 : Int32))])) target := by
                          intro target kt
                          show Steps p.tables e below (T77.setTop (mkF m 25 #[.val (.int p0), .val (.ref b1), .val (.int (13 : Int32)), .val (.int (10 : Int32)), .val (.ref a9)] [(.int p0), (.int (9 : Int32))])) _
                          refine XS.icmpYes X77.here hx rfl (pc0 := 25) (pc' := 31) rfl (hb hby d1_25) rfl (feq k9).2 (by decide) (by decide) ?_
                          exact kt
                        have st81 : ∀ target, Steps p.tables e below (T77.setTop (mkF m 16 #[.val (.int p0), .val (.ref b1), .val (.int (13 : Int32)), .val (.int (11 : Int32)), .val (.ref a9)] [(.int (11 : Int32)), (.ref b1)])) target → Steps p.tables e below (T77.setTop (mkF m 31 #[.val (.int p0), .val (.ref b1), .val (.int (13 : Int32)), .val (.int (10 : Int32)), .val (.ref a9)] [])) target := by
                          intro target kt
                          show Steps p.tables e below (T77.setTop (mkF m 31 #[.val (.int p0), .val (.ref b1), .val (.int (13 : Int32)), .val (.int (10 : Int32)), .val (.ref a9)] [])) _
                          refine XS.iinc X77.here hx rfl (hb hby d1_31) rfl (l' := #[.val (.int p0), .val (.ref b1), .val (.int (13 : Int32)), .val (.int (11 : Int32)), .val (.ref a9)]) rfl ?_
                          show Steps p.tables e below (T77.setTop (mkF m 34 #[.val (.int p0), .val (.ref b1), .val (.int (13 : Int32)), .val (.int (11 : Int32)), .val (.ref a9)] [])) _
                          refine XS.goto X77.here hx rfl (pc0 := 34) (pc' := 9) rfl (hb hby d1_34) (by decide) (by decide) ?_
                          show Steps p.tables e below (T77.setTop (mkF m 9 #[.val (.int p0), .val (.ref b1), .val (.int (13 : Int32)), .val (.int (11 : Int32)), .val (.ref a9)] [])) _
                          refine XS.iloadN X77.here hx rfl (hb hby d1_9) rfl ?_
                          show Steps p.tables e below (T77.setTop (mkF m 10 #[.val (.int p0), .val (.ref b1), .val (.int (13 : Int32)), .val (.int (11 : Int32)), .val (.ref a9)] [(.int (11 : Int32))])) _
                          refine XS.iloadN X77.here hx rfl (hb hby d1_10) rfl ?_
                          show Steps p.tables e below (T77.setTop (mkF m 11 #[.val (.int p0), .val (.ref b1), .val (.int (13 : Int32)), .val (.int (11 : Int32)), .val (.ref a9)] [(.int (13 : Int32)), (.int (11 : Int32))])) _
                          refine XS.icmpNo X77.here hx rfl (hb hby d1_11) rfl (tlt (by decide : ((11 : Int32) < (13 : Int32)))).2.1 ?_
                          show Steps p.tables e below (T77.setTop (mkF m 14 #[.val (.int p0), .val (.ref b1), .val (.int (13 : Int32)), .val (.int (11 : Int32)), .val (.ref a9)] [])) _
                          refine XS.aloadN X77.here hx rfl (hb hby d1_14) rfl rfl ?_
                          show Steps p.tables e below (T77.setTop (mkF m 15 #[.val (.int p0), .val (.ref b1), .val (.int (13 : Int32)), .val (.int (11 : Int32)), .val (.ref a9)] [(.ref b1)])) _
                          refine XS.iloadN X77.here hx rfl (hb hby d1_15) rfl ?_
                          exact kt
                        have st82 : ∀ target, Steps p.tables e below (T77.setTop (mkF m 17 #[.val (.int p0), .val (.ref b1), .val (.int (13 : Int32)), .val (.int (11 : Int32)), .val (.ref a9)] [(.ref a10)])) target → Steps p.tables e below (T77.setTop (mkF m 16 #[.val (.int p0), .val (.ref b1), .val (.int (13 : Int32)), .val (.int (11 : Int32)), .val (.ref a9)] [(.int (11 : Int32)), (.ref b1)])) target := fun target kt => X77.aaload hx (j := (11 : Int32)) (v := (.ref a10)) (by rw [e77]; exact Ab.1) (State.isArrayOf_alike hZ.alike Ab.2.1) rfl Ab.2.2 (inb_of (c := cloneOf cl) hsz ⟨by decide, by decide⟩) hat11 (g := (mkF m 16 #[.val (.int p0), .val (.ref b1), .val (.int (13 : Int32)), .val (.int (11 : Int32)), .val (.ref a9)] [(.int (11 : Int32)), (.ref b1)])) rfl rfl (hb hby d1_16) _ kt
                        have st83 : ∀ target, Steps p.tables e below (T77.setTop (mkF m 21 #[.val (.int p0), .val (.ref b1), .val (.int (13 : Int32)), .val (.int (11 : Int32)), .val (.ref a10)] [(.ref a10)])) target → Steps p.tables e below (T77.setTop (mkF m 17 #[.val (.int p0), .val (.ref b1), .val (.int (13 : Int32)), .val (.int (11 : Int32)), .val (.ref a9)] [(.ref a10)])) target := by
                          intro target kt
                          show Steps p.tables e below (T77.setTop (mkF m 17 #[.val (.int p0), .val (.ref b1), .val (.int (13 : Int32)), .val (.int (11 : Int32)), .val (.ref a9)] [(.ref a10)])) _
                          refine XS.astore X77.here hx rfl (hb hby d1_17) rfl rfl (l' := #[.val (.int p0), .val (.ref b1), .val (.int (13 : Int32)), .val (.int (11 : Int32)), .val (.ref a10)]) rfl ?_
                          show Steps p.tables e below (T77.setTop (mkF m 19 #[.val (.int p0), .val (.ref b1), .val (.int (13 : Int32)), .val (.int (11 : Int32)), .val (.ref a10)] [])) _
                          refine XS.aload X77.here hx rfl (hb hby d1_19) rfl rfl ?_
                          exact kt
                        obtain ⟨T84, X84, e84, st84⟩ := getF X77 hx hZ hown (host := "") (Or.inl (hw _ (List.mem_of_getElem? (i := 32) rfl))) Via.refl e77 F10_1 (g := (mkF m 21 #[.val (.int p0), .val (.ref b1), .val (.int (13 : Int32)), .val (.int (11 : Int32)), .val (.ref a10)] [(.ref a10)])) rfl rfl (hb hby d1_21)
                        have st85 : ∀ target, Steps p.tables e below (T84.setTop (mkF m 25 #[.val (.int p0), .val (.ref b1), .val (.int (13 : Int32)), .val (.int (11 : Int32)), .val (.ref a10)] [(.int p0), (.int (10 : Int32))])) target → Steps p.tables e below (T84.setTop (mkF m 24 #[.val (.int p0), .val (.ref b1), .val (.int (13 : Int32)), .val (.int (11 : Int32)), .val (.ref a10)] [(.int (10 : Int32))])) target := by
                          intro target kt
                          show Steps p.tables e below (T84.setTop (mkF m 24 #[.val (.int p0), .val (.ref b1), .val (.int (13 : Int32)), .val (.int (11 : Int32)), .val (.ref a10)] [(.int (10 : Int32))])) _
                          refine XS.iloadN X84.here hx rfl (hb hby d1_24) rfl ?_
                          exact kt
                        by_cases k10 : (10 : Int32) = p0
                        · have st86 : ∀ target, Steps p.tables e below (T84.setTop (mkF m 28 #[.val (.int p0), .val (.ref b1), .val (.int (13 : Int32)), .val (.int (11 : Int32)), .val (.ref a10)] [])) target → Steps p.tables e below (T84.setTop (mkF m 25 #[.val (.int p0), .val (.ref b1), .val (.int (13 : Int32)), .val (.int (11 : Int32)), .val (.ref a10)] [(.int p0), (.int (10 : Int32))])) target := by
                            intro target kt
                            show Steps p.tables e below (T84.setTop (mkF m 25 #[.val (.int p0), .val (.ref b1), .val (.int (13 : Int32)), .val (.int (11 : Int32)), .val (.ref a10)] [(.int p0), (.int (10 : Int32))])) _
                            refine XS.icmpNo X84.here hx rfl (hb hby d1_25) rfl (teq k10).2 ?_
                            exact kt
                          obtain ⟨fs, hr, hrun, hended, hW, hsame⟩ := X84.leave (v := some (.ref a10)) (fun h => by rw [Bd.returns] at h; cases h)
                          refine ⟨_, _, pre0 _ (st1 _ (st2 _ (st3 _ (st4 _ (st5 _ (st6 _ (st7 _ (st8 _ (st10 _ (st11 _ (st12 _ (st13 _ (st14 _ (st15 _ (st17 _ (st18 _ (st19 _ (st20 _ (st21 _ (st22 _ (st24 _ (st25 _ (st26 _ (st27 _ (st28 _ (st29 _ (st31 _ (st32 _ (st33 _ (st34 _ (st35 _ (st36 _ (st38 _ (st39 _ (st40 _ (st41 _ (st42 _ (st43 _ (st45 _ (st46 _ (st47 _ (st48 _ (st49 _ (st50 _ (st52 _ (st53 _ (st54 _ (st55 _ (st56 _ (st57 _ (st59 _ (st60 _ (st61 _ (st62 _ (st63 _ (st64 _ (st66 _ (st67 _ (st68 _ (st69 _ (st70 _ (st71 _ (st73 _ (st74 _ (st75 _ (st76 _ (st77 _ (st78 _ (st80 _ (st81 _ (st82 _ (st83 _ (st84 _ (st85 _ (st86 _ ?_))))))))))))))))))))))))))))))))))))))))))))))))))))))))))))))))))))))))))), hrun, hended, _, _, rfl, ?_, ⟨_, rfl⟩, hW, hsame.mono (by decide) (by decide)⟩
                          · show Steps p.tables e below (T84.setTop (mkF m 28 #[.val (.int p0), .val (.ref b1), .val (.int (13 : Int32)), .val (.int (11 : Int32)), .val (.ref a10)] [])) _
                            refine XS.aload X84.here hx rfl (hb hby d1_28) rfl rfl ?_
                            show Steps p.tables e below (T84.setTop (mkF m 30 #[.val (.int p0), .val (.ref b1), .val (.int (13 : Int32)), .val (.int (11 : Int32)), .val (.ref a10)] [(.ref a10)])) _
                            jvm_step X84.here [X84.here.top, hx, (hb hby d1_30), X84.method', Bd.returns, Value.isRef, FieldType.isReference]
                            first | (intro acts; rw [hr _ acts rfl rfl rfl]) | rw [hr _ _ rfl rfl rfl]
                            exact Steps.refl _
                          · show Q_rm1 Z p0 va cl a1 a2 a3 a4 a5 a6 a7 a8 a9 a10 a11 a12 a13 h0 n0 _ T84.heap _
                            rw [e84]
                            exact ⟨by unfold own_of; rw [if_neg k1, if_neg k2, if_neg k12, if_neg k13, if_neg k3, if_neg k4, if_neg k5, if_neg k6, if_neg k7, if_neg k8, if_neg k9, if_pos k10], N1, Kp_1⟩
                        · have st87 : ∀ target, Steps p.tables e below (T84.setTop (mkF m 31 #[.val (.int p0), .val (.ref b1), .val (.int (13 : Int32)), .val (.int (11 : Int32)), .val (.ref a10)] [])) target → Steps p.tables e below (T84.setTop (mkF m 25 #[.val (.int p0), .val (.ref b1), .val (.int (13 : Int32)), .val (.int (11 : Int32)), .val (.ref a10)] [(.int p0), (.int (10 : Int32))])) target := by
                            intro target kt
                            show Steps p.tables e below (T84.setTop (mkF m 25 #[.val (.int p0), .val (.ref b1), .val (.int (13 : Int32)), .val (.int (11 : Int32)), .val (.ref a10)] [(.int p0), (.int (10 : Int32))])) _
                            refine XS.icmpYes X84.here hx rfl (pc0 := 25) (pc' := 31) rfl (hb hby d1_25) rfl (feq k10).2 (by decide) (by decide) ?_
                            exact kt
                          have st88 : ∀ target, Steps p.tables e below (T84.setTop (mkF m 16 #[.val (.int p0), .val (.ref b1), .val (.int (13 : Int32)), .val (.int (12 : Int32)), .val (.ref a10)] [(.int (12 : Int32)), (.ref b1)])) target → Steps p.tables e below (T84.setTop (mkF m 31 #[.val (.int p0), .val (.ref b1), .val (.int (13 : Int32)), .val (.int (11 : Int32)), .val (.ref a10)] [])) target := by
                            intro target kt
                            show Steps p.tables e below (T84.setTop (mkF m 31 #[.val (.int p0), .val (.ref b1), .val (.int (13 : Int32)), .val (.int (11 : Int32)), .val (.ref a10)] [])) _
                            refine XS.iinc X84.here hx rfl (hb hby d1_31) rfl (l' := #[.val (.int p0), .val (.ref b1), .val (.int (13 : Int32)), .val (.int (12 : Int32)), .val (.ref a10)]) rfl ?_
                            show Steps p.tables e below (T84.setTop (mkF m 34 #[.val (.int p0), .val (.ref b1), .val (.int (13 : Int32)), .val (.int (12 : Int32)), .val (.ref a10)] [])) _
                            refine XS.goto X84.here hx rfl (pc0 := 34) (pc' := 9) rfl (hb hby d1_34) (by decide) (by decide) ?_
                            show Steps p.tables e below (T84.setTop (mkF m 9 #[.val (.int p0), .val (.ref b1), .val (.int (13 : Int32)), .val (.int (12 : Int32)), .val (.ref a10)] [])) _
                            refine XS.iloadN X84.here hx rfl (hb hby d1_9) rfl ?_
                            show Steps p.tables e below (T84.setTop (mkF m 10 #[.val (.int p0), .val (.ref b1), .val (.int (13 : Int32)), .val (.int (12 : Int32)), .val (.ref a10)] [(.int (12 : Int32))])) _
                            refine XS.iloadN X84.here hx rfl (hb hby d1_10) rfl ?_
                            show Steps p.tables e below (T84.setTop (mkF m 11 #[.val (.int p0), .val (.ref b1), .val (.int (13 : Int32)), .val (.int (12 : Int32)), .val (.ref a10)] [(.int (13 : Int32)), (.int (12 : Int32))])) _
                            refine XS.icmpNo X84.here hx rfl (hb hby d1_11) rfl (tlt (by decide : ((12 : Int32) < (13 : Int32)))).2.1 ?_
                            show Steps p.tables e below (T84.setTop (mkF m 14 #[.val (.int p0), .val (.ref b1), .val (.int (13 : Int32)), .val (.int (12 : Int32)), .val (.ref a10)] [])) _
                            refine XS.aloadN X84.here hx rfl (hb hby d1_14) rfl rfl ?_
                            show Steps p.tables e below (T84.setTop (mkF m 15 #[.val (.int p0), .val (.ref b1), .val (.int (13 : Int32)), .val (.int (12 : Int32)), .val (.ref a10)] [(.ref b1)])) _
                            refine XS.iloadN X84.here hx rfl (hb hby d1_15) rfl ?_
                            exact kt
                          have st89 : ∀ target, Steps p.tables e below (T84.setTop (mkF m 17 #[.val (.int p0), .val (.ref b1), .val (.int (13 : Int32)), .val (.int (12 : Int32)), .val (.ref a10)] [(.ref a11)])) target → Steps p.tables e below (T84.setTop (mkF m 16 #[.val (.int p0), .val (.ref b1), .val (.int (13 : Int32)), .val (.int (12 : Int32)), .val (.ref a10)] [(.int (12 : Int32)), (.ref b1)])) target := fun target kt => X84.aaload hx (j := (12 : Int32)) (v := (.ref a11)) (by rw [e84]; exact Ab.1) (State.isArrayOf_alike hZ.alike Ab.2.1) rfl Ab.2.2 (inb_of (c := cloneOf cl) hsz ⟨by decide, by decide⟩) hat12 (g := (mkF m 16 #[.val (.int p0), .val (.ref b1), .val (.int (13 : Int32)), .val (.int (12 : Int32)), .val (.ref a10)] [(.int (12 : Int32)), (.ref b1)])) rfl rfl (hb hby d1_16) _ kt
                          have st90 : ∀ target, Steps p.tables e below (T84.setTop (mkF m 21 #[.val (.int p0), .val (.ref b1), .val (.int (13 : Int32)), .val (.int (12 : Int32)), .val (.ref a11)] [(.ref a11)])) target → Steps p.tables e below (T84.setTop (mkF m 17 #[.val (.int p0), .val (.ref b1), .val (.int (13 : Int32)), .val (.int (12 : Int32)), .val (.ref a10)] [(.ref a11)])) target := by
                            intro target kt
                            show Steps p.tables e below (T84.setTop (mkF m 17 #[.val (.int p0), .val (.ref b1), .val (.int (13 : Int32)), .val (.int (12 : Int32)), .val (.ref a10)] [(.ref a11)])) _
                            refine XS.astore X84.here hx rfl (hb hby d1_17) rfl rfl (l' := #[.val (.int p0), .val (.ref b1), .val (.int (13 : Int32)), .val (.int (12 : Int32)), .val (.ref a11)]) rfl ?_
                            show Steps p.tables e below (T84.setTop (mkF m 19 #[.val (.int p0), .val (.ref b1), .val (.int (13 : Int32)), .val (.int (12 : Int32)), .val (.ref a11)] [])) _
                            refine XS.aload X84.here hx rfl (hb hby d1_19) rfl rfl ?_
                            exact kt
                          obtain ⟨T91, X91, e91, st91⟩ := getF X84 hx hZ hown (host := "") (Or.inl (hw _ (List.mem_of_getElem? (i := 32) rfl))) Via.refl e84 F11_1 (g := (mkF m 21 #[.val (.int p0), .val (.ref b1), .val (.int (13 : Int32)), .val (.int (12 : Int32)), .val (.ref a11)] [(.ref a11)])) rfl rfl (hb hby d1_21)
                          have st92 : ∀ target, Steps p.tables e below (T91.setTop (mkF m 25 #[.val (.int p0), .val (.ref b1), .val (.int (13 : Int32)), .val (.int (12 : Int32)), .val (.ref a11)] [(.int p0), (.int (11 : Int32))])) target → Steps p.tables e below (T91.setTop (mkF m 24 #[.val (.int p0), .val (.ref b1), .val (.int (13 : Int32)), .val (.int (12 : Int32)), .val (.ref a11)] [(.int (11 : Int32))])) target := by
                            intro target kt
                            show Steps p.tables e below (T91.setTop (mkF m 24 #[.val (.int p0), .val (.ref b1), .val (.int (13 : Int32)), .val (.int (12 : Int32)), .val (.ref a11)] [(.int (11 : Int32))])) _
                            refine XS.iloadN X91.here hx rfl (hb hby d1_24) rfl ?_
                            exact kt
                          by_cases k11 : (11 : Int32) = p0
                          · have st93 : ∀ target, Steps p.tables e below (T91.setTop (mkF m 28 #[.val (.int p0), .val (.ref b1), .val (.int (13 : Int32)), .val (.int (12 : Int32)), .val (.ref a11)] [])) target → Steps p.tables e below (T91.setTop (mkF m 25 #[.val (.int p0), .val (.ref b1), .val (.int (13 : Int32)), .val (.int (12 : Int32)), .val (.ref a11)] [(.int p0), (.int (11 : Int32))])) target := by
                              intro target kt
                              show Steps p.tables e below (T91.setTop (mkF m 25 #[.val (.int p0), .val (.ref b1), .val (.int (13 : Int32)), .val (.int (12 : Int32)), .val (.ref a11)] [(.int p0), (.int (11 : Int32))])) _
                              refine XS.icmpNo X91.here hx rfl (hb hby d1_25) rfl (teq k11).2 ?_
                              exact kt
                            obtain ⟨fs, hr, hrun, hended, hW, hsame⟩ := X91.leave (v := some (.ref a11)) (fun h => by rw [Bd.returns] at h; cases h)
                            refine ⟨_, _, pre0 _ (st1 _ (st2 _ (st3 _ (st4 _ (st5 _ (st6 _ (st7 _ (st8 _ (st10 _ (st11 _ (st12 _ (st13 _ (st14 _ (st15 _ (st17 _ (st18 _ (st19 _ (st20 _ (st21 _ (st22 _ (st24 _ (st25 _ (st26 _ (st27 _ (st28 _ (st29 _ (st31 _ (st32 _ (st33 _ (st34 _ (st35 _ (st36 _ (st38 _ (st39 _ (st40 _ (st41 _ (st42 _ (st43 _ (st45 _ (st46 _ (st47 _ (st48 _ (st49 _ (st50 _ (st52 _ (st53 _ (st54 _ (st55 _ (st56 _ (st57 _ (st59 _ (st60 _ (st61 _ (st62 _ (st63 _ (st64 _ (st66 _ (st67 _ (st68 _ (st69 _ (st70 _ (st71 _ (st73 _ (st74 _ (st75 _ (st76 _ (st77 _ (st78 _ (st80 _ (st81 _ (st82 _ (st83 _ (st84 _ (st85 _ (st87 _ (st88 _ (st89 _ (st90 _ (st91 _ (st92 _ (st93 _ ?_))))))))))))))))))))))))))))))))))))))))))))))))))))))))))))))))))))))))))))))))), hrun, hended, _, _, rfl, ?_, ⟨_, rfl⟩, hW, hsame.mono (by decide) (by decide)⟩
                            · show Steps p.tables e below (T91.setTop (mkF m 28 #[.val (.int p0), .val (.ref b1), .val (.int (13 : Int32)), .val (.int (12 : Int32)), .val (.ref a11)] [])) _
                              refine XS.aload X91.here hx rfl (hb hby d1_28) rfl rfl ?_
                              show Steps p.tables e below (T91.setTop (mkF m 30 #[.val (.int p0), .val (.ref b1), .val (.int (13 : Int32)), .val (.int (12 : Int32)), .val (.ref a11)] [(.ref a11)])) _
                              jvm_step X91.here [X91.here.top, hx, (hb hby d1_30), X91.method', Bd.returns, Value.isRef, FieldType.isReference]
                              first | (intro acts; rw [hr _ acts rfl rfl rfl]) | rw [hr _ _ rfl rfl rfl]
                              exact Steps.refl _
                            · show Q_rm1 Z p0 va cl a1 a2 a3 a4 a5 a6 a7 a8 a9 a10 a11 a12 a13 h0 n0 _ T91.heap _
                              rw [e91]
                              exact ⟨by unfold own_of; rw [if_neg k1, if_neg k2, if_neg k12, if_neg k13, if_neg k3, if_neg k4, if_neg k5, if_neg k6, if_neg k7, if_neg k8, if_neg k9, if_neg k10, if_pos k11], N1, Kp_1⟩
                          · have st94 : ∀ target, Steps p.tables e below (T91.setTop (mkF m 31 #[.val (.int p0), .val (.ref b1), .val (.int (13 : Int32)), .val (.int (12 : Int32)), .val (.ref a11)] [])) target → Steps p.tables e below (T91.setTop (mkF m 25 #[.val (.int p0), .val (.ref b1), .val (.int (13 : Int32)), .val (.int (12 : Int32)), .val (.ref a11)] [(.int p0), (.int (11 : Int32))])) target := by
                              intro target kt
                              show Steps p.tables e below (T91.setTop (mkF m 25 #[.val (.int p0), .val (.ref b1), .val (.int (13 : Int32)), .val (.int (12 : Int32)), .val (.ref a11)] [(.int p0), (.int (11 : Int32))])) _
                              refine XS.icmpYes X91.here hx rfl (pc0 := 25) (pc' := 31) rfl (hb hby d1_25) rfl (feq k11).2 (by decide) (by decide) ?_
                              exact kt
                            obtain ⟨fs, hr, hrun, hended, hW, hsame⟩ := X91.leave (v := some .null) (fun h => by rw [Bd.returns] at h; cases h)
                            refine ⟨_, _, pre0 _ (st1 _ (st2 _ (st3 _ (st4 _ (st5 _ (st6 _ (st7 _ (st8 _ (st10 _ (st11 _ (st12 _ (st13 _ (st14 _ (st15 _ (st17 _ (st18 _ (st19 _ (st20 _ (st21 _ (st22 _ (st24 _ (st25 _ (st26 _ (st27 _ (st28 _ (st29 _ (st31 _ (st32 _ (st33 _ (st34 _ (st35 _ (st36 _ (st38 _ (st39 _ (st40 _ (st41 _ (st42 _ (st43 _ (st45 _ (st46 _ (st47 _ (st48 _ (st49 _ (st50 _ (st52 _ (st53 _ (st54 _ (st55 _ (st56 _ (st57 _ (st59 _ (st60 _ (st61 _ (st62 _ (st63 _ (st64 _ (st66 _ (st67 _ (st68 _ (st69 _ (st70 _ (st71 _ (st73 _ (st74 _ (st75 _ (st76 _ (st77 _ (st78 _ (st80 _ (st81 _ (st82 _ (st83 _ (st84 _ (st85 _ (st87 _ (st88 _ (st89 _ (st90 _ (st91 _ (st92 _ (st94 _ ?_))))))))))))))))))))))))))))))))))))))))))))))))))))))))))))))))))))))))))))))))), hrun, hended, _, _, rfl, ?_, ⟨_, rfl⟩, hW, hsame.mono (by decide) (by decide)⟩
                            · show Steps p.tables e below (T91.setTop (mkF m 31 #[.val (.int p0), .val (.ref b1), .val (.int (13 : Int32)), .val (.int (12 : Int32)), .val (.ref a11)] [])) _
                              refine XS.iinc X91.here hx rfl (hb hby d1_31) rfl (l' := #[.val (.int p0), .val (.ref b1), .val (.int (13 : Int32)), .val (.int (13 : Int32)), .val (.ref a11)]) rfl ?_
                              show Steps p.tables e below (T91.setTop (mkF m 34 #[.val (.int p0), .val (.ref b1), .val (.int (13 : Int32)), .val (.int (13 : Int32)), .val (.ref a11)] [])) _
                              refine XS.goto X91.here hx rfl (pc0 := 34) (pc' := 9) rfl (hb hby d1_34) (by decide) (by decide) ?_
                              show Steps p.tables e below (T91.setTop (mkF m 9 #[.val (.int p0), .val (.ref b1), .val (.int (13 : Int32)), .val (.int (13 : Int32)), .val (.ref a11)] [])) _
                              refine XS.iloadN X91.here hx rfl (hb hby d1_9) rfl ?_
                              show Steps p.tables e below (T91.setTop (mkF m 10 #[.val (.int p0), .val (.ref b1), .val (.int (13 : Int32)), .val (.int (13 : Int32)), .val (.ref a11)] [(.int (13 : Int32))])) _
                              refine XS.iloadN X91.here hx rfl (hb hby d1_10) rfl ?_
                              show Steps p.tables e below (T91.setTop (mkF m 11 #[.val (.int p0), .val (.ref b1), .val (.int (13 : Int32)), .val (.int (13 : Int32)), .val (.ref a11)] [(.int (13 : Int32)), (.int (13 : Int32))])) _
                              refine XS.icmpYes X91.here hx rfl (pc0 := 11) (pc' := 37) rfl (hb hby d1_11) rfl (flt (by decide : ¬ ((13 : Int32) < (13 : Int32)))).2.1 (by decide) (by decide) ?_
                              show Steps p.tables e below (T91.setTop (mkF m 37 #[.val (.int p0), .val (.ref b1), .val (.int (13 : Int32)), .val (.int (13 : Int32)), .val (.ref a11)] [])) _
                              refine XS.aconstNull X91.here hx rfl (hb hby d1_37) ?_
                              show Steps p.tables e below (T91.setTop (mkF m 38 #[.val (.int p0), .val (.ref b1), .val (.int (13 : Int32)), .val (.int (13 : Int32)), .val (.ref a11)] [.null])) _
                              jvm_step X91.here [X91.here.top, hx, (hb hby d1_38), X91.method', Bd.returns, Value.isRef, FieldType.isReference]
                              first | (intro acts; rw [hr _ acts rfl rfl rfl]) | rw [hr _ _ rfl rfl rfl]
                              exact Steps.refl _
                            · show Q_rm1 Z p0 va cl a1 a2 a3 a4 a5 a6 a7 a8 a9 a10 a11 a12 a13 h0 n0 _ T91.heap _
                              rw [e91]
                              exact ⟨by unfold own_of; rw [if_neg k1, if_neg k2, if_neg k12, if_neg k13, if_neg k3, if_neg k4, if_neg k5, if_neg k6, if_neg k7, if_neg k8, if_neg k9, if_neg k10, if_neg k11], N1, Kp_1⟩
theorem d3_0 : decode method_3_code 0 = .ok (.iload_n 0, 1) := by decide +kernel
theorem d3_1 : decode method_3_code 1 = .ok (.iconst 1, 1) := by decide +kernel
theorem d3_2 : decode method_3_code 2 = .ok (.if_icmp .ne 7, 3) := by decide +kernel
theorem d3_5 : decode method_3_code 5 = .ok (.getstatic 19, 3) := by decide +kernel
theorem d3_8 : decode method_3_code 8 = .ok (.areturn, 1) := by decide +kernel
theorem d3_9 : decode method_3_code 9 = .ok (.iload_n 0, 1) := by decide +kernel
theorem d3_10 : decode method_3_code 10 = .ok (.iconst 2, 1) := by decide +kernel
theorem d3_11 : decode method_3_code 11 = .ok (.if_icmp .ne 7, 3) := by decide +kernel
theorem d3_14 : decode method_3_code 14 = .ok (.getstatic 23, 3) := by decide +kernel
theorem d3_17 : decode method_3_code 17 = .ok (.areturn, 1) := by decide +kernel
theorem d3_18 : decode method_3_code 18 = .ok (.iload_n 0, 1) := by decide +kernel
theorem d3_19 : decode method_3_code 19 = .ok (.iconst 3, 1) := by decide +kernel
theorem d3_20 : decode method_3_code 20 = .ok (.if_icmp .ne 7, 3) := by decide +kernel
theorem d3_23 : decode method_3_code 23 = .ok (.getstatic 26, 3) := by decide +kernel
theorem d3_26 : decode method_3_code 26 = .ok (.areturn, 1) := by decide +kernel
theorem d3_27 : decode method_3_code 27 = .ok (.iload_n 0, 1) := by decide +kernel
theorem d3_28 : decode method_3_code 28 = .ok (.iconst 4, 1) := by decide +kernel
theorem d3_29 : decode method_3_code 29 = .ok (.if_icmp .ne 7, 3) := by decide +kernel
theorem d3_32 : decode method_3_code 32 = .ok (.getstatic 29, 3) := by decide +kernel
theorem d3_35 : decode method_3_code 35 = .ok (.areturn, 1) := by decide +kernel
theorem d3_36 : decode method_3_code 36 = .ok (.iload_n 0, 1) := by decide +kernel
theorem d3_37 : decode method_3_code 37 = .ok (.iconst 5, 1) := by decide +kernel
theorem d3_38 : decode method_3_code 38 = .ok (.if_icmp .ne 7, 3) := by decide +kernel
theorem d3_41 : decode method_3_code 41 = .ok (.getstatic 32, 3) := by decide +kernel
theorem d3_44 : decode method_3_code 44 = .ok (.areturn, 1) := by decide +kernel
theorem d3_45 : decode method_3_code 45 = .ok (.iload_n 0, 1) := by decide +kernel
theorem d3_46 : decode method_3_code 46 = .ok (.bipush 6, 2) := by decide +kernel
theorem d3_48 : decode method_3_code 48 = .ok (.if_icmp .ne 7, 3) := by decide +kernel
theorem d3_51 : decode method_3_code 51 = .ok (.getstatic 35, 3) := by decide +kernel
theorem d3_54 : decode method_3_code 54 = .ok (.areturn, 1) := by decide +kernel
theorem d3_55 : decode method_3_code 55 = .ok (.iload_n 0, 1) := by decide +kernel
theorem d3_56 : decode method_3_code 56 = .ok (.bipush 7, 2) := by decide +kernel
theorem d3_58 : decode method_3_code 58 = .ok (.if_icmp .ne 7, 3) := by decide +kernel
theorem d3_61 : decode method_3_code 61 = .ok (.getstatic 38, 3) := by decide +kernel
theorem d3_64 : decode method_3_code 64 = .ok (.areturn, 1) := by decide +kernel
theorem d3_65 : decode method_3_code 65 = .ok (.iload_n 0, 1) := by decide +kernel
theorem d3_66 : decode method_3_code 66 = .ok (.bipush 8, 2) := by decide +kernel
theorem d3_68 : decode method_3_code 68 = .ok (.if_icmp .ne 7, 3) := by decide +kernel
theorem d3_71 : decode method_3_code 71 = .ok (.getstatic 41, 3) := by decide +kernel
theorem d3_74 : decode method_3_code 74 = .ok (.areturn, 1) := by decide +kernel
theorem d3_75 : decode method_3_code 75 = .ok (.iload_n 0, 1) := by decide +kernel
theorem d3_76 : decode method_3_code 76 = .ok (.bipush 9, 2) := by decide +kernel
theorem d3_78 : decode method_3_code 78 = .ok (.if_icmp .ne 7, 3) := by decide +kernel
theorem d3_81 : decode method_3_code 81 = .ok (.getstatic 44, 3) := by decide +kernel
theorem d3_84 : decode method_3_code 84 = .ok (.areturn, 1) := by decide +kernel
theorem d3_85 : decode method_3_code 85 = .ok (.iload_n 0, 1) := by decide +kernel
theorem d3_86 : decode method_3_code 86 = .ok (.bipush 10, 2) := by decide +kernel
theorem d3_88 : decode method_3_code 88 = .ok (.if_icmp .ne 7, 3) := by decide +kernel
theorem d3_91 : decode method_3_code 91 = .ok (.getstatic 47, 3) := by decide +kernel
theorem d3_94 : decode method_3_code 94 = .ok (.areturn, 1) := by decide +kernel
theorem d3_95 : decode method_3_code 95 = .ok (.iload_n 0, 1) := by decide +kernel
theorem d3_96 : decode method_3_code 96 = .ok (.bipush 11, 2) := by decide +kernel
theorem d3_98 : decode method_3_code 98 = .ok (.if_icmp .ne 7, 3) := by decide +kernel
theorem d3_101 : decode method_3_code 101 = .ok (.getstatic 50, 3) := by decide +kernel
theorem d3_104 : decode method_3_code 104 = .ok (.areturn, 1) := by decide +kernel
theorem d3_105 : decode method_3_code 105 = .ok (.iload_n 0, 1) := by decide +kernel
theorem d3_106 : decode method_3_code 106 = .ok (.bipush 12, 2) := by decide +kernel
theorem d3_108 : decode method_3_code 108 = .ok (.if_icmp .ne 7, 3) := by decide +kernel
theorem d3_111 : decode method_3_code 111 = .ok (.getstatic 53, 3) := by decide +kernel
theorem d3_114 : decode method_3_code 114 = .ok (.areturn, 1) := by decide +kernel
theorem d3_115 : decode method_3_code 115 = .ok (.iload_n 0, 1) := by decide +kernel
theorem d3_116 : decode method_3_code 116 = .ok (.bipush 13, 2) := by decide +kernel
theorem d3_118 : decode method_3_code 118 = .ok (.if_icmp .ne 7, 3) := by decide +kernel
theorem d3_121 : decode method_3_code 121 = .ok (.getstatic 56, 3) := by decide +kernel
theorem d3_124 : decode method_3_code 124 = .ok (.areturn, 1) := by decide +kernel
theorem d3_125 : decode method_3_code 125 = .ok (.aconst_null, 1) := by decide +kernel
theorem d3_126 : decode method_3_code 126 = .ok (.areturn, 1) := by decide +kernel
theorem pn_1 : plainName "com/example/afterimage/afterimage/log/TypeOfPinLaw" = true := by first | (simp [plainName, overriddenIn]; done) | decide +kernel
theorem ef_rm3 (m : MethodId) (x0 : Int32) : entryFrame m #[(.int x0)] 1 = mkF m 0 #[.val (.int x0)] [] := by first | (simp [entryFrame, mkF, argsToLocals, Value.category]; done) | rfl
def Q_rm3 (Z : State) (p0 : Int32) (a1 : Addr) (a2 : Addr) (a3 : Addr) (a4 : Addr) (a5 : Addr) (a6 : Addr) (a7 : Addr) (a8 : Addr) (a9 : Addr) (a10 : Addr) (a11 : Addr) (a12 : Addr) (a13 : Addr) (h0 : Heap) (n0 : Nat) (v : Option Value) (h : Heap) (L : List Loc) : Prop := v = some (own_ex p0 a1 a2 a3 a4 a5 a6 a7 a8 a9 a10 a11 a12 a13) ∧ Fr n0 L ∧ h = h0
set_option maxRecDepth 65536 in
set_option maxHeartbeats 40000000 in
theorem rm3 (l : Launch) (Z : State) (a0 : Array Value) (hw : ∀ d ∈ tables_1, d.before a0 Z = true) (ws : List Jvm.Cond) (p0 : Int32) (a1 : Addr) (a2 : Addr) (a3 : Addr) (a4 : Addr) (a5 : Addr) (a6 : Addr) (a7 : Addr) (a8 : Addr) (a9 : Addr) (a10 : Addr) (a11 : Addr) (a12 : Addr) (a13 : Addr) (h0 : Heap) (n0 : Nat) (Z0 : n0 ≤ h0.size) (S1 : Sta Z h0 "com/example/afterimage/afterimage/log/LogRecord$Type" "PUT" "Lcom/example/afterimage/afterimage/log/LogRecord$Type;" (.ref a1)) (S2 : Sta Z h0 "com/example/afterimage/afterimage/log/LogRecord$Type" "FORMAT" "Lcom/example/afterimage/afterimage/log/LogRecord$Type;" (.ref a2)) (S3 : Sta Z h0 "com/example/afterimage/afterimage/log/LogRecord$Type" "COMMIT" "Lcom/example/afterimage/afterimage/log/LogRecord$Type;" (.ref a3)) (S4 : Sta Z h0 "com/example/afterimage/afterimage/log/LogRecord$Type" "UPDATE" "Lcom/example/afterimage/afterimage/log/LogRecord$Type;" (.ref a4)) (S5 : Sta Z h0 "com/example/afterimage/afterimage/log/LogRecord$Type" "COMPENSATION" "Lcom/example/afterimage/afterimage/log/LogRecord$Type;" (.ref a5)) (S6 : Sta Z h0 "com/example/afterimage/afterimage/log/LogRecord$Type" "ABORT" "Lcom/example/afterimage/afterimage/log/LogRecord$Type;" (.ref a6)) (S7 : Sta Z h0 "com/example/afterimage/afterimage/log/LogRecord$Type" "END" "Lcom/example/afterimage/afterimage/log/LogRecord$Type;" (.ref a7)) (S8 : Sta Z h0 "com/example/afterimage/afterimage/log/LogRecord$Type" "CLOSE" "Lcom/example/afterimage/afterimage/log/LogRecord$Type;" (.ref a8)) (S9 : Sta Z h0 "com/example/afterimage/afterimage/log/LogRecord$Type" "CHECKPOINT_BEGIN" "Lcom/example/afterimage/afterimage/log/LogRecord$Type;" (.ref a9)) (S10 : Sta Z h0 "com/example/afterimage/afterimage/log/LogRecord$Type" "CHECKPOINT_TABLES" "Lcom/example/afterimage/afterimage/log/LogRecord$Type;" (.ref a10)) (S11 : Sta Z h0 "com/example/afterimage/afterimage/log/LogRecord$Type" "CHECKPOINT_END" "Lcom/example/afterimage/afterimage/log/LogRecord$Type;" (.ref a11)) (S12 : Sta Z h0 "com/example/afterimage/afterimage/log/LogRecord$Type" "REMOVE" "Lcom/example/afterimage/afterimage/log/LogRecord$Type;" (.ref a12)) (S13 : Sta Z h0 "com/example/afterimage/afterimage/log/LogRecord$Type" "FREE" "Lcom/example/afterimage/afterimage/log/LogRecord$Type;" (.ref a13)) :
    MetFree l (⟨"com/example/afterimage/afterimage/log/TypeOfPinLaw", "expected", "(I)Lcom/example/afterimage/afterimage/log/LogRecord$Type;"⟩ : MethodName) (head1 (Jvm.Cond.code (⟨"com/example/afterimage/afterimage/log/TypeOfPinLaw", "expected", "(I)Lcom/example/afterimage/afterimage/log/LogRecord$Type;"⟩ : MethodName) method_3_code 1 (some (.object "com/example/afterimage/afterimage/log/LogRecord$Type")) :: ws) ({ frames := 0, cells := 0, slots := 0, locals := 0 } : Room)) (fun a U => a = #[(.int p0)] ∧ Z.Warmed39 U.vm ∧ U.heap = h0) (fun _ _ _ _ _ => True) (fun _ U o U' => ∃ v L, o = .returned v ∧ Q_rm3 Z p0 a1 a2 a3 a4 a5 a6 a7 a8 a9 a10 a11 a12 a13 h0 n0 v U'.heap L ∧ FrameEnd U o U' L ({ frames := 0, cells := 0, slots := 0, locals := 0 } : Room).cells ({ frames := 0, cells := 0, slots := 0, locals := 0 } : Room).slots) := by
  refine MetFree.of_bodySF (plainFor_of_name pn_1) hisR ?_
  intro p e s m args below meth c s₁ Bd hml0 hP hK
  obtain ⟨rfl, hZ, hh⟩ := hP
  have hx := Bd.exec
  have hby := Bd.bytes
  have hml : c.maxLocals = 1 := hml0
  have hown : s.vm.findClass "com/example/afterimage/afterimage/log/TypeOfPinLaw" = some m.cls := findClass_of_methodNamed Bd.named
  have hnm := (name_of_methodNamed Bd.named Bd.method).1
  have X0 : Stand p l e ({ frames := 0, cells := 0, slots := 0, locals := 0 } : Room) s m #[(.int p0)] below meth c s₁ [] 0 0 := Stand.of_body Bd
  have e0 : s₁.heap = h0 := by rw [← hh, Bd.state]; rfl
  have N0 := Fr.nil n0
  have pre0 : ∀ t, Steps p.tables e below (s₁.setTop (mkF m 0 #[.val (.int p0)] [])) t → Steps p.tables e below (s₁.setTop (entryFrame m #[(.int p0)] 1)) t := fun t k => castTop (ef_rm3 m p0) k
  have st1 : ∀ target, Steps p.tables e below (s₁.setTop (mkF m 2 #[.val (.int p0)] [(.int (1 : Int32)), (.int p0)])) target → Steps p.tables e below (s₁.setTop (mkF m 0 #[.val (.int p0)] [])) target := by
    intro target kt
    show Steps p.tables e below (s₁.setTop (mkF m 0 #[.val (.int p0)] [])) _
    refine XS.iloadN X0.here hx rfl (hb hby d3_0) rfl ?_
    show Steps p.tables e below (s₁.setTop (mkF m 1 #[.val (.int p0)] [(.int p0)])) _
    refine XS.iconst X0.here hx rfl (hb hby d3_1) ?_
    exact kt
  by_cases k1 : p0 = (1 : Int32)
  · have st2 : ∀ target, Steps p.tables e below (s₁.setTop (mkF m 5 #[.val (.int p0)] [])) target → Steps p.tables e below (s₁.setTop (mkF m 2 #[.val (.int p0)] [(.int (1 : Int32)), (.int p0)])) target := by
      intro target kt
      show Steps p.tables e below (s₁.setTop (mkF m 2 #[.val (.int p0)] [(.int (1 : Int32)), (.int p0)])) _
      refine XS.icmpNo X0.here hx rfl (hb hby d3_2) rfl (teq k1).2 ?_
      exact kt
    obtain ⟨T3, X3, e3, st3⟩ := getS2 X0 hx hZ hown (host := "") (Or.inl (hw _ (List.mem_of_getElem? (i := 43) rfl))) Via.refl e0 S1 (g := (mkF m 5 #[.val (.int p0)] [])) rfl (hb hby d3_5)
    obtain ⟨fs, hr, hrun, hended, hW, hsame⟩ := X3.leave (v := some (.ref a1)) (fun h => by rw [Bd.returns] at h; cases h)
    refine ⟨_, _, pre0 _ (st1 _ (st2 _ (st3 _ ?_))), hrun, hended, _, _, rfl, ?_, ⟨_, rfl⟩, hW, hsame.mono (by decide) (by decide)⟩
    · show Steps p.tables e below (T3.setTop (mkF m 8 #[.val (.int p0)] [(.ref a1)])) _
      jvm_step X3.here [X3.here.top, hx, (hb hby d3_8), X3.method', Bd.returns, Value.isRef, FieldType.isReference]
      first | (intro acts; rw [hr _ acts rfl rfl rfl]) | rw [hr _ _ rfl rfl rfl]
      exact Steps.refl _
    · show Q_rm3 Z p0 a1 a2 a3 a4 a5 a6 a7 a8 a9 a10 a11 a12 a13 h0 n0 _ T3.heap _
      rw [e3]
      exact ⟨by unfold own_ex; rw [if_pos k1], N0, rfl⟩
  · have st4 : ∀ target, Steps p.tables e below (s₁.setTop (mkF m 9 #[.val (.int p0)] [])) target → Steps p.tables e below (s₁.setTop (mkF m 2 #[.val (.int p0)] [(.int (1 : Int32)), (.int p0)])) target := by
      intro target kt
      show Steps p.tables e below (s₁.setTop (mkF m 2 #[.val (.int p0)] [(.int (1 : Int32)), (.int p0)])) _
      refine XS.icmpYes X0.here hx rfl (pc0 := 2) (pc' := 9) rfl (hb hby d3_2) rfl (feq k1).2 (by decide) (by decide) ?_
      exact kt
    have st5 : ∀ target, Steps p.tables e below (s₁.setTop (mkF m 11 #[.val (.int p0)] [(.int (2 : Int32)), (.int p0)])) target → Steps p.tables e below (s₁.setTop (mkF m 9 #[.val (.int p0)] [])) target := by
      intro target kt
      show Steps p.tables e below (s₁.setTop (mkF m 9 #[.val (.int p0)] [])) _
      refine XS.iloadN X0.here hx rfl (hb hby d3_9) rfl ?_
      show Steps p.tables e below (s₁.setTop (mkF m 10 #[.val (.int p0)] [(.int p0)])) _
      refine XS.iconst X0.here hx rfl (hb hby d3_10) ?_
      exact kt
    by_cases k2 : p0 = (2 : Int32)
    · have st6 : ∀ target, Steps p.tables e below (s₁.setTop (mkF m 14 #[.val (.int p0)] [])) target → Steps p.tables e below (s₁.setTop (mkF m 11 #[.val (.int p0)] [(.int (2 : Int32)), (.int p0)])) target := by
        intro target kt
        show Steps p.tables e below (s₁.setTop (mkF m 11 #[.val (.int p0)] [(.int (2 : Int32)), (.int p0)])) _
        refine XS.icmpNo X0.here hx rfl (hb hby d3_11) rfl (teq k2).2 ?_
        exact kt
      obtain ⟨T7, X7, e7, st7⟩ := getS2 X0 hx hZ hown (host := "") (Or.inl (hw _ (List.mem_of_getElem? (i := 40) rfl))) Via.refl e0 S2 (g := (mkF m 14 #[.val (.int p0)] [])) rfl (hb hby d3_14)
      obtain ⟨fs, hr, hrun, hended, hW, hsame⟩ := X7.leave (v := some (.ref a2)) (fun h => by rw [Bd.returns] at h; cases h)
      refine ⟨_, _, pre0 _ (st1 _ (st4 _ (st5 _ (st6 _ (st7 _ ?_))))), hrun, hended, _, _, rfl, ?_, ⟨_, rfl⟩, hW, hsame.mono (by decide) (by decide)⟩
      · show Steps p.tables e below (T7.setTop (mkF m 17 #[.val (.int p0)] [(.ref a2)])) _
        jvm_step X7.here [X7.here.top, hx, (hb hby d3_17), X7.method', Bd.returns, Value.isRef, FieldType.isReference]
        first | (intro acts; rw [hr _ acts rfl rfl rfl]) | rw [hr _ _ rfl rfl rfl]
        exact Steps.refl _
      · show Q_rm3 Z p0 a1 a2 a3 a4 a5 a6 a7 a8 a9 a10 a11 a12 a13 h0 n0 _ T7.heap _
        rw [e7]
        exact ⟨by unfold own_ex; rw [if_neg k1, if_pos k2], N0, rfl⟩
    · have st8 : ∀ target, Steps p.tables e below (s₁.setTop (mkF m 18 #[.val (.int p0)] [])) target → Steps p.tables e below (s₁.setTop (mkF m 11 #[.val (.int p0)] [(.int (2 : Int32)), (.int p0)])) target := by
        intro target kt
        show Steps p.tables e below (s₁.setTop (mkF m 11 #[.val (.int p0)] [(.int (2 : Int32)), (.int p0)])) _
        refine XS.icmpYes X0.here hx rfl (pc0 := 11) (pc' := 18) rfl (hb hby d3_11) rfl (feq k2).2 (by decide) (by decide) ?_
        exact kt
      have st9 : ∀ target, Steps p.tables e below (s₁.setTop (mkF m 20 #[.val (.int p0)] [(.int (3 : Int32)), (.int p0)])) target → Steps p.tables e below (s₁.setTop (mkF m 18 #[.val (.int p0)] [])) target := by
        intro target kt
        show Steps p.tables e below (s₁.setTop (mkF m 18 #[.val (.int p0)] [])) _
        refine XS.iloadN X0.here hx rfl (hb hby d3_18) rfl ?_
        show Steps p.tables e below (s₁.setTop (mkF m 19 #[.val (.int p0)] [(.int p0)])) _
        refine XS.iconst X0.here hx rfl (hb hby d3_19) ?_
        exact kt
      by_cases k3 : p0 = (3 : Int32)
      · have st10 : ∀ target, Steps p.tables e below (s₁.setTop (mkF m 23 #[.val (.int p0)] [])) target → Steps p.tables e below (s₁.setTop (mkF m 20 #[.val (.int p0)] [(.int (3 : Int32)), (.int p0)])) target := by
          intro target kt
          show Steps p.tables e below (s₁.setTop (mkF m 20 #[.val (.int p0)] [(.int (3 : Int32)), (.int p0)])) _
          refine XS.icmpNo X0.here hx rfl (hb hby d3_20) rfl (teq k3).2 ?_
          exact kt
        obtain ⟨T11, X11, e11, st11⟩ := getS2 X0 hx hZ hown (host := "") (Or.inl (hw _ (List.mem_of_getElem? (i := 38) rfl))) Via.refl e0 S3 (g := (mkF m 23 #[.val (.int p0)] [])) rfl (hb hby d3_23)
        obtain ⟨fs, hr, hrun, hended, hW, hsame⟩ := X11.leave (v := some (.ref a3)) (fun h => by rw [Bd.returns] at h; cases h)
        refine ⟨_, _, pre0 _ (st1 _ (st4 _ (st5 _ (st8 _ (st9 _ (st10 _ (st11 _ ?_))))))), hrun, hended, _, _, rfl, ?_, ⟨_, rfl⟩, hW, hsame.mono (by decide) (by decide)⟩
        · show Steps p.tables e below (T11.setTop (mkF m 26 #[.val (.int p0)] [(.ref a3)])) _
          jvm_step X11.here [X11.here.top, hx, (hb hby d3_26), X11.method', Bd.returns, Value.isRef, FieldType.isReference]
          first | (intro acts; rw [hr _ acts rfl rfl rfl]) | rw [hr _ _ rfl rfl rfl]
          exact Steps.refl _
        · show Q_rm3 Z p0 a1 a2 a3 a4 a5 a6 a7 a8 a9 a10 a11 a12 a13 h0 n0 _ T11.heap _
          rw [e11]
          exact ⟨by unfold own_ex; rw [if_neg k1, if_neg k2, if_pos k3], N0, rfl⟩
      · have st12 : ∀ target, Steps p.tables e below (s₁.setTop (mkF m 27 #[.val (.int p0)] [])) target → Steps p.tables e below (s₁.setTop (mkF m 20 #[.val (.int p0)] [(.int (3 : Int32)), (.int p0)])) target := by
          intro target kt
          show Steps p.tables e below (s₁.setTop (mkF m 20 #[.val (.int p0)] [(.int (3 : Int32)), (.int p0)])) _
          refine XS.icmpYes X0.here hx rfl (pc0 := 20) (pc' := 27) rfl (hb hby d3_20) rfl (feq k3).2 (by decide) (by decide) ?_
          exact kt
        have st13 : ∀ target, Steps p.tables e below (s₁.setTop (mkF m 29 #[.val (.int p0)] [(.int (4 : Int32)), (.int p0)])) target → Steps p.tables e below (s₁.setTop (mkF m 27 #[.val (.int p0)] [])) target := by
          intro target kt
          show Steps p.tables e below (s₁.setTop (mkF m 27 #[.val (.int p0)] [])) _
          refine XS.iloadN X0.here hx rfl (hb hby d3_27) rfl ?_
          show Steps p.tables e below (s₁.setTop (mkF m 28 #[.val (.int p0)] [(.int p0)])) _
          refine XS.iconst X0.here hx rfl (hb hby d3_28) ?_
          exact kt
        by_cases k4 : p0 = (4 : Int32)
        · have st14 : ∀ target, Steps p.tables e below (s₁.setTop (mkF m 32 #[.val (.int p0)] [])) target → Steps p.tables e below (s₁.setTop (mkF m 29 #[.val (.int p0)] [(.int (4 : Int32)), (.int p0)])) target := by
            intro target kt
            show Steps p.tables e below (s₁.setTop (mkF m 29 #[.val (.int p0)] [(.int (4 : Int32)), (.int p0)])) _
            refine XS.icmpNo X0.here hx rfl (hb hby d3_29) rfl (teq k4).2 ?_
            exact kt
          obtain ⟨T15, X15, e15, st15⟩ := getS2 X0 hx hZ hown (host := "") (Or.inl (hw _ (List.mem_of_getElem? (i := 50) rfl))) Via.refl e0 S4 (g := (mkF m 32 #[.val (.int p0)] [])) rfl (hb hby d3_32)
          obtain ⟨fs, hr, hrun, hended, hW, hsame⟩ := X15.leave (v := some (.ref a4)) (fun h => by rw [Bd.returns] at h; cases h)
          refine ⟨_, _, pre0 _ (st1 _ (st4 _ (st5 _ (st8 _ (st9 _ (st12 _ (st13 _ (st14 _ (st15 _ ?_))))))))), hrun, hended, _, _, rfl, ?_, ⟨_, rfl⟩, hW, hsame.mono (by decide) (by decide)⟩
          · show Steps p.tables e below (T15.setTop (mkF m 35 #[.val (.int p0)] [(.ref a4)])) _
            jvm_step X15.here [X15.here.top, hx, (hb hby d3_35), X15.method', Bd.returns, Value.isRef, FieldType.isReference]
            first | (intro acts; rw [hr _ acts rfl rfl rfl]) | rw [hr _ _ rfl rfl rfl]
            exact Steps.refl _
          · show Q_rm3 Z p0 a1 a2 a3 a4 a5 a6 a7 a8 a9 a10 a11 a12 a13 h0 n0 _ T15.heap _
            rw [e15]
            exact ⟨by unfold own_ex; rw [if_neg k1, if_neg k2, if_neg k3, if_pos k4], N0, rfl⟩
        · have st16 : ∀ target, Steps p.tables e below (s₁.setTop (mkF m 36 #[.val (.int p0)] [])) target → Steps p.tables e below (s₁.setTop (mkF m 29 #[.val (.int p0)] [(.int (4 : Int32)), (.int p0)])) target := by
            intro target kt
            show Steps p.tables e below (s₁.setTop (mkF m 29 #[.val (.int p0)] [(.int (4 : Int32)), (.int p0)])) _
            refine XS.icmpYes X0.here hx rfl (pc0 := 29) (pc' := 36) rfl (hb hby d3_29) rfl (feq k4).2 (by decide) (by decide) ?_
            exact kt
          have st17 : ∀ target, Steps p.tables e below (s₁.setTop (mkF m 38 #[.val (.int p0)] [(.int (5 : Int32)), (.int p0)])) target → Steps p.tables e below (s₁.setTop (mkF m 36 #[.val (.int p0)] [])) target := by
            intro target kt
            show Steps p.tables e below (s₁.setTop (mkF m 36 #[.val (.int p0)] [])) _
            refine XS.iloadN X0.here hx rfl (hb hby d3_36) rfl ?_
            show Steps p.tables e below (s₁.setTop (mkF m 37 #[.val (.int p0)] [(.int p0)])) _
            refine XS.iconst X0.here hx rfl (hb hby d3_37) ?_
            exact kt
          by_cases k5 : p0 = (5 : Int32)
          · have st18 : ∀ target, Steps p.tables e below (s₁.setTop (mkF m 41 #[.val (.int p0)] [])) target → Steps p.tables e below (s₁.setTop (mkF m 38 #[.val (.int p0)] [(.int (5 : Int32)), (.int p0)])) target := by
              intro target kt
              show Steps p.tables e below (s₁.setTop (mkF m 38 #[.val (.int p0)] [(.int (5 : Int32)), (.int p0)])) _
              refine XS.icmpNo X0.here hx rfl (hb hby d3_38) rfl (teq k5).2 ?_
              exact kt
            obtain ⟨T19, X19, e19, st19⟩ := getS2 X0 hx hZ hown (host := "") (Or.inl (hw _ (List.mem_of_getElem? (i := 49) rfl))) Via.refl e0 S5 (g := (mkF m 41 #[.val (.int p0)] [])) rfl (hb hby d3_41)
            obtain ⟨fs, hr, hrun, hended, hW, hsame⟩ := X19.leave (v := some (.ref a5)) (fun h => by rw [Bd.returns] at h; cases h)
            refine ⟨_, _, pre0 _ (st1 _ (st4 _ (st5 _ (st8 _ (st9 _ (st12 _ (st13 _ (st16 _ (st17 _ (st18 _ (st19 _ ?_))))))))))), hrun, hended, _, _, rfl, ?_, ⟨_, rfl⟩, hW, hsame.mono (by decide) (by decide)⟩
            · show Steps p.tables e below (T19.setTop (mkF m 44 #[.val (.int p0)] [(.ref a5)])) _
              jvm_step X19.here [X19.here.top, hx, (hb hby d3_44), X19.method', Bd.returns, Value.isRef, FieldType.isReference]
              first | (intro acts; rw [hr _ acts rfl rfl rfl]) | rw [hr _ _ rfl rfl rfl]
              exact Steps.refl _
            · show Q_rm3 Z p0 a1 a2 a3 a4 a5 a6 a7 a8 a9 a10 a11 a12 a13 h0 n0 _ T19.heap _
              rw [e19]
              exact ⟨by unfold own_ex; rw [if_neg k1, if_neg k2, if_neg k3, if_neg k4, if_pos k5], N0, rfl⟩
          · have st20 : ∀ target, Steps p.tables e below (s₁.setTop (mkF m 45 #[.val (.int p0)] [])) target → Steps p.tables e below (s₁.setTop (mkF m 38 #[.val (.int p0)] [(.int (5 : Int32)), (.int p0)])) target := by
              intro target kt
              show Steps p.tables e below (s₁.setTop (mkF m 38 #[.val (.int p0)] [(.int (5 : Int32)), (.int p0)])) _
              refine XS.icmpYes X0.here hx rfl (pc0 := 38) (pc' := 45) rfl (hb hby d3_38) rfl (feq k5).2 (by decide) (by decide) ?_
              exact kt
            have st21 : ∀ target, Steps p.tables e below (s₁.setTop (mkF m 48 #[.val (.int p0)] [(.int (6 : Int32)), (.int p0)])) target → Steps p.tables e below (s₁.setTop (mkF m 45 #[.val (.int p0)] [])) target := by
              intro target kt
              show Steps p.tables e below (s₁.setTop (mkF m 45 #[.val (.int p0)] [])) _
              refine XS.iloadN X0.here hx rfl (hb hby d3_45) rfl ?_
              show Steps p.tables e below (s₁.setTop (mkF m 46 #[.val (.int p0)] [(.int p0)])) _
              refine XS.bipush X0.here hx rfl (hb hby d3_46) ?_
              exact kt
            by_cases k6 : p0 = (6 : Int32)
            · have st22 : ∀ target, Steps p.tables e below (s₁.setTop (mkF m 51 #[.val (.int p0)] [])) target → Steps p.tables e below (s₁.setTop (mkF m 48 #[.val (.int p0)] [(.int (6 : Int32)), (.int p0)])) target := by
                intro target kt
                show Steps p.tables e below (s₁.setTop (mkF m 48 #[.val (.int p0)] [(.int (6 : Int32)), (.int p0)])) _
                refine XS.icmpNo X0.here hx rfl (hb hby d3_48) rfl (teq k6).2 ?_
                exact kt
              obtain ⟨T23, X23, e23, st23⟩ := getS2 X0 hx hZ hown (host := "") (Or.inl (hw _ (List.mem_of_getElem? (i := 45) rfl))) Via.refl e0 S6 (g := (mkF m 51 #[.val (.int p0)] [])) rfl (hb hby d3_51)
              obtain ⟨fs, hr, hrun, hended, hW, hsame⟩ := X23.leave (v := some (.ref a6)) (fun h => by rw [Bd.returns] at h; cases h)
              refine ⟨_, _, pre0 _ (st1 _ (st4 _ (st5 _ (st8 _ (st9 _ (st12 _ (st13 _ (st16 _ (st17 _ (st20 _ (st21 _ (st22 _ (st23 _ ?_))))))))))))), hrun, hended, _, _, rfl, ?_, ⟨_, rfl⟩, hW, hsame.mono (by decide) (by decide)⟩
              · show Steps p.tables e below (T23.setTop (mkF m 54 #[.val (.int p0)] [(.ref a6)])) _
                jvm_step X23.here [X23.here.top, hx, (hb hby d3_54), X23.method', Bd.returns, Value.isRef, FieldType.isReference]
                first | (intro acts; rw [hr _ acts rfl rfl rfl]) | rw [hr _ _ rfl rfl rfl]
                exact Steps.refl _
              · show Q_rm3 Z p0 a1 a2 a3 a4 a5 a6 a7 a8 a9 a10 a11 a12 a13 h0 n0 _ T23.heap _
                rw [e23]
                exact ⟨by unfold own_ex; rw [if_neg k1, if_neg k2, if_neg k3, if_neg k4, if_neg k5, if_pos k6], N0, rfl⟩
            · have st24 : ∀ target, Steps p.tables e below (s₁.setTop (mkF m 55 #[.val (.int p0)] [])) target → Steps p.tables e below (s₁.setTop (mkF m 48 #[.val (.int p0)] [(.int (6 : Int32)), (.int p0)])) target := by
                intro target kt
                show Steps p.tables e below (s₁.setTop (mkF m 48 #[.val (.int p0)] [(.int (6 : Int32)), (.int p0)])) _
                refine XS.icmpYes X0.here hx rfl (pc0 := 48) (pc' := 55) rfl (hb hby d3_48) rfl (feq k6).2 (by decide) (by decide) ?_
                exact kt
              have st25 : ∀ target, Steps p.tables e below (s₁.setTop (mkF m 58 #[.val (.int p0)] [(.int (7 : Int32)), (.int p0)])) target → Steps p.tables e below (s₁.setTop (mkF m 55 #[.val (.int p0)] [])) target := by
                intro target kt
                show Steps p.tables e below (s₁.setTop (mkF m 55 #[.val (.int p0)] [])) _
                refine XS.iloadN X0.here hx rfl (hb hby d3_55) rfl ?_
                show Steps p.tables e below (s₁.setTop (mkF m 56 #[.val (.int p0)] [(.int p0)])) _
                refine XS.bipush X0.here hx rfl (hb hby d3_56) ?_
                exact kt
              by_cases k7 : p0 = (7 : Int32)
              · have st26 : ∀ target, Steps p.tables e below (s₁.setTop (mkF m 61 #[.val (.int p0)] [])) target → Steps p.tables e below (s₁.setTop (mkF m 58 #[.val (.int p0)] [(.int (7 : Int32)), (.int p0)])) target := by
                  intro target kt
                  show Steps p.tables e below (s₁.setTop (mkF m 58 #[.val (.int p0)] [(.int (7 : Int32)), (.int p0)])) _
                  refine XS.icmpNo X0.here hx rfl (hb hby d3_58) rfl (teq k7).2 ?_
                  exact kt
                obtain ⟨T27, X27, e27, st27⟩ := getS2 X0 hx hZ hown (host := "") (Or.inl (hw _ (List.mem_of_getElem? (i := 39) rfl))) Via.refl e0 S7 (g := (mkF m 61 #[.val (.int p0)] [])) rfl (hb hby d3_61)
                obtain ⟨fs, hr, hrun, hended, hW, hsame⟩ := X27.leave (v := some (.ref a7)) (fun h => by rw [Bd.returns] at h; cases h)
                refine ⟨_, _, pre0 _ (st1 _ (st4 _ (st5 _ (st8 _ (st9 _ (st12 _ (st13 _ (st16 _ (st17 _ (st20 _ (st21 _ (st24 _ (st25 _ (st26 _ (st27 _ ?_))))))))))))))), hrun, hended, _, _, rfl, ?_, ⟨_, rfl⟩, hW, hsame.mono (by decide) (by decide)⟩
                · show Steps p.tables e below (T27.setTop (mkF m 64 #[.val (.int p0)] [(.ref a7)])) _
                  jvm_step X27.here [X27.here.top, hx, (hb hby d3_64), X27.method', Bd.returns, Value.isRef, FieldType.isReference]
                  first | (intro acts; rw [hr _ acts rfl rfl rfl]) | rw [hr _ _ rfl rfl rfl]
                  exact Steps.refl _
                · show Q_rm3 Z p0 a1 a2 a3 a4 a5 a6 a7 a8 a9 a10 a11 a12 a13 h0 n0 _ T27.heap _
                  rw [e27]
                  exact ⟨by unfold own_ex; rw [if_neg k1, if_neg k2, if_neg k3, if_neg k4, if_neg k5, if_neg k6, if_pos k7], N0, rfl⟩
              · have st28 : ∀ target, Steps p.tables e below (s₁.setTop (mkF m 65 #[.val (.int p0)] [])) target → Steps p.tables e below (s₁.setTop (mkF m 58 #[.val (.int p0)] [(.int (7 : Int32)), (.int p0)])) target := by
                  intro target kt
                  show Steps p.tables e below (s₁.setTop (mkF m 58 #[.val (.int p0)] [(.int (7 : Int32)), (.int p0)])) _
                  refine XS.icmpYes X0.here hx rfl (pc0 := 58) (pc' := 65) rfl (hb hby d3_58) rfl (feq k7).2 (by decide) (by decide) ?_
                  exact kt
                have st29 : ∀ target, Steps p.tables e below (s₁.setTop (mkF m 68 #[.val (.int p0)] [(.int (8 : Int32)), (.int p0)])) target → Steps p.tables e below (s₁.setTop (mkF m 65 #[.val (.int p0)] [])) target := by
                  intro target kt
                  show Steps p.tables e below (s₁.setTop (mkF m 65 #[.val (.int p0)] [])) _
                  refine XS.iloadN X0.here hx rfl (hb hby d3_65) rfl ?_
                  show Steps p.tables e below (s₁.setTop (mkF m 66 #[.val (.int p0)] [(.int p0)])) _
                  refine XS.bipush X0.here hx rfl (hb hby d3_66) ?_
                  exact kt
                by_cases k8 : p0 = (8 : Int32)
                · have st30 : ∀ target, Steps p.tables e below (s₁.setTop (mkF m 71 #[.val (.int p0)] [])) target → Steps p.tables e below (s₁.setTop (mkF m 68 #[.val (.int p0)] [(.int (8 : Int32)), (.int p0)])) target := by
                    intro target kt
                    show Steps p.tables e below (s₁.setTop (mkF m 68 #[.val (.int p0)] [(.int (8 : Int32)), (.int p0)])) _
                    refine XS.icmpNo X0.here hx rfl (hb hby d3_68) rfl (teq k8).2 ?_
                    exact kt
                  obtain ⟨T31, X31, e31, st31⟩ := getS2 X0 hx hZ hown (host := "") (Or.inl (hw _ (List.mem_of_getElem? (i := 42) rfl))) Via.refl e0 S8 (g := (mkF m 71 #[.val (.int p0)] [])) rfl (hb hby d3_71)
                  obtain ⟨fs, hr, hrun, hended, hW, hsame⟩ := X31.leave (v := some (.ref a8)) (fun h => by rw [Bd.returns] at h; cases h)
                  refine ⟨_, _, pre0 _ (st1 _ (st4 _ (st5 _ (st8 _ (st9 _ (st12 _ (st13 _ (st16 _ (st17 _ (st20 _ (st21 _ (st24 _ (st25 _ (st28 _ (st29 _ (st30 _ (st31 _ ?_))))))))))))))))), hrun, hended, _, _, rfl, ?_, ⟨_, rfl⟩, hW, hsame.mono (by decide) (by decide)⟩
                  · show Steps p.tables e below (T31.setTop (mkF m 74 #[.val (.int p0)] [(.ref a8)])) _
                    jvm_step X31.here [X31.here.top, hx, (hb hby d3_74), X31.method', Bd.returns, Value.isRef, FieldType.isReference]
                    first | (intro acts; rw [hr _ acts rfl rfl rfl]) | rw [hr _ _ rfl rfl rfl]
                    exact Steps.refl _
                  · show Q_rm3 Z p0 a1 a2 a3 a4 a5 a6 a7 a8 a9 a10 a11 a12 a13 h0 n0 _ T31.heap _
                    rw [e31]
                    exact ⟨by unfold own_ex; rw [if_neg k1, if_neg k2, if_neg k3, if_neg k4, if_neg k5, if_neg k6, if_neg k7, if_pos k8], N0, rfl⟩
                · have st32 : ∀ target, Steps p.tables e below (s₁.setTop (mkF m 75 #[.val (.int p0)] [])) target → Steps p.tables e below (s₁.setTop (mkF m 68 #[.val (.int p0)] [(.int (8 : Int32)), (.int p0)])) target := by
                    intro target kt
                    show Steps p.tables e below (s₁.setTop (mkF m 68 #[.val (.int p0)] [(.int (8 : Int32)), (.int p0)])) _
                    refine XS.icmpYes X0.here hx rfl (pc0 := 68) (pc' := 75) rfl (hb hby d3_68) rfl (feq k8).2 (by decide) (by decide) ?_
                    exact kt
                  have st33 : ∀ target, Steps p.tables e below (s₁.setTop (mkF m 78 #[.val (.int p0)] [(.int (9 : Int32)), (.int p0)])) target → Steps p.tables e below (s₁.setTop (mkF m 75 #[.val (.int p0)] [])) target := by
                    intro target kt
                    show Steps p.tables e below (s₁.setTop (mkF m 75 #[.val (.int p0)] [])) _
                    refine XS.iloadN X0.here hx rfl (hb hby d3_75) rfl ?_
                    show Steps p.tables e below (s₁.setTop (mkF m 76 #[.val (.int p0)] [(.int p0)])) _
                    refine XS.bipush X0.here hx rfl (hb hby d3_76) ?_
                    exact kt
                  by_cases k9 : p0 = (9 : Int32)
                  · have st34 : ∀ target, Steps p.tables e below (s₁.setTop (mkF m 81 #[.val (.int p0)] [])) target → Steps p.tables e below (s₁.setTop (mkF m 78 #[.val (.int p0)] [(.int (9 : Int32)), (.int p0)])) target := by
                      intro target kt
                      show Steps p.tables e below (s₁.setTop (mkF m 78 #[.val (.int p0)] [(.int (9 : Int32)), (.int p0)])) _
                      refine XS.icmpNo X0.here hx rfl (hb hby d3_78) rfl (teq k9).2 ?_
                      exact kt
                    obtain ⟨T35, X35, e35, st35⟩ := getS2 X0 hx hZ hown (host := "") (Or.inl (hw _ (List.mem_of_getElem? (i := 46) rfl))) Via.refl e0 S9 (g := (mkF m 81 #[.val (.int p0)] [])) rfl (hb hby d3_81)
                    obtain ⟨fs, hr, hrun, hended, hW, hsame⟩ := X35.leave (v := some (.ref a9)) (fun h => by rw [Bd.returns] at h; cases h)
                    refine ⟨_, _, pre0 _ (st1 _ (st4 _ (st5 _ (st8 _ (st9 _ (st12 _ (st13 _ (st16 _ (st17 _ (st20 _ (st21 _ (st24 _ (st25 _ (st28 _ (st29 _ (st32 _ (st33 _ (st34 _ (st35 _ ?_))))))))))))))))))), hrun, hended, _, _, rfl, ?_, ⟨_, rfl⟩, hW, hsame.mono (by decide) (by decide)⟩
                    · show Steps p.tables e below (T35.setTop (mkF m 84 #[.val (.int p0)] [(.ref a9)])) _
                      jvm_step X35.here [X35.here.top, hx, (hb hby d3_84), X35.method', Bd.returns, Value.isRef, FieldType.isReference]
                      first | (intro acts; rw [hr _ acts rfl rfl rfl]) | rw [hr _ _ rfl rfl rfl]
                      exact Steps.refl _
                    · show Q_rm3 Z p0 a1 a2 a3 a4 a5 a6 a7 a8 a9 a10 a11 a12 a13 h0 n0 _ T35.heap _
                      rw [e35]
                      exact ⟨by unfold own_ex; rw [if_neg k1, if_neg k2, if_neg k3, if_neg k4, if_neg k5, if_neg k6, if_neg k7, if_neg k8, if_pos k9], N0, rfl⟩
                  · have st36 : ∀ target, Steps p.tables e below (s₁.setTop (mkF m 85 #[.val (.int p0)] [])) target → Steps p.tables e below (s₁.setTop (mkF m 78 #[.val (.int p0)] [(.int (9 : Int32)), (.int p0)])) target := by
                      intro target kt
                      show Steps p.tables e below (s₁.setTop (mkF m 78 #[.val (.int p0)] [(.int (9 : Int32)), (.int p0)])) _
                      refine XS.icmpYes X0.here hx rfl (pc0 := 78) (pc' := 85) rfl (hb hby d3_78) rfl (feq k9).2 (by decide) (by decide) ?_
                      exact kt
                    have st37 : ∀ target, Steps p.tables e below (s₁.setTop (mkF m 88 #[.val (.int p0)] [(.int (10 : Int32)), (.int p0)])) target → Steps p.tables e below (s₁.setTop (mkF m 85 #[.val (.int p0)] [])) target := by
                      intro target kt
                      show Steps p.tables e below (s₁.setTop (mkF m 85 #[.val (.int p0)] [])) _
                      refine XS.iloadN X0.here hx rfl (hb hby d3_85) rfl ?_
                      show Steps p.tables e below (s₁.setTop (mkF m 86 #[.val (.int p0)] [(.int p0)])) _
                      refine XS.bipush X0.here hx rfl (hb hby d3_86) ?_
                      exact kt
                    by_cases k10 : p0 = (10 : Int32)
                    · have st38 : ∀ target, Steps p.tables e below (s₁.setTop (mkF m 91 #[.val (.int p0)] [])) target → Steps p.tables e below (s₁.setTop (mkF m 88 #[.val (.int p0)] [(.int (10 : Int32)), (.int p0)])) target := by
                        intro target kt
                        show Steps p.tables e below (s₁.setTop (mkF m 88 #[.val (.int p0)] [(.int (10 : Int32)), (.int p0)])) _
                        refine XS.icmpNo X0.here hx rfl (hb hby d3_88) rfl (teq k10).2 ?_
                        exact kt
                      obtain ⟨T39, X39, e39, st39⟩ := getS2 X0 hx hZ hown (host := "") (Or.inl (hw _ (List.mem_of_getElem? (i := 44) rfl))) Via.refl e0 S10 (g := (mkF m 91 #[.val (.int p0)] [])) rfl (hb hby d3_91)
                      obtain ⟨fs, hr, hrun, hended, hW, hsame⟩ := X39.leave (v := some (.ref a10)) (fun h => by rw [Bd.returns] at h; cases h)
                      refine ⟨_, _, pre0 _ (st1 _ (st4 _ (st5 _ (st8 _ (st9 _ (st12 _ (st13 _ (st16 _ (st17 _ (st20 _ (st21 _ (st24 _ (st25 _ (st28 _ (st29 _ (st32 _ (st33 _ (st36 _ (st37 _ (st38 _ (st39 _ ?_))))))))))))))))))))), hrun, hended, _, _, rfl, ?_, ⟨_, rfl⟩, hW, hsame.mono (by decide) (by decide)⟩
                      · show Steps p.tables e below (T39.setTop (mkF m 94 #[.val (.int p0)] [(.ref a10)])) _
                        jvm_step X39.here [X39.here.top, hx, (hb hby d3_94), X39.method', Bd.returns, Value.isRef, FieldType.isReference]
                        first | (intro acts; rw [hr _ acts rfl rfl rfl]) | rw [hr _ _ rfl rfl rfl]
                        exact Steps.refl _
                      · show Q_rm3 Z p0 a1 a2 a3 a4 a5 a6 a7 a8 a9 a10 a11 a12 a13 h0 n0 _ T39.heap _
                        rw [e39]
                        exact ⟨by unfold own_ex; rw [if_neg k1, if_neg k2, if_neg k3, if_neg k4, if_neg k5, if_neg k6, if_neg k7, if_neg k8, if_neg k9, if_pos k10], N0, rfl⟩
                    · have st40 : ∀ target, Steps p.tables e below (s₁.setTop (mkF m 95 #[.val (.int p0)] [])) target → Steps p.tables e below (s₁.setTop (mkF m 88 #[.val (.int p0)] [(.int (10 : Int32)), (.int p0)])) target := by
                        intro target kt
                        show Steps p.tables e below (s₁.setTop (mkF m 88 #[.val (.int p0)] [(.int (10 : Int32)), (.int p0)])) _
                        refine XS.icmpYes X0.here hx rfl (pc0 := 88) (pc' := 95) rfl (hb hby d3_88) rfl (feq k10).2 (by decide) (by decide) ?_
                        exact kt
                      have st41 : ∀ target, Steps p.tables e below (s₁.setTop (mkF m 98 #[.val (.int p0)] [(.int (11 : Int32)), (.int p0)])) target → Steps p.tables e below (s₁.setTop (mkF m 95 #[.val (.int p0)] [])) target := by
                        intro target kt
                        show Steps p.tables e below (s₁.setTop (mkF m 95 #[.val (.int p0)] [])) _
                        refine XS.iloadN X0.here hx rfl (hb hby d3_95) rfl ?_
                        show Steps p.tables e below (s₁.setTop (mkF m 96 #[.val (.int p0)] [(.int p0)])) _
                        refine XS.bipush X0.here hx rfl (hb hby d3_96) ?_
                        exact kt
                      by_cases k11 : p0 = (11 : Int32)
                      · have st42 : ∀ target, Steps p.tables e below (s₁.setTop (mkF m 101 #[.val (.int p0)] [])) target → Steps p.tables e below (s₁.setTop (mkF m 98 #[.val (.int p0)] [(.int (11 : Int32)), (.int p0)])) target := by
                          intro target kt
                          show Steps p.tables e below (s₁.setTop (mkF m 98 #[.val (.int p0)] [(.int (11 : Int32)), (.int p0)])) _
                          refine XS.icmpNo X0.here hx rfl (hb hby d3_98) rfl (teq k11).2 ?_
                          exact kt
                        obtain ⟨T43, X43, e43, st43⟩ := getS2 X0 hx hZ hown (host := "") (Or.inl (hw _ (List.mem_of_getElem? (i := 41) rfl))) Via.refl e0 S11 (g := (mkF m 101 #[.val (.int p0)] [])) rfl (hb hby d3_101)
                        obtain ⟨fs, hr, hrun, hended, hW, hsame⟩ := X43.leave (v := some (.ref a11)) (fun h => by rw [Bd.returns] at h; cases h)
                        refine ⟨_, _, pre0 _ (st1 _ (st4 _ (st5 _ (st8 _ (st9 _ (st12 _ (st13 _ (st16 _ (st17 _ (st20 _ (st21 _ (st24 _ (st25 _ (st28 _ (st29 _ (st32 _ (st33 _ (st36 _ (st37 _ (st40 _ (st41 _ (st42 _ (st43 _ ?_))))))))))))))))))))))), hrun, hended, _, _, rfl, ?_, ⟨_, rfl⟩, hW, hsame.mono (by decide) (by decide)⟩
                        · show Steps p.tables e below (T43.setTop (mkF m 104 #[.val (.int p0)] [(.ref a11)])) _
                          jvm_step X43.here [X43.here.top, hx, (hb hby d3_104), X43.method', Bd.returns, Value.isRef, FieldType.isReference]
                          first | (intro acts; rw [hr _ acts rfl rfl rfl]) | rw [hr _ _ rfl rfl rfl]
                          exact Steps.refl _
                        · show Q_rm3 Z p0 a1 a2 a3 a4 a5 a6 a7 a8 a9 a10 a11 a12 a13 h0 n0 _ T43.heap _
                          rw [e43]
                          exact ⟨by unfold own_ex; rw [if_neg k1, if_neg k2, if_neg k3, if_neg k4, if_neg k5, if_neg k6, if_neg k7, if_neg k8, if_neg k9, if_neg k10, if_pos k11], N0, rfl⟩
                      · have st44 : ∀ target, Steps p.tables e below (s₁.setTop (mkF m 105 #[.val (.int p0)] [])) target → Steps p.tables e below (s₁.setTop (mkF m 98 #[.val (.int p0)] [(.int (11 : Int32)), (.int p0)])) target := by
                          intro target kt
                          show Steps p.tables e below (s₁.setTop (mkF m 98 #[.val (.int p0)] [(.int (11 : Int32)), (.int p0)])) _
                          refine XS.icmpYes X0.here hx rfl (pc0 := 98) (pc' := 105) rfl (hb hby d3_98) rfl (feq k11).2 (by decide) (by decide) ?_
                          exact kt
                        have st45 : ∀ target, Steps p.tables e below (s₁.setTop (mkF m 108 #[.val (.int p0)] [(.int (12 : Int32)), (.int p0)])) target → Steps p.tables e below (s₁.setTop (mkF m 105 #[.val (.int p0)] [])) target := by
                          intro target kt
                          show Steps p.tables e below (s₁.setTop (mkF m 105 #[.val (.int p0)] [])) _
                          refine XS.iloadN X0.here hx rfl (hb hby d3_105) rfl ?_
                          show Steps p.tables e below (s₁.setTop (mkF m 106 #[.val (.int p0)] [(.int p0)])) _
                          refine XS.bipush X0.here hx rfl (hb hby d3_106) ?_
                          exact kt
                        by_cases k12 : p0 = (12 : Int32)
                        · have st46 : ∀ target, Steps p.tables e below (s₁.setTop (mkF m 111 #[.val (.int p0)] [])) target → Steps p.tables e below (s₁.setTop (mkF m 108 #[.val (.int p0)] [(.int (12 : Int32)), (.int p0)])) target := by
                            intro target kt
                            show Steps p.tables e below (s₁.setTop (mkF m 108 #[.val (.int p0)] [(.int (12 : Int32)), (.int p0)])) _
                            refine XS.icmpNo X0.here hx rfl (hb hby d3_108) rfl (teq k12).2 ?_
                            exact kt
                          obtain ⟨T47, X47, e47, st47⟩ := getS2 X0 hx hZ hown (host := "") (Or.inl (hw _ (List.mem_of_getElem? (i := 47) rfl))) Via.refl e0 S12 (g := (mkF m 111 #[.val (.int p0)] [])) rfl (hb hby d3_111)
                          obtain ⟨fs, hr, hrun, hended, hW, hsame⟩ := X47.leave (v := some (.ref a12)) (fun h => by rw [Bd.returns] at h; cases h)
                          refine ⟨_, _, pre0 _ (st1 _ (st4 _ (st5 _ (st8 _ (st9 _ (st12 _ (st13 _ (st16 _ (st17 _ (st20 _ (st21 _ (st24 _ (st25 _ (st28 _ (st29 _ (st32 _ (st33 _ (st36 _ (st37 _ (st40 _ (st41 _ (st44 _ (st45 _ (st46 _ (st47 _ ?_))))))))))))))))))))))))), hrun, hended, _, _, rfl, ?_, ⟨_, rfl⟩, hW, hsame.mono (by decide) (by decide)⟩
                          · show Steps p.tables e below (T47.setTop (mkF m 114 #[.val (.int p0)] [(.ref a12)])) _
                            jvm_step X47.here [X47.here.top, hx, (hb hby d3_114), X47.method', Bd.returns, Value.isRef, FieldType.isReference]
                            first | (intro acts; rw [hr _ acts rfl rfl rfl]) | rw [hr _ _ rfl rfl rfl]
                            exact Steps.refl _
                          · show Q_rm3 Z p0 a1 a2 a3 a4 a5 a6 a7 a8 a9 a10 a11 a12 a13 h0 n0 _ T47.heap _
                            rw [e47]
                            exact ⟨by unfold own_ex; rw [if_neg k1, if_neg k2, if_neg k3, if_neg k4, if_neg k5, if_neg k6, if_neg k7, if_neg k8, if_neg k9, if_neg k10, if_neg k11, if_pos k12], N0, rfl⟩
                        · have st48 : ∀ target, Steps p.tables e below (s₁.setTop (mkF m 115 #[.val (.int p0)] [])) target → Steps p.tables e below (s₁.setTop (mkF m 108 #[.val (.int p0)] [(.int (12 : Int32)), (.int p0)])) target := by
                            intro target kt
                            show Steps p.tables e below (s₁.setTop (mkF m 108 #[.val (.int p0)] [(.int (12 : Int32)), (.int p0)])) _
                            refine XS.icmpYes X0.here hx rfl (pc0 := 108) (pc' := 115) rfl (hb hby d3_108) rfl (feq k12).2 (by decide) (by decide) ?_
                            exact kt
                          have st49 : ∀ target, Steps p.tables e below (s₁.setTop (mkF m 118 #[.val (.int p0)] [(.int (13 : Int32)), (.int p0)])) target → Steps p.tables e below (s₁.setTop (mkF m 115 #[.val (.int p0)] [])) target := by
                            intro target kt
                            show Steps p.tables e below (s₁.setTop (mkF m 115 #[.val (.int p0)] [])) _
                            refine XS.iloadN X0.here hx rfl (hb hby d3_115) rfl ?_
                            show Steps p.tables e below (s₁.setTop (mkF m 116 #[.val (.int p0)] [(.int p0)])) _
                            refine XS.bipush X0.here hx rfl (hb hby d3_116) ?_
                            exact kt
                          by_cases k13 : p0 = (13 : Int32)
                          · have st50 : ∀ target, Steps p.tables e below (s₁.setTop (mkF m 121 #[.val (.int p0)] [])) target → Steps p.tables e below (s₁.setTop (mkF m 118 #[.val (.int p0)] [(.int (13 : Int32)), (.int p0)])) target := by
                              intro target kt
                              show Steps p.tables e below (s₁.setTop (mkF m 118 #[.val (.int p0)] [(.int (13 : Int32)), (.int p0)])) _
                              refine XS.icmpNo X0.here hx rfl (hb hby d3_118) rfl (teq k13).2 ?_
                              exact kt
                            obtain ⟨T51, X51, e51, st51⟩ := getS2 X0 hx hZ hown (host := "") (Or.inl (hw _ (List.mem_of_getElem? (i := 48) rfl))) Via.refl e0 S13 (g := (mkF m 121 #[.val (.int p0)] [])) rfl (hb hby d3_121)
                            obtain ⟨fs, hr, hrun, hended, hW, hsame⟩ := X51.leave (v := some (.ref a13)) (fun h => by rw [Bd.returns] at h; cases h)
                            refine ⟨_, _, pre0 _ (st1 _ (st4 _ (st5 _ (st8 _ (st9 _ (st12 _ (st13 _ (st16 _ (st17 _ (st20 _ (st21 _ (st24 _ (st25 _ (st28 _ (st29 _ (st32 _ (st33 _ (st36 _ (st37 _ (st40 _ (st41 _ (st44 _ (st45 _ (st48 _ (st49 _ (st50 _ (st51 _ ?_))))))))))))))))))))))))))), hrun, hended, _, _, rfl, ?_, ⟨_, rfl⟩, hW, hsame.mono (by decide) (by decide)⟩
                            · show Steps p.tables e below (T51.setTop (mkF m 124 #[.val (.int p0)] [(.ref a13)])) _
                              jvm_step X51.here [X51.here.top, hx, (hb hby d3_124), X51.method', Bd.returns, Value.isRef, FieldType.isReference]
                              first | (intro acts; rw [hr _ acts rfl rfl rfl]) | rw [hr _ _ rfl rfl rfl]
                              exact Steps.refl _
                            · show Q_rm3 Z p0 a1 a2 a3 a4 a5 a6 a7 a8 a9 a10 a11 a12 a13 h0 n0 _ T51.heap _
                              rw [e51]
                              exact ⟨by unfold own_ex; rw [if_neg k1, if_neg k2, if_neg k3, if_neg k4, if_neg k5, if_neg k6, if_neg k7, if_neg k8, if_neg k9, if_neg k10, if_neg k11, if_neg k12, if_pos k13], N0, rfl⟩
                          · have st52 : ∀ target, Steps p.tables e below (s₁.setTop (mkF m 125 #[.val (.int p0)] [])) target → Steps p.tables e below (s₁.setTop (mkF m 118 #[.val (.int p0)] [(.int (13 : Int32)), (.int p0)])) target := by
                              intro target kt
                              show Steps p.tables e below (s₁.setTop (mkF m 118 #[.val (.int p0)] [(.int (13 : Int32)), (.int p0)])) _
                              refine XS.icmpYes X0.here hx rfl (pc0 := 118) (pc' := 125) rfl (hb hby d3_118) rfl (feq k13).2 (by decide) (by decide) ?_
                              exact kt
                            have st53 : ∀ target, Steps p.tables e below (s₁.setTop (mkF m 126 #[.val (.int p0)] [.null])) target → Steps p.tables e below (s₁.setTop (mkF m 125 #[.val (.int p0)] [])) target := by
                              intro target kt
                              show Steps p.tables e below (s₁.setTop (mkF m 125 #[.val (.int p0)] [])) _
                              refine XS.aconstNull X0.here hx rfl (hb hby d3_125) ?_
                              exact kt
                            obtain ⟨fs, hr, hrun, hended, hW, hsame⟩ := X0.leave (v := some .null) (fun h => by rw [Bd.returns] at h; cases h)
                            refine ⟨_, _, pre0 _ (st1 _ (st4 _ (st5 _ (st8 _ (st9 _ (st12 _ (st13 _ (st16 _ (st17 _ (st20 _ (st21 _ (st24 _ (st25 _ (st28 _ (st29 _ (st32 _ (st33 _ (st36 _ (st37 _ (st40 _ (st41 _ (st44 _ (st45 _ (st48 _ (st49 _ (st52 _ (st53 _ ?_))))))))))))))))))))))))))), hrun, hended, _, _, rfl, ?_, ⟨_, rfl⟩, hW, hsame.mono (by decide) (by decide)⟩
                            · show Steps p.tables e below (s₁.setTop (mkF m 126 #[.val (.int p0)] [.null])) _
                              jvm_step X0.here [X0.here.top, hx, (hb hby d3_126), X0.method', Bd.returns, Value.isRef, FieldType.isReference]
                              first | (intro acts; rw [hr _ acts rfl rfl rfl]) | rw [hr _ _ rfl rfl rfl]
                              exact Steps.refl _
                            · show Q_rm3 Z p0 a1 a2 a3 a4 a5 a6 a7 a8 a9 a10 a11 a12 a13 h0 n0 _ s₁.heap _
                              rw [e0]
                              exact ⟨by unfold own_ex; rw [if_neg k1, if_neg k2, if_neg k3, if_neg k4, if_neg k5, if_neg k6, if_neg k7, if_neg k8, if_neg k9, if_neg k10, if_neg k11, if_neg k12, if_neg k13], N0, rfl⟩
theorem ef_rm0 (m : MethodId) (x0 : Int32) : entryFrame m #[(.int x0)] maxLocals = mkF m 0 #[.val (.int x0), .unset, .unset] [] := by first | (simp [entryFrame, mkF, argsToLocals, Value.category, maxLocals]; done) | rfl
def Q_rm0 (Z : State) (p0 : Int32) (va : Addr) (cl : Cell) (a1 : Addr) (a2 : Addr) (a3 : Addr) (a4 : Addr) (a5 : Addr) (a6 : Addr) (a7 : Addr) (a8 : Addr) (a9 : Addr) (a10 : Addr) (a11 : Addr) (a12 : Addr) (a13 : Addr) (h0 : Heap) (n0 : Nat) (v : Option Value) (h : Heap) (L : List Loc) : Prop := v = some (.int 1) ∧ Fr n0 L
set_option maxRecDepth 65536 in
set_option maxHeartbeats 40000000 in
theorem rm0 (l : Launch) (Z : State) (a0 : Array Value) (hw : ∀ d ∈ tables_1, d.before a0 Z = true) (ws : List Jvm.Cond) (p0 : Int32) (va : Addr) (cl : Cell) (a1 : Addr) (a2 : Addr) (a3 : Addr) (a4 : Addr) (a5 : Addr) (a6 : Addr) (a7 : Addr) (a8 : Addr) (a9 : Addr) (a10 : Addr) (a11 : Addr) (a12 : Addr) (a13 : Addr) (h0 : Heap) (n0 : Nat) (Z0 : n0 ≤ h0.size) (S_V : Sta Z h0 "com/example/afterimage/afterimage/log/LogRecord$Type" "$VALUES" "[Lcom/example/afterimage/afterimage/log/LogRecord$Type;" (.ref va)) (Ar : Arr Z h0 va cl (.object "com/example/afterimage/afterimage/log/LogRecord$Type")) (Ev : Exa Z h0 va "[Lcom/example/afterimage/afterimage/log/LogRecord$Type;") (Fc : FitC Z cl) (hsz : cl.slots.size = (13 : Int32).toNatClampNeg) (hat0 : cl.slots[0]? = some (.ref a1)) (hat1 : cl.slots[1]? = some (.ref a2)) (hat2 : cl.slots[2]? = some (.ref a12)) (hat3 : cl.slots[3]? = some (.ref a13)) (hat4 : cl.slots[4]? = some (.ref a3)) (hat5 : cl.slots[5]? = some (.ref a4)) (hat6 : cl.slots[6]? = some (.ref a5)) (hat7 : cl.slots[7]? = some (.ref a6)) (hat8 : cl.slots[8]? = some (.ref a7)) (hat9 : cl.slots[9]? = some (.ref a8)) (hat10 : cl.slots[10]? = some (.ref a9)) (hat11 : cl.slots[11]? = some (.ref a10)) (hat12 : cl.slots[12]? = some (.ref a11)) (F1 : Fld Z h0 a1 "com/example/afterimage/afterimage/log/LogRecord$Type" "code" "B" (.int (1 : Int32))) (F2 : Fld Z h0 a2 "com/example/afterimage/afterimage/log/LogRecord$Type" "code" "B" (.int (2 : Int32))) (F12 : Fld Z h0 a12 "com/example/afterimage/afterimage/log/LogRecord$Type" "code" "B" (.int (12 : Int32))) (F13 : Fld Z h0 a13 "com/example/afterimage/afterimage/log/LogRecord$Type" "code" "B" (.int (13 : Int32))) (F3 : Fld Z h0 a3 "com/example/afterimage/afterimage/log/LogRecord$Type" "code" "B" (.int (3 : Int32))) (F4 : Fld Z h0 a4 "com/example/afterimage/afterimage/log/LogRecord$Type" "code" "B" (.int (4 : Int32))) (F5 : Fld Z h0 a5 "com/example/afterimage/afterimage/log/LogRecord$Type" "code" "B" (.int (5 : Int32))) (F6 : Fld Z h0 a6 "com/example/afterimage/afterimage/log/LogRecord$Type" "code" "B" (.int (6 : Int32))) (F7 : Fld Z h0 a7 "com/example/afterimage/afterimage/log/LogRecord$Type" "code" "B" (.int (7 : Int32))) (F8 : Fld Z h0 a8 "com/example/afterimage/afterimage/log/LogRecord$Type" "code" "B" (.int (8 : Int32))) (F9 : Fld Z h0 a9 "com/example/afterimage/afterimage/log/LogRecord$Type" "code" "B" (.int (9 : Int32))) (F10 : Fld Z h0 a10 "com/example/afterimage/afterimage/log/LogRecord$Type" "code" "B" (.int (10 : Int32))) (F11 : Fld Z h0 a11 "com/example/afterimage/afterimage/log/LogRecord$Type" "code" "B" (.int (11 : Int32))) (S1 : Sta Z h0 "com/example/afterimage/afterimage/log/LogRecord$Type" "PUT" "Lcom/example/afterimage/afterimage/log/LogRecord$Type;" (.ref a1)) (S2 : Sta Z h0 "com/example/afterimage/afterimage/log/LogRecord$Type" "FORMAT" "Lcom/example/afterimage/afterimage/log/LogRecord$Type;" (.ref a2)) (S3 : Sta Z h0 "com/example/afterimage/afterimage/log/LogRecord$Type" "COMMIT" "Lcom/example/afterimage/afterimage/log/LogRecord$Type;" (.ref a3)) (S4 : Sta Z h0 "com/example/afterimage/afterimage/log/LogRecord$Type" "UPDATE" "Lcom/example/afterimage/afterimage/log/LogRecord$Type;" (.ref a4)) (S5 : Sta Z h0 "com/example/afterimage/afterimage/log/LogRecord$Type" "COMPENSATION" "Lcom/example/afterimage/afterimage/log/LogRecord$Type;" (.ref a5)) (S6 : Sta Z h0 "com/example/afterimage/afterimage/log/LogRecord$Type" "ABORT" "Lcom/example/afterimage/afterimage/log/LogRecord$Type;" (.ref a6)) (S7 : Sta Z h0 "com/example/afterimage/afterimage/log/LogRecord$Type" "END" "Lcom/example/afterimage/afterimage/log/LogRecord$Type;" (.ref a7)) (S8 : Sta Z h0 "com/example/afterimage/afterimage/log/LogRecord$Type" "CLOSE" "Lcom/example/afterimage/afterimage/log/LogRecord$Type;" (.ref a8)) (S9 : Sta Z h0 "com/example/afterimage/afterimage/log/LogRecord$Type" "CHECKPOINT_BEGIN" "Lcom/example/afterimage/afterimage/log/LogRecord$Type;" (.ref a9)) (S10 : Sta Z h0 "com/example/afterimage/afterimage/log/LogRecord$Type" "CHECKPOINT_TABLES" "Lcom/example/afterimage/afterimage/log/LogRecord$Type;" (.ref a10)) (S11 : Sta Z h0 "com/example/afterimage/afterimage/log/LogRecord$Type" "CHECKPOINT_END" "Lcom/example/afterimage/afterimage/log/LogRecord$Type;" (.ref a11)) (S12 : Sta Z h0 "com/example/afterimage/afterimage/log/LogRecord$Type" "REMOVE" "Lcom/example/afterimage/afterimage/log/LogRecord$Type;" (.ref a12)) (S13 : Sta Z h0 "com/example/afterimage/afterimage/log/LogRecord$Type" "FREE" "Lcom/example/afterimage/afterimage/log/LogRecord$Type;" (.ref a13)) :
    MetFree l x (head1 (Jvm.Cond.code x code maxLocals ret :: ws) room_1) (fun a U => a = #[(.int p0)] ∧ Z.Warmed39 U.vm ∧ U.heap = h0) (fun _ _ _ _ _ => True) (fun _ U o U' => ∃ v L, o = .returned v ∧ Q_rm0 Z p0 va cl a1 a2 a3 a4 a5 a6 a7 a8 a9 a10 a11 a12 a13 h0 n0 v U'.heap L ∧ FrameEnd U o U' L room_1.cells room_1.slots) := by
  refine MetFree.of_bodySF (plainFor_of_name pn_1) hisR ?_
  intro p e s m args below meth c s₁ Bd hml0 hP hK
  obtain ⟨rfl, hZ, hh⟩ := hP
  have hx := Bd.exec
  have hby := Bd.bytes
  have hml : c.maxLocals = 3 := hml0
  have hown : s.vm.findClass "com/example/afterimage/afterimage/log/TypeOfPinLaw" = some m.cls := findClass_of_methodNamed Bd.named
  have hnm := (name_of_methodNamed Bd.named Bd.method).1
  have X0 : Stand p l e room_1 s m #[(.int p0)] below meth c s₁ [] 0 0 := Stand.of_body Bd
  have e0 : s₁.heap = h0 := by rw [← hh, Bd.state]; rfl
  have N0 := Fr.nil n0
  have pre0 : ∀ t, Steps p.tables e below (s₁.setTop (mkF m 0 #[.val (.int p0), .unset, .unset] [])) t → Steps p.tables e below (s₁.setTop (entryFrame m #[(.int p0)] maxLocals)) t := fun t k => castTop (ef_rm0 m p0) k
  have st1 : ∀ target, Steps p.tables e below (s₁.setTop (mkF m 3 #[.val (.int p0), .val (.int (p0.toInt8.toInt32)), .unset] [])) target → Steps p.tables e below (s₁.setTop (mkF m 0 #[.val (.int p0), .unset, .unset] [])) target := by
    intro target kt
    show Steps p.tables e below (s₁.setTop (mkF m 0 #[.val (.int p0), .unset, .unset] [])) _
    refine XS.iloadN X0.here hx rfl (hb hby at_0) rfl ?_
    show Steps p.tables e below (s₁.setTop (mkF m 1 #[.val (.int p0), .unset, .unset] [(.int p0)])) _
    refine XS.i2b X0.here hx rfl (hb hby at_1) rfl ?_
    show Steps p.tables e below (s₁.setTop (mkF m 2 #[.val (.int p0), .unset, .unset] [(.int (p0.toInt8.toInt32))])) _
    refine XS.istoreN X0.here hx rfl (hb hby at_2) rfl (l' := #[.val (.int p0), .val (.int (p0.toInt8.toInt32)), .unset]) rfl ?_
    exact kt
  obtain ⟨cd, hcd⟩ : ∃ z : Int32, z = (p0.toInt8.toInt32) := ⟨_, rfl⟩
  rw [← hcd] at st1
  have st2 : ∀ target, Steps p.tables e below (s₁.setTop (mkF m 4 #[.val (.int p0), .val (.int cd), .unset] [(.int cd)])) target → Steps p.tables e below (s₁.setTop (mkF m 3 #[.val (.int p0), .val (.int cd), .unset] [])) target := by
    intro target kt
    show Steps p.tables e below (s₁.setTop (mkF m 3 #[.val (.int p0), .val (.int cd), .unset] [])) _
    refine XS.iloadN X0.here hx rfl (hb hby at_3) rfl ?_
    exact kt
  obtain ⟨_, _, ⟨T3, L3, k3, n3⟩, -, X3, ⟨Lc3, hQ3, l3, y3, z3⟩, st3⟩ := Jvm.LawKit.callS X0 hx (y := (⟨"com/example/afterimage/afterimage/log/LogRecord$Type", "of", "(B)Lcom/example/afterimage/afterimage/log/LogRecord$Type;"⟩ : MethodName)) hown (mvT hZ (hw _ (List.mem_of_getElem? (i := 0) rfl))) (mvT hZ (hw _ (List.mem_of_getElem? (i := 1) rfl))) (mvT hZ (hw _ (List.mem_of_getElem? (i := 2) rfl))) (mvT hZ (hw _ (List.mem_of_getElem? (i := 3) rfl))) (by decide) (backOf (W := 0) (rm1 l Z a0 hw [] cd va cl a1 a2 a3 a4 a5 a6 a7 a8 a9 a10 a11 a12 a13 h0 n0 Z0 S_V Ar Ev Fc hsz hat0 hat1 hat2 hat3 hat4 hat5 hat6 hat7 hat8 hat9 hat10 hat11 hat12 F1 F2 F12 F13 F3 F4 F5 F6 F7 F8 F9 F10 F11) hZ (hw _ (List.mem_of_getElem? (i := 3) rfl)) (hw _ (List.mem_of_getElem? (i := 2) rfl)) (by decide) (by decide)) (g := (mkF m 4 #[.val (.int p0), .val (.int cd), .unset] [(.int cd)])) rfl (by rw [hml]; rfl) (argsL := [(.int cd)]) (rest := []) (lenOf pd_0 rfl) rfl (by show 2 * 0 + _ ≤ _; exact Nat.le_of_eq rfl) (hb hby at_4) (fun _ _ => ⟨rfl, e0, (by decide : 0 + 1 ≤ _), (by decide : 0 + 13 ≤ _)⟩)
  dsimp only [Pt.U, Pt.locs, Pt.cells, Pt.slots] at X3 l3 y3 z3 st3 hQ3
  subst l3 y3 z3
  obtain ⟨rfl, Nq3, K3⟩ := hQ3
  have N3 := Fr.app N0 Nq3
  have S1_3 := own_sta_keep S1 K3 all0
  have S2_3 := own_sta_keep S2 K3 all0
  have S3_3 := own_sta_keep S3 K3 all0
  have S4_3 := own_sta_keep S4 K3 all0
  have S5_3 := own_sta_keep S5 K3 all0
  have S6_3 := own_sta_keep S6 K3 all0
  have S7_3 := own_sta_keep S7 K3 all0
  have S8_3 := own_sta_keep S8 K3 all0
  have S9_3 := own_sta_keep S9 K3 all0
  have S10_3 := own_sta_keep S10 K3 all0
  have S11_3 := own_sta_keep S11 K3 all0
  have S12_3 := own_sta_keep S12 K3 all0
  have S13_3 := own_sta_keep S13 K3 all0
  have Z_3 : n0 ≤ T3.heap.size := Nat.le_trans Z0 K3.1
  obtain ⟨got, hgot⟩ : ∃ z : Value, z = (own_of cd a1 a2 a3 a4 a5 a6 a7 a8 a9 a10 a11 a12 a13) := ⟨_, rfl⟩
  rw [← hgot] at st3
  have r_got : got.isRef = true := hgot ▸ own_of_ref cd a1 a2 a3 a4 a5 a6 a7 a8 a9 a10 a11 a12 a13
  have st4 : ∀ target, Steps p.tables e below (T3.setTop (mkF m 10 #[.val (.int p0), .val (.int cd), .val got] [(.int cd), got])) target → Steps p.tables e below (T3.setTop (mkF m 7 #[.val (.int p0), .val (.int cd), .unset] [got])) target := by
    intro target kt
    show Steps p.tables e below (T3.setTop (mkF m 7 #[.val (.int p0), .val (.int cd), .unset] [got])) _
    refine XS.astoreN X3.here hx rfl (hb hby at_7) rfl r_got (l' := #[.val (.int p0), .val (.int cd), .val got]) (by first | rfl | (rcases ref_cases r_got with q | ⟨_, q⟩ <;> subst q <;> rfl)) ?_
    show Steps p.tables e below (T3.setTop (mkF m 8 #[.val (.int p0), .val (.int cd), .val got] [])) _
    refine XS.aloadN X3.here hx rfl (hb hby at_8) rfl r_got ?_
    show Steps p.tables e below (T3.setTop (mkF m 9 #[.val (.int p0), .val (.int cd), .val got] [got])) _
    refine XS.iloadN X3.here hx rfl (hb hby at_9) rfl ?_
    exact kt
  obtain ⟨_, _, ⟨T5, L5, k5, n5⟩, -, X5, ⟨Lc5, hQ5, l5, y5, z5⟩, st5⟩ := Jvm.LawKit.callS X3 hx (y := (⟨"com/example/afterimage/afterimage/log/TypeOfPinLaw", "expected", "(I)Lcom/example/afterimage/afterimage/log/LogRecord$Type;"⟩ : MethodName)) hown (mvT hZ (hw _ (List.mem_of_getElem? (i := 34) rfl))) (mvT hZ (hw _ (List.mem_of_getElem? (i := 35) rfl))) (mvT hZ (hw _ (List.mem_of_getElem? (i := 36) rfl))) (mvT hZ (hw _ (List.mem_of_getElem? (i := 37) rfl))) (by decide) (backOf (W := 1) (rm3 l Z a0 hw [] cd a1 a2 a3 a4 a5 a6 a7 a8 a9 a10 a11 a12 a13 T3.heap n0 Z_3 S1_3 S2_3 S3_3 S4_3 S5_3 S6_3 S7_3 S8_3 S9_3 S10_3 S11_3 S12_3 S13_3) hZ (hw _ (List.mem_of_getElem? (i := 37) rfl)) (hw _ (List.mem_of_getElem? (i := 36) rfl)) (by decide) (by decide)) (g := (mkF m 10 #[.val (.int p0), .val (.int cd), .val got] [(.int cd), got])) rfl (by rw [hml]; rfl) (argsL := [(.int cd)]) (rest := [got]) (lenOf pd_3 rfl) rfl (by show 2 * 0 + (List.map (fun v : Value => v.category) [got]).sum ≤ _; simp only [List.map_cons, List.map_nil, Jvm.Free.XT.cat1 r_got]; decide) (hb hby at_10) (fun _ _ => ⟨rfl, rfl, (by decide : 1 + 0 ≤ _), (by decide : 13 + 0 ≤ _)⟩)
  dsimp only [Pt.U, Pt.locs, Pt.cells, Pt.slots] at X5 l5 y5 z5 st5 hQ5
  subst l5 y5 z5
  obtain ⟨rfl, Nq5, e5⟩ := hQ5
  have N5 := Fr.app N3 Nq5
  obtain ⟨ex, hex⟩ : ∃ z : Value, z = (own_ex cd a1 a2 a3 a4 a5 a6 a7 a8 a9 a10 a11 a12 a13) := ⟨_, rfl⟩
  rw [← hex] at st5
  have r_ex : ex.isRef = true := hex ▸ own_ex_ref cd a1 a2 a3 a4 a5 a6 a7 a8 a9 a10 a11 a12 a13
  obtain ⟨fs, hr, hrun, hended, hW, hsame⟩ := X5.leave (v := some (.int (1 : Int32))) (fun h => by rw [Bd.returns] at h; cases h)
  refine ⟨_, _, pre0 _ (st1 _ (st2 _ (st3 _ (st4 _ (st5 _ ?_))))), hrun, hended, _, _, rfl, ?_, ⟨_, rfl⟩, hW, hsame.mono (by decide) (by decide)⟩
  · show Steps p.tables e below (T5.setTop (mkF m 13 #[.val (.int p0), .val (.int cd), .val got] [ex, got])) _
    refine Jvm.RoadKit.acmp (g := (mkF m 13 #[.val (.int p0), .val (.int cd), .val got] [ex, got])) X5 hx rfl r_got r_ex (pc0 := 13) (pc' := 16) (same := true) rfl (hb hby at_13) rfl (decide_eq_true (by rw [hgot, hex]; exact own_same cd a1 a2 a3 a4 a5 a6 a7 a8 a9 a10 a11 a12 a13)) (by decide) (by decide) ?_
    show Steps p.tables e below (T5.setTop (mkF m 16 #[.val (.int p0), .val (.int cd), .val got] [])) _
    refine XS.iconst X5.here hx rfl (hb hby at_16) ?_
    show Steps p.tables e below (T5.setTop (mkF m 17 #[.val (.int p0), .val (.int cd), .val got] [(.int (1 : Int32))])) _
    refine XS.goto X5.here hx rfl (pc0 := 17) (pc' := 21) rfl (hb hby at_17) (by decide) (by decide) ?_
    show Steps p.tables e below (T5.setTop (mkF m 21 #[.val (.int p0), .val (.int cd), .val got] [(.int (1 : Int32))])) _
    exact retN X5 hx (t := .boolean) Bd.returns (by simp) (hb hby at_21) hr
  · show Q_rm0 Z p0 va cl a1 a2 a3 a4 a5 a6 a7 a8 a9 a10 a11 a12 a13 h0 n0 _ T5.heap _
    rw [e5]
    exact ⟨rfl, N5⟩
set_option maxRecDepth 65536 in
set_option maxHeartbeats 40000000 in
theorem comes_1 {Post : Tables → Env → Array Value → State → Outcome → State → Prop} (hpost : ∀ tb e args s v u, (limb_1_1.after args s (.returned v) u = true ∧ limb_1_2.after args s (.returned v) u = true ∧ True) → FrameEnd s (.returned v) u (Jvm.fieldLocs frame_1_writes args s ++ Jvm.arrayLocs frame_1_arrays args s ++ Jvm.staticLocs frame_1_statics s) 16 128 → Post tb e args s (.returned v) u) :
    ArmFor flags0 classFile x code maxLocals ret World_1 tables_1 room_1 Calls_1 rest_1 Pre_1 Post := by
  intro l hfl _ _ p e ha hc hk s m args below hf hA hF happ hP
  obtain ⟨hcalls, hrest, hpre⟩ := hP
  obtain ⟨-, -, -, hnamed, -, -, -, hat⟩ := (Spec.applies_iff hf).mp happ
  obtain ⟨hg, hn⟩ := and_e (Cond.before_iff.mp (show (Jvm.Cond.and given_1 narrow_1).before args s = true from hpre))
  obtain ⟨gg1, gg2⟩ := and_e hg
  obtain ⟨gg3, gg4⟩ := and_e hn
  obtain ⟨gg5, gg6⟩ := and_e gg4
  obtain ⟨gg7, gg8⟩ := and_e gg6
  obtain ⟨gg9, gg10⟩ := and_e gg8
  obtain ⟨gg11, gg12⟩ := and_e gg10
  obtain ⟨gg13, gg14⟩ := and_e gg12
  obtain ⟨gg15, gg16⟩ := and_e gg14
  obtain ⟨gg17, gg18⟩ := and_e gg16
  obtain ⟨gg19, gg20⟩ := and_e gg18
  obtain ⟨gg21, gg22⟩ := and_e gg20
  obtain ⟨gg23, gg24⟩ := and_e gg22
  obtain ⟨gg25, gg26⟩ := and_e gg24
  obtain ⟨gg27, gg28⟩ := and_e gg26
  obtain ⟨gg29, gg30⟩ := and_e gg28
  obtain ⟨gg31, gg32⟩ := and_e gg30
  obtain ⟨gg33, gg34⟩ := and_e gg32
  obtain ⟨gg35, gg36⟩ := and_e gg34
  obtain ⟨gg37, gg38⟩ := and_e gg36
  obtain ⟨gg39, gg40⟩ := and_e gg38
  obtain ⟨gg41, gg42⟩ := and_e gg40
  obtain ⟨gg43, gg44⟩ := and_e gg42
  obtain ⟨gg45, gg46⟩ := and_e gg44
  obtain ⟨gg47, gg48⟩ := and_e gg46
  obtain ⟨gg49, gg50⟩ := and_e gg48
  obtain ⟨gg51, gg52⟩ := and_e gg50
  obtain ⟨gg53, gg54⟩ := and_e gg52
  obtain ⟨gg55, gg56⟩ := and_e gg54
  obtain ⟨gg57, gg58⟩ := and_e gg56
  obtain ⟨gg59, gg60⟩ := and_e gg58
  obtain ⟨gg61, gg62⟩ := and_e gg60
  obtain ⟨gg63, gg64⟩ := and_e gg62
  obtain ⟨gg65, gg66⟩ := and_e gg64
  obtain ⟨gg67, gg68⟩ := and_e gg66
  obtain ⟨gg69, gg70⟩ := and_e gg68
  obtain ⟨gg71, gg72⟩ := and_e gg70
  obtain ⟨gg73, gg74⟩ := and_e gg72
  obtain ⟨gg75, gg76⟩ := and_e gg74
  obtain ⟨gg77, gg78⟩ := and_e gg76
  obtain ⟨gg79, gg80⟩ := and_e gg78
  obtain ⟨gg81, gg82⟩ := and_e gg80
  obtain ⟨gg83, gg84⟩ := and_e gg82
  obtain ⟨w0, rfl⟩ : ∃ w0 : Value, args = #[w0] := by
    have hs : args.size = 1 := by simpa [Cond.value, given_1] using gg1
    obtain ⟨L⟩ := args
    match L, hs with
    | [w0], _ => exact ⟨w0, rfl⟩
  have hw := fun d (hd : d ∈ tables_1) => atoms_spec (ws := Jvm.Cond.code x code maxLocals ret :: tables_1) hat d (List.mem_cons_of_mem _ hd)
  have hfit : Fit s := fun {y c} hc i hi => by
    obtain ⟨ha, rfl⟩ := Array.getElem?_eq_some_iff.mp hc
    have q := List.all_eq_true.mp ((Array.all_eq_true_iff_forall_mem.mp hF) _ (Array.getElem_mem ha)) i (List.mem_range.mpr hi)
    simpa [Array.getElem?_eq_getElem hi] using q
  obtain ⟨i0, ei0⟩ := is_v gg2
  obtain rfl : w0 = (.int i0) := Option.some.inj ei0
  obtain ⟨va, ev_V⟩ := exa_v gg5
  have Ev := Exa.start ev_V gg5
  have S_V := Sta.start ev_V (Or.inl (hw _ (List.mem_of_getElem? (i := 29) rfl)))
  obtain ⟨cl, Ar⟩ := Arr.start ev_V gg3
  have el := eqv_i (Term.int_eval (13 : Int32)) gg7
  have q31 := own_len ev_V (Ar.fin (Vm.Alike.refl _)) el
  obtain ⟨va', cl', u1, u2, u3⟩ := Term.length_spec el
  cases ev_V.symm.trans u1
  cases (Ar.fin (Vm.Alike.refl _)).symm.trans u2
  have hsz : cl.slots.size = (13 : Int32).toNatClampNeg := by
    have e1 : cl.slots.size.toInt32 = 13 := (Value.int.inj u3).symm
    rw [← e1]; simp only [Int32.toNatClampNeg, len_toInt q31]; rfl
  have Fc := FitC.start hfit Ar
  obtain ⟨a1, ev1⟩ := exa_v gg9
  have S1 := Sta.start ev1 (Or.inr ⟨(hw _ (List.mem_of_getElem? (i := 2) rfl)), (hw _ (List.mem_of_getElem? (i := 16) rfl))⟩)
  have F1 := Fld.start ((fld_at ev1).symm.trans (eqv_i (Term.int_eval (1 : Int32)) gg61))
  have hat0 := (elem_in (own_eqr ev1 gg11) ev_V (Term.int_eval (0 : Int32)) Ar.1).2
  obtain ⟨a2, ev2⟩ := exa_v gg13
  have S2 := Sta.start ev2 (Or.inr ⟨(hw _ (List.mem_of_getElem? (i := 2) rfl)), (hw _ (List.mem_of_getElem? (i := 17) rfl))⟩)
  have F2 := Fld.start ((fld_at ev2).symm.trans (eqv_i (Term.int_eval (2 : Int32)) gg63))
  have hat1 := (elem_in (own_eqr ev2 gg15) ev_V (Term.int_eval (1 : Int32)) Ar.1).2
  obtain ⟨a12, ev12⟩ := exa_v gg17
  have S12 := Sta.start ev12 (Or.inr ⟨(hw _ (List.mem_of_getElem? (i := 2) rfl)), (hw _ (List.mem_of_getElem? (i := 18) rfl))⟩)
  have F12 := Fld.start ((fld_at ev12).symm.trans (eqv_i (Term.int_eval (12 : Int32)) gg65))
  have hat2 := (elem_in (own_eqr ev12 gg19) ev_V (Term.int_eval (2 : Int32)) Ar.1).2
  obtain ⟨a13, ev13⟩ := exa_v gg21
  have S13 := Sta.start ev13 (Or.inr ⟨(hw _ (List.mem_of_getElem? (i := 2) rfl)), (hw _ (List.mem_of_getElem? (i := 19) rfl))⟩)
  have F13 := Fld.start ((fld_at ev13).symm.trans (eqv_i (Term.int_eval (13 : Int32)) gg67))
  have hat3 := (elem_in (own_eqr ev13 gg23) ev_V (Term.int_eval (3 : Int32)) Ar.1).2
  obtain ⟨a3, ev3⟩ := exa_v gg25
  have S3 := Sta.start ev3 (Or.inr ⟨(hw _ (List.mem_of_getElem? (i := 2) rfl)), (hw _ (List.mem_of_getElem? (i := 20) rfl))⟩)
  have F3 := Fld.start ((fld_at ev3).symm.trans (eqv_i (Term.int_eval (3 : Int32)) gg69))
  have hat4 := (elem_in (own_eqr ev3 gg27) ev_V (Term.int_eval (4 : Int32)) Ar.1).2
  obtain ⟨a4, ev4⟩ := exa_v gg29
  have S4 := Sta.start ev4 (Or.inr ⟨(hw _ (List.mem_of_getElem? (i := 2) rfl)), (hw _ (List.mem_of_getElem? (i := 21) rfl))⟩)
  have F4 := Fld.start ((fld_at ev4).symm.trans (eqv_i (Term.int_eval (4 : Int32)) gg71))
  have hat5 := (elem_in (own_eqr ev4 gg31) ev_V (Term.int_eval (5 : Int32)) Ar.1).2
  obtain ⟨a5, ev5⟩ := exa_v gg33
  have S5 := Sta.start ev5 (Or.inr ⟨(hw _ (List.mem_of_getElem? (i := 2) rfl)), (hw _ (List.mem_of_getElem? (i := 22) rfl))⟩)
  have F5 := Fld.start ((fld_at ev5).symm.trans (eqv_i (Term.int_eval (5 : Int32)) gg73))
  have hat6 := (elem_in (own_eqr ev5 gg35) ev_V (Term.int_eval (6 : Int32)) Ar.1).2
  obtain ⟨a6, ev6⟩ := exa_v gg37
  have S6 := Sta.start ev6 (Or.inr ⟨(hw _ (List.mem_of_getElem? (i := 2) rfl)), (hw _ (List.mem_of_getElem? (i := 23) rfl))⟩)
  have F6 := Fld.start ((fld_at ev6).symm.trans (eqv_i (Term.int_eval (6 : Int32)) gg75))
  have hat7 := (elem_in (own_eqr ev6 gg39) ev_V (Term.int_eval (7 : Int32)) Ar.1).2
  obtain ⟨a7, ev7⟩ := exa_v gg41
  have S7 := Sta.start ev7 (Or.inr ⟨(hw _ (List.mem_of_getElem? (i := 2) rfl)), (hw _ (List.mem_of_getElem? (i := 24) rfl))⟩)
  have F7 := Fld.start ((fld_at ev7).symm.trans (eqv_i (Term.int_eval (7 : Int32)) gg77))
  have hat8 := (elem_in (own_eqr ev7 gg43) ev_V (Term.int_eval (8 : Int32)) Ar.1).2
  obtain ⟨a8, ev8⟩ := exa_v gg45
  have S8 := Sta.start ev8 (Or.inr ⟨(hw _ (List.mem_of_getElem? (i := 2) rfl)), (hw _ (List.mem_of_getElem? (i := 25) rfl))⟩)
  have F8 := Fld.start ((fld_at ev8).symm.trans (eqv_i (Term.int_eval (8 : Int32)) gg79))
  have hat9 := (elem_in (own_eqr ev8 gg47) ev_V (Term.int_eval (9 : Int32)) Ar.1).2
  obtain ⟨a9, ev9⟩ := exa_v gg49
  have S9 := Sta.start ev9 (Or.inr ⟨(hw _ (List.mem_of_getElem? (i := 2) rfl)), (hw _ (List.mem_of_getElem? (i := 26) rfl))⟩)
  have F9 := Fld.start ((fld_at ev9).symm.trans (eqv_i (Term.int_eval (9 : Int32)) gg81))
  have hat10 := (elem_in (own_eqr ev9 gg51) ev_V (Term.int_eval (10 : Int32)) Ar.1).2
  obtain ⟨a10, ev10⟩ := exa_v gg53
  have S10 := Sta.start ev10 (Or.inr ⟨(hw _ (List.mem_of_getElem? (i := 2) rfl)), (hw _ (List.mem_of_getElem? (i := 27) rfl))⟩)
  have F10 := Fld.start ((fld_at ev10).symm.trans (eqv_i (Term.int_eval (10 : Int32)) gg83))
  have hat11 := (elem_in (own_eqr ev10 gg55) ev_V (Term.int_eval (11 : Int32)) Ar.1).2
  obtain ⟨a11, ev11⟩ := exa_v gg57
  have S11 := Sta.start ev11 (Or.inr ⟨(hw _ (List.mem_of_getElem? (i := 2) rfl)), (hw _ (List.mem_of_getElem? (i := 28) rfl))⟩)
  have F11 := Fld.start ((fld_at ev11).symm.trans (eqv_i (Term.int_eval (11 : Int32)) gg84))
  have hat12 := (elem_in (own_eqr ev11 gg59) ev_V (Term.int_eval (12 : Int32)) Ar.1).2
  obtain ⟨n, o, h1, h2, h3, _, L, rfl, ⟨rfl, N⟩, hq⟩ := rm0 l s _ hw tables_1 i0 va cl a1 a2 a3 a4 a5 a6 a7 a8 a9 a10 a11 a12 a13 s.heap s.heap.size (Nat.le_refl _) S_V Ar Ev Fc hsz hat0 hat1 hat2 hat3 hat4 hat5 hat6 hat7 hat8 hat9 hat10 hat11 hat12 F1 F2 F12 F13 F3 F4 F5 F6 F7 F8 F9 F10 F11 S1 S2 S3 S4 S5 S6 S7 S8 S9 S10 S11 S12 S13 p e ha hc hk s m _ below hf ((Spec.applies_iff_loose hf).mp happ).1 ⟨rfl, State.Warmed39.refl s, rfl⟩ trivial
  refine ⟨n, _, h1, h2, h3, hpost _ _ _ _ _ _ ⟨Cond.after_iff.mpr rfl, Cond.after_iff.mpr (eq_i res_at (Term.int_eval (1)) rfl), trivial⟩ ⟨hq.1, hq.2.1, (hq.2.2.sift fun y hy => Or.inr (N y hy)).mono (by decide) (by decide)⟩⟩
theorem main_1_1 : Claimed_1_1 := comes_1 fun _ _ _ _ _ _ h hF => ⟨h.1, hF⟩
theorem main_1_2 : Claimed_1_2 := comes_1 fun _ _ _ _ _ _ h hF => ⟨h.2.1, hF⟩
end Jvm.Pilot.@@N@@
namespace Jvm.Pilot.@@N@@
open Jvm Jvm.ClassFile Sem Op Lib Jvm.Free Jvm.Stand Jvm.Pilot.@@N@@.Jvm.D
/-! MADE BY PROGRAM (witnessworld.py) out of the Statement's table words and the real class files: 13 classes; the members and pool entries that the words name. The judged class is class 1, her method 1. -/
namespace start1
open Jvm.ClassFile
def u (s : String) : CpInfo := .utf8 (stringToUtf16 s)
/-- a pool by its gaps: so many unusable entries, then the entry; so many at the end -/
def gap : Nat → List CpInfo → List CpInfo
  | 0, r => r
  | n + 1, r => .unusable :: gap n r
def poolList (es : List (Nat × CpInfo)) (last : Nat) : List CpInfo := es.foldr (fun e r => gap e.1 (e.2 :: r)) (gap last [])
def pool (es : List (Nat × CpInfo)) (last : Nat) : Array CpInfo := ⟨poolList es last⟩
def fileOf (pool : Array CpInfo) (this : Nat) (attrs : Array Attribute := #[]) (ms : Array MethodInfo := #[]) (fl : Nat := 33) (sup : Nat := 0) (ifs : Array Nat := #[]) (fds : Array FieldInfo := #[]) : ClassFile where
  minorVersion := 0
  majorVersion := 65
  constantPool := pool
  accessFlags := fl
  thisClass := this
  superClass := sup
  interfaces := ifs
  fields := fds
  methods := ms
  attributes := attrs
def plain (name : String) (sup : Option ClassId) : Class where
  name := name
  kind := .ordinary
  loader := none
  accessFlags := 33
  super := sup
  interfaces := #[]
  cf := none
  fields := #[]
  methods := #[]
  instanceTypes := #[]
  staticTypes := #[]
  resolved := #[]
  callSites := []
  init := .initialized
  statics := none
  mirror := none

def pool0 : Array CpInfo := pool [(5, u "<init>"), (0, u "()V"), (1, .class_ 10), (1, u "java/lang/Object"), (85, u "clone"), (0, u "()Ljava/lang/Object;")] 26

def k0m0 : Method := { name := "<init>", desc := "()V", sig := { parameters := [], returnType := none }, accessFlags := 1, code := none }
def k0m1 : Method := { name := "clone", desc := "()Ljava/lang/Object;", sig := { parameters := [], returnType := some (.object "java/lang/Object") }, accessFlags := 260, code := none }
/-- java/lang/Object -/
def k0 : Class := { plain "java/lang/Object" none with
  accessFlags := 33
  interfaces := #[]
  cf := some (fileOf pool0 8 #[] #[{ accessFlags := 1, nameIndex := 5, descriptorIndex := 6, attributes := #[] }, { accessFlags := 260, nameIndex := 96, descriptorIndex := 97, attributes := #[] }] 33 0 #[] #[])
  fields := #[]
  methods := #[k0m0, k0m1]
  instanceTypes := #[]
  staticTypes := #[]
  resolved := Array.replicate 124 none
  statics := none }

def pool1 : Array CpInfo := pool [(2, .class_ 4), (1, u "java/lang/Object"), (0, u "<init>"), (0, u "()V"), (0, .methodref 8 9), (0, .class_ 10), (0, .nameAndType 11 12), (0, u "com/example/afterimage/afterimage/log/LogRecord$Type"), (0, u "of"), (0, u "(B)Lcom/example/afterimage/afterimage/log/LogRecord$Type;"), (0, .methodref 14 15), (0, .class_ 16), (0, .nameAndType 17 18), (0, u "com/example/afterimage/afterimage/log/TypeOfPinLaw"), (0, u "expected"), (0, u "(I)Lcom/example/afterimage/afterimage/log/LogRecord$Type;"), (0, .fieldref 8 20), (0, .nameAndType 21 22), (0, u "PUT"), (0, u "Lcom/example/afterimage/afterimage/log/LogRecord$Type;"), (0, .fieldref 8 24), (0, .nameAndType 25 22), (0, u "FORMAT"), (0, .fieldref 8 27), (0, .nameAndType 28 22), (0, u "COMMIT"), (0, .fieldref 8 30), (0, .nameAndType 31 22), (0, u "UPDATE"), (0, .fieldref 8 33), (0, .nameAndType 34 22), (0, u "COMPENSATION"), (0, .fieldref 8 36), (0, .nameAndType 37 22), (0, u "ABORT"), (0, .fieldref 8 39), (0, .nameAndType 40 22), (0, u "END"), (0, .fieldref 8 42), (0, .nameAndType 43 22), (0, u "CLOSE"), (0, .fieldref 8 45), (0, .nameAndType 46 22), (0, u "CHECKPOINT_BEGIN"), (0, .fieldref 8 48), (0, .nameAndType 49 22), (0, u "CHECKPOINT_TABLES"), (0, .fieldref 8 51), (0, .nameAndType 52 22), (0, u "CHECKPOINT_END"), (0, .fieldref 8 54), (0, .nameAndType 55 22), (0, u "REMOVE"), (0, .fieldref 8 57), (0, .nameAndType 58 22), (0, u "FREE"), (2, u "law"), (0, u "(I)Z")] 7

def k1m0 : Method := { name := "<init>", desc := "()V", sig := { parameters := [], returnType := none }, accessFlags := 2, code := none }
def k1c1 : Code := { maxStack := 2, maxLocals := 3, code := code, exceptionTable := #[], attributes := #[] }
def k1m1 : Method := { name := "law", desc := "(I)Z", sig := { parameters := [.int], returnType := some .boolean }, accessFlags := 9, code := some k1c1 }
def k1c2 : Code := { maxStack := 2, maxLocals := 1, code := method_3_code, exceptionTable := #[], attributes := #[] }
def k1m2 : Method := { name := "expected", desc := "(I)Lcom/example/afterimage/afterimage/log/LogRecord$Type;", sig := { parameters := [.int], returnType := some (.object "com/example/afterimage/afterimage/log/LogRecord$Type") }, accessFlags := 10, code := some k1c2 }
/-- com/example/afterimage/afterimage/log/TypeOfPinLaw -/
def k1 : Class := { plain "com/example/afterimage/afterimage/log/TypeOfPinLaw" (some 0) with
  accessFlags := 49
  interfaces := #[]
  cf := some (fileOf pool1 14 #[] #[{ accessFlags := 2, nameIndex := 5, descriptorIndex := 6, attributes := #[] }, { accessFlags := 9, nameIndex := 61, descriptorIndex := 62, attributes := #[] }, { accessFlags := 10, nameIndex := 17, descriptorIndex := 18, attributes := #[] }] 49 2 #[] #[])
  fields := #[]
  methods := #[k1m0, k1m1, k1m2]
  instanceTypes := #[]
  staticTypes := #[]
  resolved := Array.replicate 70 none
  statics := none }

def pool2 : Array CpInfo := pool [(1, .class_ 2), (0, u "java/lang/constant/Constable"), (0, .class_ 4), (0, u "java/lang/Object")] 6

/-- java/lang/constant/Constable -/
def k2 : Class := { plain "java/lang/constant/Constable" (some 0) with
  accessFlags := 1537
  interfaces := #[]
  cf := some (fileOf pool2 1 #[] #[] 1537 3 #[] #[])
  fields := #[]
  methods := #[]
  instanceTypes := #[]
  staticTypes := #[]
  resolved := Array.replicate 11 none
  statics := none }

def pool3 : Array CpInfo := pool [(1, .class_ 2), (0, u "java/lang/Comparable"), (0, .class_ 4), (0, u "java/lang/Object")] 7

/-- java/lang/Comparable -/
def k3 : Class := { plain "java/lang/Comparable" (some 0) with
  accessFlags := 1537
  interfaces := #[]
  cf := some (fileOf pool3 1 #[] #[] 1537 3 #[] #[])
  fields := #[]
  methods := #[]
  instanceTypes := #[]
  staticTypes := #[]
  resolved := Array.replicate 12 none
  statics := none }

def pool4 : Array CpInfo := pool [(1, .class_ 2), (0, u "java/io/Serializable"), (0, .class_ 4), (0, u "java/lang/Object")] 2

/-- java/io/Serializable -/
def k4 : Class := { plain "java/io/Serializable" (some 0) with
  accessFlags := 1537
  interfaces := #[]
  cf := some (fileOf pool4 1 #[] #[] 1537 3 #[] #[])
  fields := #[]
  methods := #[]
  instanceTypes := #[]
  staticTypes := #[]
  resolved := Array.replicate 7 none
  statics := none }

def pool5 : Array CpInfo := pool [(2, .class_ 4), (1, u "java/lang/Enum"), (0, u "name"), (0, u "Ljava/lang/String;"), (2, u "ordinal"), (0, u "I"), (1, .class_ 14), (1, u "java/lang/Object"), (4, u "hash"), (86, .class_ 108), (1, u "java/lang/Enum$EnumDesc"), (2, .class_ 112), (0, u "java/lang/constant/Constable"), (0, .class_ 114), (0, u "java/lang/Comparable"), (0, .class_ 116), (0, u "java/io/Serializable")] 87

/-- java/lang/Enum -/
def k5 : Class := { plain "java/lang/Enum" (some 0) with
  accessFlags := 1057
  interfaces := #[2, 3, 4]
  cf := some (fileOf pool5 2 #[.nestMembers #[106]] #[] 1057 12 #[111, 113, 115] #[{ accessFlags := 18, nameIndex := 5, descriptorIndex := 6, attributes := #[] }, { accessFlags := 18, nameIndex := 9, descriptorIndex := 10, attributes := #[] }, { accessFlags := 2, nameIndex := 19, descriptorIndex := 10, attributes := #[] }])
  fields := #[{ name := "name", type := (.object "java/lang/String"), accessFlags := 18, slot := 0, constantValue := 0 }, { name := "ordinal", type := .int, accessFlags := 18, slot := 1, constantValue := 0 }, { name := "hash", type := .int, accessFlags := 2, slot := 2, constantValue := 0 }]
  methods := #[]
  instanceTypes := #[(.object "java/lang/String"), .int, .int]
  staticTypes := #[]
  resolved := Array.replicate 204 none
  statics := none }

def pool6 : Array CpInfo := pool [(1, .class_ 2), (0, u "com/example/afterimage/afterimage/log/LogRecord$Type"), (2, u "PUT"), (0, u "Lcom/example/afterimage/afterimage/log/LogRecord$Type;"), (2, u "FORMAT"), (2, u "REMOVE"), (2, u "FREE"), (2, u "COMMIT"), (2, u "UPDATE"), (2, u "COMPENSATION"), (2, u "ABORT"), (2, u "END"), (2, u "CLOSE"), (2, u "CHECKPOINT_BEGIN"), (2, u "CHECKPOINT_TABLES"), (2, u "CHECKPOINT_END"), (0, .fieldref 1 44), (0, .nameAndType 45 46), (0, u "$VALUES"), (0, u "[Lcom/example/afterimage/afterimage/log/LogRecord$Type;"), (0, .methodref 48 49), (0, .class_ 46), (0, .nameAndType 50 51), (0, u "clone"), (0, u "()Ljava/lang/Object;"), (1, .class_ 55), (1, u "java/lang/Enum"), (6, .fieldref 1 63), (0, .nameAndType 64 65), (0, u "code"), (0, u "B"), (2, u "structural"), (0, u "Z"), (0, .methodref 1 71), (0, .nameAndType 72 73), (0, u "values"), (0, u "()[Lcom/example/afterimage/afterimage/log/LogRecord$Type;"), (27, u "of"), (0, u "(B)Lcom/example/afterimage/afterimage/log/LogRecord$Type;"), (7, .class_ 111), (0, u "com/example/afterimage/afterimage/log/LogRecord")] 2

def k6c0 : Code := { maxStack := 1, maxLocals := 0, code := prog_39_method_1_code, exceptionTable := #[], attributes := #[] }
def k6m0 : Method := { name := "values", desc := "()[Lcom/example/afterimage/afterimage/log/LogRecord$Type;", sig := { parameters := [], returnType := some (.array (.object "com/example/afterimage/afterimage/log/LogRecord$Type")) }, accessFlags := 9, code := some k6c0 }
def k6c1 : Code := { maxStack := 2, maxLocals := 5, code := prog_39_method_5_code, exceptionTable := #[], attributes := #[] }
def k6m1 : Method := { name := "of", desc := "(B)Lcom/example/afterimage/afterimage/log/LogRecord$Type;", sig := { parameters := [.byte], returnType := some (.object "com/example/afterimage/afterimage/log/LogRecord$Type") }, accessFlags := 8, code := some k6c1 }
/-- com/example/afterimage/afterimage/log/LogRecord$Type -/
def k6 : Class := { plain "com/example/afterimage/afterimage/log/LogRecord$Type" (some 5) with
  accessFlags := 16433
  interfaces := #[]
  cf := some (fileOf pool6 1 #[.nestHost 110] #[{ accessFlags := 9, nameIndex := 72, descriptorIndex := 73, attributes := #[] }, { accessFlags := 8, nameIndex := 101, descriptorIndex := 102, attributes := #[] }] 16433 53 #[] #[{ accessFlags := 16409, nameIndex := 5, descriptorIndex := 6, attributes := #[] }, { accessFlags := 16409, nameIndex := 9, descriptorIndex := 6, attributes := #[] }, { accessFlags := 16409, nameIndex := 12, descriptorIndex := 6, attributes := #[] }, { accessFlags := 16409, nameIndex := 15, descriptorIndex := 6, attributes := #[] }, { accessFlags := 16409, nameIndex := 18, descriptorIndex := 6, attributes := #[] }, { accessFlags := 16409, nameIndex := 21, descriptorIndex := 6, attributes := #[] }, { accessFlags := 16409, nameIndex := 24, descriptorIndex := 6, attributes := #[] }, { accessFlags := 16409, nameIndex := 27, descriptorIndex := 6, attributes := #[] }, { accessFlags := 16409, nameIndex := 30, descriptorIndex := 6, attributes := #[] }, { accessFlags := 16409, nameIndex := 33, descriptorIndex := 6, attributes := #[] }, { accessFlags := 16409, nameIndex := 36, descriptorIndex := 6, attributes := #[] }, { accessFlags := 16409, nameIndex := 39, descriptorIndex := 6, attributes := #[] }, { accessFlags := 16409, nameIndex := 42, descriptorIndex := 6, attributes := #[] }, { accessFlags := 18, nameIndex := 64, descriptorIndex := 65, attributes := #[] }, { accessFlags := 18, nameIndex := 68, descriptorIndex := 69, attributes := #[] }, { accessFlags := 4122, nameIndex := 45, descriptorIndex := 46, attributes := #[] }])
  fields := #[{ name := "PUT", type := (.object "com/example/afterimage/afterimage/log/LogRecord$Type"), accessFlags := 16409, slot := 0, constantValue := 0 }, { name := "FORMAT", type := (.object "com/example/afterimage/afterimage/log/LogRecord$Type"), accessFlags := 16409, slot := 1, constantValue := 0 }, { name := "REMOVE", type := (.object "com/example/afterimage/afterimage/log/LogRecord$Type"), accessFlags := 16409, slot := 2, constantValue := 0 }, { name := "FREE", type := (.object "com/example/afterimage/afterimage/log/LogRecord$Type"), accessFlags := 16409, slot := 3, constantValue := 0 }, { name := "COMMIT", type := (.object "com/example/afterimage/afterimage/log/LogRecord$Type"), accessFlags := 16409, slot := 4, constantValue := 0 }, { name := "UPDATE", type := (.object "com/example/afterimage/afterimage/log/LogRecord$Type"), accessFlags := 16409, slot := 5, constantValue := 0 }, { name := "COMPENSATION", type := (.object "com/example/afterimage/afterimage/log/LogRecord$Type"), accessFlags := 16409, slot := 6, constantValue := 0 }, { name := "ABORT", type := (.object "com/example/afterimage/afterimage/log/LogRecord$Type"), accessFlags := 16409, slot := 7, constantValue := 0 }, { name := "END", type := (.object "com/example/afterimage/afterimage/log/LogRecord$Type"), accessFlags := 16409, slot := 8, constantValue := 0 }, { name := "CLOSE", type := (.object "com/example/afterimage/afterimage/log/LogRecord$Type"), accessFlags := 16409, slot := 9, constantValue := 0 }, { name := "CHECKPOINT_BEGIN", type := (.object "com/example/afterimage/afterimage/log/LogRecord$Type"), accessFlags := 16409, slot := 10, constantValue := 0 }, { name := "CHECKPOINT_TABLES", type := (.object "com/example/afterimage/afterimage/log/LogRecord$Type"), accessFlags := 16409, slot := 11, constantValue := 0 }, { name := "CHECKPOINT_END", type := (.object "com/example/afterimage/afterimage/log/LogRecord$Type"), accessFlags := 16409, slot := 12, constantValue := 0 }, { name := "code", type := .byte, accessFlags := 18, slot := 3, constantValue := 0 }, { name := "structural", type := .boolean, accessFlags := 18, slot := 4, constantValue := 0 }, { name := "$VALUES", type := (.array (.object "com/example/afterimage/afterimage/log/LogRecord$Type")), accessFlags := 4122, slot := 13, constantValue := 0 }]
  methods := #[k6m0, k6m1]
  instanceTypes := #[(.object "java/lang/String"), .int, .int, .byte, .boolean]
  staticTypes := #[(.object "com/example/afterimage/afterimage/log/LogRecord$Type"), (.object "com/example/afterimage/afterimage/log/LogRecord$Type"), (.object "com/example/afterimage/afterimage/log/LogRecord$Type"), (.object "com/example/afterimage/afterimage/log/LogRecord$Type"), (.object "com/example/afterimage/afterimage/log/LogRecord$Type"), (.object "com/example/afterimage/afterimage/log/LogRecord$Type"), (.object "com/example/afterimage/afterimage/log/LogRecord$Type"), (.object "com/example/afterimage/afterimage/log/LogRecord$Type"), (.object "com/example/afterimage/afterimage/log/LogRecord$Type"), (.object "com/example/afterimage/afterimage/log/LogRecord$Type"), (.object "com/example/afterimage/afterimage/log/LogRecord$Type"), (.object "com/example/afterimage/afterimage/log/LogRecord$Type"), (.object "com/example/afterimage/afterimage/log/LogRecord$Type"), (.array (.object "com/example/afterimage/afterimage/log/LogRecord$Type"))]
  resolved := Array.replicate 114 none
  statics := some 0 }

def pool7 : Array CpInfo := pool [(1, .class_ 2), (0, u "java/lang/Cloneable"), (0, .class_ 4), (0, u "java/lang/Object")] 2

/-- java/lang/Cloneable -/
def k7 : Class := { plain "java/lang/Cloneable" (some 0) with
  accessFlags := 1537
  interfaces := #[]
  cf := some (fileOf pool7 1 #[] #[] 1537 3 #[] #[])
  fields := #[]
  methods := #[]
  instanceTypes := #[]
  staticTypes := #[]
  resolved := Array.replicate 7 none
  statics := none }

/-- the primitive byte -/
def k8 : Class := { plain "byte" none with kind := .primitive 'B', accessFlags := 0x411 }
/-- [B -/
def k9 : Class := { plain "[B" (some 0) with kind := .array 8 .byte, interfaces := #[7, 4], accessFlags := 1041 }

/-- the primitive int -/
def k10 : Class := { plain "int" none with kind := .primitive 'I', accessFlags := 0x411 }
/-- [I -/
def k11 : Class := { plain "[I" (some 0) with kind := .array 10 .int, interfaces := #[7, 4], accessFlags := 1041 }

/-- [Lcom/example/afterimage/afterimage/log/LogRecord$Type; -/
def k12 : Class := { plain "[Lcom/example/afterimage/afterimage/log/LogRecord$Type;" (some 0) with kind := .array 6 (.object "com/example/afterimage/afterimage/log/LogRecord$Type"), interfaces := #[7, 4], accessFlags := 1041 }

def heap : Heap := #[{ cls := 6, slots := #[.ref 2, .ref 3, .ref 4, .ref 5, .ref 6, .ref 7, .ref 8, .ref 9, .ref 10, .ref 11, .ref 12, .ref 13, .ref 14, .ref 1], vm := .statics 6 },
  { cls := 12, slots := #[.ref 2, .ref 3, .ref 4, .ref 5, .ref 6, .ref 7, .ref 8, .ref 9, .ref 10, .ref 11, .ref 12, .ref 13, .ref 14], vm := .none },
  { cls := 6, slots := #[.null, .int 0, .int 0, .int 1, .int 0], vm := .none },
  { cls := 6, slots := #[.null, .int 1, .int 0, .int 2, .int 0], vm := .none },
  { cls := 6, slots := #[.null, .int 2, .int 0, .int 12, .int 0], vm := .none },
  { cls := 6, slots := #[.null, .int 3, .int 0, .int 13, .int 0], vm := .none },
  { cls := 6, slots := #[.null, .int 4, .int 0, .int 3, .int 0], vm := .none },
  { cls := 6, slots := #[.null, .int 5, .int 0, .int 4, .int 0], vm := .none },
  { cls := 6, slots := #[.null, .int 6, .int 0, .int 5, .int 0], vm := .none },
  { cls := 6, slots := #[.null, .int 7, .int 0, .int 6, .int 0], vm := .none },
  { cls := 6, slots := #[.null, .int 8, .int 0, .int 7, .int 0], vm := .none },
  { cls := 6, slots := #[.null, .int 9, .int 0, .int 8, .int 0], vm := .none },
  { cls := 6, slots := #[.null, .int 10, .int 0, .int 9, .int 0], vm := .none },
  { cls := 6, slots := #[.null, .int 11, .int 0, .int 10, .int 0], vm := .none },
  { cls := 6, slots := #[.null, .int 12, .int 0, .int 11, .int 0], vm := .none }]
def classes : Array Class := #[k0, k1, k2, k3, k4, k5, k6, k7, k8, k9, k10, k11, k12]
def interned : List (Array UInt16 × Addr) := []
def slotsUsed : Nat := 92
def theMethod : MethodId := ⟨1, 1⟩
def args0 : Array Value := #[.int 5]
def aboutOver (below : List Frame) : State where
  vm := { classes := classes, interned := interned.toArray }
  heap := heap
  slotsUsed := slotsUsed
  threads := #[{ frames := .invoking theMethod args0 :: below }]
def below0 : List Frame := [.native { method := ⟨0, 0⟩, args := #[] }]
def about1 : State := aboutOver below0
def p0 : Program := .bare "" "" ""
def e0 : Env := launch0.env 0 0 0
theorem w_frames : about1.frames = Frame.invoking theMethod args0 :: below0 := rfl
set_option maxRecDepth 65536 in
theorem w_args : argsFit about1.vm theMethod args0 = true := by decide +kernel
set_option maxRecDepth 65536 in
theorem w_heap : heapFits about1 = true := by decide +kernel
set_option maxRecDepth 65536 in
theorem w_runnable : about1.curStatus? = some .runnable := by decide +kernel
set_option maxRecDepth 65536 in
theorem w_alone : about1.alone = true := by decide +kernel
set_option maxRecDepth 65536 in
theorem w_named : about1.methodNamed? x = some theMethod := by decide +kernel
set_option maxRecDepth 65536 in
theorem w_hears : about1.hears theMethod below0 = true := by decide +kernel
set_option maxRecDepth 65536 in
theorem w_ripe : about1.ripe theMethod args0 below0 = true := by decide +kernel
theorem w_running : about1.status = .running := rfl
set_option maxRecDepth 65536 in
theorem w_room : about1.hasRoom e0.platform room_1 = true :=
  launch0.hasRoom_least _ room_1 (by decide +kernel) (by decide +kernel) (by decide +kernel) (by decide +kernel) (by decide +kernel) (by decide +kernel)
theorem allAtoms_all (ts : List Jvm.Cond) (a : Array Jvm.Value) (st : Jvm.State) : (allAtoms ts).before a st = ts.all (fun c => c.before a st) := by
  induction ts with
  | nil => rfl
  | cons c t ih =>
    show (Jvm.Cond.and c (allAtoms t)).before a st = _
    rw [Jvm.Cond.before_and, ih, List.all_cons]
def words1 : List Jvm.Cond := Jvm.Cond.code x code maxLocals ret :: tables_1
/-- a 'code' word, met by the world's own term for the bytes: nothing is compared byte by byte -/
theorem code_word {y : MethodName} {bytes : ByteArray} {mx : Nat} {rt : Option FieldType} {a : Array Value} {s : State} {m : MethodId} {meth : Method} {c : Code} (h1 : s.methodNamed? y = some m) (h2 : s.vm.method? m = some meth) (h3 : meth.code = some c) (h4 : c.code = bytes)
    (h5 : (c.maxLocals == mx && c.exceptionTable.isEmpty && decide (c.maxStack ≤ mostOperands) && decide (meth.sig.returnType = rt) && !meth.locks && decide (parseMethodDescriptor y.desc = some meth.sig)) = true) : (Jvm.Cond.code y bytes mx rt).before a s = true := by
  simp only [Bool.and_eq_true, beq_iff_eq, Bool.not_eq_true', decide_eq_true_eq] at h5
  obtain ⟨⟨⟨⟨⟨g1, g2⟩, g3⟩, g4⟩, g5⟩, g6⟩ := h5
  simp [Cond.before, Cond.holds, Cond.value, h1, h2, h3, h4, g1, g2, g3, g4, g5, g6]
def isCode : Jvm.Cond → Bool
  | .code _ _ _ _ => true
  | _ => false
theorem all_split {L : List Jvm.Cond} {P : Jvm.Cond → Bool} (h1 : L.all (fun c => isCode c || P c) = true) (h2 : ∀ c ∈ L.filter isCode, P c = true) : L.all P = true := by
  refine List.all_eq_true.mpr fun c hc => ?_
  have h := List.all_eq_true.mp h1 c hc
  rcases Bool.eq_false_or_eq_true (isCode c) with hi | hi
  · exact h2 c (List.mem_filter.mpr ⟨hc, hi⟩)
  · simpa [hi] using h
set_option maxRecDepth 65536 in
theorem w_c0 : (Jvm.Cond.code x code maxLocals ret).before args0 about1 = true := code_word (m := ⟨1, 1⟩) (meth := k1m1) (c := k1c1) (by decide +kernel) rfl rfl rfl (by decide +kernel)
set_option maxRecDepth 65536 in
theorem w_c1 : (Jvm.Cond.code ({ cls := "com/example/afterimage/afterimage/log/LogRecord$Type", name := "of", desc := "(B)Lcom/example/afterimage/afterimage/log/LogRecord$Type;" } : Jvm.MethodName) prog_39_method_5_code (5 : Nat) (Option.some (Jvm.ClassFile.FieldType.object "com/example/afterimage/afterimage/log/LogRecord$Type"))).before args0 about1 = true := code_word (m := ⟨6, 1⟩) (meth := k6m1) (c := k6c1) (by decide +kernel) rfl rfl rfl (by decide +kernel)
set_option maxRecDepth 65536 in
theorem w_c2 : (Jvm.Cond.code ({ cls := "com/example/afterimage/afterimage/log/LogRecord$Type", name := "values", desc := "()[Lcom/example/afterimage/afterimage/log/LogRecord$Type;" } : Jvm.MethodName) prog_39_method_1_code (0 : Nat) (Option.some (Jvm.ClassFile.FieldType.array (Jvm.ClassFile.FieldType.object "com/example/afterimage/afterimage/log/LogRecord$Type")))).before args0 about1 = true := code_word (m := ⟨6, 0⟩) (meth := k6m0) (c := k6c0) (by decide +kernel) rfl rfl rfl (by decide +kernel)
set_option maxRecDepth 65536 in
theorem w_c3 : (Jvm.Cond.code ({ cls := "com/example/afterimage/afterimage/log/TypeOfPinLaw", name := "expected", desc := "(I)Lcom/example/afterimage/afterimage/log/LogRecord$Type;" } : Jvm.MethodName) method_3_code (1 : Nat) (Option.some (Jvm.ClassFile.FieldType.object "com/example/afterimage/afterimage/log/LogRecord$Type"))).before args0 about1 = true := code_word (m := ⟨1, 2⟩) (meth := k1m2) (c := k1c2) (by decide +kernel) rfl rfl rfl (by decide +kernel)
def codes1 : List Jvm.Cond := [Jvm.Cond.code x code maxLocals ret, Jvm.Cond.code ({ cls := "com/example/afterimage/afterimage/log/LogRecord$Type", name := "of", desc := "(B)Lcom/example/afterimage/afterimage/log/LogRecord$Type;" } : Jvm.MethodName) prog_39_method_5_code (5 : Nat) (Option.some (Jvm.ClassFile.FieldType.object "com/example/afterimage/afterimage/log/LogRecord$Type")), Jvm.Cond.code ({ cls := "com/example/afterimage/afterimage/log/LogRecord$Type", name := "values", desc := "()[Lcom/example/afterimage/afterimage/log/LogRecord$Type;" } : Jvm.MethodName) prog_39_method_1_code (0 : Nat) (Option.some (Jvm.ClassFile.FieldType.array (Jvm.ClassFile.FieldType.object "com/example/afterimage/afterimage/log/LogRecord$Type"))), Jvm.Cond.code ({ cls := "com/example/afterimage/afterimage/log/TypeOfPinLaw", name := "expected", desc := "(I)Lcom/example/afterimage/afterimage/log/LogRecord$Type;" } : Jvm.MethodName) method_3_code (1 : Nat) (Option.some (Jvm.ClassFile.FieldType.object "com/example/afterimage/afterimage/log/LogRecord$Type"))]
set_option maxRecDepth 65536 in
theorem codes_eq : words1.filter isCode = codes1 := rfl
theorem w_codes : ∀ c ∈ words1.filter isCode, c.before args0 about1 = true := by
  rw [codes_eq]
  intro c hc
  simp only [codes1, List.mem_cons, List.not_mem_nil, or_false] at hc
  rcases hc with rfl | rfl | rfl | rfl
  · exact w_c0
  · exact w_c1
  · exact w_c2
  · exact w_c3
set_option maxRecDepth 65536 in
theorem w_t1 : (words1.take 24).all (fun c => isCode c || c.before args0 about1) = true := by decide +kernel
set_option maxRecDepth 65536 in
theorem w_t2 : ((words1.drop 24).take 24).all (fun c => isCode c || c.before args0 about1) = true := by decide +kernel
set_option maxRecDepth 65536 in
theorem w_t3 : ((words1.drop 24).drop 24).all (fun c => isCode c || c.before args0 about1) = true := by decide +kernel
theorem w_tables : (allAtoms (Jvm.Cond.code x code maxLocals ret :: tables_1)).before args0 about1 = true := by
  rw [allAtoms_all]
  show words1.all (fun c => c.before args0 about1) = true
  refine all_split ?_ w_codes
  rw [← List.take_append_drop 24 words1, List.all_append, w_t1, ← List.take_append_drop 24 (words1.drop 24), List.all_append, w_t2, w_t3]
  rfl
set_option maxRecDepth 65536 in
theorem w_case : (Jvm.Cond.and given_1 narrow_1).before args0 about1 = true := by decide +kernel
theorem w_applies : (headSpec (Jvm.Cond.code x code maxLocals ret :: tables_1) room_1).applies x e0.platform about1 = true :=
  (Spec.applies_iff w_frames).mpr ⟨w_running, w_runnable, w_alone, w_named, w_hears, w_ripe, w_room, w_tables⟩
theorem atStart : AtStart classFile x code maxLocals ret World_1 tables_1 room_1 Calls_1 rest_1 Pre_1 launch0 p0 e0 about1 theMethod args0 below0 :=
  ⟨lists_1, trivial, launch0.admits_env _ _ _, launch0.least_env, fairChoices_fair.cas, fairChoices_fair.clock, w_frames, w_args, w_heap, w_applies, trivial, trivial, w_case⟩
end start1
theorem witness_1 : WitnessClaimed_1 := ⟨start1.p0, start1.e0, start1.about1, start1.theMethod, start1.args0, start1.below0, start1.atStart⟩
end Jvm.Pilot.@@N@@
