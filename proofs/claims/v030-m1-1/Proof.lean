import JvmDerived
import JvmDerived.Pilot.@@N@@Statement
import JvmDerived.Pilot.@@N@@Code
set_option linter.unusedVariables false
set_option linter.unusedSimpArgs false
namespace Jvm.RoadKit
open Sem ClassFile Op Lib Jvm.Stand Jvm.Free Jvm.LawKit
section New
variable {p : Program} {l : Launch} {e : Env} {R : Room} {s : State} {m : MethodId} {args : Array Value} {below : List Frame} {meth : Method} {c : Code} {T : State} {locs : List Loc} {cells slots : Nat}
theorem retI (X : Stand p l e R s m args below meth c T locs cells slots) (hx : p.tables.exec = Jvm.exec) {pc : Nat} {Ls : Array Slot} {z : Int32} {rest : List Value} (hret : meth.sig.returnType = some .int) (hd : decode c.code pc = .ok (.ireturn, 1)) {fs : List Frame}
    (hl : ∀ (f : JFrame) (acts : List Action), f.method = m → f.locked = none → f.entered = [] → (doReturn e (T.setTop f) acts (some (.int z))).1 = T.setFrames fs) : Steps p.tables e below (T.setTop (mkF m pc Ls (.int z :: rest))) (T.setFrames fs) := by
  have hm' : T.vm.method? m = some meth := X.method'
  have hn : narrow .int (.int z) = .int z := rfl
  show Steps p.tables e below (T.setTop { method := m, pc := pc, locals := Ls, stack := _ :: rest, locked := none }) _
  jvm_step X.here [X.here.top, hx, hd, hm', hret, hn]
  first | (intro acts; rw [hl _ acts rfl rfl rfl]) | rw [hl _ _ rfl rfl rfl]
  exact Steps.refl _
end New
end Jvm.RoadKit
namespace Jvm.Pilot.@@N@@
open Jvm Jvm.ClassFile Sem Op Lib Jvm.Free Jvm.Stand Jvm.LawKit Jvm.RoadKit Bundle Jvm.Pilot.@@N@@.Jvm.D
theorem own_lc_lt (x y : Int64) : lcmpW x y < 0 ↔ x < y := by rw [lcW]; exact lc_lt x y
theorem own_lc_gt (x y : Int64) : 0 < lcmpW x y ↔ y < x := by rw [lcW]; exact lc_gt x y
theorem own_lc_eq (x y : Int64) : lcmpW x y = 0 ↔ x = y := by rw [lcW]; exact lc_eq x y
theorem own_ri {P : Prop} [Decidable P] {a b : Value} (h1 : a.isRef = true) (h2 : b.isRef = true) : (if P then a else b).isRef = true := by
  by_cases h : P
  · rw [if_pos h]; exact h1
  · rw [if_neg h]; exact h2
theorem own_sta_keep {Z : State} {h h' : Heap} {C n d : String} {w : Value} {ws : List Addr} (F : Sta Z h C n d w) (K : Keep h h' ws) (q : ∀ x ∈ ws, ∀ cell : Cell, h[x]? = some cell → cell.vm.isStatics = false) : Sta Z h' C n d w := by
  obtain ⟨cf, i, k, f, st, cell, h1, h2, h3, h4, h5, h6, h7⟩ := F
  exact ⟨cf, i, k, f, st, cell, h1, h2, h3, h4, K.2.1 st cell h5 (fun z => by rw [q st z cell h5] at h6; cases h6), h6, h7⟩
theorem pd_0 : parseMethodDescriptor "(J)Lcom/example/rillstream/rillstream/mysql/StatementTokens$Quoting;" = some ⟨[.long], some (.object "com/example/rillstream/rillstream/mysql/StatementTokens$Quoting")⟩ := by decide +kernel
theorem pd_1 : parseMethodDescriptor "(ZZ)V" = some ⟨[.boolean, .boolean], none⟩ := by decide +kernel
theorem pd_2 : parseMethodDescriptor "()V" = some ⟨[], none⟩ := by decide +kernel
theorem pd_3 : parseMethodDescriptor "()Z" = some ⟨[], some .boolean⟩ := by decide +kernel
theorem own_and2 (w m : Int64) (k : Nat) (hk : k < 64) (hm : m.toBitVec = BitVec.twoPow 64 k) : (w &&& m) = 0 ↔ w.toBitVec.getLsbD k = false := by
  rw [← Int64.toBitVec_inj, Int64.toBitVec_and, hm, BitVec.and_twoPow]
  show _ = 0#64 ↔ _
  cases h : w.toBitVec.getLsbD k
  · simp
  · simp only [if_true]
    constructor
    · intro q
      have := congrArg (fun b => b.getLsbD k) q
      simp [hk] at this
    · intro q; cases q
theorem own_ushr (x : Int64) (q : Int32) (k : Nat) (hk : q.toBitVec.toNat % 64 = k) : ((x.toUInt64 >>> (q &&& 0x3f).toInt64.toUInt64).toInt64).toBitVec = x.toBitVec >>> k := by
  show x.toBitVec >>> ((q &&& 0x3f).toInt64.toBitVec % 64) = _
  have h5 := (sm64 q k hk).2
  rw [BitVec.ushiftRight_eq', BitVec.toNat_umod, (sm64 q k hk).1, BitVec.toNat_ofNat]
  congr 1
  show k % 2 ^ 64 % 64 = k
  omega
theorem own_bit1 (w : Int64) (q : Int32) (k : Nat) (hk : q.toBitVec.toNat % 64 = k) : (((w.toUInt64 >>> (q &&& 0x3f).toInt64.toUInt64).toInt64) &&& (1 : Int64)) = 1 ↔ ¬ w.toBitVec.getLsbD k = false := by
  rw [← Int64.toBitVec_inj, Int64.toBitVec_and, own_ushr _ q k hk]
  show (w.toBitVec >>> k) &&& 1#64 = 1#64 ↔ _
  rw [show 1#64 = BitVec.twoPow 64 0 from rfl, BitVec.and_twoPow, BitVec.getLsbD_ushiftRight, Nat.add_zero]
  cases h : w.toBitVec.getLsbD k
  · simp; decide
  · simp
theorem own_nn {P : Prop} [Decidable P] : nar .boolean (nar .boolean (if P then (0 : Int32) else (1 : Int32))) = (if P then (0 : Int32) else (1 : Int32)) := by split <;> rfl
theorem own_nn' {P : Prop} [Decidable P] : nar .boolean (nar .boolean (if P then (1 : Int32) else (0 : Int32))) = (if P then (1 : Int32) else (0 : Int32)) := by split <;> rfl
theorem d3_0 : decode jdk_30_method_1_code 0 = .ok (.aload_n 0, 1) := by decide +kernel
theorem d3_1 : decode jdk_30_method_1_code 1 = .ok (.invokespecial 1, 3) := by decide +kernel
theorem d3_4 : decode jdk_30_method_1_code 4 = .ok (.return_, 1) := by decide +kernel
theorem pn_0 : plainName "java/lang/Record" = true := by first | (simp [plainName, overriddenIn]; done) | decide +kernel
theorem ef_rm3 (m : MethodId) (x0 : Addr) : entryFrame m #[(.ref x0)] 1 = mkF m 0 #[.val (.ref x0)] [] := by first | (simp [entryFrame, mkF, argsToLocals, Value.category]; done) | rfl
def Q_rm3 (Z : State) (r0 : Addr) (h0 : Heap) (n0 : Nat) (v : Option Value) (h : Heap) (L : List Loc) : Prop := v = none ∧ Fr n0 L ∧ h = h0
set_option maxRecDepth 65536 in
set_option maxHeartbeats 40000000 in
theorem rm3 (l : Launch) (Z : State) (a0 : Array Value) (hw : ∀ d ∈ tables_1, d.before a0 Z = true) (ws : List Jvm.Cond) (r0 : Addr) (h0 : Heap) (n0 : Nat) (Z0 : n0 ≤ h0.size) :
    MetFree l (⟨"java/lang/Record", "<init>", "()V"⟩ : MethodName) (head1 (Jvm.Cond.code (⟨"java/lang/Record", "<init>", "()V"⟩ : MethodName) jdk_30_method_1_code 1 none :: ws) ({ frames := 1, cells := 0, slots := 0, locals := 12 } : Room)) (fun a U => a = #[(.ref r0)] ∧ Z.Warmed39 U.vm ∧ U.heap = h0) (fun _ _ _ _ _ => True) (fun _ U o U' => ∃ v L, o = .returned v ∧ Q_rm3 Z r0 h0 n0 v U'.heap L ∧ FrameEnd U o U' L ({ frames := 1, cells := 0, slots := 0, locals := 12 } : Room).cells ({ frames := 1, cells := 0, slots := 0, locals := 12 } : Room).slots) := by
  refine MetFree.of_bodySF (plainFor_of_name pn_0) hisR ?_
  intro p e s m args below meth c s₁ Bd hml0 hP hK
  obtain ⟨rfl, hZ, hh⟩ := hP
  have hx := Bd.exec
  have hby := Bd.bytes
  have hml : c.maxLocals = 1 := hml0
  have hown : s.vm.findClass "java/lang/Record" = some m.cls := findClass_of_methodNamed Bd.named
  have hnm := (name_of_methodNamed Bd.named Bd.method).1
  have X0 : Stand p l e ({ frames := 1, cells := 0, slots := 0, locals := 12 } : Room) s m #[(.ref r0)] below meth c s₁ [] 0 0 := Stand.of_body Bd
  have e0 : s₁.heap = h0 := by rw [← hh, Bd.state]; rfl
  have N0 := Fr.nil n0
  have pre0 : ∀ t, Steps p.tables e below (s₁.setTop (mkF m 0 #[.val (.ref r0)] [])) t → Steps p.tables e below (s₁.setTop (entryFrame m #[(.ref r0)] 1)) t := fun t k => castTop (ef_rm3 m r0) k
  have st1 : ∀ target, Steps p.tables e below (s₁.setTop (mkF m 1 #[.val (.ref r0)] [(.ref r0)])) target → Steps p.tables e below (s₁.setTop (mkF m 0 #[.val (.ref r0)] [])) target := by
    intro target kt
    show Steps p.tables e below (s₁.setTop (mkF m 0 #[.val (.ref r0)] [])) _
    refine XS.aloadN X0.here hx rfl (hb hby d3_0) rfl rfl ?_
    exact kt
  obtain ⟨T2, X2, e2, st2⟩ := initO X0 hx hZ hown (hw _ (List.mem_of_getElem? (i := 16) rfl)) (hw _ (List.mem_of_getElem? (i := 17) rfl)) (hw _ (List.mem_of_getElem? (i := 18) rfl)) e0 (g := (mkF m 1 #[.val (.ref r0)] [(.ref r0)])) rfl (by rw [hml]; rfl) rfl (hb hby d3_1) (by decide) (W := 0) (by show 2 * 0 + _ ≤ _; exact Nat.le_of_eq rfl) (by decide)
  obtain ⟨fs, hr, hrun, hended, hW, hsame⟩ := X2.leave (v := none) (fun _ => rfl)
  refine ⟨_, _, pre0 _ (st1 _ (st2 _ ?_)), hrun, hended, _, _, rfl, ?_, ⟨_, rfl⟩, hW, hsame.mono (by decide) (by decide)⟩
  · show Steps p.tables e below (T2.setTop (mkF m 4 #[.val (.ref r0)] [])) _
    exact X2.returnOut hx Bd.returns (hb hby d3_4) hr
  · show Q_rm3 Z r0 h0 n0 _ T2.heap _
    rw [e2]
    exact ⟨rfl, N0, rfl⟩
theorem d2_0 : decode prog_14_method_1_code 0 = .ok (.aload_n 0, 1) := by decide +kernel
theorem d2_1 : decode prog_14_method_1_code 1 = .ok (.invokespecial 1, 3) := by decide +kernel
theorem d2_4 : decode prog_14_method_1_code 4 = .ok (.aload_n 0, 1) := by decide +kernel
theorem d2_5 : decode prog_14_method_1_code 5 = .ok (.iload_n 1, 1) := by decide +kernel
theorem d2_6 : decode prog_14_method_1_code 6 = .ok (.putfield 7, 3) := by decide +kernel
theorem d2_9 : decode prog_14_method_1_code 9 = .ok (.aload_n 0, 1) := by decide +kernel
theorem d2_10 : decode prog_14_method_1_code 10 = .ok (.iload_n 2, 1) := by decide +kernel
theorem d2_11 : decode prog_14_method_1_code 11 = .ok (.putfield 13, 3) := by decide +kernel
theorem d2_14 : decode prog_14_method_1_code 14 = .ok (.return_, 1) := by decide +kernel
theorem pn_1 : plainName "com/example/rillstream/rillstream/mysql/StatementTokens$Quoting" = true := by first | (simp [plainName, overriddenIn]; done) | decide +kernel
theorem ef_rm2 (m : MethodId) (x0 : Addr) (x1 : Int32) (x2 : Int32) : entryFrame m #[(.ref x0), (.int x1), (.int x2)] 3 = mkF m 0 #[.val (.ref x0), .val (.int x1), .val (.int x2)] [] := by first | (simp [entryFrame, mkF, argsToLocals, Value.category]; done) | rfl
def Q_rm2 (Z : State) (r0 : Addr) (p1 : Int32) (p2 : Int32) (h0 : Heap) (n0 : Nat) (v : Option Value) (h : Heap) (L : List Loc) : Prop := v = none ∧ Fr n0 L ∧ Keep h0 h [r0] ∧ Exa Z h r0 "com/example/rillstream/rillstream/mysql/StatementTokens$Quoting" ∧ Fld Z h r0 "com/example/rillstream/rillstream/mysql/StatementTokens$Quoting" "ansiQuotes" "Z" (.int (nar .boolean p1)) ∧ Fld Z h r0 "com/example/rillstream/rillstream/mysql/StatementTokens$Quoting" "backslashEscapes" "Z" (.int (nar .boolean p2))
set_option maxRecDepth 65536 in
set_option maxHeartbeats 40000000 in
theorem rm2 (l : Launch) (Z : State) (a0 : Array Value) (hw : ∀ d ∈ tables_1, d.before a0 Z = true) (ws : List Jvm.Cond) (r0 : Addr) (p1 : Int32) (p2 : Int32) (h0 : Heap) (n0 : Nat) (Z0 : n0 ≤ h0.size) (F_a : Fld Z h0 r0 "com/example/rillstream/rillstream/mysql/StatementTokens$Quoting" "ansiQuotes" "Z" (.int (0 : Int32))) (F_b : Fld Z h0 r0 "com/example/rillstream/rillstream/mysql/StatementTokens$Quoting" "backslashEscapes" "Z" (.int (0 : Int32))) (E_o : Exa Z h0 r0 "com/example/rillstream/rillstream/mysql/StatementTokens$Quoting") (g_r0 : n0 ≤ r0) :
    MetFree l (⟨"com/example/rillstream/rillstream/mysql/StatementTokens$Quoting", "<init>", "(ZZ)V"⟩ : MethodName) (head1 (Jvm.Cond.code (⟨"com/example/rillstream/rillstream/mysql/StatementTokens$Quoting", "<init>", "(ZZ)V"⟩ : MethodName) prog_14_method_1_code 3 none :: ws) ({ frames := 2, cells := 0, slots := 0, locals := 24 } : Room)) (fun a U => a = #[(.ref r0), (.int p1), (.int p2)] ∧ Z.Warmed39 U.vm ∧ U.heap = h0) (fun _ _ _ _ _ => True) (fun _ U o U' => ∃ v L, o = .returned v ∧ Q_rm2 Z r0 p1 p2 h0 n0 v U'.heap L ∧ FrameEnd U o U' L ({ frames := 2, cells := 0, slots := 0, locals := 24 } : Room).cells ({ frames := 2, cells := 0, slots := 0, locals := 24 } : Room).slots) := by
  refine MetFree.of_bodySF (plainFor_of_name pn_1) hisR ?_
  intro p e s m args below meth c s₁ Bd hml0 hP hK
  obtain ⟨rfl, hZ, hh⟩ := hP
  have hx := Bd.exec
  have hby := Bd.bytes
  have hml : c.maxLocals = 3 := hml0
  have hown : s.vm.findClass "com/example/rillstream/rillstream/mysql/StatementTokens$Quoting" = some m.cls := findClass_of_methodNamed Bd.named
  have hnm := (name_of_methodNamed Bd.named Bd.method).1
  have X0 : Stand p l e ({ frames := 2, cells := 0, slots := 0, locals := 24 } : Room) s m #[(.ref r0), (.int p1), (.int p2)] below meth c s₁ [] 0 0 := Stand.of_body Bd
  have e0 : s₁.heap = h0 := by rw [← hh, Bd.state]; rfl
  have N0 := Fr.nil n0
  have pre0 : ∀ t, Steps p.tables e below (s₁.setTop (mkF m 0 #[.val (.ref r0), .val (.int p1), .val (.int p2)] [])) t → Steps p.tables e below (s₁.setTop (entryFrame m #[(.ref r0), (.int p1), (.int p2)] 3)) t := fun t k => castTop (ef_rm2 m r0 p1 p2) k
  have Kp : Keep h0 h0 [r0] := Keep.refl _ _
  have st1 : ∀ target, Steps p.tables e below (s₁.setTop (mkF m 1 #[.val (.ref r0), .val (.int p1), .val (.int p2)] [(.ref r0)])) target → Steps p.tables e below (s₁.setTop (mkF m 0 #[.val (.ref r0), .val (.int p1), .val (.int p2)] [])) target := by
    intro target kt
    show Steps p.tables e below (s₁.setTop (mkF m 0 #[.val (.ref r0), .val (.int p1), .val (.int p2)] [])) _
    refine XS.aloadN X0.here hx rfl (hb hby d2_0) rfl rfl ?_
    exact kt
  obtain ⟨_, _, ⟨T2, L2, k2, n2⟩, -, X2, ⟨Lc2, hQ2, l2, y2, z2⟩, st2⟩ := X0.specialBack hx (y := (⟨"java/lang/Record", "<init>", "()V"⟩ : MethodName)) rfl hown (mvT hZ (hw _ (List.mem_of_getElem? (i := 11) rfl))) (mvT hZ (hw _ (List.mem_of_getElem? (i := 12) rfl))) (mvT hZ (hw _ (List.mem_of_getElem? (i := 15) rfl))) (by decide) (backOf (W := 0) (rm3 l Z a0 hw [] r0  h0 n0 Z0 ) hZ (hw _ (List.mem_of_getElem? (i := 15) rfl)) (hw _ (List.mem_of_getElem? (i := 14) rfl)) (by decide) (by decide)) (g := (mkF m 1 #[.val (.ref r0), .val (.int p1), .val (.int p2)] [(.ref r0)])) rfl (by rw [hml]; rfl) (Steps.refl _) (a := r0) (argsL := []) (rest := []) (lenOf pd_2 rfl) rfl (by show 2 * 0 + _ ≤ _; exact Nat.le_of_eq rfl) (hb hby d2_1) (fun _ _ => ⟨rfl, e0, (by decide : 0 + 0 ≤ _), (by decide : 0 + 0 ≤ _)⟩)
  dsimp only [Pt.U, Pt.locs, Pt.cells, Pt.slots] at X2 l2 y2 z2 st2 hQ2
  subst l2 y2 z2
  obtain ⟨rfl, Nq2, e2⟩ := hQ2
  have N2 := Fr.app N0 Nq2
  have st3 : ∀ target, Steps p.tables e below (T2.setTop (mkF m 6 #[.val (.ref r0), .val (.int p1), .val (.int p2)] [(.int p1), (.ref r0)])) target → Steps p.tables e below (T2.setTop (mkF m 4 #[.val (.ref r0), .val (.int p1), .val (.int p2)] [])) target := by
    intro target kt
    show Steps p.tables e below (T2.setTop (mkF m 4 #[.val (.ref r0), .val (.int p1), .val (.int p2)] [])) _
    refine XS.aloadN X2.here hx rfl (hb hby d2_4) rfl rfl ?_
    show Steps p.tables e below (T2.setTop (mkF m 5 #[.val (.ref r0), .val (.int p1), .val (.int p2)] [(.ref r0)])) _
    refine XS.iloadN X2.here hx rfl (hb hby d2_5) rfl ?_
    exact kt
  obtain ⟨T4, h4, X4, e4, W4, st4⟩ := putFN X2 hx hZ hown (hw _ (List.mem_of_getElem? (i := 19) rfl)) Via.refl e2 F_a E_o (Or.inr ⟨(hw _ (List.mem_of_getElem? (i := 20) rfl)), rfl, hnm⟩) (hw _ (List.mem_of_getElem? (i := 5) rfl)) (ty := .boolean) (v' := (.int (nar .boolean p1))) (by decide) rfl (fits_nar_bool _) (g := (mkF m 6 #[.val (.ref r0), .val (.int p1), .val (.int p2)] [(.int p1), (.ref r0)])) rfl rfl (hb hby d2_6)
  have F_ansiQuotes_r0_4 : Fld Z h4 r0 "com/example/rillstream/rillstream/mysql/StatementTokens$Quoting" "ansiQuotes" "Z" (.int (nar .boolean p1)) := F_a.same W4
  have E_o_4 := E_o.wr W4
  have F_b_4 := F_b.other W4 (Or.inr (slot_ne (Or.inr (hw _ (List.mem_of_getElem? (i := 22) rfl))) (Or.inr (hw _ (List.mem_of_getElem? (i := 20) rfl))) (by decide) (t := .boolean) (t' := .boolean) (by decide) (by decide)))
  have Z_4 : n0 ≤ h4.size := Nat.le_trans Z0 (Keep.of_wr W4).1
  have Kp_4 : Keep h0 h4 [r0] := Kp.wr W4 (Or.inl (List.mem_of_getElem? (i := 0) rfl))
  have N4 := Fr.snoc X4 N2 g_r0
  have st5 : ∀ target, Steps p.tables e below (T4.setTop (mkF m 11 #[.val (.ref r0), .val (.int p1), .val (.int p2)] [(.int p2), (.ref r0)])) target → Steps p.tables e below (T4.setTop (mkF m 9 #[.val (.ref r0), .val (.int p1), .val (.int p2)] [])) target := by
    intro target kt
    show Steps p.tables e below (T4.setTop (mkF m 9 #[.val (.ref r0), .val (.int p1), .val (.int p2)] [])) _
    refine XS.aloadN X4.here hx rfl (hb hby d2_9) rfl rfl ?_
    show Steps p.tables e below (T4.setTop (mkF m 10 #[.val (.ref r0), .val (.int p1), .val (.int p2)] [(.ref r0)])) _
    refine XS.iloadN X4.here hx rfl (hb hby d2_10) rfl ?_
    exact kt
  obtain ⟨T6, h6, X6, e6, W6, st6⟩ := putFN X4 hx hZ hown (hw _ (List.mem_of_getElem? (i := 21) rfl)) Via.refl e4 F_b_4 E_o_4 (Or.inr ⟨(hw _ (List.mem_of_getElem? (i := 22) rfl)), rfl, hnm⟩) (hw _ (List.mem_of_getElem? (i := 5) rfl)) (ty := .boolean) (v' := (.int (nar .boolean p2))) (by decide) rfl (fits_nar_bool _) (g := (mkF m 11 #[.val (.ref r0), .val (.int p1), .val (.int p2)] [(.int p2), (.ref r0)])) rfl rfl (hb hby d2_11)
  have F_backslashEscapes_r0_6 : Fld Z h6 r0 "com/example/rillstream/rillstream/mysql/StatementTokens$Quoting" "backslashEscapes" "Z" (.int (nar .boolean p2)) := F_b_4.same W6
  have E_o_6 := E_o_4.wr W6
  have F_ansiQuotes_r0_6 := F_ansiQuotes_r0_4.other W6 (Or.inr (slot_ne (Or.inr (hw _ (List.mem_of_getElem? (i := 20) rfl))) (Or.inr (hw _ (List.mem_of_getElem? (i := 22) rfl))) (by decide) (t := .boolean) (t' := .boolean) (by decide) (by decide)))
  have Z_6 : n0 ≤ h6.size := Nat.le_trans Z_4 (Keep.of_wr W6).1
  have Kp_6 : Keep h0 h6 [r0] := Kp_4.wr W6 (Or.inl (List.mem_of_getElem? (i := 0) rfl))
  have N6 := Fr.snoc X6 N4 g_r0
  obtain ⟨fs, hr, hrun, hended, hW, hsame⟩ := X6.leave (v := none) (fun _ => rfl)
  refine ⟨_, _, pre0 _ (st1 _ (st2.trans (st3 _ (st4 _ (st5 _ (st6 _ ?_)))))), hrun, hended, _, _, rfl, ?_, ⟨_, rfl⟩, hW, hsame.mono (by decide) (by decide)⟩
  · show Steps p.tables e below (T6.setTop (mkF m 14 #[.val (.ref r0), .val (.int p1), .val (.int p2)] [])) _
    exact X6.returnOut hx Bd.returns (hb hby d2_14) hr
  · show Q_rm2 Z r0 p1 p2 h0 n0 _ T6.heap _
    rw [e6]
    exact ⟨rfl, N6, Kp_6, E_o_6, F_ansiQuotes_r0_6, F_backslashEscapes_r0_6⟩
theorem d1_0 : decode prog_14_method_2_code 0 = .ok (.new 8, 3) := by decide +kernel
theorem d1_3 : decode prog_14_method_2_code 3 = .ok (.dup, 1) := by decide +kernel
theorem d1_4 : decode prog_14_method_2_code 4 = .ok (.lload_n 0, 1) := by decide +kernel
theorem d1_5 : decode prog_14_method_2_code 5 = .ok (.ldc2_w 16, 3) := by decide +kernel
theorem d1_8 : decode prog_14_method_2_code 8 = .ok (.land, 1) := by decide +kernel
theorem d1_9 : decode prog_14_method_2_code 9 = .ok (.lconst 0, 1) := by decide +kernel
theorem d1_10 : decode prog_14_method_2_code 10 = .ok (.lcmp, 1) := by decide +kernel
theorem d1_11 : decode prog_14_method_2_code 11 = .ok (.ifCond .eq 7, 3) := by decide +kernel
theorem d1_14 : decode prog_14_method_2_code 14 = .ok (.iconst 1, 1) := by decide +kernel
theorem d1_15 : decode prog_14_method_2_code 15 = .ok (.goto 4, 3) := by decide +kernel
theorem d1_18 : decode prog_14_method_2_code 18 = .ok (.iconst 0, 1) := by decide +kernel
theorem d1_19 : decode prog_14_method_2_code 19 = .ok (.lload_n 0, 1) := by decide +kernel
theorem d1_20 : decode prog_14_method_2_code 20 = .ok (.ldc2_w 18, 3) := by decide +kernel
theorem d1_23 : decode prog_14_method_2_code 23 = .ok (.land, 1) := by decide +kernel
theorem d1_24 : decode prog_14_method_2_code 24 = .ok (.lconst 0, 1) := by decide +kernel
theorem d1_25 : decode prog_14_method_2_code 25 = .ok (.lcmp, 1) := by decide +kernel
theorem d1_26 : decode prog_14_method_2_code 26 = .ok (.ifCond .ne 7, 3) := by decide +kernel
theorem d1_29 : decode prog_14_method_2_code 29 = .ok (.iconst 1, 1) := by decide +kernel
theorem d1_30 : decode prog_14_method_2_code 30 = .ok (.goto 4, 3) := by decide +kernel
theorem d1_33 : decode prog_14_method_2_code 33 = .ok (.iconst 0, 1) := by decide +kernel
theorem d1_34 : decode prog_14_method_2_code 34 = .ok (.invokespecial 20, 3) := by decide +kernel
theorem d1_37 : decode prog_14_method_2_code 37 = .ok (.areturn, 1) := by decide +kernel
theorem ef_rm1 (m : MethodId) (x0 : Int64) : entryFrame m #[(.long x0)] 2 = mkF m 0 #[.val (.long x0), .second] [] := by first | (simp [entryFrame, mkF, argsToLocals, Value.category]; done) | rfl
def Q_rm1 (Z : State) (q0 : Int64) (h0 : Heap) (n0 : Nat) (v : Option Value) (h : Heap) (L : List Loc) : Prop := ∃ b, v = some (.ref b) ∧ Fr n0 L ∧ Keep h0 h [] ∧ Exa Z h b "com/example/rillstream/rillstream/mysql/StatementTokens$Quoting" ∧ Fld Z h b "com/example/rillstream/rillstream/mysql/StatementTokens$Quoting" "ansiQuotes" "Z" (.int (nar .boolean (if (q0 &&& (4 : Int64)) = (0 : Int64) then (0 : Int32) else (1 : Int32)))) ∧ Fld Z h b "com/example/rillstream/rillstream/mysql/StatementTokens$Quoting" "backslashEscapes" "Z" (.int (nar .boolean (if (q0 &&& (1048576 : Int64)) = (0 : Int64) then (1 : Int32) else (0 : Int32))))
set_option maxRecDepth 65536 in
set_option maxHeartbeats 40000000 in
theorem rm1 (l : Launch) (Z : State) (a0 : Array Value) (hw : ∀ d ∈ tables_1, d.before a0 Z = true) (ws : List Jvm.Cond) (q0 : Int64) (h0 : Heap) (n0 : Nat) (Z0 : n0 ≤ h0.size) :
    MetFree l (⟨"com/example/rillstream/rillstream/mysql/StatementTokens$Quoting", "of", "(J)Lcom/example/rillstream/rillstream/mysql/StatementTokens$Quoting;"⟩ : MethodName) (head1 (Jvm.Cond.code (⟨"com/example/rillstream/rillstream/mysql/StatementTokens$Quoting", "of", "(J)Lcom/example/rillstream/rillstream/mysql/StatementTokens$Quoting;"⟩ : MethodName) prog_14_method_2_code 2 (some (.object "com/example/rillstream/rillstream/mysql/StatementTokens$Quoting")) :: ws) ({ frames := 3, cells := 1, slots := 2, locals := 39 } : Room)) (fun a U => a = #[(.long q0)] ∧ Z.Warmed39 U.vm ∧ U.heap = h0) (fun _ _ _ _ _ => True) (fun _ U o U' => ∃ v L, o = .returned v ∧ Q_rm1 Z q0 h0 n0 v U'.heap L ∧ FrameEnd U o U' L ({ frames := 3, cells := 1, slots := 2, locals := 39 } : Room).cells ({ frames := 3, cells := 1, slots := 2, locals := 39 } : Room).slots) := by
  refine MetFree.of_bodySF (plainFor_of_name pn_1) hisR ?_
  intro p e s m args below meth c s₁ Bd hml0 hP hK
  obtain ⟨rfl, hZ, hh⟩ := hP
  have hx := Bd.exec
  have hby := Bd.bytes
  have hml : c.maxLocals = 2 := hml0
  have hown : s.vm.findClass "com/example/rillstream/rillstream/mysql/StatementTokens$Quoting" = some m.cls := findClass_of_methodNamed Bd.named
  have hnm := (name_of_methodNamed Bd.named Bd.method).1
  have X0 : Stand p l e ({ frames := 3, cells := 1, slots := 2, locals := 39 } : Room) s m #[(.long q0)] below meth c s₁ [] 0 0 := Stand.of_body Bd
  have e0 : s₁.heap = h0 := by rw [← hh, Bd.state]; rfl
  have N0 := Fr.nil n0
  have pre0 : ∀ t, Steps p.tables e below (s₁.setTop (mkF m 0 #[.val (.long q0), .second] [])) t → Steps p.tables e below (s₁.setTop (entryFrame m #[(.long q0)] 2)) t := fun t k => castTop (ef_rm1 m q0) k
  have Kp : Keep h0 h0 [] := Keep.refl _ _
  obtain ⟨T1, h1, X1, e1, E1, A1, D1, -, st1⟩ := newO X0 hx hZ hown (hw _ (List.mem_of_getElem? (i := 4) rfl)) (hw _ (List.mem_of_getElem? (i := 5) rfl)) (hw _ (List.mem_of_getElem? (i := 2) rfl)) e0 (g := (mkF m 0 #[.val (.long q0), .second] [])) rfl (hb hby d1_0) (by decide) (by decide)
  obtain ⟨b, g1⟩ : ∃ z, z = h0.size := ⟨_, rfl⟩
  rw [← g1] at A1 D1 st1
  have g_b : n0 ≤ b := Nat.le_trans Z0 (Nat.le_of_eq g1.symm)
  have sz_b : h0.size ≤ b := Nat.le_trans Kp.1 (Nat.le_of_eq g1.symm)
  have Z_1 : n0 ≤ h1.size := Nat.le_trans Z0 E1.1
  have Kp_1 : Keep h0 h1 [] := Kp.ext E1
  have E_b : Exa Z h1 b "com/example/rillstream/rillstream/mysql/StatementTokens$Quoting" := A1
  have F_ansiQuotes_b : Fld Z h1 b "com/example/rillstream/rillstream/mysql/StatementTokens$Quoting" "ansiQuotes" "Z" (.int (0 : Int32)) := D1 (Or.inr (hw _ (List.mem_of_getElem? (i := 20) rfl))) (ty := .boolean) (by decide)
  have F_backslashEscapes_b : Fld Z h1 b "com/example/rillstream/rillstream/mysql/StatementTokens$Quoting" "backslashEscapes" "Z" (.int (0 : Int32)) := D1 (Or.inr (hw _ (List.mem_of_getElem? (i := 22) rfl))) (ty := .boolean) (by decide)
  have st2 : ∀ target, Steps p.tables e below (T1.setTop (mkF m 4 #[.val (.long q0), .second] [(.ref b), (.ref b)])) target → Steps p.tables e below (T1.setTop (mkF m 3 #[.val (.long q0), .second] [(.ref b)])) target := by
    intro target kt
    show Steps p.tables e below (T1.setTop (mkF m 3 #[.val (.long q0), .second] [(.ref b)])) _
    refine XS.dup X1.here hx rfl (hb hby d1_3) rfl rfl ?_
    exact kt
  obtain ⟨va, hva, st3⟩ : ∃ (va : Int32), va = (if (q0 &&& (4 : Int64)) = (0 : Int64) then (0 : Int32) else (1 : Int32)) ∧ ∀ target, Steps p.tables e below (T1.setTop (mkF m 19 #[.val (.long q0), .second] [(.int va), (.ref b), (.ref b)])) target → Steps p.tables e below (T1.setTop (mkF m 4 #[.val (.long q0), .second] [(.ref b), (.ref b)])) target := by
    refine ⟨_, rfl, fun target kt => ?_⟩
    show Steps p.tables e below (T1.setTop (mkF m 4 #[.val (.long q0), .second] [(.ref b), (.ref b)])) _
    refine XS.lloadN X1.here hx rfl (hb hby d1_4) rfl ?_
    show Steps p.tables e below (T1.setTop (mkF m 5 #[.val (.long q0), .second] [(.long q0), (.ref b), (.ref b)])) _
    refine X1.ldc2Long hx hown (mvT hZ (hw _ (List.mem_of_getElem? (i := 6) rfl))) (g := (mkF m 5 #[.val (.long q0), .second] [(.long q0), (.ref b), (.ref b)])) rfl (hb hby d1_5) _ ?_
    show Steps p.tables e below (T1.setTop (mkF m 8 #[.val (.long q0), .second] [(.long (4 : Int64)), (.long q0), (.ref b), (.ref b)])) _
    refine XS.land X1.here hx rfl (hb hby d1_8) rfl ?_
    show Steps p.tables e below (T1.setTop (mkF m 9 #[.val (.long q0), .second] [(.long (q0 &&& (4 : Int64))), (.ref b), (.ref b)])) _
    refine XS.lconst X1.here hx rfl (hb hby d1_9) ?_
    show Steps p.tables e below (T1.setTop (mkF m 10 #[.val (.long q0), .second] [(.long (0 : Int64)), (.long (q0 &&& (4 : Int64))), (.ref b), (.ref b)])) _
    refine XS.lcmp X1.here hx rfl (hb hby d1_10) rfl ?_
    by_cases hc11 : (q0 &&& (4 : Int64)) = (0 : Int64)
    · rw [if_pos hc11] at kt
      show Steps p.tables e below (T1.setTop (mkF m 11 #[.val (.long q0), .second] [(.int (lcmpW (q0 &&& (4 : Int64)) (0 : Int64))), (.ref b), (.ref b)])) _
      refine XS.ifYes X1.here hx rfl (pc0 := 11) (pc' := 18) rfl (hb hby d1_11) rfl ((if0 _ _).trans (teq ((own_lc_eq _ _).mpr hc11)).1) (by decide) (by decide) ?_
      show Steps p.tables e below (T1.setTop (mkF m 18 #[.val (.long q0), .second] [(.ref b), (.ref b)])) _
      refine XS.iconst X1.here hx rfl (hb hby d1_18) ?_
      exact kt
    · rw [if_neg hc11] at kt
      show Steps p.tables e below (T1.setTop (mkF m 11 #[.val (.long q0), .second] [(.int (lcmpW (q0 &&& (4 : Int64)) (0 : Int64))), (.ref b), (.ref b)])) _
      refine XS.ifNo X1.here hx rfl (hb hby d1_11) rfl ((if0 _ _).trans (feq (mt (own_lc_eq _ _).mp hc11)).1) ?_
      show Steps p.tables e below (T1.setTop (mkF m 14 #[.val (.long q0), .second] [(.ref b), (.ref b)])) _
      refine XS.iconst X1.here hx rfl (hb hby d1_14) ?_
      show Steps p.tables e below (T1.setTop (mkF m 15 #[.val (.long q0), .second] [(.int (1 : Int32)), (.ref b), (.ref b)])) _
      refine XS.goto X1.here hx rfl (pc0 := 15) (pc' := 19) rfl (hb hby d1_15) (by decide) (by decide) ?_
      exact kt
  obtain ⟨vb, hvb, st4⟩ : ∃ (vb : Int32), vb = (if (q0 &&& (1048576 : Int64)) = (0 : Int64) then (1 : Int32) else (0 : Int32)) ∧ ∀ target, Steps p.tables e below (T1.setTop (mkF m 34 #[.val (.long q0), .second] [(.int vb), (.int va), (.ref b), (.ref b)])) target → Steps p.tables e below (T1.setTop (mkF m 19 #[.val (.long q0), .second] [(.int va), (.ref b), (.ref b)])) target := by
    refine ⟨_, rfl, fun target kt => ?_⟩
    show Steps p.tables e below (T1.setTop (mkF m 19 #[.val (.long q0), .second] [(.int va), (.ref b), (.ref b)])) _
    refine XS.lloadN X1.here hx rfl (hb hby d1_19) rfl ?_
    show Steps p.tables e below (T1.setTop (mkF m 20 #[.val (.long q0), .second] [(.long q0), (.int va), (.ref b), (.ref b)])) _
    refine X1.ldc2Long hx hown (mvT hZ (hw _ (List.mem_of_getElem? (i := 7) rfl))) (g := (mkF m 20 #[.val (.long q0), .second] [(.long q0), (.int va), (.ref b), (.ref b)])) rfl (hb hby d1_20) _ ?_
    show Steps p.tables e below (T1.setTop (mkF m 23 #[.val (.long q0), .second] [(.long (1048576 : Int64)), (.long q0), (.int va), (.ref b), (.ref b)])) _
    refine XS.land X1.here hx rfl (hb hby d1_23) rfl ?_
    show Steps p.tables e below (T1.setTop (mkF m 24 #[.val (.long q0), .second] [(.long (q0 &&& (1048576 : Int64))), (.int va), (.ref b), (.ref b)])) _
    refine XS.lconst X1.here hx rfl (hb hby d1_24) ?_
    show Steps p.tables e below (T1.setTop (mkF m 25 #[.val (.long q0), .second] [(.long (0 : Int64)), (.long (q0 &&& (1048576 : Int64))), (.int va), (.ref b), (.ref b)])) _
    refine XS.lcmp X1.here hx rfl (hb hby d1_25) rfl ?_
    by_cases hc26 : (q0 &&& (1048576 : Int64)) = (0 : Int64)
    · rw [if_pos hc26] at kt
      show Steps p.tables e below (T1.setTop (mkF m 26 #[.val (.long q0), .second] [(.int (lcmpW (q0 &&& (1048576 : Int64)) (0 : Int64))), (.int va), (.ref b), (.ref b)])) _
      refine XS.ifNo X1.here hx rfl (hb hby d1_26) rfl ((if0 _ _).trans (teq ((own_lc_eq _ _).mpr hc26)).2) ?_
      show Steps p.tables e below (T1.setTop (mkF m 29 #[.val (.long q0), .second] [(.int va), (.ref b), (.ref b)])) _
      refine XS.iconst X1.here hx rfl (hb hby d1_29) ?_
      show Steps p.tables e below (T1.setTop (mkF m 30 #[.val (.long q0), .second] [(.int (1 : Int32)), (.int va), (.ref b), (.ref b)])) _
      refine XS.goto X1.here hx rfl (pc0 := 30) (pc' := 34) rfl (hb hby d1_30) (by decide) (by decide) ?_
      exact kt
    · rw [if_neg hc26] at kt
      show Steps p.tables e below (T1.setTop (mkF m 26 #[.val (.long q0), .second] [(.int (lcmpW (q0 &&& (1048576 : Int64)) (0 : Int64))), (.int va), (.ref b), (.ref b)])) _
      refine XS.ifYes X1.here hx rfl (pc0 := 26) (pc' := 33) rfl (hb hby d1_26) rfl ((if0 _ _).trans (feq (mt (own_lc_eq _ _).mp hc26)).2) (by decide) (by decide) ?_
      show Steps p.tables e below (T1.setTop (mkF m 33 #[.val (.long q0), .second] [(.int va), (.ref b), (.ref b)])) _
      refine XS.iconst X1.here hx rfl (hb hby d1_33) ?_
      exact kt
  obtain ⟨_, _, ⟨T5, L5, k5, n5⟩, -, X5, ⟨Lc5, hQ5, l5, y5, z5⟩, st5⟩ := X1.specialBack hx (y := (⟨"com/example/rillstream/rillstream/mysql/StatementTokens$Quoting", "<init>", "(ZZ)V"⟩ : MethodName)) rfl hown (mvT hZ (hw _ (List.mem_of_getElem? (i := 8) rfl))) (mvT hZ (hw _ (List.mem_of_getElem? (i := 9) rfl))) (mvT hZ (hw _ (List.mem_of_getElem? (i := 10) rfl))) (by decide) (backOf (W := 1) (rm2 l Z a0 hw [] b va vb  h1 n0 Z_1 F_ansiQuotes_b F_backslashEscapes_b E_b g_b) hZ (hw _ (List.mem_of_getElem? (i := 10) rfl)) (hw _ (List.mem_of_getElem? (i := 2) rfl)) (by decide) (by decide)) (g := (mkF m 34 #[.val (.long q0), .second] [(.int vb), (.int va), (.ref b), (.ref b)])) rfl (by rw [hml]; rfl) (Steps.refl _) (a := b) (argsL := [(.int va), (.int vb)]) (rest := [(.ref b)]) (lenOf pd_1 rfl) rfl (by show 2 * 0 + _ ≤ _; exact Nat.le_of_eq rfl) (hb hby d1_34) (fun _ _ => ⟨rfl, e1, (by decide : 1 + 0 ≤ _), (by decide : 2 + 0 ≤ _)⟩)
  dsimp only [Pt.U, Pt.locs, Pt.cells, Pt.slots] at X5 l5 y5 z5 st5 hQ5
  subst l5 y5 z5
  obtain ⟨rfl, Nq5, K5, Eb, Fa, Fb⟩ := hQ5
  have N5 := Fr.app N0 Nq5
  have E_b_5 := E_b.keep K5
  have Z_5 : n0 ≤ T5.heap.size := Nat.le_trans Z_1 K5.1
  have Kp_5 : Keep h0 T5.heap [] := Kp_1.trans K5 (allS (Or.inr sz_b) (all0))
  obtain ⟨fs, hr, hrun, hended, hW, hsame⟩ := X5.leave (v := some (.ref b)) (fun h => by rw [Bd.returns] at h; cases h)
  refine ⟨_, _, pre0 _ (st1 _ (st2 _ (st3 _ (st4 _ (st5.trans ?_))))), hrun, hended, _, _, rfl, ?_, ⟨_, rfl⟩, hW, hsame.mono (by decide) (by decide)⟩
  · show Steps p.tables e below (T5.setTop (mkF m 37 #[.val (.long q0), .second] [(.ref b)])) _
    jvm_step X5.here [X5.here.top, hx, (hb hby d1_37), X5.method', Bd.returns, Value.isRef, FieldType.isReference]
    first | (intro acts; rw [hr _ acts rfl rfl rfl]) | rw [hr _ _ rfl rfl rfl]
    exact Steps.refl _
  · show Q_rm1 Z q0 h0 n0 _ T5.heap _
    exact ⟨b, rfl, N5, Kp_5, Eb, hva ▸ Fa, hvb ▸ Fb⟩
theorem d5_0 : decode prog_14_method_6_code 0 = .ok (.aload_n 0, 1) := by decide +kernel
theorem d5_1 : decode prog_14_method_6_code 1 = .ok (.getfield 7, 3) := by decide +kernel
theorem d5_4 : decode prog_14_method_6_code 4 = .ok (.ireturn, 1) := by decide +kernel
theorem ef_rm5 (m : MethodId) (x0 : Addr) : entryFrame m #[(.ref x0)] 1 = mkF m 0 #[.val (.ref x0)] [] := by first | (simp [entryFrame, mkF, argsToLocals, Value.category]; done) | rfl
def Q_rm5 (Z : State) (r0 : Addr) (z : Int32) (h0 : Heap) (n0 : Nat) (v : Option Value) (h : Heap) (L : List Loc) : Prop := v = some (.int (nar .boolean z)) ∧ Fr n0 L ∧ h = h0
set_option maxRecDepth 65536 in
set_option maxHeartbeats 40000000 in
theorem rm5 (l : Launch) (Z : State) (a0 : Array Value) (hw : ∀ d ∈ tables_1, d.before a0 Z = true) (ws : List Jvm.Cond) (r0 : Addr) (z : Int32) (h0 : Heap) (n0 : Nat) (Z0 : n0 ≤ h0.size) (F_z : Fld Z h0 r0 "com/example/rillstream/rillstream/mysql/StatementTokens$Quoting" "ansiQuotes" "Z" (.int z)) :
    MetFree l (⟨"com/example/rillstream/rillstream/mysql/StatementTokens$Quoting", "ansiQuotes", "()Z"⟩ : MethodName) (head1 (Jvm.Cond.code (⟨"com/example/rillstream/rillstream/mysql/StatementTokens$Quoting", "ansiQuotes", "()Z"⟩ : MethodName) prog_14_method_6_code 1 (some .boolean) :: ws) ({ frames := 0, cells := 0, slots := 0, locals := 0 } : Room)) (fun a U => a = #[(.ref r0)] ∧ Z.Warmed39 U.vm ∧ U.heap = h0) (fun _ _ _ _ _ => True) (fun _ U o U' => ∃ v L, o = .returned v ∧ Q_rm5 Z r0 z h0 n0 v U'.heap L ∧ FrameEnd U o U' L ({ frames := 0, cells := 0, slots := 0, locals := 0 } : Room).cells ({ frames := 0, cells := 0, slots := 0, locals := 0 } : Room).slots) := by
  refine MetFree.of_bodySF (plainFor_of_name pn_1) hisR ?_
  intro p e s m args below meth c s₁ Bd hml0 hP hK
  obtain ⟨rfl, hZ, hh⟩ := hP
  have hx := Bd.exec
  have hby := Bd.bytes
  have hml : c.maxLocals = 1 := hml0
  have hown : s.vm.findClass "com/example/rillstream/rillstream/mysql/StatementTokens$Quoting" = some m.cls := findClass_of_methodNamed Bd.named
  have hnm := (name_of_methodNamed Bd.named Bd.method).1
  have X0 : Stand p l e ({ frames := 0, cells := 0, slots := 0, locals := 0 } : Room) s m #[(.ref r0)] below meth c s₁ [] 0 0 := Stand.of_body Bd
  have e0 : s₁.heap = h0 := by rw [← hh, Bd.state]; rfl
  have N0 := Fr.nil n0
  have pre0 : ∀ t, Steps p.tables e below (s₁.setTop (mkF m 0 #[.val (.ref r0)] [])) t → Steps p.tables e below (s₁.setTop (entryFrame m #[(.ref r0)] 1)) t := fun t k => castTop (ef_rm5 m r0) k
  have st1 : ∀ target, Steps p.tables e below (s₁.setTop (mkF m 1 #[.val (.ref r0)] [(.ref r0)])) target → Steps p.tables e below (s₁.setTop (mkF m 0 #[.val (.ref r0)] [])) target := by
    intro target kt
    show Steps p.tables e below (s₁.setTop (mkF m 0 #[.val (.ref r0)] [])) _
    refine XS.aloadN X0.here hx rfl (hb hby d5_0) rfl rfl ?_
    exact kt
  obtain ⟨T2, X2, e2, st2⟩ := getF X0 hx hZ hown (host := "") (Or.inl (hw _ (List.mem_of_getElem? (i := 19) rfl))) Via.refl e0 F_z (g := (mkF m 1 #[.val (.ref r0)] [(.ref r0)])) rfl rfl (hb hby d5_1)
  obtain ⟨fs, hr, hrun, hended, hW, hsame⟩ := X2.leave (v := some (.int (nar .boolean z))) (fun h => by rw [Bd.returns] at h; cases h)
  refine ⟨_, _, pre0 _ (st1 _ (st2 _ ?_)), hrun, hended, _, _, rfl, ?_, ⟨_, rfl⟩, hW, hsame.mono (by decide) (by decide)⟩
  · show Steps p.tables e below (T2.setTop (mkF m 4 #[.val (.ref r0)] [(.int z)])) _
    exact retN X2 hx (t := .boolean) Bd.returns (by simp) (hb hby d5_4) hr
  · show Q_rm5 Z r0 z h0 n0 _ T2.heap _
    rw [e2]
    exact ⟨rfl, N0, rfl⟩
theorem d6_0 : decode prog_14_method_7_code 0 = .ok (.aload_n 0, 1) := by decide +kernel
theorem d6_1 : decode prog_14_method_7_code 1 = .ok (.getfield 13, 3) := by decide +kernel
theorem d6_4 : decode prog_14_method_7_code 4 = .ok (.ireturn, 1) := by decide +kernel
theorem ef_rm6 (m : MethodId) (x0 : Addr) : entryFrame m #[(.ref x0)] 1 = mkF m 0 #[.val (.ref x0)] [] := by first | (simp [entryFrame, mkF, argsToLocals, Value.category]; done) | rfl
def Q_rm6 (Z : State) (r0 : Addr) (z : Int32) (h0 : Heap) (n0 : Nat) (v : Option Value) (h : Heap) (L : List Loc) : Prop := v = some (.int (nar .boolean z)) ∧ Fr n0 L ∧ h = h0
set_option maxRecDepth 65536 in
set_option maxHeartbeats 40000000 in
theorem rm6 (l : Launch) (Z : State) (a0 : Array Value) (hw : ∀ d ∈ tables_1, d.before a0 Z = true) (ws : List Jvm.Cond) (r0 : Addr) (z : Int32) (h0 : Heap) (n0 : Nat) (Z0 : n0 ≤ h0.size) (F_z : Fld Z h0 r0 "com/example/rillstream/rillstream/mysql/StatementTokens$Quoting" "backslashEscapes" "Z" (.int z)) :
    MetFree l (⟨"com/example/rillstream/rillstream/mysql/StatementTokens$Quoting", "backslashEscapes", "()Z"⟩ : MethodName) (head1 (Jvm.Cond.code (⟨"com/example/rillstream/rillstream/mysql/StatementTokens$Quoting", "backslashEscapes", "()Z"⟩ : MethodName) prog_14_method_7_code 1 (some .boolean) :: ws) ({ frames := 0, cells := 0, slots := 0, locals := 0 } : Room)) (fun a U => a = #[(.ref r0)] ∧ Z.Warmed39 U.vm ∧ U.heap = h0) (fun _ _ _ _ _ => True) (fun _ U o U' => ∃ v L, o = .returned v ∧ Q_rm6 Z r0 z h0 n0 v U'.heap L ∧ FrameEnd U o U' L ({ frames := 0, cells := 0, slots := 0, locals := 0 } : Room).cells ({ frames := 0, cells := 0, slots := 0, locals := 0 } : Room).slots) := by
  refine MetFree.of_bodySF (plainFor_of_name pn_1) hisR ?_
  intro p e s m args below meth c s₁ Bd hml0 hP hK
  obtain ⟨rfl, hZ, hh⟩ := hP
  have hx := Bd.exec
  have hby := Bd.bytes
  have hml : c.maxLocals = 1 := hml0
  have hown : s.vm.findClass "com/example/rillstream/rillstream/mysql/StatementTokens$Quoting" = some m.cls := findClass_of_methodNamed Bd.named
  have hnm := (name_of_methodNamed Bd.named Bd.method).1
  have X0 : Stand p l e ({ frames := 0, cells := 0, slots := 0, locals := 0 } : Room) s m #[(.ref r0)] below meth c s₁ [] 0 0 := Stand.of_body Bd
  have e0 : s₁.heap = h0 := by rw [← hh, Bd.state]; rfl
  have N0 := Fr.nil n0
  have pre0 : ∀ t, Steps p.tables e below (s₁.setTop (mkF m 0 #[.val (.ref r0)] [])) t → Steps p.tables e below (s₁.setTop (entryFrame m #[(.ref r0)] 1)) t := fun t k => castTop (ef_rm6 m r0) k
  have st1 : ∀ target, Steps p.tables e below (s₁.setTop (mkF m 1 #[.val (.ref r0)] [(.ref r0)])) target → Steps p.tables e below (s₁.setTop (mkF m 0 #[.val (.ref r0)] [])) target := by
    intro target kt
    show Steps p.tables e below (s₁.setTop (mkF m 0 #[.val (.ref r0)] [])) _
    refine XS.aloadN X0.here hx rfl (hb hby d6_0) rfl rfl ?_
    exact kt
  obtain ⟨T2, X2, e2, st2⟩ := getF X0 hx hZ hown (host := "") (Or.inl (hw _ (List.mem_of_getElem? (i := 21) rfl))) Via.refl e0 F_z (g := (mkF m 1 #[.val (.ref r0)] [(.ref r0)])) rfl rfl (hb hby d6_1)
  obtain ⟨fs, hr, hrun, hended, hW, hsame⟩ := X2.leave (v := some (.int (nar .boolean z))) (fun h => by rw [Bd.returns] at h; cases h)
  refine ⟨_, _, pre0 _ (st1 _ (st2 _ ?_)), hrun, hended, _, _, rfl, ?_, ⟨_, rfl⟩, hW, hsame.mono (by decide) (by decide)⟩
  · show Steps p.tables e below (T2.setTop (mkF m 4 #[.val (.ref r0)] [(.int z)])) _
    exact retN X2 hx (t := .boolean) Bd.returns (by simp) (hb hby d6_4) hr
  · show Q_rm6 Z r0 z h0 n0 _ T2.heap _
    rw [e2]
    exact ⟨rfl, N0, rfl⟩
theorem pn_2 : plainName "com/example/rillstream/rillstream/mysql/QuotingOfPinLaw" = true := by first | (simp [plainName, overriddenIn]; done) | decide +kernel
theorem ef_rm0 (m : MethodId) (x0 : Int64) : entryFrame m #[(.long x0)] maxLocals = mkF m 0 #[.val (.long x0), .second, .unset, .unset, .unset] [] := by first | (simp [entryFrame, mkF, argsToLocals, Value.category, maxLocals]; done) | rfl
def Q_rm0 (Z : State) (q0 : Int64) (h0 : Heap) (n0 : Nat) (v : Option Value) (h : Heap) (L : List Loc) : Prop := v = some (.int 1) ∧ Fr n0 L
set_option maxRecDepth 65536 in
set_option maxHeartbeats 40000000 in
theorem rm0 (l : Launch) (Z : State) (a0 : Array Value) (hw : ∀ d ∈ tables_1, d.before a0 Z = true) (ws : List Jvm.Cond) (q0 : Int64) (h0 : Heap) (n0 : Nat) (Z0 : n0 ≤ h0.size) :
    MetFree l x (head1 (Jvm.Cond.code x code maxLocals ret :: ws) room_1) (fun a U => a = #[(.long q0)] ∧ Z.Warmed39 U.vm ∧ U.heap = h0) (fun _ _ _ _ _ => True) (fun _ U o U' => ∃ v L, o = .returned v ∧ Q_rm0 Z q0 h0 n0 v U'.heap L ∧ FrameEnd U o U' L room_1.cells room_1.slots) := by
  refine MetFree.of_bodySF (plainFor_of_name pn_2) hisR ?_
  intro p e s m args below meth c s₁ Bd hml0 hP hK
  obtain ⟨rfl, hZ, hh⟩ := hP
  have hx := Bd.exec
  have hby := Bd.bytes
  have hml : c.maxLocals = 5 := hml0
  have hown : s.vm.findClass "com/example/rillstream/rillstream/mysql/QuotingOfPinLaw" = some m.cls := findClass_of_methodNamed Bd.named
  have hnm := (name_of_methodNamed Bd.named Bd.method).1
  have X0 : Stand p l e room_1 s m #[(.long q0)] below meth c s₁ [] 0 0 := Stand.of_body Bd
  have e0 : s₁.heap = h0 := by rw [← hh, Bd.state]; rfl
  have N0 := Fr.nil n0
  have pre0 : ∀ t, Steps p.tables e below (s₁.setTop (mkF m 0 #[.val (.long q0), .second, .unset, .unset, .unset] [])) t → Steps p.tables e below (s₁.setTop (entryFrame m #[(.long q0)] maxLocals)) t := fun t k => castTop (ef_rm0 m q0) k
  have st1 : ∀ target, Steps p.tables e below (s₁.setTop (mkF m 1 #[.val (.long q0), .second, .unset, .unset, .unset] [(.long q0)])) target → Steps p.tables e below (s₁.setTop (mkF m 0 #[.val (.long q0), .second, .unset, .unset, .unset] [])) target := by
    intro target kt
    show Steps p.tables e below (s₁.setTop (mkF m 0 #[.val (.long q0), .second, .unset, .unset, .unset] [])) _
    refine XS.lloadN X0.here hx rfl (hb hby at_0) rfl ?_
    exact kt
  obtain ⟨_, _, ⟨T2, L2, k2, n2⟩, -, X2, ⟨Lc2, hQ2, l2, y2, z2⟩, st2⟩ := Jvm.LawKit.callS X0 hx (y := (⟨"com/example/rillstream/rillstream/mysql/StatementTokens$Quoting", "of", "(J)Lcom/example/rillstream/rillstream/mysql/StatementTokens$Quoting;"⟩ : MethodName)) hown (mvT hZ (hw _ (List.mem_of_getElem? (i := 0) rfl))) (mvT hZ (hw _ (List.mem_of_getElem? (i := 1) rfl))) (mvT hZ (hw _ (List.mem_of_getElem? (i := 2) rfl))) (mvT hZ (hw _ (List.mem_of_getElem? (i := 3) rfl))) (by decide) (backOf (W := 0) (rm1 l Z a0 hw [] q0  h0 n0 Z0 ) hZ (hw _ (List.mem_of_getElem? (i := 3) rfl)) (hw _ (List.mem_of_getElem? (i := 2) rfl)) (by decide) (by decide)) (g := (mkF m 1 #[.val (.long q0), .second, .unset, .unset, .unset] [(.long q0)])) rfl (by rw [hml]; rfl) (argsL := [(.long q0)]) (rest := []) (lenOf pd_0 rfl) rfl (by show 2 * 0 + _ ≤ _; exact Nat.le_of_eq rfl) (hb hby at_1) (fun _ _ => ⟨rfl, e0, (by decide : 0 + 1 ≤ _), (by decide : 0 + 2 ≤ _)⟩)
  dsimp only [Pt.U, Pt.locs, Pt.cells, Pt.slots] at X2 l2 y2 z2 st2 hQ2
  subst l2 y2 z2
  obtain ⟨b2, rfl, Nq2, K2, Eb, Fa, Fb⟩ := hQ2
  have N2 := Fr.app N0 Nq2
  have Z_2 : n0 ≤ T2.heap.size := Nat.le_trans Z0 K2.1
  have st3 : ∀ target, Steps p.tables e below (T2.setTop (mkF m 5 #[.val (.long q0), .second, .val (.ref b2), .unset, .unset] [])) target → Steps p.tables e below (T2.setTop (mkF m 4 #[.val (.long q0), .second, .unset, .unset, .unset] [(.ref b2)])) target := by
    intro target kt
    show Steps p.tables e below (T2.setTop (mkF m 4 #[.val (.long q0), .second, .unset, .unset, .unset] [(.ref b2)])) _
    refine XS.astoreN X2.here hx rfl (hb hby at_4) rfl rfl (l' := #[.val (.long q0), .second, .val (.ref b2), .unset, .unset]) rfl ?_
    exact kt
  obtain ⟨an, han, st4⟩ : ∃ (an : Int32), an = (if (((q0.toUInt64 >>> ((2 : Int32) &&& 0x3f).toInt64.toUInt64).toInt64) &&& (1 : Int64)) = (1 : Int64) then (1 : Int32) else (0 : Int32)) ∧ ∀ target, Steps p.tables e below (T2.setTop (mkF m 20 #[.val (.long q0), .second, .val (.ref b2), .unset, .unset] [(.int an)])) target → Steps p.tables e below (T2.setTop (mkF m 5 #[.val (.long q0), .second, .val (.ref b2), .unset, .unset] [])) target := by
    refine ⟨_, rfl, fun target kt => ?_⟩
    show Steps p.tables e below (T2.setTop (mkF m 5 #[.val (.long q0), .second, .val (.ref b2), .unset, .unset] [])) _
    refine XS.lloadN X2.here hx rfl (hb hby at_5) rfl ?_
    show Steps p.tables e below (T2.setTop (mkF m 6 #[.val (.long q0), .second, .val (.ref b2), .unset, .unset] [(.long q0)])) _
    refine XS.iconst X2.here hx rfl (hb hby at_6) ?_
    show Steps p.tables e below (T2.setTop (mkF m 7 #[.val (.long q0), .second, .val (.ref b2), .unset, .unset] [(.int (2 : Int32)), (.long q0)])) _
    refine XS.lushr X2.here hx rfl (hb hby at_7) rfl ?_
    show Steps p.tables e below (T2.setTop (mkF m 8 #[.val (.long q0), .second, .val (.ref b2), .unset, .unset] [(.long ((q0.toUInt64 >>> ((2 : Int32) &&& 0x3f).toInt64.toUInt64).toInt64))])) _
    refine XS.lconst X2.here hx rfl (hb hby at_8) ?_
    show Steps p.tables e below (T2.setTop (mkF m 9 #[.val (.long q0), .second, .val (.ref b2), .unset, .unset] [(.long (1 : Int64)), (.long ((q0.toUInt64 >>> ((2 : Int32) &&& 0x3f).toInt64.toUInt64).toInt64))])) _
    refine XS.land X2.here hx rfl (hb hby at_9) rfl ?_
    show Steps p.tables e below (T2.setTop (mkF m 10 #[.val (.long q0), .second, .val (.ref b2), .unset, .unset] [(.long (((q0.toUInt64 >>> ((2 : Int32) &&& 0x3f).toInt64.toUInt64).toInt64) &&& (1 : Int64)))])) _
    refine XS.lconst X2.here hx rfl (hb hby at_10) ?_
    show Steps p.tables e below (T2.setTop (mkF m 11 #[.val (.long q0), .second, .val (.ref b2), .unset, .unset] [(.long (1 : Int64)), (.long (((q0.toUInt64 >>> ((2 : Int32) &&& 0x3f).toInt64.toUInt64).toInt64) &&& (1 : Int64)))])) _
    refine XS.lcmp X2.here hx rfl (hb hby at_11) rfl ?_
    by_cases hc12 : (((q0.toUInt64 >>> ((2 : Int32) &&& 0x3f).toInt64.toUInt64).toInt64) &&& (1 : Int64)) = (1 : Int64)
    · rw [if_pos hc12] at kt
      show Steps p.tables e below (T2.setTop (mkF m 12 #[.val (.long q0), .second, .val (.ref b2), .unset, .unset] [(.int (lcmpW (((q0.toUInt64 >>> ((2 : Int32) &&& 0x3f).toInt64.toUInt64).toInt64) &&& (1 : Int64)) (1 : Int64)))])) _
      refine XS.ifNo X2.here hx rfl (hb hby at_12) rfl ((if0 _ _).trans (teq ((own_lc_eq _ _).mpr hc12)).2) ?_
      show Steps p.tables e below (T2.setTop (mkF m 15 #[.val (.long q0), .second, .val (.ref b2), .unset, .unset] [])) _
      refine XS.iconst X2.here hx rfl (hb hby at_15) ?_
      show Steps p.tables e below (T2.setTop (mkF m 16 #[.val (.long q0), .second, .val (.ref b2), .unset, .unset] [(.int (1 : Int32))])) _
      refine XS.goto X2.here hx rfl (pc0 := 16) (pc' := 20) rfl (hb hby at_16) (by decide) (by decide) ?_
      exact kt
    · rw [if_neg hc12] at kt
      show Steps p.tables e below (T2.setTop (mkF m 12 #[.val (.long q0), .second, .val (.ref b2), .unset, .unset] [(.int (lcmpW (((q0.toUInt64 >>> ((2 : Int32) &&& 0x3f).toInt64.toUInt64).toInt64) &&& (1 : Int64)) (1 : Int64)))])) _
      refine XS.ifYes X2.here hx rfl (pc0 := 12) (pc' := 19) rfl (hb hby at_12) rfl ((if0 _ _).trans (feq (mt (own_lc_eq _ _).mp hc12)).2) (by decide) (by decide) ?_
      show Steps p.tables e below (T2.setTop (mkF m 19 #[.val (.long q0), .second, .val (.ref b2), .unset, .unset] [])) _
      refine XS.iconst X2.here hx rfl (hb hby at_19) ?_
      exact kt
  have st5 : ∀ target, Steps p.tables e below (T2.setTop (mkF m 21 #[.val (.long q0), .second, .val (.ref b2), .val (.int an), .unset] [])) target → Steps p.tables e below (T2.setTop (mkF m 20 #[.val (.long q0), .second, .val (.ref b2), .unset, .unset] [(.int an)])) target := by
    intro target kt
    show Steps p.tables e below (T2.setTop (mkF m 20 #[.val (.long q0), .second, .val (.ref b2), .unset, .unset] [(.int an)])) _
    refine XS.istoreN X2.here hx rfl (hb hby at_20) rfl (l' := #[.val (.long q0), .second, .val (.ref b2), .val (.int an), .unset]) rfl ?_
    exact kt
  obtain ⟨nb, hnb, st6⟩ : ∃ (nb : Int32), nb = (if (((q0.toUInt64 >>> ((20 : Int32) &&& 0x3f).toInt64.toUInt64).toInt64) &&& (1 : Int64)) = (1 : Int64) then (1 : Int32) else (0 : Int32)) ∧ ∀ target, Steps p.tables e below (T2.setTop (mkF m 37 #[.val (.long q0), .second, .val (.ref b2), .val (.int an), .unset] [(.int nb)])) target → Steps p.tables e below (T2.setTop (mkF m 21 #[.val (.long q0), .second, .val (.ref b2), .val (.int an), .unset] [])) target := by
    refine ⟨_, rfl, fun target kt => ?_⟩
    show Steps p.tables e below (T2.setTop (mkF m 21 #[.val (.long q0), .second, .val (.ref b2), .val (.int an), .unset] [])) _
    refine XS.lloadN X2.here hx rfl (hb hby at_21) rfl ?_
    show Steps p.tables e below (T2.setTop (mkF m 22 #[.val (.long q0), .second, .val (.ref b2), .val (.int an), .unset] [(.long q0)])) _
    refine XS.bipush X2.here hx rfl (hb hby at_22) ?_
    show Steps p.tables e below (T2.setTop (mkF m 24 #[.val (.long q0), .second, .val (.ref b2), .val (.int an), .unset] [(.int (20 : Int32)), (.long q0)])) _
    refine XS.lushr X2.here hx rfl (hb hby at_24) rfl ?_
    show Steps p.tables e below (T2.setTop (mkF m 25 #[.val (.long q0), .second, .val (.ref b2), .val (.int an), .unset] [(.long ((q0.toUInt64 >>> ((20 : Int32) &&& 0x3f).toInt64.toUInt64).toInt64))])) _
    refine XS.lconst X2.here hx rfl (hb hby at_25) ?_
    show Steps p.tables e below (T2.setTop (mkF m 26 #[.val (.long q0), .second, .val (.ref b2), .val (.int an), .unset] [(.long (1 : Int64)), (.long ((q0.toUInt64 >>> ((20 : Int32) &&& 0x3f).toInt64.toUInt64).toInt64))])) _
    refine XS.land X2.here hx rfl (hb hby at_26) rfl ?_
    show Steps p.tables e below (T2.setTop (mkF m 27 #[.val (.long q0), .second, .val (.ref b2), .val (.int an), .unset] [(.long (((q0.toUInt64 >>> ((20 : Int32) &&& 0x3f).toInt64.toUInt64).toInt64) &&& (1 : Int64)))])) _
    refine XS.lconst X2.here hx rfl (hb hby at_27) ?_
    show Steps p.tables e below (T2.setTop (mkF m 28 #[.val (.long q0), .second, .val (.ref b2), .val (.int an), .unset] [(.long (1 : Int64)), (.long (((q0.toUInt64 >>> ((20 : Int32) &&& 0x3f).toInt64.toUInt64).toInt64) &&& (1 : Int64)))])) _
    refine XS.lcmp X2.here hx rfl (hb hby at_28) rfl ?_
    by_cases hc29 : (((q0.toUInt64 >>> ((20 : Int32) &&& 0x3f).toInt64.toUInt64).toInt64) &&& (1 : Int64)) = (1 : Int64)
    · rw [if_pos hc29] at kt
      show Steps p.tables e below (T2.setTop (mkF m 29 #[.val (.long q0), .second, .val (.ref b2), .val (.int an), .unset] [(.int (lcmpW (((q0.toUInt64 >>> ((20 : Int32) &&& 0x3f).toInt64.toUInt64).toInt64) &&& (1 : Int64)) (1 : Int64)))])) _
      refine XS.ifNo X2.here hx rfl (hb hby at_29) rfl ((if0 _ _).trans (teq ((own_lc_eq _ _).mpr hc29)).2) ?_
      show Steps p.tables e below (T2.setTop (mkF m 32 #[.val (.long q0), .second, .val (.ref b2), .val (.int an), .unset] [])) _
      refine XS.iconst X2.here hx rfl (hb hby at_32) ?_
      show Steps p.tables e below (T2.setTop (mkF m 33 #[.val (.long q0), .second, .val (.ref b2), .val (.int an), .unset] [(.int (1 : Int32))])) _
      refine XS.goto X2.here hx rfl (pc0 := 33) (pc' := 37) rfl (hb hby at_33) (by decide) (by decide) ?_
      exact kt
    · rw [if_neg hc29] at kt
      show Steps p.tables e below (T2.setTop (mkF m 29 #[.val (.long q0), .second, .val (.ref b2), .val (.int an), .unset] [(.int (lcmpW (((q0.toUInt64 >>> ((20 : Int32) &&& 0x3f).toInt64.toUInt64).toInt64) &&& (1 : Int64)) (1 : Int64)))])) _
      refine XS.ifYes X2.here hx rfl (pc0 := 29) (pc' := 36) rfl (hb hby at_29) rfl ((if0 _ _).trans (feq (mt (own_lc_eq _ _).mp hc29)).2) (by decide) (by decide) ?_
      show Steps p.tables e below (T2.setTop (mkF m 36 #[.val (.long q0), .second, .val (.ref b2), .val (.int an), .unset] [])) _
      refine XS.iconst X2.here hx rfl (hb hby at_36) ?_
      exact kt
  have st7 : ∀ target, Steps p.tables e below (T2.setTop (mkF m 40 #[.val (.long q0), .second, .val (.ref b2), .val (.int an), .val (.int nb)] [(.ref b2)])) target → Steps p.tables e below (T2.setTop (mkF m 37 #[.val (.long q0), .second, .val (.ref b2), .val (.int an), .unset] [(.int nb)])) target := by
    intro target kt
    show Steps p.tables e below (T2.setTop (mkF m 37 #[.val (.long q0), .second, .val (.ref b2), .val (.int an), .unset] [(.int nb)])) _
    refine XS.istore X2.here hx rfl (hb hby at_37) rfl (l' := #[.val (.long q0), .second, .val (.ref b2), .val (.int an), .val (.int nb)]) rfl ?_
    show Steps p.tables e below (T2.setTop (mkF m 39 #[.val (.long q0), .second, .val (.ref b2), .val (.int an), .val (.int nb)] [])) _
    refine XS.aloadN X2.here hx rfl (hb hby at_39) rfl rfl ?_
    exact kt
  obtain ⟨cq8, kq8, qv8a, qv8b, qv8c⟩ := isOf hZ rfl Eb
  obtain ⟨_, _, ⟨T8, L8, k8, n8⟩, -, X8, ⟨Lc8, hQ8, l8, y8, z8⟩, st8⟩ := X2.virtualBack hx (y := (⟨"com/example/rillstream/rillstream/mysql/StatementTokens$Quoting", "ansiQuotes", "()Z"⟩ : MethodName)) (z := (⟨"com/example/rillstream/rillstream/mysql/StatementTokens$Quoting", "ansiQuotes", "()Z"⟩ : MethodName)) hown (mvT hZ (hw _ (List.mem_of_getElem? (i := 23) rfl))) (mvT hZ (hw _ (List.mem_of_getElem? (i := 24) rfl))) (notFace_of_selects (args := #[]) (mvT hZ (hw _ (List.mem_of_getElem? (i := 26) rfl)))) (mvT hZ (hw _ (List.mem_of_getElem? (i := 26) rfl))) (mvT hZ (hw _ (List.mem_of_getElem? (i := 25) rfl))) (by decide) (backOf (W := 0) (rm5 l Z a0 hw [] b2 (nar .boolean (if (q0 &&& (4 : Int64)) = (0 : Int64) then (0 : Int32) else (1 : Int32))) T2.heap n0 Z_2 Fa) hZ (hw _ (List.mem_of_getElem? (i := 27) rfl)) (hw _ (List.mem_of_getElem? (i := 2) rfl)) (by decide) (by decide)) qv8a qv8c (g := (mkF m 40 #[.val (.long q0), .second, .val (.ref b2), .val (.int an), .val (.int nb)] [(.ref b2)])) rfl (by rw [hml]; rfl) (Steps.refl _) (argsL := []) (rest := []) (lenOf pd_3 rfl) rfl (by show 2 * 0 + _ ≤ _; exact Nat.le_of_eq rfl) (hb hby at_40) (fun _ _ => ⟨rfl, rfl, (by decide : 1 + 0 ≤ _), (by decide : 2 + 0 ≤ _)⟩)
  dsimp only [Pt.U, Pt.locs, Pt.cells, Pt.slots] at X8 l8 y8 z8 st8 hQ8
  subst l8 y8 z8
  obtain ⟨rfl, Nq8, e8⟩ := hQ8
  have N8 := Fr.app N2 Nq8
  have h44 : nar .boolean (nar .boolean (if (q0 &&& (4 : Int64)) = (0 : Int64) then (0 : Int32) else (1 : Int32))) = an := by
    rw [own_nn, han]
    by_cases q : q0.toBitVec.getLsbD 2 = false
    · rw [if_pos ((own_and2 q0 4 2 (by decide) rfl).mpr q), if_neg (fun r => (own_bit1 q0 2 2 rfl).mp r q)]
    · rw [if_neg (fun r => q ((own_and2 q0 4 2 (by decide) rfl).mp r)), if_pos ((own_bit1 q0 2 2 rfl).mpr q)]
  have st9 : ∀ target, Steps p.tables e below (T8.setTop (mkF m 48 #[.val (.long q0), .second, .val (.ref b2), .val (.int an), .val (.int nb)] [(.ref b2)])) target → Steps p.tables e below (T8.setTop (mkF m 43 #[.val (.long q0), .second, .val (.ref b2), .val (.int an), .val (.int nb)] [(.int (nar .boolean (nar .boolean (if (q0 &&& (4 : Int64)) = (0 : Int64) then (0 : Int32) else (1 : Int32)))))])) target := by
    intro target kt
    show Steps p.tables e below (T8.setTop (mkF m 43 #[.val (.long q0), .second, .val (.ref b2), .val (.int an), .val (.int nb)] [(.int (nar .boolean (nar .boolean (if (q0 &&& (4 : Int64)) = (0 : Int64) then (0 : Int32) else (1 : Int32)))))])) _
    refine XS.iloadN X8.here hx rfl (hb hby at_43) rfl ?_
    show Steps p.tables e below (T8.setTop (mkF m 44 #[.val (.long q0), .second, .val (.ref b2), .val (.int an), .val (.int nb)] [(.int an), (.int (nar .boolean (nar .boolean (if (q0 &&& (4 : Int64)) = (0 : Int64) then (0 : Int32) else (1 : Int32)))))])) _
    refine XS.icmpNo X8.here hx rfl (hb hby at_44) rfl (teq h44).2 ?_
    show Steps p.tables e below (T8.setTop (mkF m 47 #[.val (.long q0), .second, .val (.ref b2), .val (.int an), .val (.int nb)] [])) _
    refine XS.aloadN X8.here hx rfl (hb hby at_47) rfl rfl ?_
    exact kt
  obtain ⟨cq10, kq10, qv10a, qv10b, qv10c⟩ := isOf hZ e8 Eb
  obtain ⟨_, _, ⟨T10, L10, k10, n10⟩, -, X10, ⟨Lc10, hQ10, l10, y10, z10⟩, st10⟩ := X8.virtualBack hx (y := (⟨"com/example/rillstream/rillstream/mysql/StatementTokens$Quoting", "backslashEscapes", "()Z"⟩ : MethodName)) (z := (⟨"com/example/rillstream/rillstream/mysql/StatementTokens$Quoting", "backslashEscapes", "()Z"⟩ : MethodName)) hown (mvT hZ (hw _ (List.mem_of_getElem? (i := 28) rfl))) (mvT hZ (hw _ (List.mem_of_getElem? (i := 29) rfl))) (notFace_of_selects (args := #[]) (mvT hZ (hw _ (List.mem_of_getElem? (i := 31) rfl)))) (mvT hZ (hw _ (List.mem_of_getElem? (i := 31) rfl))) (mvT hZ (hw _ (List.mem_of_getElem? (i := 30) rfl))) (by decide) (backOf (W := 0) (rm6 l Z a0 hw [] b2 (nar .boolean (if (q0 &&& (1048576 : Int64)) = (0 : Int64) then (1 : Int32) else (0 : Int32))) T2.heap n0 Z_2 Fb) hZ (hw _ (List.mem_of_getElem? (i := 32) rfl)) (hw _ (List.mem_of_getElem? (i := 2) rfl)) (by decide) (by decide)) qv10a qv10c (g := (mkF m 48 #[.val (.long q0), .second, .val (.ref b2), .val (.int an), .val (.int nb)] [(.ref b2)])) rfl (by rw [hml]; rfl) (Steps.refl _) (argsL := []) (rest := []) (lenOf pd_3 rfl) rfl (by show 2 * 0 + _ ≤ _; exact Nat.le_of_eq rfl) (hb hby at_48) (fun _ _ => ⟨rfl, e8, (by decide : 1 + 0 ≤ _), (by decide : 2 + 0 ≤ _)⟩)
  dsimp only [Pt.U, Pt.locs, Pt.cells, Pt.slots] at X10 l10 y10 z10 st10 hQ10
  subst l10 y10 z10
  obtain ⟨rfl, Nq10, e10⟩ := hQ10
  have N10 := Fr.app N8 Nq10
  obtain ⟨y, hy, st11⟩ : ∃ (y : Int32), y = (if nb = (0 : Int32) then (1 : Int32) else (0 : Int32)) ∧ ∀ target, Steps p.tables e below (T10.setTop (mkF m 61 #[.val (.long q0), .second, .val (.ref b2), .val (.int an), .val (.int nb)] [(.int y), (.int (nar .boolean (nar .boolean (if (q0 &&& (1048576 : Int64)) = (0 : Int64) then (1 : Int32) else (0 : Int32)))))])) target → Steps p.tables e below (T10.setTop (mkF m 51 #[.val (.long q0), .second, .val (.ref b2), .val (.int an), .val (.int nb)] [(.int (nar .boolean (nar .boolean (if (q0 &&& (1048576 : Int64)) = (0 : Int64) then (1 : Int32) else (0 : Int32)))))])) target := by
    refine ⟨_, rfl, fun target kt => ?_⟩
    show Steps p.tables e below (T10.setTop (mkF m 51 #[.val (.long q0), .second, .val (.ref b2), .val (.int an), .val (.int nb)] [(.int (nar .boolean (nar .boolean (if (q0 &&& (1048576 : Int64)) = (0 : Int64) then (1 : Int32) else (0 : Int32)))))])) _
    refine XS.iload X10.here hx rfl (hb hby at_51) rfl ?_
    by_cases hc53 : nb = (0 : Int32)
    · rw [if_pos hc53] at kt
      show Steps p.tables e below (T10.setTop (mkF m 53 #[.val (.long q0), .second, .val (.ref b2), .val (.int an), .val (.int nb)] [(.int nb), (.int (nar .boolean (nar .boolean (if (q0 &&& (1048576 : Int64)) = (0 : Int64) then (1 : Int32) else (0 : Int32)))))])) _
      refine XS.ifNo X10.here hx rfl (hb hby at_53) rfl ((if0 _ _).trans (teq hc53).2) ?_
      show Steps p.tables e below (T10.setTop (mkF m 56 #[.val (.long q0), .second, .val (.ref b2), .val (.int an), .val (.int nb)] [(.int (nar .boolean (nar .boolean (if (q0 &&& (1048576 : Int64)) = (0 : Int64) then (1 : Int32) else (0 : Int32)))))])) _
      refine XS.iconst X10.here hx rfl (hb hby at_56) ?_
      show Steps p.tables e below (T10.setTop (mkF m 57 #[.val (.long q0), .second, .val (.ref b2), .val (.int an), .val (.int nb)] [(.int (1 : Int32)), (.int (nar .boolean (nar .boolean (if (q0 &&& (1048576 : Int64)) = (0 : Int64) then (1 : Int32) else (0 : Int32)))))])) _
      refine XS.goto X10.here hx rfl (pc0 := 57) (pc' := 61) rfl (hb hby at_57) (by decide) (by decide) ?_
      exact kt
    · rw [if_neg hc53] at kt
      show Steps p.tables e below (T10.setTop (mkF m 53 #[.val (.long q0), .second, .val (.ref b2), .val (.int an), .val (.int nb)] [(.int nb), (.int (nar .boolean (nar .boolean (if (q0 &&& (1048576 : Int64)) = (0 : Int64) then (1 : Int32) else (0 : Int32)))))])) _
      refine XS.ifYes X10.here hx rfl (pc0 := 53) (pc' := 60) rfl (hb hby at_53) rfl ((if0 _ _).trans (feq hc53).2) (by decide) (by decide) ?_
      show Steps p.tables e below (T10.setTop (mkF m 60 #[.val (.long q0), .second, .val (.ref b2), .val (.int an), .val (.int nb)] [(.int (nar .boolean (nar .boolean (if (q0 &&& (1048576 : Int64)) = (0 : Int64) then (1 : Int32) else (0 : Int32)))))])) _
      refine XS.iconst X10.here hx rfl (hb hby at_60) ?_
      exact kt
  have h61 : nar .boolean (nar .boolean (if (q0 &&& (1048576 : Int64)) = (0 : Int64) then (1 : Int32) else (0 : Int32))) = y := by
    rw [own_nn', hy, hnb]
    by_cases q : q0.toBitVec.getLsbD 20 = false
    · rw [if_pos ((own_and2 q0 1048576 20 (by decide) rfl).mpr q), if_neg (fun r => (own_bit1 q0 20 20 rfl).mp r q)]; rfl
    · rw [if_neg (fun r => q ((own_and2 q0 1048576 20 (by decide) rfl).mp r)), if_pos ((own_bit1 q0 20 20 rfl).mpr q)]; rfl
  obtain ⟨fs, hr, hrun, hended, hW, hsame⟩ := X10.leave (v := some (.int (1 : Int32))) (fun h => by rw [Bd.returns] at h; cases h)
  refine ⟨_, _, pre0 _ (st1 _ (st2 _ (st3 _ (st4 _ (st5 _ (st6 _ (st7 _ (st8.trans (st9 _ (st10.trans (st11 _ ?_))))))))))), hrun, hended, _, _, rfl, ?_, ⟨_, rfl⟩, hW, hsame.mono (by decide) (by decide)⟩
  · show Steps p.tables e below (T10.setTop (mkF m 61 #[.val (.long q0), .second, .val (.ref b2), .val (.int an), .val (.int nb)] [(.int y), (.int (nar .boolean (nar .boolean (if (q0 &&& (1048576 : Int64)) = (0 : Int64) then (1 : Int32) else (0 : Int32)))))])) _
    refine XS.icmpNo X10.here hx rfl (hb hby at_61) rfl (teq h61).2 ?_
    show Steps p.tables e below (T10.setTop (mkF m 64 #[.val (.long q0), .second, .val (.ref b2), .val (.int an), .val (.int nb)] [])) _
    refine XS.iconst X10.here hx rfl (hb hby at_64) ?_
    show Steps p.tables e below (T10.setTop (mkF m 65 #[.val (.long q0), .second, .val (.ref b2), .val (.int an), .val (.int nb)] [(.int (1 : Int32))])) _
    refine XS.goto X10.here hx rfl (pc0 := 65) (pc' := 69) rfl (hb hby at_65) (by decide) (by decide) ?_
    show Steps p.tables e below (T10.setTop (mkF m 69 #[.val (.long q0), .second, .val (.ref b2), .val (.int an), .val (.int nb)] [(.int (1 : Int32))])) _
    exact retN X10 hx (t := .boolean) Bd.returns (by simp) (hb hby at_69) hr
  · show Q_rm0 Z q0 h0 n0 _ T10.heap _
    rw [e10]
    exact ⟨rfl, N10⟩
set_option maxRecDepth 65536 in
set_option maxHeartbeats 40000000 in
theorem comes_1 {Post : Tables → Env → Array Value → State → Outcome → State → Prop} (hpost : ∀ tb e args s v u, (limb_1_1.after args s (.returned v) u = true ∧ limb_1_2.after args s (.returned v) u = true ∧ True) → FrameEnd s (.returned v) u (Jvm.fieldLocs frame_1_writes args s ++ Jvm.arrayLocs frame_1_arrays args s ++ Jvm.staticLocs frame_1_statics s) 16 128 → Post tb e args s (.returned v) u) :
    ArmFor flags0 classFile x code maxLocals ret World_1 tables_1 room_1 Calls_1 rest_1 Pre_1 Post := by
  intro l hfl _ _ p e ha hc hk s m args below hf hA hF happ hP
  obtain ⟨hcalls, hrest, hpre⟩ := hP
  obtain ⟨-, -, -, hnamed, -, -, -, hat⟩ := (Spec.applies_iff hf).mp happ
  obtain ⟨hg, hn⟩ := and_e (Cond.before_iff.mp (show (Jvm.Cond.and given_1 narrow_1).before args s = true from hpre))
  obtain ⟨gg1, gg2⟩ := and_e hg
  obtain ⟨w0, rfl⟩ : ∃ w0 : Value, args = #[w0] := by
    have hs : args.size = 1 := by simpa [Cond.value, given_1] using gg1
    obtain ⟨L⟩ := args
    match L, hs with
    | [w0], _ => exact ⟨w0, rfl⟩
  have hw := fun d (hd : d ∈ tables_1) => atoms_spec (ws := Jvm.Cond.code x code maxLocals ret :: tables_1) hat d (List.mem_cons_of_mem _ hd)
  have hfit : Fit s := fun {y c} hc i hi => by
    obtain ⟨ha, rfl⟩ := Array.getElem?_eq_some_iff.mp hc
    have q := List.all_eq_true.mp ((Array.all_eq_true_iff_forall_mem.mp hF) _ (Array.getElem_mem ha)) i (List.mem_range.mpr hi)
    simpa [Array.getElem?_eq_getElem hi] using q
  obtain ⟨i0, ei0⟩ := isL_v gg2
  obtain rfl : w0 = (.long i0) := Option.some.inj ei0
  obtain ⟨n, o, h1, h2, h3, _, L, rfl, ⟨rfl, N⟩, hq⟩ := rm0 l s _ hw tables_1 i0 s.heap s.heap.size (Nat.le_refl _)  p e ha hc hk s m _ below hf ((Spec.applies_iff_loose hf).mp happ).1 ⟨rfl, State.Warmed39.refl s, rfl⟩ trivial
  refine ⟨n, _, h1, h2, h3, hpost _ _ _ _ _ _ ⟨Cond.after_iff.mpr rfl, Cond.after_iff.mpr (eq_i res_at (Term.int_eval (1)) rfl), trivial⟩ ⟨hq.1, hq.2.1, (hq.2.2.sift fun y hy => Or.inr (N y hy)).mono (by decide) (by decide)⟩⟩
theorem main_1_1 : Claimed_1_1 := comes_1 fun _ _ _ _ _ _ h hF => ⟨h.1, hF⟩
theorem main_1_2 : Claimed_1_2 := comes_1 fun _ _ _ _ _ _ h hF => ⟨h.2.1, hF⟩
end Jvm.Pilot.@@N@@
namespace Jvm.Pilot.@@N@@
open Jvm Jvm.ClassFile Sem Op Lib Jvm.Free Jvm.Stand Jvm.Pilot.@@N@@.Jvm.D
/-! MADE BY PROGRAM (witnessworld.py) out of the Statement's table words and the real class files: 10 classes; the members and pool entries that the words name. The judged class is class 1, her method 1. -/
namespace start1
open Jvm.ClassFile
def u (s : String) : CpInfo := .utf8 (stringToUtf16 s)
/-- a pool by its gaps: so many unusable entries, then the entry; so many at the end -/
def gap : Nat → List CpInfo → List CpInfo
  | 0, r => r
  | n + 1, r => .unusable :: gap n r
def poolList (es : List (Nat × CpInfo)) (last : Nat) : List CpInfo := es.foldr (fun e r => gap e.1 (e.2 :: r)) (gap last [])
def pool (es : List (Nat × CpInfo)) (last : Nat) : Array CpInfo := ⟨poolList es last⟩
def fileOf (pool : Array CpInfo) (this : Nat) (attrs : Array Attribute := #[]) (ms : Array MethodInfo := #[]) (fl : Nat := 33) (sup : Nat := 0) (ifs : Array Nat := #[]) (fds : Array FieldInfo := #[]) : ClassFile where
  minorVersion := 0
  majorVersion := 65
  constantPool := pool
  accessFlags := fl
  thisClass := this
  superClass := sup
  interfaces := ifs
  fields := fds
  methods := ms
  attributes := attrs
def plain (name : String) (sup : Option ClassId) : Class where
  name := name
  kind := .ordinary
  loader := none
  accessFlags := 33
  super := sup
  interfaces := #[]
  cf := none
  fields := #[]
  methods := #[]
  instanceTypes := #[]
  staticTypes := #[]
  resolved := #[]
  callSites := []
  init := .initialized
  statics := none
  mirror := none

def pool0 : Array CpInfo := pool [(5, u "<init>"), (0, u "()V"), (1, .class_ 10), (1, u "java/lang/Object")] 113

def k0c0 : Code := { maxStack := 0, maxLocals := 1, code := object_method_1_code, exceptionTable := #[], attributes := #[] }
def k0m0 : Method := { name := "<init>", desc := "()V", sig := { parameters := [], returnType := none }, accessFlags := 1, code := some k0c0 }
/-- java/lang/Object -/
def k0 : Class := { plain "java/lang/Object" none with
  accessFlags := 33
  interfaces := #[]
  cf := some (fileOf pool0 8 #[] #[{ accessFlags := 1, nameIndex := 5, descriptorIndex := 6, attributes := #[] }] 33 0 #[] #[])
  fields := #[]
  methods := #[k0m0]
  instanceTypes := #[]
  staticTypes := #[]
  resolved := Array.replicate 124 none
  statics := none }

def pool1 : Array CpInfo := pool [(2, .class_ 4), (1, u "java/lang/Object"), (0, u "<init>"), (0, u "()V"), (0, .methodref 8 9), (0, .class_ 10), (0, .nameAndType 11 12), (0, u "com/example/rillstream/rillstream/mysql/StatementTokens$Quoting"), (0, u "of"), (0, u "(J)Lcom/example/rillstream/rillstream/mysql/StatementTokens$Quoting;"), (0, .methodref 8 14), (0, .nameAndType 15 16), (0, u "ansiQuotes"), (0, u "()Z"), (0, .methodref 8 18), (0, .nameAndType 19 16), (0, u "backslashEscapes"), (0, .class_ 21), (0, u "com/example/rillstream/rillstream/mysql/QuotingOfPinLaw"), (2, u "law"), (0, u "(J)Z")] 7

def k1m0 : Method := { name := "<init>", desc := "()V", sig := { parameters := [], returnType := none }, accessFlags := 1, code := none }
def k1c1 : Code := { maxStack := 4, maxLocals := 5, code := code, exceptionTable := #[], attributes := #[] }
def k1m1 : Method := { name := "law", desc := "(J)Z", sig := { parameters := [.long], returnType := some .boolean }, accessFlags := 9, code := some k1c1 }
/-- com/example/rillstream/rillstream/mysql/QuotingOfPinLaw -/
def k1 : Class := { plain "com/example/rillstream/rillstream/mysql/QuotingOfPinLaw" (some 0) with
  accessFlags := 49
  interfaces := #[]
  cf := some (fileOf pool1 20 #[] #[{ accessFlags := 1, nameIndex := 5, descriptorIndex := 6, attributes := #[] }, { accessFlags := 9, nameIndex := 24, descriptorIndex := 25, attributes := #[] }] 49 2 #[] #[])
  fields := #[]
  methods := #[k1m0, k1m1]
  instanceTypes := #[]
  staticTypes := #[]
  resolved := Array.replicate 33 none
  statics := none }

def pool2 : Array CpInfo := pool [(1, .methodref 2 3), (0, .class_ 4), (0, .nameAndType 5 6), (0, u "java/lang/Object"), (0, u "<init>"), (0, u "()V"), (0, .class_ 8), (0, u "java/lang/Record")] 13

def k2c0 : Code := { maxStack := 1, maxLocals := 1, code := jdk_30_method_1_code, exceptionTable := #[], attributes := #[] }
def k2m0 : Method := { name := "<init>", desc := "()V", sig := { parameters := [], returnType := none }, accessFlags := 4, code := some k2c0 }
/-- java/lang/Record -/
def k2 : Class := { plain "java/lang/Record" (some 0) with
  accessFlags := 1057
  interfaces := #[]
  cf := some (fileOf pool2 7 #[] #[{ accessFlags := 4, nameIndex := 5, descriptorIndex := 6, attributes := #[] }] 1057 2 #[] #[])
  fields := #[]
  methods := #[k2m0]
  instanceTypes := #[]
  staticTypes := #[]
  resolved := Array.replicate 22 none
  statics := none }

def pool3 : Array CpInfo := pool [(1, .methodref 2 3), (0, .class_ 4), (0, .nameAndType 5 6), (0, u "java/lang/Record"), (0, u "<init>"), (0, u "()V"), (0, .fieldref 8 9), (0, .class_ 10), (0, .nameAndType 11 12), (0, u "com/example/rillstream/rillstream/mysql/StatementTokens$Quoting"), (0, u "ansiQuotes"), (0, u "Z"), (0, .fieldref 8 14), (0, .nameAndType 15 12), (0, u "backslashEscapes"), (0, .long 4), (1, .long 1048576), (1, .methodref 8 21), (0, .nameAndType 5 22), (0, u "(ZZ)V"), (12, u "ANSI_QUOTES"), (0, u "J"), (1, u "NO_BACKSLASH_ESCAPES"), (3, u "of"), (0, u "(J)Lcom/example/rillstream/rillstream/mysql/StatementTokens$Quoting;"), (4, u "()Z"), (3, .class_ 53), (0, u "com/example/rillstream/rillstream/mysql/StatementTokens")] 20

def k3c0 : Code := { maxStack := 2, maxLocals := 3, code := prog_14_method_1_code, exceptionTable := #[], attributes := #[] }
def k3m0 : Method := { name := "<init>", desc := "(ZZ)V", sig := { parameters := [.boolean, .boolean], returnType := none }, accessFlags := 0, code := some k3c0 }
def k3c1 : Code := { maxStack := 7, maxLocals := 2, code := prog_14_method_2_code, exceptionTable := #[], attributes := #[] }
def k3m1 : Method := { name := "of", desc := "(J)Lcom/example/rillstream/rillstream/mysql/StatementTokens$Quoting;", sig := { parameters := [.long], returnType := some (.object "com/example/rillstream/rillstream/mysql/StatementTokens$Quoting") }, accessFlags := 8, code := some k3c1 }
def k3c2 : Code := { maxStack := 1, maxLocals := 1, code := prog_14_method_6_code, exceptionTable := #[], attributes := #[] }
def k3m2 : Method := { name := "ansiQuotes", desc := "()Z", sig := { parameters := [], returnType := some .boolean }, accessFlags := 1, code := some k3c2 }
def k3c3 : Code := { maxStack := 1, maxLocals := 1, code := prog_14_method_7_code, exceptionTable := #[], attributes := #[] }
def k3m3 : Method := { name := "backslashEscapes", desc := "()Z", sig := { parameters := [], returnType := some .boolean }, accessFlags := 1, code := some k3c3 }
/-- com/example/rillstream/rillstream/mysql/StatementTokens$Quoting -/
def k3 : Class := { plain "com/example/rillstream/rillstream/mysql/StatementTokens$Quoting" (some 2) with
  accessFlags := 48
  interfaces := #[]
  cf := some (fileOf pool3 8 #[.nestHost 52] #[{ accessFlags := 0, nameIndex := 5, descriptorIndex := 22, attributes := #[] }, { accessFlags := 8, nameIndex := 42, descriptorIndex := 43, attributes := #[] }, { accessFlags := 1, nameIndex := 11, descriptorIndex := 48, attributes := #[] }, { accessFlags := 1, nameIndex := 15, descriptorIndex := 48, attributes := #[] }] 48 2 #[] #[{ accessFlags := 18, nameIndex := 11, descriptorIndex := 12, attributes := #[] }, { accessFlags := 18, nameIndex := 15, descriptorIndex := 12, attributes := #[] }, { accessFlags := 26, nameIndex := 35, descriptorIndex := 36, attributes := #[] }, { accessFlags := 26, nameIndex := 38, descriptorIndex := 36, attributes := #[] }])
  fields := #[{ name := "ansiQuotes", type := .boolean, accessFlags := 18, slot := 0, constantValue := 0 }, { name := "backslashEscapes", type := .boolean, accessFlags := 18, slot := 1, constantValue := 0 }, { name := "ANSI_QUOTES", type := .long, accessFlags := 26, slot := 0, constantValue := 0 }, { name := "NO_BACKSLASH_ESCAPES", type := .long, accessFlags := 26, slot := 1, constantValue := 0 }]
  methods := #[k3m0, k3m1, k3m2, k3m3]
  instanceTypes := #[.boolean, .boolean]
  staticTypes := #[.long, .long]
  resolved := Array.replicate 74 none
  statics := none }

def pool4 : Array CpInfo := pool [(1, u "java/lang/Cloneable"), (0, .class_ 1), (0, u "java/lang/Object"), (0, .class_ 3)] 3

/-- java/lang/Cloneable -/
def k4 : Class := { plain "java/lang/Cloneable" (some 0) with
  accessFlags := 1537
  interfaces := #[]
  cf := some (fileOf pool4 2 #[] #[] 1537 4 #[] #[])
  fields := #[]
  methods := #[]
  instanceTypes := #[]
  staticTypes := #[]
  resolved := Array.replicate 8 none
  statics := none }

def pool5 : Array CpInfo := pool [(1, u "java/io/Serializable"), (0, .class_ 1), (0, u "java/lang/Object"), (0, .class_ 3)] 3

/-- java/io/Serializable -/
def k5 : Class := { plain "java/io/Serializable" (some 0) with
  accessFlags := 1537
  interfaces := #[]
  cf := some (fileOf pool5 2 #[] #[] 1537 4 #[] #[])
  fields := #[]
  methods := #[]
  instanceTypes := #[]
  staticTypes := #[]
  resolved := Array.replicate 8 none
  statics := none }

/-- the primitive byte -/
def k6 : Class := { plain "byte" none with kind := .primitive 'B', accessFlags := 0x411 }
/-- [B -/
def k7 : Class := { plain "[B" (some 0) with kind := .array 6 .byte, interfaces := #[4, 5], accessFlags := 1041 }

/-- the primitive int -/
def k8 : Class := { plain "int" none with kind := .primitive 'I', accessFlags := 0x411 }
/-- [I -/
def k9 : Class := { plain "[I" (some 0) with kind := .array 8 .int, interfaces := #[4, 5], accessFlags := 1041 }

def heap : Heap := #[]
def classes : Array Class := #[k0, k1, k2, k3, k4, k5, k6, k7, k8, k9]
def interned : List (Array UInt16 × Addr) := []
def slotsUsed : Nat := 0
def theMethod : MethodId := ⟨1, 1⟩
def args0 : Array Value := #[.long 5]
def aboutOver (below : List Frame) : State where
  vm := { classes := classes, interned := interned.toArray }
  heap := heap
  slotsUsed := slotsUsed
  threads := #[{ frames := .invoking theMethod args0 :: below }]
def below0 : List Frame := [.native { method := ⟨0, 0⟩, args := #[] }]
def about1 : State := aboutOver below0
def p0 : Program := .bare "" "" ""
def e0 : Env := launch0.env 0 0 0
theorem w_frames : about1.frames = Frame.invoking theMethod args0 :: below0 := rfl
set_option maxRecDepth 65536 in
theorem w_args : argsFit about1.vm theMethod args0 = true := by decide +kernel
set_option maxRecDepth 65536 in
theorem w_heap : heapFits about1 = true := by decide +kernel
set_option maxRecDepth 65536 in
theorem w_runnable : about1.curStatus? = some .runnable := by decide +kernel
set_option maxRecDepth 65536 in
theorem w_alone : about1.alone = true := by decide +kernel
set_option maxRecDepth 65536 in
theorem w_named : about1.methodNamed? x = some theMethod := by decide +kernel
set_option maxRecDepth 65536 in
theorem w_hears : about1.hears theMethod below0 = true := by decide +kernel
set_option maxRecDepth 65536 in
theorem w_ripe : about1.ripe theMethod args0 below0 = true := by decide +kernel
theorem w_running : about1.status = .running := rfl
set_option maxRecDepth 65536 in
theorem w_room : about1.hasRoom e0.platform room_1 = true :=
  launch0.hasRoom_least _ room_1 (by decide +kernel) (by decide +kernel) (by decide +kernel) (by decide +kernel) (by decide +kernel) (by decide +kernel)
theorem allAtoms_all (ts : List Jvm.Cond) (a : Array Jvm.Value) (st : Jvm.State) : (allAtoms ts).before a st = ts.all (fun c => c.before a st) := by
  induction ts with
  | nil => rfl
  | cons c t ih =>
    show (Jvm.Cond.and c (allAtoms t)).before a st = _
    rw [Jvm.Cond.before_and, ih, List.all_cons]
def words1 : List Jvm.Cond := Jvm.Cond.code x code maxLocals ret :: tables_1
/-- a 'code' word, met by the world's own term for the bytes: nothing is compared byte by byte -/
theorem code_word {y : MethodName} {bytes : ByteArray} {mx : Nat} {rt : Option FieldType} {a : Array Value} {s : State} {m : MethodId} {meth : Method} {c : Code} (h1 : s.methodNamed? y = some m) (h2 : s.vm.method? m = some meth) (h3 : meth.code = some c) (h4 : c.code = bytes)
    (h5 : (c.maxLocals == mx && c.exceptionTable.isEmpty && decide (c.maxStack ≤ mostOperands) && decide (meth.sig.returnType = rt) && !meth.locks && decide (parseMethodDescriptor y.desc = some meth.sig)) = true) : (Jvm.Cond.code y bytes mx rt).before a s = true := by
  simp only [Bool.and_eq_true, beq_iff_eq, Bool.not_eq_true', decide_eq_true_eq] at h5
  obtain ⟨⟨⟨⟨⟨g1, g2⟩, g3⟩, g4⟩, g5⟩, g6⟩ := h5
  simp [Cond.before, Cond.holds, Cond.value, h1, h2, h3, h4, g1, g2, g3, g4, g5, g6]
def isCode : Jvm.Cond → Bool
  | .code _ _ _ _ => true
  | _ => false
theorem all_split {L : List Jvm.Cond} {P : Jvm.Cond → Bool} (h1 : L.all (fun c => isCode c || P c) = true) (h2 : ∀ c ∈ L.filter isCode, P c = true) : L.all P = true := by
  refine List.all_eq_true.mpr fun c hc => ?_
  have h := List.all_eq_true.mp h1 c hc
  rcases Bool.eq_false_or_eq_true (isCode c) with hi | hi
  · exact h2 c (List.mem_filter.mpr ⟨hc, hi⟩)
  · simpa [hi] using h
set_option maxRecDepth 65536 in
theorem w_c0 : (Jvm.Cond.code x code maxLocals ret).before args0 about1 = true := code_word (m := ⟨1, 1⟩) (meth := k1m1) (c := k1c1) (by decide +kernel) rfl rfl rfl (by decide +kernel)
set_option maxRecDepth 65536 in
theorem w_c1 : (Jvm.Cond.code ({ cls := "com/example/rillstream/rillstream/mysql/StatementTokens$Quoting", name := "of", desc := "(J)Lcom/example/rillstream/rillstream/mysql/StatementTokens$Quoting;" } : Jvm.MethodName) prog_14_method_2_code (2 : Nat) (Option.some (Jvm.ClassFile.FieldType.object "com/example/rillstream/rillstream/mysql/StatementTokens$Quoting"))).before args0 about1 = true := code_word (m := ⟨3, 1⟩) (meth := k3m1) (c := k3c1) (by decide +kernel) rfl rfl rfl (by decide +kernel)
set_option maxRecDepth 65536 in
theorem w_c2 : (Jvm.Cond.code ({ cls := "com/example/rillstream/rillstream/mysql/StatementTokens$Quoting", name := "<init>", desc := "(ZZ)V" } : Jvm.MethodName) prog_14_method_1_code (3 : Nat) (Option.none : Option Jvm.ClassFile.FieldType)).before args0 about1 = true := code_word (m := ⟨3, 0⟩) (meth := k3m0) (c := k3c0) (by decide +kernel) rfl rfl rfl (by decide +kernel)
set_option maxRecDepth 65536 in
theorem w_c3 : (Jvm.Cond.code ({ cls := "java/lang/Record", name := "<init>", desc := "()V" } : Jvm.MethodName) jdk_30_method_1_code (1 : Nat) (Option.none : Option Jvm.ClassFile.FieldType)).before args0 about1 = true := code_word (m := ⟨2, 0⟩) (meth := k2m0) (c := k2c0) (by decide +kernel) rfl rfl rfl (by decide +kernel)
set_option maxRecDepth 65536 in
theorem w_c4 : (Jvm.Cond.code ({ cls := "java/lang/Object", name := "<init>", desc := "()V" } : Jvm.MethodName) object_method_1_code (1 : Nat) (Option.none : Option Jvm.ClassFile.FieldType)).before args0 about1 = true := code_word (m := ⟨0, 0⟩) (meth := k0m0) (c := k0c0) (by decide +kernel) rfl rfl rfl (by decide +kernel)
set_option maxRecDepth 65536 in
theorem w_c5 : (Jvm.Cond.code ({ cls := "com/example/rillstream/rillstream/mysql/StatementTokens$Quoting", name := "ansiQuotes", desc := "()Z" } : Jvm.MethodName) prog_14_method_6_code (1 : Nat) (Option.some Jvm.ClassFile.FieldType.boolean)).before args0 about1 = true := code_word (m := ⟨3, 2⟩) (meth := k3m2) (c := k3c2) (by decide +kernel) rfl rfl rfl (by decide +kernel)
set_option maxRecDepth 65536 in
theorem w_c6 : (Jvm.Cond.code ({ cls := "com/example/rillstream/rillstream/mysql/StatementTokens$Quoting", name := "backslashEscapes", desc := "()Z" } : Jvm.MethodName) prog_14_method_7_code (1 : Nat) (Option.some Jvm.ClassFile.FieldType.boolean)).before args0 about1 = true := code_word (m := ⟨3, 3⟩) (meth := k3m3) (c := k3c3) (by decide +kernel) rfl rfl rfl (by decide +kernel)
def codes1 : List Jvm.Cond := [Jvm.Cond.code x code maxLocals ret, Jvm.Cond.code ({ cls := "com/example/rillstream/rillstream/mysql/StatementTokens$Quoting", name := "of", desc := "(J)Lcom/example/rillstream/rillstream/mysql/StatementTokens$Quoting;" } : Jvm.MethodName) prog_14_method_2_code (2 : Nat) (Option.some (Jvm.ClassFile.FieldType.object "com/example/rillstream/rillstream/mysql/StatementTokens$Quoting")), Jvm.Cond.code ({ cls := "com/example/rillstream/rillstream/mysql/StatementTokens$Quoting", name := "<init>", desc := "(ZZ)V" } : Jvm.MethodName) prog_14_method_1_code (3 : Nat) (Option.none : Option Jvm.ClassFile.FieldType), Jvm.Cond.code ({ cls := "java/lang/Record", name := "<init>", desc := "()V" } : Jvm.MethodName) jdk_30_method_1_code (1 : Nat) (Option.none : Option Jvm.ClassFile.FieldType), Jvm.Cond.code ({ cls := "java/lang/Object", name := "<init>", desc := "()V" } : Jvm.MethodName) object_method_1_code (1 : Nat) (Option.none : Option Jvm.ClassFile.FieldType), Jvm.Cond.code ({ cls := "com/example/rillstream/rillstream/mysql/StatementTokens$Quoting", name := "ansiQuotes", desc := "()Z" } : Jvm.MethodName) prog_14_method_6_code (1 : Nat) (Option.some Jvm.ClassFile.FieldType.boolean), Jvm.Cond.code ({ cls := "com/example/rillstream/rillstream/mysql/StatementTokens$Quoting", name := "backslashEscapes", desc := "()Z" } : Jvm.MethodName) prog_14_method_7_code (1 : Nat) (Option.some Jvm.ClassFile.FieldType.boolean)]
set_option maxRecDepth 65536 in
theorem codes_eq : words1.filter isCode = codes1 := rfl
theorem w_codes : ∀ c ∈ words1.filter isCode, c.before args0 about1 = true := by
  rw [codes_eq]
  intro c hc
  simp only [codes1, List.mem_cons, List.not_mem_nil, or_false] at hc
  rcases hc with rfl | rfl | rfl | rfl | rfl | rfl | rfl
  · exact w_c0
  · exact w_c1
  · exact w_c2
  · exact w_c3
  · exact w_c4
  · exact w_c5
  · exact w_c6
set_option maxRecDepth 65536 in
theorem w_t1 : (words1.take 24).all (fun c => isCode c || c.before args0 about1) = true := by decide +kernel
set_option maxRecDepth 65536 in
theorem w_t2 : (words1.drop 24).all (fun c => isCode c || c.before args0 about1) = true := by decide +kernel
theorem w_tables : (allAtoms (Jvm.Cond.code x code maxLocals ret :: tables_1)).before args0 about1 = true := by
  rw [allAtoms_all]
  show words1.all (fun c => c.before args0 about1) = true
  refine all_split ?_ w_codes
  rw [← List.take_append_drop 24 words1, List.all_append, w_t1, w_t2]
  rfl
set_option maxRecDepth 65536 in
theorem w_case : (Jvm.Cond.and given_1 narrow_1).before args0 about1 = true := by decide +kernel
theorem w_applies : (headSpec (Jvm.Cond.code x code maxLocals ret :: tables_1) room_1).applies x e0.platform about1 = true :=
  (Spec.applies_iff w_frames).mpr ⟨w_running, w_runnable, w_alone, w_named, w_hears, w_ripe, w_room, w_tables⟩
theorem atStart : AtStart classFile x code maxLocals ret World_1 tables_1 room_1 Calls_1 rest_1 Pre_1 launch0 p0 e0 about1 theMethod args0 below0 :=
  ⟨lists_1, trivial, launch0.admits_env _ _ _, launch0.least_env, fairChoices_fair.cas, fairChoices_fair.clock, w_frames, w_args, w_heap, w_applies, trivial, trivial, w_case⟩
end start1
theorem witness_1 : WitnessClaimed_1 := ⟨start1.p0, start1.e0, start1.about1, start1.theMethod, start1.args0, start1.below0, start1.atStart⟩
end Jvm.Pilot.@@N@@
