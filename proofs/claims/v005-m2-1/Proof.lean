import JvmDerived
import JvmDerived.Pilot.@@N@@Statement
import JvmDerived.Pilot.@@N@@Code
set_option linter.unusedVariables false
set_option linter.unusedSimpArgs false
namespace Jvm.RoadKit
open Sem ClassFile Op Lib Jvm.Stand Jvm.Free Jvm.LawKit
section New
variable {p : Program} {l : Launch} {e : Env} {R : Room} {s : State} {m : MethodId} {args : Array Value} {below : List Frame} {meth : Method} {c : Code} {T : State} {locs : List Loc} {cells slots : Nat}
theorem retI (X : Stand p l e R s m args below meth c T locs cells slots) (hx : p.tables.exec = Jvm.exec) {pc : Nat} {Ls : Array Slot} {z : Int32} {rest : List Value} (hret : meth.sig.returnType = some .int) (hd : decode c.code pc = .ok (.ireturn, 1)) {fs : List Frame}
    (hl : ∀ (f : JFrame) (acts : List Action), f.method = m → f.locked = none → f.entered = [] → (doReturn e (T.setTop f) acts (some (.int z))).1 = T.setFrames fs) : Steps p.tables e below (T.setTop (mkF m pc Ls (.int z :: rest))) (T.setFrames fs) := by
  have hm' : T.vm.method? m = some meth := X.method'
  have hn : narrow .int (.int z) = .int z := rfl
  show Steps p.tables e below (T.setTop { method := m, pc := pc, locals := Ls, stack := _ :: rest, locked := none }) _
  jvm_step X.here [X.here.top, hx, hd, hm', hret, hn]
  first | (intro acts; rw [hl _ acts rfl rfl rfl]) | rw [hl _ _ rfl rfl rfl]
  exact Steps.refl _
end New
end Jvm.RoadKit
namespace Jvm.Pilot.@@N@@
open Jvm Jvm.ClassFile Sem Op Lib Jvm.Free Jvm.Stand Jvm.LawKit Jvm.RoadKit Bundle Jvm.Pilot.@@N@@.Jvm.D
theorem own_lc_lt (x y : Int64) : lcmpW x y < 0 ↔ x < y := by rw [lcW]; exact lc_lt x y
theorem own_lc_gt (x y : Int64) : 0 < lcmpW x y ↔ y < x := by rw [lcW]; exact lc_gt x y
theorem own_lc_eq (x y : Int64) : lcmpW x y = 0 ↔ x = y := by rw [lcW]; exact lc_eq x y
theorem own_ri {P : Prop} [Decidable P] {a b : Value} (h1 : a.isRef = true) (h2 : b.isRef = true) : (if P then a else b).isRef = true := by
  by_cases h : P
  · rw [if_pos h]; exact h1
  · rw [if_neg h]; exact h2
theorem own_sta_keep {Z : State} {h h' : Heap} {C n d : String} {w : Value} {ws : List Addr} (F : Sta Z h C n d w) (K : Keep h h' ws) (q : ∀ x ∈ ws, ∀ cell : Cell, h[x]? = some cell → cell.vm.isStatics = false) : Sta Z h' C n d w := by
  obtain ⟨cf, i, k, f, st, cell, h1, h2, h3, h4, h5, h6, h7⟩ := F
  exact ⟨cf, i, k, f, st, cell, h1, h2, h3, h4, K.2.1 st cell h5 (fun z => by rw [q st z cell h5] at h6; cases h6), h6, h7⟩
theorem pd_0 : parseMethodDescriptor "(II)I" = some ⟨[.int, .int], some .int⟩ := by decide +kernel
theorem pd_1 : parseMethodDescriptor "([III)Lcom/example/libbisim/libbisim/CompactInts;" = some ⟨[(.array .int), .int, .int], some (.object "com/example/libbisim/libbisim/CompactInts")⟩ := by decide +kernel
theorem pd_2 : parseMethodDescriptor "([B[C[I)V" = some ⟨[(.array .byte), (.array .char), (.array .int)], none⟩ := by decide +kernel
theorem pd_3 : parseMethodDescriptor "()V" = some ⟨[], none⟩ := by decide +kernel
theorem pd_4 : parseMethodDescriptor "([II)[I" = some ⟨[(.array .int), .int], some (.array .int)⟩ := by decide +kernel
theorem pd_5 : parseMethodDescriptor "(Ljava/lang/Object;ILjava/lang/Object;II)V" = some ⟨[(.object "java/lang/Object"), .int, (.object "java/lang/Object"), .int, .int], none⟩ := by decide +kernel
theorem pd_6 : parseMethodDescriptor "(I)I" = some ⟨[.int], some .int⟩ := by decide +kernel
theorem pd_7 : parseMethodDescriptor "(B)I" = some ⟨[.byte], some .int⟩ := by decide +kernel
theorem own_b8 {x : Int32} (h0 : 0 ≤ x.toInt) (h1 : x.toInt < 256) : (nar .byte (x.toInt8.toInt32)) &&& (255 : Int32) = x := by
  show ((x.toInt8.toInt32).toInt8.toInt32) &&& (255 : Int32) = x
  apply Int32.toInt_inj.mp
  have a := c_i2b x
  have b := c_i2b (x.toInt8.toInt32)
  have c : ((x.toInt8.toInt32).toInt8.toInt32 &&& (255 : Int32)).toInt = ((x.toInt8.toInt32).toInt8.toInt32).toInt % 256 := c_mask _ 255 8 (by decide) rfl
  omega
theorem own_c16 {x : Int32} (h0 : 0 ≤ x.toInt) (h1 : x.toInt < 65536) : nar .char (x.toUInt32.toUInt16.toUInt32.toInt32) = x := by
  show (x.toUInt32.toUInt16.toUInt32.toInt32).toUInt32.toUInt16.toUInt32.toInt32 = x
  apply Int32.toInt_inj.mp
  have a := c_i2c x
  have b := c_i2c (x.toUInt32.toUInt16.toUInt32.toInt32)
  omega
theorem own_bd (y : Int32) : 0 < (if (1 : Int32) < y then y else (1 : Int32)).toInt := by
  by_cases h : (1 : Int32) < y
  · rw [if_pos h]; rw [Int32.lt_iff_toInt_lt, show (1 : Int32).toInt = 1 from rfl] at h; omega
  · rw [if_neg h]; decide
theorem own_rem {x b : Int32} (h : 0 < b.toInt) : 0 ≤ ((x &&& (2147483647 : Int32)) % b).toInt ∧ ((x &&& (2147483647 : Int32)) % b).toInt < b.toInt := by
  have a := (c_and x (2147483647 : Int32) (by decide)).1
  have c := (c_iremV (x &&& (2147483647 : Int32)) b).1 a h
  exact ⟨c.1, c.2.1⟩
theorem own_l5 (x : Int32) : ((x &&& (7 : Int32)) % (5 : Int32)) = 0 ∨ ((x &&& (7 : Int32)) % (5 : Int32)) = 1 ∨ ((x &&& (7 : Int32)) % (5 : Int32)) = 2 ∨ ((x &&& (7 : Int32)) % (5 : Int32)) = 3 ∨ ((x &&& (7 : Int32)) % (5 : Int32)) = 4 := by
  have a := (c_and x (7 : Int32) (by decide)).1
  have e := (c_irem (x &&& (7 : Int32)) (5 : Int32) 5 rfl).1 a
  simp only [← Int32.toInt_inj, show (0 : Int32).toInt = 0 from rfl, show (1 : Int32).toInt = 1 from rfl, show (2 : Int32).toInt = 2 from rfl, show (3 : Int32).toInt = 3 from rfl, show (4 : Int32).toInt = 4 from rfl]
  omega
theorem own_nz {b : Int32} (h : 0 < b.toInt) : ¬ b = 0 := fun q => by rw [q] at h; exact absurd h (by decide)
theorem own_nlt {a b c : Int32} (h : ¬ a < b) (k : a.toInt ≤ c.toInt) : ¬ c < b := by
  rw [Int32.lt_iff_toInt_lt] at h ⊢; omega
theorem own_le {b : Int32} {n : Int} {c : Int32} (hc : c.toInt = n) (h : ¬ c < b) : b.toInt ≤ n := by
  rw [Int32.lt_iff_toInt_lt] at h; omega
theorem d1_0 : decode jdk_29_method_65_code 0 = .ok (.iload_n 0, 1) := by decide +kernel
theorem d1_1 : decode jdk_29_method_65_code 1 = .ok (.iload_n 1, 1) := by decide +kernel
theorem d1_2 : decode jdk_29_method_65_code 2 = .ok (.if_icmp .lt 7, 3) := by decide +kernel
theorem d1_5 : decode jdk_29_method_65_code 5 = .ok (.iload_n 0, 1) := by decide +kernel
theorem d1_6 : decode jdk_29_method_65_code 6 = .ok (.goto 4, 3) := by decide +kernel
theorem d1_9 : decode jdk_29_method_65_code 9 = .ok (.iload_n 1, 1) := by decide +kernel
theorem d1_10 : decode jdk_29_method_65_code 10 = .ok (.ireturn, 1) := by decide +kernel
theorem ef_rm1 (m : MethodId) (x0 : Int32) (x1 : Int32) : entryFrame m #[(.int x0), (.int x1)] 2 = mkF m 0 #[.val (.int x0), .val (.int x1)] [] := by first | (simp [entryFrame, mkF, argsToLocals, Value.category]; done) | rfl
def Q_rm1 (Z : State) (p0 : Int32) (p1 : Int32) (h0 : Heap) (n0 : Nat) (v : Option Value) (h : Heap) (L : List Loc) : Prop := v = some (.int (if p0 < p1 then p1 else p0)) ∧ Fr n0 L ∧ h = h0
set_option maxRecDepth 65536 in
set_option maxHeartbeats 40000000 in
theorem rm1 (l : Launch) (Z : State) (a0 : Array Value) (hw : ∀ d ∈ tables_1, d.before a0 Z = true) (ws : List Jvm.Cond) (p0 : Int32) (p1 : Int32) (h0 : Heap) (n0 : Nat) (Z0 : n0 ≤ h0.size) :
    MetFree l (⟨"java/lang/Math", "max", "(II)I"⟩ : MethodName) (head1 (Jvm.Cond.code (⟨"java/lang/Math", "max", "(II)I"⟩ : MethodName) jdk_29_method_65_code 2 (some .int) :: ws) ({ frames := 0, cells := 0, slots := 0, locals := 0 } : Room)) (fun a U => a = #[(.int p0), (.int p1)] ∧ Z.Warmed39 U.vm ∧ U.heap = h0) (fun _ _ _ _ _ => True) (fun _ U o U' => ∃ v L, o = .returned v ∧ Q_rm1 Z p0 p1 h0 n0 v U'.heap L ∧ FrameEnd U o U' L ({ frames := 0, cells := 0, slots := 0, locals := 0 } : Room).cells ({ frames := 0, cells := 0, slots := 0, locals := 0 } : Room).slots) := by
  refine MetFree.of_bodySF (Jvm.Free.JP.mathPlain rfl (by decide +kernel)) hisR ?_
  intro p e s m args below meth c s₁ Bd hml0 hP hK
  obtain ⟨rfl, hZ, hh⟩ := hP
  have hx := Bd.exec
  have hby := Bd.bytes
  have hml : c.maxLocals = 2 := hml0
  have hown : s.vm.findClass "java/lang/Math" = some m.cls := findClass_of_methodNamed Bd.named
  have hnm := (name_of_methodNamed Bd.named Bd.method).1
  have X0 : Stand p l e ({ frames := 0, cells := 0, slots := 0, locals := 0 } : Room) s m #[(.int p0), (.int p1)] below meth c s₁ [] 0 0 := Stand.of_body Bd
  have e0 : s₁.heap = h0 := by rw [← hh, Bd.state]; rfl
  have N0 := Fr.nil n0
  have pre0 : ∀ t, Steps p.tables e below (s₁.setTop (mkF m 0 #[.val (.int p0), .val (.int p1)] [])) t → Steps p.tables e below (s₁.setTop (entryFrame m #[(.int p0), (.int p1)] 2)) t := fun t k => castTop (ef_rm1 m p0 p1) k
  obtain ⟨fs, hr, hrun, hended, hW, hsame⟩ := X0.leave (v := some (.int (if p0 < p1 then p1 else p0))) (fun h => by rw [Bd.returns] at h; cases h)
  refine ⟨_, _, pre0 _ ?_, hrun, hended, _, _, rfl, ?_, ⟨_, rfl⟩, hW, hsame.mono (by decide) (by decide)⟩
  · refine XS.iloadN X0.here hx rfl (hb hby d1_0) rfl ?_
    refine XS.iloadN X0.here hx rfl (hb hby d1_1) rfl ?_
    by_cases hc2 : p0 < p1
    · rw [if_pos hc2] at hr
      refine XS.icmpYes X0.here hx rfl (pc0 := 2) (pc' := 9) rfl (hb hby d1_2) rfl (tlt hc2).1 (by decide) (by decide) ?_
      refine XS.iloadN X0.here hx rfl (hb hby d1_9) rfl ?_
      show Steps p.tables e below (s₁.setTop (mkF m 10 #[.val (.int p0), .val (.int p1)] [(.int p1)])) _
      exact retI X0 hx Bd.returns (hb hby d1_10) hr
    · rw [if_neg hc2] at hr
      refine XS.icmpNo X0.here hx rfl (hb hby d1_2) rfl (flt hc2).1 ?_
      refine XS.iloadN X0.here hx rfl (hb hby d1_5) rfl ?_
      refine XS.goto X0.here hx rfl (pc0 := 6) (pc' := 10) rfl (hb hby d1_6) (by decide) (by decide) ?_
      show Steps p.tables e below (s₁.setTop (mkF m 10 #[.val (.int p0), .val (.int p1)] [(.int p0)])) _
      exact retI X0 hx Bd.returns (hb hby d1_10) hr
  · show Q_rm1 Z p0 p1 h0 n0 _ s₁.heap _
    rw [e0]
    exact ⟨rfl, N0, rfl⟩
theorem d6_0 : decode jdk_29_method_69_code 0 = .ok (.iload_n 0, 1) := by decide +kernel
theorem d6_1 : decode jdk_29_method_69_code 1 = .ok (.iload_n 1, 1) := by decide +kernel
theorem d6_2 : decode jdk_29_method_69_code 2 = .ok (.if_icmp .gt 7, 3) := by decide +kernel
theorem d6_5 : decode jdk_29_method_69_code 5 = .ok (.iload_n 0, 1) := by decide +kernel
theorem d6_6 : decode jdk_29_method_69_code 6 = .ok (.goto 4, 3) := by decide +kernel
theorem d6_9 : decode jdk_29_method_69_code 9 = .ok (.iload_n 1, 1) := by decide +kernel
theorem d6_10 : decode jdk_29_method_69_code 10 = .ok (.ireturn, 1) := by decide +kernel
theorem ef_rm6 (m : MethodId) (x0 : Int32) (x1 : Int32) : entryFrame m #[(.int x0), (.int x1)] 2 = mkF m 0 #[.val (.int x0), .val (.int x1)] [] := by first | (simp [entryFrame, mkF, argsToLocals, Value.category]; done) | rfl
def Q_rm6 (Z : State) (p0 : Int32) (p1 : Int32) (h0 : Heap) (n0 : Nat) (v : Option Value) (h : Heap) (L : List Loc) : Prop := v = some (.int (if p1 < p0 then p1 else p0)) ∧ Fr n0 L ∧ h = h0
set_option maxRecDepth 65536 in
set_option maxHeartbeats 40000000 in
theorem rm6 (l : Launch) (Z : State) (a0 : Array Value) (hw : ∀ d ∈ tables_1, d.before a0 Z = true) (ws : List Jvm.Cond) (p0 : Int32) (p1 : Int32) (h0 : Heap) (n0 : Nat) (Z0 : n0 ≤ h0.size) :
    MetFree l (⟨"java/lang/Math", "min", "(II)I"⟩ : MethodName) (head1 (Jvm.Cond.code (⟨"java/lang/Math", "min", "(II)I"⟩ : MethodName) jdk_29_method_69_code 2 (some .int) :: ws) ({ frames := 0, cells := 0, slots := 0, locals := 0 } : Room)) (fun a U => a = #[(.int p0), (.int p1)] ∧ Z.Warmed39 U.vm ∧ U.heap = h0) (fun _ _ _ _ _ => True) (fun _ U o U' => ∃ v L, o = .returned v ∧ Q_rm6 Z p0 p1 h0 n0 v U'.heap L ∧ FrameEnd U o U' L ({ frames := 0, cells := 0, slots := 0, locals := 0 } : Room).cells ({ frames := 0, cells := 0, slots := 0, locals := 0 } : Room).slots) := by
  refine MetFree.of_bodySF (Jvm.Free.JP.mathPlain rfl (by decide +kernel)) hisR ?_
  intro p e s m args below meth c s₁ Bd hml0 hP hK
  obtain ⟨rfl, hZ, hh⟩ := hP
  have hx := Bd.exec
  have hby := Bd.bytes
  have hml : c.maxLocals = 2 := hml0
  have hown : s.vm.findClass "java/lang/Math" = some m.cls := findClass_of_methodNamed Bd.named
  have hnm := (name_of_methodNamed Bd.named Bd.method).1
  have X0 : Stand p l e ({ frames := 0, cells := 0, slots := 0, locals := 0 } : Room) s m #[(.int p0), (.int p1)] below meth c s₁ [] 0 0 := Stand.of_body Bd
  have e0 : s₁.heap = h0 := by rw [← hh, Bd.state]; rfl
  have N0 := Fr.nil n0
  have pre0 : ∀ t, Steps p.tables e below (s₁.setTop (mkF m 0 #[.val (.int p0), .val (.int p1)] [])) t → Steps p.tables e below (s₁.setTop (entryFrame m #[(.int p0), (.int p1)] 2)) t := fun t k => castTop (ef_rm6 m p0 p1) k
  obtain ⟨fs, hr, hrun, hended, hW, hsame⟩ := X0.leave (v := some (.int (if p1 < p0 then p1 else p0))) (fun h => by rw [Bd.returns] at h; cases h)
  refine ⟨_, _, pre0 _ ?_, hrun, hended, _, _, rfl, ?_, ⟨_, rfl⟩, hW, hsame.mono (by decide) (by decide)⟩
  · refine XS.iloadN X0.here hx rfl (hb hby d6_0) rfl ?_
    refine XS.iloadN X0.here hx rfl (hb hby d6_1) rfl ?_
    by_cases hc2 : p1 < p0
    · rw [if_pos hc2] at hr
      refine XS.icmpYes X0.here hx rfl (pc0 := 2) (pc' := 9) rfl (hb hby d6_2) rfl (tlt hc2).2.2.1 (by decide) (by decide) ?_
      refine XS.iloadN X0.here hx rfl (hb hby d6_9) rfl ?_
      show Steps p.tables e below (s₁.setTop (mkF m 10 #[.val (.int p0), .val (.int p1)] [(.int p1)])) _
      exact retI X0 hx Bd.returns (hb hby d6_10) hr
    · rw [if_neg hc2] at hr
      refine XS.icmpNo X0.here hx rfl (hb hby d6_2) rfl (flt hc2).2.2.1 ?_
      refine XS.iloadN X0.here hx rfl (hb hby d6_5) rfl ?_
      refine XS.goto X0.here hx rfl (pc0 := 6) (pc' := 10) rfl (hb hby d6_6) (by decide) (by decide) ?_
      show Steps p.tables e below (s₁.setTop (mkF m 10 #[.val (.int p0), .val (.int p1)] [(.int p0)])) _
      exact retI X0 hx Bd.returns (hb hby d6_10) hr
  · show Q_rm6 Z p0 p1 h0 n0 _ s₁.heap _
    rw [e0]
    exact ⟨rfl, N0, rfl⟩
theorem d8_0 : decode jdk_2056_method_24_code 0 = .ok (.iload_n 0, 1) := by decide +kernel
theorem d8_1 : decode jdk_2056_method_24_code 1 = .ok (.sipush 255, 3) := by decide +kernel
theorem d8_4 : decode jdk_2056_method_24_code 4 = .ok (.iand, 1) := by decide +kernel
theorem d8_5 : decode jdk_2056_method_24_code 5 = .ok (.ireturn, 1) := by decide +kernel
theorem pn_0 : plainName "java/lang/Byte" = true := by first | (simp [plainName, overriddenIn]; done) | decide +kernel
theorem ef_rm8 (m : MethodId) (x0 : Int32) : entryFrame m #[(.int x0)] 1 = mkF m 0 #[.val (.int x0)] [] := by first | (simp [entryFrame, mkF, argsToLocals, Value.category]; done) | rfl
def Q_rm8 (Z : State) (p0 : Int32) (h0 : Heap) (n0 : Nat) (v : Option Value) (h : Heap) (L : List Loc) : Prop := v = some (.int (p0 &&& (255 : Int32))) ∧ Fr n0 L ∧ h = h0
set_option maxRecDepth 65536 in
set_option maxHeartbeats 40000000 in
theorem rm8 (l : Launch) (Z : State) (a0 : Array Value) (hw : ∀ d ∈ tables_1, d.before a0 Z = true) (ws : List Jvm.Cond) (p0 : Int32) (h0 : Heap) (n0 : Nat) (Z0 : n0 ≤ h0.size) :
    MetFree l (⟨"java/lang/Byte", "toUnsignedInt", "(B)I"⟩ : MethodName) (head1 (Jvm.Cond.code (⟨"java/lang/Byte", "toUnsignedInt", "(B)I"⟩ : MethodName) jdk_2056_method_24_code 1 (some .int) :: ws) ({ frames := 0, cells := 0, slots := 0, locals := 0 } : Room)) (fun a U => a = #[(.int p0)] ∧ Z.Warmed39 U.vm ∧ U.heap = h0) (fun _ _ _ _ _ => True) (fun _ U o U' => ∃ v L, o = .returned v ∧ Q_rm8 Z p0 h0 n0 v U'.heap L ∧ FrameEnd U o U' L ({ frames := 0, cells := 0, slots := 0, locals := 0 } : Room).cells ({ frames := 0, cells := 0, slots := 0, locals := 0 } : Room).slots) := by
  refine MetFree.of_bodySF (plainFor_of_name pn_0) hisR ?_
  intro p e s m args below meth c s₁ Bd hml0 hP hK
  obtain ⟨rfl, hZ, hh⟩ := hP
  have hx := Bd.exec
  have hby := Bd.bytes
  have hml : c.maxLocals = 1 := hml0
  have hown : s.vm.findClass "java/lang/Byte" = some m.cls := findClass_of_methodNamed Bd.named
  have hnm := (name_of_methodNamed Bd.named Bd.method).1
  have X0 : Stand p l e ({ frames := 0, cells := 0, slots := 0, locals := 0 } : Room) s m #[(.int p0)] below meth c s₁ [] 0 0 := Stand.of_body Bd
  have e0 : s₁.heap = h0 := by rw [← hh, Bd.state]; rfl
  have N0 := Fr.nil n0
  have pre0 : ∀ t, Steps p.tables e below (s₁.setTop (mkF m 0 #[.val (.int p0)] [])) t → Steps p.tables e below (s₁.setTop (entryFrame m #[(.int p0)] 1)) t := fun t k => castTop (ef_rm8 m p0) k
  obtain ⟨fs, hr, hrun, hended, hW, hsame⟩ := X0.leave (v := some (.int (p0 &&& (255 : Int32)))) (fun h => by rw [Bd.returns] at h; cases h)
  refine ⟨_, _, pre0 _ ?_, hrun, hended, _, _, rfl, ?_, ⟨_, rfl⟩, hW, hsame.mono (by decide) (by decide)⟩
  · refine XS.iloadN X0.here hx rfl (hb hby d8_0) rfl ?_
    refine XS.sipush X0.here hx rfl (hb hby d8_1) ?_
    refine XS.iand X0.here hx rfl (hb hby d8_4) rfl ?_
    show Steps p.tables e below (s₁.setTop (mkF m 5 #[.val (.int p0)] [(.int (p0 &&& (255 : Int32)))])) _
    exact retI X0 hx Bd.returns (hb hby d8_5) hr
  · show Q_rm8 Z p0 h0 n0 _ s₁.heap _
    rw [e0]
    exact ⟨rfl, N0, rfl⟩
theorem d5_0 : decode jdk_65_method_123_code 0 = .ok (.iload_n 1, 1) := by decide +kernel
theorem d5_1 : decode jdk_65_method_123_code 1 = .ok (.aload_n 0, 1) := by decide +kernel
theorem d5_2 : decode jdk_65_method_123_code 2 = .ok (.arraylength, 1) := by decide +kernel
theorem d5_3 : decode jdk_65_method_123_code 3 = .ok (.if_icmp .ne 11, 3) := by decide +kernel
theorem d5_6 : decode jdk_65_method_123_code 6 = .ok (.aload_n 0, 1) := by decide +kernel
theorem d5_7 : decode jdk_65_method_123_code 7 = .ok (.invokevirtual 316, 3) := by decide +kernel
theorem d5_10 : decode jdk_65_method_123_code 10 = .ok (.checkcast 317, 3) := by decide +kernel
theorem d5_13 : decode jdk_65_method_123_code 13 = .ok (.areturn, 1) := by decide +kernel
theorem d5_14 : decode jdk_65_method_123_code 14 = .ok (.iload_n 1, 1) := by decide +kernel
theorem d5_15 : decode jdk_65_method_123_code 15 = .ok (.newarray .int, 2) := by decide +kernel
theorem d5_17 : decode jdk_65_method_123_code 17 = .ok (.astore_n 2, 1) := by decide +kernel
theorem d5_18 : decode jdk_65_method_123_code 18 = .ok (.aload_n 0, 1) := by decide +kernel
theorem d5_19 : decode jdk_65_method_123_code 19 = .ok (.iconst 0, 1) := by decide +kernel
theorem d5_20 : decode jdk_65_method_123_code 20 = .ok (.aload_n 2, 1) := by decide +kernel
theorem d5_21 : decode jdk_65_method_123_code 21 = .ok (.iconst 0, 1) := by decide +kernel
theorem d5_22 : decode jdk_65_method_123_code 22 = .ok (.aload_n 0, 1) := by decide +kernel
theorem d5_23 : decode jdk_65_method_123_code 23 = .ok (.arraylength, 1) := by decide +kernel
theorem d5_24 : decode jdk_65_method_123_code 24 = .ok (.iload_n 1, 1) := by decide +kernel
theorem d5_25 : decode jdk_65_method_123_code 25 = .ok (.invokestatic 304, 3) := by decide +kernel
theorem d5_28 : decode jdk_65_method_123_code 28 = .ok (.invokestatic 150, 3) := by decide +kernel
theorem d5_31 : decode jdk_65_method_123_code 31 = .ok (.aload_n 2, 1) := by decide +kernel
theorem d5_32 : decode jdk_65_method_123_code 32 = .ok (.areturn, 1) := by decide +kernel
theorem pn_1 : plainName "java/util/Arrays" = true := by first | (simp [plainName, overriddenIn]; done) | decide +kernel
theorem ef_rmCO0 (m : MethodId) (x0 : Addr) (x1 : Int32) : entryFrame m #[(.ref x0), (.int x1)] 3 = mkF m 0 #[.val (.ref x0), .val (.int x1), .unset] [] := by first | (simp [entryFrame, mkF, argsToLocals, Value.category]; done) | rfl
def Q_rmCO0 (Z : State) (r0 : Addr) (kv : ClassId) (w0 : Int32) (w1 : Int32) (w2 : Int32) (w3 : Int32) (h0 : Heap) (n0 : Nat) (v : Option Value) (h : Heap) (L : List Loc) : Prop := ∃ y, v = some (.ref y) ∧ Fr n0 L ∧ Keep h0 h [] ∧ h0.size ≤ y ∧ ∃ k, Arv Z h y k .int (0 : Int32) [] (.int (0 : Int32))
set_option maxRecDepth 65536 in
set_option maxHeartbeats 40000000 in
theorem rmCO0 (l : Launch) (Z : State) (a0 : Array Value) (hw : ∀ d ∈ tables_1, d.before a0 Z = true) (ws : List Jvm.Cond) (r0 : Addr) (kv : ClassId) (w0 : Int32) (w1 : Int32) (w2 : Int32) (w3 : Int32) (h0 : Heap) (n0 : Nat) (Z0 : n0 ≤ h0.size) (Vv : Arv Z h0 r0 kv .int (4 : Int32) [(.int w0), (.int w1), (.int w2), (.int w3)] (.int (0 : Int32))) :
    MetFree l (⟨"java/util/Arrays", "copyOf", "([II)[I"⟩ : MethodName) (head1 (Jvm.Cond.code (⟨"java/util/Arrays", "copyOf", "([II)[I"⟩ : MethodName) jdk_65_method_123_code 3 (some (.array .int)) :: ws) ({ frames := 1, cells := 1, slots := 0, locals := 60 } : Room)) (fun a U => a = #[(.ref r0), (.int (0 : Int32))] ∧ Z.Warmed39 U.vm ∧ U.heap = h0) (fun _ _ _ _ _ => True) (fun _ U o U' => ∃ v L, o = .returned v ∧ Q_rmCO0 Z r0 kv w0 w1 w2 w3 h0 n0 v U'.heap L ∧ FrameEnd U o U' L ({ frames := 1, cells := 1, slots := 0, locals := 60 } : Room).cells ({ frames := 1, cells := 1, slots := 0, locals := 60 } : Room).slots) := by
  refine MetFree.of_bodySF (plainFor_of_name pn_1) hisR ?_
  intro p e s m args below meth c s₁ Bd hml0 hP hK
  obtain ⟨rfl, hZ, hh⟩ := hP
  have hx := Bd.exec
  have hby := Bd.bytes
  have hml : c.maxLocals = 3 := hml0
  have hown : s.vm.findClass "java/util/Arrays" = some m.cls := findClass_of_methodNamed Bd.named
  have hnm := (name_of_methodNamed Bd.named Bd.method).1
  have X0 : Stand p l e ({ frames := 1, cells := 1, slots := 0, locals := 60 } : Room) s m #[(.ref r0), (.int (0 : Int32))] below meth c s₁ [] 0 0 := Stand.of_body Bd
  have e0 : s₁.heap = h0 := by rw [← hh, Bd.state]; rfl
  have N0 := Fr.nil n0
  have pre0 : ∀ t, Steps p.tables e below (s₁.setTop (mkF m 0 #[.val (.ref r0), .val (.int (0 : Int32)), .unset] [])) t → Steps p.tables e below (s₁.setTop (entryFrame m #[(.ref r0), (.int (0 : Int32))] 3)) t := fun t k => castTop (ef_rmCO0 m r0 (0 : Int32)) k
  have Kp : Keep h0 h0 [] := Keep.refl _ _
  have st1 : ∀ target, Steps p.tables e below (s₁.setTop (mkF m 2 #[.val (.ref r0), .val (.int (0 : Int32)), .unset] [(.ref r0), (.int (0 : Int32))])) target → Steps p.tables e below (s₁.setTop (mkF m 0 #[.val (.ref r0), .val (.int (0 : Int32)), .unset] [])) target := by
    intro target kt
    refine XS.iloadN X0.here hx rfl (hb hby d5_0) rfl ?_
    refine XS.aloadN X0.here hx rfl (hb hby d5_1) rfl rfl ?_
    exact kt
  obtain ⟨cl2, Ar2, qc2, Sz2, Mn2, Hs2, Gs2⟩ := id Vv
  have st2 : ∀ target, Steps p.tables e below (s₁.setTop (mkF m 3 #[.val (.ref r0), .val (.int (0 : Int32)), .unset] [(.int (4 : Int32)), (.int (0 : Int32))])) target → Steps p.tables e below (s₁.setTop (mkF m 2 #[.val (.ref r0), .val (.int (0 : Int32)), .unset] [(.ref r0), (.int (0 : Int32))])) target := fun target kt => X0.arraylength hx (cell := cl2) (by rw [e0]; exact Ar2.1) (State.isArrayOf_alike hZ.alike Ar2.2.1) (g := (mkF m 2 #[.val (.ref r0), .val (.int (0 : Int32)), .unset] [(.ref r0), (.int (0 : Int32))])) rfl rfl (hb hby d5_2) _ (by rw [len_of Sz2 Mn2]; exact kt)
  have st3 : ∀ target, Steps p.tables e below (s₁.setTop (mkF m 15 #[.val (.ref r0), .val (.int (0 : Int32)), .unset] [(.int (0 : Int32))])) target → Steps p.tables e below (s₁.setTop (mkF m 3 #[.val (.ref r0), .val (.int (0 : Int32)), .unset] [(.int (4 : Int32)), (.int (0 : Int32))])) target := by
    intro target kt
    refine XS.icmpYes X0.here hx rfl (pc0 := 3) (pc' := 14) rfl (hb hby d5_3) rfl (feq (by decide : ¬ ((0 : Int32) = (4 : Int32)))).2 (by decide) (by decide) ?_
    refine XS.iloadN X0.here hx rfl (hb hby d5_14) rfl ?_
    exact kt
  obtain ⟨T4, h4, k4, X4, e4, E4, A4, st4⟩ := newP X0 hx hZ (hw _ (List.mem_of_getElem? (i := 5) rfl)) e0 (g := (mkF m 15 #[.val (.ref r0), .val (.int (0 : Int32)), .unset] [(.int (0 : Int32))])) rfl (hb hby d5_15) rfl (by decide) (cap := 0) (by decide) (by decide) (by decide) (by decide)
  obtain ⟨y, g4⟩ : ∃ z, z = h0.size := ⟨_, rfl⟩
  rw [← g4] at A4 st4
  have g_y : n0 ≤ y := Nat.le_trans Z0 (Nat.le_of_eq g4.symm)
  have sz_y : h0.size ≤ y := Nat.le_trans Kp.1 (Nat.le_of_eq g4.symm)
  have ne_r0_y : r0 ≠ y := Nat.ne_of_lt (Nat.lt_of_lt_of_le Vv.lt (Nat.le_of_eq g4.symm))
  have Vv_4 := Vv.ext E4
  have Z_4 : n0 ≤ h4.size := Nat.le_trans Z0 E4.1
  have Kp_4 : Keep h0 h4 [] := Kp.ext E4
  have V_y : Arv Z h4 y k4 .int (0 : Int32) [] (.int (0 : Int32)) := Arv.new A4 (by decide)
  have st5 : ∀ target, Steps p.tables e below (T4.setTop (mkF m 23 #[.val (.ref r0), .val (.int (0 : Int32)), .val (.ref y)] [(.ref r0), (.int (0 : Int32)), (.ref y), (.int (0 : Int32)), (.ref r0)])) target → Steps p.tables e below (T4.setTop (mkF m 17 #[.val (.ref r0), .val (.int (0 : Int32)), .unset] [(.ref y)])) target := by
    intro target kt
    refine XS.astoreN X4.here hx rfl (hb hby d5_17) rfl rfl (l' := #[.val (.ref r0), .val (.int (0 : Int32)), .val (.ref y)]) rfl ?_
    refine XS.aloadN X4.here hx rfl (hb hby d5_18) rfl rfl ?_
    refine XS.iconst X4.here hx rfl (hb hby d5_19) ?_
    show Steps p.tables e below (T4.setTop (mkF m 20 #[.val (.ref r0), .val (.int (0 : Int32)), .val (.ref y)] [(.int (0 : Int32)), (.ref r0)])) _
    refine XS.aloadN X4.here hx rfl (hb hby d5_20) rfl rfl ?_
    refine XS.iconst X4.here hx rfl (hb hby d5_21) ?_
    refine XS.aloadN X4.here hx rfl (hb hby d5_22) rfl rfl ?_
    exact kt
  obtain ⟨cl6, Ar6, qc6, Sz6, Mn6, Hs6, Gs6⟩ := id Vv_4
  have st6 : ∀ target, Steps p.tables e below (T4.setTop (mkF m 24 #[.val (.ref r0), .val (.int (0 : Int32)), .val (.ref y)] [(.int (4 : Int32)), (.int (0 : Int32)), (.ref y), (.int (0 : Int32)), (.ref r0)])) target → Steps p.tables e below (T4.setTop (mkF m 23 #[.val (.ref r0), .val (.int (0 : Int32)), .val (.ref y)] [(.ref r0), (.int (0 : Int32)), (.ref y), (.int (0 : Int32)), (.ref r0)])) target := fun target kt => X4.arraylength hx (cell := cl6) (by rw [e4]; exact Ar6.1) (State.isArrayOf_alike hZ.alike Ar6.2.1) (g := (mkF m 23 #[.val (.ref r0), .val (.int (0 : Int32)), .val (.ref y)] [(.ref r0), (.int (0 : Int32)), (.ref y), (.int (0 : Int32)), (.ref r0)])) rfl rfl (hb hby d5_23) _ (by rw [len_of Sz6 Mn6]; exact kt)
  have st7 : ∀ target, Steps p.tables e below (T4.setTop (mkF m 25 #[.val (.ref r0), .val (.int (0 : Int32)), .val (.ref y)] [(.int (0 : Int32)), (.int (4 : Int32)), (.int (0 : Int32)), (.ref y), (.int (0 : Int32)), (.ref r0)])) target → Steps p.tables e below (T4.setTop (mkF m 24 #[.val (.ref r0), .val (.int (0 : Int32)), .val (.ref y)] [(.int (4 : Int32)), (.int (0 : Int32)), (.ref y), (.int (0 : Int32)), (.ref r0)])) target := by
    intro target kt
    refine XS.iloadN X4.here hx rfl (hb hby d5_24) rfl ?_
    exact kt
  obtain ⟨_, _, ⟨T8, L8, k8, n8⟩, -, X8, ⟨Lc8, hQ8, l8, y8, z8⟩, st8⟩ := Jvm.LawKit.callS X4 hx (y := (⟨"java/lang/Math", "min", "(II)I"⟩ : MethodName)) hown (mvT hZ (hw _ (List.mem_of_getElem? (i := 31) rfl))) (mvT hZ (hw _ (List.mem_of_getElem? (i := 32) rfl))) (mvT hZ (hw _ (List.mem_of_getElem? (i := 3) rfl))) (mvT hZ (hw _ (List.mem_of_getElem? (i := 33) rfl))) (by decide) (backOf (W := 4) (rm6 l Z a0 hw [] (4 : Int32) (0 : Int32)  h4 n0 Z_4 ) hZ (hw _ (List.mem_of_getElem? (i := 33) rfl)) (hw _ (List.mem_of_getElem? (i := 3) rfl)) (by decide) (by decide)) (g := (mkF m 25 #[.val (.ref r0), .val (.int (0 : Int32)), .val (.ref y)] [(.int (0 : Int32)), (.int (4 : Int32)), (.int (0 : Int32)), (.ref y), (.int (0 : Int32)), (.ref r0)])) rfl (by rw [hml]; rfl) (argsL := [(.int (4 : Int32)), (.int (0 : Int32))]) (rest := [(.int (0 : Int32)), (.ref y), (.int (0 : Int32)), (.ref r0)]) (lenOf pd_0 rfl) rfl (by show 2 * 0 + _ ≤ _; exact Nat.le_of_eq rfl) (hb hby d5_25) (fun _ _ => ⟨rfl, e4, (by decide : 1 + 0 ≤ _), (by decide : 0 + 0 ≤ _)⟩)
  dsimp only [Pt.U, Pt.locs, Pt.cells, Pt.slots] at X8 l8 y8 z8 st8 hQ8
  subst l8 y8 z8
  obtain ⟨rfl, Nq8, e8⟩ := hQ8
  have N8 := Fr.app N0 Nq8
  rw [if_pos (by decide)] at st8
  have cp9 := cpA X8 hx hZ hown (hw _ (List.mem_of_getElem? (i := 34) rfl)) (hw _ (List.mem_of_getElem? (i := 37) rfl)) (hw _ (List.mem_of_getElem? (i := 35) rfl)) (hw _ (List.mem_of_getElem? (i := 36) rfl)) e8 Vv_4 V_y (us := []) (Or.inl ⟨rfl, rfl⟩) (by decide) (by decide) (by decide) (by decide) (by decide) rfl (by decide) N8 g_y (g := (mkF m 28 #[.val (.ref r0), .val (.int (0 : Int32)), .val (.ref y)] [(.int (0 : Int32)), (.int (0 : Int32)), (.ref y), (.int (0 : Int32)), (.ref r0)])) rfl (by rw [hml]; rfl) rfl (hb hby d5_28) (by decide) (W := 0) (by show 2 * 0 + _ ≤ _; exact Nat.le_of_eq rfl) (by decide)
  obtain ⟨T9, h9, L9, X9, e9, N9, K9, Vy9, st9⟩ := cp9
  have Z_9 : n0 ≤ h9.size := Nat.le_trans Z_4 K9.1
  have Kp_9 : Keep h0 h9 [] := Kp_4.trans K9 (allS (Or.inr sz_y) (all0))
  have Vy : Arv Z h9 y k4 .int (0 : Int32) [] (.int (0 : Int32)) := Vy9
  have st10 : ∀ target, Steps p.tables e below (T9.setTop (mkF m 32 #[.val (.ref r0), .val (.int (0 : Int32)), .val (.ref y)] [(.ref y)])) target → Steps p.tables e below (T9.setTop (mkF m 31 #[.val (.ref r0), .val (.int (0 : Int32)), .val (.ref y)] [])) target := by
    intro target kt
    refine XS.aloadN X9.here hx rfl (hb hby d5_31) rfl rfl ?_
    exact kt
  obtain ⟨fs, hr, hrun, hended, hW, hsame⟩ := X9.leave (v := some (.ref y)) (fun h => by rw [Bd.returns] at h; cases h)
  refine ⟨_, _, pre0 _ (st1 _ (st2 _ (st3 _ (st4 _ (st5 _ (st6 _ (st7 _ (st8 _ (st9 _ (st10 _ ?_)))))))))), hrun, hended, _, _, rfl, ?_, ⟨_, rfl⟩, hW, hsame.mono (by decide) (by decide)⟩
  · show Steps p.tables e below (T9.setTop (mkF m 32 #[.val (.ref r0), .val (.int (0 : Int32)), .val (.ref y)] [(.ref y)])) _
    jvm_step X9.here [X9.here.top, hx, (hb hby d5_32), X9.method', Bd.returns, Value.isRef, FieldType.isReference]
    first | (intro acts; rw [hr _ acts rfl rfl rfl]) | rw [hr _ _ rfl rfl rfl]
    exact Steps.refl _
  · show Q_rmCO0 Z r0 kv w0 w1 w2 w3 h0 n0 _ T9.heap _
    rw [e9]
    exact ⟨y, rfl, N9, Kp_9, sz_y, _, Vy⟩
theorem ef_rmCO1 (m : MethodId) (x0 : Addr) (x1 : Int32) : entryFrame m #[(.ref x0), (.int x1)] 3 = mkF m 0 #[.val (.ref x0), .val (.int x1), .unset] [] := by first | (simp [entryFrame, mkF, argsToLocals, Value.category]; done) | rfl
def Q_rmCO1 (Z : State) (r0 : Addr) (kv : ClassId) (w0 : Int32) (w1 : Int32) (w2 : Int32) (w3 : Int32) (h0 : Heap) (n0 : Nat) (v : Option Value) (h : Heap) (L : List Loc) : Prop := ∃ y, v = some (.ref y) ∧ Fr n0 L ∧ Keep h0 h [] ∧ h0.size ≤ y ∧ ∃ k, Arv Z h y k .int (1 : Int32) [(.int w0)] (.int (0 : Int32))
set_option maxRecDepth 65536 in
set_option maxHeartbeats 40000000 in
theorem rmCO1 (l : Launch) (Z : State) (a0 : Array Value) (hw : ∀ d ∈ tables_1, d.before a0 Z = true) (ws : List Jvm.Cond) (r0 : Addr) (kv : ClassId) (w0 : Int32) (w1 : Int32) (w2 : Int32) (w3 : Int32) (h0 : Heap) (n0 : Nat) (Z0 : n0 ≤ h0.size) (Vv : Arv Z h0 r0 kv .int (4 : Int32) [(.int w0), (.int w1), (.int w2), (.int w3)] (.int (0 : Int32))) :
    MetFree l (⟨"java/util/Arrays", "copyOf", "([II)[I"⟩ : MethodName) (head1 (Jvm.Cond.code (⟨"java/util/Arrays", "copyOf", "([II)[I"⟩ : MethodName) jdk_65_method_123_code 3 (some (.array .int)) :: ws) ({ frames := 1, cells := 1, slots := 1, locals := 60 } : Room)) (fun a U => a = #[(.ref r0), (.int (1 : Int32))] ∧ Z.Warmed39 U.vm ∧ U.heap = h0) (fun _ _ _ _ _ => True) (fun _ U o U' => ∃ v L, o = .returned v ∧ Q_rmCO1 Z r0 kv w0 w1 w2 w3 h0 n0 v U'.heap L ∧ FrameEnd U o U' L ({ frames := 1, cells := 1, slots := 1, locals := 60 } : Room).cells ({ frames := 1, cells := 1, slots := 1, locals := 60 } : Room).slots) := by
  refine MetFree.of_bodySF (plainFor_of_name pn_1) hisR ?_
  intro p e s m args below meth c s₁ Bd hml0 hP hK
  obtain ⟨rfl, hZ, hh⟩ := hP
  have hx := Bd.exec
  have hby := Bd.bytes
  have hml : c.maxLocals = 3 := hml0
  have hown : s.vm.findClass "java/util/Arrays" = some m.cls := findClass_of_methodNamed Bd.named
  have hnm := (name_of_methodNamed Bd.named Bd.method).1
  have X0 : Stand p l e ({ frames := 1, cells := 1, slots := 1, locals := 60 } : Room) s m #[(.ref r0), (.int (1 : Int32))] below meth c s₁ [] 0 0 := Stand.of_body Bd
  have e0 : s₁.heap = h0 := by rw [← hh, Bd.state]; rfl
  have N0 := Fr.nil n0
  have pre0 : ∀ t, Steps p.tables e below (s₁.setTop (mkF m 0 #[.val (.ref r0), .val (.int (1 : Int32)), .unset] [])) t → Steps p.tables e below (s₁.setTop (entryFrame m #[(.ref r0), (.int (1 : Int32))] 3)) t := fun t k => castTop (ef_rmCO1 m r0 (1 : Int32)) k
  have Kp : Keep h0 h0 [] := Keep.refl _ _
  have st1 : ∀ target, Steps p.tables e below (s₁.setTop (mkF m 2 #[.val (.ref r0), .val (.int (1 : Int32)), .unset] [(.ref r0), (.int (1 : Int32))])) target → Steps p.tables e below (s₁.setTop (mkF m 0 #[.val (.ref r0), .val (.int (1 : Int32)), .unset] [])) target := by
    intro target kt
    refine XS.iloadN X0.here hx rfl (hb hby d5_0) rfl ?_
    refine XS.aloadN X0.here hx rfl (hb hby d5_1) rfl rfl ?_
    exact kt
  obtain ⟨cl2, Ar2, qc2, Sz2, Mn2, Hs2, Gs2⟩ := id Vv
  have st2 : ∀ target, Steps p.tables e below (s₁.setTop (mkF m 3 #[.val (.ref r0), .val (.int (1 : Int32)), .unset] [(.int (4 : Int32)), (.int (1 : Int32))])) target → Steps p.tables e below (s₁.setTop (mkF m 2 #[.val (.ref r0), .val (.int (1 : Int32)), .unset] [(.ref r0), (.int (1 : Int32))])) target := fun target kt => X0.arraylength hx (cell := cl2) (by rw [e0]; exact Ar2.1) (State.isArrayOf_alike hZ.alike Ar2.2.1) (g := (mkF m 2 #[.val (.ref r0), .val (.int (1 : Int32)), .unset] [(.ref r0), (.int (1 : Int32))])) rfl rfl (hb hby d5_2) _ (by rw [len_of Sz2 Mn2]; exact kt)
  have st3 : ∀ target, Steps p.tables e below (s₁.setTop (mkF m 15 #[.val (.ref r0), .val (.int (1 : Int32)), .unset] [(.int (1 : Int32))])) target → Steps p.tables e below (s₁.setTop (mkF m 3 #[.val (.ref r0), .val (.int (1 : Int32)), .unset] [(.int (4 : Int32)), (.int (1 : Int32))])) target := by
    intro target kt
    refine XS.icmpYes X0.here hx rfl (pc0 := 3) (pc' := 14) rfl (hb hby d5_3) rfl (feq (by decide : ¬ ((1 : Int32) = (4 : Int32)))).2 (by decide) (by decide) ?_
    refine XS.iloadN X0.here hx rfl (hb hby d5_14) rfl ?_
    exact kt
  obtain ⟨T4, h4, k4, X4, e4, E4, A4, st4⟩ := newP X0 hx hZ (hw _ (List.mem_of_getElem? (i := 5) rfl)) e0 (g := (mkF m 15 #[.val (.ref r0), .val (.int (1 : Int32)), .unset] [(.int (1 : Int32))])) rfl (hb hby d5_15) rfl (by decide) (cap := 1) (by decide) (by decide) (by decide) (by decide)
  obtain ⟨y, g4⟩ : ∃ z, z = h0.size := ⟨_, rfl⟩
  rw [← g4] at A4 st4
  have g_y : n0 ≤ y := Nat.le_trans Z0 (Nat.le_of_eq g4.symm)
  have sz_y : h0.size ≤ y := Nat.le_trans Kp.1 (Nat.le_of_eq g4.symm)
  have ne_r0_y : r0 ≠ y := Nat.ne_of_lt (Nat.lt_of_lt_of_le Vv.lt (Nat.le_of_eq g4.symm))
  have Vv_4 := Vv.ext E4
  have Z_4 : n0 ≤ h4.size := Nat.le_trans Z0 E4.1
  have Kp_4 : Keep h0 h4 [] := Kp.ext E4
  have V_y : Arv Z h4 y k4 .int (1 : Int32) [(.int (0 : Int32))] (.int (0 : Int32)) := (Arv.new A4 (by decide)).pad (pad_rep [] (.int (0 : Int32)) 1)
  have st5 : ∀ target, Steps p.tables e below (T4.setTop (mkF m 23 #[.val (.ref r0), .val (.int (1 : Int32)), .val (.ref y)] [(.ref r0), (.int (0 : Int32)), (.ref y), (.int (0 : Int32)), (.ref r0)])) target → Steps p.tables e below (T4.setTop (mkF m 17 #[.val (.ref r0), .val (.int (1 : Int32)), .unset] [(.ref y)])) target := by
    intro target kt
    refine XS.astoreN X4.here hx rfl (hb hby d5_17) rfl rfl (l' := #[.val (.ref r0), .val (.int (1 : Int32)), .val (.ref y)]) rfl ?_
    refine XS.aloadN X4.here hx rfl (hb hby d5_18) rfl rfl ?_
    refine XS.iconst X4.here hx rfl (hb hby d5_19) ?_
    show Steps p.tables e below (T4.setTop (mkF m 20 #[.val (.ref r0), .val (.int (1 : Int32)), .val (.ref y)] [(.int (0 : Int32)), (.ref r0)])) _
    refine XS.aloadN X4.here hx rfl (hb hby d5_20) rfl rfl ?_
    refine XS.iconst X4.here hx rfl (hb hby d5_21) ?_
    refine XS.aloadN X4.here hx rfl (hb hby d5_22) rfl rfl ?_
    exact kt
  obtain ⟨cl6, Ar6, qc6, Sz6, Mn6, Hs6, Gs6⟩ := id Vv_4
  have st6 : ∀ target, Steps p.tables e below (T4.setTop (mkF m 24 #[.val (.ref r0), .val (.int (1 : Int32)), .val (.ref y)] [(.int (4 : Int32)), (.int (0 : Int32)), (.ref y), (.int (0 : Int32)), (.ref r0)])) target → Steps p.tables e below (T4.setTop (mkF m 23 #[.val (.ref r0), .val (.int (1 : Int32)), .val (.ref y)] [(.ref r0), (.int (0 : Int32)), (.ref y), (.int (0 : Int32)), (.ref r0)])) target := fun target kt => X4.arraylength hx (cell := cl6) (by rw [e4]; exact Ar6.1) (State.isArrayOf_alike hZ.alike Ar6.2.1) (g := (mkF m 23 #[.val (.ref r0), .val (.int (1 : Int32)), .val (.ref y)] [(.ref r0), (.int (0 : Int32)), (.ref y), (.int (0 : Int32)), (.ref r0)])) rfl rfl (hb hby d5_23) _ (by rw [len_of Sz6 Mn6]; exact kt)
  have st7 : ∀ target, Steps p.tables e below (T4.setTop (mkF m 25 #[.val (.ref r0), .val (.int (1 : Int32)), .val (.ref y)] [(.int (1 : Int32)), (.int (4 : Int32)), (.int (0 : Int32)), (.ref y), (.int (0 : Int32)), (.ref r0)])) target → Steps p.tables e below (T4.setTop (mkF m 24 #[.val (.ref r0), .val (.int (1 : Int32)), .val (.ref y)] [(.int (4 : Int32)), (.int (0 : Int32)), (.ref y), (.int (0 : Int32)), (.ref r0)])) target := by
    intro target kt
    refine XS.iloadN X4.here hx rfl (hb hby d5_24) rfl ?_
    exact kt
  obtain ⟨_, _, ⟨T8, L8, k8, n8⟩, -, X8, ⟨Lc8, hQ8, l8, y8, z8⟩, st8⟩ := Jvm.LawKit.callS X4 hx (y := (⟨"java/lang/Math", "min", "(II)I"⟩ : MethodName)) hown (mvT hZ (hw _ (List.mem_of_getElem? (i := 31) rfl))) (mvT hZ (hw _ (List.mem_of_getElem? (i := 32) rfl))) (mvT hZ (hw _ (List.mem_of_getElem? (i := 3) rfl))) (mvT hZ (hw _ (List.mem_of_getElem? (i := 33) rfl))) (by decide) (backOf (W := 4) (rm6 l Z a0 hw [] (4 : Int32) (1 : Int32)  h4 n0 Z_4 ) hZ (hw _ (List.mem_of_getElem? (i := 33) rfl)) (hw _ (List.mem_of_getElem? (i := 3) rfl)) (by decide) (by decide)) (g := (mkF m 25 #[.val (.ref r0), .val (.int (1 : Int32)), .val (.ref y)] [(.int (1 : Int32)), (.int (4 : Int32)), (.int (0 : Int32)), (.ref y), (.int (0 : Int32)), (.ref r0)])) rfl (by rw [hml]; rfl) (argsL := [(.int (4 : Int32)), (.int (1 : Int32))]) (rest := [(.int (0 : Int32)), (.ref y), (.int (0 : Int32)), (.ref r0)]) (lenOf pd_0 rfl) rfl (by show 2 * 0 + _ ≤ _; exact Nat.le_of_eq rfl) (hb hby d5_25) (fun _ _ => ⟨rfl, e4, (by decide : 1 + 0 ≤ _), (by decide : 1 + 0 ≤ _)⟩)
  dsimp only [Pt.U, Pt.locs, Pt.cells, Pt.slots] at X8 l8 y8 z8 st8 hQ8
  subst l8 y8 z8
  obtain ⟨rfl, Nq8, e8⟩ := hQ8
  have N8 := Fr.app N0 Nq8
  rw [if_pos (by decide)] at st8
  have cp9 := cpA X8 hx hZ hown (hw _ (List.mem_of_getElem? (i := 34) rfl)) (hw _ (List.mem_of_getElem? (i := 37) rfl)) (hw _ (List.mem_of_getElem? (i := 35) rfl)) (hw _ (List.mem_of_getElem? (i := 36) rfl)) e8 Vv_4 V_y (us := [(.int w0)]) (Or.inl ⟨rfl, rfl⟩) (by decide) (by decide) (by decide) (by decide) (by decide) rfl (by decide) N8 g_y (g := (mkF m 28 #[.val (.ref r0), .val (.int (1 : Int32)), .val (.ref y)] [(.int (1 : Int32)), (.int (0 : Int32)), (.ref y), (.int (0 : Int32)), (.ref r0)])) rfl (by rw [hml]; rfl) rfl (hb hby d5_28) (by decide) (W := 0) (by show 2 * 0 + _ ≤ _; exact Nat.le_of_eq rfl) (by decide)
  obtain ⟨T9, h9, L9, X9, e9, N9, K9, Vy9, st9⟩ := cp9
  have Z_9 : n0 ≤ h9.size := Nat.le_trans Z_4 K9.1
  have Kp_9 : Keep h0 h9 [] := Kp_4.trans K9 (allS (Or.inr sz_y) (all0))
  have Vy : Arv Z h9 y k4 .int (1 : Int32) [(.int w0)] (.int (0 : Int32)) := Vy9
  have st10 : ∀ target, Steps p.tables e below (T9.setTop (mkF m 32 #[.val (.ref r0), .val (.int (1 : Int32)), .val (.ref y)] [(.ref y)])) target → Steps p.tables e below (T9.setTop (mkF m 31 #[.val (.ref r0), .val (.int (1 : Int32)), .val (.ref y)] [])) target := by
    intro target kt
    refine XS.aloadN X9.here hx rfl (hb hby d5_31) rfl rfl ?_
    exact kt
  obtain ⟨fs, hr, hrun, hended, hW, hsame⟩ := X9.leave (v := some (.ref y)) (fun h => by rw [Bd.returns] at h; cases h)
  refine ⟨_, _, pre0 _ (st1 _ (st2 _ (st3 _ (st4 _ (st5 _ (st6 _ (st7 _ (st8 _ (st9 _ (st10 _ ?_)))))))))), hrun, hended, _, _, rfl, ?_, ⟨_, rfl⟩, hW, hsame.mono (by decide) (by decide)⟩
  · show Steps p.tables e below (T9.setTop (mkF m 32 #[.val (.ref r0), .val (.int (1 : Int32)), .val (.ref y)] [(.ref y)])) _
    jvm_step X9.here [X9.here.top, hx, (hb hby d5_32), X9.method', Bd.returns, Value.isRef, FieldType.isReference]
    first | (intro acts; rw [hr _ acts rfl rfl rfl]) | rw [hr _ _ rfl rfl rfl]
    exact Steps.refl _
  · show Q_rmCO1 Z r0 kv w0 w1 w2 w3 h0 n0 _ T9.heap _
    rw [e9]
    exact ⟨y, rfl, N9, Kp_9, sz_y, _, Vy⟩
theorem ef_rmCO2 (m : MethodId) (x0 : Addr) (x1 : Int32) : entryFrame m #[(.ref x0), (.int x1)] 3 = mkF m 0 #[.val (.ref x0), .val (.int x1), .unset] [] := by first | (simp [entryFrame, mkF, argsToLocals, Value.category]; done) | rfl
def Q_rmCO2 (Z : State) (r0 : Addr) (kv : ClassId) (w0 : Int32) (w1 : Int32) (w2 : Int32) (w3 : Int32) (h0 : Heap) (n0 : Nat) (v : Option Value) (h : Heap) (L : List Loc) : Prop := ∃ y, v = some (.ref y) ∧ Fr n0 L ∧ Keep h0 h [] ∧ h0.size ≤ y ∧ ∃ k, Arv Z h y k .int (2 : Int32) [(.int w0), (.int w1)] (.int (0 : Int32))
set_option maxRecDepth 65536 in
set_option maxHeartbeats 40000000 in
theorem rmCO2 (l : Launch) (Z : State) (a0 : Array Value) (hw : ∀ d ∈ tables_1, d.before a0 Z = true) (ws : List Jvm.Cond) (r0 : Addr) (kv : ClassId) (w0 : Int32) (w1 : Int32) (w2 : Int32) (w3 : Int32) (h0 : Heap) (n0 : Nat) (Z0 : n0 ≤ h0.size) (Vv : Arv Z h0 r0 kv .int (4 : Int32) [(.int w0), (.int w1), (.int w2), (.int w3)] (.int (0 : Int32))) :
    MetFree l (⟨"java/util/Arrays", "copyOf", "([II)[I"⟩ : MethodName) (head1 (Jvm.Cond.code (⟨"java/util/Arrays", "copyOf", "([II)[I"⟩ : MethodName) jdk_65_method_123_code 3 (some (.array .int)) :: ws) ({ frames := 1, cells := 1, slots := 2, locals := 60 } : Room)) (fun a U => a = #[(.ref r0), (.int (2 : Int32))] ∧ Z.Warmed39 U.vm ∧ U.heap = h0) (fun _ _ _ _ _ => True) (fun _ U o U' => ∃ v L, o = .returned v ∧ Q_rmCO2 Z r0 kv w0 w1 w2 w3 h0 n0 v U'.heap L ∧ FrameEnd U o U' L ({ frames := 1, cells := 1, slots := 2, locals := 60 } : Room).cells ({ frames := 1, cells := 1, slots := 2, locals := 60 } : Room).slots) := by
  refine MetFree.of_bodySF (plainFor_of_name pn_1) hisR ?_
  intro p e s m args below meth c s₁ Bd hml0 hP hK
  obtain ⟨rfl, hZ, hh⟩ := hP
  have hx := Bd.exec
  have hby := Bd.bytes
  have hml : c.maxLocals = 3 := hml0
  have hown : s.vm.findClass "java/util/Arrays" = some m.cls := findClass_of_methodNamed Bd.named
  have hnm := (name_of_methodNamed Bd.named Bd.method).1
  have X0 : Stand p l e ({ frames := 1, cells := 1, slots := 2, locals := 60 } : Room) s m #[(.ref r0), (.int (2 : Int32))] below meth c s₁ [] 0 0 := Stand.of_body Bd
  have e0 : s₁.heap = h0 := by rw [← hh, Bd.state]; rfl
  have N0 := Fr.nil n0
  have pre0 : ∀ t, Steps p.tables e below (s₁.setTop (mkF m 0 #[.val (.ref r0), .val (.int (2 : Int32)), .unset] [])) t → Steps p.tables e below (s₁.setTop (entryFrame m #[(.ref r0), (.int (2 : Int32))] 3)) t := fun t k => castTop (ef_rmCO2 m r0 (2 : Int32)) k
  have Kp : Keep h0 h0 [] := Keep.refl _ _
  have st1 : ∀ target, Steps p.tables e below (s₁.setTop (mkF m 2 #[.val (.ref r0), .val (.int (2 : Int32)), .unset] [(.ref r0), (.int (2 : Int32))])) target → Steps p.tables e below (s₁.setTop (mkF m 0 #[.val (.ref r0), .val (.int (2 : Int32)), .unset] [])) target := by
    intro target kt
    refine XS.iloadN X0.here hx rfl (hb hby d5_0) rfl ?_
    refine XS.aloadN X0.here hx rfl (hb hby d5_1) rfl rfl ?_
    exact kt
  obtain ⟨cl2, Ar2, qc2, Sz2, Mn2, Hs2, Gs2⟩ := id Vv
  have st2 : ∀ target, Steps p.tables e below (s₁.setTop (mkF m 3 #[.val (.ref r0), .val (.int (2 : Int32)), .unset] [(.int (4 : Int32)), (.int (2 : Int32))])) target → Steps p.tables e below (s₁.setTop (mkF m 2 #[.val (.ref r0), .val (.int (2 : Int32)), .unset] [(.ref r0), (.int (2 : Int32))])) target := fun target kt => X0.arraylength hx (cell := cl2) (by rw [e0]; exact Ar2.1) (State.isArrayOf_alike hZ.alike Ar2.2.1) (g := (mkF m 2 #[.val (.ref r0), .val (.int (2 : Int32)), .unset] [(.ref r0), (.int (2 : Int32))])) rfl rfl (hb hby d5_2) _ (by rw [len_of Sz2 Mn2]; exact kt)
  have st3 : ∀ target, Steps p.tables e below (s₁.setTop (mkF m 15 #[.val (.ref r0), .val (.int (2 : Int32)), .unset] [(.int (2 : Int32))])) target → Steps p.tables e below (s₁.setTop (mkF m 3 #[.val (.ref r0), .val (.int (2 : Int32)), .unset] [(.int (4 : Int32)), (.int (2 : Int32))])) target := by
    intro target kt
    refine XS.icmpYes X0.here hx rfl (pc0 := 3) (pc' := 14) rfl (hb hby d5_3) rfl (feq (by decide : ¬ ((2 : Int32) = (4 : Int32)))).2 (by decide) (by decide) ?_
    refine XS.iloadN X0.here hx rfl (hb hby d5_14) rfl ?_
    exact kt
  obtain ⟨T4, h4, k4, X4, e4, E4, A4, st4⟩ := newP X0 hx hZ (hw _ (List.mem_of_getElem? (i := 5) rfl)) e0 (g := (mkF m 15 #[.val (.ref r0), .val (.int (2 : Int32)), .unset] [(.int (2 : Int32))])) rfl (hb hby d5_15) rfl (by decide) (cap := 2) (by decide) (by decide) (by decide) (by decide)
  obtain ⟨y, g4⟩ : ∃ z, z = h0.size := ⟨_, rfl⟩
  rw [← g4] at A4 st4
  have g_y : n0 ≤ y := Nat.le_trans Z0 (Nat.le_of_eq g4.symm)
  have sz_y : h0.size ≤ y := Nat.le_trans Kp.1 (Nat.le_of_eq g4.symm)
  have ne_r0_y : r0 ≠ y := Nat.ne_of_lt (Nat.lt_of_lt_of_le Vv.lt (Nat.le_of_eq g4.symm))
  have Vv_4 := Vv.ext E4
  have Z_4 : n0 ≤ h4.size := Nat.le_trans Z0 E4.1
  have Kp_4 : Keep h0 h4 [] := Kp.ext E4
  have V_y : Arv Z h4 y k4 .int (2 : Int32) [(.int (0 : Int32)), (.int (0 : Int32))] (.int (0 : Int32)) := (Arv.new A4 (by decide)).pad (pad_rep [] (.int (0 : Int32)) 2)
  have st5 : ∀ target, Steps p.tables e below (T4.setTop (mkF m 23 #[.val (.ref r0), .val (.int (2 : Int32)), .val (.ref y)] [(.ref r0), (.int (0 : Int32)), (.ref y), (.int (0 : Int32)), (.ref r0)])) target → Steps p.tables e below (T4.setTop (mkF m 17 #[.val (.ref r0), .val (.int (2 : Int32)), .unset] [(.ref y)])) target := by
    intro target kt
    refine XS.astoreN X4.here hx rfl (hb hby d5_17) rfl rfl (l' := #[.val (.ref r0), .val (.int (2 : Int32)), .val (.ref y)]) rfl ?_
    refine XS.aloadN X4.here hx rfl (hb hby d5_18) rfl rfl ?_
    refine XS.iconst X4.here hx rfl (hb hby d5_19) ?_
    show Steps p.tables e below (T4.setTop (mkF m 20 #[.val (.ref r0), .val (.int (2 : Int32)), .val (.ref y)] [(.int (0 : Int32)), (.ref r0)])) _
    refine XS.aloadN X4.here hx rfl (hb hby d5_20) rfl rfl ?_
    refine XS.iconst X4.here hx rfl (hb hby d5_21) ?_
    refine XS.aloadN X4.here hx rfl (hb hby d5_22) rfl rfl ?_
    exact kt
  obtain ⟨cl6, Ar6, qc6, Sz6, Mn6, Hs6, Gs6⟩ := id Vv_4
  have st6 : ∀ target, Steps p.tables e below (T4.setTop (mkF m 24 #[.val (.ref r0), .val (.int (2 : Int32)), .val (.ref y)] [(.int (4 : Int32)), (.int (0 : Int32)), (.ref y), (.int (0 : Int32)), (.ref r0)])) target → Steps p.tables e below (T4.setTop (mkF m 23 #[.val (.ref r0), .val (.int (2 : Int32)), .val (.ref y)] [(.ref r0), (.int (0 : Int32)), (.ref y), (.int (0 : Int32)), (.ref r0)])) target := fun target kt => X4.arraylength hx (cell := cl6) (by rw [e4]; exact Ar6.1) (State.isArrayOf_alike hZ.alike Ar6.2.1) (g := (mkF m 23 #[.val (.ref r0), .val (.int (2 : Int32)), .val (.ref y)] [(.ref r0), (.int (0 : Int32)), (.ref y), (.int (0 : Int32)), (.ref r0)])) rfl rfl (hb hby d5_23) _ (by rw [len_of Sz6 Mn6]; exact kt)
  have st7 : ∀ target, Steps p.tables e below (T4.setTop (mkF m 25 #[.val (.ref r0), .val (.int (2 : Int32)), .val (.ref y)] [(.int (2 : Int32)), (.int (4 : Int32)), (.int (0 : Int32)), (.ref y), (.int (0 : Int32)), (.ref r0)])) target → Steps p.tables e below (T4.setTop (mkF m 24 #[.val (.ref r0), .val (.int (2 : Int32)), .val (.ref y)] [(.int (4 : Int32)), (.int (0 : Int32)), (.ref y), (.int (0 : Int32)), (.ref r0)])) target := by
    intro target kt
    refine XS.iloadN X4.here hx rfl (hb hby d5_24) rfl ?_
    exact kt
  obtain ⟨_, _, ⟨T8, L8, k8, n8⟩, -, X8, ⟨Lc8, hQ8, l8, y8, z8⟩, st8⟩ := Jvm.LawKit.callS X4 hx (y := (⟨"java/lang/Math", "min", "(II)I"⟩ : MethodName)) hown (mvT hZ (hw _ (List.mem_of_getElem? (i := 31) rfl))) (mvT hZ (hw _ (List.mem_of_getElem? (i := 32) rfl))) (mvT hZ (hw _ (List.mem_of_getElem? (i := 3) rfl))) (mvT hZ (hw _ (List.mem_of_getElem? (i := 33) rfl))) (by decide) (backOf (W := 4) (rm6 l Z a0 hw [] (4 : Int32) (2 : Int32)  h4 n0 Z_4 ) hZ (hw _ (List.mem_of_getElem? (i := 33) rfl)) (hw _ (List.mem_of_getElem? (i := 3) rfl)) (by decide) (by decide)) (g := (mkF m 25 #[.val (.ref r0), .val (.int (2 : Int32)), .val (.ref y)] [(.int (2 : Int32)), (.int (4 : Int32)), (.int (0 : Int32)), (.ref y), (.int (0 : Int32)), (.ref r0)])) rfl (by rw [hml]; rfl) (argsL := [(.int (4 : Int32)), (.int (2 : Int32))]) (rest := [(.int (0 : Int32)), (.ref y), (.int (0 : Int32)), (.ref r0)]) (lenOf pd_0 rfl) rfl (by show 2 * 0 + _ ≤ _; exact Nat.le_of_eq rfl) (hb hby d5_25) (fun _ _ => ⟨rfl, e4, (by decide : 1 + 0 ≤ _), (by decide : 2 + 0 ≤ _)⟩)
  dsimp only [Pt.U, Pt.locs, Pt.cells, Pt.slots] at X8 l8 y8 z8 st8 hQ8
  subst l8 y8 z8
  obtain ⟨rfl, Nq8, e8⟩ := hQ8
  have N8 := Fr.app N0 Nq8
  rw [if_pos (by decide)] at st8
  have cp9 := cpA X8 hx hZ hown (hw _ (List.mem_of_getElem? (i := 34) rfl)) (hw _ (List.mem_of_getElem? (i := 37) rfl)) (hw _ (List.mem_of_getElem? (i := 35) rfl)) (hw _ (List.mem_of_getElem? (i := 36) rfl)) e8 Vv_4 V_y (us := [(.int w0), (.int w1)]) (Or.inl ⟨rfl, rfl⟩) (by decide) (by decide) (by decide) (by decide) (by decide) rfl (by decide) N8 g_y (g := (mkF m 28 #[.val (.ref r0), .val (.int (2 : Int32)), .val (.ref y)] [(.int (2 : Int32)), (.int (0 : Int32)), (.ref y), (.int (0 : Int32)), (.ref r0)])) rfl (by rw [hml]; rfl) rfl (hb hby d5_28) (by decide) (W := 0) (by show 2 * 0 + _ ≤ _; exact Nat.le_of_eq rfl) (by decide)
  obtain ⟨T9, h9, L9, X9, e9, N9, K9, Vy9, st9⟩ := cp9
  have Z_9 : n0 ≤ h9.size := Nat.le_trans Z_4 K9.1
  have Kp_9 : Keep h0 h9 [] := Kp_4.trans K9 (allS (Or.inr sz_y) (all0))
  have Vy : Arv Z h9 y k4 .int (2 : Int32) [(.int w0), (.int w1)] (.int (0 : Int32)) := Vy9
  have st10 : ∀ target, Steps p.tables e below (T9.setTop (mkF m 32 #[.val (.ref r0), .val (.int (2 : Int32)), .val (.ref y)] [(.ref y)])) target → Steps p.tables e below (T9.setTop (mkF m 31 #[.val (.ref r0), .val (.int (2 : Int32)), .val (.ref y)] [])) target := by
    intro target kt
    refine XS.aloadN X9.here hx rfl (hb hby d5_31) rfl rfl ?_
    exact kt
  obtain ⟨fs, hr, hrun, hended, hW, hsame⟩ := X9.leave (v := some (.ref y)) (fun h => by rw [Bd.returns] at h; cases h)
  refine ⟨_, _, pre0 _ (st1 _ (st2 _ (st3 _ (st4 _ (st5 _ (st6 _ (st7 _ (st8 _ (st9 _ (st10 _ ?_)))))))))), hrun, hended, _, _, rfl, ?_, ⟨_, rfl⟩, hW, hsame.mono (by decide) (by decide)⟩
  · show Steps p.tables e below (T9.setTop (mkF m 32 #[.val (.ref r0), .val (.int (2 : Int32)), .val (.ref y)] [(.ref y)])) _
    jvm_step X9.here [X9.here.top, hx, (hb hby d5_32), X9.method', Bd.returns, Value.isRef, FieldType.isReference]
    first | (intro acts; rw [hr _ acts rfl rfl rfl]) | rw [hr _ _ rfl rfl rfl]
    exact Steps.refl _
  · show Q_rmCO2 Z r0 kv w0 w1 w2 w3 h0 n0 _ T9.heap _
    rw [e9]
    exact ⟨y, rfl, N9, Kp_9, sz_y, _, Vy⟩
theorem ef_rmCO3 (m : MethodId) (x0 : Addr) (x1 : Int32) : entryFrame m #[(.ref x0), (.int x1)] 3 = mkF m 0 #[.val (.ref x0), .val (.int x1), .unset] [] := by first | (simp [entryFrame, mkF, argsToLocals, Value.category]; done) | rfl
def Q_rmCO3 (Z : State) (r0 : Addr) (kv : ClassId) (w0 : Int32) (w1 : Int32) (w2 : Int32) (w3 : Int32) (h0 : Heap) (n0 : Nat) (v : Option Value) (h : Heap) (L : List Loc) : Prop := ∃ y, v = some (.ref y) ∧ Fr n0 L ∧ Keep h0 h [] ∧ h0.size ≤ y ∧ ∃ k, Arv Z h y k .int (3 : Int32) [(.int w0), (.int w1), (.int w2)] (.int (0 : Int32))
set_option maxRecDepth 65536 in
set_option maxHeartbeats 40000000 in
theorem rmCO3 (l : Launch) (Z : State) (a0 : Array Value) (hw : ∀ d ∈ tables_1, d.before a0 Z = true) (ws : List Jvm.Cond) (r0 : Addr) (kv : ClassId) (w0 : Int32) (w1 : Int32) (w2 : Int32) (w3 : Int32) (h0 : Heap) (n0 : Nat) (Z0 : n0 ≤ h0.size) (Vv : Arv Z h0 r0 kv .int (4 : Int32) [(.int w0), (.int w1), (.int w2), (.int w3)] (.int (0 : Int32))) :
    MetFree l (⟨"java/util/Arrays", "copyOf", "([II)[I"⟩ : MethodName) (head1 (Jvm.Cond.code (⟨"java/util/Arrays", "copyOf", "([II)[I"⟩ : MethodName) jdk_65_method_123_code 3 (some (.array .int)) :: ws) ({ frames := 1, cells := 1, slots := 3, locals := 60 } : Room)) (fun a U => a = #[(.ref r0), (.int (3 : Int32))] ∧ Z.Warmed39 U.vm ∧ U.heap = h0) (fun _ _ _ _ _ => True) (fun _ U o U' => ∃ v L, o = .returned v ∧ Q_rmCO3 Z r0 kv w0 w1 w2 w3 h0 n0 v U'.heap L ∧ FrameEnd U o U' L ({ frames := 1, cells := 1, slots := 3, locals := 60 } : Room).cells ({ frames := 1, cells := 1, slots := 3, locals := 60 } : Room).slots) := by
  refine MetFree.of_bodySF (plainFor_of_name pn_1) hisR ?_
  intro p e s m args below meth c s₁ Bd hml0 hP hK
  obtain ⟨rfl, hZ, hh⟩ := hP
  have hx := Bd.exec
  have hby := Bd.bytes
  have hml : c.maxLocals = 3 := hml0
  have hown : s.vm.findClass "java/util/Arrays" = some m.cls := findClass_of_methodNamed Bd.named
  have hnm := (name_of_methodNamed Bd.named Bd.method).1
  have X0 : Stand p l e ({ frames := 1, cells := 1, slots := 3, locals := 60 } : Room) s m #[(.ref r0), (.int (3 : Int32))] below meth c s₁ [] 0 0 := Stand.of_body Bd
  have e0 : s₁.heap = h0 := by rw [← hh, Bd.state]; rfl
  have N0 := Fr.nil n0
  have pre0 : ∀ t, Steps p.tables e below (s₁.setTop (mkF m 0 #[.val (.ref r0), .val (.int (3 : Int32)), .unset] [])) t → Steps p.tables e below (s₁.setTop (entryFrame m #[(.ref r0), (.int (3 : Int32))] 3)) t := fun t k => castTop (ef_rmCO3 m r0 (3 : Int32)) k
  have Kp : Keep h0 h0 [] := Keep.refl _ _
  have st1 : ∀ target, Steps p.tables e below (s₁.setTop (mkF m 2 #[.val (.ref r0), .val (.int (3 : Int32)), .unset] [(.ref r0), (.int (3 : Int32))])) target → Steps p.tables e below (s₁.setTop (mkF m 0 #[.val (.ref r0), .val (.int (3 : Int32)), .unset] [])) target := by
    intro target kt
    refine XS.iloadN X0.here hx rfl (hb hby d5_0) rfl ?_
    refine XS.aloadN X0.here hx rfl (hb hby d5_1) rfl rfl ?_
    exact kt
  obtain ⟨cl2, Ar2, qc2, Sz2, Mn2, Hs2, Gs2⟩ := id Vv
  have st2 : ∀ target, Steps p.tables e below (s₁.setTop (mkF m 3 #[.val (.ref r0), .val (.int (3 : Int32)), .unset] [(.int (4 : Int32)), (.int (3 : Int32))])) target → Steps p.tables e below (s₁.setTop (mkF m 2 #[.val (.ref r0), .val (.int (3 : Int32)), .unset] [(.ref r0), (.int (3 : Int32))])) target := fun target kt => X0.arraylength hx (cell := cl2) (by rw [e0]; exact Ar2.1) (State.isArrayOf_alike hZ.alike Ar2.2.1) (g := (mkF m 2 #[.val (.ref r0), .val (.int (3 : Int32)), .unset] [(.ref r0), (.int (3 : Int32))])) rfl rfl (hb hby d5_2) _ (by rw [len_of Sz2 Mn2]; exact kt)
  have st3 : ∀ target, Steps p.tables e below (s₁.setTop (mkF m 15 #[.val (.ref r0), .val (.int (3 : Int32)), .unset] [(.int (3 : Int32))])) target → Steps p.tables e below (s₁.setTop (mkF m 3 #[.val (.ref r0), .val (.int (3 : Int32)), .unset] [(.int (4 : Int32)), (.int (3 : Int32))])) target := by
    intro target kt
    refine XS.icmpYes X0.here hx rfl (pc0 := 3) (pc' := 14) rfl (hb hby d5_3) rfl (feq (by decide : ¬ ((3 : Int32) = (4 : Int32)))).2 (by decide) (by decide) ?_
    refine XS.iloadN X0.here hx rfl (hb hby d5_14) rfl ?_
    exact kt
  obtain ⟨T4, h4, k4, X4, e4, E4, A4, st4⟩ := newP X0 hx hZ (hw _ (List.mem_of_getElem? (i := 5) rfl)) e0 (g := (mkF m 15 #[.val (.ref r0), .val (.int (3 : Int32)), .unset] [(.int (3 : Int32))])) rfl (hb hby d5_15) rfl (by decide) (cap := 3) (by decide) (by decide) (by decide) (by decide)
  obtain ⟨y, g4⟩ : ∃ z, z = h0.size := ⟨_, rfl⟩
  rw [← g4] at A4 st4
  have g_y : n0 ≤ y := Nat.le_trans Z0 (Nat.le_of_eq g4.symm)
  have sz_y : h0.size ≤ y := Nat.le_trans Kp.1 (Nat.le_of_eq g4.symm)
  have ne_r0_y : r0 ≠ y := Nat.ne_of_lt (Nat.lt_of_lt_of_le Vv.lt (Nat.le_of_eq g4.symm))
  have Vv_4 := Vv.ext E4
  have Z_4 : n0 ≤ h4.size := Nat.le_trans Z0 E4.1
  have Kp_4 : Keep h0 h4 [] := Kp.ext E4
  have V_y : Arv Z h4 y k4 .int (3 : Int32) [(.int (0 : Int32)), (.int (0 : Int32)), (.int (0 : Int32))] (.int (0 : Int32)) := (Arv.new A4 (by decide)).pad (pad_rep [] (.int (0 : Int32)) 3)
  have st5 : ∀ target, Steps p.tables e below (T4.setTop (mkF m 23 #[.val (.ref r0), .val (.int (3 : Int32)), .val (.ref y)] [(.ref r0), (.int (0 : Int32)), (.ref y), (.int (0 : Int32)), (.ref r0)])) target → Steps p.tables e below (T4.setTop (mkF m 17 #[.val (.ref r0), .val (.int (3 : Int32)), .unset] [(.ref y)])) target := by
    intro target kt
    refine XS.astoreN X4.here hx rfl (hb hby d5_17) rfl rfl (l' := #[.val (.ref r0), .val (.int (3 : Int32)), .val (.ref y)]) rfl ?_
    refine XS.aloadN X4.here hx rfl (hb hby d5_18) rfl rfl ?_
    refine XS.iconst X4.here hx rfl (hb hby d5_19) ?_
    show Steps p.tables e below (T4.setTop (mkF m 20 #[.val (.ref r0), .val (.int (3 : Int32)), .val (.ref y)] [(.int (0 : Int32)), (.ref r0)])) _
    refine XS.aloadN X4.here hx rfl (hb hby d5_20) rfl rfl ?_
    refine XS.iconst X4.here hx rfl (hb hby d5_21) ?_
    refine XS.aloadN X4.here hx rfl (hb hby d5_22) rfl rfl ?_
    exact kt
  obtain ⟨cl6, Ar6, qc6, Sz6, Mn6, Hs6, Gs6⟩ := id Vv_4
  have st6 : ∀ target, Steps p.tables e below (T4.setTop (mkF m 24 #[.val (.ref r0), .val (.int (3 : Int32)), .val (.ref y)] [(.int (4 : Int32)), (.int (0 : Int32)), (.ref y), (.int (0 : Int32)), (.ref r0)])) target → Steps p.tables e below (T4.setTop (mkF m 23 #[.val (.ref r0), .val (.int (3 : Int32)), .val (.ref y)] [(.ref r0), (.int (0 : Int32)), (.ref y), (.int (0 : Int32)), (.ref r0)])) target := fun target kt => X4.arraylength hx (cell := cl6) (by rw [e4]; exact Ar6.1) (State.isArrayOf_alike hZ.alike Ar6.2.1) (g := (mkF m 23 #[.val (.ref r0), .val (.int (3 : Int32)), .val (.ref y)] [(.ref r0), (.int (0 : Int32)), (.ref y), (.int (0 : Int32)), (.ref r0)])) rfl rfl (hb hby d5_23) _ (by rw [len_of Sz6 Mn6]; exact kt)
  have st7 : ∀ target, Steps p.tables e below (T4.setTop (mkF m 25 #[.val (.ref r0), .val (.int (3 : Int32)), .val (.ref y)] [(.int (3 : Int32)), (.int (4 : Int32)), (.int (0 : Int32)), (.ref y), (.int (0 : Int32)), (.ref r0)])) target → Steps p.tables e below (T4.setTop (mkF m 24 #[.val (.ref r0), .val (.int (3 : Int32)), .val (.ref y)] [(.int (4 : Int32)), (.int (0 : Int32)), (.ref y), (.int (0 : Int32)), (.ref r0)])) target := by
    intro target kt
    refine XS.iloadN X4.here hx rfl (hb hby d5_24) rfl ?_
    exact kt
  obtain ⟨_, _, ⟨T8, L8, k8, n8⟩, -, X8, ⟨Lc8, hQ8, l8, y8, z8⟩, st8⟩ := Jvm.LawKit.callS X4 hx (y := (⟨"java/lang/Math", "min", "(II)I"⟩ : MethodName)) hown (mvT hZ (hw _ (List.mem_of_getElem? (i := 31) rfl))) (mvT hZ (hw _ (List.mem_of_getElem? (i := 32) rfl))) (mvT hZ (hw _ (List.mem_of_getElem? (i := 3) rfl))) (mvT hZ (hw _ (List.mem_of_getElem? (i := 33) rfl))) (by decide) (backOf (W := 4) (rm6 l Z a0 hw [] (4 : Int32) (3 : Int32)  h4 n0 Z_4 ) hZ (hw _ (List.mem_of_getElem? (i := 33) rfl)) (hw _ (List.mem_of_getElem? (i := 3) rfl)) (by decide) (by decide)) (g := (mkF m 25 #[.val (.ref r0), .val (.int (3 : Int32)), .val (.ref y)] [(.int (3 : Int32)), (.int (4 : Int32)), (.int (0 : Int32)), (.ref y), (.int (0 : Int32)), (.ref r0)])) rfl (by rw [hml]; rfl) (argsL := [(.int (4 : Int32)), (.int (3 : Int32))]) (rest := [(.int (0 : Int32)), (.ref y), (.int (0 : Int32)), (.ref r0)]) (lenOf pd_0 rfl) rfl (by show 2 * 0 + _ ≤ _; exact Nat.le_of_eq rfl) (hb hby d5_25) (fun _ _ => ⟨rfl, e4, (by decide : 1 + 0 ≤ _), (by decide : 3 + 0 ≤ _)⟩)
  dsimp only [Pt.U, Pt.locs, Pt.cells, Pt.slots] at X8 l8 y8 z8 st8 hQ8
  subst l8 y8 z8
  obtain ⟨rfl, Nq8, e8⟩ := hQ8
  have N8 := Fr.app N0 Nq8
  rw [if_pos (by decide)] at st8
  have cp9 := cpA X8 hx hZ hown (hw _ (List.mem_of_getElem? (i := 34) rfl)) (hw _ (List.mem_of_getElem? (i := 37) rfl)) (hw _ (List.mem_of_getElem? (i := 35) rfl)) (hw _ (List.mem_of_getElem? (i := 36) rfl)) e8 Vv_4 V_y (us := [(.int w0), (.int w1), (.int w2)]) (Or.inl ⟨rfl, rfl⟩) (by decide) (by decide) (by decide) (by decide) (by decide) rfl (by decide) N8 g_y (g := (mkF m 28 #[.val (.ref r0), .val (.int (3 : Int32)), .val (.ref y)] [(.int (3 : Int32)), (.int (0 : Int32)), (.ref y), (.int (0 : Int32)), (.ref r0)])) rfl (by rw [hml]; rfl) rfl (hb hby d5_28) (by decide) (W := 0) (by show 2 * 0 + _ ≤ _; exact Nat.le_of_eq rfl) (by decide)
  obtain ⟨T9, h9, L9, X9, e9, N9, K9, Vy9, st9⟩ := cp9
  have Z_9 : n0 ≤ h9.size := Nat.le_trans Z_4 K9.1
  have Kp_9 : Keep h0 h9 [] := Kp_4.trans K9 (allS (Or.inr sz_y) (all0))
  have Vy : Arv Z h9 y k4 .int (3 : Int32) [(.int w0), (.int w1), (.int w2)] (.int (0 : Int32)) := Vy9
  have st10 : ∀ target, Steps p.tables e below (T9.setTop (mkF m 32 #[.val (.ref r0), .val (.int (3 : Int32)), .val (.ref y)] [(.ref y)])) target → Steps p.tables e below (T9.setTop (mkF m 31 #[.val (.ref r0), .val (.int (3 : Int32)), .val (.ref y)] [])) target := by
    intro target kt
    refine XS.aloadN X9.here hx rfl (hb hby d5_31) rfl rfl ?_
    exact kt
  obtain ⟨fs, hr, hrun, hended, hW, hsame⟩ := X9.leave (v := some (.ref y)) (fun h => by rw [Bd.returns] at h; cases h)
  refine ⟨_, _, pre0 _ (st1 _ (st2 _ (st3 _ (st4 _ (st5 _ (st6 _ (st7 _ (st8 _ (st9 _ (st10 _ ?_)))))))))), hrun, hended, _, _, rfl, ?_, ⟨_, rfl⟩, hW, hsame.mono (by decide) (by decide)⟩
  · show Steps p.tables e below (T9.setTop (mkF m 32 #[.val (.ref r0), .val (.int (3 : Int32)), .val (.ref y)] [(.ref y)])) _
    jvm_step X9.here [X9.here.top, hx, (hb hby d5_32), X9.method', Bd.returns, Value.isRef, FieldType.isReference]
    first | (intro acts; rw [hr _ acts rfl rfl rfl]) | rw [hr _ _ rfl rfl rfl]
    exact Steps.refl _
  · show Q_rmCO3 Z r0 kv w0 w1 w2 w3 h0 n0 _ T9.heap _
    rw [e9]
    exact ⟨y, rfl, N9, Kp_9, sz_y, _, Vy⟩
theorem d3_0 : decode prog_7_method_1_code 0 = .ok (.aload_n 0, 1) := by decide +kernel
theorem d3_1 : decode prog_7_method_1_code 1 = .ok (.invokespecial 5, 3) := by decide +kernel
theorem d3_4 : decode prog_7_method_1_code 4 = .ok (.aload_n 0, 1) := by decide +kernel
theorem d3_5 : decode prog_7_method_1_code 5 = .ok (.aload_n 1, 1) := by decide +kernel
theorem d3_6 : decode prog_7_method_1_code 6 = .ok (.putfield 11, 3) := by decide +kernel
theorem d3_9 : decode prog_7_method_1_code 9 = .ok (.aload_n 0, 1) := by decide +kernel
theorem d3_10 : decode prog_7_method_1_code 10 = .ok (.aload_n 2, 1) := by decide +kernel
theorem d3_11 : decode prog_7_method_1_code 11 = .ok (.putfield 17, 3) := by decide +kernel
theorem d3_14 : decode prog_7_method_1_code 14 = .ok (.aload_n 0, 1) := by decide +kernel
theorem d3_15 : decode prog_7_method_1_code 15 = .ok (.aload_n 3, 1) := by decide +kernel
theorem d3_16 : decode prog_7_method_1_code 16 = .ok (.putfield 21, 3) := by decide +kernel
theorem d3_19 : decode prog_7_method_1_code 19 = .ok (.return_, 1) := by decide +kernel
theorem pn_2 : plainName "com/example/libbisim/libbisim/CompactInts" = true := by first | (simp [plainName, overriddenIn]; done) | decide +kernel
theorem ef_rmI1 (m : MethodId) (x0 : Addr) (x1 : Addr) : entryFrame m #[(.ref x0), (.ref x1), .null, .null] 4 = mkF m 0 #[.val (.ref x0), .val (.ref x1), .val .null, .val .null] [] := by first | (simp [entryFrame, mkF, argsToLocals, Value.category]; done) | rfl
def Q_rmI1 (Z : State) (r0 : Addr) (r1 : Addr) (h0 : Heap) (n0 : Nat) (v : Option Value) (h : Heap) (L : List Loc) : Prop := v = none ∧ Fr n0 L ∧ Keep h0 h [r0] ∧ Exa Z h r0 "com/example/libbisim/libbisim/CompactInts" ∧ Fld Z h r0 "com/example/libbisim/libbisim/CompactInts" "bytes" "[B" (.ref r1) ∧ Fld Z h r0 "com/example/libbisim/libbisim/CompactInts" "chars" "[C" .null ∧ Fld Z h r0 "com/example/libbisim/libbisim/CompactInts" "ints" "[I" .null
set_option maxRecDepth 65536 in
set_option maxHeartbeats 40000000 in
theorem rmI1 (l : Launch) (Z : State) (a0 : Array Value) (hw : ∀ d ∈ tables_1, d.before a0 Z = true) (ws : List Jvm.Cond) (r0 : Addr) (r1 : Addr) (h0 : Heap) (n0 : Nat) (Z0 : n0 ≤ h0.size) (F_bytes : Fld Z h0 r0 "com/example/libbisim/libbisim/CompactInts" "bytes" "[B" .null) (F_chars : Fld Z h0 r0 "com/example/libbisim/libbisim/CompactInts" "chars" "[C" .null) (F_ints : Fld Z h0 r0 "com/example/libbisim/libbisim/CompactInts" "ints" "[I" .null) (E_o : Exa Z h0 r0 "com/example/libbisim/libbisim/CompactInts") (g_r0 : n0 ≤ r0) :
    MetFree l (⟨"com/example/libbisim/libbisim/CompactInts", "<init>", "([B[C[I)V"⟩ : MethodName) (head1 (Jvm.Cond.code (⟨"com/example/libbisim/libbisim/CompactInts", "<init>", "([B[C[I)V"⟩ : MethodName) prog_7_method_1_code 4 none :: ws) ({ frames := 1, cells := 0, slots := 0, locals := 12 } : Room)) (fun a U => a = #[(.ref r0), (.ref r1), .null, .null] ∧ Z.Warmed39 U.vm ∧ U.heap = h0) (fun _ _ _ _ _ => True) (fun _ U o U' => ∃ v L, o = .returned v ∧ Q_rmI1 Z r0 r1 h0 n0 v U'.heap L ∧ FrameEnd U o U' L ({ frames := 1, cells := 0, slots := 0, locals := 12 } : Room).cells ({ frames := 1, cells := 0, slots := 0, locals := 12 } : Room).slots) := by
  refine MetFree.of_bodySF (plainFor_of_name pn_2) hisR ?_
  intro p e s m args below meth c s₁ Bd hml0 hP hK
  obtain ⟨rfl, hZ, hh⟩ := hP
  have hx := Bd.exec
  have hby := Bd.bytes
  have hml : c.maxLocals = 4 := hml0
  have hown : s.vm.findClass "com/example/libbisim/libbisim/CompactInts" = some m.cls := findClass_of_methodNamed Bd.named
  have hnm := (name_of_methodNamed Bd.named Bd.method).1
  have X0 : Stand p l e ({ frames := 1, cells := 0, slots := 0, locals := 12 } : Room) s m #[(.ref r0), (.ref r1), .null, .null] below meth c s₁ [] 0 0 := Stand.of_body Bd
  have e0 : s₁.heap = h0 := by rw [← hh, Bd.state]; rfl
  have N0 := Fr.nil n0
  have pre0 : ∀ t, Steps p.tables e below (s₁.setTop (mkF m 0 #[.val (.ref r0), .val (.ref r1), .val .null, .val .null] [])) t → Steps p.tables e below (s₁.setTop (entryFrame m #[(.ref r0), (.ref r1), .null, .null] 4)) t := fun t k => castTop (ef_rmI1 m r0 r1) k
  have Kp : Keep h0 h0 [r0] := Keep.refl _ _
  have st1 : ∀ target, Steps p.tables e below (s₁.setTop (mkF m 1 #[.val (.ref r0), .val (.ref r1), .val .null, .val .null] [(.ref r0)])) target → Steps p.tables e below (s₁.setTop (mkF m 0 #[.val (.ref r0), .val (.ref r1), .val .null, .val .null] [])) target := by
    intro target kt
    refine XS.aloadN X0.here hx rfl (hb hby d3_0) rfl rfl ?_
    exact kt
  obtain ⟨T2, X2, e2, st2⟩ := initO X0 hx hZ hown (hw _ (List.mem_of_getElem? (i := 16) rfl)) (hw _ (List.mem_of_getElem? (i := 17) rfl)) (hw _ (List.mem_of_getElem? (i := 18) rfl)) e0 (g := (mkF m 1 #[.val (.ref r0), .val (.ref r1), .val .null, .val .null] [(.ref r0)])) rfl (by rw [hml]; rfl) rfl (hb hby d3_1) (by decide) (W := 0) (by show 2 * 0 + _ ≤ _; exact Nat.le_of_eq rfl) (by decide)
  have st3 : ∀ target, Steps p.tables e below (T2.setTop (mkF m 6 #[.val (.ref r0), .val (.ref r1), .val .null, .val .null] [(.ref r1), (.ref r0)])) target → Steps p.tables e below (T2.setTop (mkF m 4 #[.val (.ref r0), .val (.ref r1), .val .null, .val .null] [])) target := by
    intro target kt
    refine XS.aloadN X2.here hx rfl (hb hby d3_4) rfl rfl ?_
    refine XS.aloadN X2.here hx rfl (hb hby d3_5) rfl rfl ?_
    exact kt
  obtain ⟨T4, h4, X4, e4, W4, st4⟩ := putF X2 hx hZ hown (host := "") (Or.inl (hw _ (List.mem_of_getElem? (i := 19) rfl))) Via.refl e2 F_bytes E_o (Or.inr ⟨(hw _ (List.mem_of_getElem? (i := 20) rfl)), rfl, hnm⟩) (hw _ (List.mem_of_getElem? (i := 12) rfl)) (ty := (.array .byte)) (by decide) rfl rfl (g := (mkF m 6 #[.val (.ref r0), .val (.ref r1), .val .null, .val .null] [(.ref r1), (.ref r0)])) rfl rfl (hb hby d3_6)
  have F_bytes_r0_4 : Fld Z h4 r0 "com/example/libbisim/libbisim/CompactInts" "bytes" "[B" (.ref r1) := F_bytes.same W4
  have E_o_4 := E_o.wr W4
  have F_chars_4 := F_chars.other W4 (Or.inr (slot_ne (Or.inr (hw _ (List.mem_of_getElem? (i := 22) rfl))) (Or.inr (hw _ (List.mem_of_getElem? (i := 20) rfl))) (by decide) (t := (.array .char)) (t' := (.array .byte)) (by decide) (by decide)))
  have F_ints_4 := F_ints.other W4 (Or.inr (slot_ne (Or.inr (hw _ (List.mem_of_getElem? (i := 24) rfl))) (Or.inr (hw _ (List.mem_of_getElem? (i := 20) rfl))) (by decide) (t := (.array .int)) (t' := (.array .byte)) (by decide) (by decide)))
  have Z_4 : n0 ≤ h4.size := Nat.le_trans Z0 (Keep.of_wr W4).1
  have Kp_4 : Keep h0 h4 [r0] := Kp.wr W4 (Or.inl (List.mem_of_getElem? (i := 0) rfl))
  have N4 := Fr.snoc X4 N0 g_r0
  have st5 : ∀ target, Steps p.tables e below (T4.setTop (mkF m 11 #[.val (.ref r0), .val (.ref r1), .val .null, .val .null] [.null, (.ref r0)])) target → Steps p.tables e below (T4.setTop (mkF m 9 #[.val (.ref r0), .val (.ref r1), .val .null, .val .null] [])) target := by
    intro target kt
    refine XS.aloadN X4.here hx rfl (hb hby d3_9) rfl rfl ?_
    refine XS.aloadN X4.here hx rfl (hb hby d3_10) rfl rfl ?_
    exact kt
  obtain ⟨T6, h6, X6, e6, W6, st6⟩ := putF X4 hx hZ hown (host := "") (Or.inl (hw _ (List.mem_of_getElem? (i := 21) rfl))) Via.refl e4 F_chars_4 E_o_4 (Or.inr ⟨(hw _ (List.mem_of_getElem? (i := 22) rfl)), rfl, hnm⟩) (hw _ (List.mem_of_getElem? (i := 12) rfl)) (ty := (.array .char)) (by decide) rfl rfl (g := (mkF m 11 #[.val (.ref r0), .val (.ref r1), .val .null, .val .null] [.null, (.ref r0)])) rfl rfl (hb hby d3_11)
  have F_chars_r0_6 : Fld Z h6 r0 "com/example/libbisim/libbisim/CompactInts" "chars" "[C" .null := F_chars_4.same W6
  have E_o_6 := E_o_4.wr W6
  have F_ints_6 := F_ints_4.other W6 (Or.inr (slot_ne (Or.inr (hw _ (List.mem_of_getElem? (i := 24) rfl))) (Or.inr (hw _ (List.mem_of_getElem? (i := 22) rfl))) (by decide) (t := (.array .int)) (t' := (.array .char)) (by decide) (by decide)))
  have F_bytes_r0_6 := F_bytes_r0_4.other W6 (Or.inr (slot_ne (Or.inr (hw _ (List.mem_of_getElem? (i := 20) rfl))) (Or.inr (hw _ (List.mem_of_getElem? (i := 22) rfl))) (by decide) (t := (.array .byte)) (t' := (.array .char)) (by decide) (by decide)))
  have Z_6 : n0 ≤ h6.size := Nat.le_trans Z_4 (Keep.of_wr W6).1
  have Kp_6 : Keep h0 h6 [r0] := Kp_4.wr W6 (Or.inl (List.mem_of_getElem? (i := 0) rfl))
  have N6 := Fr.snoc X6 N4 g_r0
  have st7 : ∀ target, Steps p.tables e below (T6.setTop (mkF m 16 #[.val (.ref r0), .val (.ref r1), .val .null, .val .null] [.null, (.ref r0)])) target → Steps p.tables e below (T6.setTop (mkF m 14 #[.val (.ref r0), .val (.ref r1), .val .null, .val .null] [])) target := by
    intro target kt
    refine XS.aloadN X6.here hx rfl (hb hby d3_14) rfl rfl ?_
    refine XS.aloadN X6.here hx rfl (hb hby d3_15) rfl rfl ?_
    exact kt
  obtain ⟨T8, h8, X8, e8, W8, st8⟩ := putF X6 hx hZ hown (host := "") (Or.inl (hw _ (List.mem_of_getElem? (i := 23) rfl))) Via.refl e6 F_ints_6 E_o_6 (Or.inr ⟨(hw _ (List.mem_of_getElem? (i := 24) rfl)), rfl, hnm⟩) (hw _ (List.mem_of_getElem? (i := 12) rfl)) (ty := (.array .int)) (by decide) rfl rfl (g := (mkF m 16 #[.val (.ref r0), .val (.ref r1), .val .null, .val .null] [.null, (.ref r0)])) rfl rfl (hb hby d3_16)
  have F_ints_r0_8 : Fld Z h8 r0 "com/example/libbisim/libbisim/CompactInts" "ints" "[I" .null := F_ints_6.same W8
  have E_o_8 := E_o_6.wr W8
  have F_bytes_r0_8 := F_bytes_r0_6.other W8 (Or.inr (slot_ne (Or.inr (hw _ (List.mem_of_getElem? (i := 20) rfl))) (Or.inr (hw _ (List.mem_of_getElem? (i := 24) rfl))) (by decide) (t := (.array .byte)) (t' := (.array .int)) (by decide) (by decide)))
  have F_chars_r0_8 := F_chars_r0_6.other W8 (Or.inr (slot_ne (Or.inr (hw _ (List.mem_of_getElem? (i := 22) rfl))) (Or.inr (hw _ (List.mem_of_getElem? (i := 24) rfl))) (by decide) (t := (.array .char)) (t' := (.array .int)) (by decide) (by decide)))
  have Z_8 : n0 ≤ h8.size := Nat.le_trans Z_6 (Keep.of_wr W8).1
  have Kp_8 : Keep h0 h8 [r0] := Kp_6.wr W8 (Or.inl (List.mem_of_getElem? (i := 0) rfl))
  have N8 := Fr.snoc X8 N6 g_r0
  obtain ⟨fs, hr, hrun, hended, hW, hsame⟩ := X8.leave (v := none) (fun _ => rfl)
  refine ⟨_, _, pre0 _ (st1 _ (st2 _ (st3 _ (st4 _ (st5 _ (st6 _ (st7 _ (st8 _ ?_)))))))), hrun, hended, _, _, rfl, ?_, ⟨_, rfl⟩, hW, hsame.mono (by decide) (by decide)⟩
  · show Steps p.tables e below (T8.setTop (mkF m 19 #[.val (.ref r0), .val (.ref r1), .val .null, .val .null] [])) _
    exact X8.returnOut hx Bd.returns (hb hby d3_19) hr
  · show Q_rmI1 Z r0 r1 h0 n0 _ T8.heap _
    rw [e8]
    exact ⟨rfl, N8, Kp_8, E_o_8, F_bytes_r0_8, F_chars_r0_8, F_ints_r0_8⟩
theorem ef_rmI2 (m : MethodId) (x0 : Addr) (x2 : Addr) : entryFrame m #[(.ref x0), .null, (.ref x2), .null] 4 = mkF m 0 #[.val (.ref x0), .val .null, .val (.ref x2), .val .null] [] := by first | (simp [entryFrame, mkF, argsToLocals, Value.category]; done) | rfl
def Q_rmI2 (Z : State) (r0 : Addr) (r2 : Addr) (h0 : Heap) (n0 : Nat) (v : Option Value) (h : Heap) (L : List Loc) : Prop := v = none ∧ Fr n0 L ∧ Keep h0 h [r0] ∧ Exa Z h r0 "com/example/libbisim/libbisim/CompactInts" ∧ Fld Z h r0 "com/example/libbisim/libbisim/CompactInts" "bytes" "[B" .null ∧ Fld Z h r0 "com/example/libbisim/libbisim/CompactInts" "chars" "[C" (.ref r2) ∧ Fld Z h r0 "com/example/libbisim/libbisim/CompactInts" "ints" "[I" .null
set_option maxRecDepth 65536 in
set_option maxHeartbeats 40000000 in
theorem rmI2 (l : Launch) (Z : State) (a0 : Array Value) (hw : ∀ d ∈ tables_1, d.before a0 Z = true) (ws : List Jvm.Cond) (r0 : Addr) (r2 : Addr) (h0 : Heap) (n0 : Nat) (Z0 : n0 ≤ h0.size) (F_bytes : Fld Z h0 r0 "com/example/libbisim/libbisim/CompactInts" "bytes" "[B" .null) (F_chars : Fld Z h0 r0 "com/example/libbisim/libbisim/CompactInts" "chars" "[C" .null) (F_ints : Fld Z h0 r0 "com/example/libbisim/libbisim/CompactInts" "ints" "[I" .null) (E_o : Exa Z h0 r0 "com/example/libbisim/libbisim/CompactInts") (g_r0 : n0 ≤ r0) :
    MetFree l (⟨"com/example/libbisim/libbisim/CompactInts", "<init>", "([B[C[I)V"⟩ : MethodName) (head1 (Jvm.Cond.code (⟨"com/example/libbisim/libbisim/CompactInts", "<init>", "([B[C[I)V"⟩ : MethodName) prog_7_method_1_code 4 none :: ws) ({ frames := 1, cells := 0, slots := 0, locals := 12 } : Room)) (fun a U => a = #[(.ref r0), .null, (.ref r2), .null] ∧ Z.Warmed39 U.vm ∧ U.heap = h0) (fun _ _ _ _ _ => True) (fun _ U o U' => ∃ v L, o = .returned v ∧ Q_rmI2 Z r0 r2 h0 n0 v U'.heap L ∧ FrameEnd U o U' L ({ frames := 1, cells := 0, slots := 0, locals := 12 } : Room).cells ({ frames := 1, cells := 0, slots := 0, locals := 12 } : Room).slots) := by
  refine MetFree.of_bodySF (plainFor_of_name pn_2) hisR ?_
  intro p e s m args below meth c s₁ Bd hml0 hP hK
  obtain ⟨rfl, hZ, hh⟩ := hP
  have hx := Bd.exec
  have hby := Bd.bytes
  have hml : c.maxLocals = 4 := hml0
  have hown : s.vm.findClass "com/example/libbisim/libbisim/CompactInts" = some m.cls := findClass_of_methodNamed Bd.named
  have hnm := (name_of_methodNamed Bd.named Bd.method).1
  have X0 : Stand p l e ({ frames := 1, cells := 0, slots := 0, locals := 12 } : Room) s m #[(.ref r0), .null, (.ref r2), .null] below meth c s₁ [] 0 0 := Stand.of_body Bd
  have e0 : s₁.heap = h0 := by rw [← hh, Bd.state]; rfl
  have N0 := Fr.nil n0
  have pre0 : ∀ t, Steps p.tables e below (s₁.setTop (mkF m 0 #[.val (.ref r0), .val .null, .val (.ref r2), .val .null] [])) t → Steps p.tables e below (s₁.setTop (entryFrame m #[(.ref r0), .null, (.ref r2), .null] 4)) t := fun t k => castTop (ef_rmI2 m r0 r2) k
  have Kp : Keep h0 h0 [r0] := Keep.refl _ _
  have st1 : ∀ target, Steps p.tables e below (s₁.setTop (mkF m 1 #[.val (.ref r0), .val .null, .val (.ref r2), .val .null] [(.ref r0)])) target → Steps p.tables e below (s₁.setTop (mkF m 0 #[.val (.ref r0), .val .null, .val (.ref r2), .val .null] [])) target := by
    intro target kt
    refine XS.aloadN X0.here hx rfl (hb hby d3_0) rfl rfl ?_
    exact kt
  obtain ⟨T2, X2, e2, st2⟩ := initO X0 hx hZ hown (hw _ (List.mem_of_getElem? (i := 16) rfl)) (hw _ (List.mem_of_getElem? (i := 17) rfl)) (hw _ (List.mem_of_getElem? (i := 18) rfl)) e0 (g := (mkF m 1 #[.val (.ref r0), .val .null, .val (.ref r2), .val .null] [(.ref r0)])) rfl (by rw [hml]; rfl) rfl (hb hby d3_1) (by decide) (W := 0) (by show 2 * 0 + _ ≤ _; exact Nat.le_of_eq rfl) (by decide)
  have st3 : ∀ target, Steps p.tables e below (T2.setTop (mkF m 6 #[.val (.ref r0), .val .null, .val (.ref r2), .val .null] [.null, (.ref r0)])) target → Steps p.tables e below (T2.setTop (mkF m 4 #[.val (.ref r0), .val .null, .val (.ref r2), .val .null] [])) target := by
    intro target kt
    refine XS.aloadN X2.here hx rfl (hb hby d3_4) rfl rfl ?_
    refine XS.aloadN X2.here hx rfl (hb hby d3_5) rfl rfl ?_
    exact kt
  obtain ⟨T4, h4, X4, e4, W4, st4⟩ := putF X2 hx hZ hown (host := "") (Or.inl (hw _ (List.mem_of_getElem? (i := 19) rfl))) Via.refl e2 F_bytes E_o (Or.inr ⟨(hw _ (List.mem_of_getElem? (i := 20) rfl)), rfl, hnm⟩) (hw _ (List.mem_of_getElem? (i := 12) rfl)) (ty := (.array .byte)) (by decide) rfl rfl (g := (mkF m 6 #[.val (.ref r0), .val .null, .val (.ref r2), .val .null] [.null, (.ref r0)])) rfl rfl (hb hby d3_6)
  have F_bytes_r0_4 : Fld Z h4 r0 "com/example/libbisim/libbisim/CompactInts" "bytes" "[B" .null := F_bytes.same W4
  have E_o_4 := E_o.wr W4
  have F_chars_4 := F_chars.other W4 (Or.inr (slot_ne (Or.inr (hw _ (List.mem_of_getElem? (i := 22) rfl))) (Or.inr (hw _ (List.mem_of_getElem? (i := 20) rfl))) (by decide) (t := (.array .char)) (t' := (.array .byte)) (by decide) (by decide)))
  have F_ints_4 := F_ints.other W4 (Or.inr (slot_ne (Or.inr (hw _ (List.mem_of_getElem? (i := 24) rfl))) (Or.inr (hw _ (List.mem_of_getElem? (i := 20) rfl))) (by decide) (t := (.array .int)) (t' := (.array .byte)) (by decide) (by decide)))
  have Z_4 : n0 ≤ h4.size := Nat.le_trans Z0 (Keep.of_wr W4).1
  have Kp_4 : Keep h0 h4 [r0] := Kp.wr W4 (Or.inl (List.mem_of_getElem? (i := 0) rfl))
  have N4 := Fr.snoc X4 N0 g_r0
  have st5 : ∀ target, Steps p.tables e below (T4.setTop (mkF m 11 #[.val (.ref r0), .val .null, .val (.ref r2), .val .null] [(.ref r2), (.ref r0)])) target → Steps p.tables e below (T4.setTop (mkF m 9 #[.val (.ref r0), .val .null, .val (.ref r2), .val .null] [])) target := by
    intro target kt
    refine XS.aloadN X4.here hx rfl (hb hby d3_9) rfl rfl ?_
    refine XS.aloadN X4.here hx rfl (hb hby d3_10) rfl rfl ?_
    exact kt
  obtain ⟨T6, h6, X6, e6, W6, st6⟩ := putF X4 hx hZ hown (host := "") (Or.inl (hw _ (List.mem_of_getElem? (i := 21) rfl))) Via.refl e4 F_chars_4 E_o_4 (Or.inr ⟨(hw _ (List.mem_of_getElem? (i := 22) rfl)), rfl, hnm⟩) (hw _ (List.mem_of_getElem? (i := 12) rfl)) (ty := (.array .char)) (by decide) rfl rfl (g := (mkF m 11 #[.val (.ref r0), .val .null, .val (.ref r2), .val .null] [(.ref r2), (.ref r0)])) rfl rfl (hb hby d3_11)
  have F_chars_r0_6 : Fld Z h6 r0 "com/example/libbisim/libbisim/CompactInts" "chars" "[C" (.ref r2) := F_chars_4.same W6
  have E_o_6 := E_o_4.wr W6
  have F_ints_6 := F_ints_4.other W6 (Or.inr (slot_ne (Or.inr (hw _ (List.mem_of_getElem? (i := 24) rfl))) (Or.inr (hw _ (List.mem_of_getElem? (i := 22) rfl))) (by decide) (t := (.array .int)) (t' := (.array .char)) (by decide) (by decide)))
  have F_bytes_r0_6 := F_bytes_r0_4.other W6 (Or.inr (slot_ne (Or.inr (hw _ (List.mem_of_getElem? (i := 20) rfl))) (Or.inr (hw _ (List.mem_of_getElem? (i := 22) rfl))) (by decide) (t := (.array .byte)) (t' := (.array .char)) (by decide) (by decide)))
  have Z_6 : n0 ≤ h6.size := Nat.le_trans Z_4 (Keep.of_wr W6).1
  have Kp_6 : Keep h0 h6 [r0] := Kp_4.wr W6 (Or.inl (List.mem_of_getElem? (i := 0) rfl))
  have N6 := Fr.snoc X6 N4 g_r0
  have st7 : ∀ target, Steps p.tables e below (T6.setTop (mkF m 16 #[.val (.ref r0), .val .null, .val (.ref r2), .val .null] [.null, (.ref r0)])) target → Steps p.tables e below (T6.setTop (mkF m 14 #[.val (.ref r0), .val .null, .val (.ref r2), .val .null] [])) target := by
    intro target kt
    refine XS.aloadN X6.here hx rfl (hb hby d3_14) rfl rfl ?_
    refine XS.aloadN X6.here hx rfl (hb hby d3_15) rfl rfl ?_
    exact kt
  obtain ⟨T8, h8, X8, e8, W8, st8⟩ := putF X6 hx hZ hown (host := "") (Or.inl (hw _ (List.mem_of_getElem? (i := 23) rfl))) Via.refl e6 F_ints_6 E_o_6 (Or.inr ⟨(hw _ (List.mem_of_getElem? (i := 24) rfl)), rfl, hnm⟩) (hw _ (List.mem_of_getElem? (i := 12) rfl)) (ty := (.array .int)) (by decide) rfl rfl (g := (mkF m 16 #[.val (.ref r0), .val .null, .val (.ref r2), .val .null] [.null, (.ref r0)])) rfl rfl (hb hby d3_16)
  have F_ints_r0_8 : Fld Z h8 r0 "com/example/libbisim/libbisim/CompactInts" "ints" "[I" .null := F_ints_6.same W8
  have E_o_8 := E_o_6.wr W8
  have F_bytes_r0_8 := F_bytes_r0_6.other W8 (Or.inr (slot_ne (Or.inr (hw _ (List.mem_of_getElem? (i := 20) rfl))) (Or.inr (hw _ (List.mem_of_getElem? (i := 24) rfl))) (by decide) (t := (.array .byte)) (t' := (.array .int)) (by decide) (by decide)))
  have F_chars_r0_8 := F_chars_r0_6.other W8 (Or.inr (slot_ne (Or.inr (hw _ (List.mem_of_getElem? (i := 22) rfl))) (Or.inr (hw _ (List.mem_of_getElem? (i := 24) rfl))) (by decide) (t := (.array .char)) (t' := (.array .int)) (by decide) (by decide)))
  have Z_8 : n0 ≤ h8.size := Nat.le_trans Z_6 (Keep.of_wr W8).1
  have Kp_8 : Keep h0 h8 [r0] := Kp_6.wr W8 (Or.inl (List.mem_of_getElem? (i := 0) rfl))
  have N8 := Fr.snoc X8 N6 g_r0
  obtain ⟨fs, hr, hrun, hended, hW, hsame⟩ := X8.leave (v := none) (fun _ => rfl)
  refine ⟨_, _, pre0 _ (st1 _ (st2 _ (st3 _ (st4 _ (st5 _ (st6 _ (st7 _ (st8 _ ?_)))))))), hrun, hended, _, _, rfl, ?_, ⟨_, rfl⟩, hW, hsame.mono (by decide) (by decide)⟩
  · show Steps p.tables e below (T8.setTop (mkF m 19 #[.val (.ref r0), .val .null, .val (.ref r2), .val .null] [])) _
    exact X8.returnOut hx Bd.returns (hb hby d3_19) hr
  · show Q_rmI2 Z r0 r2 h0 n0 _ T8.heap _
    rw [e8]
    exact ⟨rfl, N8, Kp_8, E_o_8, F_bytes_r0_8, F_chars_r0_8, F_ints_r0_8⟩
theorem ef_rmI3 (m : MethodId) (x0 : Addr) (x3 : Addr) : entryFrame m #[(.ref x0), .null, .null, (.ref x3)] 4 = mkF m 0 #[.val (.ref x0), .val .null, .val .null, .val (.ref x3)] [] := by first | (simp [entryFrame, mkF, argsToLocals, Value.category]; done) | rfl
def Q_rmI3 (Z : State) (r0 : Addr) (r3 : Addr) (h0 : Heap) (n0 : Nat) (v : Option Value) (h : Heap) (L : List Loc) : Prop := v = none ∧ Fr n0 L ∧ Keep h0 h [r0] ∧ Exa Z h r0 "com/example/libbisim/libbisim/CompactInts" ∧ Fld Z h r0 "com/example/libbisim/libbisim/CompactInts" "bytes" "[B" .null ∧ Fld Z h r0 "com/example/libbisim/libbisim/CompactInts" "chars" "[C" .null ∧ Fld Z h r0 "com/example/libbisim/libbisim/CompactInts" "ints" "[I" (.ref r3)
set_option maxRecDepth 65536 in
set_option maxHeartbeats 40000000 in
theorem rmI3 (l : Launch) (Z : State) (a0 : Array Value) (hw : ∀ d ∈ tables_1, d.before a0 Z = true) (ws : List Jvm.Cond) (r0 : Addr) (r3 : Addr) (h0 : Heap) (n0 : Nat) (Z0 : n0 ≤ h0.size) (F_bytes : Fld Z h0 r0 "com/example/libbisim/libbisim/CompactInts" "bytes" "[B" .null) (F_chars : Fld Z h0 r0 "com/example/libbisim/libbisim/CompactInts" "chars" "[C" .null) (F_ints : Fld Z h0 r0 "com/example/libbisim/libbisim/CompactInts" "ints" "[I" .null) (E_o : Exa Z h0 r0 "com/example/libbisim/libbisim/CompactInts") (g_r0 : n0 ≤ r0) :
    MetFree l (⟨"com/example/libbisim/libbisim/CompactInts", "<init>", "([B[C[I)V"⟩ : MethodName) (head1 (Jvm.Cond.code (⟨"com/example/libbisim/libbisim/CompactInts", "<init>", "([B[C[I)V"⟩ : MethodName) prog_7_method_1_code 4 none :: ws) ({ frames := 1, cells := 0, slots := 0, locals := 12 } : Room)) (fun a U => a = #[(.ref r0), .null, .null, (.ref r3)] ∧ Z.Warmed39 U.vm ∧ U.heap = h0) (fun _ _ _ _ _ => True) (fun _ U o U' => ∃ v L, o = .returned v ∧ Q_rmI3 Z r0 r3 h0 n0 v U'.heap L ∧ FrameEnd U o U' L ({ frames := 1, cells := 0, slots := 0, locals := 12 } : Room).cells ({ frames := 1, cells := 0, slots := 0, locals := 12 } : Room).slots) := by
  refine MetFree.of_bodySF (plainFor_of_name pn_2) hisR ?_
  intro p e s m args below meth c s₁ Bd hml0 hP hK
  obtain ⟨rfl, hZ, hh⟩ := hP
  have hx := Bd.exec
  have hby := Bd.bytes
  have hml : c.maxLocals = 4 := hml0
  have hown : s.vm.findClass "com/example/libbisim/libbisim/CompactInts" = some m.cls := findClass_of_methodNamed Bd.named
  have hnm := (name_of_methodNamed Bd.named Bd.method).1
  have X0 : Stand p l e ({ frames := 1, cells := 0, slots := 0, locals := 12 } : Room) s m #[(.ref r0), .null, .null, (.ref r3)] below meth c s₁ [] 0 0 := Stand.of_body Bd
  have e0 : s₁.heap = h0 := by rw [← hh, Bd.state]; rfl
  have N0 := Fr.nil n0
  have pre0 : ∀ t, Steps p.tables e below (s₁.setTop (mkF m 0 #[.val (.ref r0), .val .null, .val .null, .val (.ref r3)] [])) t → Steps p.tables e below (s₁.setTop (entryFrame m #[(.ref r0), .null, .null, (.ref r3)] 4)) t := fun t k => castTop (ef_rmI3 m r0 r3) k
  have Kp : Keep h0 h0 [r0] := Keep.refl _ _
  have st1 : ∀ target, Steps p.tables e below (s₁.setTop (mkF m 1 #[.val (.ref r0), .val .null, .val .null, .val (.ref r3)] [(.ref r0)])) target → Steps p.tables e below (s₁.setTop (mkF m 0 #[.val (.ref r0), .val .null, .val .null, .val (.ref r3)] [])) target := by
    intro target kt
    refine XS.aloadN X0.here hx rfl (hb hby d3_0) rfl rfl ?_
    exact kt
  obtain ⟨T2, X2, e2, st2⟩ := initO X0 hx hZ hown (hw _ (List.mem_of_getElem? (i := 16) rfl)) (hw _ (List.mem_of_getElem? (i := 17) rfl)) (hw _ (List.mem_of_getElem? (i := 18) rfl)) e0 (g := (mkF m 1 #[.val (.ref r0), .val .null, .val .null, .val (.ref r3)] [(.ref r0)])) rfl (by rw [hml]; rfl) rfl (hb hby d3_1) (by decide) (W := 0) (by show 2 * 0 + _ ≤ _; exact Nat.le_of_eq rfl) (by decide)
  have st3 : ∀ target, Steps p.tables e below (T2.setTop (mkF m 6 #[.val (.ref r0), .val .null, .val .null, .val (.ref r3)] [.null, (.ref r0)])) target → Steps p.tables e below (T2.setTop (mkF m 4 #[.val (.ref r0), .val .null, .val .null, .val (.ref r3)] [])) target := by
    intro target kt
    refine XS.aloadN X2.here hx rfl (hb hby d3_4) rfl rfl ?_
    refine XS.aloadN X2.here hx rfl (hb hby d3_5) rfl rfl ?_
    exact kt
  obtain ⟨T4, h4, X4, e4, W4, st4⟩ := putF X2 hx hZ hown (host := "") (Or.inl (hw _ (List.mem_of_getElem? (i := 19) rfl))) Via.refl e2 F_bytes E_o (Or.inr ⟨(hw _ (List.mem_of_getElem? (i := 20) rfl)), rfl, hnm⟩) (hw _ (List.mem_of_getElem? (i := 12) rfl)) (ty := (.array .byte)) (by decide) rfl rfl (g := (mkF m 6 #[.val (.ref r0), .val .null, .val .null, .val (.ref r3)] [.null, (.ref r0)])) rfl rfl (hb hby d3_6)
  have F_bytes_r0_4 : Fld Z h4 r0 "com/example/libbisim/libbisim/CompactInts" "bytes" "[B" .null := F_bytes.same W4
  have E_o_4 := E_o.wr W4
  have F_chars_4 := F_chars.other W4 (Or.inr (slot_ne (Or.inr (hw _ (List.mem_of_getElem? (i := 22) rfl))) (Or.inr (hw _ (List.mem_of_getElem? (i := 20) rfl))) (by decide) (t := (.array .char)) (t' := (.array .byte)) (by decide) (by decide)))
  have F_ints_4 := F_ints.other W4 (Or.inr (slot_ne (Or.inr (hw _ (List.mem_of_getElem? (i := 24) rfl))) (Or.inr (hw _ (List.mem_of_getElem? (i := 20) rfl))) (by decide) (t := (.array .int)) (t' := (.array .byte)) (by decide) (by decide)))
  have Z_4 : n0 ≤ h4.size := Nat.le_trans Z0 (Keep.of_wr W4).1
  have Kp_4 : Keep h0 h4 [r0] := Kp.wr W4 (Or.inl (List.mem_of_getElem? (i := 0) rfl))
  have N4 := Fr.snoc X4 N0 g_r0
  have st5 : ∀ target, Steps p.tables e below (T4.setTop (mkF m 11 #[.val (.ref r0), .val .null, .val .null, .val (.ref r3)] [.null, (.ref r0)])) target → Steps p.tables e below (T4.setTop (mkF m 9 #[.val (.ref r0), .val .null, .val .null, .val (.ref r3)] [])) target := by
    intro target kt
    refine XS.aloadN X4.here hx rfl (hb hby d3_9) rfl rfl ?_
    refine XS.aloadN X4.here hx rfl (hb hby d3_10) rfl rfl ?_
    exact kt
  obtain ⟨T6, h6, X6, e6, W6, st6⟩ := putF X4 hx hZ hown (host := "") (Or.inl (hw _ (List.mem_of_getElem? (i := 21) rfl))) Via.refl e4 F_chars_4 E_o_4 (Or.inr ⟨(hw _ (List.mem_of_getElem? (i := 22) rfl)), rfl, hnm⟩) (hw _ (List.mem_of_getElem? (i := 12) rfl)) (ty := (.array .char)) (by decide) rfl rfl (g := (mkF m 11 #[.val (.ref r0), .val .null, .val .null, .val (.ref r3)] [.null, (.ref r0)])) rfl rfl (hb hby d3_11)
  have F_chars_r0_6 : Fld Z h6 r0 "com/example/libbisim/libbisim/CompactInts" "chars" "[C" .null := F_chars_4.same W6
  have E_o_6 := E_o_4.wr W6
  have F_ints_6 := F_ints_4.other W6 (Or.inr (slot_ne (Or.inr (hw _ (List.mem_of_getElem? (i := 24) rfl))) (Or.inr (hw _ (List.mem_of_getElem? (i := 22) rfl))) (by decide) (t := (.array .int)) (t' := (.array .char)) (by decide) (by decide)))
  have F_bytes_r0_6 := F_bytes_r0_4.other W6 (Or.inr (slot_ne (Or.inr (hw _ (List.mem_of_getElem? (i := 20) rfl))) (Or.inr (hw _ (List.mem_of_getElem? (i := 22) rfl))) (by decide) (t := (.array .byte)) (t' := (.array .char)) (by decide) (by decide)))
  have Z_6 : n0 ≤ h6.size := Nat.le_trans Z_4 (Keep.of_wr W6).1
  have Kp_6 : Keep h0 h6 [r0] := Kp_4.wr W6 (Or.inl (List.mem_of_getElem? (i := 0) rfl))
  have N6 := Fr.snoc X6 N4 g_r0
  have st7 : ∀ target, Steps p.tables e below (T6.setTop (mkF m 16 #[.val (.ref r0), .val .null, .val .null, .val (.ref r3)] [(.ref r3), (.ref r0)])) target → Steps p.tables e below (T6.setTop (mkF m 14 #[.val (.ref r0), .val .null, .val .null, .val (.ref r3)] [])) target := by
    intro target kt
    refine XS.aloadN X6.here hx rfl (hb hby d3_14) rfl rfl ?_
    refine XS.aloadN X6.here hx rfl (hb hby d3_15) rfl rfl ?_
    exact kt
  obtain ⟨T8, h8, X8, e8, W8, st8⟩ := putF X6 hx hZ hown (host := "") (Or.inl (hw _ (List.mem_of_getElem? (i := 23) rfl))) Via.refl e6 F_ints_6 E_o_6 (Or.inr ⟨(hw _ (List.mem_of_getElem? (i := 24) rfl)), rfl, hnm⟩) (hw _ (List.mem_of_getElem? (i := 12) rfl)) (ty := (.array .int)) (by decide) rfl rfl (g := (mkF m 16 #[.val (.ref r0), .val .null, .val .null, .val (.ref r3)] [(.ref r3), (.ref r0)])) rfl rfl (hb hby d3_16)
  have F_ints_r0_8 : Fld Z h8 r0 "com/example/libbisim/libbisim/CompactInts" "ints" "[I" (.ref r3) := F_ints_6.same W8
  have E_o_8 := E_o_6.wr W8
  have F_bytes_r0_8 := F_bytes_r0_6.other W8 (Or.inr (slot_ne (Or.inr (hw _ (List.mem_of_getElem? (i := 20) rfl))) (Or.inr (hw _ (List.mem_of_getElem? (i := 24) rfl))) (by decide) (t := (.array .byte)) (t' := (.array .int)) (by decide) (by decide)))
  have F_chars_r0_8 := F_chars_r0_6.other W8 (Or.inr (slot_ne (Or.inr (hw _ (List.mem_of_getElem? (i := 22) rfl))) (Or.inr (hw _ (List.mem_of_getElem? (i := 24) rfl))) (by decide) (t := (.array .char)) (t' := (.array .int)) (by decide) (by decide)))
  have Z_8 : n0 ≤ h8.size := Nat.le_trans Z_6 (Keep.of_wr W8).1
  have Kp_8 : Keep h0 h8 [r0] := Kp_6.wr W8 (Or.inl (List.mem_of_getElem? (i := 0) rfl))
  have N8 := Fr.snoc X8 N6 g_r0
  obtain ⟨fs, hr, hrun, hended, hW, hsame⟩ := X8.leave (v := none) (fun _ => rfl)
  refine ⟨_, _, pre0 _ (st1 _ (st2 _ (st3 _ (st4 _ (st5 _ (st6 _ (st7 _ (st8 _ ?_)))))))), hrun, hended, _, _, rfl, ?_, ⟨_, rfl⟩, hW, hsame.mono (by decide) (by decide)⟩
  · show Steps p.tables e below (T8.setTop (mkF m 19 #[.val (.ref r0), .val .null, .val .null, .val (.ref r3)] [])) _
    exact X8.returnOut hx Bd.returns (hb hby d3_19) hr
  · show Q_rmI3 Z r0 r3 h0 n0 _ T8.heap _
    rw [e8]
    exact ⟨rfl, N8, Kp_8, E_o_8, F_bytes_r0_8, F_chars_r0_8, F_ints_r0_8⟩
theorem d2_0 : decode prog_7_method_2_code 0 = .ok (.iload_n 2, 1) := by decide +kernel
theorem d2_1 : decode prog_7_method_2_code 1 = .ok (.sipush 256, 3) := by decide +kernel
theorem d2_4 : decode prog_7_method_2_code 4 = .ok (.if_icmp .gt 48, 3) := by decide +kernel
theorem d2_7 : decode prog_7_method_2_code 7 = .ok (.iload_n 1, 1) := by decide +kernel
theorem d2_8 : decode prog_7_method_2_code 8 = .ok (.newarray .byte, 2) := by decide +kernel
theorem d2_10 : decode prog_7_method_2_code 10 = .ok (.astore 4, 2) := by decide +kernel
theorem d2_12 : decode prog_7_method_2_code 12 = .ok (.iconst 0, 1) := by decide +kernel
theorem d2_13 : decode prog_7_method_2_code 13 = .ok (.istore 5, 2) := by decide +kernel
theorem d2_15 : decode prog_7_method_2_code 15 = .ok (.iload 5, 2) := by decide +kernel
theorem d2_17 : decode prog_7_method_2_code 17 = .ok (.iload_n 1, 1) := by decide +kernel
theorem d2_18 : decode prog_7_method_2_code 18 = .ok (.if_icmp .ge 19, 3) := by decide +kernel
theorem d2_21 : decode prog_7_method_2_code 21 = .ok (.aload 4, 2) := by decide +kernel
theorem d2_23 : decode prog_7_method_2_code 23 = .ok (.iload 5, 2) := by decide +kernel
theorem d2_25 : decode prog_7_method_2_code 25 = .ok (.aload_n 0, 1) := by decide +kernel
theorem d2_26 : decode prog_7_method_2_code 26 = .ok (.iload 5, 2) := by decide +kernel
theorem d2_28 : decode prog_7_method_2_code 28 = .ok (.iaload, 1) := by decide +kernel
theorem d2_29 : decode prog_7_method_2_code 29 = .ok (.i2b, 1) := by decide +kernel
theorem d2_30 : decode prog_7_method_2_code 30 = .ok (.bastore, 1) := by decide +kernel
theorem d2_31 : decode prog_7_method_2_code 31 = .ok (.iinc 5 1, 3) := by decide +kernel
theorem d2_34 : decode prog_7_method_2_code 34 = .ok (.goto (-19), 3) := by decide +kernel
theorem d2_37 : decode prog_7_method_2_code 37 = .ok (.new 12, 3) := by decide +kernel
theorem d2_40 : decode prog_7_method_2_code 40 = .ok (.dup, 1) := by decide +kernel
theorem d2_41 : decode prog_7_method_2_code 41 = .ok (.aload 4, 2) := by decide +kernel
theorem d2_43 : decode prog_7_method_2_code 43 = .ok (.aconst_null, 1) := by decide +kernel
theorem d2_44 : decode prog_7_method_2_code 44 = .ok (.aconst_null, 1) := by decide +kernel
theorem d2_45 : decode prog_7_method_2_code 45 = .ok (.invokespecial 25, 3) := by decide +kernel
theorem d2_48 : decode prog_7_method_2_code 48 = .ok (.astore_n 3, 1) := by decide +kernel
theorem d2_49 : decode prog_7_method_2_code 49 = .ok (.goto 79, 3) := by decide +kernel
theorem d2_52 : decode prog_7_method_2_code 52 = .ok (.iload_n 2, 1) := by decide +kernel
theorem d2_53 : decode prog_7_method_2_code 53 = .ok (.ldc 28, 2) := by decide +kernel
theorem d2_55 : decode prog_7_method_2_code 55 = .ok (.if_icmp .gt 48, 3) := by decide +kernel
theorem d2_58 : decode prog_7_method_2_code 58 = .ok (.iload_n 1, 1) := by decide +kernel
theorem d2_59 : decode prog_7_method_2_code 59 = .ok (.newarray .char, 2) := by decide +kernel
theorem d2_61 : decode prog_7_method_2_code 61 = .ok (.astore 4, 2) := by decide +kernel
theorem d2_63 : decode prog_7_method_2_code 63 = .ok (.iconst 0, 1) := by decide +kernel
theorem d2_64 : decode prog_7_method_2_code 64 = .ok (.istore 5, 2) := by decide +kernel
theorem d2_66 : decode prog_7_method_2_code 66 = .ok (.iload 5, 2) := by decide +kernel
theorem d2_68 : decode prog_7_method_2_code 68 = .ok (.iload_n 1, 1) := by decide +kernel
theorem d2_69 : decode prog_7_method_2_code 69 = .ok (.if_icmp .ge 19, 3) := by decide +kernel
theorem d2_72 : decode prog_7_method_2_code 72 = .ok (.aload 4, 2) := by decide +kernel
theorem d2_74 : decode prog_7_method_2_code 74 = .ok (.iload 5, 2) := by decide +kernel
theorem d2_76 : decode prog_7_method_2_code 76 = .ok (.aload_n 0, 1) := by decide +kernel
theorem d2_77 : decode prog_7_method_2_code 77 = .ok (.iload 5, 2) := by decide +kernel
theorem d2_79 : decode prog_7_method_2_code 79 = .ok (.iaload, 1) := by decide +kernel
theorem d2_80 : decode prog_7_method_2_code 80 = .ok (.i2c, 1) := by decide +kernel
theorem d2_81 : decode prog_7_method_2_code 81 = .ok (.castore, 1) := by decide +kernel
theorem d2_82 : decode prog_7_method_2_code 82 = .ok (.iinc 5 1, 3) := by decide +kernel
theorem d2_85 : decode prog_7_method_2_code 85 = .ok (.goto (-19), 3) := by decide +kernel
theorem d2_88 : decode prog_7_method_2_code 88 = .ok (.new 12, 3) := by decide +kernel
theorem d2_91 : decode prog_7_method_2_code 91 = .ok (.dup, 1) := by decide +kernel
theorem d2_92 : decode prog_7_method_2_code 92 = .ok (.aconst_null, 1) := by decide +kernel
theorem d2_93 : decode prog_7_method_2_code 93 = .ok (.aload 4, 2) := by decide +kernel
theorem d2_95 : decode prog_7_method_2_code 95 = .ok (.aconst_null, 1) := by decide +kernel
theorem d2_96 : decode prog_7_method_2_code 96 = .ok (.invokespecial 25, 3) := by decide +kernel
theorem d2_99 : decode prog_7_method_2_code 99 = .ok (.astore_n 3, 1) := by decide +kernel
theorem d2_100 : decode prog_7_method_2_code 100 = .ok (.goto 28, 3) := by decide +kernel
theorem d2_103 : decode prog_7_method_2_code 103 = .ok (.new 12, 3) := by decide +kernel
theorem d2_106 : decode prog_7_method_2_code 106 = .ok (.dup, 1) := by decide +kernel
theorem d2_107 : decode prog_7_method_2_code 107 = .ok (.aconst_null, 1) := by decide +kernel
theorem d2_108 : decode prog_7_method_2_code 108 = .ok (.aconst_null, 1) := by decide +kernel
theorem d2_109 : decode prog_7_method_2_code 109 = .ok (.aload_n 0, 1) := by decide +kernel
theorem d2_110 : decode prog_7_method_2_code 110 = .ok (.arraylength, 1) := by decide +kernel
theorem d2_111 : decode prog_7_method_2_code 111 = .ok (.iload_n 1, 1) := by decide +kernel
theorem d2_112 : decode prog_7_method_2_code 112 = .ok (.if_icmp .ne 7, 3) := by decide +kernel
theorem d2_115 : decode prog_7_method_2_code 115 = .ok (.aload_n 0, 1) := by decide +kernel
theorem d2_116 : decode prog_7_method_2_code 116 = .ok (.goto 8, 3) := by decide +kernel
theorem d2_119 : decode prog_7_method_2_code 119 = .ok (.aload_n 0, 1) := by decide +kernel
theorem d2_120 : decode prog_7_method_2_code 120 = .ok (.iload_n 1, 1) := by decide +kernel
theorem d2_121 : decode prog_7_method_2_code 121 = .ok (.invokestatic 29, 3) := by decide +kernel
theorem d2_124 : decode prog_7_method_2_code 124 = .ok (.invokespecial 25, 3) := by decide +kernel
theorem d2_127 : decode prog_7_method_2_code 127 = .ok (.astore_n 3, 1) := by decide +kernel
theorem d2_128 : decode prog_7_method_2_code 128 = .ok (.aload_n 3, 1) := by decide +kernel
theorem d2_129 : decode prog_7_method_2_code 129 = .ok (.areturn, 1) := by decide +kernel
theorem ef_rmOf0 (m : MethodId) (x0 : Addr) (x1 : Int32) (x2 : Int32) : entryFrame m #[(.ref x0), (.int x1), (.int x2)] 6 = mkF m 0 #[.val (.ref x0), .val (.int x1), .val (.int x2), .unset, .unset, .unset] [] := by first | (simp [entryFrame, mkF, argsToLocals, Value.category]; done) | rfl
def Q_rmOf0 (Z : State) (r0 : Addr) (p2 : Int32) (kv : ClassId) (w0 : Int32) (w1 : Int32) (w2 : Int32) (w3 : Int32) (h0 : Heap) (n0 : Nat) (v : Option Value) (h : Heap) (L : List Loc) : Prop := ∃ b, v = some (.ref b) ∧ Fr n0 L ∧ Keep h0 h [] ∧ h0.size ≤ b ∧ Exa Z h b "com/example/libbisim/libbisim/CompactInts" ∧ ((¬ (256 : Int32) < p2 ∧ ∃ y k, h0.size ≤ y ∧ Fld Z h b "com/example/libbisim/libbisim/CompactInts" "bytes" "[B" (.ref y) ∧ Arv Z h y k .byte (0 : Int32) [] (.int (0 : Int32))) ∨ ((256 : Int32) < p2 ∧ ¬ (65536 : Int32) < p2 ∧ ∃ y k, h0.size ≤ y ∧ Fld Z h b "com/example/libbisim/libbisim/CompactInts" "bytes" "[B" .null ∧ Fld Z h b "com/example/libbisim/libbisim/CompactInts" "chars" "[C" (.ref y) ∧ Arv Z h y k .char (0 : Int32) [] (.int (0 : Int32))) ∨ ((65536 : Int32) < p2 ∧ Fld Z h b "com/example/libbisim/libbisim/CompactInts" "bytes" "[B" .null ∧ Fld Z h b "com/example/libbisim/libbisim/CompactInts" "chars" "[C" .null ∧ ∃ y k, h0.size ≤ y ∧ Fld Z h b "com/example/libbisim/libbisim/CompactInts" "ints" "[I" (.ref y) ∧ Arv Z h y k .int (0 : Int32) [] (.int (0 : Int32))))
set_option maxRecDepth 65536 in
set_option maxHeartbeats 40000000 in
theorem rmOf0 (l : Launch) (Z : State) (a0 : Array Value) (hw : ∀ d ∈ tables_1, d.before a0 Z = true) (ws : List Jvm.Cond) (r0 : Addr) (p2 : Int32) (kv : ClassId) (w0 : Int32) (w1 : Int32) (w2 : Int32) (w3 : Int32) (h0 : Heap) (n0 : Nat) (Z0 : n0 ≤ h0.size) (Vv : Arv Z h0 r0 kv .int (4 : Int32) [(.int w0), (.int w1), (.int w2), (.int w3)] (.int (0 : Int32))) :
    MetFree l (⟨"com/example/libbisim/libbisim/CompactInts", "of", "([III)Lcom/example/libbisim/libbisim/CompactInts;"⟩ : MethodName) (head1 (Jvm.Cond.code (⟨"com/example/libbisim/libbisim/CompactInts", "of", "([III)Lcom/example/libbisim/libbisim/CompactInts;"⟩ : MethodName) prog_7_method_2_code 6 (some (.object "com/example/libbisim/libbisim/CompactInts")) :: ws) ({ frames := 2, cells := 2, slots := 3, locals := 78 } : Room)) (fun a U => a = #[(.ref r0), (.int (0 : Int32)), (.int p2)] ∧ Z.Warmed39 U.vm ∧ U.heap = h0) (fun _ _ _ _ _ => True) (fun _ U o U' => ∃ v L, o = .returned v ∧ Q_rmOf0 Z r0 p2 kv w0 w1 w2 w3 h0 n0 v U'.heap L ∧ FrameEnd U o U' L ({ frames := 2, cells := 2, slots := 3, locals := 78 } : Room).cells ({ frames := 2, cells := 2, slots := 3, locals := 78 } : Room).slots) := by
  refine MetFree.of_bodySF (plainFor_of_name pn_2) hisR ?_
  intro p e s m args below meth c s₁ Bd hml0 hP hK
  obtain ⟨rfl, hZ, hh⟩ := hP
  have hx := Bd.exec
  have hby := Bd.bytes
  have hml : c.maxLocals = 6 := hml0
  have hown : s.vm.findClass "com/example/libbisim/libbisim/CompactInts" = some m.cls := findClass_of_methodNamed Bd.named
  have hnm := (name_of_methodNamed Bd.named Bd.method).1
  have X0 : Stand p l e ({ frames := 2, cells := 2, slots := 3, locals := 78 } : Room) s m #[(.ref r0), (.int (0 : Int32)), (.int p2)] below meth c s₁ [] 0 0 := Stand.of_body Bd
  have e0 : s₁.heap = h0 := by rw [← hh, Bd.state]; rfl
  have N0 := Fr.nil n0
  have pre0 : ∀ t, Steps p.tables e below (s₁.setTop (mkF m 0 #[.val (.ref r0), .val (.int (0 : Int32)), .val (.int p2), .unset, .unset, .unset] [])) t → Steps p.tables e below (s₁.setTop (entryFrame m #[(.ref r0), (.int (0 : Int32)), (.int p2)] 6)) t := fun t k => castTop (ef_rmOf0 m r0 (0 : Int32) p2) k
  have Kp : Keep h0 h0 [] := Keep.refl _ _
  have st1 : ∀ target, Steps p.tables e below (s₁.setTop (mkF m 4 #[.val (.ref r0), .val (.int (0 : Int32)), .val (.int p2), .unset, .unset, .unset] [(.int (256 : Int32)), (.int p2)])) target → Steps p.tables e below (s₁.setTop (mkF m 0 #[.val (.ref r0), .val (.int (0 : Int32)), .val (.int p2), .unset, .unset, .unset] [])) target := by
    intro target kt
    refine XS.iloadN X0.here hx rfl (hb hby d2_0) rfl ?_
    refine XS.sipush X0.here hx rfl (hb hby d2_1) ?_
    exact kt
  by_cases hc4 : (256 : Int32) < p2
  · have st2 : ∀ target, Steps p.tables e below (s₁.setTop (mkF m 52 #[.val (.ref r0), .val (.int (0 : Int32)), .val (.int p2), .unset, .unset, .unset] [])) target → Steps p.tables e below (s₁.setTop (mkF m 4 #[.val (.ref r0), .val (.int (0 : Int32)), .val (.int p2), .unset, .unset, .unset] [(.int (256 : Int32)), (.int p2)])) target := by
      intro target kt
      refine XS.icmpYes X0.here hx rfl (pc0 := 4) (pc' := 52) rfl (hb hby d2_4) rfl (tlt hc4).2.2.1 (by decide) (by decide) ?_
      exact kt
    have st3 : ∀ target, Steps p.tables e below (s₁.setTop (mkF m 55 #[.val (.ref r0), .val (.int (0 : Int32)), .val (.int p2), .unset, .unset, .unset] [(.int (65536 : Int32)), (.int p2)])) target → Steps p.tables e below (s₁.setTop (mkF m 52 #[.val (.ref r0), .val (.int (0 : Int32)), .val (.int p2), .unset, .unset, .unset] [])) target := by
      intro target kt
      refine XS.iloadN X0.here hx rfl (hb hby d2_52) rfl ?_
      refine X0.ldcInt hx hown (mvT hZ (hw _ (List.mem_of_getElem? (i := 26) rfl))) (g := (mkF m 53 #[.val (.ref r0), .val (.int (0 : Int32)), .val (.int p2), .unset, .unset, .unset] [(.int p2)])) rfl (hb hby d2_53) _ ?_
      exact kt
    by_cases hc55 : (65536 : Int32) < p2
    · have st4 : ∀ target, Steps p.tables e below (s₁.setTop (mkF m 103 #[.val (.ref r0), .val (.int (0 : Int32)), .val (.int p2), .unset, .unset, .unset] [])) target → Steps p.tables e below (s₁.setTop (mkF m 55 #[.val (.ref r0), .val (.int (0 : Int32)), .val (.int p2), .unset, .unset, .unset] [(.int (65536 : Int32)), (.int p2)])) target := by
        intro target kt
        refine XS.icmpYes X0.here hx rfl (pc0 := 55) (pc' := 103) rfl (hb hby d2_55) rfl (tlt hc55).2.2.1 (by decide) (by decide) ?_
        exact kt
      obtain ⟨T5, h5, X5, e5, E5, A5, D5, -, st5⟩ := newO X0 hx hZ hown (hw _ (List.mem_of_getElem? (i := 11) rfl)) (hw _ (List.mem_of_getElem? (i := 12) rfl)) (hw _ (List.mem_of_getElem? (i := 8) rfl)) e0 (g := (mkF m 103 #[.val (.ref r0), .val (.int (0 : Int32)), .val (.int p2), .unset, .unset, .unset] [])) rfl (hb hby d2_103) (by decide) (by decide)
      obtain ⟨b, g5⟩ : ∃ z, z = h0.size := ⟨_, rfl⟩
      rw [← g5] at A5 D5 st5
      have g_b : n0 ≤ b := Nat.le_trans Z0 (Nat.le_of_eq g5.symm)
      have sz_b : h0.size ≤ b := Nat.le_trans Kp.1 (Nat.le_of_eq g5.symm)
      have ne_r0_b : r0 ≠ b := Nat.ne_of_lt (Nat.lt_of_lt_of_le Vv.lt (Nat.le_of_eq g5.symm))
      have Vv_5 := Vv.ext E5
      have Z_5 : n0 ≤ h5.size := Nat.le_trans Z0 E5.1
      have Kp_5 : Keep h0 h5 [] := Kp.ext E5
      have E_b : Exa Z h5 b "com/example/libbisim/libbisim/CompactInts" := A5
      have F_bytes_b : Fld Z h5 b "com/example/libbisim/libbisim/CompactInts" "bytes" "[B" .null := D5 (Or.inr (hw _ (List.mem_of_getElem? (i := 20) rfl))) (ty := (.array .byte)) (by decide)
      have F_chars_b : Fld Z h5 b "com/example/libbisim/libbisim/CompactInts" "chars" "[C" .null := D5 (Or.inr (hw _ (List.mem_of_getElem? (i := 22) rfl))) (ty := (.array .char)) (by decide)
      have F_ints_b : Fld Z h5 b "com/example/libbisim/libbisim/CompactInts" "ints" "[I" .null := D5 (Or.inr (hw _ (List.mem_of_getElem? (i := 24) rfl))) (ty := (.array .int)) (by decide)
      have st6 : ∀ target, Steps p.tables e below (T5.setTop (mkF m 110 #[.val (.ref r0), .val (.int (0 : Int32)), .val (.int p2), .unset, .unset, .unset] [(.ref r0), .null, .null, (.ref b), (.ref b)])) target → Steps p.tables e below (T5.setTop (mkF m 106 #[.val (.ref r0), .val (.int (0 : Int32)), .val (.int p2), .unset, .unset, .unset] [(.ref b)])) target := by
        intro target kt
        refine XS.dup X5.here hx rfl (hb hby d2_106) rfl rfl ?_
        show Steps p.tables e below (T5.setTop (mkF m 107 #[.val (.ref r0), .val (.int (0 : Int32)), .val (.int p2), .unset, .unset, .unset] [(.ref b), (.ref b)])) _
        refine XS.aconstNull X5.here hx rfl (hb hby d2_107) ?_
        refine XS.aconstNull X5.here hx rfl (hb hby d2_108) ?_
        refine XS.aloadN X5.here hx rfl (hb hby d2_109) rfl rfl ?_
        exact kt
      obtain ⟨cl7, Ar7, qc7, Sz7, Mn7, Hs7, Gs7⟩ := id Vv_5
      have st7 : ∀ target, Steps p.tables e below (T5.setTop (mkF m 111 #[.val (.ref r0), .val (.int (0 : Int32)), .val (.int p2), .unset, .unset, .unset] [(.int (4 : Int32)), .null, .null, (.ref b), (.ref b)])) target → Steps p.tables e below (T5.setTop (mkF m 110 #[.val (.ref r0), .val (.int (0 : Int32)), .val (.int p2), .unset, .unset, .unset] [(.ref r0), .null, .null, (.ref b), (.ref b)])) target := fun target kt => X5.arraylength hx (cell := cl7) (by rw [e5]; exact Ar7.1) (State.isArrayOf_alike hZ.alike Ar7.2.1) (g := (mkF m 110 #[.val (.ref r0), .val (.int (0 : Int32)), .val (.int p2), .unset, .unset, .unset] [(.ref r0), .null, .null, (.ref b), (.ref b)])) rfl rfl (hb hby d2_110) _ (by rw [len_of Sz7 Mn7]; exact kt)
      have st8 : ∀ target, Steps p.tables e below (T5.setTop (mkF m 121 #[.val (.ref r0), .val (.int (0 : Int32)), .val (.int p2), .unset, .unset, .unset] [(.int (0 : Int32)), (.ref r0), .null, .null, (.ref b), (.ref b)])) target → Steps p.tables e below (T5.setTop (mkF m 111 #[.val (.ref r0), .val (.int (0 : Int32)), .val (.int p2), .unset, .unset, .unset] [(.int (4 : Int32)), .null, .null, (.ref b), (.ref b)])) target := by
        intro target kt
        refine XS.iloadN X5.here hx rfl (hb hby d2_111) rfl ?_
        refine XS.icmpYes X5.here hx rfl (pc0 := 112) (pc' := 119) rfl (hb hby d2_112) rfl (feq (by decide : ¬ ((4 : Int32) = (0 : Int32)))).2 (by decide) (by decide) ?_
        refine XS.aloadN X5.here hx rfl (hb hby d2_119) rfl rfl ?_
        refine XS.iloadN X5.here hx rfl (hb hby d2_120) rfl ?_
        exact kt
      obtain ⟨_, _, ⟨T9, L9, k9, n9⟩, -, X9, ⟨Lc9, hQ9, l9, y9, z9⟩, st9⟩ := Jvm.LawKit.callS X5 hx (y := (⟨"java/util/Arrays", "copyOf", "([II)[I"⟩ : MethodName)) hown (mvT hZ (hw _ (List.mem_of_getElem? (i := 27) rfl))) (mvT hZ (hw _ (List.mem_of_getElem? (i := 28) rfl))) (mvT hZ (hw _ (List.mem_of_getElem? (i := 29) rfl))) (mvT hZ (hw _ (List.mem_of_getElem? (i := 30) rfl))) (by decide) (backOf (W := 4) (rmCO0 l Z a0 hw [] r0 kv w0 w1 w2 w3 h5 n0 Z_5 Vv_5) hZ (hw _ (List.mem_of_getElem? (i := 30) rfl)) (hw _ (List.mem_of_getElem? (i := 29) rfl)) (by decide) (by decide)) (g := (mkF m 121 #[.val (.ref r0), .val (.int (0 : Int32)), .val (.int p2), .unset, .unset, .unset] [(.int (0 : Int32)), (.ref r0), .null, .null, (.ref b), (.ref b)])) rfl (by rw [hml]; rfl) (argsL := [(.ref r0), (.int (0 : Int32))]) (rest := [.null, .null, (.ref b), (.ref b)]) (lenOf pd_4 rfl) rfl (by show 2 * 0 + _ ≤ _; exact Nat.le_of_eq rfl) (hb hby d2_121) (fun _ _ => ⟨rfl, e5, (by decide : 1 + 1 ≤ _), (by decide : 3 + 0 ≤ _)⟩)
      dsimp only [Pt.U, Pt.locs, Pt.cells, Pt.slots] at X9 l9 y9 z9 st9 hQ9
      subst l9 y9 z9
      obtain ⟨y9, rfl, Nq9, K9, sz9, ky, Vy⟩ := hQ9
      have N9 := Fr.app N0 Nq9
      have g_y9 : n0 ≤ y9 := Nat.le_trans Z_5 sz9
      have sz_y9 : h0.size ≤ y9 := Nat.le_trans Kp_5.1 sz9
      have ne_r0_y9 : r0 ≠ y9 := Nat.ne_of_lt (Nat.lt_of_lt_of_le Vv_5.lt sz9)
      have ne_b_y9 : b ≠ y9 := Nat.ne_of_lt (Nat.lt_of_lt_of_le E_b.lt sz9)
      have Vv_9 := Vv_5.keep K9 nin0
      have E_b_9 := E_b.keep K9
      have F_bytes_b_9 := F_bytes_b.keep K9 nin0
      have F_chars_b_9 := F_chars_b.keep K9 nin0
      have F_ints_b_9 := F_ints_b.keep K9 nin0
      have Z_9 : n0 ≤ T9.heap.size := Nat.le_trans Z_5 K9.1
      have Kp_9 : Keep h0 T9.heap [] := Kp_5.trans K9 (all0)
      obtain ⟨_, _, ⟨T10, L10, k10, n10⟩, -, X10, ⟨Lc10, hQ10, l10, y10, z10⟩, st10⟩ := X9.specialBack hx (y := (⟨"com/example/libbisim/libbisim/CompactInts", "<init>", "([B[C[I)V"⟩ : MethodName)) rfl hown (mvT hZ (hw _ (List.mem_of_getElem? (i := 13) rfl))) (mvT hZ (hw _ (List.mem_of_getElem? (i := 14) rfl))) (mvT hZ (hw _ (List.mem_of_getElem? (i := 15) rfl))) (by decide) (backOf (W := 1) (rmI3 l Z a0 hw [] b y9  T9.heap n0 Z_9 F_bytes_b_9 F_chars_b_9 F_ints_b_9 E_b_9 g_b) hZ (hw _ (List.mem_of_getElem? (i := 15) rfl)) (hw _ (List.mem_of_getElem? (i := 8) rfl)) (by decide) (by decide)) (g := (mkF m 124 #[.val (.ref r0), .val (.int (0 : Int32)), .val (.int p2), .unset, .unset, .unset] [(.ref y9), .null, .null, (.ref b), (.ref b)])) rfl (by rw [hml]; rfl) (Steps.refl _) (a := b) (argsL := [.null, .null, (.ref y9)]) (rest := [(.ref b)]) (lenOf pd_2 rfl) rfl (by show 2 * 0 + _ ≤ _; exact Nat.le_of_eq rfl) (hb hby d2_124) (fun _ _ => ⟨rfl, rfl, (by decide : 2 + 0 ≤ _), (by decide : 3 + 0 ≤ _)⟩)
      dsimp only [Pt.U, Pt.locs, Pt.cells, Pt.slots] at X10 l10 y10 z10 st10 hQ10
      subst l10 y10 z10
      obtain ⟨rfl, Nq10, K10, E_b_i, F_bytes_b_i, F_chars_b_i, F_ints_b_i⟩ := hQ10
      have N10 := Fr.app N9 Nq10
      have Vv_10 := Vv_9.keep K10 (ninS ne_r0_b nin0)
      have E_b_10 := E_b_9.keep K10
      have Vy_10 := Vy.keep K10 (ninS (Ne.symm ne_b_y9) nin0)
      have Z_10 : n0 ≤ T10.heap.size := Nat.le_trans Z_9 K10.1
      have Kp_10 : Keep h0 T10.heap [] := Kp_9.trans K10 (allS (Or.inr sz_b) (all0))
      obtain ⟨fs, hr, hrun, hended, hW, hsame⟩ := X10.leave (v := some (.ref b)) (fun h => by rw [Bd.returns] at h; cases h)
      refine ⟨_, _, pre0 _ (st1 _ (st2 _ (st3 _ (st4 _ (st5 _ (st6 _ (st7 _ (st8 _ (st9 _ (st10.trans ?_)))))))))), hrun, hended, _, _, rfl, ?_, ⟨_, rfl⟩, hW, hsame.mono (by decide) (by decide)⟩
      · refine XS.astoreN X10.here hx rfl (hb hby d2_127) rfl rfl (l' := #[.val (.ref r0), .val (.int (0 : Int32)), .val (.int p2), .val (.ref b), .unset, .unset]) rfl ?_
        show Steps p.tables e below (T10.setTop (mkF m 128 #[.val (.ref r0), .val (.int (0 : Int32)), .val (.int p2), .val (.ref b), .unset, .unset] [])) _
        refine XS.aloadN X10.here hx rfl (hb hby d2_128) rfl rfl ?_
        show Steps p.tables e below (T10.setTop (mkF m 129 #[.val (.ref r0), .val (.int (0 : Int32)), .val (.int p2), .val (.ref b), .unset, .unset] [(.ref b)])) _
        jvm_step X10.here [X10.here.top, hx, (hb hby d2_129), X10.method', Bd.returns, Value.isRef, FieldType.isReference]
        first | (intro acts; rw [hr _ acts rfl rfl rfl]) | rw [hr _ _ rfl rfl rfl]
        exact Steps.refl _
      · show Q_rmOf0 Z r0 p2 kv w0 w1 w2 w3 h0 n0 _ T10.heap _
        exact ⟨b, rfl, N10, Kp_10, sz_b, E_b_i, Or.inr (Or.inr ⟨hc55, F_bytes_b_i, F_chars_b_i, y9, _, sz_y9, F_ints_b_i, Vy_10⟩)⟩
    · have st11 : ∀ target, Steps p.tables e below (s₁.setTop (mkF m 58 #[.val (.ref r0), .val (.int (0 : Int32)), .val (.int p2), .unset, .unset, .unset] [])) target → Steps p.tables e below (s₁.setTop (mkF m 55 #[.val (.ref r0), .val (.int (0 : Int32)), .val (.int p2), .unset, .unset, .unset] [(.int (65536 : Int32)), (.int p2)])) target := by
        intro target kt
        refine XS.icmpNo X0.here hx rfl (hb hby d2_55) rfl (flt hc55).2.2.1 ?_
        exact kt
      have st12 : ∀ target, Steps p.tables e below (s₁.setTop (mkF m 59 #[.val (.ref r0), .val (.int (0 : Int32)), .val (.int p2), .unset, .unset, .unset] [(.int (0 : Int32))])) target → Steps p.tables e below (s₁.setTop (mkF m 58 #[.val (.ref r0), .val (.int (0 : Int32)), .val (.int p2), .unset, .unset, .unset] [])) target := by
        intro target kt
        refine XS.iloadN X0.here hx rfl (hb hby d2_58) rfl ?_
        exact kt
      obtain ⟨T13, h13, k13, X13, e13, E13, A13, st13⟩ := newP X0 hx hZ (hw _ (List.mem_of_getElem? (i := 47) rfl)) e0 (g := (mkF m 59 #[.val (.ref r0), .val (.int (0 : Int32)), .val (.int p2), .unset, .unset, .unset] [(.int (0 : Int32))])) rfl (hb hby d2_59) rfl (by decide) (cap := 0) (by decide) (by decide) (by decide) (by decide)
      obtain ⟨y, g13⟩ : ∃ z, z = h0.size := ⟨_, rfl⟩
      rw [← g13] at A13 st13
      have g_y : n0 ≤ y := Nat.le_trans Z0 (Nat.le_of_eq g13.symm)
      have sz_y : h0.size ≤ y := Nat.le_trans Kp.1 (Nat.le_of_eq g13.symm)
      have ne_r0_y : r0 ≠ y := Nat.ne_of_lt (Nat.lt_of_lt_of_le Vv.lt (Nat.le_of_eq g13.symm))
      have Vv_13 := Vv.ext E13
      have Z_13 : n0 ≤ h13.size := Nat.le_trans Z0 E13.1
      have Kp_13 : Keep h0 h13 [] := Kp.ext E13
      have V_y : Arv Z h13 y k13 .char (0 : Int32) [] (.int (0 : Int32)) := Arv.new A13 (by decide)
      have st14 : ∀ target, Steps p.tables e below (T13.setTop (mkF m 88 #[.val (.ref r0), .val (.int (0 : Int32)), .val (.int p2), .unset, .val (.ref y), .val (.int (0 : Int32))] [])) target → Steps p.tables e below (T13.setTop (mkF m 61 #[.val (.ref r0), .val (.int (0 : Int32)), .val (.int p2), .unset, .unset, .unset] [(.ref y)])) target := by
        intro target kt
        refine XS.astore X13.here hx rfl (hb hby d2_61) rfl rfl (l' := #[.val (.ref r0), .val (.int (0 : Int32)), .val (.int p2), .unset, .val (.ref y), .unset]) rfl ?_
        refine XS.iconst X13.here hx rfl (hb hby d2_63) ?_
        refine XS.istore X13.here hx rfl (hb hby d2_64) rfl (l' := #[.val (.ref r0), .val (.int (0 : Int32)), .val (.int p2), .unset, .val (.ref y), .val (.int (0 : Int32))]) rfl ?_
        refine XS.iload X13.here hx rfl (hb hby d2_66) rfl ?_
        refine XS.iloadN X13.here hx rfl (hb hby d2_68) rfl ?_
        show Steps p.tables e below (T13.setTop (mkF m 69 #[.val (.ref r0), .val (.int (0 : Int32)), .val (.int p2), .unset, .val (.ref y), .val (.int (0 : Int32))] [(.int (0 : Int32)), (.int (0 : Int32))])) _
        refine XS.icmpYes X13.here hx rfl (pc0 := 69) (pc' := 88) rfl (hb hby d2_69) rfl (flt (by decide : ¬ ((0 : Int32) < (0 : Int32)))).2.1 (by decide) (by decide) ?_
        exact kt
      obtain ⟨T15, h15, X15, e15, E15, A15, D15, -, st15⟩ := newO X13 hx hZ hown (hw _ (List.mem_of_getElem? (i := 11) rfl)) (hw _ (List.mem_of_getElem? (i := 12) rfl)) (hw _ (List.mem_of_getElem? (i := 8) rfl)) e13 (g := (mkF m 88 #[.val (.ref r0), .val (.int (0 : Int32)), .val (.int p2), .unset, .val (.ref y), .val (.int (0 : Int32))] [])) rfl (hb hby d2_88) (by decide) (by decide)
      obtain ⟨b, g15⟩ : ∃ z, z = h13.size := ⟨_, rfl⟩
      rw [← g15] at A15 D15 st15
      have g_b : n0 ≤ b := Nat.le_trans Z_13 (Nat.le_of_eq g15.symm)
      have sz_b : h0.size ≤ b := Nat.le_trans Kp_13.1 (Nat.le_of_eq g15.symm)
      have ne_r0_b : r0 ≠ b := Nat.ne_of_lt (Nat.lt_of_lt_of_le Vv_13.lt (Nat.le_of_eq g15.symm))
      have ne_y_b : y ≠ b := Nat.ne_of_lt (Nat.lt_of_lt_of_le V_y.lt (Nat.le_of_eq g15.symm))
      have Vv_15 := Vv_13.ext E15
      have V_y_15 := V_y.ext E15
      have Z_15 : n0 ≤ h15.size := Nat.le_trans Z_13 E15.1
      have Kp_15 : Keep h0 h15 [] := Kp_13.ext E15
      have E_b : Exa Z h15 b "com/example/libbisim/libbisim/CompactInts" := A15
      have F_bytes_b : Fld Z h15 b "com/example/libbisim/libbisim/CompactInts" "bytes" "[B" .null := D15 (Or.inr (hw _ (List.mem_of_getElem? (i := 20) rfl))) (ty := (.array .byte)) (by decide)
      have F_chars_b : Fld Z h15 b "com/example/libbisim/libbisim/CompactInts" "chars" "[C" .null := D15 (Or.inr (hw _ (List.mem_of_getElem? (i := 22) rfl))) (ty := (.array .char)) (by decide)
      have F_ints_b : Fld Z h15 b "com/example/libbisim/libbisim/CompactInts" "ints" "[I" .null := D15 (Or.inr (hw _ (List.mem_of_getElem? (i := 24) rfl))) (ty := (.array .int)) (by decide)
      have st16 : ∀ target, Steps p.tables e below (T15.setTop (mkF m 96 #[.val (.ref r0), .val (.int (0 : Int32)), .val (.int p2), .unset, .val (.ref y), .val (.int (0 : Int32))] [.null, (.ref y), .null, (.ref b), (.ref b)])) target → Steps p.tables e below (T15.setTop (mkF m 91 #[.val (.ref r0), .val (.int (0 : Int32)), .val (.int p2), .unset, .val (.ref y), .val (.int (0 : Int32))] [(.ref b)])) target := by
        intro target kt
        refine XS.dup X15.here hx rfl (hb hby d2_91) rfl rfl ?_
        refine XS.aconstNull X15.here hx rfl (hb hby d2_92) ?_
        refine XS.aload X15.here hx rfl (hb hby d2_93) rfl rfl ?_
        refine XS.aconstNull X15.here hx rfl (hb hby d2_95) ?_
        exact kt
      obtain ⟨_, _, ⟨T17, L17, k17, n17⟩, -, X17, ⟨Lc17, hQ17, l17, y17, z17⟩, st17⟩ := X15.specialBack hx (y := (⟨"com/example/libbisim/libbisim/CompactInts", "<init>", "([B[C[I)V"⟩ : MethodName)) rfl hown (mvT hZ (hw _ (List.mem_of_getElem? (i := 13) rfl))) (mvT hZ (hw _ (List.mem_of_getElem? (i := 14) rfl))) (mvT hZ (hw _ (List.mem_of_getElem? (i := 15) rfl))) (by decide) (backOf (W := 1) (rmI2 l Z a0 hw [] b y  h15 n0 Z_15 F_bytes_b F_chars_b F_ints_b E_b g_b) hZ (hw _ (List.mem_of_getElem? (i := 15) rfl)) (hw _ (List.mem_of_getElem? (i := 8) rfl)) (by decide) (by decide)) (g := (mkF m 96 #[.val (.ref r0), .val (.int (0 : Int32)), .val (.int p2), .unset, .val (.ref y), .val (.int (0 : Int32))] [.null, (.ref y), .null, (.ref b), (.ref b)])) rfl (by rw [hml]; rfl) (Steps.refl _) (a := b) (argsL := [.null, (.ref y), .null]) (rest := [(.ref b)]) (lenOf pd_2 rfl) rfl (by show 2 * 0 + _ ≤ _; exact Nat.le_of_eq rfl) (hb hby d2_96) (fun _ _ => ⟨rfl, e15, (by decide : 2 + 0 ≤ _), (by decide : 3 + 0 ≤ _)⟩)
      dsimp only [Pt.U, Pt.locs, Pt.cells, Pt.slots] at X17 l17 y17 z17 st17 hQ17
      subst l17 y17 z17
      obtain ⟨rfl, Nq17, K17, E_b_i, F_bytes_b_i, F_chars_b_i, F_ints_b_i⟩ := hQ17
      have N17 := Fr.app N0 Nq17
      have Vv_17 := Vv_15.keep K17 (ninS ne_r0_b nin0)
      have V_y_17 := V_y_15.keep K17 (ninS ne_y_b nin0)
      have E_b_17 := E_b.keep K17
      have Z_17 : n0 ≤ T17.heap.size := Nat.le_trans Z_15 K17.1
      have Kp_17 : Keep h0 T17.heap [] := Kp_15.trans K17 (allS (Or.inr sz_b) (all0))
      obtain ⟨fs, hr, hrun, hended, hW, hsame⟩ := X17.leave (v := some (.ref b)) (fun h => by rw [Bd.returns] at h; cases h)
      refine ⟨_, _, pre0 _ (st1 _ (st2 _ (st3 _ (st11 _ (st12 _ (st13 _ (st14 _ (st15 _ (st16 _ (st17.trans ?_)))))))))), hrun, hended, _, _, rfl, ?_, ⟨_, rfl⟩, hW, hsame.mono (by decide) (by decide)⟩
      · refine XS.astoreN X17.here hx rfl (hb hby d2_99) rfl rfl (l' := #[.val (.ref r0), .val (.int (0 : Int32)), .val (.int p2), .val (.ref b), .val (.ref y), .val (.int (0 : Int32))]) rfl ?_
        refine XS.goto X17.here hx rfl (pc0 := 100) (pc' := 128) rfl (hb hby d2_100) (by decide) (by decide) ?_
        refine XS.aloadN X17.here hx rfl (hb hby d2_128) rfl rfl ?_
        show Steps p.tables e below (T17.setTop (mkF m 129 #[.val (.ref r0), .val (.int (0 : Int32)), .val (.int p2), .val (.ref b), .val (.ref y), .val (.int (0 : Int32))] [(.ref b)])) _
        jvm_step X17.here [X17.here.top, hx, (hb hby d2_129), X17.method', Bd.returns, Value.isRef, FieldType.isReference]
        first | (intro acts; rw [hr _ acts rfl rfl rfl]) | rw [hr _ _ rfl rfl rfl]
        exact Steps.refl _
      · show Q_rmOf0 Z r0 p2 kv w0 w1 w2 w3 h0 n0 _ T17.heap _
        exact ⟨b, rfl, N17, Kp_17, sz_b, E_b_i, Or.inr (Or.inl ⟨hc4, hc55, y, _, sz_y, F_bytes_b_i, F_chars_b_i, V_y_17⟩)⟩
  · have st18 : ∀ target, Steps p.tables e below (s₁.setTop (mkF m 7 #[.val (.ref r0), .val (.int (0 : Int32)), .val (.int p2), .unset, .unset, .unset] [])) target → Steps p.tables e below (s₁.setTop (mkF m 4 #[.val (.ref r0), .val (.int (0 : Int32)), .val (.int p2), .unset, .unset, .unset] [(.int (256 : Int32)), (.int p2)])) target := by
      intro target kt
      show Steps p.tables e below (s₁.setTop (mkF m 4 #[.val (.ref r0), .val (.int (0 : Int32)), .val (.int p2), .unset, .unset, .unset] [(.int (256 : Int32)), (.int p2)])) _
      refine XS.icmpNo X0.here hx rfl (hb hby d2_4) rfl (flt hc4).2.2.1 ?_
      exact kt
    have st19 : ∀ target, Steps p.tables e below (s₁.setTop (mkF m 8 #[.val (.ref r0), .val (.int (0 : Int32)), .val (.int p2), .unset, .unset, .unset] [(.int (0 : Int32))])) target → Steps p.tables e below (s₁.setTop (mkF m 7 #[.val (.ref r0), .val (.int (0 : Int32)), .val (.int p2), .unset, .unset, .unset] [])) target := by
      intro target kt
      refine XS.iloadN X0.here hx rfl (hb hby d2_7) rfl ?_
      exact kt
    obtain ⟨T20, h20, k20, X20, e20, E20, A20, st20⟩ := newP X0 hx hZ (hw _ (List.mem_of_getElem? (i := 10) rfl)) e0 (g := (mkF m 8 #[.val (.ref r0), .val (.int (0 : Int32)), .val (.int p2), .unset, .unset, .unset] [(.int (0 : Int32))])) rfl (hb hby d2_8) rfl (by decide) (cap := 0) (by decide) (by decide) (by decide) (by decide)
    obtain ⟨y, g20⟩ : ∃ z, z = h0.size := ⟨_, rfl⟩
    rw [← g20] at A20 st20
    have g_y : n0 ≤ y := Nat.le_trans Z0 (Nat.le_of_eq g20.symm)
    have sz_y : h0.size ≤ y := Nat.le_trans Kp.1 (Nat.le_of_eq g20.symm)
    have ne_r0_y : r0 ≠ y := Nat.ne_of_lt (Nat.lt_of_lt_of_le Vv.lt (Nat.le_of_eq g20.symm))
    have Vv_20 := Vv.ext E20
    have Z_20 : n0 ≤ h20.size := Nat.le_trans Z0 E20.1
    have Kp_20 : Keep h0 h20 [] := Kp.ext E20
    have V_y : Arv Z h20 y k20 .byte (0 : Int32) [] (.int (0 : Int32)) := Arv.new A20 (by decide)
    have st21 : ∀ target, Steps p.tables e below (T20.setTop (mkF m 37 #[.val (.ref r0), .val (.int (0 : Int32)), .val (.int p2), .unset, .val (.ref y), .val (.int (0 : Int32))] [])) target → Steps p.tables e below (T20.setTop (mkF m 10 #[.val (.ref r0), .val (.int (0 : Int32)), .val (.int p2), .unset, .unset, .unset] [(.ref y)])) target := by
      intro target kt
      refine XS.astore X20.here hx rfl (hb hby d2_10) rfl rfl (l' := #[.val (.ref r0), .val (.int (0 : Int32)), .val (.int p2), .unset, .val (.ref y), .unset]) rfl ?_
      refine XS.iconst X20.here hx rfl (hb hby d2_12) ?_
      refine XS.istore X20.here hx rfl (hb hby d2_13) rfl (l' := #[.val (.ref r0), .val (.int (0 : Int32)), .val (.int p2), .unset, .val (.ref y), .val (.int (0 : Int32))]) rfl ?_
      refine XS.iload X20.here hx rfl (hb hby d2_15) rfl ?_
      refine XS.iloadN X20.here hx rfl (hb hby d2_17) rfl ?_
      refine XS.icmpYes X20.here hx rfl (pc0 := 18) (pc' := 37) rfl (hb hby d2_18) rfl (flt (by decide : ¬ ((0 : Int32) < (0 : Int32)))).2.1 (by decide) (by decide) ?_
      exact kt
    obtain ⟨T22, h22, X22, e22, E22, A22, D22, -, st22⟩ := newO X20 hx hZ hown (hw _ (List.mem_of_getElem? (i := 11) rfl)) (hw _ (List.mem_of_getElem? (i := 12) rfl)) (hw _ (List.mem_of_getElem? (i := 8) rfl)) e20 (g := (mkF m 37 #[.val (.ref r0), .val (.int (0 : Int32)), .val (.int p2), .unset, .val (.ref y), .val (.int (0 : Int32))] [])) rfl (hb hby d2_37) (by decide) (by decide)
    obtain ⟨b, g22⟩ : ∃ z, z = h20.size := ⟨_, rfl⟩
    rw [← g22] at A22 D22 st22
    have g_b : n0 ≤ b := Nat.le_trans Z_20 (Nat.le_of_eq g22.symm)
    have sz_b : h0.size ≤ b := Nat.le_trans Kp_20.1 (Nat.le_of_eq g22.symm)
    have ne_r0_b : r0 ≠ b := Nat.ne_of_lt (Nat.lt_of_lt_of_le Vv_20.lt (Nat.le_of_eq g22.symm))
    have ne_y_b : y ≠ b := Nat.ne_of_lt (Nat.lt_of_lt_of_le V_y.lt (Nat.le_of_eq g22.symm))
    have Vv_22 := Vv_20.ext E22
    have V_y_22 := V_y.ext E22
    have Z_22 : n0 ≤ h22.size := Nat.le_trans Z_20 E22.1
    have Kp_22 : Keep h0 h22 [] := Kp_20.ext E22
    have E_b : Exa Z h22 b "com/example/libbisim/libbisim/CompactInts" := A22
    have F_bytes_b : Fld Z h22 b "com/example/libbisim/libbisim/CompactInts" "bytes" "[B" .null := D22 (Or.inr (hw _ (List.mem_of_getElem? (i := 20) rfl))) (ty := (.array .byte)) (by decide)
    have F_chars_b : Fld Z h22 b "com/example/libbisim/libbisim/CompactInts" "chars" "[C" .null := D22 (Or.inr (hw _ (List.mem_of_getElem? (i := 22) rfl))) (ty := (.array .char)) (by decide)
    have F_ints_b : Fld Z h22 b "com/example/libbisim/libbisim/CompactInts" "ints" "[I" .null := D22 (Or.inr (hw _ (List.mem_of_getElem? (i := 24) rfl))) (ty := (.array .int)) (by decide)
    have st23 : ∀ target, Steps p.tables e below (T22.setTop (mkF m 45 #[.val (.ref r0), .val (.int (0 : Int32)), .val (.int p2), .unset, .val (.ref y), .val (.int (0 : Int32))] [.null, .null, (.ref y), (.ref b), (.ref b)])) target → Steps p.tables e below (T22.setTop (mkF m 40 #[.val (.ref r0), .val (.int (0 : Int32)), .val (.int p2), .unset, .val (.ref y), .val (.int (0 : Int32))] [(.ref b)])) target := by
      intro target kt
      show Steps p.tables e below (T22.setTop (mkF m 40 #[.val (.ref r0), .val (.int (0 : Int32)), .val (.int p2), .unset, .val (.ref y), .val (.int (0 : Int32))] [(.ref b)])) _
      refine XS.dup X22.here hx rfl (hb hby d2_40) rfl rfl ?_
      refine XS.aload X22.here hx rfl (hb hby d2_41) rfl rfl ?_
      refine XS.aconstNull X22.here hx rfl (hb hby d2_43) ?_
      refine XS.aconstNull X22.here hx rfl (hb hby d2_44) ?_
      exact kt
    obtain ⟨_, _, ⟨T24, L24, k24, n24⟩, -, X24, ⟨Lc24, hQ24, l24, y24, z24⟩, st24⟩ := X22.specialBack hx (y := (⟨"com/example/libbisim/libbisim/CompactInts", "<init>", "([B[C[I)V"⟩ : MethodName)) rfl hown (mvT hZ (hw _ (List.mem_of_getElem? (i := 13) rfl))) (mvT hZ (hw _ (List.mem_of_getElem? (i := 14) rfl))) (mvT hZ (hw _ (List.mem_of_getElem? (i := 15) rfl))) (by decide) (backOf (W := 1) (rmI1 l Z a0 hw [] b y  h22 n0 Z_22 F_bytes_b F_chars_b F_ints_b E_b g_b) hZ (hw _ (List.mem_of_getElem? (i := 15) rfl)) (hw _ (List.mem_of_getElem? (i := 8) rfl)) (by decide) (by decide)) (g := (mkF m 45 #[.val (.ref r0), .val (.int (0 : Int32)), .val (.int p2), .unset, .val (.ref y), .val (.int (0 : Int32))] [.null, .null, (.ref y), (.ref b), (.ref b)])) rfl (by rw [hml]; rfl) (Steps.refl _) (a := b) (argsL := [(.ref y), .null, .null]) (rest := [(.ref b)]) (lenOf pd_2 rfl) rfl (by show 2 * 0 + _ ≤ _; exact Nat.le_of_eq rfl) (hb hby d2_45) (fun _ _ => ⟨rfl, e22, (by decide : 2 + 0 ≤ _), (by decide : 3 + 0 ≤ _)⟩)
    dsimp only [Pt.U, Pt.locs, Pt.cells, Pt.slots] at X24 l24 y24 z24 st24 hQ24
    subst l24 y24 z24
    obtain ⟨rfl, Nq24, K24, E_b_i, F_bytes_b_i, F_chars_b_i, F_ints_b_i⟩ := hQ24
    have N24 := Fr.app N0 Nq24
    have Vv_24 := Vv_22.keep K24 (ninS ne_r0_b nin0)
    have V_y_24 := V_y_22.keep K24 (ninS ne_y_b nin0)
    have E_b_24 := E_b.keep K24
    have Z_24 : n0 ≤ T24.heap.size := Nat.le_trans Z_22 K24.1
    have Kp_24 : Keep h0 T24.heap [] := Kp_22.trans K24 (allS (Or.inr sz_b) (all0))
    obtain ⟨fs, hr, hrun, hended, hW, hsame⟩ := X24.leave (v := some (.ref b)) (fun h => by rw [Bd.returns] at h; cases h)
    refine ⟨_, _, pre0 _ (st1 _ (st18 _ (st19 _ (st20 _ (st21 _ (st22 _ (st23 _ (st24.trans ?_)))))))), hrun, hended, _, _, rfl, ?_, ⟨_, rfl⟩, hW, hsame.mono (by decide) (by decide)⟩
    · refine XS.astoreN X24.here hx rfl (hb hby d2_48) rfl rfl (l' := #[.val (.ref r0), .val (.int (0 : Int32)), .val (.int p2), .val (.ref b), .val (.ref y), .val (.int (0 : Int32))]) rfl ?_
      refine XS.goto X24.here hx rfl (pc0 := 49) (pc' := 128) rfl (hb hby d2_49) (by decide) (by decide) ?_
      refine XS.aloadN X24.here hx rfl (hb hby d2_128) rfl rfl ?_
      show Steps p.tables e below (T24.setTop (mkF m 129 #[.val (.ref r0), .val (.int (0 : Int32)), .val (.int p2), .val (.ref b), .val (.ref y), .val (.int (0 : Int32))] [(.ref b)])) _
      jvm_step X24.here [X24.here.top, hx, (hb hby d2_129), X24.method', Bd.returns, Value.isRef, FieldType.isReference]
      first | (intro acts; rw [hr _ acts rfl rfl rfl]) | rw [hr _ _ rfl rfl rfl]
      exact Steps.refl _
    · show Q_rmOf0 Z r0 p2 kv w0 w1 w2 w3 h0 n0 _ T24.heap _
      exact ⟨b, rfl, N24, Kp_24, sz_b, E_b_i, Or.inl ⟨hc4, y, _, sz_y, F_bytes_b_i, V_y_24⟩⟩
theorem ef_rmOf1 (m : MethodId) (x0 : Addr) (x1 : Int32) (x2 : Int32) : entryFrame m #[(.ref x0), (.int x1), (.int x2)] 6 = mkF m 0 #[.val (.ref x0), .val (.int x1), .val (.int x2), .unset, .unset, .unset] [] := by first | (simp [entryFrame, mkF, argsToLocals, Value.category]; done) | rfl
def Q_rmOf1 (Z : State) (r0 : Addr) (p2 : Int32) (kv : ClassId) (w0 : Int32) (w1 : Int32) (w2 : Int32) (w3 : Int32) (h0 : Heap) (n0 : Nat) (v : Option Value) (h : Heap) (L : List Loc) : Prop := ∃ b, v = some (.ref b) ∧ Fr n0 L ∧ Keep h0 h [] ∧ h0.size ≤ b ∧ Exa Z h b "com/example/libbisim/libbisim/CompactInts" ∧ ((¬ (256 : Int32) < p2 ∧ ∃ y k, h0.size ≤ y ∧ Fld Z h b "com/example/libbisim/libbisim/CompactInts" "bytes" "[B" (.ref y) ∧ Arv Z h y k .byte (1 : Int32) [(.int (nar .byte (w0.toInt8.toInt32)))] (.int (0 : Int32))) ∨ ((256 : Int32) < p2 ∧ ¬ (65536 : Int32) < p2 ∧ ∃ y k, h0.size ≤ y ∧ Fld Z h b "com/example/libbisim/libbisim/CompactInts" "bytes" "[B" .null ∧ Fld Z h b "com/example/libbisim/libbisim/CompactInts" "chars" "[C" (.ref y) ∧ Arv Z h y k .char (1 : Int32) [(.int (nar .char (w0.toUInt32.toUInt16.toUInt32.toInt32)))] (.int (0 : Int32))) ∨ ((65536 : Int32) < p2 ∧ Fld Z h b "com/example/libbisim/libbisim/CompactInts" "bytes" "[B" .null ∧ Fld Z h b "com/example/libbisim/libbisim/CompactInts" "chars" "[C" .null ∧ ∃ y k, h0.size ≤ y ∧ Fld Z h b "com/example/libbisim/libbisim/CompactInts" "ints" "[I" (.ref y) ∧ Arv Z h y k .int (1 : Int32) [(.int w0)] (.int (0 : Int32))))
set_option maxRecDepth 65536 in
set_option maxHeartbeats 40000000 in
theorem rmOf1 (l : Launch) (Z : State) (a0 : Array Value) (hw : ∀ d ∈ tables_1, d.before a0 Z = true) (ws : List Jvm.Cond) (r0 : Addr) (p2 : Int32) (kv : ClassId) (w0 : Int32) (w1 : Int32) (w2 : Int32) (w3 : Int32) (h0 : Heap) (n0 : Nat) (Z0 : n0 ≤ h0.size) (Vv : Arv Z h0 r0 kv .int (4 : Int32) [(.int w0), (.int w1), (.int w2), (.int w3)] (.int (0 : Int32))) :
    MetFree l (⟨"com/example/libbisim/libbisim/CompactInts", "of", "([III)Lcom/example/libbisim/libbisim/CompactInts;"⟩ : MethodName) (head1 (Jvm.Cond.code (⟨"com/example/libbisim/libbisim/CompactInts", "of", "([III)Lcom/example/libbisim/libbisim/CompactInts;"⟩ : MethodName) prog_7_method_2_code 6 (some (.object "com/example/libbisim/libbisim/CompactInts")) :: ws) ({ frames := 2, cells := 2, slots := 4, locals := 78 } : Room)) (fun a U => a = #[(.ref r0), (.int (1 : Int32)), (.int p2)] ∧ Z.Warmed39 U.vm ∧ U.heap = h0) (fun _ _ _ _ _ => True) (fun _ U o U' => ∃ v L, o = .returned v ∧ Q_rmOf1 Z r0 p2 kv w0 w1 w2 w3 h0 n0 v U'.heap L ∧ FrameEnd U o U' L ({ frames := 2, cells := 2, slots := 4, locals := 78 } : Room).cells ({ frames := 2, cells := 2, slots := 4, locals := 78 } : Room).slots) := by
  refine MetFree.of_bodySF (plainFor_of_name pn_2) hisR ?_
  intro p e s m args below meth c s₁ Bd hml0 hP hK
  obtain ⟨rfl, hZ, hh⟩ := hP
  have hx := Bd.exec
  have hby := Bd.bytes
  have hml : c.maxLocals = 6 := hml0
  have hown : s.vm.findClass "com/example/libbisim/libbisim/CompactInts" = some m.cls := findClass_of_methodNamed Bd.named
  have hnm := (name_of_methodNamed Bd.named Bd.method).1
  have X0 : Stand p l e ({ frames := 2, cells := 2, slots := 4, locals := 78 } : Room) s m #[(.ref r0), (.int (1 : Int32)), (.int p2)] below meth c s₁ [] 0 0 := Stand.of_body Bd
  have e0 : s₁.heap = h0 := by rw [← hh, Bd.state]; rfl
  have N0 := Fr.nil n0
  have pre0 : ∀ t, Steps p.tables e below (s₁.setTop (mkF m 0 #[.val (.ref r0), .val (.int (1 : Int32)), .val (.int p2), .unset, .unset, .unset] [])) t → Steps p.tables e below (s₁.setTop (entryFrame m #[(.ref r0), (.int (1 : Int32)), (.int p2)] 6)) t := fun t k => castTop (ef_rmOf1 m r0 (1 : Int32) p2) k
  have Kp : Keep h0 h0 [] := Keep.refl _ _
  have st1 : ∀ target, Steps p.tables e below (s₁.setTop (mkF m 4 #[.val (.ref r0), .val (.int (1 : Int32)), .val (.int p2), .unset, .unset, .unset] [(.int (256 : Int32)), (.int p2)])) target → Steps p.tables e below (s₁.setTop (mkF m 0 #[.val (.ref r0), .val (.int (1 : Int32)), .val (.int p2), .unset, .unset, .unset] [])) target := by
    intro target kt
    refine XS.iloadN X0.here hx rfl (hb hby d2_0) rfl ?_
    refine XS.sipush X0.here hx rfl (hb hby d2_1) ?_
    exact kt
  by_cases hc4 : (256 : Int32) < p2
  · have st2 : ∀ target, Steps p.tables e below (s₁.setTop (mkF m 52 #[.val (.ref r0), .val (.int (1 : Int32)), .val (.int p2), .unset, .unset, .unset] [])) target → Steps p.tables e below (s₁.setTop (mkF m 4 #[.val (.ref r0), .val (.int (1 : Int32)), .val (.int p2), .unset, .unset, .unset] [(.int (256 : Int32)), (.int p2)])) target := by
      intro target kt
      refine XS.icmpYes X0.here hx rfl (pc0 := 4) (pc' := 52) rfl (hb hby d2_4) rfl (tlt hc4).2.2.1 (by decide) (by decide) ?_
      exact kt
    have st3 : ∀ target, Steps p.tables e below (s₁.setTop (mkF m 55 #[.val (.ref r0), .val (.int (1 : Int32)), .val (.int p2), .unset, .unset, .unset] [(.int (65536 : Int32)), (.int p2)])) target → Steps p.tables e below (s₁.setTop (mkF m 52 #[.val (.ref r0), .val (.int (1 : Int32)), .val (.int p2), .unset, .unset, .unset] [])) target := by
      intro target kt
      refine XS.iloadN X0.here hx rfl (hb hby d2_52) rfl ?_
      refine X0.ldcInt hx hown (mvT hZ (hw _ (List.mem_of_getElem? (i := 26) rfl))) (g := (mkF m 53 #[.val (.ref r0), .val (.int (1 : Int32)), .val (.int p2), .unset, .unset, .unset] [(.int p2)])) rfl (hb hby d2_53) _ ?_
      exact kt
    by_cases hc55 : (65536 : Int32) < p2
    · have st4 : ∀ target, Steps p.tables e below (s₁.setTop (mkF m 103 #[.val (.ref r0), .val (.int (1 : Int32)), .val (.int p2), .unset, .unset, .unset] [])) target → Steps p.tables e below (s₁.setTop (mkF m 55 #[.val (.ref r0), .val (.int (1 : Int32)), .val (.int p2), .unset, .unset, .unset] [(.int (65536 : Int32)), (.int p2)])) target := by
        intro target kt
        refine XS.icmpYes X0.here hx rfl (pc0 := 55) (pc' := 103) rfl (hb hby d2_55) rfl (tlt hc55).2.2.1 (by decide) (by decide) ?_
        exact kt
      obtain ⟨T5, h5, X5, e5, E5, A5, D5, -, st5⟩ := newO X0 hx hZ hown (hw _ (List.mem_of_getElem? (i := 11) rfl)) (hw _ (List.mem_of_getElem? (i := 12) rfl)) (hw _ (List.mem_of_getElem? (i := 8) rfl)) e0 (g := (mkF m 103 #[.val (.ref r0), .val (.int (1 : Int32)), .val (.int p2), .unset, .unset, .unset] [])) rfl (hb hby d2_103) (by decide) (by decide)
      obtain ⟨b, g5⟩ : ∃ z, z = h0.size := ⟨_, rfl⟩
      rw [← g5] at A5 D5 st5
      have g_b : n0 ≤ b := Nat.le_trans Z0 (Nat.le_of_eq g5.symm)
      have sz_b : h0.size ≤ b := Nat.le_trans Kp.1 (Nat.le_of_eq g5.symm)
      have ne_r0_b : r0 ≠ b := Nat.ne_of_lt (Nat.lt_of_lt_of_le Vv.lt (Nat.le_of_eq g5.symm))
      have Vv_5 := Vv.ext E5
      have Z_5 : n0 ≤ h5.size := Nat.le_trans Z0 E5.1
      have Kp_5 : Keep h0 h5 [] := Kp.ext E5
      have E_b : Exa Z h5 b "com/example/libbisim/libbisim/CompactInts" := A5
      have F_bytes_b : Fld Z h5 b "com/example/libbisim/libbisim/CompactInts" "bytes" "[B" .null := D5 (Or.inr (hw _ (List.mem_of_getElem? (i := 20) rfl))) (ty := (.array .byte)) (by decide)
      have F_chars_b : Fld Z h5 b "com/example/libbisim/libbisim/CompactInts" "chars" "[C" .null := D5 (Or.inr (hw _ (List.mem_of_getElem? (i := 22) rfl))) (ty := (.array .char)) (by decide)
      have F_ints_b : Fld Z h5 b "com/example/libbisim/libbisim/CompactInts" "ints" "[I" .null := D5 (Or.inr (hw _ (List.mem_of_getElem? (i := 24) rfl))) (ty := (.array .int)) (by decide)
      have st6 : ∀ target, Steps p.tables e below (T5.setTop (mkF m 110 #[.val (.ref r0), .val (.int (1 : Int32)), .val (.int p2), .unset, .unset, .unset] [(.ref r0), .null, .null, (.ref b), (.ref b)])) target → Steps p.tables e below (T5.setTop (mkF m 106 #[.val (.ref r0), .val (.int (1 : Int32)), .val (.int p2), .unset, .unset, .unset] [(.ref b)])) target := by
        intro target kt
        refine XS.dup X5.here hx rfl (hb hby d2_106) rfl rfl ?_
        show Steps p.tables e below (T5.setTop (mkF m 107 #[.val (.ref r0), .val (.int (1 : Int32)), .val (.int p2), .unset, .unset, .unset] [(.ref b), (.ref b)])) _
        refine XS.aconstNull X5.here hx rfl (hb hby d2_107) ?_
        refine XS.aconstNull X5.here hx rfl (hb hby d2_108) ?_
        refine XS.aloadN X5.here hx rfl (hb hby d2_109) rfl rfl ?_
        exact kt
      obtain ⟨cl7, Ar7, qc7, Sz7, Mn7, Hs7, Gs7⟩ := id Vv_5
      have st7 : ∀ target, Steps p.tables e below (T5.setTop (mkF m 111 #[.val (.ref r0), .val (.int (1 : Int32)), .val (.int p2), .unset, .unset, .unset] [(.int (4 : Int32)), .null, .null, (.ref b), (.ref b)])) target → Steps p.tables e below (T5.setTop (mkF m 110 #[.val (.ref r0), .val (.int (1 : Int32)), .val (.int p2), .unset, .unset, .unset] [(.ref r0), .null, .null, (.ref b), (.ref b)])) target := fun target kt => X5.arraylength hx (cell := cl7) (by rw [e5]; exact Ar7.1) (State.isArrayOf_alike hZ.alike Ar7.2.1) (g := (mkF m 110 #[.val (.ref r0), .val (.int (1 : Int32)), .val (.int p2), .unset, .unset, .unset] [(.ref r0), .null, .null, (.ref b), (.ref b)])) rfl rfl (hb hby d2_110) _ (by rw [len_of Sz7 Mn7]; exact kt)
      have st8 : ∀ target, Steps p.tables e below (T5.setTop (mkF m 121 #[.val (.ref r0), .val (.int (1 : Int32)), .val (.int p2), .unset, .unset, .unset] [(.int (1 : Int32)), (.ref r0), .null, .null, (.ref b), (.ref b)])) target → Steps p.tables e below (T5.setTop (mkF m 111 #[.val (.ref r0), .val (.int (1 : Int32)), .val (.int p2), .unset, .unset, .unset] [(.int (4 : Int32)), .null, .null, (.ref b), (.ref b)])) target := by
        intro target kt
        refine XS.iloadN X5.here hx rfl (hb hby d2_111) rfl ?_
        refine XS.icmpYes X5.here hx rfl (pc0 := 112) (pc' := 119) rfl (hb hby d2_112) rfl (feq (by decide : ¬ ((4 : Int32) = (1 : Int32)))).2 (by decide) (by decide) ?_
        refine XS.aloadN X5.here hx rfl (hb hby d2_119) rfl rfl ?_
        refine XS.iloadN X5.here hx rfl (hb hby d2_120) rfl ?_
        exact kt
      obtain ⟨_, _, ⟨T9, L9, k9, n9⟩, -, X9, ⟨Lc9, hQ9, l9, y9, z9⟩, st9⟩ := Jvm.LawKit.callS X5 hx (y := (⟨"java/util/Arrays", "copyOf", "([II)[I"⟩ : MethodName)) hown (mvT hZ (hw _ (List.mem_of_getElem? (i := 27) rfl))) (mvT hZ (hw _ (List.mem_of_getElem? (i := 28) rfl))) (mvT hZ (hw _ (List.mem_of_getElem? (i := 29) rfl))) (mvT hZ (hw _ (List.mem_of_getElem? (i := 30) rfl))) (by decide) (backOf (W := 4) (rmCO1 l Z a0 hw [] r0 kv w0 w1 w2 w3 h5 n0 Z_5 Vv_5) hZ (hw _ (List.mem_of_getElem? (i := 30) rfl)) (hw _ (List.mem_of_getElem? (i := 29) rfl)) (by decide) (by decide)) (g := (mkF m 121 #[.val (.ref r0), .val (.int (1 : Int32)), .val (.int p2), .unset, .unset, .unset] [(.int (1 : Int32)), (.ref r0), .null, .null, (.ref b), (.ref b)])) rfl (by rw [hml]; rfl) (argsL := [(.ref r0), (.int (1 : Int32))]) (rest := [.null, .null, (.ref b), (.ref b)]) (lenOf pd_4 rfl) rfl (by show 2 * 0 + _ ≤ _; exact Nat.le_of_eq rfl) (hb hby d2_121) (fun _ _ => ⟨rfl, e5, (by decide : 1 + 1 ≤ _), (by decide : 3 + 1 ≤ _)⟩)
      dsimp only [Pt.U, Pt.locs, Pt.cells, Pt.slots] at X9 l9 y9 z9 st9 hQ9
      subst l9 y9 z9
      obtain ⟨y9, rfl, Nq9, K9, sz9, ky, Vy⟩ := hQ9
      have N9 := Fr.app N0 Nq9
      have g_y9 : n0 ≤ y9 := Nat.le_trans Z_5 sz9
      have sz_y9 : h0.size ≤ y9 := Nat.le_trans Kp_5.1 sz9
      have ne_r0_y9 : r0 ≠ y9 := Nat.ne_of_lt (Nat.lt_of_lt_of_le Vv_5.lt sz9)
      have ne_b_y9 : b ≠ y9 := Nat.ne_of_lt (Nat.lt_of_lt_of_le E_b.lt sz9)
      have Vv_9 := Vv_5.keep K9 nin0
      have E_b_9 := E_b.keep K9
      have F_bytes_b_9 := F_bytes_b.keep K9 nin0
      have F_chars_b_9 := F_chars_b.keep K9 nin0
      have F_ints_b_9 := F_ints_b.keep K9 nin0
      have Z_9 : n0 ≤ T9.heap.size := Nat.le_trans Z_5 K9.1
      have Kp_9 : Keep h0 T9.heap [] := Kp_5.trans K9 (all0)
      obtain ⟨_, _, ⟨T10, L10, k10, n10⟩, -, X10, ⟨Lc10, hQ10, l10, y10, z10⟩, st10⟩ := X9.specialBack hx (y := (⟨"com/example/libbisim/libbisim/CompactInts", "<init>", "([B[C[I)V"⟩ : MethodName)) rfl hown (mvT hZ (hw _ (List.mem_of_getElem? (i := 13) rfl))) (mvT hZ (hw _ (List.mem_of_getElem? (i := 14) rfl))) (mvT hZ (hw _ (List.mem_of_getElem? (i := 15) rfl))) (by decide) (backOf (W := 1) (rmI3 l Z a0 hw [] b y9  T9.heap n0 Z_9 F_bytes_b_9 F_chars_b_9 F_ints_b_9 E_b_9 g_b) hZ (hw _ (List.mem_of_getElem? (i := 15) rfl)) (hw _ (List.mem_of_getElem? (i := 8) rfl)) (by decide) (by decide)) (g := (mkF m 124 #[.val (.ref r0), .val (.int (1 : Int32)), .val (.int p2), .unset, .unset, .unset] [(.ref y9), .null, .null, (.ref b), (.ref b)])) rfl (by rw [hml]; rfl) (Steps.refl _) (a := b) (argsL := [.null, .null, (.ref y9)]) (rest := [(.ref b)]) (lenOf pd_2 rfl) rfl (by show 2 * 0 + _ ≤ _; exact Nat.le_of_eq rfl) (hb hby d2_124) (fun _ _ => ⟨rfl, rfl, (by decide : 2 + 0 ≤ _), (by decide : 4 + 0 ≤ _)⟩)
      dsimp only [Pt.U, Pt.locs, Pt.cells, Pt.slots] at X10 l10 y10 z10 st10 hQ10
      subst l10 y10 z10
      obtain ⟨rfl, Nq10, K10, E_b_i, F_bytes_b_i, F_chars_b_i, F_ints_b_i⟩ := hQ10
      have N10 := Fr.app N9 Nq10
      have Vv_10 := Vv_9.keep K10 (ninS ne_r0_b nin0)
      have E_b_10 := E_b_9.keep K10
      have Vy_10 := Vy.keep K10 (ninS (Ne.symm ne_b_y9) nin0)
      have Z_10 : n0 ≤ T10.heap.size := Nat.le_trans Z_9 K10.1
      have Kp_10 : Keep h0 T10.heap [] := Kp_9.trans K10 (allS (Or.inr sz_b) (all0))
      obtain ⟨fs, hr, hrun, hended, hW, hsame⟩ := X10.leave (v := some (.ref b)) (fun h => by rw [Bd.returns] at h; cases h)
      refine ⟨_, _, pre0 _ (st1 _ (st2 _ (st3 _ (st4 _ (st5 _ (st6 _ (st7 _ (st8 _ (st9 _ (st10.trans ?_)))))))))), hrun, hended, _, _, rfl, ?_, ⟨_, rfl⟩, hW, hsame.mono (by decide) (by decide)⟩
      · refine XS.astoreN X10.here hx rfl (hb hby d2_127) rfl rfl (l' := #[.val (.ref r0), .val (.int (1 : Int32)), .val (.int p2), .val (.ref b), .unset, .unset]) rfl ?_
        show Steps p.tables e below (T10.setTop (mkF m 128 #[.val (.ref r0), .val (.int (1 : Int32)), .val (.int p2), .val (.ref b), .unset, .unset] [])) _
        refine XS.aloadN X10.here hx rfl (hb hby d2_128) rfl rfl ?_
        show Steps p.tables e below (T10.setTop (mkF m 129 #[.val (.ref r0), .val (.int (1 : Int32)), .val (.int p2), .val (.ref b), .unset, .unset] [(.ref b)])) _
        jvm_step X10.here [X10.here.top, hx, (hb hby d2_129), X10.method', Bd.returns, Value.isRef, FieldType.isReference]
        first | (intro acts; rw [hr _ acts rfl rfl rfl]) | rw [hr _ _ rfl rfl rfl]
        exact Steps.refl _
      · show Q_rmOf1 Z r0 p2 kv w0 w1 w2 w3 h0 n0 _ T10.heap _
        exact ⟨b, rfl, N10, Kp_10, sz_b, E_b_i, Or.inr (Or.inr ⟨hc55, F_bytes_b_i, F_chars_b_i, y9, _, sz_y9, F_ints_b_i, Vy_10⟩)⟩
    · have st11 : ∀ target, Steps p.tables e below (s₁.setTop (mkF m 58 #[.val (.ref r0), .val (.int (1 : Int32)), .val (.int p2), .unset, .unset, .unset] [])) target → Steps p.tables e below (s₁.setTop (mkF m 55 #[.val (.ref r0), .val (.int (1 : Int32)), .val (.int p2), .unset, .unset, .unset] [(.int (65536 : Int32)), (.int p2)])) target := by
        intro target kt
        refine XS.icmpNo X0.here hx rfl (hb hby d2_55) rfl (flt hc55).2.2.1 ?_
        exact kt
      have st12 : ∀ target, Steps p.tables e below (s₁.setTop (mkF m 59 #[.val (.ref r0), .val (.int (1 : Int32)), .val (.int p2), .unset, .unset, .unset] [(.int (1 : Int32))])) target → Steps p.tables e below (s₁.setTop (mkF m 58 #[.val (.ref r0), .val (.int (1 : Int32)), .val (.int p2), .unset, .unset, .unset] [])) target := by
        intro target kt
        refine XS.iloadN X0.here hx rfl (hb hby d2_58) rfl ?_
        exact kt
      obtain ⟨T13, h13, k13, X13, e13, E13, A13, st13⟩ := newP X0 hx hZ (hw _ (List.mem_of_getElem? (i := 47) rfl)) e0 (g := (mkF m 59 #[.val (.ref r0), .val (.int (1 : Int32)), .val (.int p2), .unset, .unset, .unset] [(.int (1 : Int32))])) rfl (hb hby d2_59) rfl (by decide) (cap := 1) (by decide) (by decide) (by decide) (by decide)
      obtain ⟨y, g13⟩ : ∃ z, z = h0.size := ⟨_, rfl⟩
      rw [← g13] at A13 st13
      have g_y : n0 ≤ y := Nat.le_trans Z0 (Nat.le_of_eq g13.symm)
      have sz_y : h0.size ≤ y := Nat.le_trans Kp.1 (Nat.le_of_eq g13.symm)
      have ne_r0_y : r0 ≠ y := Nat.ne_of_lt (Nat.lt_of_lt_of_le Vv.lt (Nat.le_of_eq g13.symm))
      have Vv_13 := Vv.ext E13
      have Z_13 : n0 ≤ h13.size := Nat.le_trans Z0 E13.1
      have Kp_13 : Keep h0 h13 [] := Kp.ext E13
      have V_y : Arv Z h13 y k13 .char (1 : Int32) [(.int (0 : Int32))] (.int (0 : Int32)) := (Arv.new A13 (by decide)).pad (pad_rep [] (.int (0 : Int32)) 1)
      have st14 : ∀ target, Steps p.tables e below (T13.setTop (mkF m 79 #[.val (.ref r0), .val (.int (1 : Int32)), .val (.int p2), .unset, .val (.ref y), .val (.int (0 : Int32))] [(.int (0 : Int32)), (.ref r0), (.int (0 : Int32)), (.ref y)])) target → Steps p.tables e below (T13.setTop (mkF m 61 #[.val (.ref r0), .val (.int (1 : Int32)), .val (.int p2), .unset, .unset, .unset] [(.ref y)])) target := by
        intro target kt
        refine XS.astore X13.here hx rfl (hb hby d2_61) rfl rfl (l' := #[.val (.ref r0), .val (.int (1 : Int32)), .val (.int p2), .unset, .val (.ref y), .unset]) rfl ?_
        refine XS.iconst X13.here hx rfl (hb hby d2_63) ?_
        refine XS.istore X13.here hx rfl (hb hby d2_64) rfl (l' := #[.val (.ref r0), .val (.int (1 : Int32)), .val (.int p2), .unset, .val (.ref y), .val (.int (0 : Int32))]) rfl ?_
        refine XS.iload X13.here hx rfl (hb hby d2_66) rfl ?_
        refine XS.iloadN X13.here hx rfl (hb hby d2_68) rfl ?_
        show Steps p.tables e below (T13.setTop (mkF m 69 #[.val (.ref r0), .val (.int (1 : Int32)), .val (.int p2), .unset, .val (.ref y), .val (.int (0 : Int32))] [(.int (1 : Int32)), (.int (0 : Int32))])) _
        refine XS.icmpNo X13.here hx rfl (hb hby d2_69) rfl (tlt (by decide : ((0 : Int32) < (1 : Int32)))).2.1 ?_
        refine XS.aload X13.here hx rfl (hb hby d2_72) rfl rfl ?_
        refine XS.iload X13.here hx rfl (hb hby d2_74) rfl ?_
        refine XS.aloadN X13.here hx rfl (hb hby d2_76) rfl rfl ?_
        refine XS.iload X13.here hx rfl (hb hby d2_77) rfl ?_
        exact kt
      obtain ⟨cl15, Ar15, qc15, Sz15, Mn15, Hs15, Gs15⟩ := id Vv_13
      have hin15 : ¬ ((0 : Int32) < 0 ∨ cl15.slots.size ≤ ((0 : Int32)).toNatClampNeg) := inb_of Sz15 ⟨by decide, by decide⟩
      have hat15 : cl15.slots[((0 : Int32)).toNatClampNeg]? = some (.int w0) := Hs15.at hin15 rfl
      have st15 : ∀ target, Steps p.tables e below (T13.setTop (mkF m 80 #[.val (.ref r0), .val (.int (1 : Int32)), .val (.int p2), .unset, .val (.ref y), .val (.int (0 : Int32))] [(.int w0), (.int (0 : Int32)), (.ref y)])) target → Steps p.tables e below (T13.setTop (mkF m 79 #[.val (.ref r0), .val (.int (1 : Int32)), .val (.int p2), .unset, .val (.ref y), .val (.int (0 : Int32))] [(.int (0 : Int32)), (.ref r0), (.int (0 : Int32)), (.ref y)])) target := fun target kt => X13.iaload hx (j := (0 : Int32)) (v := (.int w0)) (by rw [e13]; exact Ar15.1) (State.isArrayOf_alike hZ.alike Ar15.2.1) Ar15.2.2 hin15 hat15 (g := (mkF m 79 #[.val (.ref r0), .val (.int (1 : Int32)), .val (.int p2), .unset, .val (.ref y), .val (.int (0 : Int32))] [(.int (0 : Int32)), (.ref r0), (.int (0 : Int32)), (.ref y)])) rfl rfl (hb hby d2_79) _ kt
      have st16 : ∀ target, Steps p.tables e below (T13.setTop (mkF m 81 #[.val (.ref r0), .val (.int (1 : Int32)), .val (.int p2), .unset, .val (.ref y), .val (.int (0 : Int32))] [(.int (w0.toUInt32.toUInt16.toUInt32.toInt32)), (.int (0 : Int32)), (.ref y)])) target → Steps p.tables e below (T13.setTop (mkF m 80 #[.val (.ref r0), .val (.int (1 : Int32)), .val (.int p2), .unset, .val (.ref y), .val (.int (0 : Int32))] [(.int w0), (.int (0 : Int32)), (.ref y)])) target := by
        intro target kt
        refine XS.i2c X13.here hx rfl (hb hby d2_80) rfl ?_
        exact kt
      obtain ⟨cl17, Ar17, qc17, Sz17, Mn17, Hs17, Gs17⟩ := id V_y
      have hin17 : ¬ ((0 : Int32) < 0 ∨ cl17.slots.size ≤ ((0 : Int32)).toNatClampNeg) := inb_of Sz17 ⟨by decide, by decide⟩
      obtain ⟨T17, h17, X17, e17, W17, st17⟩ := stC X13 hx hZ e13 Ar17 (j := (0 : Int32)) hin17 (g := (mkF m 81 #[.val (.ref r0), .val (.int (1 : Int32)), .val (.int p2), .unset, .val (.ref y), .val (.int (0 : Int32))] [(.int (w0.toUInt32.toUInt16.toUInt32.toInt32)), (.int (0 : Int32)), (.ref y)])) rfl rfl (hb hby d2_81)
      have V_y_17 : Arv Z h17 y k13 .char (1 : Int32) [(.int (nar .char (w0.toUInt32.toUInt16.toUInt32.toInt32)))] (.int (0 : Int32)) := Arv.set Ar17 qc17 Sz17 Mn17 Hs17 Gs17 (fits_nar_char _) W17 0 rfl (Nat.le_of_ble_eq_true rfl)
      have Vv_17 := Vv_13.other W17 ne_r0_y
      have Z_17 : n0 ≤ h17.size := Nat.le_trans Z_13 (Keep.of_wr W17).1
      have Kp_17 : Keep h0 h17 [] := Kp_13.wr W17 (Or.inr sz_y)
      have N17 := Fr.snoc X17 N0 g_y
      have st18 : ∀ target, Steps p.tables e below (T17.setTop (mkF m 88 #[.val (.ref r0), .val (.int (1 : Int32)), .val (.int p2), .unset, .val (.ref y), .val (.int (1 : Int32))] [])) target → Steps p.tables e below (T17.setTop (mkF m 82 #[.val (.ref r0), .val (.int (1 : Int32)), .val (.int p2), .unset, .val (.ref y), .val (.int (0 : Int32))] [])) target := by
        intro target kt
        refine XS.iinc X17.here hx rfl (hb hby d2_82) rfl (l' := #[.val (.ref r0), .val (.int (1 : Int32)), .val (.int p2), .unset, .val (.ref y), .val (.int (1 : Int32))]) rfl ?_
        refine XS.goto X17.here hx rfl (pc0 := 85) (pc' := 66) rfl (hb hby d2_85) (by decide) (by decide) ?_
        show Steps p.tables e below (T17.setTop (mkF m 66 #[.val (.ref r0), .val (.int (1 : Int32)), .val (.int p2), .unset, .val (.ref y), .val (.int (1 : Int32))] [])) _
        refine XS.iload X17.here hx rfl (hb hby d2_66) rfl ?_
        refine XS.iloadN X17.here hx rfl (hb hby d2_68) rfl ?_
        refine XS.icmpYes X17.here hx rfl (pc0 := 69) (pc' := 88) rfl (hb hby d2_69) rfl (flt (by decide : ¬ ((1 : Int32) < (1 : Int32)))).2.1 (by decide) (by decide) ?_
        exact kt
      obtain ⟨T19, h19, X19, e19, E19, A19, D19, -, st19⟩ := newO X17 hx hZ hown (hw _ (List.mem_of_getElem? (i := 11) rfl)) (hw _ (List.mem_of_getElem? (i := 12) rfl)) (hw _ (List.mem_of_getElem? (i := 8) rfl)) e17 (g := (mkF m 88 #[.val (.ref r0), .val (.int (1 : Int32)), .val (.int p2), .unset, .val (.ref y), .val (.int (1 : Int32))] [])) rfl (hb hby d2_88) (by decide) (by decide)
      obtain ⟨b, g19⟩ : ∃ z, z = h17.size := ⟨_, rfl⟩
      rw [← g19] at A19 D19 st19
      have g_b : n0 ≤ b := Nat.le_trans Z_17 (Nat.le_of_eq g19.symm)
      have sz_b : h0.size ≤ b := Nat.le_trans Kp_17.1 (Nat.le_of_eq g19.symm)
      have ne_r0_b : r0 ≠ b := Nat.ne_of_lt (Nat.lt_of_lt_of_le Vv_17.lt (Nat.le_of_eq g19.symm))
      have ne_y_b : y ≠ b := Nat.ne_of_lt (Nat.lt_of_lt_of_le V_y_17.lt (Nat.le_of_eq g19.symm))
      have Vv_19 := Vv_17.ext E19
      have V_y_19 := V_y_17.ext E19
      have Z_19 : n0 ≤ h19.size := Nat.le_trans Z_17 E19.1
      have Kp_19 : Keep h0 h19 [] := Kp_17.ext E19
      have E_b : Exa Z h19 b "com/example/libbisim/libbisim/CompactInts" := A19
      have F_bytes_b : Fld Z h19 b "com/example/libbisim/libbisim/CompactInts" "bytes" "[B" .null := D19 (Or.inr (hw _ (List.mem_of_getElem? (i := 20) rfl))) (ty := (.array .byte)) (by decide)
      have F_chars_b : Fld Z h19 b "com/example/libbisim/libbisim/CompactInts" "chars" "[C" .null := D19 (Or.inr (hw _ (List.mem_of_getElem? (i := 22) rfl))) (ty := (.array .char)) (by decide)
      have F_ints_b : Fld Z h19 b "com/example/libbisim/libbisim/CompactInts" "ints" "[I" .null := D19 (Or.inr (hw _ (List.mem_of_getElem? (i := 24) rfl))) (ty := (.array .int)) (by decide)
      have st20 : ∀ target, Steps p.tables e below (T19.setTop (mkF m 96 #[.val (.ref r0), .val (.int (1 : Int32)), .val (.int p2), .unset, .val (.ref y), .val (.int (1 : Int32))] [.null, (.ref y), .null, (.ref b), (.ref b)])) target → Steps p.tables e below (T19.setTop (mkF m 91 #[.val (.ref r0), .val (.int (1 : Int32)), .val (.int p2), .unset, .val (.ref y), .val (.int (1 : Int32))] [(.ref b)])) target := by
        intro target kt
        refine XS.dup X19.here hx rfl (hb hby d2_91) rfl rfl ?_
        refine XS.aconstNull X19.here hx rfl (hb hby d2_92) ?_
        refine XS.aload X19.here hx rfl (hb hby d2_93) rfl rfl ?_
        refine XS.aconstNull X19.here hx rfl (hb hby d2_95) ?_
        exact kt
      obtain ⟨_, _, ⟨T21, L21, k21, n21⟩, -, X21, ⟨Lc21, hQ21, l21, y21, z21⟩, st21⟩ := X19.specialBack hx (y := (⟨"com/example/libbisim/libbisim/CompactInts", "<init>", "([B[C[I)V"⟩ : MethodName)) rfl hown (mvT hZ (hw _ (List.mem_of_getElem? (i := 13) rfl))) (mvT hZ (hw _ (List.mem_of_getElem? (i := 14) rfl))) (mvT hZ (hw _ (List.mem_of_getElem? (i := 15) rfl))) (by decide) (backOf (W := 1) (rmI2 l Z a0 hw [] b y  h19 n0 Z_19 F_bytes_b F_chars_b F_ints_b E_b g_b) hZ (hw _ (List.mem_of_getElem? (i := 15) rfl)) (hw _ (List.mem_of_getElem? (i := 8) rfl)) (by decide) (by decide)) (g := (mkF m 96 #[.val (.ref r0), .val (.int (1 : Int32)), .val (.int p2), .unset, .val (.ref y), .val (.int (1 : Int32))] [.null, (.ref y), .null, (.ref b), (.ref b)])) rfl (by rw [hml]; rfl) (Steps.refl _) (a := b) (argsL := [.null, (.ref y), .null]) (rest := [(.ref b)]) (lenOf pd_2 rfl) rfl (by show 2 * 0 + _ ≤ _; exact Nat.le_of_eq rfl) (hb hby d2_96) (fun _ _ => ⟨rfl, e19, (by decide : 2 + 0 ≤ _), (by decide : 4 + 0 ≤ _)⟩)
      dsimp only [Pt.U, Pt.locs, Pt.cells, Pt.slots] at X21 l21 y21 z21 st21 hQ21
      subst l21 y21 z21
      obtain ⟨rfl, Nq21, K21, E_b_i, F_bytes_b_i, F_chars_b_i, F_ints_b_i⟩ := hQ21
      have N21 := Fr.app N17 Nq21
      have Vv_21 := Vv_19.keep K21 (ninS ne_r0_b nin0)
      have V_y_21 := V_y_19.keep K21 (ninS ne_y_b nin0)
      have E_b_21 := E_b.keep K21
      have Z_21 : n0 ≤ T21.heap.size := Nat.le_trans Z_19 K21.1
      have Kp_21 : Keep h0 T21.heap [] := Kp_19.trans K21 (allS (Or.inr sz_b) (all0))
      obtain ⟨fs, hr, hrun, hended, hW, hsame⟩ := X21.leave (v := some (.ref b)) (fun h => by rw [Bd.returns] at h; cases h)
      refine ⟨_, _, pre0 _ (st1 _ (st2 _ (st3 _ (st11 _ (st12 _ (st13 _ (st14 _ (st15 _ (st16 _ (st17 _ (st18 _ (st19 _ (st20 _ (st21.trans ?_)))))))))))))), hrun, hended, _, _, rfl, ?_, ⟨_, rfl⟩, hW, hsame.mono (by decide) (by decide)⟩
      · refine XS.astoreN X21.here hx rfl (hb hby d2_99) rfl rfl (l' := #[.val (.ref r0), .val (.int (1 : Int32)), .val (.int p2), .val (.ref b), .val (.ref y), .val (.int (1 : Int32))]) rfl ?_
        show Steps p.tables e below (T21.setTop (mkF m 100 #[.val (.ref r0), .val (.int (1 : Int32)), .val (.int p2), .val (.ref b), .val (.ref y), .val (.int (1 : Int32))] [])) _
        refine XS.goto X21.here hx rfl (pc0 := 100) (pc' := 128) rfl (hb hby d2_100) (by decide) (by decide) ?_
        refine XS.aloadN X21.here hx rfl (hb hby d2_128) rfl rfl ?_
        show Steps p.tables e below (T21.setTop (mkF m 129 #[.val (.ref r0), .val (.int (1 : Int32)), .val (.int p2), .val (.ref b), .val (.ref y), .val (.int (1 : Int32))] [(.ref b)])) _
        jvm_step X21.here [X21.here.top, hx, (hb hby d2_129), X21.method', Bd.returns, Value.isRef, FieldType.isReference]
        first | (intro acts; rw [hr _ acts rfl rfl rfl]) | rw [hr _ _ rfl rfl rfl]
        exact Steps.refl _
      · show Q_rmOf1 Z r0 p2 kv w0 w1 w2 w3 h0 n0 _ T21.heap _
        exact ⟨b, rfl, N21, Kp_21, sz_b, E_b_i, Or.inr (Or.inl ⟨hc4, hc55, y, _, sz_y, F_bytes_b_i, F_chars_b_i, V_y_21⟩)⟩
  · have st22 : ∀ target, Steps p.tables e below (s₁.setTop (mkF m 7 #[.val (.ref r0), .val (.int (1 : Int32)), .val (.int p2), .unset, .unset, .unset] [])) target → Steps p.tables e below (s₁.setTop (mkF m 4 #[.val (.ref r0), .val (.int (1 : Int32)), .val (.int p2), .unset, .unset, .unset] [(.int (256 : Int32)), (.int p2)])) target := by
      intro target kt
      refine XS.icmpNo X0.here hx rfl (hb hby d2_4) rfl (flt hc4).2.2.1 ?_
      exact kt
    have st23 : ∀ target, Steps p.tables e below (s₁.setTop (mkF m 8 #[.val (.ref r0), .val (.int (1 : Int32)), .val (.int p2), .unset, .unset, .unset] [(.int (1 : Int32))])) target → Steps p.tables e below (s₁.setTop (mkF m 7 #[.val (.ref r0), .val (.int (1 : Int32)), .val (.int p2), .unset, .unset, .unset] [])) target := by
      intro target kt
      refine XS.iloadN X0.here hx rfl (hb hby d2_7) rfl ?_
      exact kt
    obtain ⟨T24, h24, k24, X24, e24, E24, A24, st24⟩ := newP X0 hx hZ (hw _ (List.mem_of_getElem? (i := 10) rfl)) e0 (g := (mkF m 8 #[.val (.ref r0), .val (.int (1 : Int32)), .val (.int p2), .unset, .unset, .unset] [(.int (1 : Int32))])) rfl (hb hby d2_8) rfl (by decide) (cap := 1) (by decide) (by decide) (by decide) (by decide)
    obtain ⟨y, g24⟩ : ∃ z, z = h0.size := ⟨_, rfl⟩
    rw [← g24] at A24 st24
    have g_y : n0 ≤ y := Nat.le_trans Z0 (Nat.le_of_eq g24.symm)
    have sz_y : h0.size ≤ y := Nat.le_trans Kp.1 (Nat.le_of_eq g24.symm)
    have ne_r0_y : r0 ≠ y := Nat.ne_of_lt (Nat.lt_of_lt_of_le Vv.lt (Nat.le_of_eq g24.symm))
    have Vv_24 := Vv.ext E24
    have Z_24 : n0 ≤ h24.size := Nat.le_trans Z0 E24.1
    have Kp_24 : Keep h0 h24 [] := Kp.ext E24
    have V_y : Arv Z h24 y k24 .byte (1 : Int32) [(.int (0 : Int32))] (.int (0 : Int32)) := (Arv.new A24 (by decide)).pad (pad_rep [] (.int (0 : Int32)) 1)
    have st25 : ∀ target, Steps p.tables e below (T24.setTop (mkF m 28 #[.val (.ref r0), .val (.int (1 : Int32)), .val (.int p2), .unset, .val (.ref y), .val (.int (0 : Int32))] [(.int (0 : Int32)), (.ref r0), (.int (0 : Int32)), (.ref y)])) target → Steps p.tables e below (T24.setTop (mkF m 10 #[.val (.ref r0), .val (.int (1 : Int32)), .val (.int p2), .unset, .unset, .unset] [(.ref y)])) target := by
      intro target kt
      refine XS.astore X24.here hx rfl (hb hby d2_10) rfl rfl (l' := #[.val (.ref r0), .val (.int (1 : Int32)), .val (.int p2), .unset, .val (.ref y), .unset]) rfl ?_
      refine XS.iconst X24.here hx rfl (hb hby d2_12) ?_
      refine XS.istore X24.here hx rfl (hb hby d2_13) rfl (l' := #[.val (.ref r0), .val (.int (1 : Int32)), .val (.int p2), .unset, .val (.ref y), .val (.int (0 : Int32))]) rfl ?_
      refine XS.iload X24.here hx rfl (hb hby d2_15) rfl ?_
      show Steps p.tables e below (T24.setTop (mkF m 17 #[.val (.ref r0), .val (.int (1 : Int32)), .val (.int p2), .unset, .val (.ref y), .val (.int (0 : Int32))] [(.int (0 : Int32))])) _
      refine XS.iloadN X24.here hx rfl (hb hby d2_17) rfl ?_
      refine XS.icmpNo X24.here hx rfl (hb hby d2_18) rfl (tlt (by decide : ((0 : Int32) < (1 : Int32)))).2.1 ?_
      refine XS.aload X24.here hx rfl (hb hby d2_21) rfl rfl ?_
      refine XS.iload X24.here hx rfl (hb hby d2_23) rfl ?_
      refine XS.aloadN X24.here hx rfl (hb hby d2_25) rfl rfl ?_
      refine XS.iload X24.here hx rfl (hb hby d2_26) rfl ?_
      exact kt
    obtain ⟨cl26, Ar26, qc26, Sz26, Mn26, Hs26, Gs26⟩ := id Vv_24
    have hin26 : ¬ ((0 : Int32) < 0 ∨ cl26.slots.size ≤ ((0 : Int32)).toNatClampNeg) := inb_of Sz26 ⟨by decide, by decide⟩
    have hat26 : cl26.slots[((0 : Int32)).toNatClampNeg]? = some (.int w0) := Hs26.at hin26 rfl
    have st26 : ∀ target, Steps p.tables e below (T24.setTop (mkF m 29 #[.val (.ref r0), .val (.int (1 : Int32)), .val (.int p2), .unset, .val (.ref y), .val (.int (0 : Int32))] [(.int w0), (.int (0 : Int32)), (.ref y)])) target → Steps p.tables e below (T24.setTop (mkF m 28 #[.val (.ref r0), .val (.int (1 : Int32)), .val (.int p2), .unset, .val (.ref y), .val (.int (0 : Int32))] [(.int (0 : Int32)), (.ref r0), (.int (0 : Int32)), (.ref y)])) target := fun target kt => X24.iaload hx (j := (0 : Int32)) (v := (.int w0)) (by rw [e24]; exact Ar26.1) (State.isArrayOf_alike hZ.alike Ar26.2.1) Ar26.2.2 hin26 hat26 (g := (mkF m 28 #[.val (.ref r0), .val (.int (1 : Int32)), .val (.int p2), .unset, .val (.ref y), .val (.int (0 : Int32))] [(.int (0 : Int32)), (.ref r0), (.int (0 : Int32)), (.ref y)])) rfl rfl (hb hby d2_28) _ kt
    have st27 : ∀ target, Steps p.tables e below (T24.setTop (mkF m 30 #[.val (.ref r0), .val (.int (1 : Int32)), .val (.int p2), .unset, .val (.ref y), .val (.int (0 : Int32))] [(.int (w0.toInt8.toInt32)), (.int (0 : Int32)), (.ref y)])) target → Steps p.tables e below (T24.setTop (mkF m 29 #[.val (.ref r0), .val (.int (1 : Int32)), .val (.int p2), .unset, .val (.ref y), .val (.int (0 : Int32))] [(.int w0), (.int (0 : Int32)), (.ref y)])) target := by
      intro target kt
      refine XS.i2b X24.here hx rfl (hb hby d2_29) rfl ?_
      exact kt
    obtain ⟨cl28, Ar28, qc28, Sz28, Mn28, Hs28, Gs28⟩ := id V_y
    have hin28 : ¬ ((0 : Int32) < 0 ∨ cl28.slots.size ≤ ((0 : Int32)).toNatClampNeg) := inb_of Sz28 ⟨by decide, by decide⟩
    obtain ⟨T28, h28, X28, e28, W28, st28⟩ := stB X24 hx hZ e24 Ar28 (j := (0 : Int32)) hin28 (g := (mkF m 30 #[.val (.ref r0), .val (.int (1 : Int32)), .val (.int p2), .unset, .val (.ref y), .val (.int (0 : Int32))] [(.int (w0.toInt8.toInt32)), (.int (0 : Int32)), (.ref y)])) rfl rfl (hb hby d2_30)
    have V_y_28 : Arv Z h28 y k24 .byte (1 : Int32) [(.int (nar .byte (w0.toInt8.toInt32)))] (.int (0 : Int32)) := Arv.set Ar28 qc28 Sz28 Mn28 Hs28 Gs28 (fits_nar_byte _) W28 0 rfl (Nat.le_of_ble_eq_true rfl)
    have Vv_28 := Vv_24.other W28 ne_r0_y
    have Z_28 : n0 ≤ h28.size := Nat.le_trans Z_24 (Keep.of_wr W28).1
    have Kp_28 : Keep h0 h28 [] := Kp_24.wr W28 (Or.inr sz_y)
    have N28 := Fr.snoc X28 N0 g_y
    have st29 : ∀ target, Steps p.tables e below (T28.setTop (mkF m 37 #[.val (.ref r0), .val (.int (1 : Int32)), .val (.int p2), .unset, .val (.ref y), .val (.int (1 : Int32))] [])) target → Steps p.tables e below (T28.setTop (mkF m 31 #[.val (.ref r0), .val (.int (1 : Int32)), .val (.int p2), .unset, .val (.ref y), .val (.int (0 : Int32))] [])) target := by
      intro target kt
      refine XS.iinc X28.here hx rfl (hb hby d2_31) rfl (l' := #[.val (.ref r0), .val (.int (1 : Int32)), .val (.int p2), .unset, .val (.ref y), .val (.int (1 : Int32))]) rfl ?_
      show Steps p.tables e below (T28.setTop (mkF m 34 #[.val (.ref r0), .val (.int (1 : Int32)), .val (.int p2), .unset, .val (.ref y), .val (.int (1 : Int32))] [])) _
      refine XS.goto X28.here hx rfl (pc0 := 34) (pc' := 15) rfl (hb hby d2_34) (by decide) (by decide) ?_
      refine XS.iload X28.here hx rfl (hb hby d2_15) rfl ?_
      refine XS.iloadN X28.here hx rfl (hb hby d2_17) rfl ?_
      refine XS.icmpYes X28.here hx rfl (pc0 := 18) (pc' := 37) rfl (hb hby d2_18) rfl (flt (by decide : ¬ ((1 : Int32) < (1 : Int32)))).2.1 (by decide) (by decide) ?_
      exact kt
    obtain ⟨T30, h30, X30, e30, E30, A30, D30, -, st30⟩ := newO X28 hx hZ hown (hw _ (List.mem_of_getElem? (i := 11) rfl)) (hw _ (List.mem_of_getElem? (i := 12) rfl)) (hw _ (List.mem_of_getElem? (i := 8) rfl)) e28 (g := (mkF m 37 #[.val (.ref r0), .val (.int (1 : Int32)), .val (.int p2), .unset, .val (.ref y), .val (.int (1 : Int32))] [])) rfl (hb hby d2_37) (by decide) (by decide)
    obtain ⟨b, g30⟩ : ∃ z, z = h28.size := ⟨_, rfl⟩
    rw [← g30] at A30 D30 st30
    have g_b : n0 ≤ b := Nat.le_trans Z_28 (Nat.le_of_eq g30.symm)
    have sz_b : h0.size ≤ b := Nat.le_trans Kp_28.1 (Nat.le_of_eq g30.symm)
    have ne_r0_b : r0 ≠ b := Nat.ne_of_lt (Nat.lt_of_lt_of_le Vv_28.lt (Nat.le_of_eq g30.symm))
    have ne_y_b : y ≠ b := Nat.ne_of_lt (Nat.lt_of_lt_of_le V_y_28.lt (Nat.le_of_eq g30.symm))
    have Vv_30 := Vv_28.ext E30
    have V_y_30 := V_y_28.ext E30
    have Z_30 : n0 ≤ h30.size := Nat.le_trans Z_28 E30.1
    have Kp_30 : Keep h0 h30 [] := Kp_28.ext E30
    have E_b : Exa Z h30 b "com/example/libbisim/libbisim/CompactInts" := A30
    have F_bytes_b : Fld Z h30 b "com/example/libbisim/libbisim/CompactInts" "bytes" "[B" .null := D30 (Or.inr (hw _ (List.mem_of_getElem? (i := 20) rfl))) (ty := (.array .byte)) (by decide)
    have F_chars_b : Fld Z h30 b "com/example/libbisim/libbisim/CompactInts" "chars" "[C" .null := D30 (Or.inr (hw _ (List.mem_of_getElem? (i := 22) rfl))) (ty := (.array .char)) (by decide)
    have F_ints_b : Fld Z h30 b "com/example/libbisim/libbisim/CompactInts" "ints" "[I" .null := D30 (Or.inr (hw _ (List.mem_of_getElem? (i := 24) rfl))) (ty := (.array .int)) (by decide)
    have st31 : ∀ target, Steps p.tables e below (T30.setTop (mkF m 45 #[.val (.ref r0), .val (.int (1 : Int32)), .val (.int p2), .unset, .val (.ref y), .val (.int (1 : Int32))] [.null, .null, (.ref y), (.ref b), (.ref b)])) target → Steps p.tables e below (T30.setTop (mkF m 40 #[.val (.ref r0), .val (.int (1 : Int32)), .val (.int p2), .unset, .val (.ref y), .val (.int (1 : Int32))] [(.ref b)])) target := by
      intro target kt
      refine XS.dup X30.here hx rfl (hb hby d2_40) rfl rfl ?_
      refine XS.aload X30.here hx rfl (hb hby d2_41) rfl rfl ?_
      refine XS.aconstNull X30.here hx rfl (hb hby d2_43) ?_
      refine XS.aconstNull X30.here hx rfl (hb hby d2_44) ?_
      exact kt
    obtain ⟨_, _, ⟨T32, L32, k32, n32⟩, -, X32, ⟨Lc32, hQ32, l32, y32, z32⟩, st32⟩ := X30.specialBack hx (y := (⟨"com/example/libbisim/libbisim/CompactInts", "<init>", "([B[C[I)V"⟩ : MethodName)) rfl hown (mvT hZ (hw _ (List.mem_of_getElem? (i := 13) rfl))) (mvT hZ (hw _ (List.mem_of_getElem? (i := 14) rfl))) (mvT hZ (hw _ (List.mem_of_getElem? (i := 15) rfl))) (by decide) (backOf (W := 1) (rmI1 l Z a0 hw [] b y  h30 n0 Z_30 F_bytes_b F_chars_b F_ints_b E_b g_b) hZ (hw _ (List.mem_of_getElem? (i := 15) rfl)) (hw _ (List.mem_of_getElem? (i := 8) rfl)) (by decide) (by decide)) (g := (mkF m 45 #[.val (.ref r0), .val (.int (1 : Int32)), .val (.int p2), .unset, .val (.ref y), .val (.int (1 : Int32))] [.null, .null, (.ref y), (.ref b), (.ref b)])) rfl (by rw [hml]; rfl) (Steps.refl _) (a := b) (argsL := [(.ref y), .null, .null]) (rest := [(.ref b)]) (lenOf pd_2 rfl) rfl (by show 2 * 0 + _ ≤ _; exact Nat.le_of_eq rfl) (hb hby d2_45) (fun _ _ => ⟨rfl, e30, (by decide : 2 + 0 ≤ _), (by decide : 4 + 0 ≤ _)⟩)
    dsimp only [Pt.U, Pt.locs, Pt.cells, Pt.slots] at X32 l32 y32 z32 st32 hQ32
    subst l32 y32 z32
    obtain ⟨rfl, Nq32, K32, E_b_i, F_bytes_b_i, F_chars_b_i, F_ints_b_i⟩ := hQ32
    have N32 := Fr.app N28 Nq32
    have Vv_32 := Vv_30.keep K32 (ninS ne_r0_b nin0)
    have V_y_32 := V_y_30.keep K32 (ninS ne_y_b nin0)
    have E_b_32 := E_b.keep K32
    have Z_32 : n0 ≤ T32.heap.size := Nat.le_trans Z_30 K32.1
    have Kp_32 : Keep h0 T32.heap [] := Kp_30.trans K32 (allS (Or.inr sz_b) (all0))
    obtain ⟨fs, hr, hrun, hended, hW, hsame⟩ := X32.leave (v := some (.ref b)) (fun h => by rw [Bd.returns] at h; cases h)
    refine ⟨_, _, pre0 _ (st1 _ (st22 _ (st23 _ (st24 _ (st25 _ (st26 _ (st27 _ (st28 _ (st29 _ (st30 _ (st31 _ (st32.trans ?_)))))))))))), hrun, hended, _, _, rfl, ?_, ⟨_, rfl⟩, hW, hsame.mono (by decide) (by decide)⟩
    · show Steps p.tables e below (T32.setTop (mkF m 48 #[.val (.ref r0), .val (.int (1 : Int32)), .val (.int p2), .unset, .val (.ref y), .val (.int (1 : Int32))] [(.ref b)])) _
      refine XS.astoreN X32.here hx rfl (hb hby d2_48) rfl rfl (l' := #[.val (.ref r0), .val (.int (1 : Int32)), .val (.int p2), .val (.ref b), .val (.ref y), .val (.int (1 : Int32))]) rfl ?_
      refine XS.goto X32.here hx rfl (pc0 := 49) (pc' := 128) rfl (hb hby d2_49) (by decide) (by decide) ?_
      refine XS.aloadN X32.here hx rfl (hb hby d2_128) rfl rfl ?_
      show Steps p.tables e below (T32.setTop (mkF m 129 #[.val (.ref r0), .val (.int (1 : Int32)), .val (.int p2), .val (.ref b), .val (.ref y), .val (.int (1 : Int32))] [(.ref b)])) _
      jvm_step X32.here [X32.here.top, hx, (hb hby d2_129), X32.method', Bd.returns, Value.isRef, FieldType.isReference]
      first | (intro acts; rw [hr _ acts rfl rfl rfl]) | rw [hr _ _ rfl rfl rfl]
      exact Steps.refl _
    · show Q_rmOf1 Z r0 p2 kv w0 w1 w2 w3 h0 n0 _ T32.heap _
      exact ⟨b, rfl, N32, Kp_32, sz_b, E_b_i, Or.inl ⟨hc4, y, _, sz_y, F_bytes_b_i, V_y_32⟩⟩
theorem ef_rmOf2 (m : MethodId) (x0 : Addr) (x1 : Int32) (x2 : Int32) : entryFrame m #[(.ref x0), (.int x1), (.int x2)] 6 = mkF m 0 #[.val (.ref x0), .val (.int x1), .val (.int x2), .unset, .unset, .unset] [] := by first | (simp [entryFrame, mkF, argsToLocals, Value.category]; done) | rfl
def Q_rmOf2 (Z : State) (r0 : Addr) (p2 : Int32) (kv : ClassId) (w0 : Int32) (w1 : Int32) (w2 : Int32) (w3 : Int32) (h0 : Heap) (n0 : Nat) (v : Option Value) (h : Heap) (L : List Loc) : Prop := ∃ b, v = some (.ref b) ∧ Fr n0 L ∧ Keep h0 h [] ∧ h0.size ≤ b ∧ Exa Z h b "com/example/libbisim/libbisim/CompactInts" ∧ ((¬ (256 : Int32) < p2 ∧ ∃ y k, h0.size ≤ y ∧ Fld Z h b "com/example/libbisim/libbisim/CompactInts" "bytes" "[B" (.ref y) ∧ Arv Z h y k .byte (2 : Int32) [(.int (nar .byte (w0.toInt8.toInt32))), (.int (nar .byte (w1.toInt8.toInt32)))] (.int (0 : Int32))) ∨ ((256 : Int32) < p2 ∧ ¬ (65536 : Int32) < p2 ∧ ∃ y k, h0.size ≤ y ∧ Fld Z h b "com/example/libbisim/libbisim/CompactInts" "bytes" "[B" .null ∧ Fld Z h b "com/example/libbisim/libbisim/CompactInts" "chars" "[C" (.ref y) ∧ Arv Z h y k .char (2 : Int32) [(.int (nar .char (w0.toUInt32.toUInt16.toUInt32.toInt32))), (.int (nar .char (w1.toUInt32.toUInt16.toUInt32.toInt32)))] (.int (0 : Int32))) ∨ ((65536 : Int32) < p2 ∧ Fld Z h b "com/example/libbisim/libbisim/CompactInts" "bytes" "[B" .null ∧ Fld Z h b "com/example/libbisim/libbisim/CompactInts" "chars" "[C" .null ∧ ∃ y k, h0.size ≤ y ∧ Fld Z h b "com/example/libbisim/libbisim/CompactInts" "ints" "[I" (.ref y) ∧ Arv Z h y k .int (2 : Int32) [(.int w0), (.int w1)] (.int (0 : Int32))))
set_option maxRecDepth 65536 in
set_option maxHeartbeats 40000000 in
theorem rmOf2 (l : Launch) (Z : State) (a0 : Array Value) (hw : ∀ d ∈ tables_1, d.before a0 Z = true) (ws : List Jvm.Cond) (r0 : Addr) (p2 : Int32) (kv : ClassId) (w0 : Int32) (w1 : Int32) (w2 : Int32) (w3 : Int32) (h0 : Heap) (n0 : Nat) (Z0 : n0 ≤ h0.size) (Vv : Arv Z h0 r0 kv .int (4 : Int32) [(.int w0), (.int w1), (.int w2), (.int w3)] (.int (0 : Int32))) :
    MetFree l (⟨"com/example/libbisim/libbisim/CompactInts", "of", "([III)Lcom/example/libbisim/libbisim/CompactInts;"⟩ : MethodName) (head1 (Jvm.Cond.code (⟨"com/example/libbisim/libbisim/CompactInts", "of", "([III)Lcom/example/libbisim/libbisim/CompactInts;"⟩ : MethodName) prog_7_method_2_code 6 (some (.object "com/example/libbisim/libbisim/CompactInts")) :: ws) ({ frames := 2, cells := 2, slots := 5, locals := 78 } : Room)) (fun a U => a = #[(.ref r0), (.int (2 : Int32)), (.int p2)] ∧ Z.Warmed39 U.vm ∧ U.heap = h0) (fun _ _ _ _ _ => True) (fun _ U o U' => ∃ v L, o = .returned v ∧ Q_rmOf2 Z r0 p2 kv w0 w1 w2 w3 h0 n0 v U'.heap L ∧ FrameEnd U o U' L ({ frames := 2, cells := 2, slots := 5, locals := 78 } : Room).cells ({ frames := 2, cells := 2, slots := 5, locals := 78 } : Room).slots) := by
  refine MetFree.of_bodySF (plainFor_of_name pn_2) hisR ?_
  intro p e s m args below meth c s₁ Bd hml0 hP hK
  obtain ⟨rfl, hZ, hh⟩ := hP
  have hx := Bd.exec
  have hby := Bd.bytes
  have hml : c.maxLocals = 6 := hml0
  have hown : s.vm.findClass "com/example/libbisim/libbisim/CompactInts" = some m.cls := findClass_of_methodNamed Bd.named
  have hnm := (name_of_methodNamed Bd.named Bd.method).1
  have X0 : Stand p l e ({ frames := 2, cells := 2, slots := 5, locals := 78 } : Room) s m #[(.ref r0), (.int (2 : Int32)), (.int p2)] below meth c s₁ [] 0 0 := Stand.of_body Bd
  have e0 : s₁.heap = h0 := by rw [← hh, Bd.state]; rfl
  have N0 := Fr.nil n0
  have pre0 : ∀ t, Steps p.tables e below (s₁.setTop (mkF m 0 #[.val (.ref r0), .val (.int (2 : Int32)), .val (.int p2), .unset, .unset, .unset] [])) t → Steps p.tables e below (s₁.setTop (entryFrame m #[(.ref r0), (.int (2 : Int32)), (.int p2)] 6)) t := fun t k => castTop (ef_rmOf2 m r0 (2 : Int32) p2) k
  have Kp : Keep h0 h0 [] := Keep.refl _ _
  have st1 : ∀ target, Steps p.tables e below (s₁.setTop (mkF m 4 #[.val (.ref r0), .val (.int (2 : Int32)), .val (.int p2), .unset, .unset, .unset] [(.int (256 : Int32)), (.int p2)])) target → Steps p.tables e below (s₁.setTop (mkF m 0 #[.val (.ref r0), .val (.int (2 : Int32)), .val (.int p2), .unset, .unset, .unset] [])) target := by
    intro target kt
    refine XS.iloadN X0.here hx rfl (hb hby d2_0) rfl ?_
    refine XS.sipush X0.here hx rfl (hb hby d2_1) ?_
    exact kt
  by_cases hc4 : (256 : Int32) < p2
  · have st2 : ∀ target, Steps p.tables e below (s₁.setTop (mkF m 52 #[.val (.ref r0), .val (.int (2 : Int32)), .val (.int p2), .unset, .unset, .unset] [])) target → Steps p.tables e below (s₁.setTop (mkF m 4 #[.val (.ref r0), .val (.int (2 : Int32)), .val (.int p2), .unset, .unset, .unset] [(.int (256 : Int32)), (.int p2)])) target := by
      intro target kt
      refine XS.icmpYes X0.here hx rfl (pc0 := 4) (pc' := 52) rfl (hb hby d2_4) rfl (tlt hc4).2.2.1 (by decide) (by decide) ?_
      exact kt
    have st3 : ∀ target, Steps p.tables e below (s₁.setTop (mkF m 55 #[.val (.ref r0), .val (.int (2 : Int32)), .val (.int p2), .unset, .unset, .unset] [(.int (65536 : Int32)), (.int p2)])) target → Steps p.tables e below (s₁.setTop (mkF m 52 #[.val (.ref r0), .val (.int (2 : Int32)), .val (.int p2), .unset, .unset, .unset] [])) target := by
      intro target kt
      refine XS.iloadN X0.here hx rfl (hb hby d2_52) rfl ?_
      refine X0.ldcInt hx hown (mvT hZ (hw _ (List.mem_of_getElem? (i := 26) rfl))) (g := (mkF m 53 #[.val (.ref r0), .val (.int (2 : Int32)), .val (.int p2), .unset, .unset, .unset] [(.int p2)])) rfl (hb hby d2_53) _ ?_
      exact kt
    by_cases hc55 : (65536 : Int32) < p2
    · have st4 : ∀ target, Steps p.tables e below (s₁.setTop (mkF m 103 #[.val (.ref r0), .val (.int (2 : Int32)), .val (.int p2), .unset, .unset, .unset] [])) target → Steps p.tables e below (s₁.setTop (mkF m 55 #[.val (.ref r0), .val (.int (2 : Int32)), .val (.int p2), .unset, .unset, .unset] [(.int (65536 : Int32)), (.int p2)])) target := by
        intro target kt
        refine XS.icmpYes X0.here hx rfl (pc0 := 55) (pc' := 103) rfl (hb hby d2_55) rfl (tlt hc55).2.2.1 (by decide) (by decide) ?_
        exact kt
      obtain ⟨T5, h5, X5, e5, E5, A5, D5, -, st5⟩ := newO X0 hx hZ hown (hw _ (List.mem_of_getElem? (i := 11) rfl)) (hw _ (List.mem_of_getElem? (i := 12) rfl)) (hw _ (List.mem_of_getElem? (i := 8) rfl)) e0 (g := (mkF m 103 #[.val (.ref r0), .val (.int (2 : Int32)), .val (.int p2), .unset, .unset, .unset] [])) rfl (hb hby d2_103) (by decide) (by decide)
      obtain ⟨b, g5⟩ : ∃ z, z = h0.size := ⟨_, rfl⟩
      rw [← g5] at A5 D5 st5
      have g_b : n0 ≤ b := Nat.le_trans Z0 (Nat.le_of_eq g5.symm)
      have sz_b : h0.size ≤ b := Nat.le_trans Kp.1 (Nat.le_of_eq g5.symm)
      have ne_r0_b : r0 ≠ b := Nat.ne_of_lt (Nat.lt_of_lt_of_le Vv.lt (Nat.le_of_eq g5.symm))
      have Vv_5 := Vv.ext E5
      have Z_5 : n0 ≤ h5.size := Nat.le_trans Z0 E5.1
      have Kp_5 : Keep h0 h5 [] := Kp.ext E5
      have E_b : Exa Z h5 b "com/example/libbisim/libbisim/CompactInts" := A5
      have F_bytes_b : Fld Z h5 b "com/example/libbisim/libbisim/CompactInts" "bytes" "[B" .null := D5 (Or.inr (hw _ (List.mem_of_getElem? (i := 20) rfl))) (ty := (.array .byte)) (by decide)
      have F_chars_b : Fld Z h5 b "com/example/libbisim/libbisim/CompactInts" "chars" "[C" .null := D5 (Or.inr (hw _ (List.mem_of_getElem? (i := 22) rfl))) (ty := (.array .char)) (by decide)
      have F_ints_b : Fld Z h5 b "com/example/libbisim/libbisim/CompactInts" "ints" "[I" .null := D5 (Or.inr (hw _ (List.mem_of_getElem? (i := 24) rfl))) (ty := (.array .int)) (by decide)
      have st6 : ∀ target, Steps p.tables e below (T5.setTop (mkF m 110 #[.val (.ref r0), .val (.int (2 : Int32)), .val (.int p2), .unset, .unset, .unset] [(.ref r0), .null, .null, (.ref b), (.ref b)])) target → Steps p.tables e below (T5.setTop (mkF m 106 #[.val (.ref r0), .val (.int (2 : Int32)), .val (.int p2), .unset, .unset, .unset] [(.ref b)])) target := by
        intro target kt
        refine XS.dup X5.here hx rfl (hb hby d2_106) rfl rfl ?_
        show Steps p.tables e below (T5.setTop (mkF m 107 #[.val (.ref r0), .val (.int (2 : Int32)), .val (.int p2), .unset, .unset, .unset] [(.ref b), (.ref b)])) _
        refine XS.aconstNull X5.here hx rfl (hb hby d2_107) ?_
        refine XS.aconstNull X5.here hx rfl (hb hby d2_108) ?_
        refine XS.aloadN X5.here hx rfl (hb hby d2_109) rfl rfl ?_
        exact kt
      obtain ⟨cl7, Ar7, qc7, Sz7, Mn7, Hs7, Gs7⟩ := id Vv_5
      have st7 : ∀ target, Steps p.tables e below (T5.setTop (mkF m 111 #[.val (.ref r0), .val (.int (2 : Int32)), .val (.int p2), .unset, .unset, .unset] [(.int (4 : Int32)), .null, .null, (.ref b), (.ref b)])) target → Steps p.tables e below (T5.setTop (mkF m 110 #[.val (.ref r0), .val (.int (2 : Int32)), .val (.int p2), .unset, .unset, .unset] [(.ref r0), .null, .null, (.ref b), (.ref b)])) target := fun target kt => X5.arraylength hx (cell := cl7) (by rw [e5]; exact Ar7.1) (State.isArrayOf_alike hZ.alike Ar7.2.1) (g := (mkF m 110 #[.val (.ref r0), .val (.int (2 : Int32)), .val (.int p2), .unset, .unset, .unset] [(.ref r0), .null, .null, (.ref b), (.ref b)])) rfl rfl (hb hby d2_110) _ (by rw [len_of Sz7 Mn7]; exact kt)
      have st8 : ∀ target, Steps p.tables e below (T5.setTop (mkF m 121 #[.val (.ref r0), .val (.int (2 : Int32)), .val (.int p2), .unset, .unset, .unset] [(.int (2 : Int32)), (.ref r0), .null, .null, (.ref b), (.ref b)])) target → Steps p.tables e below (T5.setTop (mkF m 111 #[.val (.ref r0), .val (.int (2 : Int32)), .val (.int p2), .unset, .unset, .unset] [(.int (4 : Int32)), .null, .null, (.ref b), (.ref b)])) target := by
        intro target kt
        refine XS.iloadN X5.here hx rfl (hb hby d2_111) rfl ?_
        refine XS.icmpYes X5.here hx rfl (pc0 := 112) (pc' := 119) rfl (hb hby d2_112) rfl (feq (by decide : ¬ ((4 : Int32) = (2 : Int32)))).2 (by decide) (by decide) ?_
        refine XS.aloadN X5.here hx rfl (hb hby d2_119) rfl rfl ?_
        refine XS.iloadN X5.here hx rfl (hb hby d2_120) rfl ?_
        exact kt
      obtain ⟨_, _, ⟨T9, L9, k9, n9⟩, -, X9, ⟨Lc9, hQ9, l9, y9, z9⟩, st9⟩ := Jvm.LawKit.callS X5 hx (y := (⟨"java/util/Arrays", "copyOf", "([II)[I"⟩ : MethodName)) hown (mvT hZ (hw _ (List.mem_of_getElem? (i := 27) rfl))) (mvT hZ (hw _ (List.mem_of_getElem? (i := 28) rfl))) (mvT hZ (hw _ (List.mem_of_getElem? (i := 29) rfl))) (mvT hZ (hw _ (List.mem_of_getElem? (i := 30) rfl))) (by decide) (backOf (W := 4) (rmCO2 l Z a0 hw [] r0 kv w0 w1 w2 w3 h5 n0 Z_5 Vv_5) hZ (hw _ (List.mem_of_getElem? (i := 30) rfl)) (hw _ (List.mem_of_getElem? (i := 29) rfl)) (by decide) (by decide)) (g := (mkF m 121 #[.val (.ref r0), .val (.int (2 : Int32)), .val (.int p2), .unset, .unset, .unset] [(.int (2 : Int32)), (.ref r0), .null, .null, (.ref b), (.ref b)])) rfl (by rw [hml]; rfl) (argsL := [(.ref r0), (.int (2 : Int32))]) (rest := [.null, .null, (.ref b), (.ref b)]) (lenOf pd_4 rfl) rfl (by show 2 * 0 + _ ≤ _; exact Nat.le_of_eq rfl) (hb hby d2_121) (fun _ _ => ⟨rfl, e5, (by decide : 1 + 1 ≤ _), (by decide : 3 + 2 ≤ _)⟩)
      dsimp only [Pt.U, Pt.locs, Pt.cells, Pt.slots] at X9 l9 y9 z9 st9 hQ9
      subst l9 y9 z9
      obtain ⟨y9, rfl, Nq9, K9, sz9, ky, Vy⟩ := hQ9
      have N9 := Fr.app N0 Nq9
      have g_y9 : n0 ≤ y9 := Nat.le_trans Z_5 sz9
      have sz_y9 : h0.size ≤ y9 := Nat.le_trans Kp_5.1 sz9
      have ne_r0_y9 : r0 ≠ y9 := Nat.ne_of_lt (Nat.lt_of_lt_of_le Vv_5.lt sz9)
      have ne_b_y9 : b ≠ y9 := Nat.ne_of_lt (Nat.lt_of_lt_of_le E_b.lt sz9)
      have Vv_9 := Vv_5.keep K9 nin0
      have E_b_9 := E_b.keep K9
      have F_bytes_b_9 := F_bytes_b.keep K9 nin0
      have F_chars_b_9 := F_chars_b.keep K9 nin0
      have F_ints_b_9 := F_ints_b.keep K9 nin0
      have Z_9 : n0 ≤ T9.heap.size := Nat.le_trans Z_5 K9.1
      have Kp_9 : Keep h0 T9.heap [] := Kp_5.trans K9 (all0)
      obtain ⟨_, _, ⟨T10, L10, k10, n10⟩, -, X10, ⟨Lc10, hQ10, l10, y10, z10⟩, st10⟩ := X9.specialBack hx (y := (⟨"com/example/libbisim/libbisim/CompactInts", "<init>", "([B[C[I)V"⟩ : MethodName)) rfl hown (mvT hZ (hw _ (List.mem_of_getElem? (i := 13) rfl))) (mvT hZ (hw _ (List.mem_of_getElem? (i := 14) rfl))) (mvT hZ (hw _ (List.mem_of_getElem? (i := 15) rfl))) (by decide) (backOf (W := 1) (rmI3 l Z a0 hw [] b y9  T9.heap n0 Z_9 F_bytes_b_9 F_chars_b_9 F_ints_b_9 E_b_9 g_b) hZ (hw _ (List.mem_of_getElem? (i := 15) rfl)) (hw _ (List.mem_of_getElem? (i := 8) rfl)) (by decide) (by decide)) (g := (mkF m 124 #[.val (.ref r0), .val (.int (2 : Int32)), .val (.int p2), .unset, .unset, .unset] [(.ref y9), .null, .null, (.ref b), (.ref b)])) rfl (by rw [hml]; rfl) (Steps.refl _) (a := b) (argsL := [.null, .null, (.ref y9)]) (rest := [(.ref b)]) (lenOf pd_2 rfl) rfl (by show 2 * 0 + _ ≤ _; exact Nat.le_of_eq rfl) (hb hby d2_124) (fun _ _ => ⟨rfl, rfl, (by decide : 2 + 0 ≤ _), (by decide : 5 + 0 ≤ _)⟩)
      dsimp only [Pt.U, Pt.locs, Pt.cells, Pt.slots] at X10 l10 y10 z10 st10 hQ10
      subst l10 y10 z10
      obtain ⟨rfl, Nq10, K10, E_b_i, F_bytes_b_i, F_chars_b_i, F_ints_b_i⟩ := hQ10
      have N10 := Fr.app N9 Nq10
      have Vv_10 := Vv_9.keep K10 (ninS ne_r0_b nin0)
      have E_b_10 := E_b_9.keep K10
      have Vy_10 := Vy.keep K10 (ninS (Ne.symm ne_b_y9) nin0)
      have Z_10 : n0 ≤ T10.heap.size := Nat.le_trans Z_9 K10.1
      have Kp_10 : Keep h0 T10.heap [] := Kp_9.trans K10 (allS (Or.inr sz_b) (all0))
      obtain ⟨fs, hr, hrun, hended, hW, hsame⟩ := X10.leave (v := some (.ref b)) (fun h => by rw [Bd.returns] at h; cases h)
      refine ⟨_, _, pre0 _ (st1 _ (st2 _ (st3 _ (st4 _ (st5 _ (st6 _ (st7 _ (st8 _ (st9 _ (st10.trans ?_)))))))))), hrun, hended, _, _, rfl, ?_, ⟨_, rfl⟩, hW, hsame.mono (by decide) (by decide)⟩
      · refine XS.astoreN X10.here hx rfl (hb hby d2_127) rfl rfl (l' := #[.val (.ref r0), .val (.int (2 : Int32)), .val (.int p2), .val (.ref b), .unset, .unset]) rfl ?_
        show Steps p.tables e below (T10.setTop (mkF m 128 #[.val (.ref r0), .val (.int (2 : Int32)), .val (.int p2), .val (.ref b), .unset, .unset] [])) _
        refine XS.aloadN X10.here hx rfl (hb hby d2_128) rfl rfl ?_
        show Steps p.tables e below (T10.setTop (mkF m 129 #[.val (.ref r0), .val (.int (2 : Int32)), .val (.int p2), .val (.ref b), .unset, .unset] [(.ref b)])) _
        jvm_step X10.here [X10.here.top, hx, (hb hby d2_129), X10.method', Bd.returns, Value.isRef, FieldType.isReference]
        first | (intro acts; rw [hr _ acts rfl rfl rfl]) | rw [hr _ _ rfl rfl rfl]
        exact Steps.refl _
      · show Q_rmOf2 Z r0 p2 kv w0 w1 w2 w3 h0 n0 _ T10.heap _
        exact ⟨b, rfl, N10, Kp_10, sz_b, E_b_i, Or.inr (Or.inr ⟨hc55, F_bytes_b_i, F_chars_b_i, y9, _, sz_y9, F_ints_b_i, Vy_10⟩)⟩
    · have st11 : ∀ target, Steps p.tables e below (s₁.setTop (mkF m 58 #[.val (.ref r0), .val (.int (2 : Int32)), .val (.int p2), .unset, .unset, .unset] [])) target → Steps p.tables e below (s₁.setTop (mkF m 55 #[.val (.ref r0), .val (.int (2 : Int32)), .val (.int p2), .unset, .unset, .unset] [(.int (65536 : Int32)), (.int p2)])) target := by
        intro target kt
        refine XS.icmpNo X0.here hx rfl (hb hby d2_55) rfl (flt hc55).2.2.1 ?_
        exact kt
      have st12 : ∀ target, Steps p.tables e below (s₁.setTop (mkF m 59 #[.val (.ref r0), .val (.int (2 : Int32)), .val (.int p2), .unset, .unset, .unset] [(.int (2 : Int32))])) target → Steps p.tables e below (s₁.setTop (mkF m 58 #[.val (.ref r0), .val (.int (2 : Int32)), .val (.int p2), .unset, .unset, .unset] [])) target := by
        intro target kt
        refine XS.iloadN X0.here hx rfl (hb hby d2_58) rfl ?_
        exact kt
      obtain ⟨T13, h13, k13, X13, e13, E13, A13, st13⟩ := newP X0 hx hZ (hw _ (List.mem_of_getElem? (i := 47) rfl)) e0 (g := (mkF m 59 #[.val (.ref r0), .val (.int (2 : Int32)), .val (.int p2), .unset, .unset, .unset] [(.int (2 : Int32))])) rfl (hb hby d2_59) rfl (by decide) (cap := 2) (by decide) (by decide) (by decide) (by decide)
      obtain ⟨y, g13⟩ : ∃ z, z = h0.size := ⟨_, rfl⟩
      rw [← g13] at A13 st13
      have g_y : n0 ≤ y := Nat.le_trans Z0 (Nat.le_of_eq g13.symm)
      have sz_y : h0.size ≤ y := Nat.le_trans Kp.1 (Nat.le_of_eq g13.symm)
      have ne_r0_y : r0 ≠ y := Nat.ne_of_lt (Nat.lt_of_lt_of_le Vv.lt (Nat.le_of_eq g13.symm))
      have Vv_13 := Vv.ext E13
      have Z_13 : n0 ≤ h13.size := Nat.le_trans Z0 E13.1
      have Kp_13 : Keep h0 h13 [] := Kp.ext E13
      have V_y : Arv Z h13 y k13 .char (2 : Int32) [(.int (0 : Int32)), (.int (0 : Int32))] (.int (0 : Int32)) := (Arv.new A13 (by decide)).pad (pad_rep [] (.int (0 : Int32)) 2)
      have st14 : ∀ target, Steps p.tables e below (T13.setTop (mkF m 79 #[.val (.ref r0), .val (.int (2 : Int32)), .val (.int p2), .unset, .val (.ref y), .val (.int (0 : Int32))] [(.int (0 : Int32)), (.ref r0), (.int (0 : Int32)), (.ref y)])) target → Steps p.tables e below (T13.setTop (mkF m 61 #[.val (.ref r0), .val (.int (2 : Int32)), .val (.int p2), .unset, .unset, .unset] [(.ref y)])) target := by
        intro target kt
        refine XS.astore X13.here hx rfl (hb hby d2_61) rfl rfl (l' := #[.val (.ref r0), .val (.int (2 : Int32)), .val (.int p2), .unset, .val (.ref y), .unset]) rfl ?_
        refine XS.iconst X13.here hx rfl (hb hby d2_63) ?_
        refine XS.istore X13.here hx rfl (hb hby d2_64) rfl (l' := #[.val (.ref r0), .val (.int (2 : Int32)), .val (.int p2), .unset, .val (.ref y), .val (.int (0 : Int32))]) rfl ?_
        refine XS.iload X13.here hx rfl (hb hby d2_66) rfl ?_
        refine XS.iloadN X13.here hx rfl (hb hby d2_68) rfl ?_
        show Steps p.tables e below (T13.setTop (mkF m 69 #[.val (.ref r0), .val (.int (2 : Int32)), .val (.int p2), .unset, .val (.ref y), .val (.int (0 : Int32))] [(.int (2 : Int32)), (.int (0 : Int32))])) _
        refine XS.icmpNo X13.here hx rfl (hb hby d2_69) rfl (tlt (by decide : ((0 : Int32) < (2 : Int32)))).2.1 ?_
        refine XS.aload X13.here hx rfl (hb hby d2_72) rfl rfl ?_
        refine XS.iload X13.here hx rfl (hb hby d2_74) rfl ?_
        refine XS.aloadN X13.here hx rfl (hb hby d2_76) rfl rfl ?_
        refine XS.iload X13.here hx rfl (hb hby d2_77) rfl ?_
        exact kt
      obtain ⟨cl15, Ar15, qc15, Sz15, Mn15, Hs15, Gs15⟩ := id Vv_13
      have hin15 : ¬ ((0 : Int32) < 0 ∨ cl15.slots.size ≤ ((0 : Int32)).toNatClampNeg) := inb_of Sz15 ⟨by decide, by decide⟩
      have hat15 : cl15.slots[((0 : Int32)).toNatClampNeg]? = some (.int w0) := Hs15.at hin15 rfl
      have st15 : ∀ target, Steps p.tables e below (T13.setTop (mkF m 80 #[.val (.ref r0), .val (.int (2 : Int32)), .val (.int p2), .unset, .val (.ref y), .val (.int (0 : Int32))] [(.int w0), (.int (0 : Int32)), (.ref y)])) target → Steps p.tables e below (T13.setTop (mkF m 79 #[.val (.ref r0), .val (.int (2 : Int32)), .val (.int p2), .unset, .val (.ref y), .val (.int (0 : Int32))] [(.int (0 : Int32)), (.ref r0), (.int (0 : Int32)), (.ref y)])) target := fun target kt => X13.iaload hx (j := (0 : Int32)) (v := (.int w0)) (by rw [e13]; exact Ar15.1) (State.isArrayOf_alike hZ.alike Ar15.2.1) Ar15.2.2 hin15 hat15 (g := (mkF m 79 #[.val (.ref r0), .val (.int (2 : Int32)), .val (.int p2), .unset, .val (.ref y), .val (.int (0 : Int32))] [(.int (0 : Int32)), (.ref r0), (.int (0 : Int32)), (.ref y)])) rfl rfl (hb hby d2_79) _ kt
      have st16 : ∀ target, Steps p.tables e below (T13.setTop (mkF m 81 #[.val (.ref r0), .val (.int (2 : Int32)), .val (.int p2), .unset, .val (.ref y), .val (.int (0 : Int32))] [(.int (w0.toUInt32.toUInt16.toUInt32.toInt32)), (.int (0 : Int32)), (.ref y)])) target → Steps p.tables e below (T13.setTop (mkF m 80 #[.val (.ref r0), .val (.int (2 : Int32)), .val (.int p2), .unset, .val (.ref y), .val (.int (0 : Int32))] [(.int w0), (.int (0 : Int32)), (.ref y)])) target := by
        intro target kt
        refine XS.i2c X13.here hx rfl (hb hby d2_80) rfl ?_
        exact kt
      obtain ⟨cl17, Ar17, qc17, Sz17, Mn17, Hs17, Gs17⟩ := id V_y
      have hin17 : ¬ ((0 : Int32) < 0 ∨ cl17.slots.size ≤ ((0 : Int32)).toNatClampNeg) := inb_of Sz17 ⟨by decide, by decide⟩
      obtain ⟨T17, h17, X17, e17, W17, st17⟩ := stC X13 hx hZ e13 Ar17 (j := (0 : Int32)) hin17 (g := (mkF m 81 #[.val (.ref r0), .val (.int (2 : Int32)), .val (.int p2), .unset, .val (.ref y), .val (.int (0 : Int32))] [(.int (w0.toUInt32.toUInt16.toUInt32.toInt32)), (.int (0 : Int32)), (.ref y)])) rfl rfl (hb hby d2_81)
      have V_y_17 : Arv Z h17 y k13 .char (2 : Int32) [(.int (nar .char (w0.toUInt32.toUInt16.toUInt32.toInt32))), (.int (0 : Int32))] (.int (0 : Int32)) := Arv.set Ar17 qc17 Sz17 Mn17 Hs17 Gs17 (fits_nar_char _) W17 0 rfl (Nat.le_of_ble_eq_true rfl)
      have Vv_17 := Vv_13.other W17 ne_r0_y
      have Z_17 : n0 ≤ h17.size := Nat.le_trans Z_13 (Keep.of_wr W17).1
      have Kp_17 : Keep h0 h17 [] := Kp_13.wr W17 (Or.inr sz_y)
      have N17 := Fr.snoc X17 N0 g_y
      have st18 : ∀ target, Steps p.tables e below (T17.setTop (mkF m 79 #[.val (.ref r0), .val (.int (2 : Int32)), .val (.int p2), .unset, .val (.ref y), .val (.int (1 : Int32))] [(.int (1 : Int32)), (.ref r0), (.int (1 : Int32)), (.ref y)])) target → Steps p.tables e below (T17.setTop (mkF m 82 #[.val (.ref r0), .val (.int (2 : Int32)), .val (.int p2), .unset, .val (.ref y), .val (.int (0 : Int32))] [])) target := by
        intro target kt
        refine XS.iinc X17.here hx rfl (hb hby d2_82) rfl (l' := #[.val (.ref r0), .val (.int (2 : Int32)), .val (.int p2), .unset, .val (.ref y), .val (.int (1 : Int32))]) rfl ?_
        refine XS.goto X17.here hx rfl (pc0 := 85) (pc' := 66) rfl (hb hby d2_85) (by decide) (by decide) ?_
        show Steps p.tables e below (T17.setTop (mkF m 66 #[.val (.ref r0), .val (.int (2 : Int32)), .val (.int p2), .unset, .val (.ref y), .val (.int (1 : Int32))] [])) _
        refine XS.iload X17.here hx rfl (hb hby d2_66) rfl ?_
        refine XS.iloadN X17.here hx rfl (hb hby d2_68) rfl ?_
        refine XS.icmpNo X17.here hx rfl (hb hby d2_69) rfl (tlt (by decide : ((1 : Int32) < (2 : Int32)))).2.1 ?_
        refine XS.aload X17.here hx rfl (hb hby d2_72) rfl rfl ?_
        refine XS.iload X17.here hx rfl (hb hby d2_74) rfl ?_
        refine XS.aloadN X17.here hx rfl (hb hby d2_76) rfl rfl ?_
        refine XS.iload X17.here hx rfl (hb hby d2_77) rfl ?_
        exact kt
      obtain ⟨cl19, Ar19, qc19, Sz19, Mn19, Hs19, Gs19⟩ := id Vv_17
      have hin19 : ¬ ((1 : Int32) < 0 ∨ cl19.slots.size ≤ ((1 : Int32)).toNatClampNeg) := inb_of Sz19 ⟨by decide, by decide⟩
      have hat19 : cl19.slots[((1 : Int32)).toNatClampNeg]? = some (.int w1) := Hs19.at hin19 rfl
      have st19 : ∀ target, Steps p.tables e below (T17.setTop (mkF m 80 #[.val (.ref r0), .val (.int (2 : Int32)), .val (.int p2), .unset, .val (.ref y), .val (.int (1 : Int32))] [(.int w1), (.int (1 : Int32)), (.ref y)])) target → Steps p.tables e below (T17.setTop (mkF m 79 #[.val (.ref r0), .val (.int (2 : Int32)), .val (.int p2), .unset, .val (.ref y), .val (.int (1 : Int32))] [(.int (1 : Int32)), (.ref r0), (.int (1 : Int32)), (.ref y)])) target := fun target kt => X17.iaload hx (j := (1 : Int32)) (v := (.int w1)) (by rw [e17]; exact Ar19.1) (State.isArrayOf_alike hZ.alike Ar19.2.1) Ar19.2.2 hin19 hat19 (g := (mkF m 79 #[.val (.ref r0), .val (.int (2 : Int32)), .val (.int p2), .unset, .val (.ref y), .val (.int (1 : Int32))] [(.int (1 : Int32)), (.ref r0), (.int (1 : Int32)), (.ref y)])) rfl rfl (hb hby d2_79) _ kt
      have st20 : ∀ target, Steps p.tables e below (T17.setTop (mkF m 81 #[.val (.ref r0), .val (.int (2 : Int32)), .val (.int p2), .unset, .val (.ref y), .val (.int (1 : Int32))] [(.int (w1.toUInt32.toUInt16.toUInt32.toInt32)), (.int (1 : Int32)), (.ref y)])) target → Steps p.tables e below (T17.setTop (mkF m 80 #[.val (.ref r0), .val (.int (2 : Int32)), .val (.int p2), .unset, .val (.ref y), .val (.int (1 : Int32))] [(.int w1), (.int (1 : Int32)), (.ref y)])) target := by
        intro target kt
        refine XS.i2c X17.here hx rfl (hb hby d2_80) rfl ?_
        exact kt
      obtain ⟨cl21, Ar21, qc21, Sz21, Mn21, Hs21, Gs21⟩ := id V_y_17
      have hin21 : ¬ ((1 : Int32) < 0 ∨ cl21.slots.size ≤ ((1 : Int32)).toNatClampNeg) := inb_of Sz21 ⟨by decide, by decide⟩
      obtain ⟨T21, h21, X21, e21, W21, st21⟩ := stC X17 hx hZ e17 Ar21 (j := (1 : Int32)) hin21 (g := (mkF m 81 #[.val (.ref r0), .val (.int (2 : Int32)), .val (.int p2), .unset, .val (.ref y), .val (.int (1 : Int32))] [(.int (w1.toUInt32.toUInt16.toUInt32.toInt32)), (.int (1 : Int32)), (.ref y)])) rfl rfl (hb hby d2_81)
      have V_y_21 : Arv Z h21 y k13 .char (2 : Int32) [(.int (nar .char (w0.toUInt32.toUInt16.toUInt32.toInt32))), (.int (nar .char (w1.toUInt32.toUInt16.toUInt32.toInt32)))] (.int (0 : Int32)) := Arv.set Ar21 qc21 Sz21 Mn21 Hs21 Gs21 (fits_nar_char _) W21 1 rfl (Nat.le_of_ble_eq_true rfl)
      have Vv_21 := Vv_17.other W21 ne_r0_y
      have Z_21 : n0 ≤ h21.size := Nat.le_trans Z_17 (Keep.of_wr W21).1
      have Kp_21 : Keep h0 h21 [] := Kp_17.wr W21 (Or.inr sz_y)
      have N21 := Fr.snoc X21 N17 g_y
      have st22 : ∀ target, Steps p.tables e below (T21.setTop (mkF m 88 #[.val (.ref r0), .val (.int (2 : Int32)), .val (.int p2), .unset, .val (.ref y), .val (.int (2 : Int32))] [])) target → Steps p.tables e below (T21.setTop (mkF m 82 #[.val (.ref r0), .val (.int (2 : Int32)), .val (.int p2), .unset, .val (.ref y), .val (.int (1 : Int32))] [])) target := by
        intro target kt
        show Steps p.tables e below (T21.setTop (mkF m 82 #[.val (.ref r0), .val (.int (2 : Int32)), .val (.int p2), .unset, .val (.ref y), .val (.int (1 : Int32))] [])) _
        refine XS.iinc X21.here hx rfl (hb hby d2_82) rfl (l' := #[.val (.ref r0), .val (.int (2 : Int32)), .val (.int p2), .unset, .val (.ref y), .val (.int (2 : Int32))]) rfl ?_
        refine XS.goto X21.here hx rfl (pc0 := 85) (pc' := 66) rfl (hb hby d2_85) (by decide) (by decide) ?_
        refine XS.iload X21.here hx rfl (hb hby d2_66) rfl ?_
        refine XS.iloadN X21.here hx rfl (hb hby d2_68) rfl ?_
        refine XS.icmpYes X21.here hx rfl (pc0 := 69) (pc' := 88) rfl (hb hby d2_69) rfl (flt (by decide : ¬ ((2 : Int32) < (2 : Int32)))).2.1 (by decide) (by decide) ?_
        exact kt
      obtain ⟨T23, h23, X23, e23, E23, A23, D23, -, st23⟩ := newO X21 hx hZ hown (hw _ (List.mem_of_getElem? (i := 11) rfl)) (hw _ (List.mem_of_getElem? (i := 12) rfl)) (hw _ (List.mem_of_getElem? (i := 8) rfl)) e21 (g := (mkF m 88 #[.val (.ref r0), .val (.int (2 : Int32)), .val (.int p2), .unset, .val (.ref y), .val (.int (2 : Int32))] [])) rfl (hb hby d2_88) (by decide) (by decide)
      obtain ⟨b, g23⟩ : ∃ z, z = h21.size := ⟨_, rfl⟩
      rw [← g23] at A23 D23 st23
      have g_b : n0 ≤ b := Nat.le_trans Z_21 (Nat.le_of_eq g23.symm)
      have sz_b : h0.size ≤ b := Nat.le_trans Kp_21.1 (Nat.le_of_eq g23.symm)
      have ne_r0_b : r0 ≠ b := Nat.ne_of_lt (Nat.lt_of_lt_of_le Vv_21.lt (Nat.le_of_eq g23.symm))
      have ne_y_b : y ≠ b := Nat.ne_of_lt (Nat.lt_of_lt_of_le V_y_21.lt (Nat.le_of_eq g23.symm))
      have Vv_23 := Vv_21.ext E23
      have V_y_23 := V_y_21.ext E23
      have Z_23 : n0 ≤ h23.size := Nat.le_trans Z_21 E23.1
      have Kp_23 : Keep h0 h23 [] := Kp_21.ext E23
      have E_b : Exa Z h23 b "com/example/libbisim/libbisim/CompactInts" := A23
      have F_bytes_b : Fld Z h23 b "com/example/libbisim/libbisim/CompactInts" "bytes" "[B" .null := D23 (Or.inr (hw _ (List.mem_of_getElem? (i := 20) rfl))) (ty := (.array .byte)) (by decide)
      have F_chars_b : Fld Z h23 b "com/example/libbisim/libbisim/CompactInts" "chars" "[C" .null := D23 (Or.inr (hw _ (List.mem_of_getElem? (i := 22) rfl))) (ty := (.array .char)) (by decide)
      have F_ints_b : Fld Z h23 b "com/example/libbisim/libbisim/CompactInts" "ints" "[I" .null := D23 (Or.inr (hw _ (List.mem_of_getElem? (i := 24) rfl))) (ty := (.array .int)) (by decide)
      have st24 : ∀ target, Steps p.tables e below (T23.setTop (mkF m 96 #[.val (.ref r0), .val (.int (2 : Int32)), .val (.int p2), .unset, .val (.ref y), .val (.int (2 : Int32))] [.null, (.ref y), .null, (.ref b), (.ref b)])) target → Steps p.tables e below (T23.setTop (mkF m 91 #[.val (.ref r0), .val (.int (2 : Int32)), .val (.int p2), .unset, .val (.ref y), .val (.int (2 : Int32))] [(.ref b)])) target := by
        intro target kt
        refine XS.dup X23.here hx rfl (hb hby d2_91) rfl rfl ?_
        refine XS.aconstNull X23.here hx rfl (hb hby d2_92) ?_
        refine XS.aload X23.here hx rfl (hb hby d2_93) rfl rfl ?_
        show Steps p.tables e below (T23.setTop (mkF m 95 #[.val (.ref r0), .val (.int (2 : Int32)), .val (.int p2), .unset, .val (.ref y), .val (.int (2 : Int32))] [(.ref y), .null, (.ref b), (.ref b)])) _
        refine XS.aconstNull X23.here hx rfl (hb hby d2_95) ?_
        exact kt
      obtain ⟨_, _, ⟨T25, L25, k25, n25⟩, -, X25, ⟨Lc25, hQ25, l25, y25, z25⟩, st25⟩ := X23.specialBack hx (y := (⟨"com/example/libbisim/libbisim/CompactInts", "<init>", "([B[C[I)V"⟩ : MethodName)) rfl hown (mvT hZ (hw _ (List.mem_of_getElem? (i := 13) rfl))) (mvT hZ (hw _ (List.mem_of_getElem? (i := 14) rfl))) (mvT hZ (hw _ (List.mem_of_getElem? (i := 15) rfl))) (by decide) (backOf (W := 1) (rmI2 l Z a0 hw [] b y  h23 n0 Z_23 F_bytes_b F_chars_b F_ints_b E_b g_b) hZ (hw _ (List.mem_of_getElem? (i := 15) rfl)) (hw _ (List.mem_of_getElem? (i := 8) rfl)) (by decide) (by decide)) (g := (mkF m 96 #[.val (.ref r0), .val (.int (2 : Int32)), .val (.int p2), .unset, .val (.ref y), .val (.int (2 : Int32))] [.null, (.ref y), .null, (.ref b), (.ref b)])) rfl (by rw [hml]; rfl) (Steps.refl _) (a := b) (argsL := [.null, (.ref y), .null]) (rest := [(.ref b)]) (lenOf pd_2 rfl) rfl (by show 2 * 0 + _ ≤ _; exact Nat.le_of_eq rfl) (hb hby d2_96) (fun _ _ => ⟨rfl, e23, (by decide : 2 + 0 ≤ _), (by decide : 5 + 0 ≤ _)⟩)
      dsimp only [Pt.U, Pt.locs, Pt.cells, Pt.slots] at X25 l25 y25 z25 st25 hQ25
      subst l25 y25 z25
      obtain ⟨rfl, Nq25, K25, E_b_i, F_bytes_b_i, F_chars_b_i, F_ints_b_i⟩ := hQ25
      have N25 := Fr.app N21 Nq25
      have Vv_25 := Vv_23.keep K25 (ninS ne_r0_b nin0)
      have V_y_25 := V_y_23.keep K25 (ninS ne_y_b nin0)
      have E_b_25 := E_b.keep K25
      have Z_25 : n0 ≤ T25.heap.size := Nat.le_trans Z_23 K25.1
      have Kp_25 : Keep h0 T25.heap [] := Kp_23.trans K25 (allS (Or.inr sz_b) (all0))
      obtain ⟨fs, hr, hrun, hended, hW, hsame⟩ := X25.leave (v := some (.ref b)) (fun h => by rw [Bd.returns] at h; cases h)
      refine ⟨_, _, pre0 _ (st1 _ (st2 _ (st3 _ (st11 _ (st12 _ (st13 _ (st14 _ (st15 _ (st16 _ (st17 _ (st18 _ (st19 _ (st20 _ (st21 _ (st22 _ (st23 _ (st24 _ (st25.trans ?_)))))))))))))))))), hrun, hended, _, _, rfl, ?_, ⟨_, rfl⟩, hW, hsame.mono (by decide) (by decide)⟩
      · refine XS.astoreN X25.here hx rfl (hb hby d2_99) rfl rfl (l' := #[.val (.ref r0), .val (.int (2 : Int32)), .val (.int p2), .val (.ref b), .val (.ref y), .val (.int (2 : Int32))]) rfl ?_
        refine XS.goto X25.here hx rfl (pc0 := 100) (pc' := 128) rfl (hb hby d2_100) (by decide) (by decide) ?_
        refine XS.aloadN X25.here hx rfl (hb hby d2_128) rfl rfl ?_
        show Steps p.tables e below (T25.setTop (mkF m 129 #[.val (.ref r0), .val (.int (2 : Int32)), .val (.int p2), .val (.ref b), .val (.ref y), .val (.int (2 : Int32))] [(.ref b)])) _
        jvm_step X25.here [X25.here.top, hx, (hb hby d2_129), X25.method', Bd.returns, Value.isRef, FieldType.isReference]
        first | (intro acts; rw [hr _ acts rfl rfl rfl]) | rw [hr _ _ rfl rfl rfl]
        exact Steps.refl _
      · show Q_rmOf2 Z r0 p2 kv w0 w1 w2 w3 h0 n0 _ T25.heap _
        exact ⟨b, rfl, N25, Kp_25, sz_b, E_b_i, Or.inr (Or.inl ⟨hc4, hc55, y, _, sz_y, F_bytes_b_i, F_chars_b_i, V_y_25⟩)⟩
  · have st26 : ∀ target, Steps p.tables e below (s₁.setTop (mkF m 7 #[.val (.ref r0), .val (.int (2 : Int32)), .val (.int p2), .unset, .unset, .unset] [])) target → Steps p.tables e below (s₁.setTop (mkF m 4 #[.val (.ref r0), .val (.int (2 : Int32)), .val (.int p2), .unset, .unset, .unset] [(.int (256 : Int32)), (.int p2)])) target := by
      intro target kt
      refine XS.icmpNo X0.here hx rfl (hb hby d2_4) rfl (flt hc4).2.2.1 ?_
      exact kt
    have st27 : ∀ target, Steps p.tables e below (s₁.setTop (mkF m 8 #[.val (.ref r0), .val (.int (2 : Int32)), .val (.int p2), .unset, .unset, .unset] [(.int (2 : Int32))])) target → Steps p.tables e below (s₁.setTop (mkF m 7 #[.val (.ref r0), .val (.int (2 : Int32)), .val (.int p2), .unset, .unset, .unset] [])) target := by
      intro target kt
      refine XS.iloadN X0.here hx rfl (hb hby d2_7) rfl ?_
      exact kt
    obtain ⟨T28, h28, k28, X28, e28, E28, A28, st28⟩ := newP X0 hx hZ (hw _ (List.mem_of_getElem? (i := 10) rfl)) e0 (g := (mkF m 8 #[.val (.ref r0), .val (.int (2 : Int32)), .val (.int p2), .unset, .unset, .unset] [(.int (2 : Int32))])) rfl (hb hby d2_8) rfl (by decide) (cap := 2) (by decide) (by decide) (by decide) (by decide)
    obtain ⟨y, g28⟩ : ∃ z, z = h0.size := ⟨_, rfl⟩
    rw [← g28] at A28 st28
    have g_y : n0 ≤ y := Nat.le_trans Z0 (Nat.le_of_eq g28.symm)
    have sz_y : h0.size ≤ y := Nat.le_trans Kp.1 (Nat.le_of_eq g28.symm)
    have ne_r0_y : r0 ≠ y := Nat.ne_of_lt (Nat.lt_of_lt_of_le Vv.lt (Nat.le_of_eq g28.symm))
    have Vv_28 := Vv.ext E28
    have Z_28 : n0 ≤ h28.size := Nat.le_trans Z0 E28.1
    have Kp_28 : Keep h0 h28 [] := Kp.ext E28
    have V_y : Arv Z h28 y k28 .byte (2 : Int32) [(.int (0 : Int32)), (.int (0 : Int32))] (.int (0 : Int32)) := (Arv.new A28 (by decide)).pad (pad_rep [] (.int (0 : Int32)) 2)
    have st29 : ∀ target, Steps p.tables e below (T28.setTop (mkF m 28 #[.val (.ref r0), .val (.int (2 : Int32)), .val (.int p2), .unset, .val (.ref y), .val (.int (0 : Int32))] [(.int (0 : Int32)), (.ref r0), (.int (0 : Int32)), (.ref y)])) target → Steps p.tables e below (T28.setTop (mkF m 10 #[.val (.ref r0), .val (.int (2 : Int32)), .val (.int p2), .unset, .unset, .unset] [(.ref y)])) target := by
      intro target kt
      refine XS.astore X28.here hx rfl (hb hby d2_10) rfl rfl (l' := #[.val (.ref r0), .val (.int (2 : Int32)), .val (.int p2), .unset, .val (.ref y), .unset]) rfl ?_
      refine XS.iconst X28.here hx rfl (hb hby d2_12) ?_
      show Steps p.tables e below (T28.setTop (mkF m 13 #[.val (.ref r0), .val (.int (2 : Int32)), .val (.int p2), .unset, .val (.ref y), .unset] [(.int (0 : Int32))])) _
      refine XS.istore X28.here hx rfl (hb hby d2_13) rfl (l' := #[.val (.ref r0), .val (.int (2 : Int32)), .val (.int p2), .unset, .val (.ref y), .val (.int (0 : Int32))]) rfl ?_
      refine XS.iload X28.here hx rfl (hb hby d2_15) rfl ?_
      refine XS.iloadN X28.here hx rfl (hb hby d2_17) rfl ?_
      refine XS.icmpNo X28.here hx rfl (hb hby d2_18) rfl (tlt (by decide : ((0 : Int32) < (2 : Int32)))).2.1 ?_
      refine XS.aload X28.here hx rfl (hb hby d2_21) rfl rfl ?_
      refine XS.iload X28.here hx rfl (hb hby d2_23) rfl ?_
      refine XS.aloadN X28.here hx rfl (hb hby d2_25) rfl rfl ?_
      refine XS.iload X28.here hx rfl (hb hby d2_26) rfl ?_
      exact kt
    obtain ⟨cl30, Ar30, qc30, Sz30, Mn30, Hs30, Gs30⟩ := id Vv_28
    have hin30 : ¬ ((0 : Int32) < 0 ∨ cl30.slots.size ≤ ((0 : Int32)).toNatClampNeg) := inb_of Sz30 ⟨by decide, by decide⟩
    have hat30 : cl30.slots[((0 : Int32)).toNatClampNeg]? = some (.int w0) := Hs30.at hin30 rfl
    have st30 : ∀ target, Steps p.tables e below (T28.setTop (mkF m 29 #[.val (.ref r0), .val (.int (2 : Int32)), .val (.int p2), .unset, .val (.ref y), .val (.int (0 : Int32))] [(.int w0), (.int (0 : Int32)), (.ref y)])) target → Steps p.tables e below (T28.setTop (mkF m 28 #[.val (.ref r0), .val (.int (2 : Int32)), .val (.int p2), .unset, .val (.ref y), .val (.int (0 : Int32))] [(.int (0 : Int32)), (.ref r0), (.int (0 : Int32)), (.ref y)])) target := fun target kt => X28.iaload hx (j := (0 : Int32)) (v := (.int w0)) (by rw [e28]; exact Ar30.1) (State.isArrayOf_alike hZ.alike Ar30.2.1) Ar30.2.2 hin30 hat30 (g := (mkF m 28 #[.val (.ref r0), .val (.int (2 : Int32)), .val (.int p2), .unset, .val (.ref y), .val (.int (0 : Int32))] [(.int (0 : Int32)), (.ref r0), (.int (0 : Int32)), (.ref y)])) rfl rfl (hb hby d2_28) _ kt
    have st31 : ∀ target, Steps p.tables e below (T28.setTop (mkF m 30 #[.val (.ref r0), .val (.int (2 : Int32)), .val (.int p2), .unset, .val (.ref y), .val (.int (0 : Int32))] [(.int (w0.toInt8.toInt32)), (.int (0 : Int32)), (.ref y)])) target → Steps p.tables e below (T28.setTop (mkF m 29 #[.val (.ref r0), .val (.int (2 : Int32)), .val (.int p2), .unset, .val (.ref y), .val (.int (0 : Int32))] [(.int w0), (.int (0 : Int32)), (.ref y)])) target := by
      intro target kt
      show Steps p.tables e below (T28.setTop (mkF m 29 #[.val (.ref r0), .val (.int (2 : Int32)), .val (.int p2), .unset, .val (.ref y), .val (.int (0 : Int32))] [(.int w0), (.int (0 : Int32)), (.ref y)])) _
      refine XS.i2b X28.here hx rfl (hb hby d2_29) rfl ?_
      exact kt
    obtain ⟨cl32, Ar32, qc32, Sz32, Mn32, Hs32, Gs32⟩ := id V_y
    have hin32 : ¬ ((0 : Int32) < 0 ∨ cl32.slots.size ≤ ((0 : Int32)).toNatClampNeg) := inb_of Sz32 ⟨by decide, by decide⟩
    obtain ⟨T32, h32, X32, e32, W32, st32⟩ := stB X28 hx hZ e28 Ar32 (j := (0 : Int32)) hin32 (g := (mkF m 30 #[.val (.ref r0), .val (.int (2 : Int32)), .val (.int p2), .unset, .val (.ref y), .val (.int (0 : Int32))] [(.int (w0.toInt8.toInt32)), (.int (0 : Int32)), (.ref y)])) rfl rfl (hb hby d2_30)
    have V_y_32 : Arv Z h32 y k28 .byte (2 : Int32) [(.int (nar .byte (w0.toInt8.toInt32))), (.int (0 : Int32))] (.int (0 : Int32)) := Arv.set Ar32 qc32 Sz32 Mn32 Hs32 Gs32 (fits_nar_byte _) W32 0 rfl (Nat.le_of_ble_eq_true rfl)
    have Vv_32 := Vv_28.other W32 ne_r0_y
    have Z_32 : n0 ≤ h32.size := Nat.le_trans Z_28 (Keep.of_wr W32).1
    have Kp_32 : Keep h0 h32 [] := Kp_28.wr W32 (Or.inr sz_y)
    have N32 := Fr.snoc X32 N0 g_y
    have st33 : ∀ target, Steps p.tables e below (T32.setTop (mkF m 28 #[.val (.ref r0), .val (.int (2 : Int32)), .val (.int p2), .unset, .val (.ref y), .val (.int (1 : Int32))] [(.int (1 : Int32)), (.ref r0), (.int (1 : Int32)), (.ref y)])) target → Steps p.tables e below (T32.setTop (mkF m 31 #[.val (.ref r0), .val (.int (2 : Int32)), .val (.int p2), .unset, .val (.ref y), .val (.int (0 : Int32))] [])) target := by
      intro target kt
      refine XS.iinc X32.here hx rfl (hb hby d2_31) rfl (l' := #[.val (.ref r0), .val (.int (2 : Int32)), .val (.int p2), .unset, .val (.ref y), .val (.int (1 : Int32))]) rfl ?_
      refine XS.goto X32.here hx rfl (pc0 := 34) (pc' := 15) rfl (hb hby d2_34) (by decide) (by decide) ?_
      refine XS.iload X32.here hx rfl (hb hby d2_15) rfl ?_
      refine XS.iloadN X32.here hx rfl (hb hby d2_17) rfl ?_
      refine XS.icmpNo X32.here hx rfl (hb hby d2_18) rfl (tlt (by decide : ((1 : Int32) < (2 : Int32)))).2.1 ?_
      refine XS.aload X32.here hx rfl (hb hby d2_21) rfl rfl ?_
      refine XS.iload X32.here hx rfl (hb hby d2_23) rfl ?_
      show Steps p.tables e below (T32.setTop (mkF m 25 #[.val (.ref r0), .val (.int (2 : Int32)), .val (.int p2), .unset, .val (.ref y), .val (.int (1 : Int32))] [(.int (1 : Int32)), (.ref y)])) _
      refine XS.aloadN X32.here hx rfl (hb hby d2_25) rfl rfl ?_
      refine XS.iload X32.here hx rfl (hb hby d2_26) rfl ?_
      exact kt
    obtain ⟨cl34, Ar34, qc34, Sz34, Mn34, Hs34, Gs34⟩ := id Vv_32
    have hin34 : ¬ ((1 : Int32) < 0 ∨ cl34.slots.size ≤ ((1 : Int32)).toNatClampNeg) := inb_of Sz34 ⟨by decide, by decide⟩
    have hat34 : cl34.slots[((1 : Int32)).toNatClampNeg]? = some (.int w1) := Hs34.at hin34 rfl
    have st34 : ∀ target, Steps p.tables e below (T32.setTop (mkF m 29 #[.val (.ref r0), .val (.int (2 : Int32)), .val (.int p2), .unset, .val (.ref y), .val (.int (1 : Int32))] [(.int w1), (.int (1 : Int32)), (.ref y)])) target → Steps p.tables e below (T32.setTop (mkF m 28 #[.val (.ref r0), .val (.int (2 : Int32)), .val (.int p2), .unset, .val (.ref y), .val (.int (1 : Int32))] [(.int (1 : Int32)), (.ref r0), (.int (1 : Int32)), (.ref y)])) target := fun target kt => X32.iaload hx (j := (1 : Int32)) (v := (.int w1)) (by rw [e32]; exact Ar34.1) (State.isArrayOf_alike hZ.alike Ar34.2.1) Ar34.2.2 hin34 hat34 (g := (mkF m 28 #[.val (.ref r0), .val (.int (2 : Int32)), .val (.int p2), .unset, .val (.ref y), .val (.int (1 : Int32))] [(.int (1 : Int32)), (.ref r0), (.int (1 : Int32)), (.ref y)])) rfl rfl (hb hby d2_28) _ kt
    have st35 : ∀ target, Steps p.tables e below (T32.setTop (mkF m 30 #[.val (.ref r0), .val (.int (2 : Int32)), .val (.int p2), .unset, .val (.ref y), .val (.int (1 : Int32))] [(.int (w1.toInt8.toInt32)), (.int (1 : Int32)), (.ref y)])) target → Steps p.tables e below (T32.setTop (mkF m 29 #[.val (.ref r0), .val (.int (2 : Int32)), .val (.int p2), .unset, .val (.ref y), .val (.int (1 : Int32))] [(.int w1), (.int (1 : Int32)), (.ref y)])) target := by
      intro target kt
      refine XS.i2b X32.here hx rfl (hb hby d2_29) rfl ?_
      exact kt
    obtain ⟨cl36, Ar36, qc36, Sz36, Mn36, Hs36, Gs36⟩ := id V_y_32
    have hin36 : ¬ ((1 : Int32) < 0 ∨ cl36.slots.size ≤ ((1 : Int32)).toNatClampNeg) := inb_of Sz36 ⟨by decide, by decide⟩
    obtain ⟨T36, h36, X36, e36, W36, st36⟩ := stB X32 hx hZ e32 Ar36 (j := (1 : Int32)) hin36 (g := (mkF m 30 #[.val (.ref r0), .val (.int (2 : Int32)), .val (.int p2), .unset, .val (.ref y), .val (.int (1 : Int32))] [(.int (w1.toInt8.toInt32)), (.int (1 : Int32)), (.ref y)])) rfl rfl (hb hby d2_30)
    have V_y_36 : Arv Z h36 y k28 .byte (2 : Int32) [(.int (nar .byte (w0.toInt8.toInt32))), (.int (nar .byte (w1.toInt8.toInt32)))] (.int (0 : Int32)) := Arv.set Ar36 qc36 Sz36 Mn36 Hs36 Gs36 (fits_nar_byte _) W36 1 rfl (Nat.le_of_ble_eq_true rfl)
    have Vv_36 := Vv_32.other W36 ne_r0_y
    have Z_36 : n0 ≤ h36.size := Nat.le_trans Z_32 (Keep.of_wr W36).1
    have Kp_36 : Keep h0 h36 [] := Kp_32.wr W36 (Or.inr sz_y)
    have N36 := Fr.snoc X36 N32 g_y
    have st37 : ∀ target, Steps p.tables e below (T36.setTop (mkF m 37 #[.val (.ref r0), .val (.int (2 : Int32)), .val (.int p2), .unset, .val (.ref y), .val (.int (2 : Int32))] [])) target → Steps p.tables e below (T36.setTop (mkF m 31 #[.val (.ref r0), .val (.int (2 : Int32)), .val (.int p2), .unset, .val (.ref y), .val (.int (1 : Int32))] [])) target := by
      intro target kt
      refine XS.iinc X36.here hx rfl (hb hby d2_31) rfl (l' := #[.val (.ref r0), .val (.int (2 : Int32)), .val (.int p2), .unset, .val (.ref y), .val (.int (2 : Int32))]) rfl ?_
      refine XS.goto X36.here hx rfl (pc0 := 34) (pc' := 15) rfl (hb hby d2_34) (by decide) (by decide) ?_
      refine XS.iload X36.here hx rfl (hb hby d2_15) rfl ?_
      refine XS.iloadN X36.here hx rfl (hb hby d2_17) rfl ?_
      refine XS.icmpYes X36.here hx rfl (pc0 := 18) (pc' := 37) rfl (hb hby d2_18) rfl (flt (by decide : ¬ ((2 : Int32) < (2 : Int32)))).2.1 (by decide) (by decide) ?_
      exact kt
    obtain ⟨T38, h38, X38, e38, E38, A38, D38, -, st38⟩ := newO X36 hx hZ hown (hw _ (List.mem_of_getElem? (i := 11) rfl)) (hw _ (List.mem_of_getElem? (i := 12) rfl)) (hw _ (List.mem_of_getElem? (i := 8) rfl)) e36 (g := (mkF m 37 #[.val (.ref r0), .val (.int (2 : Int32)), .val (.int p2), .unset, .val (.ref y), .val (.int (2 : Int32))] [])) rfl (hb hby d2_37) (by decide) (by decide)
    obtain ⟨b, g38⟩ : ∃ z, z = h36.size := ⟨_, rfl⟩
    rw [← g38] at A38 D38 st38
    have g_b : n0 ≤ b := Nat.le_trans Z_36 (Nat.le_of_eq g38.symm)
    have sz_b : h0.size ≤ b := Nat.le_trans Kp_36.1 (Nat.le_of_eq g38.symm)
    have ne_r0_b : r0 ≠ b := Nat.ne_of_lt (Nat.lt_of_lt_of_le Vv_36.lt (Nat.le_of_eq g38.symm))
    have ne_y_b : y ≠ b := Nat.ne_of_lt (Nat.lt_of_lt_of_le V_y_36.lt (Nat.le_of_eq g38.symm))
    have Vv_38 := Vv_36.ext E38
    have V_y_38 := V_y_36.ext E38
    have Z_38 : n0 ≤ h38.size := Nat.le_trans Z_36 E38.1
    have Kp_38 : Keep h0 h38 [] := Kp_36.ext E38
    have E_b : Exa Z h38 b "com/example/libbisim/libbisim/CompactInts" := A38
    have F_bytes_b : Fld Z h38 b "com/example/libbisim/libbisim/CompactInts" "bytes" "[B" .null := D38 (Or.inr (hw _ (List.mem_of_getElem? (i := 20) rfl))) (ty := (.array .byte)) (by decide)
    have F_chars_b : Fld Z h38 b "com/example/libbisim/libbisim/CompactInts" "chars" "[C" .null := D38 (Or.inr (hw _ (List.mem_of_getElem? (i := 22) rfl))) (ty := (.array .char)) (by decide)
    have F_ints_b : Fld Z h38 b "com/example/libbisim/libbisim/CompactInts" "ints" "[I" .null := D38 (Or.inr (hw _ (List.mem_of_getElem? (i := 24) rfl))) (ty := (.array .int)) (by decide)
    have st39 : ∀ target, Steps p.tables e below (T38.setTop (mkF m 45 #[.val (.ref r0), .val (.int (2 : Int32)), .val (.int p2), .unset, .val (.ref y), .val (.int (2 : Int32))] [.null, .null, (.ref y), (.ref b), (.ref b)])) target → Steps p.tables e below (T38.setTop (mkF m 40 #[.val (.ref r0), .val (.int (2 : Int32)), .val (.int p2), .unset, .val (.ref y), .val (.int (2 : Int32))] [(.ref b)])) target := by
      intro target kt
      show Steps p.tables e below (T38.setTop (mkF m 40 #[.val (.ref r0), .val (.int (2 : Int32)), .val (.int p2), .unset, .val (.ref y), .val (.int (2 : Int32))] [(.ref b)])) _
      refine XS.dup X38.here hx rfl (hb hby d2_40) rfl rfl ?_
      refine XS.aload X38.here hx rfl (hb hby d2_41) rfl rfl ?_
      refine XS.aconstNull X38.here hx rfl (hb hby d2_43) ?_
      refine XS.aconstNull X38.here hx rfl (hb hby d2_44) ?_
      exact kt
    obtain ⟨_, _, ⟨T40, L40, k40, n40⟩, -, X40, ⟨Lc40, hQ40, l40, y40, z40⟩, st40⟩ := X38.specialBack hx (y := (⟨"com/example/libbisim/libbisim/CompactInts", "<init>", "([B[C[I)V"⟩ : MethodName)) rfl hown (mvT hZ (hw _ (List.mem_of_getElem? (i := 13) rfl))) (mvT hZ (hw _ (List.mem_of_getElem? (i := 14) rfl))) (mvT hZ (hw _ (List.mem_of_getElem? (i := 15) rfl))) (by decide) (backOf (W := 1) (rmI1 l Z a0 hw [] b y  h38 n0 Z_38 F_bytes_b F_chars_b F_ints_b E_b g_b) hZ (hw _ (List.mem_of_getElem? (i := 15) rfl)) (hw _ (List.mem_of_getElem? (i := 8) rfl)) (by decide) (by decide)) (g := (mkF m 45 #[.val (.ref r0), .val (.int (2 : Int32)), .val (.int p2), .unset, .val (.ref y), .val (.int (2 : Int32))] [.null, .null, (.ref y), (.ref b), (.ref b)])) rfl (by rw [hml]; rfl) (Steps.refl _) (a := b) (argsL := [(.ref y), .null, .null]) (rest := [(.ref b)]) (lenOf pd_2 rfl) rfl (by show 2 * 0 + _ ≤ _; exact Nat.le_of_eq rfl) (hb hby d2_45) (fun _ _ => ⟨rfl, e38, (by decide : 2 + 0 ≤ _), (by decide : 5 + 0 ≤ _)⟩)
    dsimp only [Pt.U, Pt.locs, Pt.cells, Pt.slots] at X40 l40 y40 z40 st40 hQ40
    subst l40 y40 z40
    obtain ⟨rfl, Nq40, K40, E_b_i, F_bytes_b_i, F_chars_b_i, F_ints_b_i⟩ := hQ40
    have N40 := Fr.app N36 Nq40
    have Vv_40 := Vv_38.keep K40 (ninS ne_r0_b nin0)
    have V_y_40 := V_y_38.keep K40 (ninS ne_y_b nin0)
    have E_b_40 := E_b.keep K40
    have Z_40 : n0 ≤ T40.heap.size := Nat.le_trans Z_38 K40.1
    have Kp_40 : Keep h0 T40.heap [] := Kp_38.trans K40 (allS (Or.inr sz_b) (all0))
    obtain ⟨fs, hr, hrun, hended, hW, hsame⟩ := X40.leave (v := some (.ref b)) (fun h => by rw [Bd.returns] at h; cases h)
    refine ⟨_, _, pre0 _ (st1 _ (st26 _ (st27 _ (st28 _ (st29 _ (st30 _ (st31 _ (st32 _ (st33 _ (st34 _ (st35 _ (st36 _ (st37 _ (st38 _ (st39 _ (st40.trans ?_)))))))))))))))), hrun, hended, _, _, rfl, ?_, ⟨_, rfl⟩, hW, hsame.mono (by decide) (by decide)⟩
    · refine XS.astoreN X40.here hx rfl (hb hby d2_48) rfl rfl (l' := #[.val (.ref r0), .val (.int (2 : Int32)), .val (.int p2), .val (.ref b), .val (.ref y), .val (.int (2 : Int32))]) rfl ?_
      refine XS.goto X40.here hx rfl (pc0 := 49) (pc' := 128) rfl (hb hby d2_49) (by decide) (by decide) ?_
      refine XS.aloadN X40.here hx rfl (hb hby d2_128) rfl rfl ?_
      show Steps p.tables e below (T40.setTop (mkF m 129 #[.val (.ref r0), .val (.int (2 : Int32)), .val (.int p2), .val (.ref b), .val (.ref y), .val (.int (2 : Int32))] [(.ref b)])) _
      jvm_step X40.here [X40.here.top, hx, (hb hby d2_129), X40.method', Bd.returns, Value.isRef, FieldType.isReference]
      first | (intro acts; rw [hr _ acts rfl rfl rfl]) | rw [hr _ _ rfl rfl rfl]
      exact Steps.refl _
    · show Q_rmOf2 Z r0 p2 kv w0 w1 w2 w3 h0 n0 _ T40.heap _
      exact ⟨b, rfl, N40, Kp_40, sz_b, E_b_i, Or.inl ⟨hc4, y, _, sz_y, F_bytes_b_i, V_y_40⟩⟩
theorem ef_rmOf3 (m : MethodId) (x0 : Addr) (x1 : Int32) (x2 : Int32) : entryFrame m #[(.ref x0), (.int x1), (.int x2)] 6 = mkF m 0 #[.val (.ref x0), .val (.int x1), .val (.int x2), .unset, .unset, .unset] [] := by first | (simp [entryFrame, mkF, argsToLocals, Value.category]; done) | rfl
def Q_rmOf3 (Z : State) (r0 : Addr) (p2 : Int32) (kv : ClassId) (w0 : Int32) (w1 : Int32) (w2 : Int32) (w3 : Int32) (h0 : Heap) (n0 : Nat) (v : Option Value) (h : Heap) (L : List Loc) : Prop := ∃ b, v = some (.ref b) ∧ Fr n0 L ∧ Keep h0 h [] ∧ h0.size ≤ b ∧ Exa Z h b "com/example/libbisim/libbisim/CompactInts" ∧ ((¬ (256 : Int32) < p2 ∧ ∃ y k, h0.size ≤ y ∧ Fld Z h b "com/example/libbisim/libbisim/CompactInts" "bytes" "[B" (.ref y) ∧ Arv Z h y k .byte (3 : Int32) [(.int (nar .byte (w0.toInt8.toInt32))), (.int (nar .byte (w1.toInt8.toInt32))), (.int (nar .byte (w2.toInt8.toInt32)))] (.int (0 : Int32))) ∨ ((256 : Int32) < p2 ∧ ¬ (65536 : Int32) < p2 ∧ ∃ y k, h0.size ≤ y ∧ Fld Z h b "com/example/libbisim/libbisim/CompactInts" "bytes" "[B" .null ∧ Fld Z h b "com/example/libbisim/libbisim/CompactInts" "chars" "[C" (.ref y) ∧ Arv Z h y k .char (3 : Int32) [(.int (nar .char (w0.toUInt32.toUInt16.toUInt32.toInt32))), (.int (nar .char (w1.toUInt32.toUInt16.toUInt32.toInt32))), (.int (nar .char (w2.toUInt32.toUInt16.toUInt32.toInt32)))] (.int (0 : Int32))) ∨ ((65536 : Int32) < p2 ∧ Fld Z h b "com/example/libbisim/libbisim/CompactInts" "bytes" "[B" .null ∧ Fld Z h b "com/example/libbisim/libbisim/CompactInts" "chars" "[C" .null ∧ ∃ y k, h0.size ≤ y ∧ Fld Z h b "com/example/libbisim/libbisim/CompactInts" "ints" "[I" (.ref y) ∧ Arv Z h y k .int (3 : Int32) [(.int w0), (.int w1), (.int w2)] (.int (0 : Int32))))
set_option maxRecDepth 65536 in
set_option maxHeartbeats 40000000 in
theorem rmOf3 (l : Launch) (Z : State) (a0 : Array Value) (hw : ∀ d ∈ tables_1, d.before a0 Z = true) (ws : List Jvm.Cond) (r0 : Addr) (p2 : Int32) (kv : ClassId) (w0 : Int32) (w1 : Int32) (w2 : Int32) (w3 : Int32) (h0 : Heap) (n0 : Nat) (Z0 : n0 ≤ h0.size) (Vv : Arv Z h0 r0 kv .int (4 : Int32) [(.int w0), (.int w1), (.int w2), (.int w3)] (.int (0 : Int32))) :
    MetFree l (⟨"com/example/libbisim/libbisim/CompactInts", "of", "([III)Lcom/example/libbisim/libbisim/CompactInts;"⟩ : MethodName) (head1 (Jvm.Cond.code (⟨"com/example/libbisim/libbisim/CompactInts", "of", "([III)Lcom/example/libbisim/libbisim/CompactInts;"⟩ : MethodName) prog_7_method_2_code 6 (some (.object "com/example/libbisim/libbisim/CompactInts")) :: ws) ({ frames := 2, cells := 2, slots := 6, locals := 78 } : Room)) (fun a U => a = #[(.ref r0), (.int (3 : Int32)), (.int p2)] ∧ Z.Warmed39 U.vm ∧ U.heap = h0) (fun _ _ _ _ _ => True) (fun _ U o U' => ∃ v L, o = .returned v ∧ Q_rmOf3 Z r0 p2 kv w0 w1 w2 w3 h0 n0 v U'.heap L ∧ FrameEnd U o U' L ({ frames := 2, cells := 2, slots := 6, locals := 78 } : Room).cells ({ frames := 2, cells := 2, slots := 6, locals := 78 } : Room).slots) := by
  refine MetFree.of_bodySF (plainFor_of_name pn_2) hisR ?_
  intro p e s m args below meth c s₁ Bd hml0 hP hK
  obtain ⟨rfl, hZ, hh⟩ := hP
  have hx := Bd.exec
  have hby := Bd.bytes
  have hml : c.maxLocals = 6 := hml0
  have hown : s.vm.findClass "com/example/libbisim/libbisim/CompactInts" = some m.cls := findClass_of_methodNamed Bd.named
  have hnm := (name_of_methodNamed Bd.named Bd.method).1
  have X0 : Stand p l e ({ frames := 2, cells := 2, slots := 6, locals := 78 } : Room) s m #[(.ref r0), (.int (3 : Int32)), (.int p2)] below meth c s₁ [] 0 0 := Stand.of_body Bd
  have e0 : s₁.heap = h0 := by rw [← hh, Bd.state]; rfl
  have N0 := Fr.nil n0
  have pre0 : ∀ t, Steps p.tables e below (s₁.setTop (mkF m 0 #[.val (.ref r0), .val (.int (3 : Int32)), .val (.int p2), .unset, .unset, .unset] [])) t → Steps p.tables e below (s₁.setTop (entryFrame m #[(.ref r0), (.int (3 : Int32)), (.int p2)] 6)) t := fun t k => castTop (ef_rmOf3 m r0 (3 : Int32) p2) k
  have Kp : Keep h0 h0 [] := Keep.refl _ _
  have st1 : ∀ target, Steps p.tables e below (s₁.setTop (mkF m 4 #[.val (.ref r0), .val (.int (3 : Int32)), .val (.int p2), .unset, .unset, .unset] [(.int (256 : Int32)), (.int p2)])) target → Steps p.tables e below (s₁.setTop (mkF m 0 #[.val (.ref r0), .val (.int (3 : Int32)), .val (.int p2), .unset, .unset, .unset] [])) target := by
    intro target kt
    refine XS.iloadN X0.here hx rfl (hb hby d2_0) rfl ?_
    refine XS.sipush X0.here hx rfl (hb hby d2_1) ?_
    exact kt
  by_cases hc4 : (256 : Int32) < p2
  · have st2 : ∀ target, Steps p.tables e below (s₁.setTop (mkF m 52 #[.val (.ref r0), .val (.int (3 : Int32)), .val (.int p2), .unset, .unset, .unset] [])) target → Steps p.tables e below (s₁.setTop (mkF m 4 #[.val (.ref r0), .val (.int (3 : Int32)), .val (.int p2), .unset, .unset, .unset] [(.int (256 : Int32)), (.int p2)])) target := by
      intro target kt
      refine XS.icmpYes X0.here hx rfl (pc0 := 4) (pc' := 52) rfl (hb hby d2_4) rfl (tlt hc4).2.2.1 (by decide) (by decide) ?_
      exact kt
    have st3 : ∀ target, Steps p.tables e below (s₁.setTop (mkF m 55 #[.val (.ref r0), .val (.int (3 : Int32)), .val (.int p2), .unset, .unset, .unset] [(.int (65536 : Int32)), (.int p2)])) target → Steps p.tables e below (s₁.setTop (mkF m 52 #[.val (.ref r0), .val (.int (3 : Int32)), .val (.int p2), .unset, .unset, .unset] [])) target := by
      intro target kt
      refine XS.iloadN X0.here hx rfl (hb hby d2_52) rfl ?_
      refine X0.ldcInt hx hown (mvT hZ (hw _ (List.mem_of_getElem? (i := 26) rfl))) (g := (mkF m 53 #[.val (.ref r0), .val (.int (3 : Int32)), .val (.int p2), .unset, .unset, .unset] [(.int p2)])) rfl (hb hby d2_53) _ ?_
      exact kt
    by_cases hc55 : (65536 : Int32) < p2
    · have st4 : ∀ target, Steps p.tables e below (s₁.setTop (mkF m 103 #[.val (.ref r0), .val (.int (3 : Int32)), .val (.int p2), .unset, .unset, .unset] [])) target → Steps p.tables e below (s₁.setTop (mkF m 55 #[.val (.ref r0), .val (.int (3 : Int32)), .val (.int p2), .unset, .unset, .unset] [(.int (65536 : Int32)), (.int p2)])) target := by
        intro target kt
        refine XS.icmpYes X0.here hx rfl (pc0 := 55) (pc' := 103) rfl (hb hby d2_55) rfl (tlt hc55).2.2.1 (by decide) (by decide) ?_
        exact kt
      obtain ⟨T5, h5, X5, e5, E5, A5, D5, -, st5⟩ := newO X0 hx hZ hown (hw _ (List.mem_of_getElem? (i := 11) rfl)) (hw _ (List.mem_of_getElem? (i := 12) rfl)) (hw _ (List.mem_of_getElem? (i := 8) rfl)) e0 (g := (mkF m 103 #[.val (.ref r0), .val (.int (3 : Int32)), .val (.int p2), .unset, .unset, .unset] [])) rfl (hb hby d2_103) (by decide) (by decide)
      obtain ⟨b, g5⟩ : ∃ z, z = h0.size := ⟨_, rfl⟩
      rw [← g5] at A5 D5 st5
      have g_b : n0 ≤ b := Nat.le_trans Z0 (Nat.le_of_eq g5.symm)
      have sz_b : h0.size ≤ b := Nat.le_trans Kp.1 (Nat.le_of_eq g5.symm)
      have ne_r0_b : r0 ≠ b := Nat.ne_of_lt (Nat.lt_of_lt_of_le Vv.lt (Nat.le_of_eq g5.symm))
      have Vv_5 := Vv.ext E5
      have Z_5 : n0 ≤ h5.size := Nat.le_trans Z0 E5.1
      have Kp_5 : Keep h0 h5 [] := Kp.ext E5
      have E_b : Exa Z h5 b "com/example/libbisim/libbisim/CompactInts" := A5
      have F_bytes_b : Fld Z h5 b "com/example/libbisim/libbisim/CompactInts" "bytes" "[B" .null := D5 (Or.inr (hw _ (List.mem_of_getElem? (i := 20) rfl))) (ty := (.array .byte)) (by decide)
      have F_chars_b : Fld Z h5 b "com/example/libbisim/libbisim/CompactInts" "chars" "[C" .null := D5 (Or.inr (hw _ (List.mem_of_getElem? (i := 22) rfl))) (ty := (.array .char)) (by decide)
      have F_ints_b : Fld Z h5 b "com/example/libbisim/libbisim/CompactInts" "ints" "[I" .null := D5 (Or.inr (hw _ (List.mem_of_getElem? (i := 24) rfl))) (ty := (.array .int)) (by decide)
      have st6 : ∀ target, Steps p.tables e below (T5.setTop (mkF m 110 #[.val (.ref r0), .val (.int (3 : Int32)), .val (.int p2), .unset, .unset, .unset] [(.ref r0), .null, .null, (.ref b), (.ref b)])) target → Steps p.tables e below (T5.setTop (mkF m 106 #[.val (.ref r0), .val (.int (3 : Int32)), .val (.int p2), .unset, .unset, .unset] [(.ref b)])) target := by
        intro target kt
        refine XS.dup X5.here hx rfl (hb hby d2_106) rfl rfl ?_
        show Steps p.tables e below (T5.setTop (mkF m 107 #[.val (.ref r0), .val (.int (3 : Int32)), .val (.int p2), .unset, .unset, .unset] [(.ref b), (.ref b)])) _
        refine XS.aconstNull X5.here hx rfl (hb hby d2_107) ?_
        refine XS.aconstNull X5.here hx rfl (hb hby d2_108) ?_
        refine XS.aloadN X5.here hx rfl (hb hby d2_109) rfl rfl ?_
        exact kt
      obtain ⟨cl7, Ar7, qc7, Sz7, Mn7, Hs7, Gs7⟩ := id Vv_5
      have st7 : ∀ target, Steps p.tables e below (T5.setTop (mkF m 111 #[.val (.ref r0), .val (.int (3 : Int32)), .val (.int p2), .unset, .unset, .unset] [(.int (4 : Int32)), .null, .null, (.ref b), (.ref b)])) target → Steps p.tables e below (T5.setTop (mkF m 110 #[.val (.ref r0), .val (.int (3 : Int32)), .val (.int p2), .unset, .unset, .unset] [(.ref r0), .null, .null, (.ref b), (.ref b)])) target := fun target kt => X5.arraylength hx (cell := cl7) (by rw [e5]; exact Ar7.1) (State.isArrayOf_alike hZ.alike Ar7.2.1) (g := (mkF m 110 #[.val (.ref r0), .val (.int (3 : Int32)), .val (.int p2), .unset, .unset, .unset] [(.ref r0), .null, .null, (.ref b), (.ref b)])) rfl rfl (hb hby d2_110) _ (by rw [len_of Sz7 Mn7]; exact kt)
      have st8 : ∀ target, Steps p.tables e below (T5.setTop (mkF m 121 #[.val (.ref r0), .val (.int (3 : Int32)), .val (.int p2), .unset, .unset, .unset] [(.int (3 : Int32)), (.ref r0), .null, .null, (.ref b), (.ref b)])) target → Steps p.tables e below (T5.setTop (mkF m 111 #[.val (.ref r0), .val (.int (3 : Int32)), .val (.int p2), .unset, .unset, .unset] [(.int (4 : Int32)), .null, .null, (.ref b), (.ref b)])) target := by
        intro target kt
        refine XS.iloadN X5.here hx rfl (hb hby d2_111) rfl ?_
        refine XS.icmpYes X5.here hx rfl (pc0 := 112) (pc' := 119) rfl (hb hby d2_112) rfl (feq (by decide : ¬ ((4 : Int32) = (3 : Int32)))).2 (by decide) (by decide) ?_
        refine XS.aloadN X5.here hx rfl (hb hby d2_119) rfl rfl ?_
        refine XS.iloadN X5.here hx rfl (hb hby d2_120) rfl ?_
        exact kt
      obtain ⟨_, _, ⟨T9, L9, k9, n9⟩, -, X9, ⟨Lc9, hQ9, l9, y9, z9⟩, st9⟩ := Jvm.LawKit.callS X5 hx (y := (⟨"java/util/Arrays", "copyOf", "([II)[I"⟩ : MethodName)) hown (mvT hZ (hw _ (List.mem_of_getElem? (i := 27) rfl))) (mvT hZ (hw _ (List.mem_of_getElem? (i := 28) rfl))) (mvT hZ (hw _ (List.mem_of_getElem? (i := 29) rfl))) (mvT hZ (hw _ (List.mem_of_getElem? (i := 30) rfl))) (by decide) (backOf (W := 4) (rmCO3 l Z a0 hw [] r0 kv w0 w1 w2 w3 h5 n0 Z_5 Vv_5) hZ (hw _ (List.mem_of_getElem? (i := 30) rfl)) (hw _ (List.mem_of_getElem? (i := 29) rfl)) (by decide) (by decide)) (g := (mkF m 121 #[.val (.ref r0), .val (.int (3 : Int32)), .val (.int p2), .unset, .unset, .unset] [(.int (3 : Int32)), (.ref r0), .null, .null, (.ref b), (.ref b)])) rfl (by rw [hml]; rfl) (argsL := [(.ref r0), (.int (3 : Int32))]) (rest := [.null, .null, (.ref b), (.ref b)]) (lenOf pd_4 rfl) rfl (by show 2 * 0 + _ ≤ _; exact Nat.le_of_eq rfl) (hb hby d2_121) (fun _ _ => ⟨rfl, e5, (by decide : 1 + 1 ≤ _), (by decide : 3 + 3 ≤ _)⟩)
      dsimp only [Pt.U, Pt.locs, Pt.cells, Pt.slots] at X9 l9 y9 z9 st9 hQ9
      subst l9 y9 z9
      obtain ⟨y9, rfl, Nq9, K9, sz9, ky, Vy⟩ := hQ9
      have N9 := Fr.app N0 Nq9
      have g_y9 : n0 ≤ y9 := Nat.le_trans Z_5 sz9
      have sz_y9 : h0.size ≤ y9 := Nat.le_trans Kp_5.1 sz9
      have ne_r0_y9 : r0 ≠ y9 := Nat.ne_of_lt (Nat.lt_of_lt_of_le Vv_5.lt sz9)
      have ne_b_y9 : b ≠ y9 := Nat.ne_of_lt (Nat.lt_of_lt_of_le E_b.lt sz9)
      have Vv_9 := Vv_5.keep K9 nin0
      have E_b_9 := E_b.keep K9
      have F_bytes_b_9 := F_bytes_b.keep K9 nin0
      have F_chars_b_9 := F_chars_b.keep K9 nin0
      have F_ints_b_9 := F_ints_b.keep K9 nin0
      have Z_9 : n0 ≤ T9.heap.size := Nat.le_trans Z_5 K9.1
      have Kp_9 : Keep h0 T9.heap [] := Kp_5.trans K9 (all0)
      obtain ⟨_, _, ⟨T10, L10, k10, n10⟩, -, X10, ⟨Lc10, hQ10, l10, y10, z10⟩, st10⟩ := X9.specialBack hx (y := (⟨"com/example/libbisim/libbisim/CompactInts", "<init>", "([B[C[I)V"⟩ : MethodName)) rfl hown (mvT hZ (hw _ (List.mem_of_getElem? (i := 13) rfl))) (mvT hZ (hw _ (List.mem_of_getElem? (i := 14) rfl))) (mvT hZ (hw _ (List.mem_of_getElem? (i := 15) rfl))) (by decide) (backOf (W := 1) (rmI3 l Z a0 hw [] b y9  T9.heap n0 Z_9 F_bytes_b_9 F_chars_b_9 F_ints_b_9 E_b_9 g_b) hZ (hw _ (List.mem_of_getElem? (i := 15) rfl)) (hw _ (List.mem_of_getElem? (i := 8) rfl)) (by decide) (by decide)) (g := (mkF m 124 #[.val (.ref r0), .val (.int (3 : Int32)), .val (.int p2), .unset, .unset, .unset] [(.ref y9), .null, .null, (.ref b), (.ref b)])) rfl (by rw [hml]; rfl) (Steps.refl _) (a := b) (argsL := [.null, .null, (.ref y9)]) (rest := [(.ref b)]) (lenOf pd_2 rfl) rfl (by show 2 * 0 + _ ≤ _; exact Nat.le_of_eq rfl) (hb hby d2_124) (fun _ _ => ⟨rfl, rfl, (by decide : 2 + 0 ≤ _), (by decide : 6 + 0 ≤ _)⟩)
      dsimp only [Pt.U, Pt.locs, Pt.cells, Pt.slots] at X10 l10 y10 z10 st10 hQ10
      subst l10 y10 z10
      obtain ⟨rfl, Nq10, K10, E_b_i, F_bytes_b_i, F_chars_b_i, F_ints_b_i⟩ := hQ10
      have N10 := Fr.app N9 Nq10
      have Vv_10 := Vv_9.keep K10 (ninS ne_r0_b nin0)
      have E_b_10 := E_b_9.keep K10
      have Vy_10 := Vy.keep K10 (ninS (Ne.symm ne_b_y9) nin0)
      have Z_10 : n0 ≤ T10.heap.size := Nat.le_trans Z_9 K10.1
      have Kp_10 : Keep h0 T10.heap [] := Kp_9.trans K10 (allS (Or.inr sz_b) (all0))
      obtain ⟨fs, hr, hrun, hended, hW, hsame⟩ := X10.leave (v := some (.ref b)) (fun h => by rw [Bd.returns] at h; cases h)
      refine ⟨_, _, pre0 _ (st1 _ (st2 _ (st3 _ (st4 _ (st5 _ (st6 _ (st7 _ (st8 _ (st9 _ (st10.trans ?_)))))))))), hrun, hended, _, _, rfl, ?_, ⟨_, rfl⟩, hW, hsame.mono (by decide) (by decide)⟩
      · refine XS.astoreN X10.here hx rfl (hb hby d2_127) rfl rfl (l' := #[.val (.ref r0), .val (.int (3 : Int32)), .val (.int p2), .val (.ref b), .unset, .unset]) rfl ?_
        show Steps p.tables e below (T10.setTop (mkF m 128 #[.val (.ref r0), .val (.int (3 : Int32)), .val (.int p2), .val (.ref b), .unset, .unset] [])) _
        refine XS.aloadN X10.here hx rfl (hb hby d2_128) rfl rfl ?_
        show Steps p.tables e below (T10.setTop (mkF m 129 #[.val (.ref r0), .val (.int (3 : Int32)), .val (.int p2), .val (.ref b), .unset, .unset] [(.ref b)])) _
        jvm_step X10.here [X10.here.top, hx, (hb hby d2_129), X10.method', Bd.returns, Value.isRef, FieldType.isReference]
        first | (intro acts; rw [hr _ acts rfl rfl rfl]) | rw [hr _ _ rfl rfl rfl]
        exact Steps.refl _
      · show Q_rmOf3 Z r0 p2 kv w0 w1 w2 w3 h0 n0 _ T10.heap _
        exact ⟨b, rfl, N10, Kp_10, sz_b, E_b_i, Or.inr (Or.inr ⟨hc55, F_bytes_b_i, F_chars_b_i, y9, _, sz_y9, F_ints_b_i, Vy_10⟩)⟩
    · have st11 : ∀ target, Steps p.tables e below (s₁.setTop (mkF m 58 #[.val (.ref r0), .val (.int (3 : Int32)), .val (.int p2), .unset, .unset, .unset] [])) target → Steps p.tables e below (s₁.setTop (mkF m 55 #[.val (.ref r0), .val (.int (3 : Int32)), .val (.int p2), .unset, .unset, .unset] [(.int (65536 : Int32)), (.int p2)])) target := by
        intro target kt
        refine XS.icmpNo X0.here hx rfl (hb hby d2_55) rfl (flt hc55).2.2.1 ?_
        exact kt
      have st12 : ∀ target, Steps p.tables e below (s₁.setTop (mkF m 59 #[.val (.ref r0), .val (.int (3 : Int32)), .val (.int p2), .unset, .unset, .unset] [(.int (3 : Int32))])) target → Steps p.tables e below (s₁.setTop (mkF m 58 #[.val (.ref r0), .val (.int (3 : Int32)), .val (.int p2), .unset, .unset, .unset] [])) target := by
        intro target kt
        refine XS.iloadN X0.here hx rfl (hb hby d2_58) rfl ?_
        exact kt
      obtain ⟨T13, h13, k13, X13, e13, E13, A13, st13⟩ := newP X0 hx hZ (hw _ (List.mem_of_getElem? (i := 47) rfl)) e0 (g := (mkF m 59 #[.val (.ref r0), .val (.int (3 : Int32)), .val (.int p2), .unset, .unset, .unset] [(.int (3 : Int32))])) rfl (hb hby d2_59) rfl (by decide) (cap := 3) (by decide) (by decide) (by decide) (by decide)
      obtain ⟨y, g13⟩ : ∃ z, z = h0.size := ⟨_, rfl⟩
      rw [← g13] at A13 st13
      have g_y : n0 ≤ y := Nat.le_trans Z0 (Nat.le_of_eq g13.symm)
      have sz_y : h0.size ≤ y := Nat.le_trans Kp.1 (Nat.le_of_eq g13.symm)
      have ne_r0_y : r0 ≠ y := Nat.ne_of_lt (Nat.lt_of_lt_of_le Vv.lt (Nat.le_of_eq g13.symm))
      have Vv_13 := Vv.ext E13
      have Z_13 : n0 ≤ h13.size := Nat.le_trans Z0 E13.1
      have Kp_13 : Keep h0 h13 [] := Kp.ext E13
      have V_y : Arv Z h13 y k13 .char (3 : Int32) [(.int (0 : Int32)), (.int (0 : Int32)), (.int (0 : Int32))] (.int (0 : Int32)) := (Arv.new A13 (by decide)).pad (pad_rep [] (.int (0 : Int32)) 3)
      have st14 : ∀ target, Steps p.tables e below (T13.setTop (mkF m 79 #[.val (.ref r0), .val (.int (3 : Int32)), .val (.int p2), .unset, .val (.ref y), .val (.int (0 : Int32))] [(.int (0 : Int32)), (.ref r0), (.int (0 : Int32)), (.ref y)])) target → Steps p.tables e below (T13.setTop (mkF m 61 #[.val (.ref r0), .val (.int (3 : Int32)), .val (.int p2), .unset, .unset, .unset] [(.ref y)])) target := by
        intro target kt
        refine XS.astore X13.here hx rfl (hb hby d2_61) rfl rfl (l' := #[.val (.ref r0), .val (.int (3 : Int32)), .val (.int p2), .unset, .val (.ref y), .unset]) rfl ?_
        refine XS.iconst X13.here hx rfl (hb hby d2_63) ?_
        refine XS.istore X13.here hx rfl (hb hby d2_64) rfl (l' := #[.val (.ref r0), .val (.int (3 : Int32)), .val (.int p2), .unset, .val (.ref y), .val (.int (0 : Int32))]) rfl ?_
        refine XS.iload X13.here hx rfl (hb hby d2_66) rfl ?_
        refine XS.iloadN X13.here hx rfl (hb hby d2_68) rfl ?_
        show Steps p.tables e below (T13.setTop (mkF m 69 #[.val (.ref r0), .val (.int (3 : Int32)), .val (.int p2), .unset, .val (.ref y), .val (.int (0 : Int32))] [(.int (3 : Int32)), (.int (0 : Int32))])) _
        refine XS.icmpNo X13.here hx rfl (hb hby d2_69) rfl (tlt (by decide : ((0 : Int32) < (3 : Int32)))).2.1 ?_
        refine XS.aload X13.here hx rfl (hb hby d2_72) rfl rfl ?_
        refine XS.iload X13.here hx rfl (hb hby d2_74) rfl ?_
        refine XS.aloadN X13.here hx rfl (hb hby d2_76) rfl rfl ?_
        refine XS.iload X13.here hx rfl (hb hby d2_77) rfl ?_
        exact kt
      obtain ⟨cl15, Ar15, qc15, Sz15, Mn15, Hs15, Gs15⟩ := id Vv_13
      have hin15 : ¬ ((0 : Int32) < 0 ∨ cl15.slots.size ≤ ((0 : Int32)).toNatClampNeg) := inb_of Sz15 ⟨by decide, by decide⟩
      have hat15 : cl15.slots[((0 : Int32)).toNatClampNeg]? = some (.int w0) := Hs15.at hin15 rfl
      have st15 : ∀ target, Steps p.tables e below (T13.setTop (mkF m 80 #[.val (.ref r0), .val (.int (3 : Int32)), .val (.int p2), .unset, .val (.ref y), .val (.int (0 : Int32))] [(.int w0), (.int (0 : Int32)), (.ref y)])) target → Steps p.tables e below (T13.setTop (mkF m 79 #[.val (.ref r0), .val (.int (3 : Int32)), .val (.int p2), .unset, .val (.ref y), .val (.int (0 : Int32))] [(.int (0 : Int32)), (.ref r0), (.int (0 : Int32)), (.ref y)])) target := fun target kt => X13.iaload hx (j := (0 : Int32)) (v := (.int w0)) (by rw [e13]; exact Ar15.1) (State.isArrayOf_alike hZ.alike Ar15.2.1) Ar15.2.2 hin15 hat15 (g := (mkF m 79 #[.val (.ref r0), .val (.int (3 : Int32)), .val (.int p2), .unset, .val (.ref y), .val (.int (0 : Int32))] [(.int (0 : Int32)), (.ref r0), (.int (0 : Int32)), (.ref y)])) rfl rfl (hb hby d2_79) _ kt
      have st16 : ∀ target, Steps p.tables e below (T13.setTop (mkF m 81 #[.val (.ref r0), .val (.int (3 : Int32)), .val (.int p2), .unset, .val (.ref y), .val (.int (0 : Int32))] [(.int (w0.toUInt32.toUInt16.toUInt32.toInt32)), (.int (0 : Int32)), (.ref y)])) target → Steps p.tables e below (T13.setTop (mkF m 80 #[.val (.ref r0), .val (.int (3 : Int32)), .val (.int p2), .unset, .val (.ref y), .val (.int (0 : Int32))] [(.int w0), (.int (0 : Int32)), (.ref y)])) target := by
        intro target kt
        refine XS.i2c X13.here hx rfl (hb hby d2_80) rfl ?_
        exact kt
      obtain ⟨cl17, Ar17, qc17, Sz17, Mn17, Hs17, Gs17⟩ := id V_y
      have hin17 : ¬ ((0 : Int32) < 0 ∨ cl17.slots.size ≤ ((0 : Int32)).toNatClampNeg) := inb_of Sz17 ⟨by decide, by decide⟩
      obtain ⟨T17, h17, X17, e17, W17, st17⟩ := stC X13 hx hZ e13 Ar17 (j := (0 : Int32)) hin17 (g := (mkF m 81 #[.val (.ref r0), .val (.int (3 : Int32)), .val (.int p2), .unset, .val (.ref y), .val (.int (0 : Int32))] [(.int (w0.toUInt32.toUInt16.toUInt32.toInt32)), (.int (0 : Int32)), (.ref y)])) rfl rfl (hb hby d2_81)
      have V_y_17 : Arv Z h17 y k13 .char (3 : Int32) [(.int (nar .char (w0.toUInt32.toUInt16.toUInt32.toInt32))), (.int (0 : Int32)), (.int (0 : Int32))] (.int (0 : Int32)) := Arv.set Ar17 qc17 Sz17 Mn17 Hs17 Gs17 (fits_nar_char _) W17 0 rfl (Nat.le_of_ble_eq_true rfl)
      have Vv_17 := Vv_13.other W17 ne_r0_y
      have Z_17 : n0 ≤ h17.size := Nat.le_trans Z_13 (Keep.of_wr W17).1
      have Kp_17 : Keep h0 h17 [] := Kp_13.wr W17 (Or.inr sz_y)
      have N17 := Fr.snoc X17 N0 g_y
      have st18 : ∀ target, Steps p.tables e below (T17.setTop (mkF m 79 #[.val (.ref r0), .val (.int (3 : Int32)), .val (.int p2), .unset, .val (.ref y), .val (.int (1 : Int32))] [(.int (1 : Int32)), (.ref r0), (.int (1 : Int32)), (.ref y)])) target → Steps p.tables e below (T17.setTop (mkF m 82 #[.val (.ref r0), .val (.int (3 : Int32)), .val (.int p2), .unset, .val (.ref y), .val (.int (0 : Int32))] [])) target := by
        intro target kt
        refine XS.iinc X17.here hx rfl (hb hby d2_82) rfl (l' := #[.val (.ref r0), .val (.int (3 : Int32)), .val (.int p2), .unset, .val (.ref y), .val (.int (1 : Int32))]) rfl ?_
        refine XS.goto X17.here hx rfl (pc0 := 85) (pc' := 66) rfl (hb hby d2_85) (by decide) (by decide) ?_
        show Steps p.tables e below (T17.setTop (mkF m 66 #[.val (.ref r0), .val (.int (3 : Int32)), .val (.int p2), .unset, .val (.ref y), .val (.int (1 : Int32))] [])) _
        refine XS.iload X17.here hx rfl (hb hby d2_66) rfl ?_
        refine XS.iloadN X17.here hx rfl (hb hby d2_68) rfl ?_
        refine XS.icmpNo X17.here hx rfl (hb hby d2_69) rfl (tlt (by decide : ((1 : Int32) < (3 : Int32)))).2.1 ?_
        refine XS.aload X17.here hx rfl (hb hby d2_72) rfl rfl ?_
        refine XS.iload X17.here hx rfl (hb hby d2_74) rfl ?_
        refine XS.aloadN X17.here hx rfl (hb hby d2_76) rfl rfl ?_
        refine XS.iload X17.here hx rfl (hb hby d2_77) rfl ?_
        exact kt
      obtain ⟨cl19, Ar19, qc19, Sz19, Mn19, Hs19, Gs19⟩ := id Vv_17
      have hin19 : ¬ ((1 : Int32) < 0 ∨ cl19.slots.size ≤ ((1 : Int32)).toNatClampNeg) := inb_of Sz19 ⟨by decide, by decide⟩
      have hat19 : cl19.slots[((1 : Int32)).toNatClampNeg]? = some (.int w1) := Hs19.at hin19 rfl
      have st19 : ∀ target, Steps p.tables e below (T17.setTop (mkF m 80 #[.val (.ref r0), .val (.int (3 : Int32)), .val (.int p2), .unset, .val (.ref y), .val (.int (1 : Int32))] [(.int w1), (.int (1 : Int32)), (.ref y)])) target → Steps p.tables e below (T17.setTop (mkF m 79 #[.val (.ref r0), .val (.int (3 : Int32)), .val (.int p2), .unset, .val (.ref y), .val (.int (1 : Int32))] [(.int (1 : Int32)), (.ref r0), (.int (1 : Int32)), (.ref y)])) target := fun target kt => X17.iaload hx (j := (1 : Int32)) (v := (.int w1)) (by rw [e17]; exact Ar19.1) (State.isArrayOf_alike hZ.alike Ar19.2.1) Ar19.2.2 hin19 hat19 (g := (mkF m 79 #[.val (.ref r0), .val (.int (3 : Int32)), .val (.int p2), .unset, .val (.ref y), .val (.int (1 : Int32))] [(.int (1 : Int32)), (.ref r0), (.int (1 : Int32)), (.ref y)])) rfl rfl (hb hby d2_79) _ kt
      have st20 : ∀ target, Steps p.tables e below (T17.setTop (mkF m 81 #[.val (.ref r0), .val (.int (3 : Int32)), .val (.int p2), .unset, .val (.ref y), .val (.int (1 : Int32))] [(.int (w1.toUInt32.toUInt16.toUInt32.toInt32)), (.int (1 : Int32)), (.ref y)])) target → Steps p.tables e below (T17.setTop (mkF m 80 #[.val (.ref r0), .val (.int (3 : Int32)), .val (.int p2), .unset, .val (.ref y), .val (.int (1 : Int32))] [(.int w1), (.int (1 : Int32)), (.ref y)])) target := by
        intro target kt
        refine XS.i2c X17.here hx rfl (hb hby d2_80) rfl ?_
        exact kt
      obtain ⟨cl21, Ar21, qc21, Sz21, Mn21, Hs21, Gs21⟩ := id V_y_17
      have hin21 : ¬ ((1 : Int32) < 0 ∨ cl21.slots.size ≤ ((1 : Int32)).toNatClampNeg) := inb_of Sz21 ⟨by decide, by decide⟩
      obtain ⟨T21, h21, X21, e21, W21, st21⟩ := stC X17 hx hZ e17 Ar21 (j := (1 : Int32)) hin21 (g := (mkF m 81 #[.val (.ref r0), .val (.int (3 : Int32)), .val (.int p2), .unset, .val (.ref y), .val (.int (1 : Int32))] [(.int (w1.toUInt32.toUInt16.toUInt32.toInt32)), (.int (1 : Int32)), (.ref y)])) rfl rfl (hb hby d2_81)
      have V_y_21 : Arv Z h21 y k13 .char (3 : Int32) [(.int (nar .char (w0.toUInt32.toUInt16.toUInt32.toInt32))), (.int (nar .char (w1.toUInt32.toUInt16.toUInt32.toInt32))), (.int (0 : Int32))] (.int (0 : Int32)) := Arv.set Ar21 qc21 Sz21 Mn21 Hs21 Gs21 (fits_nar_char _) W21 1 rfl (Nat.le_of_ble_eq_true rfl)
      have Vv_21 := Vv_17.other W21 ne_r0_y
      have Z_21 : n0 ≤ h21.size := Nat.le_trans Z_17 (Keep.of_wr W21).1
      have Kp_21 : Keep h0 h21 [] := Kp_17.wr W21 (Or.inr sz_y)
      have N21 := Fr.snoc X21 N17 g_y
      have st22 : ∀ target, Steps p.tables e below (T21.setTop (mkF m 79 #[.val (.ref r0), .val (.int (3 : Int32)), .val (.int p2), .unset, .val (.ref y), .val (.int (2 : Int32))] [(.int (2 : Int32)), (.ref r0), (.int (2 : Int32)), (.ref y)])) target → Steps p.tables e below (T21.setTop (mkF m 82 #[.val (.ref r0), .val (.int (3 : Int32)), .val (.int p2), .unset, .val (.ref y), .val (.int (1 : Int32))] [])) target := by
        intro target kt
        show Steps p.tables e below (T21.setTop (mkF m 82 #[.val (.ref r0), .val (.int (3 : Int32)), .val (.int p2), .unset, .val (.ref y), .val (.int (1 : Int32))] [])) _
        refine XS.iinc X21.here hx rfl (hb hby d2_82) rfl (l' := #[.val (.ref r0), .val (.int (3 : Int32)), .val (.int p2), .unset, .val (.ref y), .val (.int (2 : Int32))]) rfl ?_
        refine XS.goto X21.here hx rfl (pc0 := 85) (pc' := 66) rfl (hb hby d2_85) (by decide) (by decide) ?_
        refine XS.iload X21.here hx rfl (hb hby d2_66) rfl ?_
        refine XS.iloadN X21.here hx rfl (hb hby d2_68) rfl ?_
        refine XS.icmpNo X21.here hx rfl (hb hby d2_69) rfl (tlt (by decide : ((2 : Int32) < (3 : Int32)))).2.1 ?_
        refine XS.aload X21.here hx rfl (hb hby d2_72) rfl rfl ?_
        refine XS.iload X21.here hx rfl (hb hby d2_74) rfl ?_
        refine XS.aloadN X21.here hx rfl (hb hby d2_76) rfl rfl ?_
        show Steps p.tables e below (T21.setTop (mkF m 77 #[.val (.ref r0), .val (.int (3 : Int32)), .val (.int p2), .unset, .val (.ref y), .val (.int (2 : Int32))] [(.ref r0), (.int (2 : Int32)), (.ref y)])) _
        refine XS.iload X21.here hx rfl (hb hby d2_77) rfl ?_
        exact kt
      obtain ⟨cl23, Ar23, qc23, Sz23, Mn23, Hs23, Gs23⟩ := id Vv_21
      have hin23 : ¬ ((2 : Int32) < 0 ∨ cl23.slots.size ≤ ((2 : Int32)).toNatClampNeg) := inb_of Sz23 ⟨by decide, by decide⟩
      have hat23 : cl23.slots[((2 : Int32)).toNatClampNeg]? = some (.int w2) := Hs23.at hin23 rfl
      have st23 : ∀ target, Steps p.tables e below (T21.setTop (mkF m 80 #[.val (.ref r0), .val (.int (3 : Int32)), .val (.int p2), .unset, .val (.ref y), .val (.int (2 : Int32))] [(.int w2), (.int (2 : Int32)), (.ref y)])) target → Steps p.tables e below (T21.setTop (mkF m 79 #[.val (.ref r0), .val (.int (3 : Int32)), .val (.int p2), .unset, .val (.ref y), .val (.int (2 : Int32))] [(.int (2 : Int32)), (.ref r0), (.int (2 : Int32)), (.ref y)])) target := fun target kt => X21.iaload hx (j := (2 : Int32)) (v := (.int w2)) (by rw [e21]; exact Ar23.1) (State.isArrayOf_alike hZ.alike Ar23.2.1) Ar23.2.2 hin23 hat23 (g := (mkF m 79 #[.val (.ref r0), .val (.int (3 : Int32)), .val (.int p2), .unset, .val (.ref y), .val (.int (2 : Int32))] [(.int (2 : Int32)), (.ref r0), (.int (2 : Int32)), (.ref y)])) rfl rfl (hb hby d2_79) _ kt
      have st24 : ∀ target, Steps p.tables e below (T21.setTop (mkF m 81 #[.val (.ref r0), .val (.int (3 : Int32)), .val (.int p2), .unset, .val (.ref y), .val (.int (2 : Int32))] [(.int (w2.toUInt32.toUInt16.toUInt32.toInt32)), (.int (2 : Int32)), (.ref y)])) target → Steps p.tables e below (T21.setTop (mkF m 80 #[.val (.ref r0), .val (.int (3 : Int32)), .val (.int p2), .unset, .val (.ref y), .val (.int (2 : Int32))] [(.int w2), (.int (2 : Int32)), (.ref y)])) target := by
        intro target kt
        refine XS.i2c X21.here hx rfl (hb hby d2_80) rfl ?_
        exact kt
      obtain ⟨cl25, Ar25, qc25, Sz25, Mn25, Hs25, Gs25⟩ := id V_y_21
      have hin25 : ¬ ((2 : Int32) < 0 ∨ cl25.slots.size ≤ ((2 : Int32)).toNatClampNeg) := inb_of Sz25 ⟨by decide, by decide⟩
      obtain ⟨T25, h25, X25, e25, W25, st25⟩ := stC X21 hx hZ e21 Ar25 (j := (2 : Int32)) hin25 (g := (mkF m 81 #[.val (.ref r0), .val (.int (3 : Int32)), .val (.int p2), .unset, .val (.ref y), .val (.int (2 : Int32))] [(.int (w2.toUInt32.toUInt16.toUInt32.toInt32)), (.int (2 : Int32)), (.ref y)])) rfl rfl (hb hby d2_81)
      have V_y_25 : Arv Z h25 y k13 .char (3 : Int32) [(.int (nar .char (w0.toUInt32.toUInt16.toUInt32.toInt32))), (.int (nar .char (w1.toUInt32.toUInt16.toUInt32.toInt32))), (.int (nar .char (w2.toUInt32.toUInt16.toUInt32.toInt32)))] (.int (0 : Int32)) := Arv.set Ar25 qc25 Sz25 Mn25 Hs25 Gs25 (fits_nar_char _) W25 2 rfl (Nat.le_of_ble_eq_true rfl)
      have Vv_25 := Vv_21.other W25 ne_r0_y
      have Z_25 : n0 ≤ h25.size := Nat.le_trans Z_21 (Keep.of_wr W25).1
      have Kp_25 : Keep h0 h25 [] := Kp_21.wr W25 (Or.inr sz_y)
      have N25 := Fr.snoc X25 N21 g_y
      have st26 : ∀ target, Steps p.tables e below (T25.setTop (mkF m 88 #[.val (.ref r0), .val (.int (3 : Int32)), .val (.int p2), .unset, .val (.ref y), .val (.int (3 : Int32))] [])) target → Steps p.tables e below (T25.setTop (mkF m 82 #[.val (.ref r0), .val (.int (3 : Int32)), .val (.int p2), .unset, .val (.ref y), .val (.int (2 : Int32))] [])) target := by
        intro target kt
        refine XS.iinc X25.here hx rfl (hb hby d2_82) rfl (l' := #[.val (.ref r0), .val (.int (3 : Int32)), .val (.int p2), .unset, .val (.ref y), .val (.int (3 : Int32))]) rfl ?_
        refine XS.goto X25.here hx rfl (pc0 := 85) (pc' := 66) rfl (hb hby d2_85) (by decide) (by decide) ?_
        refine XS.iload X25.here hx rfl (hb hby d2_66) rfl ?_
        refine XS.iloadN X25.here hx rfl (hb hby d2_68) rfl ?_
        refine XS.icmpYes X25.here hx rfl (pc0 := 69) (pc' := 88) rfl (hb hby d2_69) rfl (flt (by decide : ¬ ((3 : Int32) < (3 : Int32)))).2.1 (by decide) (by decide) ?_
        exact kt
      obtain ⟨T27, h27, X27, e27, E27, A27, D27, -, st27⟩ := newO X25 hx hZ hown (hw _ (List.mem_of_getElem? (i := 11) rfl)) (hw _ (List.mem_of_getElem? (i := 12) rfl)) (hw _ (List.mem_of_getElem? (i := 8) rfl)) e25 (g := (mkF m 88 #[.val (.ref r0), .val (.int (3 : Int32)), .val (.int p2), .unset, .val (.ref y), .val (.int (3 : Int32))] [])) rfl (hb hby d2_88) (by decide) (by decide)
      obtain ⟨b, g27⟩ : ∃ z, z = h25.size := ⟨_, rfl⟩
      rw [← g27] at A27 D27 st27
      have g_b : n0 ≤ b := Nat.le_trans Z_25 (Nat.le_of_eq g27.symm)
      have sz_b : h0.size ≤ b := Nat.le_trans Kp_25.1 (Nat.le_of_eq g27.symm)
      have ne_r0_b : r0 ≠ b := Nat.ne_of_lt (Nat.lt_of_lt_of_le Vv_25.lt (Nat.le_of_eq g27.symm))
      have ne_y_b : y ≠ b := Nat.ne_of_lt (Nat.lt_of_lt_of_le V_y_25.lt (Nat.le_of_eq g27.symm))
      have Vv_27 := Vv_25.ext E27
      have V_y_27 := V_y_25.ext E27
      have Z_27 : n0 ≤ h27.size := Nat.le_trans Z_25 E27.1
      have Kp_27 : Keep h0 h27 [] := Kp_25.ext E27
      have E_b : Exa Z h27 b "com/example/libbisim/libbisim/CompactInts" := A27
      have F_bytes_b : Fld Z h27 b "com/example/libbisim/libbisim/CompactInts" "bytes" "[B" .null := D27 (Or.inr (hw _ (List.mem_of_getElem? (i := 20) rfl))) (ty := (.array .byte)) (by decide)
      have F_chars_b : Fld Z h27 b "com/example/libbisim/libbisim/CompactInts" "chars" "[C" .null := D27 (Or.inr (hw _ (List.mem_of_getElem? (i := 22) rfl))) (ty := (.array .char)) (by decide)
      have F_ints_b : Fld Z h27 b "com/example/libbisim/libbisim/CompactInts" "ints" "[I" .null := D27 (Or.inr (hw _ (List.mem_of_getElem? (i := 24) rfl))) (ty := (.array .int)) (by decide)
      have st28 : ∀ target, Steps p.tables e below (T27.setTop (mkF m 96 #[.val (.ref r0), .val (.int (3 : Int32)), .val (.int p2), .unset, .val (.ref y), .val (.int (3 : Int32))] [.null, (.ref y), .null, (.ref b), (.ref b)])) target → Steps p.tables e below (T27.setTop (mkF m 91 #[.val (.ref r0), .val (.int (3 : Int32)), .val (.int p2), .unset, .val (.ref y), .val (.int (3 : Int32))] [(.ref b)])) target := by
        intro target kt
        refine XS.dup X27.here hx rfl (hb hby d2_91) rfl rfl ?_
        show Steps p.tables e below (T27.setTop (mkF m 92 #[.val (.ref r0), .val (.int (3 : Int32)), .val (.int p2), .unset, .val (.ref y), .val (.int (3 : Int32))] [(.ref b), (.ref b)])) _
        refine XS.aconstNull X27.here hx rfl (hb hby d2_92) ?_
        refine XS.aload X27.here hx rfl (hb hby d2_93) rfl rfl ?_
        refine XS.aconstNull X27.here hx rfl (hb hby d2_95) ?_
        exact kt
      obtain ⟨_, _, ⟨T29, L29, k29, n29⟩, -, X29, ⟨Lc29, hQ29, l29, y29, z29⟩, st29⟩ := X27.specialBack hx (y := (⟨"com/example/libbisim/libbisim/CompactInts", "<init>", "([B[C[I)V"⟩ : MethodName)) rfl hown (mvT hZ (hw _ (List.mem_of_getElem? (i := 13) rfl))) (mvT hZ (hw _ (List.mem_of_getElem? (i := 14) rfl))) (mvT hZ (hw _ (List.mem_of_getElem? (i := 15) rfl))) (by decide) (backOf (W := 1) (rmI2 l Z a0 hw [] b y  h27 n0 Z_27 F_bytes_b F_chars_b F_ints_b E_b g_b) hZ (hw _ (List.mem_of_getElem? (i := 15) rfl)) (hw _ (List.mem_of_getElem? (i := 8) rfl)) (by decide) (by decide)) (g := (mkF m 96 #[.val (.ref r0), .val (.int (3 : Int32)), .val (.int p2), .unset, .val (.ref y), .val (.int (3 : Int32))] [.null, (.ref y), .null, (.ref b), (.ref b)])) rfl (by rw [hml]; rfl) (Steps.refl _) (a := b) (argsL := [.null, (.ref y), .null]) (rest := [(.ref b)]) (lenOf pd_2 rfl) rfl (by show 2 * 0 + _ ≤ _; exact Nat.le_of_eq rfl) (hb hby d2_96) (fun _ _ => ⟨rfl, e27, (by decide : 2 + 0 ≤ _), (by decide : 6 + 0 ≤ _)⟩)
      dsimp only [Pt.U, Pt.locs, Pt.cells, Pt.slots] at X29 l29 y29 z29 st29 hQ29
      subst l29 y29 z29
      obtain ⟨rfl, Nq29, K29, E_b_i, F_bytes_b_i, F_chars_b_i, F_ints_b_i⟩ := hQ29
      have N29 := Fr.app N25 Nq29
      have Vv_29 := Vv_27.keep K29 (ninS ne_r0_b nin0)
      have V_y_29 := V_y_27.keep K29 (ninS ne_y_b nin0)
      have E_b_29 := E_b.keep K29
      have Z_29 : n0 ≤ T29.heap.size := Nat.le_trans Z_27 K29.1
      have Kp_29 : Keep h0 T29.heap [] := Kp_27.trans K29 (allS (Or.inr sz_b) (all0))
      obtain ⟨fs, hr, hrun, hended, hW, hsame⟩ := X29.leave (v := some (.ref b)) (fun h => by rw [Bd.returns] at h; cases h)
      refine ⟨_, _, pre0 _ (st1 _ (st2 _ (st3 _ (st11 _ (st12 _ (st13 _ (st14 _ (st15 _ (st16 _ (st17 _ (st18 _ (st19 _ (st20 _ (st21 _ (st22 _ (st23 _ (st24 _ (st25 _ (st26 _ (st27 _ (st28 _ (st29.trans ?_)))))))))))))))))))))), hrun, hended, _, _, rfl, ?_, ⟨_, rfl⟩, hW, hsame.mono (by decide) (by decide)⟩
      · refine XS.astoreN X29.here hx rfl (hb hby d2_99) rfl rfl (l' := #[.val (.ref r0), .val (.int (3 : Int32)), .val (.int p2), .val (.ref b), .val (.ref y), .val (.int (3 : Int32))]) rfl ?_
        refine XS.goto X29.here hx rfl (pc0 := 100) (pc' := 128) rfl (hb hby d2_100) (by decide) (by decide) ?_
        refine XS.aloadN X29.here hx rfl (hb hby d2_128) rfl rfl ?_
        show Steps p.tables e below (T29.setTop (mkF m 129 #[.val (.ref r0), .val (.int (3 : Int32)), .val (.int p2), .val (.ref b), .val (.ref y), .val (.int (3 : Int32))] [(.ref b)])) _
        jvm_step X29.here [X29.here.top, hx, (hb hby d2_129), X29.method', Bd.returns, Value.isRef, FieldType.isReference]
        first | (intro acts; rw [hr _ acts rfl rfl rfl]) | rw [hr _ _ rfl rfl rfl]
        exact Steps.refl _
      · show Q_rmOf3 Z r0 p2 kv w0 w1 w2 w3 h0 n0 _ T29.heap _
        exact ⟨b, rfl, N29, Kp_29, sz_b, E_b_i, Or.inr (Or.inl ⟨hc4, hc55, y, _, sz_y, F_bytes_b_i, F_chars_b_i, V_y_29⟩)⟩
  · have st30 : ∀ target, Steps p.tables e below (s₁.setTop (mkF m 7 #[.val (.ref r0), .val (.int (3 : Int32)), .val (.int p2), .unset, .unset, .unset] [])) target → Steps p.tables e below (s₁.setTop (mkF m 4 #[.val (.ref r0), .val (.int (3 : Int32)), .val (.int p2), .unset, .unset, .unset] [(.int (256 : Int32)), (.int p2)])) target := by
      intro target kt
      refine XS.icmpNo X0.here hx rfl (hb hby d2_4) rfl (flt hc4).2.2.1 ?_
      exact kt
    have st31 : ∀ target, Steps p.tables e below (s₁.setTop (mkF m 8 #[.val (.ref r0), .val (.int (3 : Int32)), .val (.int p2), .unset, .unset, .unset] [(.int (3 : Int32))])) target → Steps p.tables e below (s₁.setTop (mkF m 7 #[.val (.ref r0), .val (.int (3 : Int32)), .val (.int p2), .unset, .unset, .unset] [])) target := by
      intro target kt
      refine XS.iloadN X0.here hx rfl (hb hby d2_7) rfl ?_
      exact kt
    obtain ⟨T32, h32, k32, X32, e32, E32, A32, st32⟩ := newP X0 hx hZ (hw _ (List.mem_of_getElem? (i := 10) rfl)) e0 (g := (mkF m 8 #[.val (.ref r0), .val (.int (3 : Int32)), .val (.int p2), .unset, .unset, .unset] [(.int (3 : Int32))])) rfl (hb hby d2_8) rfl (by decide) (cap := 3) (by decide) (by decide) (by decide) (by decide)
    obtain ⟨y, g32⟩ : ∃ z, z = h0.size := ⟨_, rfl⟩
    rw [← g32] at A32 st32
    have g_y : n0 ≤ y := Nat.le_trans Z0 (Nat.le_of_eq g32.symm)
    have sz_y : h0.size ≤ y := Nat.le_trans Kp.1 (Nat.le_of_eq g32.symm)
    have ne_r0_y : r0 ≠ y := Nat.ne_of_lt (Nat.lt_of_lt_of_le Vv.lt (Nat.le_of_eq g32.symm))
    have Vv_32 := Vv.ext E32
    have Z_32 : n0 ≤ h32.size := Nat.le_trans Z0 E32.1
    have Kp_32 : Keep h0 h32 [] := Kp.ext E32
    have V_y : Arv Z h32 y k32 .byte (3 : Int32) [(.int (0 : Int32)), (.int (0 : Int32)), (.int (0 : Int32))] (.int (0 : Int32)) := (Arv.new A32 (by decide)).pad (pad_rep [] (.int (0 : Int32)) 3)
    have st33 : ∀ target, Steps p.tables e below (T32.setTop (mkF m 28 #[.val (.ref r0), .val (.int (3 : Int32)), .val (.int p2), .unset, .val (.ref y), .val (.int (0 : Int32))] [(.int (0 : Int32)), (.ref r0), (.int (0 : Int32)), (.ref y)])) target → Steps p.tables e below (T32.setTop (mkF m 10 #[.val (.ref r0), .val (.int (3 : Int32)), .val (.int p2), .unset, .unset, .unset] [(.ref y)])) target := by
      intro target kt
      show Steps p.tables e below (T32.setTop (mkF m 10 #[.val (.ref r0), .val (.int (3 : Int32)), .val (.int p2), .unset, .unset, .unset] [(.ref y)])) _
      refine XS.astore X32.here hx rfl (hb hby d2_10) rfl rfl (l' := #[.val (.ref r0), .val (.int (3 : Int32)), .val (.int p2), .unset, .val (.ref y), .unset]) rfl ?_
      refine XS.iconst X32.here hx rfl (hb hby d2_12) ?_
      refine XS.istore X32.here hx rfl (hb hby d2_13) rfl (l' := #[.val (.ref r0), .val (.int (3 : Int32)), .val (.int p2), .unset, .val (.ref y), .val (.int (0 : Int32))]) rfl ?_
      refine XS.iload X32.here hx rfl (hb hby d2_15) rfl ?_
      refine XS.iloadN X32.here hx rfl (hb hby d2_17) rfl ?_
      refine XS.icmpNo X32.here hx rfl (hb hby d2_18) rfl (tlt (by decide : ((0 : Int32) < (3 : Int32)))).2.1 ?_
      refine XS.aload X32.here hx rfl (hb hby d2_21) rfl rfl ?_
      refine XS.iload X32.here hx rfl (hb hby d2_23) rfl ?_
      show Steps p.tables e below (T32.setTop (mkF m 25 #[.val (.ref r0), .val (.int (3 : Int32)), .val (.int p2), .unset, .val (.ref y), .val (.int (0 : Int32))] [(.int (0 : Int32)), (.ref y)])) _
      refine XS.aloadN X32.here hx rfl (hb hby d2_25) rfl rfl ?_
      refine XS.iload X32.here hx rfl (hb hby d2_26) rfl ?_
      exact kt
    obtain ⟨cl34, Ar34, qc34, Sz34, Mn34, Hs34, Gs34⟩ := id Vv_32
    have hin34 : ¬ ((0 : Int32) < 0 ∨ cl34.slots.size ≤ ((0 : Int32)).toNatClampNeg) := inb_of Sz34 ⟨by decide, by decide⟩
    have hat34 : cl34.slots[((0 : Int32)).toNatClampNeg]? = some (.int w0) := Hs34.at hin34 rfl
    have st34 : ∀ target, Steps p.tables e below (T32.setTop (mkF m 29 #[.val (.ref r0), .val (.int (3 : Int32)), .val (.int p2), .unset, .val (.ref y), .val (.int (0 : Int32))] [(.int w0), (.int (0 : Int32)), (.ref y)])) target → Steps p.tables e below (T32.setTop (mkF m 28 #[.val (.ref r0), .val (.int (3 : Int32)), .val (.int p2), .unset, .val (.ref y), .val (.int (0 : Int32))] [(.int (0 : Int32)), (.ref r0), (.int (0 : Int32)), (.ref y)])) target := fun target kt => X32.iaload hx (j := (0 : Int32)) (v := (.int w0)) (by rw [e32]; exact Ar34.1) (State.isArrayOf_alike hZ.alike Ar34.2.1) Ar34.2.2 hin34 hat34 (g := (mkF m 28 #[.val (.ref r0), .val (.int (3 : Int32)), .val (.int p2), .unset, .val (.ref y), .val (.int (0 : Int32))] [(.int (0 : Int32)), (.ref r0), (.int (0 : Int32)), (.ref y)])) rfl rfl (hb hby d2_28) _ kt
    have st35 : ∀ target, Steps p.tables e below (T32.setTop (mkF m 30 #[.val (.ref r0), .val (.int (3 : Int32)), .val (.int p2), .unset, .val (.ref y), .val (.int (0 : Int32))] [(.int (w0.toInt8.toInt32)), (.int (0 : Int32)), (.ref y)])) target → Steps p.tables e below (T32.setTop (mkF m 29 #[.val (.ref r0), .val (.int (3 : Int32)), .val (.int p2), .unset, .val (.ref y), .val (.int (0 : Int32))] [(.int w0), (.int (0 : Int32)), (.ref y)])) target := by
      intro target kt
      refine XS.i2b X32.here hx rfl (hb hby d2_29) rfl ?_
      exact kt
    obtain ⟨cl36, Ar36, qc36, Sz36, Mn36, Hs36, Gs36⟩ := id V_y
    have hin36 : ¬ ((0 : Int32) < 0 ∨ cl36.slots.size ≤ ((0 : Int32)).toNatClampNeg) := inb_of Sz36 ⟨by decide, by decide⟩
    obtain ⟨T36, h36, X36, e36, W36, st36⟩ := stB X32 hx hZ e32 Ar36 (j := (0 : Int32)) hin36 (g := (mkF m 30 #[.val (.ref r0), .val (.int (3 : Int32)), .val (.int p2), .unset, .val (.ref y), .val (.int (0 : Int32))] [(.int (w0.toInt8.toInt32)), (.int (0 : Int32)), (.ref y)])) rfl rfl (hb hby d2_30)
    have V_y_36 : Arv Z h36 y k32 .byte (3 : Int32) [(.int (nar .byte (w0.toInt8.toInt32))), (.int (0 : Int32)), (.int (0 : Int32))] (.int (0 : Int32)) := Arv.set Ar36 qc36 Sz36 Mn36 Hs36 Gs36 (fits_nar_byte _) W36 0 rfl (Nat.le_of_ble_eq_true rfl)
    have Vv_36 := Vv_32.other W36 ne_r0_y
    have Z_36 : n0 ≤ h36.size := Nat.le_trans Z_32 (Keep.of_wr W36).1
    have Kp_36 : Keep h0 h36 [] := Kp_32.wr W36 (Or.inr sz_y)
    have N36 := Fr.snoc X36 N0 g_y
    have st37 : ∀ target, Steps p.tables e below (T36.setTop (mkF m 28 #[.val (.ref r0), .val (.int (3 : Int32)), .val (.int p2), .unset, .val (.ref y), .val (.int (1 : Int32))] [(.int (1 : Int32)), (.ref r0), (.int (1 : Int32)), (.ref y)])) target → Steps p.tables e below (T36.setTop (mkF m 31 #[.val (.ref r0), .val (.int (3 : Int32)), .val (.int p2), .unset, .val (.ref y), .val (.int (0 : Int32))] [])) target := by
      intro target kt
      refine XS.iinc X36.here hx rfl (hb hby d2_31) rfl (l' := #[.val (.ref r0), .val (.int (3 : Int32)), .val (.int p2), .unset, .val (.ref y), .val (.int (1 : Int32))]) rfl ?_
      refine XS.goto X36.here hx rfl (pc0 := 34) (pc' := 15) rfl (hb hby d2_34) (by decide) (by decide) ?_
      refine XS.iload X36.here hx rfl (hb hby d2_15) rfl ?_
      refine XS.iloadN X36.here hx rfl (hb hby d2_17) rfl ?_
      refine XS.icmpNo X36.here hx rfl (hb hby d2_18) rfl (tlt (by decide : ((1 : Int32) < (3 : Int32)))).2.1 ?_
      show Steps p.tables e below (T36.setTop (mkF m 21 #[.val (.ref r0), .val (.int (3 : Int32)), .val (.int p2), .unset, .val (.ref y), .val (.int (1 : Int32))] [])) _
      refine XS.aload X36.here hx rfl (hb hby d2_21) rfl rfl ?_
      refine XS.iload X36.here hx rfl (hb hby d2_23) rfl ?_
      refine XS.aloadN X36.here hx rfl (hb hby d2_25) rfl rfl ?_
      refine XS.iload X36.here hx rfl (hb hby d2_26) rfl ?_
      exact kt
    obtain ⟨cl38, Ar38, qc38, Sz38, Mn38, Hs38, Gs38⟩ := id Vv_36
    have hin38 : ¬ ((1 : Int32) < 0 ∨ cl38.slots.size ≤ ((1 : Int32)).toNatClampNeg) := inb_of Sz38 ⟨by decide, by decide⟩
    have hat38 : cl38.slots[((1 : Int32)).toNatClampNeg]? = some (.int w1) := Hs38.at hin38 rfl
    have st38 : ∀ target, Steps p.tables e below (T36.setTop (mkF m 29 #[.val (.ref r0), .val (.int (3 : Int32)), .val (.int p2), .unset, .val (.ref y), .val (.int (1 : Int32))] [(.int w1), (.int (1 : Int32)), (.ref y)])) target → Steps p.tables e below (T36.setTop (mkF m 28 #[.val (.ref r0), .val (.int (3 : Int32)), .val (.int p2), .unset, .val (.ref y), .val (.int (1 : Int32))] [(.int (1 : Int32)), (.ref r0), (.int (1 : Int32)), (.ref y)])) target := fun target kt => X36.iaload hx (j := (1 : Int32)) (v := (.int w1)) (by rw [e36]; exact Ar38.1) (State.isArrayOf_alike hZ.alike Ar38.2.1) Ar38.2.2 hin38 hat38 (g := (mkF m 28 #[.val (.ref r0), .val (.int (3 : Int32)), .val (.int p2), .unset, .val (.ref y), .val (.int (1 : Int32))] [(.int (1 : Int32)), (.ref r0), (.int (1 : Int32)), (.ref y)])) rfl rfl (hb hby d2_28) _ kt
    have st39 : ∀ target, Steps p.tables e below (T36.setTop (mkF m 30 #[.val (.ref r0), .val (.int (3 : Int32)), .val (.int p2), .unset, .val (.ref y), .val (.int (1 : Int32))] [(.int (w1.toInt8.toInt32)), (.int (1 : Int32)), (.ref y)])) target → Steps p.tables e below (T36.setTop (mkF m 29 #[.val (.ref r0), .val (.int (3 : Int32)), .val (.int p2), .unset, .val (.ref y), .val (.int (1 : Int32))] [(.int w1), (.int (1 : Int32)), (.ref y)])) target := by
      intro target kt
      refine XS.i2b X36.here hx rfl (hb hby d2_29) rfl ?_
      exact kt
    obtain ⟨cl40, Ar40, qc40, Sz40, Mn40, Hs40, Gs40⟩ := id V_y_36
    have hin40 : ¬ ((1 : Int32) < 0 ∨ cl40.slots.size ≤ ((1 : Int32)).toNatClampNeg) := inb_of Sz40 ⟨by decide, by decide⟩
    obtain ⟨T40, h40, X40, e40, W40, st40⟩ := stB X36 hx hZ e36 Ar40 (j := (1 : Int32)) hin40 (g := (mkF m 30 #[.val (.ref r0), .val (.int (3 : Int32)), .val (.int p2), .unset, .val (.ref y), .val (.int (1 : Int32))] [(.int (w1.toInt8.toInt32)), (.int (1 : Int32)), (.ref y)])) rfl rfl (hb hby d2_30)
    have V_y_40 : Arv Z h40 y k32 .byte (3 : Int32) [(.int (nar .byte (w0.toInt8.toInt32))), (.int (nar .byte (w1.toInt8.toInt32))), (.int (0 : Int32))] (.int (0 : Int32)) := Arv.set Ar40 qc40 Sz40 Mn40 Hs40 Gs40 (fits_nar_byte _) W40 1 rfl (Nat.le_of_ble_eq_true rfl)
    have Vv_40 := Vv_36.other W40 ne_r0_y
    have Z_40 : n0 ≤ h40.size := Nat.le_trans Z_36 (Keep.of_wr W40).1
    have Kp_40 : Keep h0 h40 [] := Kp_36.wr W40 (Or.inr sz_y)
    have N40 := Fr.snoc X40 N36 g_y
    have st41 : ∀ target, Steps p.tables e below (T40.setTop (mkF m 28 #[.val (.ref r0), .val (.int (3 : Int32)), .val (.int p2), .unset, .val (.ref y), .val (.int (2 : Int32))] [(.int (2 : Int32)), (.ref r0), (.int (2 : Int32)), (.ref y)])) target → Steps p.tables e below (T40.setTop (mkF m 31 #[.val (.ref r0), .val (.int (3 : Int32)), .val (.int p2), .unset, .val (.ref y), .val (.int (1 : Int32))] [])) target := by
      intro target kt
      refine XS.iinc X40.here hx rfl (hb hby d2_31) rfl (l' := #[.val (.ref r0), .val (.int (3 : Int32)), .val (.int p2), .unset, .val (.ref y), .val (.int (2 : Int32))]) rfl ?_
      refine XS.goto X40.here hx rfl (pc0 := 34) (pc' := 15) rfl (hb hby d2_34) (by decide) (by decide) ?_
      refine XS.iload X40.here hx rfl (hb hby d2_15) rfl ?_
      show Steps p.tables e below (T40.setTop (mkF m 17 #[.val (.ref r0), .val (.int (3 : Int32)), .val (.int p2), .unset, .val (.ref y), .val (.int (2 : Int32))] [(.int (2 : Int32))])) _
      refine XS.iloadN X40.here hx rfl (hb hby d2_17) rfl ?_
      refine XS.icmpNo X40.here hx rfl (hb hby d2_18) rfl (tlt (by decide : ((2 : Int32) < (3 : Int32)))).2.1 ?_
      refine XS.aload X40.here hx rfl (hb hby d2_21) rfl rfl ?_
      refine XS.iload X40.here hx rfl (hb hby d2_23) rfl ?_
      refine XS.aloadN X40.here hx rfl (hb hby d2_25) rfl rfl ?_
      refine XS.iload X40.here hx rfl (hb hby d2_26) rfl ?_
      exact kt
    obtain ⟨cl42, Ar42, qc42, Sz42, Mn42, Hs42, Gs42⟩ := id Vv_40
    have hin42 : ¬ ((2 : Int32) < 0 ∨ cl42.slots.size ≤ ((2 : Int32)).toNatClampNeg) := inb_of Sz42 ⟨by decide, by decide⟩
    have hat42 : cl42.slots[((2 : Int32)).toNatClampNeg]? = some (.int w2) := Hs42.at hin42 rfl
    have st42 : ∀ target, Steps p.tables e below (T40.setTop (mkF m 29 #[.val (.ref r0), .val (.int (3 : Int32)), .val (.int p2), .unset, .val (.ref y), .val (.int (2 : Int32))] [(.int w2), (.int (2 : Int32)), (.ref y)])) target → Steps p.tables e below (T40.setTop (mkF m 28 #[.val (.ref r0), .val (.int (3 : Int32)), .val (.int p2), .unset, .val (.ref y), .val (.int (2 : Int32))] [(.int (2 : Int32)), (.ref r0), (.int (2 : Int32)), (.ref y)])) target := fun target kt => X40.iaload hx (j := (2 : Int32)) (v := (.int w2)) (by rw [e40]; exact Ar42.1) (State.isArrayOf_alike hZ.alike Ar42.2.1) Ar42.2.2 hin42 hat42 (g := (mkF m 28 #[.val (.ref r0), .val (.int (3 : Int32)), .val (.int p2), .unset, .val (.ref y), .val (.int (2 : Int32))] [(.int (2 : Int32)), (.ref r0), (.int (2 : Int32)), (.ref y)])) rfl rfl (hb hby d2_28) _ kt
    have st43 : ∀ target, Steps p.tables e below (T40.setTop (mkF m 30 #[.val (.ref r0), .val (.int (3 : Int32)), .val (.int p2), .unset, .val (.ref y), .val (.int (2 : Int32))] [(.int (w2.toInt8.toInt32)), (.int (2 : Int32)), (.ref y)])) target → Steps p.tables e below (T40.setTop (mkF m 29 #[.val (.ref r0), .val (.int (3 : Int32)), .val (.int p2), .unset, .val (.ref y), .val (.int (2 : Int32))] [(.int w2), (.int (2 : Int32)), (.ref y)])) target := by
      intro target kt
      refine XS.i2b X40.here hx rfl (hb hby d2_29) rfl ?_
      exact kt
    obtain ⟨cl44, Ar44, qc44, Sz44, Mn44, Hs44, Gs44⟩ := id V_y_40
    have hin44 : ¬ ((2 : Int32) < 0 ∨ cl44.slots.size ≤ ((2 : Int32)).toNatClampNeg) := inb_of Sz44 ⟨by decide, by decide⟩
    obtain ⟨T44, h44, X44, e44, W44, st44⟩ := stB X40 hx hZ e40 Ar44 (j := (2 : Int32)) hin44 (g := (mkF m 30 #[.val (.ref r0), .val (.int (3 : Int32)), .val (.int p2), .unset, .val (.ref y), .val (.int (2 : Int32))] [(.int (w2.toInt8.toInt32)), (.int (2 : Int32)), (.ref y)])) rfl rfl (hb hby d2_30)
    have V_y_44 : Arv Z h44 y k32 .byte (3 : Int32) [(.int (nar .byte (w0.toInt8.toInt32))), (.int (nar .byte (w1.toInt8.toInt32))), (.int (nar .byte (w2.toInt8.toInt32)))] (.int (0 : Int32)) := Arv.set Ar44 qc44 Sz44 Mn44 Hs44 Gs44 (fits_nar_byte _) W44 2 rfl (Nat.le_of_ble_eq_true rfl)
    have Vv_44 := Vv_40.other W44 ne_r0_y
    have Z_44 : n0 ≤ h44.size := Nat.le_trans Z_40 (Keep.of_wr W44).1
    have Kp_44 : Keep h0 h44 [] := Kp_40.wr W44 (Or.inr sz_y)
    have N44 := Fr.snoc X44 N40 g_y
    have st45 : ∀ target, Steps p.tables e below (T44.setTop (mkF m 37 #[.val (.ref r0), .val (.int (3 : Int32)), .val (.int p2), .unset, .val (.ref y), .val (.int (3 : Int32))] [])) target → Steps p.tables e below (T44.setTop (mkF m 31 #[.val (.ref r0), .val (.int (3 : Int32)), .val (.int p2), .unset, .val (.ref y), .val (.int (2 : Int32))] [])) target := by
      intro target kt
      refine XS.iinc X44.here hx rfl (hb hby d2_31) rfl (l' := #[.val (.ref r0), .val (.int (3 : Int32)), .val (.int p2), .unset, .val (.ref y), .val (.int (3 : Int32))]) rfl ?_
      show Steps p.tables e below (T44.setTop (mkF m 34 #[.val (.ref r0), .val (.int (3 : Int32)), .val (.int p2), .unset, .val (.ref y), .val (.int (3 : Int32))] [])) _
      refine XS.goto X44.here hx rfl (pc0 := 34) (pc' := 15) rfl (hb hby d2_34) (by decide) (by decide) ?_
      refine XS.iload X44.here hx rfl (hb hby d2_15) rfl ?_
      refine XS.iloadN X44.here hx rfl (hb hby d2_17) rfl ?_
      refine XS.icmpYes X44.here hx rfl (pc0 := 18) (pc' := 37) rfl (hb hby d2_18) rfl (flt (by decide : ¬ ((3 : Int32) < (3 : Int32)))).2.1 (by decide) (by decide) ?_
      exact kt
    obtain ⟨T46, h46, X46, e46, E46, A46, D46, -, st46⟩ := newO X44 hx hZ hown (hw _ (List.mem_of_getElem? (i := 11) rfl)) (hw _ (List.mem_of_getElem? (i := 12) rfl)) (hw _ (List.mem_of_getElem? (i := 8) rfl)) e44 (g := (mkF m 37 #[.val (.ref r0), .val (.int (3 : Int32)), .val (.int p2), .unset, .val (.ref y), .val (.int (3 : Int32))] [])) rfl (hb hby d2_37) (by decide) (by decide)
    obtain ⟨b, g46⟩ : ∃ z, z = h44.size := ⟨_, rfl⟩
    rw [← g46] at A46 D46 st46
    have g_b : n0 ≤ b := Nat.le_trans Z_44 (Nat.le_of_eq g46.symm)
    have sz_b : h0.size ≤ b := Nat.le_trans Kp_44.1 (Nat.le_of_eq g46.symm)
    have ne_r0_b : r0 ≠ b := Nat.ne_of_lt (Nat.lt_of_lt_of_le Vv_44.lt (Nat.le_of_eq g46.symm))
    have ne_y_b : y ≠ b := Nat.ne_of_lt (Nat.lt_of_lt_of_le V_y_44.lt (Nat.le_of_eq g46.symm))
    have Vv_46 := Vv_44.ext E46
    have V_y_46 := V_y_44.ext E46
    have Z_46 : n0 ≤ h46.size := Nat.le_trans Z_44 E46.1
    have Kp_46 : Keep h0 h46 [] := Kp_44.ext E46
    have E_b : Exa Z h46 b "com/example/libbisim/libbisim/CompactInts" := A46
    have F_bytes_b : Fld Z h46 b "com/example/libbisim/libbisim/CompactInts" "bytes" "[B" .null := D46 (Or.inr (hw _ (List.mem_of_getElem? (i := 20) rfl))) (ty := (.array .byte)) (by decide)
    have F_chars_b : Fld Z h46 b "com/example/libbisim/libbisim/CompactInts" "chars" "[C" .null := D46 (Or.inr (hw _ (List.mem_of_getElem? (i := 22) rfl))) (ty := (.array .char)) (by decide)
    have F_ints_b : Fld Z h46 b "com/example/libbisim/libbisim/CompactInts" "ints" "[I" .null := D46 (Or.inr (hw _ (List.mem_of_getElem? (i := 24) rfl))) (ty := (.array .int)) (by decide)
    have st47 : ∀ target, Steps p.tables e below (T46.setTop (mkF m 45 #[.val (.ref r0), .val (.int (3 : Int32)), .val (.int p2), .unset, .val (.ref y), .val (.int (3 : Int32))] [.null, .null, (.ref y), (.ref b), (.ref b)])) target → Steps p.tables e below (T46.setTop (mkF m 40 #[.val (.ref r0), .val (.int (3 : Int32)), .val (.int p2), .unset, .val (.ref y), .val (.int (3 : Int32))] [(.ref b)])) target := by
      intro target kt
      refine XS.dup X46.here hx rfl (hb hby d2_40) rfl rfl ?_
      refine XS.aload X46.here hx rfl (hb hby d2_41) rfl rfl ?_
      refine XS.aconstNull X46.here hx rfl (hb hby d2_43) ?_
      refine XS.aconstNull X46.here hx rfl (hb hby d2_44) ?_
      exact kt
    obtain ⟨_, _, ⟨T48, L48, k48, n48⟩, -, X48, ⟨Lc48, hQ48, l48, y48, z48⟩, st48⟩ := X46.specialBack hx (y := (⟨"com/example/libbisim/libbisim/CompactInts", "<init>", "([B[C[I)V"⟩ : MethodName)) rfl hown (mvT hZ (hw _ (List.mem_of_getElem? (i := 13) rfl))) (mvT hZ (hw _ (List.mem_of_getElem? (i := 14) rfl))) (mvT hZ (hw _ (List.mem_of_getElem? (i := 15) rfl))) (by decide) (backOf (W := 1) (rmI1 l Z a0 hw [] b y  h46 n0 Z_46 F_bytes_b F_chars_b F_ints_b E_b g_b) hZ (hw _ (List.mem_of_getElem? (i := 15) rfl)) (hw _ (List.mem_of_getElem? (i := 8) rfl)) (by decide) (by decide)) (g := (mkF m 45 #[.val (.ref r0), .val (.int (3 : Int32)), .val (.int p2), .unset, .val (.ref y), .val (.int (3 : Int32))] [.null, .null, (.ref y), (.ref b), (.ref b)])) rfl (by rw [hml]; rfl) (Steps.refl _) (a := b) (argsL := [(.ref y), .null, .null]) (rest := [(.ref b)]) (lenOf pd_2 rfl) rfl (by show 2 * 0 + _ ≤ _; exact Nat.le_of_eq rfl) (hb hby d2_45) (fun _ _ => ⟨rfl, e46, (by decide : 2 + 0 ≤ _), (by decide : 6 + 0 ≤ _)⟩)
    dsimp only [Pt.U, Pt.locs, Pt.cells, Pt.slots] at X48 l48 y48 z48 st48 hQ48
    subst l48 y48 z48
    obtain ⟨rfl, Nq48, K48, E_b_i, F_bytes_b_i, F_chars_b_i, F_ints_b_i⟩ := hQ48
    have N48 := Fr.app N44 Nq48
    have Vv_48 := Vv_46.keep K48 (ninS ne_r0_b nin0)
    have V_y_48 := V_y_46.keep K48 (ninS ne_y_b nin0)
    have E_b_48 := E_b.keep K48
    have Z_48 : n0 ≤ T48.heap.size := Nat.le_trans Z_46 K48.1
    have Kp_48 : Keep h0 T48.heap [] := Kp_46.trans K48 (allS (Or.inr sz_b) (all0))
    obtain ⟨fs, hr, hrun, hended, hW, hsame⟩ := X48.leave (v := some (.ref b)) (fun h => by rw [Bd.returns] at h; cases h)
    refine ⟨_, _, pre0 _ (st1 _ (st30 _ (st31 _ (st32 _ (st33 _ (st34 _ (st35 _ (st36 _ (st37 _ (st38 _ (st39 _ (st40 _ (st41 _ (st42 _ (st43 _ (st44 _ (st45 _ (st46 _ (st47 _ (st48.trans ?_)))))))))))))))))))), hrun, hended, _, _, rfl, ?_, ⟨_, rfl⟩, hW, hsame.mono (by decide) (by decide)⟩
    · show Steps p.tables e below (T48.setTop (mkF m 48 #[.val (.ref r0), .val (.int (3 : Int32)), .val (.int p2), .unset, .val (.ref y), .val (.int (3 : Int32))] [(.ref b)])) _
      refine XS.astoreN X48.here hx rfl (hb hby d2_48) rfl rfl (l' := #[.val (.ref r0), .val (.int (3 : Int32)), .val (.int p2), .val (.ref b), .val (.ref y), .val (.int (3 : Int32))]) rfl ?_
      refine XS.goto X48.here hx rfl (pc0 := 49) (pc' := 128) rfl (hb hby d2_49) (by decide) (by decide) ?_
      refine XS.aloadN X48.here hx rfl (hb hby d2_128) rfl rfl ?_
      show Steps p.tables e below (T48.setTop (mkF m 129 #[.val (.ref r0), .val (.int (3 : Int32)), .val (.int p2), .val (.ref b), .val (.ref y), .val (.int (3 : Int32))] [(.ref b)])) _
      jvm_step X48.here [X48.here.top, hx, (hb hby d2_129), X48.method', Bd.returns, Value.isRef, FieldType.isReference]
      first | (intro acts; rw [hr _ acts rfl rfl rfl]) | rw [hr _ _ rfl rfl rfl]
      exact Steps.refl _
    · show Q_rmOf3 Z r0 p2 kv w0 w1 w2 w3 h0 n0 _ T48.heap _
      exact ⟨b, rfl, N48, Kp_48, sz_b, E_b_i, Or.inl ⟨hc4, y, _, sz_y, F_bytes_b_i, V_y_48⟩⟩
theorem ef_rmOf4 (m : MethodId) (x0 : Addr) (x1 : Int32) (x2 : Int32) : entryFrame m #[(.ref x0), (.int x1), (.int x2)] 6 = mkF m 0 #[.val (.ref x0), .val (.int x1), .val (.int x2), .unset, .unset, .unset] [] := by first | (simp [entryFrame, mkF, argsToLocals, Value.category]; done) | rfl
def Q_rmOf4 (Z : State) (r0 : Addr) (p2 : Int32) (kv : ClassId) (w0 : Int32) (w1 : Int32) (w2 : Int32) (w3 : Int32) (h0 : Heap) (n0 : Nat) (v : Option Value) (h : Heap) (L : List Loc) : Prop := ∃ b, v = some (.ref b) ∧ Fr n0 L ∧ Keep h0 h [] ∧ h0.size ≤ b ∧ Exa Z h b "com/example/libbisim/libbisim/CompactInts" ∧ ((¬ (256 : Int32) < p2 ∧ ∃ y k, h0.size ≤ y ∧ Fld Z h b "com/example/libbisim/libbisim/CompactInts" "bytes" "[B" (.ref y) ∧ Arv Z h y k .byte (4 : Int32) [(.int (nar .byte (w0.toInt8.toInt32))), (.int (nar .byte (w1.toInt8.toInt32))), (.int (nar .byte (w2.toInt8.toInt32))), (.int (nar .byte (w3.toInt8.toInt32)))] (.int (0 : Int32))) ∨ ((256 : Int32) < p2 ∧ ¬ (65536 : Int32) < p2 ∧ ∃ y k, h0.size ≤ y ∧ Fld Z h b "com/example/libbisim/libbisim/CompactInts" "bytes" "[B" .null ∧ Fld Z h b "com/example/libbisim/libbisim/CompactInts" "chars" "[C" (.ref y) ∧ Arv Z h y k .char (4 : Int32) [(.int (nar .char (w0.toUInt32.toUInt16.toUInt32.toInt32))), (.int (nar .char (w1.toUInt32.toUInt16.toUInt32.toInt32))), (.int (nar .char (w2.toUInt32.toUInt16.toUInt32.toInt32))), (.int (nar .char (w3.toUInt32.toUInt16.toUInt32.toInt32)))] (.int (0 : Int32))) ∨ ((65536 : Int32) < p2 ∧ Fld Z h b "com/example/libbisim/libbisim/CompactInts" "bytes" "[B" .null ∧ Fld Z h b "com/example/libbisim/libbisim/CompactInts" "chars" "[C" .null ∧ Fld Z h b "com/example/libbisim/libbisim/CompactInts" "ints" "[I" (.ref r0)))
set_option maxRecDepth 65536 in
set_option maxHeartbeats 40000000 in
theorem rmOf4 (l : Launch) (Z : State) (a0 : Array Value) (hw : ∀ d ∈ tables_1, d.before a0 Z = true) (ws : List Jvm.Cond) (r0 : Addr) (p2 : Int32) (kv : ClassId) (w0 : Int32) (w1 : Int32) (w2 : Int32) (w3 : Int32) (h0 : Heap) (n0 : Nat) (Z0 : n0 ≤ h0.size) (Vv : Arv Z h0 r0 kv .int (4 : Int32) [(.int w0), (.int w1), (.int w2), (.int w3)] (.int (0 : Int32))) :
    MetFree l (⟨"com/example/libbisim/libbisim/CompactInts", "of", "([III)Lcom/example/libbisim/libbisim/CompactInts;"⟩ : MethodName) (head1 (Jvm.Cond.code (⟨"com/example/libbisim/libbisim/CompactInts", "of", "([III)Lcom/example/libbisim/libbisim/CompactInts;"⟩ : MethodName) prog_7_method_2_code 6 (some (.object "com/example/libbisim/libbisim/CompactInts")) :: ws) ({ frames := 2, cells := 2, slots := 7, locals := 28 } : Room)) (fun a U => a = #[(.ref r0), (.int (4 : Int32)), (.int p2)] ∧ Z.Warmed39 U.vm ∧ U.heap = h0) (fun _ _ _ _ _ => True) (fun _ U o U' => ∃ v L, o = .returned v ∧ Q_rmOf4 Z r0 p2 kv w0 w1 w2 w3 h0 n0 v U'.heap L ∧ FrameEnd U o U' L ({ frames := 2, cells := 2, slots := 7, locals := 28 } : Room).cells ({ frames := 2, cells := 2, slots := 7, locals := 28 } : Room).slots) := by
  refine MetFree.of_bodySF (plainFor_of_name pn_2) hisR ?_
  intro p e s m args below meth c s₁ Bd hml0 hP hK
  obtain ⟨rfl, hZ, hh⟩ := hP
  have hx := Bd.exec
  have hby := Bd.bytes
  have hml : c.maxLocals = 6 := hml0
  have hown : s.vm.findClass "com/example/libbisim/libbisim/CompactInts" = some m.cls := findClass_of_methodNamed Bd.named
  have hnm := (name_of_methodNamed Bd.named Bd.method).1
  have X0 : Stand p l e ({ frames := 2, cells := 2, slots := 7, locals := 28 } : Room) s m #[(.ref r0), (.int (4 : Int32)), (.int p2)] below meth c s₁ [] 0 0 := Stand.of_body Bd
  have e0 : s₁.heap = h0 := by rw [← hh, Bd.state]; rfl
  have N0 := Fr.nil n0
  have pre0 : ∀ t, Steps p.tables e below (s₁.setTop (mkF m 0 #[.val (.ref r0), .val (.int (4 : Int32)), .val (.int p2), .unset, .unset, .unset] [])) t → Steps p.tables e below (s₁.setTop (entryFrame m #[(.ref r0), (.int (4 : Int32)), (.int p2)] 6)) t := fun t k => castTop (ef_rmOf4 m r0 (4 : Int32) p2) k
  have Kp : Keep h0 h0 [] := Keep.refl _ _
  have st1 : ∀ target, Steps p.tables e below (s₁.setTop (mkF m 4 #[.val (.ref r0), .val (.int (4 : Int32)), .val (.int p2), .unset, .unset, .unset] [(.int (256 : Int32)), (.int p2)])) target → Steps p.tables e below (s₁.setTop (mkF m 0 #[.val (.ref r0), .val (.int (4 : Int32)), .val (.int p2), .unset, .unset, .unset] [])) target := by
    intro target kt
    refine XS.iloadN X0.here hx rfl (hb hby d2_0) rfl ?_
    refine XS.sipush X0.here hx rfl (hb hby d2_1) ?_
    exact kt
  by_cases hc4 : (256 : Int32) < p2
  · have st2 : ∀ target, Steps p.tables e below (s₁.setTop (mkF m 52 #[.val (.ref r0), .val (.int (4 : Int32)), .val (.int p2), .unset, .unset, .unset] [])) target → Steps p.tables e below (s₁.setTop (mkF m 4 #[.val (.ref r0), .val (.int (4 : Int32)), .val (.int p2), .unset, .unset, .unset] [(.int (256 : Int32)), (.int p2)])) target := by
      intro target kt
      refine XS.icmpYes X0.here hx rfl (pc0 := 4) (pc' := 52) rfl (hb hby d2_4) rfl (tlt hc4).2.2.1 (by decide) (by decide) ?_
      exact kt
    have st3 : ∀ target, Steps p.tables e below (s₁.setTop (mkF m 55 #[.val (.ref r0), .val (.int (4 : Int32)), .val (.int p2), .unset, .unset, .unset] [(.int (65536 : Int32)), (.int p2)])) target → Steps p.tables e below (s₁.setTop (mkF m 52 #[.val (.ref r0), .val (.int (4 : Int32)), .val (.int p2), .unset, .unset, .unset] [])) target := by
      intro target kt
      refine XS.iloadN X0.here hx rfl (hb hby d2_52) rfl ?_
      refine X0.ldcInt hx hown (mvT hZ (hw _ (List.mem_of_getElem? (i := 26) rfl))) (g := (mkF m 53 #[.val (.ref r0), .val (.int (4 : Int32)), .val (.int p2), .unset, .unset, .unset] [(.int p2)])) rfl (hb hby d2_53) _ ?_
      exact kt
    by_cases hc55 : (65536 : Int32) < p2
    · have st4 : ∀ target, Steps p.tables e below (s₁.setTop (mkF m 103 #[.val (.ref r0), .val (.int (4 : Int32)), .val (.int p2), .unset, .unset, .unset] [])) target → Steps p.tables e below (s₁.setTop (mkF m 55 #[.val (.ref r0), .val (.int (4 : Int32)), .val (.int p2), .unset, .unset, .unset] [(.int (65536 : Int32)), (.int p2)])) target := by
        intro target kt
        refine XS.icmpYes X0.here hx rfl (pc0 := 55) (pc' := 103) rfl (hb hby d2_55) rfl (tlt hc55).2.2.1 (by decide) (by decide) ?_
        exact kt
      obtain ⟨T5, h5, X5, e5, E5, A5, D5, -, st5⟩ := newO X0 hx hZ hown (hw _ (List.mem_of_getElem? (i := 11) rfl)) (hw _ (List.mem_of_getElem? (i := 12) rfl)) (hw _ (List.mem_of_getElem? (i := 8) rfl)) e0 (g := (mkF m 103 #[.val (.ref r0), .val (.int (4 : Int32)), .val (.int p2), .unset, .unset, .unset] [])) rfl (hb hby d2_103) (by decide) (by decide)
      obtain ⟨b, g5⟩ : ∃ z, z = h0.size := ⟨_, rfl⟩
      rw [← g5] at A5 D5 st5
      have g_b : n0 ≤ b := Nat.le_trans Z0 (Nat.le_of_eq g5.symm)
      have sz_b : h0.size ≤ b := Nat.le_trans Kp.1 (Nat.le_of_eq g5.symm)
      have ne_r0_b : r0 ≠ b := Nat.ne_of_lt (Nat.lt_of_lt_of_le Vv.lt (Nat.le_of_eq g5.symm))
      have Vv_5 := Vv.ext E5
      have Z_5 : n0 ≤ h5.size := Nat.le_trans Z0 E5.1
      have Kp_5 : Keep h0 h5 [] := Kp.ext E5
      have E_b : Exa Z h5 b "com/example/libbisim/libbisim/CompactInts" := A5
      have F_bytes_b : Fld Z h5 b "com/example/libbisim/libbisim/CompactInts" "bytes" "[B" .null := D5 (Or.inr (hw _ (List.mem_of_getElem? (i := 20) rfl))) (ty := (.array .byte)) (by decide)
      have F_chars_b : Fld Z h5 b "com/example/libbisim/libbisim/CompactInts" "chars" "[C" .null := D5 (Or.inr (hw _ (List.mem_of_getElem? (i := 22) rfl))) (ty := (.array .char)) (by decide)
      have F_ints_b : Fld Z h5 b "com/example/libbisim/libbisim/CompactInts" "ints" "[I" .null := D5 (Or.inr (hw _ (List.mem_of_getElem? (i := 24) rfl))) (ty := (.array .int)) (by decide)
      have st6 : ∀ target, Steps p.tables e below (T5.setTop (mkF m 110 #[.val (.ref r0), .val (.int (4 : Int32)), .val (.int p2), .unset, .unset, .unset] [(.ref r0), .null, .null, (.ref b), (.ref b)])) target → Steps p.tables e below (T5.setTop (mkF m 106 #[.val (.ref r0), .val (.int (4 : Int32)), .val (.int p2), .unset, .unset, .unset] [(.ref b)])) target := by
        intro target kt
        refine XS.dup X5.here hx rfl (hb hby d2_106) rfl rfl ?_
        show Steps p.tables e below (T5.setTop (mkF m 107 #[.val (.ref r0), .val (.int (4 : Int32)), .val (.int p2), .unset, .unset, .unset] [(.ref b), (.ref b)])) _
        refine XS.aconstNull X5.here hx rfl (hb hby d2_107) ?_
        refine XS.aconstNull X5.here hx rfl (hb hby d2_108) ?_
        refine XS.aloadN X5.here hx rfl (hb hby d2_109) rfl rfl ?_
        exact kt
      obtain ⟨cl7, Ar7, qc7, Sz7, Mn7, Hs7, Gs7⟩ := id Vv_5
      have st7 : ∀ target, Steps p.tables e below (T5.setTop (mkF m 111 #[.val (.ref r0), .val (.int (4 : Int32)), .val (.int p2), .unset, .unset, .unset] [(.int (4 : Int32)), .null, .null, (.ref b), (.ref b)])) target → Steps p.tables e below (T5.setTop (mkF m 110 #[.val (.ref r0), .val (.int (4 : Int32)), .val (.int p2), .unset, .unset, .unset] [(.ref r0), .null, .null, (.ref b), (.ref b)])) target := fun target kt => X5.arraylength hx (cell := cl7) (by rw [e5]; exact Ar7.1) (State.isArrayOf_alike hZ.alike Ar7.2.1) (g := (mkF m 110 #[.val (.ref r0), .val (.int (4 : Int32)), .val (.int p2), .unset, .unset, .unset] [(.ref r0), .null, .null, (.ref b), (.ref b)])) rfl rfl (hb hby d2_110) _ (by rw [len_of Sz7 Mn7]; exact kt)
      have st8 : ∀ target, Steps p.tables e below (T5.setTop (mkF m 124 #[.val (.ref r0), .val (.int (4 : Int32)), .val (.int p2), .unset, .unset, .unset] [(.ref r0), .null, .null, (.ref b), (.ref b)])) target → Steps p.tables e below (T5.setTop (mkF m 111 #[.val (.ref r0), .val (.int (4 : Int32)), .val (.int p2), .unset, .unset, .unset] [(.int (4 : Int32)), .null, .null, (.ref b), (.ref b)])) target := by
        intro target kt
        refine XS.iloadN X5.here hx rfl (hb hby d2_111) rfl ?_
        refine XS.icmpNo X5.here hx rfl (hb hby d2_112) rfl (teq (rfl : (4 : Int32) = (4 : Int32))).2 ?_
        refine XS.aloadN X5.here hx rfl (hb hby d2_115) rfl rfl ?_
        refine XS.goto X5.here hx rfl (pc0 := 116) (pc' := 124) rfl (hb hby d2_116) (by decide) (by decide) ?_
        exact kt
      obtain ⟨_, _, ⟨T9, L9, k9, n9⟩, -, X9, ⟨Lc9, hQ9, l9, y9, z9⟩, st9⟩ := X5.specialBack hx (y := (⟨"com/example/libbisim/libbisim/CompactInts", "<init>", "([B[C[I)V"⟩ : MethodName)) rfl hown (mvT hZ (hw _ (List.mem_of_getElem? (i := 13) rfl))) (mvT hZ (hw _ (List.mem_of_getElem? (i := 14) rfl))) (mvT hZ (hw _ (List.mem_of_getElem? (i := 15) rfl))) (by decide) (backOf (W := 1) (rmI3 l Z a0 hw [] b r0  h5 n0 Z_5 F_bytes_b F_chars_b F_ints_b E_b g_b) hZ (hw _ (List.mem_of_getElem? (i := 15) rfl)) (hw _ (List.mem_of_getElem? (i := 8) rfl)) (by decide) (by decide)) (g := (mkF m 124 #[.val (.ref r0), .val (.int (4 : Int32)), .val (.int p2), .unset, .unset, .unset] [(.ref r0), .null, .null, (.ref b), (.ref b)])) rfl (by rw [hml]; rfl) (Steps.refl _) (a := b) (argsL := [.null, .null, (.ref r0)]) (rest := [(.ref b)]) (lenOf pd_2 rfl) rfl (by show 2 * 0 + _ ≤ _; exact Nat.le_of_eq rfl) (hb hby d2_124) (fun _ _ => ⟨rfl, e5, (by decide : 1 + 0 ≤ _), (by decide : 3 + 0 ≤ _)⟩)
      dsimp only [Pt.U, Pt.locs, Pt.cells, Pt.slots] at X9 l9 y9 z9 st9 hQ9
      subst l9 y9 z9
      obtain ⟨rfl, Nq9, K9, E_b_i, F_bytes_b_i, F_chars_b_i, F_ints_b_i⟩ := hQ9
      have N9 := Fr.app N0 Nq9
      have Vv_9 := Vv_5.keep K9 (ninS ne_r0_b nin0)
      have E_b_9 := E_b.keep K9
      have Z_9 : n0 ≤ T9.heap.size := Nat.le_trans Z_5 K9.1
      have Kp_9 : Keep h0 T9.heap [] := Kp_5.trans K9 (allS (Or.inr sz_b) (all0))
      obtain ⟨fs, hr, hrun, hended, hW, hsame⟩ := X9.leave (v := some (.ref b)) (fun h => by rw [Bd.returns] at h; cases h)
      refine ⟨_, _, pre0 _ (st1 _ (st2 _ (st3 _ (st4 _ (st5 _ (st6 _ (st7 _ (st8 _ (st9.trans ?_))))))))), hrun, hended, _, _, rfl, ?_, ⟨_, rfl⟩, hW, hsame.mono (by decide) (by decide)⟩
      · refine XS.astoreN X9.here hx rfl (hb hby d2_127) rfl rfl (l' := #[.val (.ref r0), .val (.int (4 : Int32)), .val (.int p2), .val (.ref b), .unset, .unset]) rfl ?_
        show Steps p.tables e below (T9.setTop (mkF m 128 #[.val (.ref r0), .val (.int (4 : Int32)), .val (.int p2), .val (.ref b), .unset, .unset] [])) _
        refine XS.aloadN X9.here hx rfl (hb hby d2_128) rfl rfl ?_
        show Steps p.tables e below (T9.setTop (mkF m 129 #[.val (.ref r0), .val (.int (4 : Int32)), .val (.int p2), .val (.ref b), .unset, .unset] [(.ref b)])) _
        jvm_step X9.here [X9.here.top, hx, (hb hby d2_129), X9.method', Bd.returns, Value.isRef, FieldType.isReference]
        first | (intro acts; rw [hr _ acts rfl rfl rfl]) | rw [hr _ _ rfl rfl rfl]
        exact Steps.refl _
      · show Q_rmOf4 Z r0 p2 kv w0 w1 w2 w3 h0 n0 _ T9.heap _
        exact ⟨b, rfl, N9, Kp_9, sz_b, E_b_i, Or.inr (Or.inr ⟨hc55, F_bytes_b_i, F_chars_b_i, F_ints_b_i⟩)⟩
    · have st10 : ∀ target, Steps p.tables e below (s₁.setTop (mkF m 58 #[.val (.ref r0), .val (.int (4 : Int32)), .val (.int p2), .unset, .unset, .unset] [])) target → Steps p.tables e below (s₁.setTop (mkF m 55 #[.val (.ref r0), .val (.int (4 : Int32)), .val (.int p2), .unset, .unset, .unset] [(.int (65536 : Int32)), (.int p2)])) target := by
        intro target kt
        refine XS.icmpNo X0.here hx rfl (hb hby d2_55) rfl (flt hc55).2.2.1 ?_
        exact kt
      have st11 : ∀ target, Steps p.tables e below (s₁.setTop (mkF m 59 #[.val (.ref r0), .val (.int (4 : Int32)), .val (.int p2), .unset, .unset, .unset] [(.int (4 : Int32))])) target → Steps p.tables e below (s₁.setTop (mkF m 58 #[.val (.ref r0), .val (.int (4 : Int32)), .val (.int p2), .unset, .unset, .unset] [])) target := by
        intro target kt
        refine XS.iloadN X0.here hx rfl (hb hby d2_58) rfl ?_
        exact kt
      obtain ⟨T12, h12, k12, X12, e12, E12, A12, st12⟩ := newP X0 hx hZ (hw _ (List.mem_of_getElem? (i := 47) rfl)) e0 (g := (mkF m 59 #[.val (.ref r0), .val (.int (4 : Int32)), .val (.int p2), .unset, .unset, .unset] [(.int (4 : Int32))])) rfl (hb hby d2_59) rfl (by decide) (cap := 4) (by decide) (by decide) (by decide) (by decide)
      obtain ⟨y, g12⟩ : ∃ z, z = h0.size := ⟨_, rfl⟩
      rw [← g12] at A12 st12
      have g_y : n0 ≤ y := Nat.le_trans Z0 (Nat.le_of_eq g12.symm)
      have sz_y : h0.size ≤ y := Nat.le_trans Kp.1 (Nat.le_of_eq g12.symm)
      have ne_r0_y : r0 ≠ y := Nat.ne_of_lt (Nat.lt_of_lt_of_le Vv.lt (Nat.le_of_eq g12.symm))
      have Vv_12 := Vv.ext E12
      have Z_12 : n0 ≤ h12.size := Nat.le_trans Z0 E12.1
      have Kp_12 : Keep h0 h12 [] := Kp.ext E12
      have V_y : Arv Z h12 y k12 .char (4 : Int32) [(.int (0 : Int32)), (.int (0 : Int32)), (.int (0 : Int32)), (.int (0 : Int32))] (.int (0 : Int32)) := (Arv.new A12 (by decide)).pad (pad_rep [] (.int (0 : Int32)) 4)
      have st13 : ∀ target, Steps p.tables e below (T12.setTop (mkF m 79 #[.val (.ref r0), .val (.int (4 : Int32)), .val (.int p2), .unset, .val (.ref y), .val (.int (0 : Int32))] [(.int (0 : Int32)), (.ref r0), (.int (0 : Int32)), (.ref y)])) target → Steps p.tables e below (T12.setTop (mkF m 61 #[.val (.ref r0), .val (.int (4 : Int32)), .val (.int p2), .unset, .unset, .unset] [(.ref y)])) target := by
        intro target kt
        refine XS.astore X12.here hx rfl (hb hby d2_61) rfl rfl (l' := #[.val (.ref r0), .val (.int (4 : Int32)), .val (.int p2), .unset, .val (.ref y), .unset]) rfl ?_
        refine XS.iconst X12.here hx rfl (hb hby d2_63) ?_
        refine XS.istore X12.here hx rfl (hb hby d2_64) rfl (l' := #[.val (.ref r0), .val (.int (4 : Int32)), .val (.int p2), .unset, .val (.ref y), .val (.int (0 : Int32))]) rfl ?_
        refine XS.iload X12.here hx rfl (hb hby d2_66) rfl ?_
        refine XS.iloadN X12.here hx rfl (hb hby d2_68) rfl ?_
        show Steps p.tables e below (T12.setTop (mkF m 69 #[.val (.ref r0), .val (.int (4 : Int32)), .val (.int p2), .unset, .val (.ref y), .val (.int (0 : Int32))] [(.int (4 : Int32)), (.int (0 : Int32))])) _
        refine XS.icmpNo X12.here hx rfl (hb hby d2_69) rfl (tlt (by decide : ((0 : Int32) < (4 : Int32)))).2.1 ?_
        refine XS.aload X12.here hx rfl (hb hby d2_72) rfl rfl ?_
        refine XS.iload X12.here hx rfl (hb hby d2_74) rfl ?_
        refine XS.aloadN X12.here hx rfl (hb hby d2_76) rfl rfl ?_
        refine XS.iload X12.here hx rfl (hb hby d2_77) rfl ?_
        exact kt
      obtain ⟨cl14, Ar14, qc14, Sz14, Mn14, Hs14, Gs14⟩ := id Vv_12
      have hin14 : ¬ ((0 : Int32) < 0 ∨ cl14.slots.size ≤ ((0 : Int32)).toNatClampNeg) := inb_of Sz14 ⟨by decide, by decide⟩
      have hat14 : cl14.slots[((0 : Int32)).toNatClampNeg]? = some (.int w0) := Hs14.at hin14 rfl
      have st14 : ∀ target, Steps p.tables e below (T12.setTop (mkF m 80 #[.val (.ref r0), .val (.int (4 : Int32)), .val (.int p2), .unset, .val (.ref y), .val (.int (0 : Int32))] [(.int w0), (.int (0 : Int32)), (.ref y)])) target → Steps p.tables e below (T12.setTop (mkF m 79 #[.val (.ref r0), .val (.int (4 : Int32)), .val (.int p2), .unset, .val (.ref y), .val (.int (0 : Int32))] [(.int (0 : Int32)), (.ref r0), (.int (0 : Int32)), (.ref y)])) target := fun target kt => X12.iaload hx (j := (0 : Int32)) (v := (.int w0)) (by rw [e12]; exact Ar14.1) (State.isArrayOf_alike hZ.alike Ar14.2.1) Ar14.2.2 hin14 hat14 (g := (mkF m 79 #[.val (.ref r0), .val (.int (4 : Int32)), .val (.int p2), .unset, .val (.ref y), .val (.int (0 : Int32))] [(.int (0 : Int32)), (.ref r0), (.int (0 : Int32)), (.ref y)])) rfl rfl (hb hby d2_79) _ kt
      have st15 : ∀ target, Steps p.tables e below (T12.setTop (mkF m 81 #[.val (.ref r0), .val (.int (4 : Int32)), .val (.int p2), .unset, .val (.ref y), .val (.int (0 : Int32))] [(.int (w0.toUInt32.toUInt16.toUInt32.toInt32)), (.int (0 : Int32)), (.ref y)])) target → Steps p.tables e below (T12.setTop (mkF m 80 #[.val (.ref r0), .val (.int (4 : Int32)), .val (.int p2), .unset, .val (.ref y), .val (.int (0 : Int32))] [(.int w0), (.int (0 : Int32)), (.ref y)])) target := by
        intro target kt
        refine XS.i2c X12.here hx rfl (hb hby d2_80) rfl ?_
        exact kt
      obtain ⟨cl16, Ar16, qc16, Sz16, Mn16, Hs16, Gs16⟩ := id V_y
      have hin16 : ¬ ((0 : Int32) < 0 ∨ cl16.slots.size ≤ ((0 : Int32)).toNatClampNeg) := inb_of Sz16 ⟨by decide, by decide⟩
      obtain ⟨T16, h16, X16, e16, W16, st16⟩ := stC X12 hx hZ e12 Ar16 (j := (0 : Int32)) hin16 (g := (mkF m 81 #[.val (.ref r0), .val (.int (4 : Int32)), .val (.int p2), .unset, .val (.ref y), .val (.int (0 : Int32))] [(.int (w0.toUInt32.toUInt16.toUInt32.toInt32)), (.int (0 : Int32)), (.ref y)])) rfl rfl (hb hby d2_81)
      have V_y_16 : Arv Z h16 y k12 .char (4 : Int32) [(.int (nar .char (w0.toUInt32.toUInt16.toUInt32.toInt32))), (.int (0 : Int32)), (.int (0 : Int32)), (.int (0 : Int32))] (.int (0 : Int32)) := Arv.set Ar16 qc16 Sz16 Mn16 Hs16 Gs16 (fits_nar_char _) W16 0 rfl (Nat.le_of_ble_eq_true rfl)
      have Vv_16 := Vv_12.other W16 ne_r0_y
      have Z_16 : n0 ≤ h16.size := Nat.le_trans Z_12 (Keep.of_wr W16).1
      have Kp_16 : Keep h0 h16 [] := Kp_12.wr W16 (Or.inr sz_y)
      have N16 := Fr.snoc X16 N0 g_y
      have st17 : ∀ target, Steps p.tables e below (T16.setTop (mkF m 79 #[.val (.ref r0), .val (.int (4 : Int32)), .val (.int p2), .unset, .val (.ref y), .val (.int (1 : Int32))] [(.int (1 : Int32)), (.ref r0), (.int (1 : Int32)), (.ref y)])) target → Steps p.tables e below (T16.setTop (mkF m 82 #[.val (.ref r0), .val (.int (4 : Int32)), .val (.int p2), .unset, .val (.ref y), .val (.int (0 : Int32))] [])) target := by
        intro target kt
        refine XS.iinc X16.here hx rfl (hb hby d2_82) rfl (l' := #[.val (.ref r0), .val (.int (4 : Int32)), .val (.int p2), .unset, .val (.ref y), .val (.int (1 : Int32))]) rfl ?_
        refine XS.goto X16.here hx rfl (pc0 := 85) (pc' := 66) rfl (hb hby d2_85) (by decide) (by decide) ?_
        show Steps p.tables e below (T16.setTop (mkF m 66 #[.val (.ref r0), .val (.int (4 : Int32)), .val (.int p2), .unset, .val (.ref y), .val (.int (1 : Int32))] [])) _
        refine XS.iload X16.here hx rfl (hb hby d2_66) rfl ?_
        refine XS.iloadN X16.here hx rfl (hb hby d2_68) rfl ?_
        refine XS.icmpNo X16.here hx rfl (hb hby d2_69) rfl (tlt (by decide : ((1 : Int32) < (4 : Int32)))).2.1 ?_
        refine XS.aload X16.here hx rfl (hb hby d2_72) rfl rfl ?_
        refine XS.iload X16.here hx rfl (hb hby d2_74) rfl ?_
        refine XS.aloadN X16.here hx rfl (hb hby d2_76) rfl rfl ?_
        refine XS.iload X16.here hx rfl (hb hby d2_77) rfl ?_
        exact kt
      obtain ⟨cl18, Ar18, qc18, Sz18, Mn18, Hs18, Gs18⟩ := id Vv_16
      have hin18 : ¬ ((1 : Int32) < 0 ∨ cl18.slots.size ≤ ((1 : Int32)).toNatClampNeg) := inb_of Sz18 ⟨by decide, by decide⟩
      have hat18 : cl18.slots[((1 : Int32)).toNatClampNeg]? = some (.int w1) := Hs18.at hin18 rfl
      have st18 : ∀ target, Steps p.tables e below (T16.setTop (mkF m 80 #[.val (.ref r0), .val (.int (4 : Int32)), .val (.int p2), .unset, .val (.ref y), .val (.int (1 : Int32))] [(.int w1), (.int (1 : Int32)), (.ref y)])) target → Steps p.tables e below (T16.setTop (mkF m 79 #[.val (.ref r0), .val (.int (4 : Int32)), .val (.int p2), .unset, .val (.ref y), .val (.int (1 : Int32))] [(.int (1 : Int32)), (.ref r0), (.int (1 : Int32)), (.ref y)])) target := fun target kt => X16.iaload hx (j := (1 : Int32)) (v := (.int w1)) (by rw [e16]; exact Ar18.1) (State.isArrayOf_alike hZ.alike Ar18.2.1) Ar18.2.2 hin18 hat18 (g := (mkF m 79 #[.val (.ref r0), .val (.int (4 : Int32)), .val (.int p2), .unset, .val (.ref y), .val (.int (1 : Int32))] [(.int (1 : Int32)), (.ref r0), (.int (1 : Int32)), (.ref y)])) rfl rfl (hb hby d2_79) _ kt
      have st19 : ∀ target, Steps p.tables e below (T16.setTop (mkF m 81 #[.val (.ref r0), .val (.int (4 : Int32)), .val (.int p2), .unset, .val (.ref y), .val (.int (1 : Int32))] [(.int (w1.toUInt32.toUInt16.toUInt32.toInt32)), (.int (1 : Int32)), (.ref y)])) target → Steps p.tables e below (T16.setTop (mkF m 80 #[.val (.ref r0), .val (.int (4 : Int32)), .val (.int p2), .unset, .val (.ref y), .val (.int (1 : Int32))] [(.int w1), (.int (1 : Int32)), (.ref y)])) target := by
        intro target kt
        refine XS.i2c X16.here hx rfl (hb hby d2_80) rfl ?_
        exact kt
      obtain ⟨cl20, Ar20, qc20, Sz20, Mn20, Hs20, Gs20⟩ := id V_y_16
      have hin20 : ¬ ((1 : Int32) < 0 ∨ cl20.slots.size ≤ ((1 : Int32)).toNatClampNeg) := inb_of Sz20 ⟨by decide, by decide⟩
      obtain ⟨T20, h20, X20, e20, W20, st20⟩ := stC X16 hx hZ e16 Ar20 (j := (1 : Int32)) hin20 (g := (mkF m 81 #[.val (.ref r0), .val (.int (4 : Int32)), .val (.int p2), .unset, .val (.ref y), .val (.int (1 : Int32))] [(.int (w1.toUInt32.toUInt16.toUInt32.toInt32)), (.int (1 : Int32)), (.ref y)])) rfl rfl (hb hby d2_81)
      have V_y_20 : Arv Z h20 y k12 .char (4 : Int32) [(.int (nar .char (w0.toUInt32.toUInt16.toUInt32.toInt32))), (.int (nar .char (w1.toUInt32.toUInt16.toUInt32.toInt32))), (.int (0 : Int32)), (.int (0 : Int32))] (.int (0 : Int32)) := Arv.set Ar20 qc20 Sz20 Mn20 Hs20 Gs20 (fits_nar_char _) W20 1 rfl (Nat.le_of_ble_eq_true rfl)
      have Vv_20 := Vv_16.other W20 ne_r0_y
      have Z_20 : n0 ≤ h20.size := Nat.le_trans Z_16 (Keep.of_wr W20).1
      have Kp_20 : Keep h0 h20 [] := Kp_16.wr W20 (Or.inr sz_y)
      have N20 := Fr.snoc X20 N16 g_y
      have st21 : ∀ target, Steps p.tables e below (T20.setTop (mkF m 79 #[.val (.ref r0), .val (.int (4 : Int32)), .val (.int p2), .unset, .val (.ref y), .val (.int (2 : Int32))] [(.int (2 : Int32)), (.ref r0), (.int (2 : Int32)), (.ref y)])) target → Steps p.tables e below (T20.setTop (mkF m 82 #[.val (.ref r0), .val (.int (4 : Int32)), .val (.int p2), .unset, .val (.ref y), .val (.int (1 : Int32))] [])) target := by
        intro target kt
        show Steps p.tables e below (T20.setTop (mkF m 82 #[.val (.ref r0), .val (.int (4 : Int32)), .val (.int p2), .unset, .val (.ref y), .val (.int (1 : Int32))] [])) _
        refine XS.iinc X20.here hx rfl (hb hby d2_82) rfl (l' := #[.val (.ref r0), .val (.int (4 : Int32)), .val (.int p2), .unset, .val (.ref y), .val (.int (2 : Int32))]) rfl ?_
        refine XS.goto X20.here hx rfl (pc0 := 85) (pc' := 66) rfl (hb hby d2_85) (by decide) (by decide) ?_
        refine XS.iload X20.here hx rfl (hb hby d2_66) rfl ?_
        refine XS.iloadN X20.here hx rfl (hb hby d2_68) rfl ?_
        refine XS.icmpNo X20.here hx rfl (hb hby d2_69) rfl (tlt (by decide : ((2 : Int32) < (4 : Int32)))).2.1 ?_
        refine XS.aload X20.here hx rfl (hb hby d2_72) rfl rfl ?_
        refine XS.iload X20.here hx rfl (hb hby d2_74) rfl ?_
        refine XS.aloadN X20.here hx rfl (hb hby d2_76) rfl rfl ?_
        show Steps p.tables e below (T20.setTop (mkF m 77 #[.val (.ref r0), .val (.int (4 : Int32)), .val (.int p2), .unset, .val (.ref y), .val (.int (2 : Int32))] [(.ref r0), (.int (2 : Int32)), (.ref y)])) _
        refine XS.iload X20.here hx rfl (hb hby d2_77) rfl ?_
        exact kt
      obtain ⟨cl22, Ar22, qc22, Sz22, Mn22, Hs22, Gs22⟩ := id Vv_20
      have hin22 : ¬ ((2 : Int32) < 0 ∨ cl22.slots.size ≤ ((2 : Int32)).toNatClampNeg) := inb_of Sz22 ⟨by decide, by decide⟩
      have hat22 : cl22.slots[((2 : Int32)).toNatClampNeg]? = some (.int w2) := Hs22.at hin22 rfl
      have st22 : ∀ target, Steps p.tables e below (T20.setTop (mkF m 80 #[.val (.ref r0), .val (.int (4 : Int32)), .val (.int p2), .unset, .val (.ref y), .val (.int (2 : Int32))] [(.int w2), (.int (2 : Int32)), (.ref y)])) target → Steps p.tables e below (T20.setTop (mkF m 79 #[.val (.ref r0), .val (.int (4 : Int32)), .val (.int p2), .unset, .val (.ref y), .val (.int (2 : Int32))] [(.int (2 : Int32)), (.ref r0), (.int (2 : Int32)), (.ref y)])) target := fun target kt => X20.iaload hx (j := (2 : Int32)) (v := (.int w2)) (by rw [e20]; exact Ar22.1) (State.isArrayOf_alike hZ.alike Ar22.2.1) Ar22.2.2 hin22 hat22 (g := (mkF m 79 #[.val (.ref r0), .val (.int (4 : Int32)), .val (.int p2), .unset, .val (.ref y), .val (.int (2 : Int32))] [(.int (2 : Int32)), (.ref r0), (.int (2 : Int32)), (.ref y)])) rfl rfl (hb hby d2_79) _ kt
      have st23 : ∀ target, Steps p.tables e below (T20.setTop (mkF m 81 #[.val (.ref r0), .val (.int (4 : Int32)), .val (.int p2), .unset, .val (.ref y), .val (.int (2 : Int32))] [(.int (w2.toUInt32.toUInt16.toUInt32.toInt32)), (.int (2 : Int32)), (.ref y)])) target → Steps p.tables e below (T20.setTop (mkF m 80 #[.val (.ref r0), .val (.int (4 : Int32)), .val (.int p2), .unset, .val (.ref y), .val (.int (2 : Int32))] [(.int w2), (.int (2 : Int32)), (.ref y)])) target := by
        intro target kt
        refine XS.i2c X20.here hx rfl (hb hby d2_80) rfl ?_
        exact kt
      obtain ⟨cl24, Ar24, qc24, Sz24, Mn24, Hs24, Gs24⟩ := id V_y_20
      have hin24 : ¬ ((2 : Int32) < 0 ∨ cl24.slots.size ≤ ((2 : Int32)).toNatClampNeg) := inb_of Sz24 ⟨by decide, by decide⟩
      obtain ⟨T24, h24, X24, e24, W24, st24⟩ := stC X20 hx hZ e20 Ar24 (j := (2 : Int32)) hin24 (g := (mkF m 81 #[.val (.ref r0), .val (.int (4 : Int32)), .val (.int p2), .unset, .val (.ref y), .val (.int (2 : Int32))] [(.int (w2.toUInt32.toUInt16.toUInt32.toInt32)), (.int (2 : Int32)), (.ref y)])) rfl rfl (hb hby d2_81)
      have V_y_24 : Arv Z h24 y k12 .char (4 : Int32) [(.int (nar .char (w0.toUInt32.toUInt16.toUInt32.toInt32))), (.int (nar .char (w1.toUInt32.toUInt16.toUInt32.toInt32))), (.int (nar .char (w2.toUInt32.toUInt16.toUInt32.toInt32))), (.int (0 : Int32))] (.int (0 : Int32)) := Arv.set Ar24 qc24 Sz24 Mn24 Hs24 Gs24 (fits_nar_char _) W24 2 rfl (Nat.le_of_ble_eq_true rfl)
      have Vv_24 := Vv_20.other W24 ne_r0_y
      have Z_24 : n0 ≤ h24.size := Nat.le_trans Z_20 (Keep.of_wr W24).1
      have Kp_24 : Keep h0 h24 [] := Kp_20.wr W24 (Or.inr sz_y)
      have N24 := Fr.snoc X24 N20 g_y
      have st25 : ∀ target, Steps p.tables e below (T24.setTop (mkF m 79 #[.val (.ref r0), .val (.int (4 : Int32)), .val (.int p2), .unset, .val (.ref y), .val (.int (3 : Int32))] [(.int (3 : Int32)), (.ref r0), (.int (3 : Int32)), (.ref y)])) target → Steps p.tables e below (T24.setTop (mkF m 82 #[.val (.ref r0), .val (.int (4 : Int32)), .val (.int p2), .unset, .val (.ref y), .val (.int (2 : Int32))] [])) target := by
        intro target kt
        refine XS.iinc X24.here hx rfl (hb hby d2_82) rfl (l' := #[.val (.ref r0), .val (.int (4 : Int32)), .val (.int p2), .unset, .val (.ref y), .val (.int (3 : Int32))]) rfl ?_
        refine XS.goto X24.here hx rfl (pc0 := 85) (pc' := 66) rfl (hb hby d2_85) (by decide) (by decide) ?_
        refine XS.iload X24.here hx rfl (hb hby d2_66) rfl ?_
        refine XS.iloadN X24.here hx rfl (hb hby d2_68) rfl ?_
        refine XS.icmpNo X24.here hx rfl (hb hby d2_69) rfl (tlt (by decide : ((3 : Int32) < (4 : Int32)))).2.1 ?_
        refine XS.aload X24.here hx rfl (hb hby d2_72) rfl rfl ?_
        show Steps p.tables e below (T24.setTop (mkF m 74 #[.val (.ref r0), .val (.int (4 : Int32)), .val (.int p2), .unset, .val (.ref y), .val (.int (3 : Int32))] [(.ref y)])) _
        refine XS.iload X24.here hx rfl (hb hby d2_74) rfl ?_
        refine XS.aloadN X24.here hx rfl (hb hby d2_76) rfl rfl ?_
        refine XS.iload X24.here hx rfl (hb hby d2_77) rfl ?_
        exact kt
      obtain ⟨cl26, Ar26, qc26, Sz26, Mn26, Hs26, Gs26⟩ := id Vv_24
      have hin26 : ¬ ((3 : Int32) < 0 ∨ cl26.slots.size ≤ ((3 : Int32)).toNatClampNeg) := inb_of Sz26 ⟨by decide, by decide⟩
      have hat26 : cl26.slots[((3 : Int32)).toNatClampNeg]? = some (.int w3) := Hs26.at hin26 rfl
      have st26 : ∀ target, Steps p.tables e below (T24.setTop (mkF m 80 #[.val (.ref r0), .val (.int (4 : Int32)), .val (.int p2), .unset, .val (.ref y), .val (.int (3 : Int32))] [(.int w3), (.int (3 : Int32)), (.ref y)])) target → Steps p.tables e below (T24.setTop (mkF m 79 #[.val (.ref r0), .val (.int (4 : Int32)), .val (.int p2), .unset, .val (.ref y), .val (.int (3 : Int32))] [(.int (3 : Int32)), (.ref r0), (.int (3 : Int32)), (.ref y)])) target := fun target kt => X24.iaload hx (j := (3 : Int32)) (v := (.int w3)) (by rw [e24]; exact Ar26.1) (State.isArrayOf_alike hZ.alike Ar26.2.1) Ar26.2.2 hin26 hat26 (g := (mkF m 79 #[.val (.ref r0), .val (.int (4 : Int32)), .val (.int p2), .unset, .val (.ref y), .val (.int (3 : Int32))] [(.int (3 : Int32)), (.ref r0), (.int (3 : Int32)), (.ref y)])) rfl rfl (hb hby d2_79) _ kt
      have st27 : ∀ target, Steps p.tables e below (T24.setTop (mkF m 81 #[.val (.ref r0), .val (.int (4 : Int32)), .val (.int p2), .unset, .val (.ref y), .val (.int (3 : Int32))] [(.int (w3.toUInt32.toUInt16.toUInt32.toInt32)), (.int (3 : Int32)), (.ref y)])) target → Steps p.tables e below (T24.setTop (mkF m 80 #[.val (.ref r0), .val (.int (4 : Int32)), .val (.int p2), .unset, .val (.ref y), .val (.int (3 : Int32))] [(.int w3), (.int (3 : Int32)), (.ref y)])) target := by
        intro target kt
        refine XS.i2c X24.here hx rfl (hb hby d2_80) rfl ?_
        exact kt
      obtain ⟨cl28, Ar28, qc28, Sz28, Mn28, Hs28, Gs28⟩ := id V_y_24
      have hin28 : ¬ ((3 : Int32) < 0 ∨ cl28.slots.size ≤ ((3 : Int32)).toNatClampNeg) := inb_of Sz28 ⟨by decide, by decide⟩
      obtain ⟨T28, h28, X28, e28, W28, st28⟩ := stC X24 hx hZ e24 Ar28 (j := (3 : Int32)) hin28 (g := (mkF m 81 #[.val (.ref r0), .val (.int (4 : Int32)), .val (.int p2), .unset, .val (.ref y), .val (.int (3 : Int32))] [(.int (w3.toUInt32.toUInt16.toUInt32.toInt32)), (.int (3 : Int32)), (.ref y)])) rfl rfl (hb hby d2_81)
      have V_y_28 : Arv Z h28 y k12 .char (4 : Int32) [(.int (nar .char (w0.toUInt32.toUInt16.toUInt32.toInt32))), (.int (nar .char (w1.toUInt32.toUInt16.toUInt32.toInt32))), (.int (nar .char (w2.toUInt32.toUInt16.toUInt32.toInt32))), (.int (nar .char (w3.toUInt32.toUInt16.toUInt32.toInt32)))] (.int (0 : Int32)) := Arv.set Ar28 qc28 Sz28 Mn28 Hs28 Gs28 (fits_nar_char _) W28 3 rfl (Nat.le_of_ble_eq_true rfl)
      have Vv_28 := Vv_24.other W28 ne_r0_y
      have Z_28 : n0 ≤ h28.size := Nat.le_trans Z_24 (Keep.of_wr W28).1
      have Kp_28 : Keep h0 h28 [] := Kp_24.wr W28 (Or.inr sz_y)
      have N28 := Fr.snoc X28 N24 g_y
      have st29 : ∀ target, Steps p.tables e below (T28.setTop (mkF m 88 #[.val (.ref r0), .val (.int (4 : Int32)), .val (.int p2), .unset, .val (.ref y), .val (.int (4 : Int32))] [])) target → Steps p.tables e below (T28.setTop (mkF m 82 #[.val (.ref r0), .val (.int (4 : Int32)), .val (.int p2), .unset, .val (.ref y), .val (.int (3 : Int32))] [])) target := by
        intro target kt
        refine XS.iinc X28.here hx rfl (hb hby d2_82) rfl (l' := #[.val (.ref r0), .val (.int (4 : Int32)), .val (.int p2), .unset, .val (.ref y), .val (.int (4 : Int32))]) rfl ?_
        refine XS.goto X28.here hx rfl (pc0 := 85) (pc' := 66) rfl (hb hby d2_85) (by decide) (by decide) ?_
        refine XS.iload X28.here hx rfl (hb hby d2_66) rfl ?_
        refine XS.iloadN X28.here hx rfl (hb hby d2_68) rfl ?_
        show Steps p.tables e below (T28.setTop (mkF m 69 #[.val (.ref r0), .val (.int (4 : Int32)), .val (.int p2), .unset, .val (.ref y), .val (.int (4 : Int32))] [(.int (4 : Int32)), (.int (4 : Int32))])) _
        refine XS.icmpYes X28.here hx rfl (pc0 := 69) (pc' := 88) rfl (hb hby d2_69) rfl (flt (by decide : ¬ ((4 : Int32) < (4 : Int32)))).2.1 (by decide) (by decide) ?_
        exact kt
      obtain ⟨T30, h30, X30, e30, E30, A30, D30, -, st30⟩ := newO X28 hx hZ hown (hw _ (List.mem_of_getElem? (i := 11) rfl)) (hw _ (List.mem_of_getElem? (i := 12) rfl)) (hw _ (List.mem_of_getElem? (i := 8) rfl)) e28 (g := (mkF m 88 #[.val (.ref r0), .val (.int (4 : Int32)), .val (.int p2), .unset, .val (.ref y), .val (.int (4 : Int32))] [])) rfl (hb hby d2_88) (by decide) (by decide)
      obtain ⟨b, g30⟩ : ∃ z, z = h28.size := ⟨_, rfl⟩
      rw [← g30] at A30 D30 st30
      have g_b : n0 ≤ b := Nat.le_trans Z_28 (Nat.le_of_eq g30.symm)
      have sz_b : h0.size ≤ b := Nat.le_trans Kp_28.1 (Nat.le_of_eq g30.symm)
      have ne_r0_b : r0 ≠ b := Nat.ne_of_lt (Nat.lt_of_lt_of_le Vv_28.lt (Nat.le_of_eq g30.symm))
      have ne_y_b : y ≠ b := Nat.ne_of_lt (Nat.lt_of_lt_of_le V_y_28.lt (Nat.le_of_eq g30.symm))
      have Vv_30 := Vv_28.ext E30
      have V_y_30 := V_y_28.ext E30
      have Z_30 : n0 ≤ h30.size := Nat.le_trans Z_28 E30.1
      have Kp_30 : Keep h0 h30 [] := Kp_28.ext E30
      have E_b : Exa Z h30 b "com/example/libbisim/libbisim/CompactInts" := A30
      have F_bytes_b : Fld Z h30 b "com/example/libbisim/libbisim/CompactInts" "bytes" "[B" .null := D30 (Or.inr (hw _ (List.mem_of_getElem? (i := 20) rfl))) (ty := (.array .byte)) (by decide)
      have F_chars_b : Fld Z h30 b "com/example/libbisim/libbisim/CompactInts" "chars" "[C" .null := D30 (Or.inr (hw _ (List.mem_of_getElem? (i := 22) rfl))) (ty := (.array .char)) (by decide)
      have F_ints_b : Fld Z h30 b "com/example/libbisim/libbisim/CompactInts" "ints" "[I" .null := D30 (Or.inr (hw _ (List.mem_of_getElem? (i := 24) rfl))) (ty := (.array .int)) (by decide)
      have st31 : ∀ target, Steps p.tables e below (T30.setTop (mkF m 96 #[.val (.ref r0), .val (.int (4 : Int32)), .val (.int p2), .unset, .val (.ref y), .val (.int (4 : Int32))] [.null, (.ref y), .null, (.ref b), (.ref b)])) target → Steps p.tables e below (T30.setTop (mkF m 91 #[.val (.ref r0), .val (.int (4 : Int32)), .val (.int p2), .unset, .val (.ref y), .val (.int (4 : Int32))] [(.ref b)])) target := by
        intro target kt
        refine XS.dup X30.here hx rfl (hb hby d2_91) rfl rfl ?_
        refine XS.aconstNull X30.here hx rfl (hb hby d2_92) ?_
        refine XS.aload X30.here hx rfl (hb hby d2_93) rfl rfl ?_
        refine XS.aconstNull X30.here hx rfl (hb hby d2_95) ?_
        exact kt
      obtain ⟨_, _, ⟨T32, L32, k32, n32⟩, -, X32, ⟨Lc32, hQ32, l32, y32, z32⟩, st32⟩ := X30.specialBack hx (y := (⟨"com/example/libbisim/libbisim/CompactInts", "<init>", "([B[C[I)V"⟩ : MethodName)) rfl hown (mvT hZ (hw _ (List.mem_of_getElem? (i := 13) rfl))) (mvT hZ (hw _ (List.mem_of_getElem? (i := 14) rfl))) (mvT hZ (hw _ (List.mem_of_getElem? (i := 15) rfl))) (by decide) (backOf (W := 1) (rmI2 l Z a0 hw [] b y  h30 n0 Z_30 F_bytes_b F_chars_b F_ints_b E_b g_b) hZ (hw _ (List.mem_of_getElem? (i := 15) rfl)) (hw _ (List.mem_of_getElem? (i := 8) rfl)) (by decide) (by decide)) (g := (mkF m 96 #[.val (.ref r0), .val (.int (4 : Int32)), .val (.int p2), .unset, .val (.ref y), .val (.int (4 : Int32))] [.null, (.ref y), .null, (.ref b), (.ref b)])) rfl (by rw [hml]; rfl) (Steps.refl _) (a := b) (argsL := [.null, (.ref y), .null]) (rest := [(.ref b)]) (lenOf pd_2 rfl) rfl (by show 2 * 0 + _ ≤ _; exact Nat.le_of_eq rfl) (hb hby d2_96) (fun _ _ => ⟨rfl, e30, (by decide : 2 + 0 ≤ _), (by decide : 7 + 0 ≤ _)⟩)
      dsimp only [Pt.U, Pt.locs, Pt.cells, Pt.slots] at X32 l32 y32 z32 st32 hQ32
      subst l32 y32 z32
      obtain ⟨rfl, Nq32, K32, E_b_i, F_bytes_b_i, F_chars_b_i, F_ints_b_i⟩ := hQ32
      have N32 := Fr.app N28 Nq32
      have Vv_32 := Vv_30.keep K32 (ninS ne_r0_b nin0)
      have V_y_32 := V_y_30.keep K32 (ninS ne_y_b nin0)
      have E_b_32 := E_b.keep K32
      have Z_32 : n0 ≤ T32.heap.size := Nat.le_trans Z_30 K32.1
      have Kp_32 : Keep h0 T32.heap [] := Kp_30.trans K32 (allS (Or.inr sz_b) (all0))
      obtain ⟨fs, hr, hrun, hended, hW, hsame⟩ := X32.leave (v := some (.ref b)) (fun h => by rw [Bd.returns] at h; cases h)
      refine ⟨_, _, pre0 _ (st1 _ (st2 _ (st3 _ (st10 _ (st11 _ (st12 _ (st13 _ (st14 _ (st15 _ (st16 _ (st17 _ (st18 _ (st19 _ (st20 _ (st21 _ (st22 _ (st23 _ (st24 _ (st25 _ (st26 _ (st27 _ (st28 _ (st29 _ (st30 _ (st31 _ (st32.trans ?_)))))))))))))))))))))))))), hrun, hended, _, _, rfl, ?_, ⟨_, rfl⟩, hW, hsame.mono (by decide) (by decide)⟩
      · refine XS.astoreN X32.here hx rfl (hb hby d2_99) rfl rfl (l' := #[.val (.ref r0), .val (.int (4 : Int32)), .val (.int p2), .val (.ref b), .val (.ref y), .val (.int (4 : Int32))]) rfl ?_
        refine XS.goto X32.here hx rfl (pc0 := 100) (pc' := 128) rfl (hb hby d2_100) (by decide) (by decide) ?_
        refine XS.aloadN X32.here hx rfl (hb hby d2_128) rfl rfl ?_
        show Steps p.tables e below (T32.setTop (mkF m 129 #[.val (.ref r0), .val (.int (4 : Int32)), .val (.int p2), .val (.ref b), .val (.ref y), .val (.int (4 : Int32))] [(.ref b)])) _
        jvm_step X32.here [X32.here.top, hx, (hb hby d2_129), X32.method', Bd.returns, Value.isRef, FieldType.isReference]
        first | (intro acts; rw [hr _ acts rfl rfl rfl]) | rw [hr _ _ rfl rfl rfl]
        exact Steps.refl _
      · show Q_rmOf4 Z r0 p2 kv w0 w1 w2 w3 h0 n0 _ T32.heap _
        exact ⟨b, rfl, N32, Kp_32, sz_b, E_b_i, Or.inr (Or.inl ⟨hc4, hc55, y, _, sz_y, F_bytes_b_i, F_chars_b_i, V_y_32⟩)⟩
  · have st33 : ∀ target, Steps p.tables e below (s₁.setTop (mkF m 7 #[.val (.ref r0), .val (.int (4 : Int32)), .val (.int p2), .unset, .unset, .unset] [])) target → Steps p.tables e below (s₁.setTop (mkF m 4 #[.val (.ref r0), .val (.int (4 : Int32)), .val (.int p2), .unset, .unset, .unset] [(.int (256 : Int32)), (.int p2)])) target := by
      intro target kt
      show Steps p.tables e below (s₁.setTop (mkF m 4 #[.val (.ref r0), .val (.int (4 : Int32)), .val (.int p2), .unset, .unset, .unset] [(.int (256 : Int32)), (.int p2)])) _
      refine XS.icmpNo X0.here hx rfl (hb hby d2_4) rfl (flt hc4).2.2.1 ?_
      exact kt
    have st34 : ∀ target, Steps p.tables e below (s₁.setTop (mkF m 8 #[.val (.ref r0), .val (.int (4 : Int32)), .val (.int p2), .unset, .unset, .unset] [(.int (4 : Int32))])) target → Steps p.tables e below (s₁.setTop (mkF m 7 #[.val (.ref r0), .val (.int (4 : Int32)), .val (.int p2), .unset, .unset, .unset] [])) target := by
      intro target kt
      refine XS.iloadN X0.here hx rfl (hb hby d2_7) rfl ?_
      exact kt
    obtain ⟨T35, h35, k35, X35, e35, E35, A35, st35⟩ := newP X0 hx hZ (hw _ (List.mem_of_getElem? (i := 10) rfl)) e0 (g := (mkF m 8 #[.val (.ref r0), .val (.int (4 : Int32)), .val (.int p2), .unset, .unset, .unset] [(.int (4 : Int32))])) rfl (hb hby d2_8) rfl (by decide) (cap := 4) (by decide) (by decide) (by decide) (by decide)
    obtain ⟨y, g35⟩ : ∃ z, z = h0.size := ⟨_, rfl⟩
    rw [← g35] at A35 st35
    have g_y : n0 ≤ y := Nat.le_trans Z0 (Nat.le_of_eq g35.symm)
    have sz_y : h0.size ≤ y := Nat.le_trans Kp.1 (Nat.le_of_eq g35.symm)
    have ne_r0_y : r0 ≠ y := Nat.ne_of_lt (Nat.lt_of_lt_of_le Vv.lt (Nat.le_of_eq g35.symm))
    have Vv_35 := Vv.ext E35
    have Z_35 : n0 ≤ h35.size := Nat.le_trans Z0 E35.1
    have Kp_35 : Keep h0 h35 [] := Kp.ext E35
    have V_y : Arv Z h35 y k35 .byte (4 : Int32) [(.int (0 : Int32)), (.int (0 : Int32)), (.int (0 : Int32)), (.int (0 : Int32))] (.int (0 : Int32)) := (Arv.new A35 (by decide)).pad (pad_rep [] (.int (0 : Int32)) 4)
    have st36 : ∀ target, Steps p.tables e below (T35.setTop (mkF m 28 #[.val (.ref r0), .val (.int (4 : Int32)), .val (.int p2), .unset, .val (.ref y), .val (.int (0 : Int32))] [(.int (0 : Int32)), (.ref r0), (.int (0 : Int32)), (.ref y)])) target → Steps p.tables e below (T35.setTop (mkF m 10 #[.val (.ref r0), .val (.int (4 : Int32)), .val (.int p2), .unset, .unset, .unset] [(.ref y)])) target := by
      intro target kt
      refine XS.astore X35.here hx rfl (hb hby d2_10) rfl rfl (l' := #[.val (.ref r0), .val (.int (4 : Int32)), .val (.int p2), .unset, .val (.ref y), .unset]) rfl ?_
      refine XS.iconst X35.here hx rfl (hb hby d2_12) ?_
      refine XS.istore X35.here hx rfl (hb hby d2_13) rfl (l' := #[.val (.ref r0), .val (.int (4 : Int32)), .val (.int p2), .unset, .val (.ref y), .val (.int (0 : Int32))]) rfl ?_
      refine XS.iload X35.here hx rfl (hb hby d2_15) rfl ?_
      refine XS.iloadN X35.here hx rfl (hb hby d2_17) rfl ?_
      refine XS.icmpNo X35.here hx rfl (hb hby d2_18) rfl (tlt (by decide : ((0 : Int32) < (4 : Int32)))).2.1 ?_
      show Steps p.tables e below (T35.setTop (mkF m 21 #[.val (.ref r0), .val (.int (4 : Int32)), .val (.int p2), .unset, .val (.ref y), .val (.int (0 : Int32))] [])) _
      refine XS.aload X35.here hx rfl (hb hby d2_21) rfl rfl ?_
      refine XS.iload X35.here hx rfl (hb hby d2_23) rfl ?_
      refine XS.aloadN X35.here hx rfl (hb hby d2_25) rfl rfl ?_
      refine XS.iload X35.here hx rfl (hb hby d2_26) rfl ?_
      exact kt
    obtain ⟨cl37, Ar37, qc37, Sz37, Mn37, Hs37, Gs37⟩ := id Vv_35
    have hin37 : ¬ ((0 : Int32) < 0 ∨ cl37.slots.size ≤ ((0 : Int32)).toNatClampNeg) := inb_of Sz37 ⟨by decide, by decide⟩
    have hat37 : cl37.slots[((0 : Int32)).toNatClampNeg]? = some (.int w0) := Hs37.at hin37 rfl
    have st37 : ∀ target, Steps p.tables e below (T35.setTop (mkF m 29 #[.val (.ref r0), .val (.int (4 : Int32)), .val (.int p2), .unset, .val (.ref y), .val (.int (0 : Int32))] [(.int w0), (.int (0 : Int32)), (.ref y)])) target → Steps p.tables e below (T35.setTop (mkF m 28 #[.val (.ref r0), .val (.int (4 : Int32)), .val (.int p2), .unset, .val (.ref y), .val (.int (0 : Int32))] [(.int (0 : Int32)), (.ref r0), (.int (0 : Int32)), (.ref y)])) target := fun target kt => X35.iaload hx (j := (0 : Int32)) (v := (.int w0)) (by rw [e35]; exact Ar37.1) (State.isArrayOf_alike hZ.alike Ar37.2.1) Ar37.2.2 hin37 hat37 (g := (mkF m 28 #[.val (.ref r0), .val (.int (4 : Int32)), .val (.int p2), .unset, .val (.ref y), .val (.int (0 : Int32))] [(.int (0 : Int32)), (.ref r0), (.int (0 : Int32)), (.ref y)])) rfl rfl (hb hby d2_28) _ kt
    have st38 : ∀ target, Steps p.tables e below (T35.setTop (mkF m 30 #[.val (.ref r0), .val (.int (4 : Int32)), .val (.int p2), .unset, .val (.ref y), .val (.int (0 : Int32))] [(.int (w0.toInt8.toInt32)), (.int (0 : Int32)), (.ref y)])) target → Steps p.tables e below (T35.setTop (mkF m 29 #[.val (.ref r0), .val (.int (4 : Int32)), .val (.int p2), .unset, .val (.ref y), .val (.int (0 : Int32))] [(.int w0), (.int (0 : Int32)), (.ref y)])) target := by
      intro target kt
      refine XS.i2b X35.here hx rfl (hb hby d2_29) rfl ?_
      exact kt
    obtain ⟨cl39, Ar39, qc39, Sz39, Mn39, Hs39, Gs39⟩ := id V_y
    have hin39 : ¬ ((0 : Int32) < 0 ∨ cl39.slots.size ≤ ((0 : Int32)).toNatClampNeg) := inb_of Sz39 ⟨by decide, by decide⟩
    obtain ⟨T39, h39, X39, e39, W39, st39⟩ := stB X35 hx hZ e35 Ar39 (j := (0 : Int32)) hin39 (g := (mkF m 30 #[.val (.ref r0), .val (.int (4 : Int32)), .val (.int p2), .unset, .val (.ref y), .val (.int (0 : Int32))] [(.int (w0.toInt8.toInt32)), (.int (0 : Int32)), (.ref y)])) rfl rfl (hb hby d2_30)
    have V_y_39 : Arv Z h39 y k35 .byte (4 : Int32) [(.int (nar .byte (w0.toInt8.toInt32))), (.int (0 : Int32)), (.int (0 : Int32)), (.int (0 : Int32))] (.int (0 : Int32)) := Arv.set Ar39 qc39 Sz39 Mn39 Hs39 Gs39 (fits_nar_byte _) W39 0 rfl (Nat.le_of_ble_eq_true rfl)
    have Vv_39 := Vv_35.other W39 ne_r0_y
    have Z_39 : n0 ≤ h39.size := Nat.le_trans Z_35 (Keep.of_wr W39).1
    have Kp_39 : Keep h0 h39 [] := Kp_35.wr W39 (Or.inr sz_y)
    have N39 := Fr.snoc X39 N0 g_y
    have st40 : ∀ target, Steps p.tables e below (T39.setTop (mkF m 28 #[.val (.ref r0), .val (.int (4 : Int32)), .val (.int p2), .unset, .val (.ref y), .val (.int (1 : Int32))] [(.int (1 : Int32)), (.ref r0), (.int (1 : Int32)), (.ref y)])) target → Steps p.tables e below (T39.setTop (mkF m 31 #[.val (.ref r0), .val (.int (4 : Int32)), .val (.int p2), .unset, .val (.ref y), .val (.int (0 : Int32))] [])) target := by
      intro target kt
      refine XS.iinc X39.here hx rfl (hb hby d2_31) rfl (l' := #[.val (.ref r0), .val (.int (4 : Int32)), .val (.int p2), .unset, .val (.ref y), .val (.int (1 : Int32))]) rfl ?_
      refine XS.goto X39.here hx rfl (pc0 := 34) (pc' := 15) rfl (hb hby d2_34) (by decide) (by decide) ?_
      refine XS.iload X39.here hx rfl (hb hby d2_15) rfl ?_
      show Steps p.tables e below (T39.setTop (mkF m 17 #[.val (.ref r0), .val (.int (4 : Int32)), .val (.int p2), .unset, .val (.ref y), .val (.int (1 : Int32))] [(.int (1 : Int32))])) _
      refine XS.iloadN X39.here hx rfl (hb hby d2_17) rfl ?_
      refine XS.icmpNo X39.here hx rfl (hb hby d2_18) rfl (tlt (by decide : ((1 : Int32) < (4 : Int32)))).2.1 ?_
      refine XS.aload X39.here hx rfl (hb hby d2_21) rfl rfl ?_
      refine XS.iload X39.here hx rfl (hb hby d2_23) rfl ?_
      refine XS.aloadN X39.here hx rfl (hb hby d2_25) rfl rfl ?_
      refine XS.iload X39.here hx rfl (hb hby d2_26) rfl ?_
      exact kt
    obtain ⟨cl41, Ar41, qc41, Sz41, Mn41, Hs41, Gs41⟩ := id Vv_39
    have hin41 : ¬ ((1 : Int32) < 0 ∨ cl41.slots.size ≤ ((1 : Int32)).toNatClampNeg) := inb_of Sz41 ⟨by decide, by decide⟩
    have hat41 : cl41.slots[((1 : Int32)).toNatClampNeg]? = some (.int w1) := Hs41.at hin41 rfl
    have st41 : ∀ target, Steps p.tables e below (T39.setTop (mkF m 29 #[.val (.ref r0), .val (.int (4 : Int32)), .val (.int p2), .unset, .val (.ref y), .val (.int (1 : Int32))] [(.int w1), (.int (1 : Int32)), (.ref y)])) target → Steps p.tables e below (T39.setTop (mkF m 28 #[.val (.ref r0), .val (.int (4 : Int32)), .val (.int p2), .unset, .val (.ref y), .val (.int (1 : Int32))] [(.int (1 : Int32)), (.ref r0), (.int (1 : Int32)), (.ref y)])) target := fun target kt => X39.iaload hx (j := (1 : Int32)) (v := (.int w1)) (by rw [e39]; exact Ar41.1) (State.isArrayOf_alike hZ.alike Ar41.2.1) Ar41.2.2 hin41 hat41 (g := (mkF m 28 #[.val (.ref r0), .val (.int (4 : Int32)), .val (.int p2), .unset, .val (.ref y), .val (.int (1 : Int32))] [(.int (1 : Int32)), (.ref r0), (.int (1 : Int32)), (.ref y)])) rfl rfl (hb hby d2_28) _ kt
    have st42 : ∀ target, Steps p.tables e below (T39.setTop (mkF m 30 #[.val (.ref r0), .val (.int (4 : Int32)), .val (.int p2), .unset, .val (.ref y), .val (.int (1 : Int32))] [(.int (w1.toInt8.toInt32)), (.int (1 : Int32)), (.ref y)])) target → Steps p.tables e below (T39.setTop (mkF m 29 #[.val (.ref r0), .val (.int (4 : Int32)), .val (.int p2), .unset, .val (.ref y), .val (.int (1 : Int32))] [(.int w1), (.int (1 : Int32)), (.ref y)])) target := by
      intro target kt
      refine XS.i2b X39.here hx rfl (hb hby d2_29) rfl ?_
      exact kt
    obtain ⟨cl43, Ar43, qc43, Sz43, Mn43, Hs43, Gs43⟩ := id V_y_39
    have hin43 : ¬ ((1 : Int32) < 0 ∨ cl43.slots.size ≤ ((1 : Int32)).toNatClampNeg) := inb_of Sz43 ⟨by decide, by decide⟩
    obtain ⟨T43, h43, X43, e43, W43, st43⟩ := stB X39 hx hZ e39 Ar43 (j := (1 : Int32)) hin43 (g := (mkF m 30 #[.val (.ref r0), .val (.int (4 : Int32)), .val (.int p2), .unset, .val (.ref y), .val (.int (1 : Int32))] [(.int (w1.toInt8.toInt32)), (.int (1 : Int32)), (.ref y)])) rfl rfl (hb hby d2_30)
    have V_y_43 : Arv Z h43 y k35 .byte (4 : Int32) [(.int (nar .byte (w0.toInt8.toInt32))), (.int (nar .byte (w1.toInt8.toInt32))), (.int (0 : Int32)), (.int (0 : Int32))] (.int (0 : Int32)) := Arv.set Ar43 qc43 Sz43 Mn43 Hs43 Gs43 (fits_nar_byte _) W43 1 rfl (Nat.le_of_ble_eq_true rfl)
    have Vv_43 := Vv_39.other W43 ne_r0_y
    have Z_43 : n0 ≤ h43.size := Nat.le_trans Z_39 (Keep.of_wr W43).1
    have Kp_43 : Keep h0 h43 [] := Kp_39.wr W43 (Or.inr sz_y)
    have N43 := Fr.snoc X43 N39 g_y
    have st44 : ∀ target, Steps p.tables e below (T43.setTop (mkF m 28 #[.val (.ref r0), .val (.int (4 : Int32)), .val (.int p2), .unset, .val (.ref y), .val (.int (2 : Int32))] [(.int (2 : Int32)), (.ref r0), (.int (2 : Int32)), (.ref y)])) target → Steps p.tables e below (T43.setTop (mkF m 31 #[.val (.ref r0), .val (.int (4 : Int32)), .val (.int p2), .unset, .val (.ref y), .val (.int (1 : Int32))] [])) target := by
      intro target kt
      refine XS.iinc X43.here hx rfl (hb hby d2_31) rfl (l' := #[.val (.ref r0), .val (.int (4 : Int32)), .val (.int p2), .unset, .val (.ref y), .val (.int (2 : Int32))]) rfl ?_
      show Steps p.tables e below (T43.setTop (mkF m 34 #[.val (.ref r0), .val (.int (4 : Int32)), .val (.int p2), .unset, .val (.ref y), .val (.int (2 : Int32))] [])) _
      refine XS.goto X43.here hx rfl (pc0 := 34) (pc' := 15) rfl (hb hby d2_34) (by decide) (by decide) ?_
      refine XS.iload X43.here hx rfl (hb hby d2_15) rfl ?_
      refine XS.iloadN X43.here hx rfl (hb hby d2_17) rfl ?_
      refine XS.icmpNo X43.here hx rfl (hb hby d2_18) rfl (tlt (by decide : ((2 : Int32) < (4 : Int32)))).2.1 ?_
      refine XS.aload X43.here hx rfl (hb hby d2_21) rfl rfl ?_
      refine XS.iload X43.here hx rfl (hb hby d2_23) rfl ?_
      refine XS.aloadN X43.here hx rfl (hb hby d2_25) rfl rfl ?_
      refine XS.iload X43.here hx rfl (hb hby d2_26) rfl ?_
      exact kt
    obtain ⟨cl45, Ar45, qc45, Sz45, Mn45, Hs45, Gs45⟩ := id Vv_43
    have hin45 : ¬ ((2 : Int32) < 0 ∨ cl45.slots.size ≤ ((2 : Int32)).toNatClampNeg) := inb_of Sz45 ⟨by decide, by decide⟩
    have hat45 : cl45.slots[((2 : Int32)).toNatClampNeg]? = some (.int w2) := Hs45.at hin45 rfl
    have st45 : ∀ target, Steps p.tables e below (T43.setTop (mkF m 29 #[.val (.ref r0), .val (.int (4 : Int32)), .val (.int p2), .unset, .val (.ref y), .val (.int (2 : Int32))] [(.int w2), (.int (2 : Int32)), (.ref y)])) target → Steps p.tables e below (T43.setTop (mkF m 28 #[.val (.ref r0), .val (.int (4 : Int32)), .val (.int p2), .unset, .val (.ref y), .val (.int (2 : Int32))] [(.int (2 : Int32)), (.ref r0), (.int (2 : Int32)), (.ref y)])) target := fun target kt => X43.iaload hx (j := (2 : Int32)) (v := (.int w2)) (by rw [e43]; exact Ar45.1) (State.isArrayOf_alike hZ.alike Ar45.2.1) Ar45.2.2 hin45 hat45 (g := (mkF m 28 #[.val (.ref r0), .val (.int (4 : Int32)), .val (.int p2), .unset, .val (.ref y), .val (.int (2 : Int32))] [(.int (2 : Int32)), (.ref r0), (.int (2 : Int32)), (.ref y)])) rfl rfl (hb hby d2_28) _ kt
    have st46 : ∀ target, Steps p.tables e below (T43.setTop (mkF m 30 #[.val (.ref r0), .val (.int (4 : Int32)), .val (.int p2), .unset, .val (.ref y), .val (.int (2 : Int32))] [(.int (w2.toInt8.toInt32)), (.int (2 : Int32)), (.ref y)])) target → Steps p.tables e below (T43.setTop (mkF m 29 #[.val (.ref r0), .val (.int (4 : Int32)), .val (.int p2), .unset, .val (.ref y), .val (.int (2 : Int32))] [(.int w2), (.int (2 : Int32)), (.ref y)])) target := by
      intro target kt
      show Steps p.tables e below (T43.setTop (mkF m 29 #[.val (.ref r0), .val (.int (4 : Int32)), .val (.int p2), .unset, .val (.ref y), .val (.int (2 : Int32))] [(.int w2), (.int (2 : Int32)), (.ref y)])) _
      refine XS.i2b X43.here hx rfl (hb hby d2_29) rfl ?_
      exact kt
    obtain ⟨cl47, Ar47, qc47, Sz47, Mn47, Hs47, Gs47⟩ := id V_y_43
    have hin47 : ¬ ((2 : Int32) < 0 ∨ cl47.slots.size ≤ ((2 : Int32)).toNatClampNeg) := inb_of Sz47 ⟨by decide, by decide⟩
    obtain ⟨T47, h47, X47, e47, W47, st47⟩ := stB X43 hx hZ e43 Ar47 (j := (2 : Int32)) hin47 (g := (mkF m 30 #[.val (.ref r0), .val (.int (4 : Int32)), .val (.int p2), .unset, .val (.ref y), .val (.int (2 : Int32))] [(.int (w2.toInt8.toInt32)), (.int (2 : Int32)), (.ref y)])) rfl rfl (hb hby d2_30)
    have V_y_47 : Arv Z h47 y k35 .byte (4 : Int32) [(.int (nar .byte (w0.toInt8.toInt32))), (.int (nar .byte (w1.toInt8.toInt32))), (.int (nar .byte (w2.toInt8.toInt32))), (.int (0 : Int32))] (.int (0 : Int32)) := Arv.set Ar47 qc47 Sz47 Mn47 Hs47 Gs47 (fits_nar_byte _) W47 2 rfl (Nat.le_of_ble_eq_true rfl)
    have Vv_47 := Vv_43.other W47 ne_r0_y
    have Z_47 : n0 ≤ h47.size := Nat.le_trans Z_43 (Keep.of_wr W47).1
    have Kp_47 : Keep h0 h47 [] := Kp_43.wr W47 (Or.inr sz_y)
    have N47 := Fr.snoc X47 N43 g_y
    have st48 : ∀ target, Steps p.tables e below (T47.setTop (mkF m 28 #[.val (.ref r0), .val (.int (4 : Int32)), .val (.int p2), .unset, .val (.ref y), .val (.int (3 : Int32))] [(.int (3 : Int32)), (.ref r0), (.int (3 : Int32)), (.ref y)])) target → Steps p.tables e below (T47.setTop (mkF m 31 #[.val (.ref r0), .val (.int (4 : Int32)), .val (.int p2), .unset, .val (.ref y), .val (.int (2 : Int32))] [])) target := by
      intro target kt
      refine XS.iinc X47.here hx rfl (hb hby d2_31) rfl (l' := #[.val (.ref r0), .val (.int (4 : Int32)), .val (.int p2), .unset, .val (.ref y), .val (.int (3 : Int32))]) rfl ?_
      refine XS.goto X47.here hx rfl (pc0 := 34) (pc' := 15) rfl (hb hby d2_34) (by decide) (by decide) ?_
      refine XS.iload X47.here hx rfl (hb hby d2_15) rfl ?_
      refine XS.iloadN X47.here hx rfl (hb hby d2_17) rfl ?_
      refine XS.icmpNo X47.here hx rfl (hb hby d2_18) rfl (tlt (by decide : ((3 : Int32) < (4 : Int32)))).2.1 ?_
      refine XS.aload X47.here hx rfl (hb hby d2_21) rfl rfl ?_
      refine XS.iload X47.here hx rfl (hb hby d2_23) rfl ?_
      show Steps p.tables e below (T47.setTop (mkF m 25 #[.val (.ref r0), .val (.int (4 : Int32)), .val (.int p2), .unset, .val (.ref y), .val (.int (3 : Int32))] [(.int (3 : Int32)), (.ref y)])) _
      refine XS.aloadN X47.here hx rfl (hb hby d2_25) rfl rfl ?_
      refine XS.iload X47.here hx rfl (hb hby d2_26) rfl ?_
      exact kt
    obtain ⟨cl49, Ar49, qc49, Sz49, Mn49, Hs49, Gs49⟩ := id Vv_47
    have hin49 : ¬ ((3 : Int32) < 0 ∨ cl49.slots.size ≤ ((3 : Int32)).toNatClampNeg) := inb_of Sz49 ⟨by decide, by decide⟩
    have hat49 : cl49.slots[((3 : Int32)).toNatClampNeg]? = some (.int w3) := Hs49.at hin49 rfl
    have st49 : ∀ target, Steps p.tables e below (T47.setTop (mkF m 29 #[.val (.ref r0), .val (.int (4 : Int32)), .val (.int p2), .unset, .val (.ref y), .val (.int (3 : Int32))] [(.int w3), (.int (3 : Int32)), (.ref y)])) target → Steps p.tables e below (T47.setTop (mkF m 28 #[.val (.ref r0), .val (.int (4 : Int32)), .val (.int p2), .unset, .val (.ref y), .val (.int (3 : Int32))] [(.int (3 : Int32)), (.ref r0), (.int (3 : Int32)), (.ref y)])) target := fun target kt => X47.iaload hx (j := (3 : Int32)) (v := (.int w3)) (by rw [e47]; exact Ar49.1) (State.isArrayOf_alike hZ.alike Ar49.2.1) Ar49.2.2 hin49 hat49 (g := (mkF m 28 #[.val (.ref r0), .val (.int (4 : Int32)), .val (.int p2), .unset, .val (.ref y), .val (.int (3 : Int32))] [(.int (3 : Int32)), (.ref r0), (.int (3 : Int32)), (.ref y)])) rfl rfl (hb hby d2_28) _ kt
    have st50 : ∀ target, Steps p.tables e below (T47.setTop (mkF m 30 #[.val (.ref r0), .val (.int (4 : Int32)), .val (.int p2), .unset, .val (.ref y), .val (.int (3 : Int32))] [(.int (w3.toInt8.toInt32)), (.int (3 : Int32)), (.ref y)])) target → Steps p.tables e below (T47.setTop (mkF m 29 #[.val (.ref r0), .val (.int (4 : Int32)), .val (.int p2), .unset, .val (.ref y), .val (.int (3 : Int32))] [(.int w3), (.int (3 : Int32)), (.ref y)])) target := by
      intro target kt
      refine XS.i2b X47.here hx rfl (hb hby d2_29) rfl ?_
      exact kt
    obtain ⟨cl51, Ar51, qc51, Sz51, Mn51, Hs51, Gs51⟩ := id V_y_47
    have hin51 : ¬ ((3 : Int32) < 0 ∨ cl51.slots.size ≤ ((3 : Int32)).toNatClampNeg) := inb_of Sz51 ⟨by decide, by decide⟩
    obtain ⟨T51, h51, X51, e51, W51, st51⟩ := stB X47 hx hZ e47 Ar51 (j := (3 : Int32)) hin51 (g := (mkF m 30 #[.val (.ref r0), .val (.int (4 : Int32)), .val (.int p2), .unset, .val (.ref y), .val (.int (3 : Int32))] [(.int (w3.toInt8.toInt32)), (.int (3 : Int32)), (.ref y)])) rfl rfl (hb hby d2_30)
    have V_y_51 : Arv Z h51 y k35 .byte (4 : Int32) [(.int (nar .byte (w0.toInt8.toInt32))), (.int (nar .byte (w1.toInt8.toInt32))), (.int (nar .byte (w2.toInt8.toInt32))), (.int (nar .byte (w3.toInt8.toInt32)))] (.int (0 : Int32)) := Arv.set Ar51 qc51 Sz51 Mn51 Hs51 Gs51 (fits_nar_byte _) W51 3 rfl (Nat.le_of_ble_eq_true rfl)
    have Vv_51 := Vv_47.other W51 ne_r0_y
    have Z_51 : n0 ≤ h51.size := Nat.le_trans Z_47 (Keep.of_wr W51).1
    have Kp_51 : Keep h0 h51 [] := Kp_47.wr W51 (Or.inr sz_y)
    have N51 := Fr.snoc X51 N47 g_y
    have st52 : ∀ target, Steps p.tables e below (T51.setTop (mkF m 37 #[.val (.ref r0), .val (.int (4 : Int32)), .val (.int p2), .unset, .val (.ref y), .val (.int (4 : Int32))] [])) target → Steps p.tables e below (T51.setTop (mkF m 31 #[.val (.ref r0), .val (.int (4 : Int32)), .val (.int p2), .unset, .val (.ref y), .val (.int (3 : Int32))] [])) target := by
      intro target kt
      refine XS.iinc X51.here hx rfl (hb hby d2_31) rfl (l' := #[.val (.ref r0), .val (.int (4 : Int32)), .val (.int p2), .unset, .val (.ref y), .val (.int (4 : Int32))]) rfl ?_
      refine XS.goto X51.here hx rfl (pc0 := 34) (pc' := 15) rfl (hb hby d2_34) (by decide) (by decide) ?_
      refine XS.iload X51.here hx rfl (hb hby d2_15) rfl ?_
      refine XS.iloadN X51.here hx rfl (hb hby d2_17) rfl ?_
      refine XS.icmpYes X51.here hx rfl (pc0 := 18) (pc' := 37) rfl (hb hby d2_18) rfl (flt (by decide : ¬ ((4 : Int32) < (4 : Int32)))).2.1 (by decide) (by decide) ?_
      exact kt
    obtain ⟨T53, h53, X53, e53, E53, A53, D53, -, st53⟩ := newO X51 hx hZ hown (hw _ (List.mem_of_getElem? (i := 11) rfl)) (hw _ (List.mem_of_getElem? (i := 12) rfl)) (hw _ (List.mem_of_getElem? (i := 8) rfl)) e51 (g := (mkF m 37 #[.val (.ref r0), .val (.int (4 : Int32)), .val (.int p2), .unset, .val (.ref y), .val (.int (4 : Int32))] [])) rfl (hb hby d2_37) (by decide) (by decide)
    obtain ⟨b, g53⟩ : ∃ z, z = h51.size := ⟨_, rfl⟩
    rw [← g53] at A53 D53 st53
    have g_b : n0 ≤ b := Nat.le_trans Z_51 (Nat.le_of_eq g53.symm)
    have sz_b : h0.size ≤ b := Nat.le_trans Kp_51.1 (Nat.le_of_eq g53.symm)
    have ne_r0_b : r0 ≠ b := Nat.ne_of_lt (Nat.lt_of_lt_of_le Vv_51.lt (Nat.le_of_eq g53.symm))
    have ne_y_b : y ≠ b := Nat.ne_of_lt (Nat.lt_of_lt_of_le V_y_51.lt (Nat.le_of_eq g53.symm))
    have Vv_53 := Vv_51.ext E53
    have V_y_53 := V_y_51.ext E53
    have Z_53 : n0 ≤ h53.size := Nat.le_trans Z_51 E53.1
    have Kp_53 : Keep h0 h53 [] := Kp_51.ext E53
    have E_b : Exa Z h53 b "com/example/libbisim/libbisim/CompactInts" := A53
    have F_bytes_b : Fld Z h53 b "com/example/libbisim/libbisim/CompactInts" "bytes" "[B" .null := D53 (Or.inr (hw _ (List.mem_of_getElem? (i := 20) rfl))) (ty := (.array .byte)) (by decide)
    have F_chars_b : Fld Z h53 b "com/example/libbisim/libbisim/CompactInts" "chars" "[C" .null := D53 (Or.inr (hw _ (List.mem_of_getElem? (i := 22) rfl))) (ty := (.array .char)) (by decide)
    have F_ints_b : Fld Z h53 b "com/example/libbisim/libbisim/CompactInts" "ints" "[I" .null := D53 (Or.inr (hw _ (List.mem_of_getElem? (i := 24) rfl))) (ty := (.array .int)) (by decide)
    have st54 : ∀ target, Steps p.tables e below (T53.setTop (mkF m 45 #[.val (.ref r0), .val (.int (4 : Int32)), .val (.int p2), .unset, .val (.ref y), .val (.int (4 : Int32))] [.null, .null, (.ref y), (.ref b), (.ref b)])) target → Steps p.tables e below (T53.setTop (mkF m 40 #[.val (.ref r0), .val (.int (4 : Int32)), .val (.int p2), .unset, .val (.ref y), .val (.int (4 : Int32))] [(.ref b)])) target := by
      intro target kt
      show Steps p.tables e below (T53.setTop (mkF m 40 #[.val (.ref r0), .val (.int (4 : Int32)), .val (.int p2), .unset, .val (.ref y), .val (.int (4 : Int32))] [(.ref b)])) _
      refine XS.dup X53.here hx rfl (hb hby d2_40) rfl rfl ?_
      refine XS.aload X53.here hx rfl (hb hby d2_41) rfl rfl ?_
      refine XS.aconstNull X53.here hx rfl (hb hby d2_43) ?_
      refine XS.aconstNull X53.here hx rfl (hb hby d2_44) ?_
      exact kt
    obtain ⟨_, _, ⟨T55, L55, k55, n55⟩, -, X55, ⟨Lc55, hQ55, l55, y55, z55⟩, st55⟩ := X53.specialBack hx (y := (⟨"com/example/libbisim/libbisim/CompactInts", "<init>", "([B[C[I)V"⟩ : MethodName)) rfl hown (mvT hZ (hw _ (List.mem_of_getElem? (i := 13) rfl))) (mvT hZ (hw _ (List.mem_of_getElem? (i := 14) rfl))) (mvT hZ (hw _ (List.mem_of_getElem? (i := 15) rfl))) (by decide) (backOf (W := 1) (rmI1 l Z a0 hw [] b y  h53 n0 Z_53 F_bytes_b F_chars_b F_ints_b E_b g_b) hZ (hw _ (List.mem_of_getElem? (i := 15) rfl)) (hw _ (List.mem_of_getElem? (i := 8) rfl)) (by decide) (by decide)) (g := (mkF m 45 #[.val (.ref r0), .val (.int (4 : Int32)), .val (.int p2), .unset, .val (.ref y), .val (.int (4 : Int32))] [.null, .null, (.ref y), (.ref b), (.ref b)])) rfl (by rw [hml]; rfl) (Steps.refl _) (a := b) (argsL := [(.ref y), .null, .null]) (rest := [(.ref b)]) (lenOf pd_2 rfl) rfl (by show 2 * 0 + _ ≤ _; exact Nat.le_of_eq rfl) (hb hby d2_45) (fun _ _ => ⟨rfl, e53, (by decide : 2 + 0 ≤ _), (by decide : 7 + 0 ≤ _)⟩)
    dsimp only [Pt.U, Pt.locs, Pt.cells, Pt.slots] at X55 l55 y55 z55 st55 hQ55
    subst l55 y55 z55
    obtain ⟨rfl, Nq55, K55, E_b_i, F_bytes_b_i, F_chars_b_i, F_ints_b_i⟩ := hQ55
    have N55 := Fr.app N51 Nq55
    have Vv_55 := Vv_53.keep K55 (ninS ne_r0_b nin0)
    have V_y_55 := V_y_53.keep K55 (ninS ne_y_b nin0)
    have E_b_55 := E_b.keep K55
    have Z_55 : n0 ≤ T55.heap.size := Nat.le_trans Z_53 K55.1
    have Kp_55 : Keep h0 T55.heap [] := Kp_53.trans K55 (allS (Or.inr sz_b) (all0))
    obtain ⟨fs, hr, hrun, hended, hW, hsame⟩ := X55.leave (v := some (.ref b)) (fun h => by rw [Bd.returns] at h; cases h)
    refine ⟨_, _, pre0 _ (st1 _ (st33 _ (st34 _ (st35 _ (st36 _ (st37 _ (st38 _ (st39 _ (st40 _ (st41 _ (st42 _ (st43 _ (st44 _ (st45 _ (st46 _ (st47 _ (st48 _ (st49 _ (st50 _ (st51 _ (st52 _ (st53 _ (st54 _ (st55.trans ?_)))))))))))))))))))))))), hrun, hended, _, _, rfl, ?_, ⟨_, rfl⟩, hW, hsame.mono (by decide) (by decide)⟩
    · refine XS.astoreN X55.here hx rfl (hb hby d2_48) rfl rfl (l' := #[.val (.ref r0), .val (.int (4 : Int32)), .val (.int p2), .val (.ref b), .val (.ref y), .val (.int (4 : Int32))]) rfl ?_
      refine XS.goto X55.here hx rfl (pc0 := 49) (pc' := 128) rfl (hb hby d2_49) (by decide) (by decide) ?_
      refine XS.aloadN X55.here hx rfl (hb hby d2_128) rfl rfl ?_
      show Steps p.tables e below (T55.setTop (mkF m 129 #[.val (.ref r0), .val (.int (4 : Int32)), .val (.int p2), .val (.ref b), .val (.ref y), .val (.int (4 : Int32))] [(.ref b)])) _
      jvm_step X55.here [X55.here.top, hx, (hb hby d2_129), X55.method', Bd.returns, Value.isRef, FieldType.isReference]
      first | (intro acts; rw [hr _ acts rfl rfl rfl]) | rw [hr _ _ rfl rfl rfl]
      exact Steps.refl _
    · show Q_rmOf4 Z r0 p2 kv w0 w1 w2 w3 h0 n0 _ T55.heap _
      exact ⟨b, rfl, N55, Kp_55, sz_b, E_b_i, Or.inl ⟨hc4, y, _, sz_y, F_bytes_b_i, V_y_55⟩⟩
theorem d7_0 : decode prog_7_method_3_code 0 = .ok (.aload_n 0, 1) := by decide +kernel
theorem d7_1 : decode prog_7_method_3_code 1 = .ok (.getfield 11, 3) := by decide +kernel
theorem d7_4 : decode prog_7_method_3_code 4 = .ok (.ifnull 16, 3) := by decide +kernel
theorem d7_7 : decode prog_7_method_3_code 7 = .ok (.aload_n 0, 1) := by decide +kernel
theorem d7_8 : decode prog_7_method_3_code 8 = .ok (.getfield 11, 3) := by decide +kernel
theorem d7_11 : decode prog_7_method_3_code 11 = .ok (.iload_n 1, 1) := by decide +kernel
theorem d7_12 : decode prog_7_method_3_code 12 = .ok (.baload, 1) := by decide +kernel
theorem d7_13 : decode prog_7_method_3_code 13 = .ok (.invokestatic 35, 3) := by decide +kernel
theorem d7_16 : decode prog_7_method_3_code 16 = .ok (.istore_n 2, 1) := by decide +kernel
theorem d7_17 : decode prog_7_method_3_code 17 = .ok (.goto 27, 3) := by decide +kernel
theorem d7_20 : decode prog_7_method_3_code 20 = .ok (.aload_n 0, 1) := by decide +kernel
theorem d7_21 : decode prog_7_method_3_code 21 = .ok (.getfield 17, 3) := by decide +kernel
theorem d7_24 : decode prog_7_method_3_code 24 = .ok (.ifnull 13, 3) := by decide +kernel
theorem d7_27 : decode prog_7_method_3_code 27 = .ok (.aload_n 0, 1) := by decide +kernel
theorem d7_28 : decode prog_7_method_3_code 28 = .ok (.getfield 17, 3) := by decide +kernel
theorem d7_31 : decode prog_7_method_3_code 31 = .ok (.iload_n 1, 1) := by decide +kernel
theorem d7_32 : decode prog_7_method_3_code 32 = .ok (.caload, 1) := by decide +kernel
theorem d7_33 : decode prog_7_method_3_code 33 = .ok (.istore_n 2, 1) := by decide +kernel
theorem d7_34 : decode prog_7_method_3_code 34 = .ok (.goto 10, 3) := by decide +kernel
theorem d7_37 : decode prog_7_method_3_code 37 = .ok (.aload_n 0, 1) := by decide +kernel
theorem d7_38 : decode prog_7_method_3_code 38 = .ok (.getfield 21, 3) := by decide +kernel
theorem d7_41 : decode prog_7_method_3_code 41 = .ok (.iload_n 1, 1) := by decide +kernel
theorem d7_42 : decode prog_7_method_3_code 42 = .ok (.iaload, 1) := by decide +kernel
theorem d7_43 : decode prog_7_method_3_code 43 = .ok (.istore_n 2, 1) := by decide +kernel
theorem d7_44 : decode prog_7_method_3_code 44 = .ok (.iload_n 2, 1) := by decide +kernel
theorem d7_45 : decode prog_7_method_3_code 45 = .ok (.ireturn, 1) := by decide +kernel
theorem ef_rmGB (m : MethodId) (x0 : Addr) (x1 : Int32) : entryFrame m #[(.ref x0), (.int x1)] 3 = mkF m 0 #[.val (.ref x0), .val (.int x1), .unset] [] := by first | (simp [entryFrame, mkF, argsToLocals, Value.category]; done) | rfl
def Q_rmGB (Z : State) (r0 : Addr) (p1 : Int32) (y : Addr) (cl : Cell) (wv : Int32) (h0 : Heap) (n0 : Nat) (v : Option Value) (h : Heap) (L : List Loc) : Prop := v = some (.int (wv &&& (255 : Int32))) ∧ Fr n0 L ∧ h = h0
set_option maxRecDepth 65536 in
set_option maxHeartbeats 40000000 in
theorem rmGB (l : Launch) (Z : State) (a0 : Array Value) (hw : ∀ d ∈ tables_1, d.before a0 Z = true) (ws : List Jvm.Cond) (r0 : Addr) (p1 : Int32) (y : Addr) (cl : Cell) (wv : Int32) (h0 : Heap) (n0 : Nat) (Z0 : n0 ≤ h0.size) (F_bytes : Fld Z h0 r0 "com/example/libbisim/libbisim/CompactInts" "bytes" "[B" (.ref y)) (Ar : Arr Z h0 y cl .byte) (hin : ¬ (p1 < 0 ∨ cl.slots.size ≤ (p1).toNatClampNeg)) (hat : cl.slots[(p1).toNatClampNeg]? = some (.int wv)) :
    MetFree l (⟨"com/example/libbisim/libbisim/CompactInts", "get", "(I)I"⟩ : MethodName) (head1 (Jvm.Cond.code (⟨"com/example/libbisim/libbisim/CompactInts", "get", "(I)I"⟩ : MethodName) prog_7_method_3_code 3 (some .int) :: ws) ({ frames := 1, cells := 0, slots := 0, locals := 12 } : Room)) (fun a U => a = #[(.ref r0), (.int p1)] ∧ Z.Warmed39 U.vm ∧ U.heap = h0) (fun _ _ _ _ _ => True) (fun _ U o U' => ∃ v L, o = .returned v ∧ Q_rmGB Z r0 p1 y cl wv h0 n0 v U'.heap L ∧ FrameEnd U o U' L ({ frames := 1, cells := 0, slots := 0, locals := 12 } : Room).cells ({ frames := 1, cells := 0, slots := 0, locals := 12 } : Room).slots) := by
  refine MetFree.of_bodySF (plainFor_of_name pn_2) hisR ?_
  intro p e s m args below meth c s₁ Bd hml0 hP hK
  obtain ⟨rfl, hZ, hh⟩ := hP
  have hx := Bd.exec
  have hby := Bd.bytes
  have hml : c.maxLocals = 3 := hml0
  have hown : s.vm.findClass "com/example/libbisim/libbisim/CompactInts" = some m.cls := findClass_of_methodNamed Bd.named
  have hnm := (name_of_methodNamed Bd.named Bd.method).1
  have X0 : Stand p l e ({ frames := 1, cells := 0, slots := 0, locals := 12 } : Room) s m #[(.ref r0), (.int p1)] below meth c s₁ [] 0 0 := Stand.of_body Bd
  have e0 : s₁.heap = h0 := by rw [← hh, Bd.state]; rfl
  have N0 := Fr.nil n0
  have pre0 : ∀ t, Steps p.tables e below (s₁.setTop (mkF m 0 #[.val (.ref r0), .val (.int p1), .unset] [])) t → Steps p.tables e below (s₁.setTop (entryFrame m #[(.ref r0), (.int p1)] 3)) t := fun t k => castTop (ef_rmGB m r0 p1) k
  have st1 : ∀ target, Steps p.tables e below (s₁.setTop (mkF m 1 #[.val (.ref r0), .val (.int p1), .unset] [(.ref r0)])) target → Steps p.tables e below (s₁.setTop (mkF m 0 #[.val (.ref r0), .val (.int p1), .unset] [])) target := by
    intro target kt
    refine XS.aloadN X0.here hx rfl (hb hby d7_0) rfl rfl ?_
    exact kt
  obtain ⟨T2, X2, e2, st2⟩ := getF X0 hx hZ hown (host := "") (Or.inl (hw _ (List.mem_of_getElem? (i := 19) rfl))) Via.refl e0 F_bytes (g := (mkF m 1 #[.val (.ref r0), .val (.int p1), .unset] [(.ref r0)])) rfl rfl (hb hby d7_1)
  have st3 : ∀ target, Steps p.tables e below (T2.setTop (mkF m 8 #[.val (.ref r0), .val (.int p1), .unset] [(.ref r0)])) target → Steps p.tables e below (T2.setTop (mkF m 4 #[.val (.ref r0), .val (.int p1), .unset] [(.ref y)])) target := by
    intro target kt
    refine XS.ifnullNo X2.here hx rfl (hb hby d7_4) rfl ?_
    refine XS.aloadN X2.here hx rfl (hb hby d7_7) rfl rfl ?_
    exact kt
  obtain ⟨T4, X4, e4, st4⟩ := getF X2 hx hZ hown (host := "") (Or.inl (hw _ (List.mem_of_getElem? (i := 19) rfl))) Via.refl e2 F_bytes (g := (mkF m 8 #[.val (.ref r0), .val (.int p1), .unset] [(.ref r0)])) rfl rfl (hb hby d7_8)
  have st5 : ∀ target, Steps p.tables e below (T4.setTop (mkF m 12 #[.val (.ref r0), .val (.int p1), .unset] [(.int p1), (.ref y)])) target → Steps p.tables e below (T4.setTop (mkF m 11 #[.val (.ref r0), .val (.int p1), .unset] [(.ref y)])) target := by
    intro target kt
    refine XS.iloadN X4.here hx rfl (hb hby d7_11) rfl ?_
    exact kt
  have st6 : ∀ target, Steps p.tables e below (T4.setTop (mkF m 13 #[.val (.ref r0), .val (.int p1), .unset] [(.int wv)])) target → Steps p.tables e below (T4.setTop (mkF m 12 #[.val (.ref r0), .val (.int p1), .unset] [(.int p1), (.ref y)])) target := fun target kt => X4.baloadBytes hx (j := p1) (v := (.int wv)) (by rw [e4]; exact Ar.1) (State.isArrayOf_alike hZ.alike Ar.2.1) Ar.2.2 hin hat (g := (mkF m 12 #[.val (.ref r0), .val (.int p1), .unset] [(.int p1), (.ref y)])) rfl rfl (hb hby d7_12) _ kt
  obtain ⟨_, _, ⟨T7, L7, k7, n7⟩, -, X7, ⟨Lc7, hQ7, l7, y7, z7⟩, st7⟩ := Jvm.LawKit.callS X4 hx (y := (⟨"java/lang/Byte", "toUnsignedInt", "(B)I"⟩ : MethodName)) hown (mvT hZ (hw _ (List.mem_of_getElem? (i := 43) rfl))) (mvT hZ (hw _ (List.mem_of_getElem? (i := 44) rfl))) (mvT hZ (hw _ (List.mem_of_getElem? (i := 45) rfl))) (mvT hZ (hw _ (List.mem_of_getElem? (i := 46) rfl))) (by decide) (backOf (W := 0) (rm8 l Z a0 hw [] wv  h0 n0 Z0 ) hZ (hw _ (List.mem_of_getElem? (i := 46) rfl)) (hw _ (List.mem_of_getElem? (i := 45) rfl)) (by decide) (by decide)) (g := (mkF m 13 #[.val (.ref r0), .val (.int p1), .unset] [(.int wv)])) rfl (by rw [hml]; rfl) (argsL := [(.int wv)]) (rest := []) (lenOf pd_7 rfl) rfl (by show 2 * 0 + _ ≤ _; exact Nat.le_of_eq rfl) (hb hby d7_13) (fun _ _ => ⟨rfl, e4, (by decide : 0 + 0 ≤ _), (by decide : 0 + 0 ≤ _)⟩)
  dsimp only [Pt.U, Pt.locs, Pt.cells, Pt.slots] at X7 l7 y7 z7 st7 hQ7
  subst l7 y7 z7
  obtain ⟨rfl, Nq7, e7⟩ := hQ7
  have N7 := Fr.app N0 Nq7
  obtain ⟨fs, hr, hrun, hended, hW, hsame⟩ := X7.leave (v := some (.int (wv &&& (255 : Int32)))) (fun h => by rw [Bd.returns] at h; cases h)
  refine ⟨_, _, pre0 _ (st1 _ (st2 _ (st3 _ (st4 _ (st5 _ (st6 _ (st7 _ ?_))))))), hrun, hended, _, _, rfl, ?_, ⟨_, rfl⟩, hW, hsame.mono (by decide) (by decide)⟩
  · refine XS.istoreN X7.here hx rfl (hb hby d7_16) rfl (l' := #[.val (.ref r0), .val (.int p1), .val (.int (wv &&& (255 : Int32)))]) rfl ?_
    refine XS.goto X7.here hx rfl (pc0 := 17) (pc' := 44) rfl (hb hby d7_17) (by decide) (by decide) ?_
    refine XS.iloadN X7.here hx rfl (hb hby d7_44) rfl ?_
    show Steps p.tables e below (T7.setTop (mkF m 45 #[.val (.ref r0), .val (.int p1), .val (.int (wv &&& (255 : Int32)))] [(.int (wv &&& (255 : Int32)))])) _
    exact retI X7 hx Bd.returns (hb hby d7_45) hr
  · show Q_rmGB Z r0 p1 y cl wv h0 n0 _ T7.heap _
    rw [e7]
    exact ⟨rfl, N7, rfl⟩
theorem ef_rmGC (m : MethodId) (x0 : Addr) (x1 : Int32) : entryFrame m #[(.ref x0), (.int x1)] 3 = mkF m 0 #[.val (.ref x0), .val (.int x1), .unset] [] := by first | (simp [entryFrame, mkF, argsToLocals, Value.category]; done) | rfl
def Q_rmGC (Z : State) (r0 : Addr) (p1 : Int32) (y : Addr) (cl : Cell) (wv : Int32) (h0 : Heap) (n0 : Nat) (v : Option Value) (h : Heap) (L : List Loc) : Prop := v = some (.int wv) ∧ Fr n0 L ∧ h = h0
set_option maxRecDepth 65536 in
set_option maxHeartbeats 40000000 in
theorem rmGC (l : Launch) (Z : State) (a0 : Array Value) (hw : ∀ d ∈ tables_1, d.before a0 Z = true) (ws : List Jvm.Cond) (r0 : Addr) (p1 : Int32) (y : Addr) (cl : Cell) (wv : Int32) (h0 : Heap) (n0 : Nat) (Z0 : n0 ≤ h0.size) (F_bytes : Fld Z h0 r0 "com/example/libbisim/libbisim/CompactInts" "bytes" "[B" .null) (F_chars : Fld Z h0 r0 "com/example/libbisim/libbisim/CompactInts" "chars" "[C" (.ref y)) (Ar : Arr Z h0 y cl .char) (hin : ¬ (p1 < 0 ∨ cl.slots.size ≤ (p1).toNatClampNeg)) (hat : cl.slots[(p1).toNatClampNeg]? = some (.int wv)) :
    MetFree l (⟨"com/example/libbisim/libbisim/CompactInts", "get", "(I)I"⟩ : MethodName) (head1 (Jvm.Cond.code (⟨"com/example/libbisim/libbisim/CompactInts", "get", "(I)I"⟩ : MethodName) prog_7_method_3_code 3 (some .int) :: ws) ({ frames := 0, cells := 0, slots := 0, locals := 0 } : Room)) (fun a U => a = #[(.ref r0), (.int p1)] ∧ Z.Warmed39 U.vm ∧ U.heap = h0) (fun _ _ _ _ _ => True) (fun _ U o U' => ∃ v L, o = .returned v ∧ Q_rmGC Z r0 p1 y cl wv h0 n0 v U'.heap L ∧ FrameEnd U o U' L ({ frames := 0, cells := 0, slots := 0, locals := 0 } : Room).cells ({ frames := 0, cells := 0, slots := 0, locals := 0 } : Room).slots) := by
  refine MetFree.of_bodySF (plainFor_of_name pn_2) hisR ?_
  intro p e s m args below meth c s₁ Bd hml0 hP hK
  obtain ⟨rfl, hZ, hh⟩ := hP
  have hx := Bd.exec
  have hby := Bd.bytes
  have hml : c.maxLocals = 3 := hml0
  have hown : s.vm.findClass "com/example/libbisim/libbisim/CompactInts" = some m.cls := findClass_of_methodNamed Bd.named
  have hnm := (name_of_methodNamed Bd.named Bd.method).1
  have X0 : Stand p l e ({ frames := 0, cells := 0, slots := 0, locals := 0 } : Room) s m #[(.ref r0), (.int p1)] below meth c s₁ [] 0 0 := Stand.of_body Bd
  have e0 : s₁.heap = h0 := by rw [← hh, Bd.state]; rfl
  have N0 := Fr.nil n0
  have pre0 : ∀ t, Steps p.tables e below (s₁.setTop (mkF m 0 #[.val (.ref r0), .val (.int p1), .unset] [])) t → Steps p.tables e below (s₁.setTop (entryFrame m #[(.ref r0), (.int p1)] 3)) t := fun t k => castTop (ef_rmGC m r0 p1) k
  have st1 : ∀ target, Steps p.tables e below (s₁.setTop (mkF m 1 #[.val (.ref r0), .val (.int p1), .unset] [(.ref r0)])) target → Steps p.tables e below (s₁.setTop (mkF m 0 #[.val (.ref r0), .val (.int p1), .unset] [])) target := by
    intro target kt
    refine XS.aloadN X0.here hx rfl (hb hby d7_0) rfl rfl ?_
    exact kt
  obtain ⟨T2, X2, e2, st2⟩ := getF X0 hx hZ hown (host := "") (Or.inl (hw _ (List.mem_of_getElem? (i := 19) rfl))) Via.refl e0 F_bytes (g := (mkF m 1 #[.val (.ref r0), .val (.int p1), .unset] [(.ref r0)])) rfl rfl (hb hby d7_1)
  have st3 : ∀ target, Steps p.tables e below (T2.setTop (mkF m 21 #[.val (.ref r0), .val (.int p1), .unset] [(.ref r0)])) target → Steps p.tables e below (T2.setTop (mkF m 4 #[.val (.ref r0), .val (.int p1), .unset] [.null])) target := by
    intro target kt
    refine XS.ifnullYes X2.here hx rfl (pc0 := 4) (pc' := 20) rfl (hb hby d7_4) rfl (by decide) (by decide) ?_
    refine XS.aloadN X2.here hx rfl (hb hby d7_20) rfl rfl ?_
    exact kt
  obtain ⟨T4, X4, e4, st4⟩ := getF X2 hx hZ hown (host := "") (Or.inl (hw _ (List.mem_of_getElem? (i := 21) rfl))) Via.refl e2 F_chars (g := (mkF m 21 #[.val (.ref r0), .val (.int p1), .unset] [(.ref r0)])) rfl rfl (hb hby d7_21)
  have st5 : ∀ target, Steps p.tables e below (T4.setTop (mkF m 28 #[.val (.ref r0), .val (.int p1), .unset] [(.ref r0)])) target → Steps p.tables e below (T4.setTop (mkF m 24 #[.val (.ref r0), .val (.int p1), .unset] [(.ref y)])) target := by
    intro target kt
    refine XS.ifnullNo X4.here hx rfl (hb hby d7_24) rfl ?_
    refine XS.aloadN X4.here hx rfl (hb hby d7_27) rfl rfl ?_
    exact kt
  obtain ⟨T6, X6, e6, st6⟩ := getF X4 hx hZ hown (host := "") (Or.inl (hw _ (List.mem_of_getElem? (i := 21) rfl))) Via.refl e4 F_chars (g := (mkF m 28 #[.val (.ref r0), .val (.int p1), .unset] [(.ref r0)])) rfl rfl (hb hby d7_28)
  have st7 : ∀ target, Steps p.tables e below (T6.setTop (mkF m 32 #[.val (.ref r0), .val (.int p1), .unset] [(.int p1), (.ref y)])) target → Steps p.tables e below (T6.setTop (mkF m 31 #[.val (.ref r0), .val (.int p1), .unset] [(.ref y)])) target := by
    intro target kt
    refine XS.iloadN X6.here hx rfl (hb hby d7_31) rfl ?_
    exact kt
  have st8 : ∀ target, Steps p.tables e below (T6.setTop (mkF m 33 #[.val (.ref r0), .val (.int p1), .unset] [(.int wv)])) target → Steps p.tables e below (T6.setTop (mkF m 32 #[.val (.ref r0), .val (.int p1), .unset] [(.int p1), (.ref y)])) target := fun target kt => X6.caload hx (j := p1) (v := (.int wv)) (by rw [e6]; exact Ar.1) (State.isArrayOf_alike hZ.alike Ar.2.1) Ar.2.2 hin hat (g := (mkF m 32 #[.val (.ref r0), .val (.int p1), .unset] [(.int p1), (.ref y)])) rfl rfl (hb hby d7_32) _ kt
  obtain ⟨fs, hr, hrun, hended, hW, hsame⟩ := X6.leave (v := some (.int wv)) (fun h => by rw [Bd.returns] at h; cases h)
  refine ⟨_, _, pre0 _ (st1 _ (st2 _ (st3 _ (st4 _ (st5 _ (st6 _ (st7 _ (st8 _ ?_)))))))), hrun, hended, _, _, rfl, ?_, ⟨_, rfl⟩, hW, hsame.mono (by decide) (by decide)⟩
  · refine XS.istoreN X6.here hx rfl (hb hby d7_33) rfl (l' := #[.val (.ref r0), .val (.int p1), .val (.int wv)]) rfl ?_
    show Steps p.tables e below (T6.setTop (mkF m 34 #[.val (.ref r0), .val (.int p1), .val (.int wv)] [])) _
    refine XS.goto X6.here hx rfl (pc0 := 34) (pc' := 44) rfl (hb hby d7_34) (by decide) (by decide) ?_
    refine XS.iloadN X6.here hx rfl (hb hby d7_44) rfl ?_
    show Steps p.tables e below (T6.setTop (mkF m 45 #[.val (.ref r0), .val (.int p1), .val (.int wv)] [(.int wv)])) _
    exact retI X6 hx Bd.returns (hb hby d7_45) hr
  · show Q_rmGC Z r0 p1 y cl wv h0 n0 _ T6.heap _
    rw [e6]
    exact ⟨rfl, N0, rfl⟩
theorem ef_rmGI (m : MethodId) (x0 : Addr) (x1 : Int32) : entryFrame m #[(.ref x0), (.int x1)] 3 = mkF m 0 #[.val (.ref x0), .val (.int x1), .unset] [] := by first | (simp [entryFrame, mkF, argsToLocals, Value.category]; done) | rfl
def Q_rmGI (Z : State) (r0 : Addr) (p1 : Int32) (y : Addr) (cl : Cell) (wv : Int32) (h0 : Heap) (n0 : Nat) (v : Option Value) (h : Heap) (L : List Loc) : Prop := v = some (.int wv) ∧ Fr n0 L ∧ h = h0
set_option maxRecDepth 65536 in
set_option maxHeartbeats 40000000 in
theorem rmGI (l : Launch) (Z : State) (a0 : Array Value) (hw : ∀ d ∈ tables_1, d.before a0 Z = true) (ws : List Jvm.Cond) (r0 : Addr) (p1 : Int32) (y : Addr) (cl : Cell) (wv : Int32) (h0 : Heap) (n0 : Nat) (Z0 : n0 ≤ h0.size) (F_bytes : Fld Z h0 r0 "com/example/libbisim/libbisim/CompactInts" "bytes" "[B" .null) (F_chars : Fld Z h0 r0 "com/example/libbisim/libbisim/CompactInts" "chars" "[C" .null) (F_ints : Fld Z h0 r0 "com/example/libbisim/libbisim/CompactInts" "ints" "[I" (.ref y)) (Ar : Arr Z h0 y cl .int) (hin : ¬ (p1 < 0 ∨ cl.slots.size ≤ (p1).toNatClampNeg)) (hat : cl.slots[(p1).toNatClampNeg]? = some (.int wv)) :
    MetFree l (⟨"com/example/libbisim/libbisim/CompactInts", "get", "(I)I"⟩ : MethodName) (head1 (Jvm.Cond.code (⟨"com/example/libbisim/libbisim/CompactInts", "get", "(I)I"⟩ : MethodName) prog_7_method_3_code 3 (some .int) :: ws) ({ frames := 0, cells := 0, slots := 0, locals := 0 } : Room)) (fun a U => a = #[(.ref r0), (.int p1)] ∧ Z.Warmed39 U.vm ∧ U.heap = h0) (fun _ _ _ _ _ => True) (fun _ U o U' => ∃ v L, o = .returned v ∧ Q_rmGI Z r0 p1 y cl wv h0 n0 v U'.heap L ∧ FrameEnd U o U' L ({ frames := 0, cells := 0, slots := 0, locals := 0 } : Room).cells ({ frames := 0, cells := 0, slots := 0, locals := 0 } : Room).slots) := by
  refine MetFree.of_bodySF (plainFor_of_name pn_2) hisR ?_
  intro p e s m args below meth c s₁ Bd hml0 hP hK
  obtain ⟨rfl, hZ, hh⟩ := hP
  have hx := Bd.exec
  have hby := Bd.bytes
  have hml : c.maxLocals = 3 := hml0
  have hown : s.vm.findClass "com/example/libbisim/libbisim/CompactInts" = some m.cls := findClass_of_methodNamed Bd.named
  have hnm := (name_of_methodNamed Bd.named Bd.method).1
  have X0 : Stand p l e ({ frames := 0, cells := 0, slots := 0, locals := 0 } : Room) s m #[(.ref r0), (.int p1)] below meth c s₁ [] 0 0 := Stand.of_body Bd
  have e0 : s₁.heap = h0 := by rw [← hh, Bd.state]; rfl
  have N0 := Fr.nil n0
  have pre0 : ∀ t, Steps p.tables e below (s₁.setTop (mkF m 0 #[.val (.ref r0), .val (.int p1), .unset] [])) t → Steps p.tables e below (s₁.setTop (entryFrame m #[(.ref r0), (.int p1)] 3)) t := fun t k => castTop (ef_rmGI m r0 p1) k
  have st1 : ∀ target, Steps p.tables e below (s₁.setTop (mkF m 1 #[.val (.ref r0), .val (.int p1), .unset] [(.ref r0)])) target → Steps p.tables e below (s₁.setTop (mkF m 0 #[.val (.ref r0), .val (.int p1), .unset] [])) target := by
    intro target kt
    refine XS.aloadN X0.here hx rfl (hb hby d7_0) rfl rfl ?_
    exact kt
  obtain ⟨T2, X2, e2, st2⟩ := getF X0 hx hZ hown (host := "") (Or.inl (hw _ (List.mem_of_getElem? (i := 19) rfl))) Via.refl e0 F_bytes (g := (mkF m 1 #[.val (.ref r0), .val (.int p1), .unset] [(.ref r0)])) rfl rfl (hb hby d7_1)
  have st3 : ∀ target, Steps p.tables e below (T2.setTop (mkF m 21 #[.val (.ref r0), .val (.int p1), .unset] [(.ref r0)])) target → Steps p.tables e below (T2.setTop (mkF m 4 #[.val (.ref r0), .val (.int p1), .unset] [.null])) target := by
    intro target kt
    refine XS.ifnullYes X2.here hx rfl (pc0 := 4) (pc' := 20) rfl (hb hby d7_4) rfl (by decide) (by decide) ?_
    refine XS.aloadN X2.here hx rfl (hb hby d7_20) rfl rfl ?_
    exact kt
  obtain ⟨T4, X4, e4, st4⟩ := getF X2 hx hZ hown (host := "") (Or.inl (hw _ (List.mem_of_getElem? (i := 21) rfl))) Via.refl e2 F_chars (g := (mkF m 21 #[.val (.ref r0), .val (.int p1), .unset] [(.ref r0)])) rfl rfl (hb hby d7_21)
  have st5 : ∀ target, Steps p.tables e below (T4.setTop (mkF m 38 #[.val (.ref r0), .val (.int p1), .unset] [(.ref r0)])) target → Steps p.tables e below (T4.setTop (mkF m 24 #[.val (.ref r0), .val (.int p1), .unset] [.null])) target := by
    intro target kt
    refine XS.ifnullYes X4.here hx rfl (pc0 := 24) (pc' := 37) rfl (hb hby d7_24) rfl (by decide) (by decide) ?_
    refine XS.aloadN X4.here hx rfl (hb hby d7_37) rfl rfl ?_
    exact kt
  obtain ⟨T6, X6, e6, st6⟩ := getF X4 hx hZ hown (host := "") (Or.inl (hw _ (List.mem_of_getElem? (i := 23) rfl))) Via.refl e4 F_ints (g := (mkF m 38 #[.val (.ref r0), .val (.int p1), .unset] [(.ref r0)])) rfl rfl (hb hby d7_38)
  have st7 : ∀ target, Steps p.tables e below (T6.setTop (mkF m 42 #[.val (.ref r0), .val (.int p1), .unset] [(.int p1), (.ref y)])) target → Steps p.tables e below (T6.setTop (mkF m 41 #[.val (.ref r0), .val (.int p1), .unset] [(.ref y)])) target := by
    intro target kt
    refine XS.iloadN X6.here hx rfl (hb hby d7_41) rfl ?_
    exact kt
  have st8 : ∀ target, Steps p.tables e below (T6.setTop (mkF m 43 #[.val (.ref r0), .val (.int p1), .unset] [(.int wv)])) target → Steps p.tables e below (T6.setTop (mkF m 42 #[.val (.ref r0), .val (.int p1), .unset] [(.int p1), (.ref y)])) target := fun target kt => X6.iaload hx (j := p1) (v := (.int wv)) (by rw [e6]; exact Ar.1) (State.isArrayOf_alike hZ.alike Ar.2.1) Ar.2.2 hin hat (g := (mkF m 42 #[.val (.ref r0), .val (.int p1), .unset] [(.int p1), (.ref y)])) rfl rfl (hb hby d7_42) _ kt
  obtain ⟨fs, hr, hrun, hended, hW, hsame⟩ := X6.leave (v := some (.int wv)) (fun h => by rw [Bd.returns] at h; cases h)
  refine ⟨_, _, pre0 _ (st1 _ (st2 _ (st3 _ (st4 _ (st5 _ (st6 _ (st7 _ (st8 _ ?_)))))))), hrun, hended, _, _, rfl, ?_, ⟨_, rfl⟩, hW, hsame.mono (by decide) (by decide)⟩
  · refine XS.istoreN X6.here hx rfl (hb hby d7_43) rfl (l' := #[.val (.ref r0), .val (.int p1), .val (.int wv)]) rfl ?_
    show Steps p.tables e below (T6.setTop (mkF m 44 #[.val (.ref r0), .val (.int p1), .val (.int wv)] [])) _
    refine XS.iloadN X6.here hx rfl (hb hby d7_44) rfl ?_
    show Steps p.tables e below (T6.setTop (mkF m 45 #[.val (.ref r0), .val (.int p1), .val (.int wv)] [(.int wv)])) _
    exact retI X6 hx Bd.returns (hb hby d7_45) hr
  · show Q_rmGI Z r0 p1 y cl wv h0 n0 _ T6.heap _
    rw [e6]
    exact ⟨rfl, N0, rfl⟩
theorem pn_3 : plainName "com/example/libbisim/libbisim/CompactIntsOfPinLaw" = true := by first | (simp [plainName, overriddenIn]; done) | decide +kernel
theorem ef_rm0 (m : MethodId) (x0 : Int32) (x1 : Int32) (x2 : Int32) (x3 : Int32) (x4 : Int32) (x5 : Int32) : entryFrame m #[(.int x0), (.int x1), (.int x2), (.int x3), (.int x4), (.int x5)] maxLocals = mkF m 0 #[.val (.int x0), .val (.int x1), .val (.int x2), .val (.int x3), .val (.int x4), .val (.int x5), .unset, .unset, .unset, .unset, .unset, .unset, .unset, .unset, .unset, .unset] [] := by first | (simp [entryFrame, mkF, argsToLocals, Value.category, maxLocals]; done) | rfl
def Q_rm0 (Z : State) (p0 : Int32) (p1 : Int32) (p2 : Int32) (p3 : Int32) (p4 : Int32) (p5 : Int32) (h0 : Heap) (n0 : Nat) (v : Option Value) (h : Heap) (L : List Loc) : Prop := v = some (.int 1) ∧ Fr n0 L
set_option maxRecDepth 65536 in
set_option maxHeartbeats 40000000 in
theorem rm0 (l : Launch) (Z : State) (a0 : Array Value) (hw : ∀ d ∈ tables_1, d.before a0 Z = true) (ws : List Jvm.Cond) (p0 : Int32) (p1 : Int32) (p2 : Int32) (p3 : Int32) (p4 : Int32) (p5 : Int32) (h0 : Heap) (n0 : Nat) (Z0 : n0 ≤ h0.size) :
    MetFree l x (head1 (Jvm.Cond.code x code maxLocals ret :: ws) room_1) (fun a U => a = #[(.int p0), (.int p1), (.int p2), (.int p3), (.int p4), (.int p5)] ∧ Z.Warmed39 U.vm ∧ U.heap = h0) (fun _ _ _ _ _ => True) (fun _ U o U' => ∃ v L, o = .returned v ∧ Q_rm0 Z p0 p1 p2 p3 p4 p5 h0 n0 v U'.heap L ∧ FrameEnd U o U' L room_1.cells room_1.slots) := by
  refine MetFree.of_bodySF (plainFor_of_name pn_3) hisR ?_
  intro p e s m args below meth c s₁ Bd hml0 hP hK
  obtain ⟨rfl, hZ, hh⟩ := hP
  have hx := Bd.exec
  have hby := Bd.bytes
  have hml : c.maxLocals = 16 := hml0
  have hown : s.vm.findClass "com/example/libbisim/libbisim/CompactIntsOfPinLaw" = some m.cls := findClass_of_methodNamed Bd.named
  have hnm := (name_of_methodNamed Bd.named Bd.method).1
  have X0 : Stand p l e room_1 s m #[(.int p0), (.int p1), (.int p2), (.int p3), (.int p4), (.int p5)] below meth c s₁ [] 0 0 := Stand.of_body Bd
  have e0 : s₁.heap = h0 := by rw [← hh, Bd.state]; rfl
  have N0 := Fr.nil n0
  have pre0 : ∀ t, Steps p.tables e below (s₁.setTop (mkF m 0 #[.val (.int p0), .val (.int p1), .val (.int p2), .val (.int p3), .val (.int p4), .val (.int p5), .unset, .unset, .unset, .unset, .unset, .unset, .unset, .unset, .unset, .unset] [])) t → Steps p.tables e below (s₁.setTop (entryFrame m #[(.int p0), (.int p1), (.int p2), (.int p3), (.int p4), (.int p5)] maxLocals)) t := fun t k => castTop (ef_rm0 m p0 p1 p2 p3 p4 p5) k
  have st1 : ∀ target, Steps p.tables e below (s₁.setTop (mkF m 14 #[.val (.int p0), .val (.int p1), .val (.int p2), .val (.int p3), .val (.int p4), .val (.int p5), .unset, .unset, .unset, .unset, .unset, .unset, .unset, .unset, .unset, .unset] [(.int (((p5 &&& (2147483647 : Int32)).toUInt32 >>> ((((p4.toUInt32 >>> ((3 : Int32) &&& 31).toUInt32).toInt32) &&& (31 : Int32)) &&& 31).toUInt32).toInt32)), (.int (1 : Int32))])) target → Steps p.tables e below (s₁.setTop (mkF m 0 #[.val (.int p0), .val (.int p1), .val (.int p2), .val (.int p3), .val (.int p4), .val (.int p5), .unset, .unset, .unset, .unset, .unset, .unset, .unset, .unset, .unset, .unset] [])) target := by
    intro target kt
    refine XS.iconst X0.here hx rfl (hb hby at_0) ?_
    refine XS.iload X0.here hx rfl (hb hby at_1) rfl ?_
    refine X0.ldcInt hx hown (mvT hZ (hw _ (List.mem_of_getElem? (i := 0) rfl))) (g := (mkF m 3 #[.val (.int p0), .val (.int p1), .val (.int p2), .val (.int p3), .val (.int p4), .val (.int p5), .unset, .unset, .unset, .unset, .unset, .unset, .unset, .unset, .unset, .unset] [(.int p5), (.int (1 : Int32))])) rfl (hb hby at_3) _ ?_
    refine XS.iand X0.here hx rfl (hb hby at_5) rfl ?_
    refine XS.iload X0.here hx rfl (hb hby at_6) rfl ?_
    refine XS.iconst X0.here hx rfl (hb hby at_8) ?_
    refine XS.iushr X0.here hx rfl (hb hby at_9) rfl ?_
    show Steps p.tables e below (s₁.setTop (mkF m 10 #[.val (.int p0), .val (.int p1), .val (.int p2), .val (.int p3), .val (.int p4), .val (.int p5), .unset, .unset, .unset, .unset, .unset, .unset, .unset, .unset, .unset, .unset] [(.int ((p4.toUInt32 >>> ((3 : Int32) &&& 31).toUInt32).toInt32)), (.int (p5 &&& (2147483647 : Int32))), (.int (1 : Int32))])) _
    refine XS.bipush X0.here hx rfl (hb hby at_10) ?_
    refine XS.iand X0.here hx rfl (hb hby at_12) rfl ?_
    refine XS.iushr X0.here hx rfl (hb hby at_13) rfl ?_
    exact kt
  obtain ⟨_, _, ⟨T2, L2, k2, n2⟩, -, X2, ⟨Lc2, hQ2, l2, y2, z2⟩, st2⟩ := Jvm.LawKit.callS X0 hx (y := (⟨"java/lang/Math", "max", "(II)I"⟩ : MethodName)) hown (mvT hZ (hw _ (List.mem_of_getElem? (i := 1) rfl))) (mvT hZ (hw _ (List.mem_of_getElem? (i := 2) rfl))) (mvT hZ (hw _ (List.mem_of_getElem? (i := 3) rfl))) (mvT hZ (hw _ (List.mem_of_getElem? (i := 4) rfl))) (by decide) (backOf (W := 0) (rm1 l Z a0 hw [] (1 : Int32) (((p5 &&& (2147483647 : Int32)).toUInt32 >>> ((((p4.toUInt32 >>> ((3 : Int32) &&& 31).toUInt32).toInt32) &&& (31 : Int32)) &&& 31).toUInt32).toInt32)  h0 n0 Z0 ) hZ (hw _ (List.mem_of_getElem? (i := 4) rfl)) (hw _ (List.mem_of_getElem? (i := 3) rfl)) (by decide) (by decide)) (g := (mkF m 14 #[.val (.int p0), .val (.int p1), .val (.int p2), .val (.int p3), .val (.int p4), .val (.int p5), .unset, .unset, .unset, .unset, .unset, .unset, .unset, .unset, .unset, .unset] [(.int (((p5 &&& (2147483647 : Int32)).toUInt32 >>> ((((p4.toUInt32 >>> ((3 : Int32) &&& 31).toUInt32).toInt32) &&& (31 : Int32)) &&& 31).toUInt32).toInt32)), (.int (1 : Int32))])) rfl (by rw [hml]; rfl) (argsL := [(.int (1 : Int32)), (.int (((p5 &&& (2147483647 : Int32)).toUInt32 >>> ((((p4.toUInt32 >>> ((3 : Int32) &&& 31).toUInt32).toInt32) &&& (31 : Int32)) &&& 31).toUInt32).toInt32))]) (rest := []) (lenOf pd_0 rfl) rfl (by show 2 * 0 + _ ≤ _; exact Nat.le_of_eq rfl) (hb hby at_14) (fun _ _ => ⟨rfl, e0, (by decide : 0 + 0 ≤ _), (by decide : 0 + 0 ≤ _)⟩)
  dsimp only [Pt.U, Pt.locs, Pt.cells, Pt.slots] at X2 l2 y2 z2 st2 hQ2
  subst l2 y2 z2
  obtain ⟨rfl, Nq2, e2⟩ := hQ2
  have N2 := Fr.app N0 Nq2
  obtain ⟨bd, hbd⟩ : ∃ z : Int32, z = (if (1 : Int32) < (((p5 &&& (2147483647 : Int32)).toUInt32 >>> ((((p4.toUInt32 >>> ((3 : Int32) &&& 31).toUInt32).toInt32) &&& (31 : Int32)) &&& 31).toUInt32).toInt32) then (((p5 &&& (2147483647 : Int32)).toUInt32 >>> ((((p4.toUInt32 >>> ((3 : Int32) &&& 31).toUInt32).toInt32) &&& (31 : Int32)) &&& 31).toUInt32).toInt32) else (1 : Int32)) := ⟨_, rfl⟩
  rw [← hbd] at st2
  have st3 : ∀ target, Steps p.tables e below (T2.setTop (mkF m 19 #[.val (.int p0), .val (.int p1), .val (.int p2), .val (.int p3), .val (.int p4), .val (.int p5), .val (.int bd), .unset, .unset, .unset, .unset, .unset, .unset, .unset, .unset, .unset] [])) target → Steps p.tables e below (T2.setTop (mkF m 17 #[.val (.int p0), .val (.int p1), .val (.int p2), .val (.int p3), .val (.int p4), .val (.int p5), .unset, .unset, .unset, .unset, .unset, .unset, .unset, .unset, .unset, .unset] [(.int bd)])) target := by
    intro target kt
    refine XS.istore X2.here hx rfl (hb hby at_17) rfl (l' := #[.val (.int p0), .val (.int p1), .val (.int p2), .val (.int p3), .val (.int p4), .val (.int p5), .val (.int bd), .unset, .unset, .unset, .unset, .unset, .unset, .unset, .unset, .unset]) rfl ?_
    exact kt
  have hbd' : 0 < bd.toInt := hbd ▸ own_bd _
  have bnz := own_nz hbd'
  have st4 : ∀ target, Steps p.tables e below (T2.setTop (mkF m 28 #[.val (.int p0), .val (.int p1), .val (.int p2), .val (.int p3), .val (.int p4), .val (.int p5), .val (.int bd), .val (.int ((p4 &&& (7 : Int32)) % (5 : Int32))), .unset, .unset, .unset, .unset, .unset, .unset, .unset, .unset] [])) target → Steps p.tables e below (T2.setTop (mkF m 19 #[.val (.int p0), .val (.int p1), .val (.int p2), .val (.int p3), .val (.int p4), .val (.int p5), .val (.int bd), .unset, .unset, .unset, .unset, .unset, .unset, .unset, .unset, .unset] [])) target := by
    intro target kt
    refine XS.iload X2.here hx rfl (hb hby at_19) rfl ?_
    refine XS.bipush X2.here hx rfl (hb hby at_21) ?_
    refine XS.iand X2.here hx rfl (hb hby at_23) rfl ?_
    refine XS.iconst X2.here hx rfl (hb hby at_24) ?_
    show Steps p.tables e below (T2.setTop (mkF m 25 #[.val (.int p0), .val (.int p1), .val (.int p2), .val (.int p3), .val (.int p4), .val (.int p5), .val (.int bd), .unset, .unset, .unset, .unset, .unset, .unset, .unset, .unset, .unset] [(.int (5 : Int32)), (.int (p4 &&& (7 : Int32)))])) _
    refine iremM (g := (mkF m 25 #[.val (.int p0), .val (.int p1), .val (.int p2), .val (.int p3), .val (.int p4), .val (.int p5), .val (.int bd), .unset, .unset, .unset, .unset, .unset, .unset, .unset, .unset, .unset] [(.int (5 : Int32)), (.int (p4 &&& (7 : Int32)))])) X2 hx rfl (hb hby at_25) rfl (by decide) ?_
    refine XS.istore X2.here hx rfl (hb hby at_26) rfl (l' := #[.val (.int p0), .val (.int p1), .val (.int p2), .val (.int p3), .val (.int p4), .val (.int p5), .val (.int bd), .val (.int ((p4 &&& (7 : Int32)) % (5 : Int32))), .unset, .unset, .unset, .unset, .unset, .unset, .unset, .unset]) rfl ?_
    exact kt
  obtain ⟨len, hlen⟩ : ∃ z : Int32, z = ((p4 &&& (7 : Int32)) % (5 : Int32)) := ⟨_, rfl⟩
  rw [← hlen] at st4
  have hl5 := hlen ▸ own_l5 p4
  have st5 : ∀ target, Steps p.tables e below (T2.setTop (mkF m 64 #[.val (.int p0), .val (.int p1), .val (.int p2), .val (.int p3), .val (.int p4), .val (.int p5), .val (.int bd), .val (.int len), .val (.int ((p0 &&& (2147483647 : Int32)) % bd)), .val (.int ((p1 &&& (2147483647 : Int32)) % bd)), .val (.int ((p2 &&& (2147483647 : Int32)) % bd)), .val (.int ((p3 &&& (2147483647 : Int32)) % bd)), .unset, .unset, .unset, .unset] [])) target → Steps p.tables e below (T2.setTop (mkF m 28 #[.val (.int p0), .val (.int p1), .val (.int p2), .val (.int p3), .val (.int p4), .val (.int p5), .val (.int bd), .val (.int len), .unset, .unset, .unset, .unset, .unset, .unset, .unset, .unset] [])) target := by
    intro target kt
    refine XS.iloadN X2.here hx rfl (hb hby at_28) rfl ?_
    refine X2.ldcInt hx hown (mvT hZ (hw _ (List.mem_of_getElem? (i := 0) rfl))) (g := (mkF m 29 #[.val (.int p0), .val (.int p1), .val (.int p2), .val (.int p3), .val (.int p4), .val (.int p5), .val (.int bd), .val (.int len), .unset, .unset, .unset, .unset, .unset, .unset, .unset, .unset] [(.int p0)])) rfl (hb hby at_29) _ ?_
    refine XS.iand X2.here hx rfl (hb hby at_31) rfl ?_
    refine XS.iload X2.here hx rfl (hb hby at_32) rfl ?_
    refine iremM (g := (mkF m 34 #[.val (.int p0), .val (.int p1), .val (.int p2), .val (.int p3), .val (.int p4), .val (.int p5), .val (.int bd), .val (.int len), .unset, .unset, .unset, .unset, .unset, .unset, .unset, .unset] [(.int bd), (.int (p0 &&& (2147483647 : Int32)))])) X2 hx rfl (hb hby at_34) rfl bnz ?_
    refine XS.istore X2.here hx rfl (hb hby at_35) rfl (l' := #[.val (.int p0), .val (.int p1), .val (.int p2), .val (.int p3), .val (.int p4), .val (.int p5), .val (.int bd), .val (.int len), .val (.int ((p0 &&& (2147483647 : Int32)) % bd)), .unset, .unset, .unset, .unset, .unset, .unset, .unset]) rfl ?_
    show Steps p.tables e below (T2.setTop (mkF m 37 #[.val (.int p0), .val (.int p1), .val (.int p2), .val (.int p3), .val (.int p4), .val (.int p5), .val (.int bd), .val (.int len), .val (.int ((p0 &&& (2147483647 : Int32)) % bd)), .unset, .unset, .unset, .unset, .unset, .unset, .unset] [])) _
    refine XS.iloadN X2.here hx rfl (hb hby at_37) rfl ?_
    refine X2.ldcInt hx hown (mvT hZ (hw _ (List.mem_of_getElem? (i := 0) rfl))) (g := (mkF m 38 #[.val (.int p0), .val (.int p1), .val (.int p2), .val (.int p3), .val (.int p4), .val (.int p5), .val (.int bd), .val (.int len), .val (.int ((p0 &&& (2147483647 : Int32)) % bd)), .unset, .unset, .unset, .unset, .unset, .unset, .unset] [(.int p1)])) rfl (hb hby at_38) _ ?_
    refine XS.iand X2.here hx rfl (hb hby at_40) rfl ?_
    refine XS.iload X2.here hx rfl (hb hby at_41) rfl ?_
    refine iremM (g := (mkF m 43 #[.val (.int p0), .val (.int p1), .val (.int p2), .val (.int p3), .val (.int p4), .val (.int p5), .val (.int bd), .val (.int len), .val (.int ((p0 &&& (2147483647 : Int32)) % bd)), .unset, .unset, .unset, .unset, .unset, .unset, .unset] [(.int bd), (.int (p1 &&& (2147483647 : Int32)))])) X2 hx rfl (hb hby at_43) rfl bnz ?_
    refine XS.istore X2.here hx rfl (hb hby at_44) rfl (l' := #[.val (.int p0), .val (.int p1), .val (.int p2), .val (.int p3), .val (.int p4), .val (.int p5), .val (.int bd), .val (.int len), .val (.int ((p0 &&& (2147483647 : Int32)) % bd)), .val (.int ((p1 &&& (2147483647 : Int32)) % bd)), .unset, .unset, .unset, .unset, .unset, .unset]) rfl ?_
    refine XS.iloadN X2.here hx rfl (hb hby at_46) rfl ?_
    refine X2.ldcInt hx hown (mvT hZ (hw _ (List.mem_of_getElem? (i := 0) rfl))) (g := (mkF m 47 #[.val (.int p0), .val (.int p1), .val (.int p2), .val (.int p3), .val (.int p4), .val (.int p5), .val (.int bd), .val (.int len), .val (.int ((p0 &&& (2147483647 : Int32)) % bd)), .val (.int ((p1 &&& (2147483647 : Int32)) % bd)), .unset, .unset, .unset, .unset, .unset, .unset] [(.int p2)])) rfl (hb hby at_47) _ ?_
    show Steps p.tables e below (T2.setTop (mkF m 49 #[.val (.int p0), .val (.int p1), .val (.int p2), .val (.int p3), .val (.int p4), .val (.int p5), .val (.int bd), .val (.int len), .val (.int ((p0 &&& (2147483647 : Int32)) % bd)), .val (.int ((p1 &&& (2147483647 : Int32)) % bd)), .unset, .unset, .unset, .unset, .unset, .unset] [(.int (2147483647 : Int32)), (.int p2)])) _
    refine XS.iand X2.here hx rfl (hb hby at_49) rfl ?_
    refine XS.iload X2.here hx rfl (hb hby at_50) rfl ?_
    refine iremM (g := (mkF m 52 #[.val (.int p0), .val (.int p1), .val (.int p2), .val (.int p3), .val (.int p4), .val (.int p5), .val (.int bd), .val (.int len), .val (.int ((p0 &&& (2147483647 : Int32)) % bd)), .val (.int ((p1 &&& (2147483647 : Int32)) % bd)), .unset, .unset, .unset, .unset, .unset, .unset] [(.int bd), (.int (p2 &&& (2147483647 : Int32)))])) X2 hx rfl (hb hby at_52) rfl bnz ?_
    refine XS.istore X2.here hx rfl (hb hby at_53) rfl (l' := #[.val (.int p0), .val (.int p1), .val (.int p2), .val (.int p3), .val (.int p4), .val (.int p5), .val (.int bd), .val (.int len), .val (.int ((p0 &&& (2147483647 : Int32)) % bd)), .val (.int ((p1 &&& (2147483647 : Int32)) % bd)), .val (.int ((p2 &&& (2147483647 : Int32)) % bd)), .unset, .unset, .unset, .unset, .unset]) rfl ?_
    refine XS.iloadN X2.here hx rfl (hb hby at_55) rfl ?_
    refine X2.ldcInt hx hown (mvT hZ (hw _ (List.mem_of_getElem? (i := 0) rfl))) (g := (mkF m 56 #[.val (.int p0), .val (.int p1), .val (.int p2), .val (.int p3), .val (.int p4), .val (.int p5), .val (.int bd), .val (.int len), .val (.int ((p0 &&& (2147483647 : Int32)) % bd)), .val (.int ((p1 &&& (2147483647 : Int32)) % bd)), .val (.int ((p2 &&& (2147483647 : Int32)) % bd)), .unset, .unset, .unset, .unset, .unset] [(.int p3)])) rfl (hb hby at_56) _ ?_
    refine XS.iand X2.here hx rfl (hb hby at_58) rfl ?_
    refine XS.iload X2.here hx rfl (hb hby at_59) rfl ?_
    show Steps p.tables e below (T2.setTop (mkF m 61 #[.val (.int p0), .val (.int p1), .val (.int p2), .val (.int p3), .val (.int p4), .val (.int p5), .val (.int bd), .val (.int len), .val (.int ((p0 &&& (2147483647 : Int32)) % bd)), .val (.int ((p1 &&& (2147483647 : Int32)) % bd)), .val (.int ((p2 &&& (2147483647 : Int32)) % bd)), .unset, .unset, .unset, .unset, .unset] [(.int bd), (.int (p3 &&& (2147483647 : Int32)))])) _
    refine iremM (g := (mkF m 61 #[.val (.int p0), .val (.int p1), .val (.int p2), .val (.int p3), .val (.int p4), .val (.int p5), .val (.int bd), .val (.int len), .val (.int ((p0 &&& (2147483647 : Int32)) % bd)), .val (.int ((p1 &&& (2147483647 : Int32)) % bd)), .val (.int ((p2 &&& (2147483647 : Int32)) % bd)), .unset, .unset, .unset, .unset, .unset] [(.int bd), (.int (p3 &&& (2147483647 : Int32)))])) X2 hx rfl (hb hby at_61) rfl bnz ?_
    refine XS.istore X2.here hx rfl (hb hby at_62) rfl (l' := #[.val (.int p0), .val (.int p1), .val (.int p2), .val (.int p3), .val (.int p4), .val (.int p5), .val (.int bd), .val (.int len), .val (.int ((p0 &&& (2147483647 : Int32)) % bd)), .val (.int ((p1 &&& (2147483647 : Int32)) % bd)), .val (.int ((p2 &&& (2147483647 : Int32)) % bd)), .val (.int ((p3 &&& (2147483647 : Int32)) % bd)), .unset, .unset, .unset, .unset]) rfl ?_
    exact kt
  obtain ⟨v0, hv0⟩ : ∃ z : Int32, z = ((p0 &&& (2147483647 : Int32)) % bd) := ⟨_, rfl⟩
  rw [← hv0] at st5
  have R0 : 0 ≤ v0.toInt ∧ v0.toInt < bd.toInt := hv0 ▸ own_rem hbd'
  obtain ⟨v1, hv1⟩ : ∃ z : Int32, z = ((p1 &&& (2147483647 : Int32)) % bd) := ⟨_, rfl⟩
  rw [← hv1] at st5
  have R1 : 0 ≤ v1.toInt ∧ v1.toInt < bd.toInt := hv1 ▸ own_rem hbd'
  obtain ⟨v2, hv2⟩ : ∃ z : Int32, z = ((p2 &&& (2147483647 : Int32)) % bd) := ⟨_, rfl⟩
  rw [← hv2] at st5
  have R2 : 0 ≤ v2.toInt ∧ v2.toInt < bd.toInt := hv2 ▸ own_rem hbd'
  obtain ⟨v3, hv3⟩ : ∃ z : Int32, z = ((p3 &&& (2147483647 : Int32)) % bd) := ⟨_, rfl⟩
  rw [← hv3] at st5
  have R3 : 0 ≤ v3.toInt ∧ v3.toInt < bd.toInt := hv3 ▸ own_rem hbd'
  have st6 : ∀ target, Steps p.tables e below (T2.setTop (mkF m 65 #[.val (.int p0), .val (.int p1), .val (.int p2), .val (.int p3), .val (.int p4), .val (.int p5), .val (.int bd), .val (.int len), .val (.int v0), .val (.int v1), .val (.int v2), .val (.int v3), .unset, .unset, .unset, .unset] [(.int (4 : Int32))])) target → Steps p.tables e below (T2.setTop (mkF m 64 #[.val (.int p0), .val (.int p1), .val (.int p2), .val (.int p3), .val (.int p4), .val (.int p5), .val (.int bd), .val (.int len), .val (.int v0), .val (.int v1), .val (.int v2), .val (.int v3), .unset, .unset, .unset, .unset] [])) target := by
    intro target kt
    refine XS.iconst X2.here hx rfl (hb hby at_64) ?_
    exact kt
  obtain ⟨T7, h7, k7, X7, e7, E7, A7, st7⟩ := newP X2 hx hZ (hw _ (List.mem_of_getElem? (i := 5) rfl)) e2 (g := (mkF m 65 #[.val (.int p0), .val (.int p1), .val (.int p2), .val (.int p3), .val (.int p4), .val (.int p5), .val (.int bd), .val (.int len), .val (.int v0), .val (.int v1), .val (.int v2), .val (.int v3), .unset, .unset, .unset, .unset] [(.int (4 : Int32))])) rfl (hb hby at_65) rfl (by decide) (cap := 4) (by decide) (by decide) (by decide) (by decide)
  obtain ⟨a, g7⟩ : ∃ z, z = h0.size := ⟨_, rfl⟩
  rw [← g7] at A7 st7
  have g_a : n0 ≤ a := Nat.le_trans Z0 (Nat.le_of_eq g7.symm)
  have Z_7 : n0 ≤ h7.size := Nat.le_trans Z0 E7.1
  have V_a : Arv Z h7 a k7 .int (4 : Int32) [(.int (0 : Int32)), (.int (0 : Int32)), (.int (0 : Int32)), (.int (0 : Int32))] (.int (0 : Int32)) := (Arv.new A7 (by decide)).pad (pad_rep [] (.int (0 : Int32)) 4)
  have st8 : ∀ target, Steps p.tables e below (T7.setTop (mkF m 74 #[.val (.int p0), .val (.int p1), .val (.int p2), .val (.int p3), .val (.int p4), .val (.int p5), .val (.int bd), .val (.int len), .val (.int v0), .val (.int v1), .val (.int v2), .val (.int v3), .val (.ref a), .unset, .unset, .unset] [(.int v0), (.int (0 : Int32)), (.ref a)])) target → Steps p.tables e below (T7.setTop (mkF m 67 #[.val (.int p0), .val (.int p1), .val (.int p2), .val (.int p3), .val (.int p4), .val (.int p5), .val (.int bd), .val (.int len), .val (.int v0), .val (.int v1), .val (.int v2), .val (.int v3), .unset, .unset, .unset, .unset] [(.ref a)])) target := by
    intro target kt
    refine XS.astore X7.here hx rfl (hb hby at_67) rfl rfl (l' := #[.val (.int p0), .val (.int p1), .val (.int p2), .val (.int p3), .val (.int p4), .val (.int p5), .val (.int bd), .val (.int len), .val (.int v0), .val (.int v1), .val (.int v2), .val (.int v3), .val (.ref a), .unset, .unset, .unset]) rfl ?_
    refine XS.aload X7.here hx rfl (hb hby at_69) rfl rfl ?_
    refine XS.iconst X7.here hx rfl (hb hby at_71) ?_
    refine XS.iload X7.here hx rfl (hb hby at_72) rfl ?_
    exact kt
  obtain ⟨cl9, Ar9, qc9, Sz9, Mn9, Hs9, Gs9⟩ := id V_a
  have hin9 : ¬ ((0 : Int32) < 0 ∨ cl9.slots.size ≤ ((0 : Int32)).toNatClampNeg) := inb_of Sz9 ⟨by decide, by decide⟩
  obtain ⟨T9, h9, X9, e9, W9, st9⟩ := stI X7 hx hZ e7 Ar9 (j := (0 : Int32)) hin9 (g := (mkF m 74 #[.val (.int p0), .val (.int p1), .val (.int p2), .val (.int p3), .val (.int p4), .val (.int p5), .val (.int bd), .val (.int len), .val (.int v0), .val (.int v1), .val (.int v2), .val (.int v3), .val (.ref a), .unset, .unset, .unset] [(.int v0), (.int (0 : Int32)), (.ref a)])) rfl rfl (hb hby at_74)
  have V_a_9 : Arv Z h9 a k7 .int (4 : Int32) [(.int v0), (.int (0 : Int32)), (.int (0 : Int32)), (.int (0 : Int32))] (.int (0 : Int32)) := Arv.set Ar9 qc9 Sz9 Mn9 Hs9 Gs9 rfl W9 0 rfl (Nat.le_of_ble_eq_true rfl)
  have Z_9 : n0 ≤ h9.size := Nat.le_trans Z_7 (Keep.of_wr W9).1
  have N9 := Fr.snoc X9 N2 g_a
  have st10 : ∀ target, Steps p.tables e below (T9.setTop (mkF m 80 #[.val (.int p0), .val (.int p1), .val (.int p2), .val (.int p3), .val (.int p4), .val (.int p5), .val (.int bd), .val (.int len), .val (.int v0), .val (.int v1), .val (.int v2), .val (.int v3), .val (.ref a), .unset, .unset, .unset] [(.int v1), (.int (1 : Int32)), (.ref a)])) target → Steps p.tables e below (T9.setTop (mkF m 75 #[.val (.int p0), .val (.int p1), .val (.int p2), .val (.int p3), .val (.int p4), .val (.int p5), .val (.int bd), .val (.int len), .val (.int v0), .val (.int v1), .val (.int v2), .val (.int v3), .val (.ref a), .unset, .unset, .unset] [])) target := by
    intro target kt
    refine XS.aload X9.here hx rfl (hb hby at_75) rfl rfl ?_
    show Steps p.tables e below (T9.setTop (mkF m 77 #[.val (.int p0), .val (.int p1), .val (.int p2), .val (.int p3), .val (.int p4), .val (.int p5), .val (.int bd), .val (.int len), .val (.int v0), .val (.int v1), .val (.int v2), .val (.int v3), .val (.ref a), .unset, .unset, .unset] [(.ref a)])) _
    refine XS.iconst X9.here hx rfl (hb hby at_77) ?_
    refine XS.iload X9.here hx rfl (hb hby at_78) rfl ?_
    exact kt
  obtain ⟨cl11, Ar11, qc11, Sz11, Mn11, Hs11, Gs11⟩ := id V_a_9
  have hin11 : ¬ ((1 : Int32) < 0 ∨ cl11.slots.size ≤ ((1 : Int32)).toNatClampNeg) := inb_of Sz11 ⟨by decide, by decide⟩
  obtain ⟨T11, h11, X11, e11, W11, st11⟩ := stI X9 hx hZ e9 Ar11 (j := (1 : Int32)) hin11 (g := (mkF m 80 #[.val (.int p0), .val (.int p1), .val (.int p2), .val (.int p3), .val (.int p4), .val (.int p5), .val (.int bd), .val (.int len), .val (.int v0), .val (.int v1), .val (.int v2), .val (.int v3), .val (.ref a), .unset, .unset, .unset] [(.int v1), (.int (1 : Int32)), (.ref a)])) rfl rfl (hb hby at_80)
  have V_a_11 : Arv Z h11 a k7 .int (4 : Int32) [(.int v0), (.int v1), (.int (0 : Int32)), (.int (0 : Int32))] (.int (0 : Int32)) := Arv.set Ar11 qc11 Sz11 Mn11 Hs11 Gs11 rfl W11 1 rfl (Nat.le_of_ble_eq_true rfl)
  have Z_11 : n0 ≤ h11.size := Nat.le_trans Z_9 (Keep.of_wr W11).1
  have N11 := Fr.snoc X11 N9 g_a
  have st12 : ∀ target, Steps p.tables e below (T11.setTop (mkF m 86 #[.val (.int p0), .val (.int p1), .val (.int p2), .val (.int p3), .val (.int p4), .val (.int p5), .val (.int bd), .val (.int len), .val (.int v0), .val (.int v1), .val (.int v2), .val (.int v3), .val (.ref a), .unset, .unset, .unset] [(.int v2), (.int (2 : Int32)), (.ref a)])) target → Steps p.tables e below (T11.setTop (mkF m 81 #[.val (.int p0), .val (.int p1), .val (.int p2), .val (.int p3), .val (.int p4), .val (.int p5), .val (.int bd), .val (.int len), .val (.int v0), .val (.int v1), .val (.int v2), .val (.int v3), .val (.ref a), .unset, .unset, .unset] [])) target := by
    intro target kt
    refine XS.aload X11.here hx rfl (hb hby at_81) rfl rfl ?_
    refine XS.iconst X11.here hx rfl (hb hby at_83) ?_
    refine XS.iload X11.here hx rfl (hb hby at_84) rfl ?_
    exact kt
  obtain ⟨cl13, Ar13, qc13, Sz13, Mn13, Hs13, Gs13⟩ := id V_a_11
  have hin13 : ¬ ((2 : Int32) < 0 ∨ cl13.slots.size ≤ ((2 : Int32)).toNatClampNeg) := inb_of Sz13 ⟨by decide, by decide⟩
  obtain ⟨T13, h13, X13, e13, W13, st13⟩ := stI X11 hx hZ e11 Ar13 (j := (2 : Int32)) hin13 (g := (mkF m 86 #[.val (.int p0), .val (.int p1), .val (.int p2), .val (.int p3), .val (.int p4), .val (.int p5), .val (.int bd), .val (.int len), .val (.int v0), .val (.int v1), .val (.int v2), .val (.int v3), .val (.ref a), .unset, .unset, .unset] [(.int v2), (.int (2 : Int32)), (.ref a)])) rfl rfl (hb hby at_86)
  have V_a_13 : Arv Z h13 a k7 .int (4 : Int32) [(.int v0), (.int v1), (.int v2), (.int (0 : Int32))] (.int (0 : Int32)) := Arv.set Ar13 qc13 Sz13 Mn13 Hs13 Gs13 rfl W13 2 rfl (Nat.le_of_ble_eq_true rfl)
  have Z_13 : n0 ≤ h13.size := Nat.le_trans Z_11 (Keep.of_wr W13).1
  have N13 := Fr.snoc X13 N11 g_a
  have st14 : ∀ target, Steps p.tables e below (T13.setTop (mkF m 92 #[.val (.int p0), .val (.int p1), .val (.int p2), .val (.int p3), .val (.int p4), .val (.int p5), .val (.int bd), .val (.int len), .val (.int v0), .val (.int v1), .val (.int v2), .val (.int v3), .val (.ref a), .unset, .unset, .unset] [(.int v3), (.int (3 : Int32)), (.ref a)])) target → Steps p.tables e below (T13.setTop (mkF m 87 #[.val (.int p0), .val (.int p1), .val (.int p2), .val (.int p3), .val (.int p4), .val (.int p5), .val (.int bd), .val (.int len), .val (.int v0), .val (.int v1), .val (.int v2), .val (.int v3), .val (.ref a), .unset, .unset, .unset] [])) target := by
    intro target kt
    refine XS.aload X13.here hx rfl (hb hby at_87) rfl rfl ?_
    refine XS.iconst X13.here hx rfl (hb hby at_89) ?_
    refine XS.iload X13.here hx rfl (hb hby at_90) rfl ?_
    exact kt
  obtain ⟨cl15, Ar15, qc15, Sz15, Mn15, Hs15, Gs15⟩ := id V_a_13
  have hin15 : ¬ ((3 : Int32) < 0 ∨ cl15.slots.size ≤ ((3 : Int32)).toNatClampNeg) := inb_of Sz15 ⟨by decide, by decide⟩
  obtain ⟨T15, h15, X15, e15, W15, st15⟩ := stI X13 hx hZ e13 Ar15 (j := (3 : Int32)) hin15 (g := (mkF m 92 #[.val (.int p0), .val (.int p1), .val (.int p2), .val (.int p3), .val (.int p4), .val (.int p5), .val (.int bd), .val (.int len), .val (.int v0), .val (.int v1), .val (.int v2), .val (.int v3), .val (.ref a), .unset, .unset, .unset] [(.int v3), (.int (3 : Int32)), (.ref a)])) rfl rfl (hb hby at_92)
  have V_a_15 : Arv Z h15 a k7 .int (4 : Int32) [(.int v0), (.int v1), (.int v2), (.int v3)] (.int (0 : Int32)) := Arv.set Ar15 qc15 Sz15 Mn15 Hs15 Gs15 rfl W15 3 rfl (Nat.le_of_ble_eq_true rfl)
  have Z_15 : n0 ≤ h15.size := Nat.le_trans Z_13 (Keep.of_wr W15).1
  have N15 := Fr.snoc X15 N13 g_a
  clear hlen hbd
  rcases hl5 with rfl | rfl | rfl | rfl | rfl
  · have st16 : ∀ target, Steps p.tables e below (T15.setTop (mkF m 99 #[.val (.int p0), .val (.int p1), .val (.int p2), .val (.int p3), .val (.int p4), .val (.int p5), .val (.int bd), .val (.int (0 : Int32)), .val (.int v0), .val (.int v1), .val (.int v2), .val (.int v3), .val (.ref a), .unset, .unset, .unset] [(.int bd), (.int (0 : Int32)), (.ref a)])) target → Steps p.tables e below (T15.setTop (mkF m 93 #[.val (.int p0), .val (.int p1), .val (.int p2), .val (.int p3), .val (.int p4), .val (.int p5), .val (.int bd), .val (.int (0 : Int32)), .val (.int v0), .val (.int v1), .val (.int v2), .val (.int v3), .val (.ref a), .unset, .unset, .unset] [])) target := by
      intro target kt
      show Steps p.tables e below (T15.setTop (mkF m 93 #[.val (.int p0), .val (.int p1), .val (.int p2), .val (.int p3), .val (.int p4), .val (.int p5), .val (.int bd), .val (.int (0 : Int32)), .val (.int v0), .val (.int v1), .val (.int v2), .val (.int v3), .val (.ref a), .unset, .unset, .unset] [])) _
      refine XS.aload X15.here hx rfl (hb hby at_93) rfl rfl ?_
      refine XS.iload X15.here hx rfl (hb hby at_95) rfl ?_
      refine XS.iload X15.here hx rfl (hb hby at_97) rfl ?_
      exact kt
    obtain ⟨_, _, ⟨T17, L17, k17, n17⟩, -, X17, ⟨Lc17, hQ17, l17, y17, z17⟩, st17⟩ := Jvm.LawKit.callS X15 hx (y := (⟨"com/example/libbisim/libbisim/CompactInts", "of", "([III)Lcom/example/libbisim/libbisim/CompactInts;"⟩ : MethodName)) hown (mvT hZ (hw _ (List.mem_of_getElem? (i := 6) rfl))) (mvT hZ (hw _ (List.mem_of_getElem? (i := 7) rfl))) (mvT hZ (hw _ (List.mem_of_getElem? (i := 8) rfl))) (mvT hZ (hw _ (List.mem_of_getElem? (i := 9) rfl))) (by decide) (backOf (W := 0) (rmOf0 l Z a0 hw [] a bd k7 v0 v1 v2 v3 h15 n0 Z_15 V_a_15) hZ (hw _ (List.mem_of_getElem? (i := 9) rfl)) (hw _ (List.mem_of_getElem? (i := 8) rfl)) (by decide) (by decide)) (g := (mkF m 99 #[.val (.int p0), .val (.int p1), .val (.int p2), .val (.int p3), .val (.int p4), .val (.int p5), .val (.int bd), .val (.int (0 : Int32)), .val (.int v0), .val (.int v1), .val (.int v2), .val (.int v3), .val (.ref a), .unset, .unset, .unset] [(.int bd), (.int (0 : Int32)), (.ref a)])) rfl (by rw [hml]; rfl) (argsL := [(.ref a), (.int (0 : Int32)), (.int bd)]) (rest := []) (lenOf pd_1 rfl) rfl (by show 2 * 0 + _ ≤ _; exact Nat.le_of_eq rfl) (hb hby at_99) (fun _ _ => ⟨rfl, e15, (by decide : 1 + 2 ≤ _), (by decide : 4 + 3 ≤ _)⟩)
    dsimp only [Pt.U, Pt.locs, Pt.cells, Pt.slots] at X17 l17 y17 z17 st17 hQ17
    subst l17 y17 z17
    obtain ⟨b17, rfl, Nq17, K17, sz17, Eb, alt⟩ := hQ17
    have N17 := Fr.app N15 Nq17
    have g_b17 : n0 ≤ b17 := Nat.le_trans Z_15 sz17
    have ne_a_b17 : a ≠ b17 := Nat.ne_of_lt (Nat.lt_of_lt_of_le V_a_15.lt sz17)
    have V_a_17 := V_a_15.keep K17 nin0
    have Z_17 : n0 ≤ T17.heap.size := Nat.le_trans Z_15 K17.1
    rcases alt with ⟨q1, y, ky, szy, Fb, Vy⟩ | ⟨q1, q2, y, ky, szy, Fb, Fc, Vy⟩ | ⟨q1, Fb, Fc, y, ky, szy, Fi, Vy⟩
    · have ne_a_y : a ≠ y := Nat.ne_of_lt (Nat.lt_of_lt_of_le (V_a_15).lt szy)
      have hle : bd.toInt ≤ 256 := own_le rfl q1
      have st18 : ∀ target, Steps p.tables e below (T17.setTop (mkF m 136 #[.val (.int p0), .val (.int p1), .val (.int p2), .val (.int p3), .val (.int p4), .val (.int p5), .val (.int bd), .val (.int (0 : Int32)), .val (.int v0), .val (.int v1), .val (.int v2), .val (.int v3), .val (.ref a), .val (.ref b17), .val (.int (0 : Int32)), .unset] [(.int (v0 ^^^ (1 : Int32))), (.int (0 : Int32)), (.ref a)])) target → Steps p.tables e below (T17.setTop (mkF m 102 #[.val (.int p0), .val (.int p1), .val (.int p2), .val (.int p3), .val (.int p4), .val (.int p5), .val (.int bd), .val (.int (0 : Int32)), .val (.int v0), .val (.int v1), .val (.int v2), .val (.int v3), .val (.ref a), .unset, .unset, .unset] [(.ref b17)])) target := by
        intro target kt
        refine XS.astore X17.here hx rfl (hb hby at_102) rfl rfl (l' := #[.val (.int p0), .val (.int p1), .val (.int p2), .val (.int p3), .val (.int p4), .val (.int p5), .val (.int bd), .val (.int (0 : Int32)), .val (.int v0), .val (.int v1), .val (.int v2), .val (.int v3), .val (.ref a), .val (.ref b17), .unset, .unset]) rfl ?_
        refine XS.iload X17.here hx rfl (hb hby at_104) rfl ?_
        refine X17.ldcInt hx hown (mvT hZ (hw _ (List.mem_of_getElem? (i := 25) rfl))) (g := (mkF m 106 #[.val (.int p0), .val (.int p1), .val (.int p2), .val (.int p3), .val (.int p4), .val (.int p5), .val (.int bd), .val (.int (0 : Int32)), .val (.int v0), .val (.int v1), .val (.int v2), .val (.int v3), .val (.ref a), .val (.ref b17), .unset, .unset] [(.int bd)])) rfl (hb hby at_106) _ ?_
        refine XS.icmpYes X17.here hx rfl (pc0 := 108) (pc' := 121) rfl (hb hby at_108) rfl (flt (own_nlt q1 (by decide))).2.2.2 (by decide) (by decide) ?_
        refine XS.iconst X17.here hx rfl (hb hby at_121) ?_
        show Steps p.tables e below (T17.setTop (mkF m 122 #[.val (.int p0), .val (.int p1), .val (.int p2), .val (.int p3), .val (.int p4), .val (.int p5), .val (.int bd), .val (.int (0 : Int32)), .val (.int v0), .val (.int v1), .val (.int v2), .val (.int v3), .val (.ref a), .val (.ref b17), .unset, .unset] [(.int (0 : Int32))])) _
        refine XS.istore X17.here hx rfl (hb hby at_122) rfl (l' := #[.val (.int p0), .val (.int p1), .val (.int p2), .val (.int p3), .val (.int p4), .val (.int p5), .val (.int bd), .val (.int (0 : Int32)), .val (.int v0), .val (.int v1), .val (.int v2), .val (.int v3), .val (.ref a), .val (.ref b17), .val (.int (0 : Int32)), .unset]) rfl ?_
        refine XS.iload X17.here hx rfl (hb hby at_124) rfl ?_
        refine XS.ifNo X17.here hx rfl (hb hby at_126) rfl ((if0 _ _).trans (teq (rfl : (0 : Int32) = (0 : Int32))).2) ?_
        refine XS.aload X17.here hx rfl (hb hby at_129) rfl rfl ?_
        refine XS.iconst X17.here hx rfl (hb hby at_131) ?_
        refine XS.iload X17.here hx rfl (hb hby at_132) rfl ?_
        refine XS.iconst X17.here hx rfl (hb hby at_134) ?_
        refine XS.ixor X17.here hx rfl (hb hby at_135) rfl ?_
        exact kt
      obtain ⟨cl19, Ar19, qc19, Sz19, Mn19, Hs19, Gs19⟩ := id V_a_17
      have hin19 : ¬ ((0 : Int32) < 0 ∨ cl19.slots.size ≤ ((0 : Int32)).toNatClampNeg) := inb_of Sz19 ⟨by decide, by decide⟩
      obtain ⟨T19, h19, X19, e19, W19, st19⟩ := stI X17 hx hZ rfl Ar19 (j := (0 : Int32)) hin19 (g := (mkF m 136 #[.val (.int p0), .val (.int p1), .val (.int p2), .val (.int p3), .val (.int p4), .val (.int p5), .val (.int bd), .val (.int (0 : Int32)), .val (.int v0), .val (.int v1), .val (.int v2), .val (.int v3), .val (.ref a), .val (.ref b17), .val (.int (0 : Int32)), .unset] [(.int (v0 ^^^ (1 : Int32))), (.int (0 : Int32)), (.ref a)])) rfl rfl (hb hby at_136)
      have V_a_19 : Arv Z h19 a k7 .int (4 : Int32) [(.int (v0 ^^^ (1 : Int32))), (.int v1), (.int v2), (.int v3)] (.int (0 : Int32)) := Arv.set Ar19 qc19 Sz19 Mn19 Hs19 Gs19 rfl W19 0 rfl (Nat.le_of_ble_eq_true rfl)
      have Eb_19 := Eb.wr W19
      have Vy_19 := Vy.other W19 (Ne.symm ne_a_y)
      have Fb_19 := Fb.other W19 (Or.inl (Ne.symm ne_a_b17))
      have Z_19 : n0 ≤ h19.size := Nat.le_trans Z_17 (Keep.of_wr W19).1
      have N19 := Fr.snoc X19 N17 g_a
      have st20 : ∀ target, Steps p.tables e below (T19.setTop (mkF m 144 #[.val (.int p0), .val (.int p1), .val (.int p2), .val (.int p3), .val (.int p4), .val (.int p5), .val (.int bd), .val (.int (0 : Int32)), .val (.int v0), .val (.int v1), .val (.int v2), .val (.int v3), .val (.ref a), .val (.ref b17), .val (.int (0 : Int32)), .unset] [(.int (v1 ^^^ (1 : Int32))), (.int (1 : Int32)), (.ref a)])) target → Steps p.tables e below (T19.setTop (mkF m 137 #[.val (.int p0), .val (.int p1), .val (.int p2), .val (.int p3), .val (.int p4), .val (.int p5), .val (.int bd), .val (.int (0 : Int32)), .val (.int v0), .val (.int v1), .val (.int v2), .val (.int v3), .val (.ref a), .val (.ref b17), .val (.int (0 : Int32)), .unset] [])) target := by
        intro target kt
        show Steps p.tables e below (T19.setTop (mkF m 137 #[.val (.int p0), .val (.int p1), .val (.int p2), .val (.int p3), .val (.int p4), .val (.int p5), .val (.int bd), .val (.int (0 : Int32)), .val (.int v0), .val (.int v1), .val (.int v2), .val (.int v3), .val (.ref a), .val (.ref b17), .val (.int (0 : Int32)), .unset] [])) _
        refine XS.aload X19.here hx rfl (hb hby at_137) rfl rfl ?_
        refine XS.iconst X19.here hx rfl (hb hby at_139) ?_
        refine XS.iload X19.here hx rfl (hb hby at_140) rfl ?_
        refine XS.iconst X19.here hx rfl (hb hby at_142) ?_
        refine XS.ixor X19.here hx rfl (hb hby at_143) rfl ?_
        exact kt
      obtain ⟨cl21, Ar21, qc21, Sz21, Mn21, Hs21, Gs21⟩ := id V_a_19
      have hin21 : ¬ ((1 : Int32) < 0 ∨ cl21.slots.size ≤ ((1 : Int32)).toNatClampNeg) := inb_of Sz21 ⟨by decide, by decide⟩
      obtain ⟨T21, h21, X21, e21, W21, st21⟩ := stI X19 hx hZ e19 Ar21 (j := (1 : Int32)) hin21 (g := (mkF m 144 #[.val (.int p0), .val (.int p1), .val (.int p2), .val (.int p3), .val (.int p4), .val (.int p5), .val (.int bd), .val (.int (0 : Int32)), .val (.int v0), .val (.int v1), .val (.int v2), .val (.int v3), .val (.ref a), .val (.ref b17), .val (.int (0 : Int32)), .unset] [(.int (v1 ^^^ (1 : Int32))), (.int (1 : Int32)), (.ref a)])) rfl rfl (hb hby at_144)
      have V_a_21 : Arv Z h21 a k7 .int (4 : Int32) [(.int (v0 ^^^ (1 : Int32))), (.int (v1 ^^^ (1 : Int32))), (.int v2), (.int v3)] (.int (0 : Int32)) := Arv.set Ar21 qc21 Sz21 Mn21 Hs21 Gs21 rfl W21 1 rfl (Nat.le_of_ble_eq_true rfl)
      have Eb_21 := Eb_19.wr W21
      have Vy_21 := Vy_19.other W21 (Ne.symm ne_a_y)
      have Fb_21 := Fb_19.other W21 (Or.inl (Ne.symm ne_a_b17))
      have Z_21 : n0 ≤ h21.size := Nat.le_trans Z_19 (Keep.of_wr W21).1
      have N21 := Fr.snoc X21 N19 g_a
      have st22 : ∀ target, Steps p.tables e below (T21.setTop (mkF m 152 #[.val (.int p0), .val (.int p1), .val (.int p2), .val (.int p3), .val (.int p4), .val (.int p5), .val (.int bd), .val (.int (0 : Int32)), .val (.int v0), .val (.int v1), .val (.int v2), .val (.int v3), .val (.ref a), .val (.ref b17), .val (.int (0 : Int32)), .unset] [(.int (v2 ^^^ (1 : Int32))), (.int (2 : Int32)), (.ref a)])) target → Steps p.tables e below (T21.setTop (mkF m 145 #[.val (.int p0), .val (.int p1), .val (.int p2), .val (.int p3), .val (.int p4), .val (.int p5), .val (.int bd), .val (.int (0 : Int32)), .val (.int v0), .val (.int v1), .val (.int v2), .val (.int v3), .val (.ref a), .val (.ref b17), .val (.int (0 : Int32)), .unset] [])) target := by
        intro target kt
        refine XS.aload X21.here hx rfl (hb hby at_145) rfl rfl ?_
        refine XS.iconst X21.here hx rfl (hb hby at_147) ?_
        refine XS.iload X21.here hx rfl (hb hby at_148) rfl ?_
        show Steps p.tables e below (T21.setTop (mkF m 150 #[.val (.int p0), .val (.int p1), .val (.int p2), .val (.int p3), .val (.int p4), .val (.int p5), .val (.int bd), .val (.int (0 : Int32)), .val (.int v0), .val (.int v1), .val (.int v2), .val (.int v3), .val (.ref a), .val (.ref b17), .val (.int (0 : Int32)), .unset] [(.int v2), (.int (2 : Int32)), (.ref a)])) _
        refine XS.iconst X21.here hx rfl (hb hby at_150) ?_
        refine XS.ixor X21.here hx rfl (hb hby at_151) rfl ?_
        exact kt
      obtain ⟨cl23, Ar23, qc23, Sz23, Mn23, Hs23, Gs23⟩ := id V_a_21
      have hin23 : ¬ ((2 : Int32) < 0 ∨ cl23.slots.size ≤ ((2 : Int32)).toNatClampNeg) := inb_of Sz23 ⟨by decide, by decide⟩
      obtain ⟨T23, h23, X23, e23, W23, st23⟩ := stI X21 hx hZ e21 Ar23 (j := (2 : Int32)) hin23 (g := (mkF m 152 #[.val (.int p0), .val (.int p1), .val (.int p2), .val (.int p3), .val (.int p4), .val (.int p5), .val (.int bd), .val (.int (0 : Int32)), .val (.int v0), .val (.int v1), .val (.int v2), .val (.int v3), .val (.ref a), .val (.ref b17), .val (.int (0 : Int32)), .unset] [(.int (v2 ^^^ (1 : Int32))), (.int (2 : Int32)), (.ref a)])) rfl rfl (hb hby at_152)
      have V_a_23 : Arv Z h23 a k7 .int (4 : Int32) [(.int (v0 ^^^ (1 : Int32))), (.int (v1 ^^^ (1 : Int32))), (.int (v2 ^^^ (1 : Int32))), (.int v3)] (.int (0 : Int32)) := Arv.set Ar23 qc23 Sz23 Mn23 Hs23 Gs23 rfl W23 2 rfl (Nat.le_of_ble_eq_true rfl)
      have Eb_23 := Eb_21.wr W23
      have Vy_23 := Vy_21.other W23 (Ne.symm ne_a_y)
      have Fb_23 := Fb_21.other W23 (Or.inl (Ne.symm ne_a_b17))
      have Z_23 : n0 ≤ h23.size := Nat.le_trans Z_21 (Keep.of_wr W23).1
      have N23 := Fr.snoc X23 N21 g_a
      have st24 : ∀ target, Steps p.tables e below (T23.setTop (mkF m 160 #[.val (.int p0), .val (.int p1), .val (.int p2), .val (.int p3), .val (.int p4), .val (.int p5), .val (.int bd), .val (.int (0 : Int32)), .val (.int v0), .val (.int v1), .val (.int v2), .val (.int v3), .val (.ref a), .val (.ref b17), .val (.int (0 : Int32)), .unset] [(.int (v3 ^^^ (1 : Int32))), (.int (3 : Int32)), (.ref a)])) target → Steps p.tables e below (T23.setTop (mkF m 153 #[.val (.int p0), .val (.int p1), .val (.int p2), .val (.int p3), .val (.int p4), .val (.int p5), .val (.int bd), .val (.int (0 : Int32)), .val (.int v0), .val (.int v1), .val (.int v2), .val (.int v3), .val (.ref a), .val (.ref b17), .val (.int (0 : Int32)), .unset] [])) target := by
        intro target kt
        refine XS.aload X23.here hx rfl (hb hby at_153) rfl rfl ?_
        refine XS.iconst X23.here hx rfl (hb hby at_155) ?_
        refine XS.iload X23.here hx rfl (hb hby at_156) rfl ?_
        refine XS.iconst X23.here hx rfl (hb hby at_158) ?_
        refine XS.ixor X23.here hx rfl (hb hby at_159) rfl ?_
        exact kt
      obtain ⟨cl25, Ar25, qc25, Sz25, Mn25, Hs25, Gs25⟩ := id V_a_23
      have hin25 : ¬ ((3 : Int32) < 0 ∨ cl25.slots.size ≤ ((3 : Int32)).toNatClampNeg) := inb_of Sz25 ⟨by decide, by decide⟩
      obtain ⟨T25, h25, X25, e25, W25, st25⟩ := stI X23 hx hZ e23 Ar25 (j := (3 : Int32)) hin25 (g := (mkF m 160 #[.val (.int p0), .val (.int p1), .val (.int p2), .val (.int p3), .val (.int p4), .val (.int p5), .val (.int bd), .val (.int (0 : Int32)), .val (.int v0), .val (.int v1), .val (.int v2), .val (.int v3), .val (.ref a), .val (.ref b17), .val (.int (0 : Int32)), .unset] [(.int (v3 ^^^ (1 : Int32))), (.int (3 : Int32)), (.ref a)])) rfl rfl (hb hby at_160)
      have V_a_25 : Arv Z h25 a k7 .int (4 : Int32) [(.int (v0 ^^^ (1 : Int32))), (.int (v1 ^^^ (1 : Int32))), (.int (v2 ^^^ (1 : Int32))), (.int (v3 ^^^ (1 : Int32)))] (.int (0 : Int32)) := Arv.set Ar25 qc25 Sz25 Mn25 Hs25 Gs25 rfl W25 3 rfl (Nat.le_of_ble_eq_true rfl)
      have Eb_25 := Eb_23.wr W25
      have Vy_25 := Vy_23.other W25 (Ne.symm ne_a_y)
      have Fb_25 := Fb_23.other W25 (Or.inl (Ne.symm ne_a_b17))
      have Z_25 : n0 ≤ h25.size := Nat.le_trans Z_23 (Keep.of_wr W25).1
      have N25 := Fr.snoc X25 N23 g_a
      have st26 : ∀ target, Steps p.tables e below (T25.setTop (mkF m 281 #[.val (.int p0), .val (.int p1), .val (.int p2), .val (.int p3), .val (.int p4), .val (.int p5), .val (.int bd), .val (.int (0 : Int32)), .val (.int v0), .val (.int v1), .val (.int v2), .val (.int v3), .val (.ref a), .val (.ref b17), .val (.int (0 : Int32)), .val (.int (1 : Int32))] [(.int (1 : Int32))])) target → Steps p.tables e below (T25.setTop (mkF m 161 #[.val (.int p0), .val (.int p1), .val (.int p2), .val (.int p3), .val (.int p4), .val (.int p5), .val (.int bd), .val (.int (0 : Int32)), .val (.int v0), .val (.int v1), .val (.int v2), .val (.int v3), .val (.ref a), .val (.ref b17), .val (.int (0 : Int32)), .unset] [])) target := by
        intro target kt
        refine XS.iconst X25.here hx rfl (hb hby at_161) ?_
        show Steps p.tables e below (T25.setTop (mkF m 162 #[.val (.int p0), .val (.int p1), .val (.int p2), .val (.int p3), .val (.int p4), .val (.int p5), .val (.int bd), .val (.int (0 : Int32)), .val (.int v0), .val (.int v1), .val (.int v2), .val (.int v3), .val (.ref a), .val (.ref b17), .val (.int (0 : Int32)), .unset] [(.int (1 : Int32))])) _
        refine XS.istore X25.here hx rfl (hb hby at_162) rfl (l' := #[.val (.int p0), .val (.int p1), .val (.int p2), .val (.int p3), .val (.int p4), .val (.int p5), .val (.int bd), .val (.int (0 : Int32)), .val (.int v0), .val (.int v1), .val (.int v2), .val (.int v3), .val (.ref a), .val (.ref b17), .val (.int (0 : Int32)), .val (.int (1 : Int32))]) rfl ?_
        refine XS.iload X25.here hx rfl (hb hby at_164) rfl ?_
        refine XS.ifYes X25.here hx rfl (pc0 := 166) (pc' := 192) rfl (hb hby at_166) rfl ((if0 _ _).trans (flt (by decide : ¬ ((0 : Int32) < (0 : Int32)))).2.2.2) (by decide) (by decide) ?_
        refine XS.iload X25.here hx rfl (hb hby at_192) rfl ?_
        refine XS.iconst X25.here hx rfl (hb hby at_194) ?_
        refine XS.icmpYes X25.here hx rfl (pc0 := 195) (pc' := 221) rfl (hb hby at_195) rfl (flt (by decide : ¬ ((1 : Int32) < (0 : Int32)))).2.2.2 (by decide) (by decide) ?_
        refine XS.iload X25.here hx rfl (hb hby at_221) rfl ?_
        refine XS.iconst X25.here hx rfl (hb hby at_223) ?_
        show Steps p.tables e below (T25.setTop (mkF m 224 #[.val (.int p0), .val (.int p1), .val (.int p2), .val (.int p3), .val (.int p4), .val (.int p5), .val (.int bd), .val (.int (0 : Int32)), .val (.int v0), .val (.int v1), .val (.int v2), .val (.int v3), .val (.ref a), .val (.ref b17), .val (.int (0 : Int32)), .val (.int (1 : Int32))] [(.int (2 : Int32)), (.int (0 : Int32))])) _
        refine XS.icmpYes X25.here hx rfl (pc0 := 224) (pc' := 250) rfl (hb hby at_224) rfl (flt (by decide : ¬ ((2 : Int32) < (0 : Int32)))).2.2.2 (by decide) (by decide) ?_
        refine XS.iload X25.here hx rfl (hb hby at_250) rfl ?_
        refine XS.iconst X25.here hx rfl (hb hby at_252) ?_
        refine XS.icmpYes X25.here hx rfl (pc0 := 253) (pc' := 279) rfl (hb hby at_253) rfl (flt (by decide : ¬ ((3 : Int32) < (0 : Int32)))).2.2.2 (by decide) (by decide) ?_
        refine XS.iload X25.here hx rfl (hb hby at_279) rfl ?_
        exact kt
      obtain ⟨fs, hr, hrun, hended, hW, hsame⟩ := X25.leave (v := some (.int (1 : Int32))) (fun h => by rw [Bd.returns] at h; cases h)
      refine ⟨_, _, pre0 _ (st1 _ (st2 _ (st3 _ (st4 _ (st5 _ (st6 _ (st7 _ (st8 _ (st9 _ (st10 _ (st11 _ (st12 _ (st13 _ (st14 _ (st15 _ (st16 _ (st17 _ (st18 _ (st19 _ (st20 _ (st21 _ (st22 _ (st23 _ (st24 _ (st25 _ (st26 _ ?_)))))))))))))))))))))))))), hrun, hended, _, _, rfl, ?_, ⟨_, rfl⟩, hW, hsame.mono (by decide) (by decide)⟩
      · show Steps p.tables e below (T25.setTop (mkF m 281 #[.val (.int p0), .val (.int p1), .val (.int p2), .val (.int p3), .val (.int p4), .val (.int p5), .val (.int bd), .val (.int (0 : Int32)), .val (.int v0), .val (.int v1), .val (.int v2), .val (.int v3), .val (.ref a), .val (.ref b17), .val (.int (0 : Int32)), .val (.int (1 : Int32))] [(.int (1 : Int32))])) _
        exact retN X25 hx (t := .boolean) Bd.returns (by simp) (hb hby at_281) hr
      · show Q_rm0 Z p0 p1 p2 p3 p4 p5 h0 n0 _ T25.heap _
        rw [e25]
        exact ⟨rfl, N25⟩
    · have ne_a_y : a ≠ y := Nat.ne_of_lt (Nat.lt_of_lt_of_le (V_a_15).lt szy)
      have hle : bd.toInt ≤ 65536 := own_le rfl q2
      have st27 : ∀ target, Steps p.tables e below (T17.setTop (mkF m 136 #[.val (.int p0), .val (.int p1), .val (.int p2), .val (.int p3), .val (.int p4), .val (.int p5), .val (.int bd), .val (.int (0 : Int32)), .val (.int v0), .val (.int v1), .val (.int v2), .val (.int v3), .val (.ref a), .val (.ref b17), .val (.int (0 : Int32)), .unset] [(.int (v0 ^^^ (1 : Int32))), (.int (0 : Int32)), (.ref a)])) target → Steps p.tables e below (T17.setTop (mkF m 102 #[.val (.int p0), .val (.int p1), .val (.int p2), .val (.int p3), .val (.int p4), .val (.int p5), .val (.int bd), .val (.int (0 : Int32)), .val (.int v0), .val (.int v1), .val (.int v2), .val (.int v3), .val (.ref a), .unset, .unset, .unset] [(.ref b17)])) target := by
        intro target kt
        refine XS.astore X17.here hx rfl (hb hby at_102) rfl rfl (l' := #[.val (.int p0), .val (.int p1), .val (.int p2), .val (.int p3), .val (.int p4), .val (.int p5), .val (.int bd), .val (.int (0 : Int32)), .val (.int v0), .val (.int v1), .val (.int v2), .val (.int v3), .val (.ref a), .val (.ref b17), .unset, .unset]) rfl ?_
        refine XS.iload X17.here hx rfl (hb hby at_104) rfl ?_
        refine X17.ldcInt hx hown (mvT hZ (hw _ (List.mem_of_getElem? (i := 25) rfl))) (g := (mkF m 106 #[.val (.int p0), .val (.int p1), .val (.int p2), .val (.int p3), .val (.int p4), .val (.int p5), .val (.int bd), .val (.int (0 : Int32)), .val (.int v0), .val (.int v1), .val (.int v2), .val (.int v3), .val (.ref a), .val (.ref b17), .unset, .unset] [(.int bd)])) rfl (hb hby at_106) _ ?_
        show Steps p.tables e below (T17.setTop (mkF m 108 #[.val (.int p0), .val (.int p1), .val (.int p2), .val (.int p3), .val (.int p4), .val (.int p5), .val (.int bd), .val (.int (0 : Int32)), .val (.int v0), .val (.int v1), .val (.int v2), .val (.int v3), .val (.ref a), .val (.ref b17), .unset, .unset] [(.int (65536 : Int32)), (.int bd)])) _
        refine XS.icmpYes X17.here hx rfl (pc0 := 108) (pc' := 121) rfl (hb hby at_108) rfl (flt q2).2.2.2 (by decide) (by decide) ?_
        refine XS.iconst X17.here hx rfl (hb hby at_121) ?_
        refine XS.istore X17.here hx rfl (hb hby at_122) rfl (l' := #[.val (.int p0), .val (.int p1), .val (.int p2), .val (.int p3), .val (.int p4), .val (.int p5), .val (.int bd), .val (.int (0 : Int32)), .val (.int v0), .val (.int v1), .val (.int v2), .val (.int v3), .val (.ref a), .val (.ref b17), .val (.int (0 : Int32)), .unset]) rfl ?_
        refine XS.iload X17.here hx rfl (hb hby at_124) rfl ?_
        refine XS.ifNo X17.here hx rfl (hb hby at_126) rfl ((if0 _ _).trans (teq (rfl : (0 : Int32) = (0 : Int32))).2) ?_
        refine XS.aload X17.here hx rfl (hb hby at_129) rfl rfl ?_
        refine XS.iconst X17.here hx rfl (hb hby at_131) ?_
        refine XS.iload X17.here hx rfl (hb hby at_132) rfl ?_
        show Steps p.tables e below (T17.setTop (mkF m 134 #[.val (.int p0), .val (.int p1), .val (.int p2), .val (.int p3), .val (.int p4), .val (.int p5), .val (.int bd), .val (.int (0 : Int32)), .val (.int v0), .val (.int v1), .val (.int v2), .val (.int v3), .val (.ref a), .val (.ref b17), .val (.int (0 : Int32)), .unset] [(.int v0), (.int (0 : Int32)), (.ref a)])) _
        refine XS.iconst X17.here hx rfl (hb hby at_134) ?_
        refine XS.ixor X17.here hx rfl (hb hby at_135) rfl ?_
        exact kt
      obtain ⟨cl28, Ar28, qc28, Sz28, Mn28, Hs28, Gs28⟩ := id V_a_17
      have hin28 : ¬ ((0 : Int32) < 0 ∨ cl28.slots.size ≤ ((0 : Int32)).toNatClampNeg) := inb_of Sz28 ⟨by decide, by decide⟩
      obtain ⟨T28, h28, X28, e28, W28, st28⟩ := stI X17 hx hZ rfl Ar28 (j := (0 : Int32)) hin28 (g := (mkF m 136 #[.val (.int p0), .val (.int p1), .val (.int p2), .val (.int p3), .val (.int p4), .val (.int p5), .val (.int bd), .val (.int (0 : Int32)), .val (.int v0), .val (.int v1), .val (.int v2), .val (.int v3), .val (.ref a), .val (.ref b17), .val (.int (0 : Int32)), .unset] [(.int (v0 ^^^ (1 : Int32))), (.int (0 : Int32)), (.ref a)])) rfl rfl (hb hby at_136)
      have V_a_28 : Arv Z h28 a k7 .int (4 : Int32) [(.int (v0 ^^^ (1 : Int32))), (.int v1), (.int v2), (.int v3)] (.int (0 : Int32)) := Arv.set Ar28 qc28 Sz28 Mn28 Hs28 Gs28 rfl W28 0 rfl (Nat.le_of_ble_eq_true rfl)
      have Eb_28 := Eb.wr W28
      have Vy_28 := Vy.other W28 (Ne.symm ne_a_y)
      have Fb_28 := Fb.other W28 (Or.inl (Ne.symm ne_a_b17))
      have Fc_28 := Fc.other W28 (Or.inl (Ne.symm ne_a_b17))
      have Z_28 : n0 ≤ h28.size := Nat.le_trans Z_17 (Keep.of_wr W28).1
      have N28 := Fr.snoc X28 N17 g_a
      have st29 : ∀ target, Steps p.tables e below (T28.setTop (mkF m 144 #[.val (.int p0), .val (.int p1), .val (.int p2), .val (.int p3), .val (.int p4), .val (.int p5), .val (.int bd), .val (.int (0 : Int32)), .val (.int v0), .val (.int v1), .val (.int v2), .val (.int v3), .val (.ref a), .val (.ref b17), .val (.int (0 : Int32)), .unset] [(.int (v1 ^^^ (1 : Int32))), (.int (1 : Int32)), (.ref a)])) target → Steps p.tables e below (T28.setTop (mkF m 137 #[.val (.int p0), .val (.int p1), .val (.int p2), .val (.int p3), .val (.int p4), .val (.int p5), .val (.int bd), .val (.int (0 : Int32)), .val (.int v0), .val (.int v1), .val (.int v2), .val (.int v3), .val (.ref a), .val (.ref b17), .val (.int (0 : Int32)), .unset] [])) target := by
        intro target kt
        refine XS.aload X28.here hx rfl (hb hby at_137) rfl rfl ?_
        refine XS.iconst X28.here hx rfl (hb hby at_139) ?_
        refine XS.iload X28.here hx rfl (hb hby at_140) rfl ?_
        refine XS.iconst X28.here hx rfl (hb hby at_142) ?_
        refine XS.ixor X28.here hx rfl (hb hby at_143) rfl ?_
        exact kt
      obtain ⟨cl30, Ar30, qc30, Sz30, Mn30, Hs30, Gs30⟩ := id V_a_28
      have hin30 : ¬ ((1 : Int32) < 0 ∨ cl30.slots.size ≤ ((1 : Int32)).toNatClampNeg) := inb_of Sz30 ⟨by decide, by decide⟩
      obtain ⟨T30, h30, X30, e30, W30, st30⟩ := stI X28 hx hZ e28 Ar30 (j := (1 : Int32)) hin30 (g := (mkF m 144 #[.val (.int p0), .val (.int p1), .val (.int p2), .val (.int p3), .val (.int p4), .val (.int p5), .val (.int bd), .val (.int (0 : Int32)), .val (.int v0), .val (.int v1), .val (.int v2), .val (.int v3), .val (.ref a), .val (.ref b17), .val (.int (0 : Int32)), .unset] [(.int (v1 ^^^ (1 : Int32))), (.int (1 : Int32)), (.ref a)])) rfl rfl (hb hby at_144)
      have V_a_30 : Arv Z h30 a k7 .int (4 : Int32) [(.int (v0 ^^^ (1 : Int32))), (.int (v1 ^^^ (1 : Int32))), (.int v2), (.int v3)] (.int (0 : Int32)) := Arv.set Ar30 qc30 Sz30 Mn30 Hs30 Gs30 rfl W30 1 rfl (Nat.le_of_ble_eq_true rfl)
      have Eb_30 := Eb_28.wr W30
      have Vy_30 := Vy_28.other W30 (Ne.symm ne_a_y)
      have Fb_30 := Fb_28.other W30 (Or.inl (Ne.symm ne_a_b17))
      have Fc_30 := Fc_28.other W30 (Or.inl (Ne.symm ne_a_b17))
      have Z_30 : n0 ≤ h30.size := Nat.le_trans Z_28 (Keep.of_wr W30).1
      have N30 := Fr.snoc X30 N28 g_a
      have st31 : ∀ target, Steps p.tables e below (T30.setTop (mkF m 152 #[.val (.int p0), .val (.int p1), .val (.int p2), .val (.int p3), .val (.int p4), .val (.int p5), .val (.int bd), .val (.int (0 : Int32)), .val (.int v0), .val (.int v1), .val (.int v2), .val (.int v3), .val (.ref a), .val (.ref b17), .val (.int (0 : Int32)), .unset] [(.int (v2 ^^^ (1 : Int32))), (.int (2 : Int32)), (.ref a)])) target → Steps p.tables e below (T30.setTop (mkF m 145 #[.val (.int p0), .val (.int p1), .val (.int p2), .val (.int p3), .val (.int p4), .val (.int p5), .val (.int bd), .val (.int (0 : Int32)), .val (.int v0), .val (.int v1), .val (.int v2), .val (.int v3), .val (.ref a), .val (.ref b17), .val (.int (0 : Int32)), .unset] [])) target := by
        intro target kt
        refine XS.aload X30.here hx rfl (hb hby at_145) rfl rfl ?_
        show Steps p.tables e below (T30.setTop (mkF m 147 #[.val (.int p0), .val (.int p1), .val (.int p2), .val (.int p3), .val (.int p4), .val (.int p5), .val (.int bd), .val (.int (0 : Int32)), .val (.int v0), .val (.int v1), .val (.int v2), .val (.int v3), .val (.ref a), .val (.ref b17), .val (.int (0 : Int32)), .unset] [(.ref a)])) _
        refine XS.iconst X30.here hx rfl (hb hby at_147) ?_
        refine XS.iload X30.here hx rfl (hb hby at_148) rfl ?_
        refine XS.iconst X30.here hx rfl (hb hby at_150) ?_
        refine XS.ixor X30.here hx rfl (hb hby at_151) rfl ?_
        exact kt
      obtain ⟨cl32, Ar32, qc32, Sz32, Mn32, Hs32, Gs32⟩ := id V_a_30
      have hin32 : ¬ ((2 : Int32) < 0 ∨ cl32.slots.size ≤ ((2 : Int32)).toNatClampNeg) := inb_of Sz32 ⟨by decide, by decide⟩
      obtain ⟨T32, h32, X32, e32, W32, st32⟩ := stI X30 hx hZ e30 Ar32 (j := (2 : Int32)) hin32 (g := (mkF m 152 #[.val (.int p0), .val (.int p1), .val (.int p2), .val (.int p3), .val (.int p4), .val (.int p5), .val (.int bd), .val (.int (0 : Int32)), .val (.int v0), .val (.int v1), .val (.int v2), .val (.int v3), .val (.ref a), .val (.ref b17), .val (.int (0 : Int32)), .unset] [(.int (v2 ^^^ (1 : Int32))), (.int (2 : Int32)), (.ref a)])) rfl rfl (hb hby at_152)
      have V_a_32 : Arv Z h32 a k7 .int (4 : Int32) [(.int (v0 ^^^ (1 : Int32))), (.int (v1 ^^^ (1 : Int32))), (.int (v2 ^^^ (1 : Int32))), (.int v3)] (.int (0 : Int32)) := Arv.set Ar32 qc32 Sz32 Mn32 Hs32 Gs32 rfl W32 2 rfl (Nat.le_of_ble_eq_true rfl)
      have Eb_32 := Eb_30.wr W32
      have Vy_32 := Vy_30.other W32 (Ne.symm ne_a_y)
      have Fb_32 := Fb_30.other W32 (Or.inl (Ne.symm ne_a_b17))
      have Fc_32 := Fc_30.other W32 (Or.inl (Ne.symm ne_a_b17))
      have Z_32 : n0 ≤ h32.size := Nat.le_trans Z_30 (Keep.of_wr W32).1
      have N32 := Fr.snoc X32 N30 g_a
      have st33 : ∀ target, Steps p.tables e below (T32.setTop (mkF m 160 #[.val (.int p0), .val (.int p1), .val (.int p2), .val (.int p3), .val (.int p4), .val (.int p5), .val (.int bd), .val (.int (0 : Int32)), .val (.int v0), .val (.int v1), .val (.int v2), .val (.int v3), .val (.ref a), .val (.ref b17), .val (.int (0 : Int32)), .unset] [(.int (v3 ^^^ (1 : Int32))), (.int (3 : Int32)), (.ref a)])) target → Steps p.tables e below (T32.setTop (mkF m 153 #[.val (.int p0), .val (.int p1), .val (.int p2), .val (.int p3), .val (.int p4), .val (.int p5), .val (.int bd), .val (.int (0 : Int32)), .val (.int v0), .val (.int v1), .val (.int v2), .val (.int v3), .val (.ref a), .val (.ref b17), .val (.int (0 : Int32)), .unset] [])) target := by
        intro target kt
        refine XS.aload X32.here hx rfl (hb hby at_153) rfl rfl ?_
        refine XS.iconst X32.here hx rfl (hb hby at_155) ?_
        refine XS.iload X32.here hx rfl (hb hby at_156) rfl ?_
        refine XS.iconst X32.here hx rfl (hb hby at_158) ?_
        show Steps p.tables e below (T32.setTop (mkF m 159 #[.val (.int p0), .val (.int p1), .val (.int p2), .val (.int p3), .val (.int p4), .val (.int p5), .val (.int bd), .val (.int (0 : Int32)), .val (.int v0), .val (.int v1), .val (.int v2), .val (.int v3), .val (.ref a), .val (.ref b17), .val (.int (0 : Int32)), .unset] [(.int (1 : Int32)), (.int v3), (.int (3 : Int32)), (.ref a)])) _
        refine XS.ixor X32.here hx rfl (hb hby at_159) rfl ?_
        exact kt
      obtain ⟨cl34, Ar34, qc34, Sz34, Mn34, Hs34, Gs34⟩ := id V_a_32
      have hin34 : ¬ ((3 : Int32) < 0 ∨ cl34.slots.size ≤ ((3 : Int32)).toNatClampNeg) := inb_of Sz34 ⟨by decide, by decide⟩
      obtain ⟨T34, h34, X34, e34, W34, st34⟩ := stI X32 hx hZ e32 Ar34 (j := (3 : Int32)) hin34 (g := (mkF m 160 #[.val (.int p0), .val (.int p1), .val (.int p2), .val (.int p3), .val (.int p4), .val (.int p5), .val (.int bd), .val (.int (0 : Int32)), .val (.int v0), .val (.int v1), .val (.int v2), .val (.int v3), .val (.ref a), .val (.ref b17), .val (.int (0 : Int32)), .unset] [(.int (v3 ^^^ (1 : Int32))), (.int (3 : Int32)), (.ref a)])) rfl rfl (hb hby at_160)
      have V_a_34 : Arv Z h34 a k7 .int (4 : Int32) [(.int (v0 ^^^ (1 : Int32))), (.int (v1 ^^^ (1 : Int32))), (.int (v2 ^^^ (1 : Int32))), (.int (v3 ^^^ (1 : Int32)))] (.int (0 : Int32)) := Arv.set Ar34 qc34 Sz34 Mn34 Hs34 Gs34 rfl W34 3 rfl (Nat.le_of_ble_eq_true rfl)
      have Eb_34 := Eb_32.wr W34
      have Vy_34 := Vy_32.other W34 (Ne.symm ne_a_y)
      have Fb_34 := Fb_32.other W34 (Or.inl (Ne.symm ne_a_b17))
      have Fc_34 := Fc_32.other W34 (Or.inl (Ne.symm ne_a_b17))
      have Z_34 : n0 ≤ h34.size := Nat.le_trans Z_32 (Keep.of_wr W34).1
      have N34 := Fr.snoc X34 N32 g_a
      have st35 : ∀ target, Steps p.tables e below (T34.setTop (mkF m 281 #[.val (.int p0), .val (.int p1), .val (.int p2), .val (.int p3), .val (.int p4), .val (.int p5), .val (.int bd), .val (.int (0 : Int32)), .val (.int v0), .val (.int v1), .val (.int v2), .val (.int v3), .val (.ref a), .val (.ref b17), .val (.int (0 : Int32)), .val (.int (1 : Int32))] [(.int (1 : Int32))])) target → Steps p.tables e below (T34.setTop (mkF m 161 #[.val (.int p0), .val (.int p1), .val (.int p2), .val (.int p3), .val (.int p4), .val (.int p5), .val (.int bd), .val (.int (0 : Int32)), .val (.int v0), .val (.int v1), .val (.int v2), .val (.int v3), .val (.ref a), .val (.ref b17), .val (.int (0 : Int32)), .unset] [])) target := by
        intro target kt
        refine XS.iconst X34.here hx rfl (hb hby at_161) ?_
        refine XS.istore X34.here hx rfl (hb hby at_162) rfl (l' := #[.val (.int p0), .val (.int p1), .val (.int p2), .val (.int p3), .val (.int p4), .val (.int p5), .val (.int bd), .val (.int (0 : Int32)), .val (.int v0), .val (.int v1), .val (.int v2), .val (.int v3), .val (.ref a), .val (.ref b17), .val (.int (0 : Int32)), .val (.int (1 : Int32))]) rfl ?_
        refine XS.iload X34.here hx rfl (hb hby at_164) rfl ?_
        refine XS.ifYes X34.here hx rfl (pc0 := 166) (pc' := 192) rfl (hb hby at_166) rfl ((if0 _ _).trans (flt (by decide : ¬ ((0 : Int32) < (0 : Int32)))).2.2.2) (by decide) (by decide) ?_
        refine XS.iload X34.here hx rfl (hb hby at_192) rfl ?_
        refine XS.iconst X34.here hx rfl (hb hby at_194) ?_
        refine XS.icmpYes X34.here hx rfl (pc0 := 195) (pc' := 221) rfl (hb hby at_195) rfl (flt (by decide : ¬ ((1 : Int32) < (0 : Int32)))).2.2.2 (by decide) (by decide) ?_
        show Steps p.tables e below (T34.setTop (mkF m 221 #[.val (.int p0), .val (.int p1), .val (.int p2), .val (.int p3), .val (.int p4), .val (.int p5), .val (.int bd), .val (.int (0 : Int32)), .val (.int v0), .val (.int v1), .val (.int v2), .val (.int v3), .val (.ref a), .val (.ref b17), .val (.int (0 : Int32)), .val (.int (1 : Int32))] [])) _
        refine XS.iload X34.here hx rfl (hb hby at_221) rfl ?_
        refine XS.iconst X34.here hx rfl (hb hby at_223) ?_
        refine XS.icmpYes X34.here hx rfl (pc0 := 224) (pc' := 250) rfl (hb hby at_224) rfl (flt (by decide : ¬ ((2 : Int32) < (0 : Int32)))).2.2.2 (by decide) (by decide) ?_
        refine XS.iload X34.here hx rfl (hb hby at_250) rfl ?_
        refine XS.iconst X34.here hx rfl (hb hby at_252) ?_
        refine XS.icmpYes X34.here hx rfl (pc0 := 253) (pc' := 279) rfl (hb hby at_253) rfl (flt (by decide : ¬ ((3 : Int32) < (0 : Int32)))).2.2.2 (by decide) (by decide) ?_
        refine XS.iload X34.here hx rfl (hb hby at_279) rfl ?_
        exact kt
      obtain ⟨fs, hr, hrun, hended, hW, hsame⟩ := X34.leave (v := some (.int (1 : Int32))) (fun h => by rw [Bd.returns] at h; cases h)
      refine ⟨_, _, pre0 _ (st1 _ (st2 _ (st3 _ (st4 _ (st5 _ (st6 _ (st7 _ (st8 _ (st9 _ (st10 _ (st11 _ (st12 _ (st13 _ (st14 _ (st15 _ (st16 _ (st17 _ (st27 _ (st28 _ (st29 _ (st30 _ (st31 _ (st32 _ (st33 _ (st34 _ (st35 _ ?_)))))))))))))))))))))))))), hrun, hended, _, _, rfl, ?_, ⟨_, rfl⟩, hW, hsame.mono (by decide) (by decide)⟩
      · show Steps p.tables e below (T34.setTop (mkF m 281 #[.val (.int p0), .val (.int p1), .val (.int p2), .val (.int p3), .val (.int p4), .val (.int p5), .val (.int bd), .val (.int (0 : Int32)), .val (.int v0), .val (.int v1), .val (.int v2), .val (.int v3), .val (.ref a), .val (.ref b17), .val (.int (0 : Int32)), .val (.int (1 : Int32))] [(.int (1 : Int32))])) _
        exact retN X34 hx (t := .boolean) Bd.returns (by simp) (hb hby at_281) hr
      · show Q_rm0 Z p0 p1 p2 p3 p4 p5 h0 n0 _ T34.heap _
        rw [e34]
        exact ⟨rfl, N34⟩
    · have ne_a_y : a ≠ y := Nat.ne_of_lt (Nat.lt_of_lt_of_le (V_a_15).lt szy)
      have hle : bd.toInt ≤ 2147483647 := by have := Int32.toInt_lt bd; omega
      have st36 : ∀ target, Steps p.tables e below (T17.setTop (mkF m 136 #[.val (.int p0), .val (.int p1), .val (.int p2), .val (.int p3), .val (.int p4), .val (.int p5), .val (.int bd), .val (.int (0 : Int32)), .val (.int v0), .val (.int v1), .val (.int v2), .val (.int v3), .val (.ref a), .val (.ref b17), .val (.int (0 : Int32)), .unset] [(.int (v0 ^^^ (1 : Int32))), (.int (0 : Int32)), (.ref a)])) target → Steps p.tables e below (T17.setTop (mkF m 102 #[.val (.int p0), .val (.int p1), .val (.int p2), .val (.int p3), .val (.int p4), .val (.int p5), .val (.int bd), .val (.int (0 : Int32)), .val (.int v0), .val (.int v1), .val (.int v2), .val (.int v3), .val (.ref a), .unset, .unset, .unset] [(.ref b17)])) target := by
        intro target kt
        refine XS.astore X17.here hx rfl (hb hby at_102) rfl rfl (l' := #[.val (.int p0), .val (.int p1), .val (.int p2), .val (.int p3), .val (.int p4), .val (.int p5), .val (.int bd), .val (.int (0 : Int32)), .val (.int v0), .val (.int v1), .val (.int v2), .val (.int v3), .val (.ref a), .val (.ref b17), .unset, .unset]) rfl ?_
        show Steps p.tables e below (T17.setTop (mkF m 104 #[.val (.int p0), .val (.int p1), .val (.int p2), .val (.int p3), .val (.int p4), .val (.int p5), .val (.int bd), .val (.int (0 : Int32)), .val (.int v0), .val (.int v1), .val (.int v2), .val (.int v3), .val (.ref a), .val (.ref b17), .unset, .unset] [])) _
        refine XS.iload X17.here hx rfl (hb hby at_104) rfl ?_
        refine X17.ldcInt hx hown (mvT hZ (hw _ (List.mem_of_getElem? (i := 25) rfl))) (g := (mkF m 106 #[.val (.int p0), .val (.int p1), .val (.int p2), .val (.int p3), .val (.int p4), .val (.int p5), .val (.int bd), .val (.int (0 : Int32)), .val (.int v0), .val (.int v1), .val (.int v2), .val (.int v3), .val (.ref a), .val (.ref b17), .unset, .unset] [(.int bd)])) rfl (hb hby at_106) _ ?_
        refine XS.icmpNo X17.here hx rfl (hb hby at_108) rfl (tlt q1).2.2.2 ?_
        refine XS.iload X17.here hx rfl (hb hby at_111) rfl ?_
        refine XS.iconst X17.here hx rfl (hb hby at_113) ?_
        refine XS.icmpYes X17.here hx rfl (pc0 := 114) (pc' := 121) rfl (hb hby at_114) rfl (feq (by decide : ¬ ((0 : Int32) = (4 : Int32)))).2 (by decide) (by decide) ?_
        refine XS.iconst X17.here hx rfl (hb hby at_121) ?_
        refine XS.istore X17.here hx rfl (hb hby at_122) rfl (l' := #[.val (.int p0), .val (.int p1), .val (.int p2), .val (.int p3), .val (.int p4), .val (.int p5), .val (.int bd), .val (.int (0 : Int32)), .val (.int v0), .val (.int v1), .val (.int v2), .val (.int v3), .val (.ref a), .val (.ref b17), .val (.int (0 : Int32)), .unset]) rfl ?_
        show Steps p.tables e below (T17.setTop (mkF m 124 #[.val (.int p0), .val (.int p1), .val (.int p2), .val (.int p3), .val (.int p4), .val (.int p5), .val (.int bd), .val (.int (0 : Int32)), .val (.int v0), .val (.int v1), .val (.int v2), .val (.int v3), .val (.ref a), .val (.ref b17), .val (.int (0 : Int32)), .unset] [])) _
        refine XS.iload X17.here hx rfl (hb hby at_124) rfl ?_
        refine XS.ifNo X17.here hx rfl (hb hby at_126) rfl ((if0 _ _).trans (teq (rfl : (0 : Int32) = (0 : Int32))).2) ?_
        refine XS.aload X17.here hx rfl (hb hby at_129) rfl rfl ?_
        refine XS.iconst X17.here hx rfl (hb hby at_131) ?_
        refine XS.iload X17.here hx rfl (hb hby at_132) rfl ?_
        refine XS.iconst X17.here hx rfl (hb hby at_134) ?_
        refine XS.ixor X17.here hx rfl (hb hby at_135) rfl ?_
        exact kt
      obtain ⟨cl37, Ar37, qc37, Sz37, Mn37, Hs37, Gs37⟩ := id V_a_17
      have hin37 : ¬ ((0 : Int32) < 0 ∨ cl37.slots.size ≤ ((0 : Int32)).toNatClampNeg) := inb_of Sz37 ⟨by decide, by decide⟩
      obtain ⟨T37, h37, X37, e37, W37, st37⟩ := stI X17 hx hZ rfl Ar37 (j := (0 : Int32)) hin37 (g := (mkF m 136 #[.val (.int p0), .val (.int p1), .val (.int p2), .val (.int p3), .val (.int p4), .val (.int p5), .val (.int bd), .val (.int (0 : Int32)), .val (.int v0), .val (.int v1), .val (.int v2), .val (.int v3), .val (.ref a), .val (.ref b17), .val (.int (0 : Int32)), .unset] [(.int (v0 ^^^ (1 : Int32))), (.int (0 : Int32)), (.ref a)])) rfl rfl (hb hby at_136)
      have V_a_37 : Arv Z h37 a k7 .int (4 : Int32) [(.int (v0 ^^^ (1 : Int32))), (.int v1), (.int v2), (.int v3)] (.int (0 : Int32)) := Arv.set Ar37 qc37 Sz37 Mn37 Hs37 Gs37 rfl W37 0 rfl (Nat.le_of_ble_eq_true rfl)
      have Eb_37 := Eb.wr W37
      have Vy_37 := Vy.other W37 (Ne.symm ne_a_y)
      have Fb_37 := Fb.other W37 (Or.inl (Ne.symm ne_a_b17))
      have Fc_37 := Fc.other W37 (Or.inl (Ne.symm ne_a_b17))
      have Fi_37 := Fi.other W37 (Or.inl (Ne.symm ne_a_b17))
      have Z_37 : n0 ≤ h37.size := Nat.le_trans Z_17 (Keep.of_wr W37).1
      have N37 := Fr.snoc X37 N17 g_a
      have st38 : ∀ target, Steps p.tables e below (T37.setTop (mkF m 144 #[.val (.int p0), .val (.int p1), .val (.int p2), .val (.int p3), .val (.int p4), .val (.int p5), .val (.int bd), .val (.int (0 : Int32)), .val (.int v0), .val (.int v1), .val (.int v2), .val (.int v3), .val (.ref a), .val (.ref b17), .val (.int (0 : Int32)), .unset] [(.int (v1 ^^^ (1 : Int32))), (.int (1 : Int32)), (.ref a)])) target → Steps p.tables e below (T37.setTop (mkF m 137 #[.val (.int p0), .val (.int p1), .val (.int p2), .val (.int p3), .val (.int p4), .val (.int p5), .val (.int bd), .val (.int (0 : Int32)), .val (.int v0), .val (.int v1), .val (.int v2), .val (.int v3), .val (.ref a), .val (.ref b17), .val (.int (0 : Int32)), .unset] [])) target := by
        intro target kt
        refine XS.aload X37.here hx rfl (hb hby at_137) rfl rfl ?_
        show Steps p.tables e below (T37.setTop (mkF m 139 #[.val (.int p0), .val (.int p1), .val (.int p2), .val (.int p3), .val (.int p4), .val (.int p5), .val (.int bd), .val (.int (0 : Int32)), .val (.int v0), .val (.int v1), .val (.int v2), .val (.int v3), .val (.ref a), .val (.ref b17), .val (.int (0 : Int32)), .unset] [(.ref a)])) _
        refine XS.iconst X37.here hx rfl (hb hby at_139) ?_
        refine XS.iload X37.here hx rfl (hb hby at_140) rfl ?_
        refine XS.iconst X37.here hx rfl (hb hby at_142) ?_
        refine XS.ixor X37.here hx rfl (hb hby at_143) rfl ?_
        exact kt
      obtain ⟨cl39, Ar39, qc39, Sz39, Mn39, Hs39, Gs39⟩ := id V_a_37
      have hin39 : ¬ ((1 : Int32) < 0 ∨ cl39.slots.size ≤ ((1 : Int32)).toNatClampNeg) := inb_of Sz39 ⟨by decide, by decide⟩
      obtain ⟨T39, h39, X39, e39, W39, st39⟩ := stI X37 hx hZ e37 Ar39 (j := (1 : Int32)) hin39 (g := (mkF m 144 #[.val (.int p0), .val (.int p1), .val (.int p2), .val (.int p3), .val (.int p4), .val (.int p5), .val (.int bd), .val (.int (0 : Int32)), .val (.int v0), .val (.int v1), .val (.int v2), .val (.int v3), .val (.ref a), .val (.ref b17), .val (.int (0 : Int32)), .unset] [(.int (v1 ^^^ (1 : Int32))), (.int (1 : Int32)), (.ref a)])) rfl rfl (hb hby at_144)
      have V_a_39 : Arv Z h39 a k7 .int (4 : Int32) [(.int (v0 ^^^ (1 : Int32))), (.int (v1 ^^^ (1 : Int32))), (.int v2), (.int v3)] (.int (0 : Int32)) := Arv.set Ar39 qc39 Sz39 Mn39 Hs39 Gs39 rfl W39 1 rfl (Nat.le_of_ble_eq_true rfl)
      have Eb_39 := Eb_37.wr W39
      have Vy_39 := Vy_37.other W39 (Ne.symm ne_a_y)
      have Fb_39 := Fb_37.other W39 (Or.inl (Ne.symm ne_a_b17))
      have Fc_39 := Fc_37.other W39 (Or.inl (Ne.symm ne_a_b17))
      have Fi_39 := Fi_37.other W39 (Or.inl (Ne.symm ne_a_b17))
      have Z_39 : n0 ≤ h39.size := Nat.le_trans Z_37 (Keep.of_wr W39).1
      have N39 := Fr.snoc X39 N37 g_a
      have st40 : ∀ target, Steps p.tables e below (T39.setTop (mkF m 152 #[.val (.int p0), .val (.int p1), .val (.int p2), .val (.int p3), .val (.int p4), .val (.int p5), .val (.int bd), .val (.int (0 : Int32)), .val (.int v0), .val (.int v1), .val (.int v2), .val (.int v3), .val (.ref a), .val (.ref b17), .val (.int (0 : Int32)), .unset] [(.int (v2 ^^^ (1 : Int32))), (.int (2 : Int32)), (.ref a)])) target → Steps p.tables e below (T39.setTop (mkF m 145 #[.val (.int p0), .val (.int p1), .val (.int p2), .val (.int p3), .val (.int p4), .val (.int p5), .val (.int bd), .val (.int (0 : Int32)), .val (.int v0), .val (.int v1), .val (.int v2), .val (.int v3), .val (.ref a), .val (.ref b17), .val (.int (0 : Int32)), .unset] [])) target := by
        intro target kt
        refine XS.aload X39.here hx rfl (hb hby at_145) rfl rfl ?_
        refine XS.iconst X39.here hx rfl (hb hby at_147) ?_
        refine XS.iload X39.here hx rfl (hb hby at_148) rfl ?_
        refine XS.iconst X39.here hx rfl (hb hby at_150) ?_
        show Steps p.tables e below (T39.setTop (mkF m 151 #[.val (.int p0), .val (.int p1), .val (.int p2), .val (.int p3), .val (.int p4), .val (.int p5), .val (.int bd), .val (.int (0 : Int32)), .val (.int v0), .val (.int v1), .val (.int v2), .val (.int v3), .val (.ref a), .val (.ref b17), .val (.int (0 : Int32)), .unset] [(.int (1 : Int32)), (.int v2), (.int (2 : Int32)), (.ref a)])) _
        refine XS.ixor X39.here hx rfl (hb hby at_151) rfl ?_
        exact kt
      obtain ⟨cl41, Ar41, qc41, Sz41, Mn41, Hs41, Gs41⟩ := id V_a_39
      have hin41 : ¬ ((2 : Int32) < 0 ∨ cl41.slots.size ≤ ((2 : Int32)).toNatClampNeg) := inb_of Sz41 ⟨by decide, by decide⟩
      obtain ⟨T41, h41, X41, e41, W41, st41⟩ := stI X39 hx hZ e39 Ar41 (j := (2 : Int32)) hin41 (g := (mkF m 152 #[.val (.int p0), .val (.int p1), .val (.int p2), .val (.int p3), .val (.int p4), .val (.int p5), .val (.int bd), .val (.int (0 : Int32)), .val (.int v0), .val (.int v1), .val (.int v2), .val (.int v3), .val (.ref a), .val (.ref b17), .val (.int (0 : Int32)), .unset] [(.int (v2 ^^^ (1 : Int32))), (.int (2 : Int32)), (.ref a)])) rfl rfl (hb hby at_152)
      have V_a_41 : Arv Z h41 a k7 .int (4 : Int32) [(.int (v0 ^^^ (1 : Int32))), (.int (v1 ^^^ (1 : Int32))), (.int (v2 ^^^ (1 : Int32))), (.int v3)] (.int (0 : Int32)) := Arv.set Ar41 qc41 Sz41 Mn41 Hs41 Gs41 rfl W41 2 rfl (Nat.le_of_ble_eq_true rfl)
      have Eb_41 := Eb_39.wr W41
      have Vy_41 := Vy_39.other W41 (Ne.symm ne_a_y)
      have Fb_41 := Fb_39.other W41 (Or.inl (Ne.symm ne_a_b17))
      have Fc_41 := Fc_39.other W41 (Or.inl (Ne.symm ne_a_b17))
      have Fi_41 := Fi_39.other W41 (Or.inl (Ne.symm ne_a_b17))
      have Z_41 : n0 ≤ h41.size := Nat.le_trans Z_39 (Keep.of_wr W41).1
      have N41 := Fr.snoc X41 N39 g_a
      have st42 : ∀ target, Steps p.tables e below (T41.setTop (mkF m 160 #[.val (.int p0), .val (.int p1), .val (.int p2), .val (.int p3), .val (.int p4), .val (.int p5), .val (.int bd), .val (.int (0 : Int32)), .val (.int v0), .val (.int v1), .val (.int v2), .val (.int v3), .val (.ref a), .val (.ref b17), .val (.int (0 : Int32)), .unset] [(.int (v3 ^^^ (1 : Int32))), (.int (3 : Int32)), (.ref a)])) target → Steps p.tables e below (T41.setTop (mkF m 153 #[.val (.int p0), .val (.int p1), .val (.int p2), .val (.int p3), .val (.int p4), .val (.int p5), .val (.int bd), .val (.int (0 : Int32)), .val (.int v0), .val (.int v1), .val (.int v2), .val (.int v3), .val (.ref a), .val (.ref b17), .val (.int (0 : Int32)), .unset] [])) target := by
        intro target kt
        refine XS.aload X41.here hx rfl (hb hby at_153) rfl rfl ?_
        refine XS.iconst X41.here hx rfl (hb hby at_155) ?_
        refine XS.iload X41.here hx rfl (hb hby at_156) rfl ?_
        refine XS.iconst X41.here hx rfl (hb hby at_158) ?_
        refine XS.ixor X41.here hx rfl (hb hby at_159) rfl ?_
        exact kt
      obtain ⟨cl43, Ar43, qc43, Sz43, Mn43, Hs43, Gs43⟩ := id V_a_41
      have hin43 : ¬ ((3 : Int32) < 0 ∨ cl43.slots.size ≤ ((3 : Int32)).toNatClampNeg) := inb_of Sz43 ⟨by decide, by decide⟩
      obtain ⟨T43, h43, X43, e43, W43, st43⟩ := stI X41 hx hZ e41 Ar43 (j := (3 : Int32)) hin43 (g := (mkF m 160 #[.val (.int p0), .val (.int p1), .val (.int p2), .val (.int p3), .val (.int p4), .val (.int p5), .val (.int bd), .val (.int (0 : Int32)), .val (.int v0), .val (.int v1), .val (.int v2), .val (.int v3), .val (.ref a), .val (.ref b17), .val (.int (0 : Int32)), .unset] [(.int (v3 ^^^ (1 : Int32))), (.int (3 : Int32)), (.ref a)])) rfl rfl (hb hby at_160)
      have V_a_43 : Arv Z h43 a k7 .int (4 : Int32) [(.int (v0 ^^^ (1 : Int32))), (.int (v1 ^^^ (1 : Int32))), (.int (v2 ^^^ (1 : Int32))), (.int (v3 ^^^ (1 : Int32)))] (.int (0 : Int32)) := Arv.set Ar43 qc43 Sz43 Mn43 Hs43 Gs43 rfl W43 3 rfl (Nat.le_of_ble_eq_true rfl)
      have Eb_43 := Eb_41.wr W43
      have Vy_43 := Vy_41.other W43 (Ne.symm ne_a_y)
      have Fb_43 := Fb_41.other W43 (Or.inl (Ne.symm ne_a_b17))
      have Fc_43 := Fc_41.other W43 (Or.inl (Ne.symm ne_a_b17))
      have Fi_43 := Fi_41.other W43 (Or.inl (Ne.symm ne_a_b17))
      have Z_43 : n0 ≤ h43.size := Nat.le_trans Z_41 (Keep.of_wr W43).1
      have N43 := Fr.snoc X43 N41 g_a
      have st44 : ∀ target, Steps p.tables e below (T43.setTop (mkF m 281 #[.val (.int p0), .val (.int p1), .val (.int p2), .val (.int p3), .val (.int p4), .val (.int p5), .val (.int bd), .val (.int (0 : Int32)), .val (.int v0), .val (.int v1), .val (.int v2), .val (.int v3), .val (.ref a), .val (.ref b17), .val (.int (0 : Int32)), .val (.int (1 : Int32))] [(.int (1 : Int32))])) target → Steps p.tables e below (T43.setTop (mkF m 161 #[.val (.int p0), .val (.int p1), .val (.int p2), .val (.int p3), .val (.int p4), .val (.int p5), .val (.int bd), .val (.int (0 : Int32)), .val (.int v0), .val (.int v1), .val (.int v2), .val (.int v3), .val (.ref a), .val (.ref b17), .val (.int (0 : Int32)), .unset] [])) target := by
        intro target kt
        refine XS.iconst X43.here hx rfl (hb hby at_161) ?_
        refine XS.istore X43.here hx rfl (hb hby at_162) rfl (l' := #[.val (.int p0), .val (.int p1), .val (.int p2), .val (.int p3), .val (.int p4), .val (.int p5), .val (.int bd), .val (.int (0 : Int32)), .val (.int v0), .val (.int v1), .val (.int v2), .val (.int v3), .val (.ref a), .val (.ref b17), .val (.int (0 : Int32)), .val (.int (1 : Int32))]) rfl ?_
        show Steps p.tables e below (T43.setTop (mkF m 164 #[.val (.int p0), .val (.int p1), .val (.int p2), .val (.int p3), .val (.int p4), .val (.int p5), .val (.int bd), .val (.int (0 : Int32)), .val (.int v0), .val (.int v1), .val (.int v2), .val (.int v3), .val (.ref a), .val (.ref b17), .val (.int (0 : Int32)), .val (.int (1 : Int32))] [])) _
        refine XS.iload X43.here hx rfl (hb hby at_164) rfl ?_
        refine XS.ifYes X43.here hx rfl (pc0 := 166) (pc' := 192) rfl (hb hby at_166) rfl ((if0 _ _).trans (flt (by decide : ¬ ((0 : Int32) < (0 : Int32)))).2.2.2) (by decide) (by decide) ?_
        refine XS.iload X43.here hx rfl (hb hby at_192) rfl ?_
        refine XS.iconst X43.here hx rfl (hb hby at_194) ?_
        refine XS.icmpYes X43.here hx rfl (pc0 := 195) (pc' := 221) rfl (hb hby at_195) rfl (flt (by decide : ¬ ((1 : Int32) < (0 : Int32)))).2.2.2 (by decide) (by decide) ?_
        refine XS.iload X43.here hx rfl (hb hby at_221) rfl ?_
        refine XS.iconst X43.here hx rfl (hb hby at_223) ?_
        refine XS.icmpYes X43.here hx rfl (pc0 := 224) (pc' := 250) rfl (hb hby at_224) rfl (flt (by decide : ¬ ((2 : Int32) < (0 : Int32)))).2.2.2 (by decide) (by decide) ?_
        show Steps p.tables e below (T43.setTop (mkF m 250 #[.val (.int p0), .val (.int p1), .val (.int p2), .val (.int p3), .val (.int p4), .val (.int p5), .val (.int bd), .val (.int (0 : Int32)), .val (.int v0), .val (.int v1), .val (.int v2), .val (.int v3), .val (.ref a), .val (.ref b17), .val (.int (0 : Int32)), .val (.int (1 : Int32))] [])) _
        refine XS.iload X43.here hx rfl (hb hby at_250) rfl ?_
        refine XS.iconst X43.here hx rfl (hb hby at_252) ?_
        refine XS.icmpYes X43.here hx rfl (pc0 := 253) (pc' := 279) rfl (hb hby at_253) rfl (flt (by decide : ¬ ((3 : Int32) < (0 : Int32)))).2.2.2 (by decide) (by decide) ?_
        refine XS.iload X43.here hx rfl (hb hby at_279) rfl ?_
        exact kt
      obtain ⟨fs, hr, hrun, hended, hW, hsame⟩ := X43.leave (v := some (.int (1 : Int32))) (fun h => by rw [Bd.returns] at h; cases h)
      refine ⟨_, _, pre0 _ (st1 _ (st2 _ (st3 _ (st4 _ (st5 _ (st6 _ (st7 _ (st8 _ (st9 _ (st10 _ (st11 _ (st12 _ (st13 _ (st14 _ (st15 _ (st16 _ (st17 _ (st36 _ (st37 _ (st38 _ (st39 _ (st40 _ (st41 _ (st42 _ (st43 _ (st44 _ ?_)))))))))))))))))))))))))), hrun, hended, _, _, rfl, ?_, ⟨_, rfl⟩, hW, hsame.mono (by decide) (by decide)⟩
      · show Steps p.tables e below (T43.setTop (mkF m 281 #[.val (.int p0), .val (.int p1), .val (.int p2), .val (.int p3), .val (.int p4), .val (.int p5), .val (.int bd), .val (.int (0 : Int32)), .val (.int v0), .val (.int v1), .val (.int v2), .val (.int v3), .val (.ref a), .val (.ref b17), .val (.int (0 : Int32)), .val (.int (1 : Int32))] [(.int (1 : Int32))])) _
        exact retN X43 hx (t := .boolean) Bd.returns (by simp) (hb hby at_281) hr
      · show Q_rm0 Z p0 p1 p2 p3 p4 p5 h0 n0 _ T43.heap _
        rw [e43]
        exact ⟨rfl, N43⟩
  · have st45 : ∀ target, Steps p.tables e below (T15.setTop (mkF m 99 #[.val (.int p0), .val (.int p1), .val (.int p2), .val (.int p3), .val (.int p4), .val (.int p5), .val (.int bd), .val (.int (1 : Int32)), .val (.int v0), .val (.int v1), .val (.int v2), .val (.int v3), .val (.ref a), .unset, .unset, .unset] [(.int bd), (.int (1 : Int32)), (.ref a)])) target → Steps p.tables e below (T15.setTop (mkF m 93 #[.val (.int p0), .val (.int p1), .val (.int p2), .val (.int p3), .val (.int p4), .val (.int p5), .val (.int bd), .val (.int (1 : Int32)), .val (.int v0), .val (.int v1), .val (.int v2), .val (.int v3), .val (.ref a), .unset, .unset, .unset] [])) target := by
      intro target kt
      refine XS.aload X15.here hx rfl (hb hby at_93) rfl rfl ?_
      refine XS.iload X15.here hx rfl (hb hby at_95) rfl ?_
      refine XS.iload X15.here hx rfl (hb hby at_97) rfl ?_
      exact kt
    obtain ⟨_, _, ⟨T46, L46, k46, n46⟩, -, X46, ⟨Lc46, hQ46, l46, y46, z46⟩, st46⟩ := Jvm.LawKit.callS X15 hx (y := (⟨"com/example/libbisim/libbisim/CompactInts", "of", "([III)Lcom/example/libbisim/libbisim/CompactInts;"⟩ : MethodName)) hown (mvT hZ (hw _ (List.mem_of_getElem? (i := 6) rfl))) (mvT hZ (hw _ (List.mem_of_getElem? (i := 7) rfl))) (mvT hZ (hw _ (List.mem_of_getElem? (i := 8) rfl))) (mvT hZ (hw _ (List.mem_of_getElem? (i := 9) rfl))) (by decide) (backOf (W := 0) (rmOf1 l Z a0 hw [] a bd k7 v0 v1 v2 v3 h15 n0 Z_15 V_a_15) hZ (hw _ (List.mem_of_getElem? (i := 9) rfl)) (hw _ (List.mem_of_getElem? (i := 8) rfl)) (by decide) (by decide)) (g := (mkF m 99 #[.val (.int p0), .val (.int p1), .val (.int p2), .val (.int p3), .val (.int p4), .val (.int p5), .val (.int bd), .val (.int (1 : Int32)), .val (.int v0), .val (.int v1), .val (.int v2), .val (.int v3), .val (.ref a), .unset, .unset, .unset] [(.int bd), (.int (1 : Int32)), (.ref a)])) rfl (by rw [hml]; rfl) (argsL := [(.ref a), (.int (1 : Int32)), (.int bd)]) (rest := []) (lenOf pd_1 rfl) rfl (by show 2 * 0 + _ ≤ _; exact Nat.le_of_eq rfl) (hb hby at_99) (fun _ _ => ⟨rfl, e15, (by decide : 1 + 2 ≤ _), (by decide : 4 + 4 ≤ _)⟩)
    dsimp only [Pt.U, Pt.locs, Pt.cells, Pt.slots] at X46 l46 y46 z46 st46 hQ46
    subst l46 y46 z46
    obtain ⟨b46, rfl, Nq46, K46, sz46, Eb, alt⟩ := hQ46
    have N46 := Fr.app N15 Nq46
    have g_b46 : n0 ≤ b46 := Nat.le_trans Z_15 sz46
    have ne_a_b46 : a ≠ b46 := Nat.ne_of_lt (Nat.lt_of_lt_of_le V_a_15.lt sz46)
    have V_a_46 := V_a_15.keep K46 nin0
    have Z_46 : n0 ≤ T46.heap.size := Nat.le_trans Z_15 K46.1
    rcases alt with ⟨q1, y, ky, szy, Fb, Vy⟩ | ⟨q1, q2, y, ky, szy, Fb, Fc, Vy⟩ | ⟨q1, Fb, Fc, y, ky, szy, Fi, Vy⟩
    · have ne_a_y : a ≠ y := Nat.ne_of_lt (Nat.lt_of_lt_of_le (V_a_15).lt szy)
      have hle : bd.toInt ≤ 256 := own_le rfl q1
      have st47 : ∀ target, Steps p.tables e below (T46.setTop (mkF m 136 #[.val (.int p0), .val (.int p1), .val (.int p2), .val (.int p3), .val (.int p4), .val (.int p5), .val (.int bd), .val (.int (1 : Int32)), .val (.int v0), .val (.int v1), .val (.int v2), .val (.int v3), .val (.ref a), .val (.ref b46), .val (.int (0 : Int32)), .unset] [(.int (v0 ^^^ (1 : Int32))), (.int (0 : Int32)), (.ref a)])) target → Steps p.tables e below (T46.setTop (mkF m 102 #[.val (.int p0), .val (.int p1), .val (.int p2), .val (.int p3), .val (.int p4), .val (.int p5), .val (.int bd), .val (.int (1 : Int32)), .val (.int v0), .val (.int v1), .val (.int v2), .val (.int v3), .val (.ref a), .unset, .unset, .unset] [(.ref b46)])) target := by
        intro target kt
        refine XS.astore X46.here hx rfl (hb hby at_102) rfl rfl (l' := #[.val (.int p0), .val (.int p1), .val (.int p2), .val (.int p3), .val (.int p4), .val (.int p5), .val (.int bd), .val (.int (1 : Int32)), .val (.int v0), .val (.int v1), .val (.int v2), .val (.int v3), .val (.ref a), .val (.ref b46), .unset, .unset]) rfl ?_
        show Steps p.tables e below (T46.setTop (mkF m 104 #[.val (.int p0), .val (.int p1), .val (.int p2), .val (.int p3), .val (.int p4), .val (.int p5), .val (.int bd), .val (.int (1 : Int32)), .val (.int v0), .val (.int v1), .val (.int v2), .val (.int v3), .val (.ref a), .val (.ref b46), .unset, .unset] [])) _
        refine XS.iload X46.here hx rfl (hb hby at_104) rfl ?_
        refine X46.ldcInt hx hown (mvT hZ (hw _ (List.mem_of_getElem? (i := 25) rfl))) (g := (mkF m 106 #[.val (.int p0), .val (.int p1), .val (.int p2), .val (.int p3), .val (.int p4), .val (.int p5), .val (.int bd), .val (.int (1 : Int32)), .val (.int v0), .val (.int v1), .val (.int v2), .val (.int v3), .val (.ref a), .val (.ref b46), .unset, .unset] [(.int bd)])) rfl (hb hby at_106) _ ?_
        refine XS.icmpYes X46.here hx rfl (pc0 := 108) (pc' := 121) rfl (hb hby at_108) rfl (flt (own_nlt q1 (by decide))).2.2.2 (by decide) (by decide) ?_
        refine XS.iconst X46.here hx rfl (hb hby at_121) ?_
        refine XS.istore X46.here hx rfl (hb hby at_122) rfl (l' := #[.val (.int p0), .val (.int p1), .val (.int p2), .val (.int p3), .val (.int p4), .val (.int p5), .val (.int bd), .val (.int (1 : Int32)), .val (.int v0), .val (.int v1), .val (.int v2), .val (.int v3), .val (.ref a), .val (.ref b46), .val (.int (0 : Int32)), .unset]) rfl ?_
        refine XS.iload X46.here hx rfl (hb hby at_124) rfl ?_
        refine XS.ifNo X46.here hx rfl (hb hby at_126) rfl ((if0 _ _).trans (teq (rfl : (0 : Int32) = (0 : Int32))).2) ?_
        refine XS.aload X46.here hx rfl (hb hby at_129) rfl rfl ?_
        show Steps p.tables e below (T46.setTop (mkF m 131 #[.val (.int p0), .val (.int p1), .val (.int p2), .val (.int p3), .val (.int p4), .val (.int p5), .val (.int bd), .val (.int (1 : Int32)), .val (.int v0), .val (.int v1), .val (.int v2), .val (.int v3), .val (.ref a), .val (.ref b46), .val (.int (0 : Int32)), .unset] [(.ref a)])) _
        refine XS.iconst X46.here hx rfl (hb hby at_131) ?_
        refine XS.iload X46.here hx rfl (hb hby at_132) rfl ?_
        refine XS.iconst X46.here hx rfl (hb hby at_134) ?_
        refine XS.ixor X46.here hx rfl (hb hby at_135) rfl ?_
        exact kt
      obtain ⟨cl48, Ar48, qc48, Sz48, Mn48, Hs48, Gs48⟩ := id V_a_46
      have hin48 : ¬ ((0 : Int32) < 0 ∨ cl48.slots.size ≤ ((0 : Int32)).toNatClampNeg) := inb_of Sz48 ⟨by decide, by decide⟩
      obtain ⟨T48, h48, X48, e48, W48, st48⟩ := stI X46 hx hZ rfl Ar48 (j := (0 : Int32)) hin48 (g := (mkF m 136 #[.val (.int p0), .val (.int p1), .val (.int p2), .val (.int p3), .val (.int p4), .val (.int p5), .val (.int bd), .val (.int (1 : Int32)), .val (.int v0), .val (.int v1), .val (.int v2), .val (.int v3), .val (.ref a), .val (.ref b46), .val (.int (0 : Int32)), .unset] [(.int (v0 ^^^ (1 : Int32))), (.int (0 : Int32)), (.ref a)])) rfl rfl (hb hby at_136)
      have V_a_48 : Arv Z h48 a k7 .int (4 : Int32) [(.int (v0 ^^^ (1 : Int32))), (.int v1), (.int v2), (.int v3)] (.int (0 : Int32)) := Arv.set Ar48 qc48 Sz48 Mn48 Hs48 Gs48 rfl W48 0 rfl (Nat.le_of_ble_eq_true rfl)
      have Eb_48 := Eb.wr W48
      have Vy_48 := Vy.other W48 (Ne.symm ne_a_y)
      have Fb_48 := Fb.other W48 (Or.inl (Ne.symm ne_a_b46))
      have Z_48 : n0 ≤ h48.size := Nat.le_trans Z_46 (Keep.of_wr W48).1
      have N48 := Fr.snoc X48 N46 g_a
      have st49 : ∀ target, Steps p.tables e below (T48.setTop (mkF m 144 #[.val (.int p0), .val (.int p1), .val (.int p2), .val (.int p3), .val (.int p4), .val (.int p5), .val (.int bd), .val (.int (1 : Int32)), .val (.int v0), .val (.int v1), .val (.int v2), .val (.int v3), .val (.ref a), .val (.ref b46), .val (.int (0 : Int32)), .unset] [(.int (v1 ^^^ (1 : Int32))), (.int (1 : Int32)), (.ref a)])) target → Steps p.tables e below (T48.setTop (mkF m 137 #[.val (.int p0), .val (.int p1), .val (.int p2), .val (.int p3), .val (.int p4), .val (.int p5), .val (.int bd), .val (.int (1 : Int32)), .val (.int v0), .val (.int v1), .val (.int v2), .val (.int v3), .val (.ref a), .val (.ref b46), .val (.int (0 : Int32)), .unset] [])) target := by
        intro target kt
        refine XS.aload X48.here hx rfl (hb hby at_137) rfl rfl ?_
        refine XS.iconst X48.here hx rfl (hb hby at_139) ?_
        refine XS.iload X48.here hx rfl (hb hby at_140) rfl ?_
        refine XS.iconst X48.here hx rfl (hb hby at_142) ?_
        show Steps p.tables e below (T48.setTop (mkF m 143 #[.val (.int p0), .val (.int p1), .val (.int p2), .val (.int p3), .val (.int p4), .val (.int p5), .val (.int bd), .val (.int (1 : Int32)), .val (.int v0), .val (.int v1), .val (.int v2), .val (.int v3), .val (.ref a), .val (.ref b46), .val (.int (0 : Int32)), .unset] [(.int (1 : Int32)), (.int v1), (.int (1 : Int32)), (.ref a)])) _
        refine XS.ixor X48.here hx rfl (hb hby at_143) rfl ?_
        exact kt
      obtain ⟨cl50, Ar50, qc50, Sz50, Mn50, Hs50, Gs50⟩ := id V_a_48
      have hin50 : ¬ ((1 : Int32) < 0 ∨ cl50.slots.size ≤ ((1 : Int32)).toNatClampNeg) := inb_of Sz50 ⟨by decide, by decide⟩
      obtain ⟨T50, h50, X50, e50, W50, st50⟩ := stI X48 hx hZ e48 Ar50 (j := (1 : Int32)) hin50 (g := (mkF m 144 #[.val (.int p0), .val (.int p1), .val (.int p2), .val (.int p3), .val (.int p4), .val (.int p5), .val (.int bd), .val (.int (1 : Int32)), .val (.int v0), .val (.int v1), .val (.int v2), .val (.int v3), .val (.ref a), .val (.ref b46), .val (.int (0 : Int32)), .unset] [(.int (v1 ^^^ (1 : Int32))), (.int (1 : Int32)), (.ref a)])) rfl rfl (hb hby at_144)
      have V_a_50 : Arv Z h50 a k7 .int (4 : Int32) [(.int (v0 ^^^ (1 : Int32))), (.int (v1 ^^^ (1 : Int32))), (.int v2), (.int v3)] (.int (0 : Int32)) := Arv.set Ar50 qc50 Sz50 Mn50 Hs50 Gs50 rfl W50 1 rfl (Nat.le_of_ble_eq_true rfl)
      have Eb_50 := Eb_48.wr W50
      have Vy_50 := Vy_48.other W50 (Ne.symm ne_a_y)
      have Fb_50 := Fb_48.other W50 (Or.inl (Ne.symm ne_a_b46))
      have Z_50 : n0 ≤ h50.size := Nat.le_trans Z_48 (Keep.of_wr W50).1
      have N50 := Fr.snoc X50 N48 g_a
      have st51 : ∀ target, Steps p.tables e below (T50.setTop (mkF m 152 #[.val (.int p0), .val (.int p1), .val (.int p2), .val (.int p3), .val (.int p4), .val (.int p5), .val (.int bd), .val (.int (1 : Int32)), .val (.int v0), .val (.int v1), .val (.int v2), .val (.int v3), .val (.ref a), .val (.ref b46), .val (.int (0 : Int32)), .unset] [(.int (v2 ^^^ (1 : Int32))), (.int (2 : Int32)), (.ref a)])) target → Steps p.tables e below (T50.setTop (mkF m 145 #[.val (.int p0), .val (.int p1), .val (.int p2), .val (.int p3), .val (.int p4), .val (.int p5), .val (.int bd), .val (.int (1 : Int32)), .val (.int v0), .val (.int v1), .val (.int v2), .val (.int v3), .val (.ref a), .val (.ref b46), .val (.int (0 : Int32)), .unset] [])) target := by
        intro target kt
        refine XS.aload X50.here hx rfl (hb hby at_145) rfl rfl ?_
        refine XS.iconst X50.here hx rfl (hb hby at_147) ?_
        refine XS.iload X50.here hx rfl (hb hby at_148) rfl ?_
        refine XS.iconst X50.here hx rfl (hb hby at_150) ?_
        refine XS.ixor X50.here hx rfl (hb hby at_151) rfl ?_
        exact kt
      obtain ⟨cl52, Ar52, qc52, Sz52, Mn52, Hs52, Gs52⟩ := id V_a_50
      have hin52 : ¬ ((2 : Int32) < 0 ∨ cl52.slots.size ≤ ((2 : Int32)).toNatClampNeg) := inb_of Sz52 ⟨by decide, by decide⟩
      obtain ⟨T52, h52, X52, e52, W52, st52⟩ := stI X50 hx hZ e50 Ar52 (j := (2 : Int32)) hin52 (g := (mkF m 152 #[.val (.int p0), .val (.int p1), .val (.int p2), .val (.int p3), .val (.int p4), .val (.int p5), .val (.int bd), .val (.int (1 : Int32)), .val (.int v0), .val (.int v1), .val (.int v2), .val (.int v3), .val (.ref a), .val (.ref b46), .val (.int (0 : Int32)), .unset] [(.int (v2 ^^^ (1 : Int32))), (.int (2 : Int32)), (.ref a)])) rfl rfl (hb hby at_152)
      have V_a_52 : Arv Z h52 a k7 .int (4 : Int32) [(.int (v0 ^^^ (1 : Int32))), (.int (v1 ^^^ (1 : Int32))), (.int (v2 ^^^ (1 : Int32))), (.int v3)] (.int (0 : Int32)) := Arv.set Ar52 qc52 Sz52 Mn52 Hs52 Gs52 rfl W52 2 rfl (Nat.le_of_ble_eq_true rfl)
      have Eb_52 := Eb_50.wr W52
      have Vy_52 := Vy_50.other W52 (Ne.symm ne_a_y)
      have Fb_52 := Fb_50.other W52 (Or.inl (Ne.symm ne_a_b46))
      have Z_52 : n0 ≤ h52.size := Nat.le_trans Z_50 (Keep.of_wr W52).1
      have N52 := Fr.snoc X52 N50 g_a
      have st53 : ∀ target, Steps p.tables e below (T52.setTop (mkF m 160 #[.val (.int p0), .val (.int p1), .val (.int p2), .val (.int p3), .val (.int p4), .val (.int p5), .val (.int bd), .val (.int (1 : Int32)), .val (.int v0), .val (.int v1), .val (.int v2), .val (.int v3), .val (.ref a), .val (.ref b46), .val (.int (0 : Int32)), .unset] [(.int (v3 ^^^ (1 : Int32))), (.int (3 : Int32)), (.ref a)])) target → Steps p.tables e below (T52.setTop (mkF m 153 #[.val (.int p0), .val (.int p1), .val (.int p2), .val (.int p3), .val (.int p4), .val (.int p5), .val (.int bd), .val (.int (1 : Int32)), .val (.int v0), .val (.int v1), .val (.int v2), .val (.int v3), .val (.ref a), .val (.ref b46), .val (.int (0 : Int32)), .unset] [])) target := by
        intro target kt
        refine XS.aload X52.here hx rfl (hb hby at_153) rfl rfl ?_
        refine XS.iconst X52.here hx rfl (hb hby at_155) ?_
        show Steps p.tables e below (T52.setTop (mkF m 156 #[.val (.int p0), .val (.int p1), .val (.int p2), .val (.int p3), .val (.int p4), .val (.int p5), .val (.int bd), .val (.int (1 : Int32)), .val (.int v0), .val (.int v1), .val (.int v2), .val (.int v3), .val (.ref a), .val (.ref b46), .val (.int (0 : Int32)), .unset] [(.int (3 : Int32)), (.ref a)])) _
        refine XS.iload X52.here hx rfl (hb hby at_156) rfl ?_
        refine XS.iconst X52.here hx rfl (hb hby at_158) ?_
        refine XS.ixor X52.here hx rfl (hb hby at_159) rfl ?_
        exact kt
      obtain ⟨cl54, Ar54, qc54, Sz54, Mn54, Hs54, Gs54⟩ := id V_a_52
      have hin54 : ¬ ((3 : Int32) < 0 ∨ cl54.slots.size ≤ ((3 : Int32)).toNatClampNeg) := inb_of Sz54 ⟨by decide, by decide⟩
      obtain ⟨T54, h54, X54, e54, W54, st54⟩ := stI X52 hx hZ e52 Ar54 (j := (3 : Int32)) hin54 (g := (mkF m 160 #[.val (.int p0), .val (.int p1), .val (.int p2), .val (.int p3), .val (.int p4), .val (.int p5), .val (.int bd), .val (.int (1 : Int32)), .val (.int v0), .val (.int v1), .val (.int v2), .val (.int v3), .val (.ref a), .val (.ref b46), .val (.int (0 : Int32)), .unset] [(.int (v3 ^^^ (1 : Int32))), (.int (3 : Int32)), (.ref a)])) rfl rfl (hb hby at_160)
      have V_a_54 : Arv Z h54 a k7 .int (4 : Int32) [(.int (v0 ^^^ (1 : Int32))), (.int (v1 ^^^ (1 : Int32))), (.int (v2 ^^^ (1 : Int32))), (.int (v3 ^^^ (1 : Int32)))] (.int (0 : Int32)) := Arv.set Ar54 qc54 Sz54 Mn54 Hs54 Gs54 rfl W54 3 rfl (Nat.le_of_ble_eq_true rfl)
      have Eb_54 := Eb_52.wr W54
      have Vy_54 := Vy_52.other W54 (Ne.symm ne_a_y)
      have Fb_54 := Fb_52.other W54 (Or.inl (Ne.symm ne_a_b46))
      have Z_54 : n0 ≤ h54.size := Nat.le_trans Z_52 (Keep.of_wr W54).1
      have N54 := Fr.snoc X54 N52 g_a
      have st55 : ∀ target, Steps p.tables e below (T54.setTop (mkF m 177 #[.val (.int p0), .val (.int p1), .val (.int p2), .val (.int p3), .val (.int p4), .val (.int p5), .val (.int bd), .val (.int (1 : Int32)), .val (.int v0), .val (.int v1), .val (.int v2), .val (.int v3), .val (.ref a), .val (.ref b46), .val (.int (0 : Int32)), .val (.int (1 : Int32))] [(.int (0 : Int32)), (.ref b46)])) target → Steps p.tables e below (T54.setTop (mkF m 161 #[.val (.int p0), .val (.int p1), .val (.int p2), .val (.int p3), .val (.int p4), .val (.int p5), .val (.int bd), .val (.int (1 : Int32)), .val (.int v0), .val (.int v1), .val (.int v2), .val (.int v3), .val (.ref a), .val (.ref b46), .val (.int (0 : Int32)), .unset] [])) target := by
        intro target kt
        refine XS.iconst X54.here hx rfl (hb hby at_161) ?_
        refine XS.istore X54.here hx rfl (hb hby at_162) rfl (l' := #[.val (.int p0), .val (.int p1), .val (.int p2), .val (.int p3), .val (.int p4), .val (.int p5), .val (.int bd), .val (.int (1 : Int32)), .val (.int v0), .val (.int v1), .val (.int v2), .val (.int v3), .val (.ref a), .val (.ref b46), .val (.int (0 : Int32)), .val (.int (1 : Int32))]) rfl ?_
        refine XS.iload X54.here hx rfl (hb hby at_164) rfl ?_
        refine XS.ifNo X54.here hx rfl (hb hby at_166) rfl ((if0 _ _).trans (tlt (by decide : ((0 : Int32) < (1 : Int32)))).2.2.2) ?_
        refine XS.iload X54.here hx rfl (hb hby at_169) rfl ?_
        show Steps p.tables e below (T54.setTop (mkF m 171 #[.val (.int p0), .val (.int p1), .val (.int p2), .val (.int p3), .val (.int p4), .val (.int p5), .val (.int bd), .val (.int (1 : Int32)), .val (.int v0), .val (.int v1), .val (.int v2), .val (.int v3), .val (.ref a), .val (.ref b46), .val (.int (0 : Int32)), .val (.int (1 : Int32))] [(.int (1 : Int32))])) _
        refine XS.ifNo X54.here hx rfl (hb hby at_171) rfl ((if0 _ _).trans (feq (by decide : ¬ ((1 : Int32) = (0 : Int32)))).1) ?_
        refine XS.aload X54.here hx rfl (hb hby at_174) rfl rfl ?_
        refine XS.iconst X54.here hx rfl (hb hby at_176) ?_
        exact kt
      obtain ⟨cl56, Ar56, qc56, Sz56, Mn56, Hs56, Gs56⟩ := id Vy_54
      have hin56 : ¬ ((0 : Int32) < 0 ∨ cl56.slots.size ≤ ((0 : Int32)).toNatClampNeg) := inb_of Sz56 ⟨by decide, by decide⟩
      obtain ⟨cq57, kq57, qv57a, qv57b, qv57c⟩ := isOf hZ e54 Eb_54
      obtain ⟨_, _, ⟨T57, L57, k57, n57⟩, -, X57, ⟨Lc57, hQ57, l57, y57, z57⟩, st57⟩ := X54.virtualBack hx (y := (⟨"com/example/libbisim/libbisim/CompactInts", "get", "(I)I"⟩ : MethodName)) (z := (⟨"com/example/libbisim/libbisim/CompactInts", "get", "(I)I"⟩ : MethodName)) hown (mvT hZ (hw _ (List.mem_of_getElem? (i := 38) rfl))) (mvT hZ (hw _ (List.mem_of_getElem? (i := 39) rfl))) (notFace_of_selects (args := #[]) (mvT hZ (hw _ (List.mem_of_getElem? (i := 41) rfl)))) (mvT hZ (hw _ (List.mem_of_getElem? (i := 41) rfl))) (mvT hZ (hw _ (List.mem_of_getElem? (i := 40) rfl))) (by decide) (backOf (W := 0) (rmGB l Z a0 hw [] b46 (0 : Int32) y cl56 (nar .byte (v0.toInt8.toInt32)) h54 n0 Z_54 Fb_54 Ar56 hin56 (Hs56.at hin56 rfl)) hZ (hw _ (List.mem_of_getElem? (i := 42) rfl)) (hw _ (List.mem_of_getElem? (i := 8) rfl)) (by decide) (by decide)) qv57a qv57c (g := (mkF m 177 #[.val (.int p0), .val (.int p1), .val (.int p2), .val (.int p3), .val (.int p4), .val (.int p5), .val (.int bd), .val (.int (1 : Int32)), .val (.int v0), .val (.int v1), .val (.int v2), .val (.int v3), .val (.ref a), .val (.ref b46), .val (.int (0 : Int32)), .val (.int (1 : Int32))] [(.int (0 : Int32)), (.ref b46)])) rfl (by rw [hml]; rfl) (Steps.refl _) (argsL := [(.int (0 : Int32))]) (rest := []) (lenOf pd_6 rfl) rfl (by show 2 * 0 + _ ≤ _; exact Nat.le_of_eq rfl) (hb hby at_177) (fun _ _ => ⟨rfl, e54, (by decide : 3 + 0 ≤ _), (by decide : 8 + 0 ≤ _)⟩)
      dsimp only [Pt.U, Pt.locs, Pt.cells, Pt.slots] at X57 l57 y57 z57 st57 hQ57
      subst l57 y57 z57
      obtain ⟨rfl, Nq57, e57⟩ := hQ57
      have N57 := Fr.app N54 Nq57
      rw [own_b8 R0.1 (by omega)] at st57
      obtain ⟨fs, hr, hrun, hended, hW, hsame⟩ := X57.leave (v := some (.int (1 : Int32))) (fun h => by rw [Bd.returns] at h; cases h)
      refine ⟨_, _, pre0 _ (st1 _ (st2 _ (st3 _ (st4 _ (st5 _ (st6 _ (st7 _ (st8 _ (st9 _ (st10 _ (st11 _ (st12 _ (st13 _ (st14 _ (st15 _ (st45 _ (st46 _ (st47 _ (st48 _ (st49 _ (st50 _ (st51 _ (st52 _ (st53 _ (st54 _ (st55 _ (st57.trans ?_))))))))))))))))))))))))))), hrun, hended, _, _, rfl, ?_, ⟨_, rfl⟩, hW, hsame.mono (by decide) (by decide)⟩
      · refine XS.iload X57.here hx rfl (hb hby at_180) rfl ?_
        refine XS.icmpNo X57.here hx rfl (hb hby at_182) rfl (teq (rfl : v0 = v0)).2 ?_
        refine XS.iconst X57.here hx rfl (hb hby at_185) ?_
        refine XS.goto X57.here hx rfl (pc0 := 186) (pc' := 190) rfl (hb hby at_186) (by decide) (by decide) ?_
        refine XS.istore X57.here hx rfl (hb hby at_190) rfl (l' := #[.val (.int p0), .val (.int p1), .val (.int p2), .val (.int p3), .val (.int p4), .val (.int p5), .val (.int bd), .val (.int (1 : Int32)), .val (.int v0), .val (.int v1), .val (.int v2), .val (.int v3), .val (.ref a), .val (.ref b46), .val (.int (0 : Int32)), .val (.int (1 : Int32))]) rfl ?_
        show Steps p.tables e below (T57.setTop (mkF m 192 #[.val (.int p0), .val (.int p1), .val (.int p2), .val (.int p3), .val (.int p4), .val (.int p5), .val (.int bd), .val (.int (1 : Int32)), .val (.int v0), .val (.int v1), .val (.int v2), .val (.int v3), .val (.ref a), .val (.ref b46), .val (.int (0 : Int32)), .val (.int (1 : Int32))] [])) _
        refine XS.iload X57.here hx rfl (hb hby at_192) rfl ?_
        refine XS.iconst X57.here hx rfl (hb hby at_194) ?_
        refine XS.icmpYes X57.here hx rfl (pc0 := 195) (pc' := 221) rfl (hb hby at_195) rfl (flt (by decide : ¬ ((1 : Int32) < (1 : Int32)))).2.2.2 (by decide) (by decide) ?_
        refine XS.iload X57.here hx rfl (hb hby at_221) rfl ?_
        refine XS.iconst X57.here hx rfl (hb hby at_223) ?_
        refine XS.icmpYes X57.here hx rfl (pc0 := 224) (pc' := 250) rfl (hb hby at_224) rfl (flt (by decide : ¬ ((2 : Int32) < (1 : Int32)))).2.2.2 (by decide) (by decide) ?_
        refine XS.iload X57.here hx rfl (hb hby at_250) rfl ?_
        refine XS.iconst X57.here hx rfl (hb hby at_252) ?_
        show Steps p.tables e below (T57.setTop (mkF m 253 #[.val (.int p0), .val (.int p1), .val (.int p2), .val (.int p3), .val (.int p4), .val (.int p5), .val (.int bd), .val (.int (1 : Int32)), .val (.int v0), .val (.int v1), .val (.int v2), .val (.int v3), .val (.ref a), .val (.ref b46), .val (.int (0 : Int32)), .val (.int (1 : Int32))] [(.int (3 : Int32)), (.int (1 : Int32))])) _
        refine XS.icmpYes X57.here hx rfl (pc0 := 253) (pc' := 279) rfl (hb hby at_253) rfl (flt (by decide : ¬ ((3 : Int32) < (1 : Int32)))).2.2.2 (by decide) (by decide) ?_
        refine XS.iload X57.here hx rfl (hb hby at_279) rfl ?_
        show Steps p.tables e below (T57.setTop (mkF m 281 #[.val (.int p0), .val (.int p1), .val (.int p2), .val (.int p3), .val (.int p4), .val (.int p5), .val (.int bd), .val (.int (1 : Int32)), .val (.int v0), .val (.int v1), .val (.int v2), .val (.int v3), .val (.ref a), .val (.ref b46), .val (.int (0 : Int32)), .val (.int (1 : Int32))] [(.int (1 : Int32))])) _
        exact retN X57 hx (t := .boolean) Bd.returns (by simp) (hb hby at_281) hr
      · show Q_rm0 Z p0 p1 p2 p3 p4 p5 h0 n0 _ T57.heap _
        rw [e57]
        exact ⟨rfl, N57⟩
    · have ne_a_y : a ≠ y := Nat.ne_of_lt (Nat.lt_of_lt_of_le (V_a_15).lt szy)
      have hle : bd.toInt ≤ 65536 := own_le rfl q2
      have st58 : ∀ target, Steps p.tables e below (T46.setTop (mkF m 136 #[.val (.int p0), .val (.int p1), .val (.int p2), .val (.int p3), .val (.int p4), .val (.int p5), .val (.int bd), .val (.int (1 : Int32)), .val (.int v0), .val (.int v1), .val (.int v2), .val (.int v3), .val (.ref a), .val (.ref b46), .val (.int (0 : Int32)), .unset] [(.int (v0 ^^^ (1 : Int32))), (.int (0 : Int32)), (.ref a)])) target → Steps p.tables e below (T46.setTop (mkF m 102 #[.val (.int p0), .val (.int p1), .val (.int p2), .val (.int p3), .val (.int p4), .val (.int p5), .val (.int bd), .val (.int (1 : Int32)), .val (.int v0), .val (.int v1), .val (.int v2), .val (.int v3), .val (.ref a), .unset, .unset, .unset] [(.ref b46)])) target := by
        intro target kt
        refine XS.astore X46.here hx rfl (hb hby at_102) rfl rfl (l' := #[.val (.int p0), .val (.int p1), .val (.int p2), .val (.int p3), .val (.int p4), .val (.int p5), .val (.int bd), .val (.int (1 : Int32)), .val (.int v0), .val (.int v1), .val (.int v2), .val (.int v3), .val (.ref a), .val (.ref b46), .unset, .unset]) rfl ?_
        refine XS.iload X46.here hx rfl (hb hby at_104) rfl ?_
        refine X46.ldcInt hx hown (mvT hZ (hw _ (List.mem_of_getElem? (i := 25) rfl))) (g := (mkF m 106 #[.val (.int p0), .val (.int p1), .val (.int p2), .val (.int p3), .val (.int p4), .val (.int p5), .val (.int bd), .val (.int (1 : Int32)), .val (.int v0), .val (.int v1), .val (.int v2), .val (.int v3), .val (.ref a), .val (.ref b46), .unset, .unset] [(.int bd)])) rfl (hb hby at_106) _ ?_
        refine XS.icmpYes X46.here hx rfl (pc0 := 108) (pc' := 121) rfl (hb hby at_108) rfl (flt q2).2.2.2 (by decide) (by decide) ?_
        refine XS.iconst X46.here hx rfl (hb hby at_121) ?_
        refine XS.istore X46.here hx rfl (hb hby at_122) rfl (l' := #[.val (.int p0), .val (.int p1), .val (.int p2), .val (.int p3), .val (.int p4), .val (.int p5), .val (.int bd), .val (.int (1 : Int32)), .val (.int v0), .val (.int v1), .val (.int v2), .val (.int v3), .val (.ref a), .val (.ref b46), .val (.int (0 : Int32)), .unset]) rfl ?_
        show Steps p.tables e below (T46.setTop (mkF m 124 #[.val (.int p0), .val (.int p1), .val (.int p2), .val (.int p3), .val (.int p4), .val (.int p5), .val (.int bd), .val (.int (1 : Int32)), .val (.int v0), .val (.int v1), .val (.int v2), .val (.int v3), .val (.ref a), .val (.ref b46), .val (.int (0 : Int32)), .unset] [])) _
        refine XS.iload X46.here hx rfl (hb hby at_124) rfl ?_
        refine XS.ifNo X46.here hx rfl (hb hby at_126) rfl ((if0 _ _).trans (teq (rfl : (0 : Int32) = (0 : Int32))).2) ?_
        refine XS.aload X46.here hx rfl (hb hby at_129) rfl rfl ?_
        refine XS.iconst X46.here hx rfl (hb hby at_131) ?_
        refine XS.iload X46.here hx rfl (hb hby at_132) rfl ?_
        refine XS.iconst X46.here hx rfl (hb hby at_134) ?_
        refine XS.ixor X46.here hx rfl (hb hby at_135) rfl ?_
        exact kt
      obtain ⟨cl59, Ar59, qc59, Sz59, Mn59, Hs59, Gs59⟩ := id V_a_46
      have hin59 : ¬ ((0 : Int32) < 0 ∨ cl59.slots.size ≤ ((0 : Int32)).toNatClampNeg) := inb_of Sz59 ⟨by decide, by decide⟩
      obtain ⟨T59, h59, X59, e59, W59, st59⟩ := stI X46 hx hZ rfl Ar59 (j := (0 : Int32)) hin59 (g := (mkF m 136 #[.val (.int p0), .val (.int p1), .val (.int p2), .val (.int p3), .val (.int p4), .val (.int p5), .val (.int bd), .val (.int (1 : Int32)), .val (.int v0), .val (.int v1), .val (.int v2), .val (.int v3), .val (.ref a), .val (.ref b46), .val (.int (0 : Int32)), .unset] [(.int (v0 ^^^ (1 : Int32))), (.int (0 : Int32)), (.ref a)])) rfl rfl (hb hby at_136)
      have V_a_59 : Arv Z h59 a k7 .int (4 : Int32) [(.int (v0 ^^^ (1 : Int32))), (.int v1), (.int v2), (.int v3)] (.int (0 : Int32)) := Arv.set Ar59 qc59 Sz59 Mn59 Hs59 Gs59 rfl W59 0 rfl (Nat.le_of_ble_eq_true rfl)
      have Eb_59 := Eb.wr W59
      have Vy_59 := Vy.other W59 (Ne.symm ne_a_y)
      have Fb_59 := Fb.other W59 (Or.inl (Ne.symm ne_a_b46))
      have Fc_59 := Fc.other W59 (Or.inl (Ne.symm ne_a_b46))
      have Z_59 : n0 ≤ h59.size := Nat.le_trans Z_46 (Keep.of_wr W59).1
      have N59 := Fr.snoc X59 N46 g_a
      have st60 : ∀ target, Steps p.tables e below (T59.setTop (mkF m 144 #[.val (.int p0), .val (.int p1), .val (.int p2), .val (.int p3), .val (.int p4), .val (.int p5), .val (.int bd), .val (.int (1 : Int32)), .val (.int v0), .val (.int v1), .val (.int v2), .val (.int v3), .val (.ref a), .val (.ref b46), .val (.int (0 : Int32)), .unset] [(.int (v1 ^^^ (1 : Int32))), (.int (1 : Int32)), (.ref a)])) target → Steps p.tables e below (T59.setTop (mkF m 137 #[.val (.int p0), .val (.int p1), .val (.int p2), .val (.int p3), .val (.int p4), .val (.int p5), .val (.int bd), .val (.int (1 : Int32)), .val (.int v0), .val (.int v1), .val (.int v2), .val (.int v3), .val (.ref a), .val (.ref b46), .val (.int (0 : Int32)), .unset] [])) target := by
        intro target kt
        refine XS.aload X59.here hx rfl (hb hby at_137) rfl rfl ?_
        show Steps p.tables e below (T59.setTop (mkF m 139 #[.val (.int p0), .val (.int p1), .val (.int p2), .val (.int p3), .val (.int p4), .val (.int p5), .val (.int bd), .val (.int (1 : Int32)), .val (.int v0), .val (.int v1), .val (.int v2), .val (.int v3), .val (.ref a), .val (.ref b46), .val (.int (0 : Int32)), .unset] [(.ref a)])) _
        refine XS.iconst X59.here hx rfl (hb hby at_139) ?_
        refine XS.iload X59.here hx rfl (hb hby at_140) rfl ?_
        refine XS.iconst X59.here hx rfl (hb hby at_142) ?_
        refine XS.ixor X59.here hx rfl (hb hby at_143) rfl ?_
        exact kt
      obtain ⟨cl61, Ar61, qc61, Sz61, Mn61, Hs61, Gs61⟩ := id V_a_59
      have hin61 : ¬ ((1 : Int32) < 0 ∨ cl61.slots.size ≤ ((1 : Int32)).toNatClampNeg) := inb_of Sz61 ⟨by decide, by decide⟩
      obtain ⟨T61, h61, X61, e61, W61, st61⟩ := stI X59 hx hZ e59 Ar61 (j := (1 : Int32)) hin61 (g := (mkF m 144 #[.val (.int p0), .val (.int p1), .val (.int p2), .val (.int p3), .val (.int p4), .val (.int p5), .val (.int bd), .val (.int (1 : Int32)), .val (.int v0), .val (.int v1), .val (.int v2), .val (.int v3), .val (.ref a), .val (.ref b46), .val (.int (0 : Int32)), .unset] [(.int (v1 ^^^ (1 : Int32))), (.int (1 : Int32)), (.ref a)])) rfl rfl (hb hby at_144)
      have V_a_61 : Arv Z h61 a k7 .int (4 : Int32) [(.int (v0 ^^^ (1 : Int32))), (.int (v1 ^^^ (1 : Int32))), (.int v2), (.int v3)] (.int (0 : Int32)) := Arv.set Ar61 qc61 Sz61 Mn61 Hs61 Gs61 rfl W61 1 rfl (Nat.le_of_ble_eq_true rfl)
      have Eb_61 := Eb_59.wr W61
      have Vy_61 := Vy_59.other W61 (Ne.symm ne_a_y)
      have Fb_61 := Fb_59.other W61 (Or.inl (Ne.symm ne_a_b46))
      have Fc_61 := Fc_59.other W61 (Or.inl (Ne.symm ne_a_b46))
      have Z_61 : n0 ≤ h61.size := Nat.le_trans Z_59 (Keep.of_wr W61).1
      have N61 := Fr.snoc X61 N59 g_a
      have st62 : ∀ target, Steps p.tables e below (T61.setTop (mkF m 152 #[.val (.int p0), .val (.int p1), .val (.int p2), .val (.int p3), .val (.int p4), .val (.int p5), .val (.int bd), .val (.int (1 : Int32)), .val (.int v0), .val (.int v1), .val (.int v2), .val (.int v3), .val (.ref a), .val (.ref b46), .val (.int (0 : Int32)), .unset] [(.int (v2 ^^^ (1 : Int32))), (.int (2 : Int32)), (.ref a)])) target → Steps p.tables e below (T61.setTop (mkF m 145 #[.val (.int p0), .val (.int p1), .val (.int p2), .val (.int p3), .val (.int p4), .val (.int p5), .val (.int bd), .val (.int (1 : Int32)), .val (.int v0), .val (.int v1), .val (.int v2), .val (.int v3), .val (.ref a), .val (.ref b46), .val (.int (0 : Int32)), .unset] [])) target := by
        intro target kt
        refine XS.aload X61.here hx rfl (hb hby at_145) rfl rfl ?_
        refine XS.iconst X61.here hx rfl (hb hby at_147) ?_
        refine XS.iload X61.here hx rfl (hb hby at_148) rfl ?_
        refine XS.iconst X61.here hx rfl (hb hby at_150) ?_
        show Steps p.tables e below (T61.setTop (mkF m 151 #[.val (.int p0), .val (.int p1), .val (.int p2), .val (.int p3), .val (.int p4), .val (.int p5), .val (.int bd), .val (.int (1 : Int32)), .val (.int v0), .val (.int v1), .val (.int v2), .val (.int v3), .val (.ref a), .val (.ref b46), .val (.int (0 : Int32)), .unset] [(.int (1 : Int32)), (.int v2), (.int (2 : Int32)), (.ref a)])) _
        refine XS.ixor X61.here hx rfl (hb hby at_151) rfl ?_
        exact kt
      obtain ⟨cl63, Ar63, qc63, Sz63, Mn63, Hs63, Gs63⟩ := id V_a_61
      have hin63 : ¬ ((2 : Int32) < 0 ∨ cl63.slots.size ≤ ((2 : Int32)).toNatClampNeg) := inb_of Sz63 ⟨by decide, by decide⟩
      obtain ⟨T63, h63, X63, e63, W63, st63⟩ := stI X61 hx hZ e61 Ar63 (j := (2 : Int32)) hin63 (g := (mkF m 152 #[.val (.int p0), .val (.int p1), .val (.int p2), .val (.int p3), .val (.int p4), .val (.int p5), .val (.int bd), .val (.int (1 : Int32)), .val (.int v0), .val (.int v1), .val (.int v2), .val (.int v3), .val (.ref a), .val (.ref b46), .val (.int (0 : Int32)), .unset] [(.int (v2 ^^^ (1 : Int32))), (.int (2 : Int32)), (.ref a)])) rfl rfl (hb hby at_152)
      have V_a_63 : Arv Z h63 a k7 .int (4 : Int32) [(.int (v0 ^^^ (1 : Int32))), (.int (v1 ^^^ (1 : Int32))), (.int (v2 ^^^ (1 : Int32))), (.int v3)] (.int (0 : Int32)) := Arv.set Ar63 qc63 Sz63 Mn63 Hs63 Gs63 rfl W63 2 rfl (Nat.le_of_ble_eq_true rfl)
      have Eb_63 := Eb_61.wr W63
      have Vy_63 := Vy_61.other W63 (Ne.symm ne_a_y)
      have Fb_63 := Fb_61.other W63 (Or.inl (Ne.symm ne_a_b46))
      have Fc_63 := Fc_61.other W63 (Or.inl (Ne.symm ne_a_b46))
      have Z_63 : n0 ≤ h63.size := Nat.le_trans Z_61 (Keep.of_wr W63).1
      have N63 := Fr.snoc X63 N61 g_a
      have st64 : ∀ target, Steps p.tables e below (T63.setTop (mkF m 160 #[.val (.int p0), .val (.int p1), .val (.int p2), .val (.int p3), .val (.int p4), .val (.int p5), .val (.int bd), .val (.int (1 : Int32)), .val (.int v0), .val (.int v1), .val (.int v2), .val (.int v3), .val (.ref a), .val (.ref b46), .val (.int (0 : Int32)), .unset] [(.int (v3 ^^^ (1 : Int32))), (.int (3 : Int32)), (.ref a)])) target → Steps p.tables e below (T63.setTop (mkF m 153 #[.val (.int p0), .val (.int p1), .val (.int p2), .val (.int p3), .val (.int p4), .val (.int p5), .val (.int bd), .val (.int (1 : Int32)), .val (.int v0), .val (.int v1), .val (.int v2), .val (.int v3), .val (.ref a), .val (.ref b46), .val (.int (0 : Int32)), .unset] [])) target := by
        intro target kt
        refine XS.aload X63.here hx rfl (hb hby at_153) rfl rfl ?_
        refine XS.iconst X63.here hx rfl (hb hby at_155) ?_
        refine XS.iload X63.here hx rfl (hb hby at_156) rfl ?_
        refine XS.iconst X63.here hx rfl (hb hby at_158) ?_
        refine XS.ixor X63.here hx rfl (hb hby at_159) rfl ?_
        exact kt
      obtain ⟨cl65, Ar65, qc65, Sz65, Mn65, Hs65, Gs65⟩ := id V_a_63
      have hin65 : ¬ ((3 : Int32) < 0 ∨ cl65.slots.size ≤ ((3 : Int32)).toNatClampNeg) := inb_of Sz65 ⟨by decide, by decide⟩
      obtain ⟨T65, h65, X65, e65, W65, st65⟩ := stI X63 hx hZ e63 Ar65 (j := (3 : Int32)) hin65 (g := (mkF m 160 #[.val (.int p0), .val (.int p1), .val (.int p2), .val (.int p3), .val (.int p4), .val (.int p5), .val (.int bd), .val (.int (1 : Int32)), .val (.int v0), .val (.int v1), .val (.int v2), .val (.int v3), .val (.ref a), .val (.ref b46), .val (.int (0 : Int32)), .unset] [(.int (v3 ^^^ (1 : Int32))), (.int (3 : Int32)), (.ref a)])) rfl rfl (hb hby at_160)
      have V_a_65 : Arv Z h65 a k7 .int (4 : Int32) [(.int (v0 ^^^ (1 : Int32))), (.int (v1 ^^^ (1 : Int32))), (.int (v2 ^^^ (1 : Int32))), (.int (v3 ^^^ (1 : Int32)))] (.int (0 : Int32)) := Arv.set Ar65 qc65 Sz65 Mn65 Hs65 Gs65 rfl W65 3 rfl (Nat.le_of_ble_eq_true rfl)
      have Eb_65 := Eb_63.wr W65
      have Vy_65 := Vy_63.other W65 (Ne.symm ne_a_y)
      have Fb_65 := Fb_63.other W65 (Or.inl (Ne.symm ne_a_b46))
      have Fc_65 := Fc_63.other W65 (Or.inl (Ne.symm ne_a_b46))
      have Z_65 : n0 ≤ h65.size := Nat.le_trans Z_63 (Keep.of_wr W65).1
      have N65 := Fr.snoc X65 N63 g_a
      have st66 : ∀ target, Steps p.tables e below (T65.setTop (mkF m 177 #[.val (.int p0), .val (.int p1), .val (.int p2), .val (.int p3), .val (.int p4), .val (.int p5), .val (.int bd), .val (.int (1 : Int32)), .val (.int v0), .val (.int v1), .val (.int v2), .val (.int v3), .val (.ref a), .val (.ref b46), .val (.int (0 : Int32)), .val (.int (1 : Int32))] [(.int (0 : Int32)), (.ref b46)])) target → Steps p.tables e below (T65.setTop (mkF m 161 #[.val (.int p0), .val (.int p1), .val (.int p2), .val (.int p3), .val (.int p4), .val (.int p5), .val (.int bd), .val (.int (1 : Int32)), .val (.int v0), .val (.int v1), .val (.int v2), .val (.int v3), .val (.ref a), .val (.ref b46), .val (.int (0 : Int32)), .unset] [])) target := by
        intro target kt
        refine XS.iconst X65.here hx rfl (hb hby at_161) ?_
        refine XS.istore X65.here hx rfl (hb hby at_162) rfl (l' := #[.val (.int p0), .val (.int p1), .val (.int p2), .val (.int p3), .val (.int p4), .val (.int p5), .val (.int bd), .val (.int (1 : Int32)), .val (.int v0), .val (.int v1), .val (.int v2), .val (.int v3), .val (.ref a), .val (.ref b46), .val (.int (0 : Int32)), .val (.int (1 : Int32))]) rfl ?_
        show Steps p.tables e below (T65.setTop (mkF m 164 #[.val (.int p0), .val (.int p1), .val (.int p2), .val (.int p3), .val (.int p4), .val (.int p5), .val (.int bd), .val (.int (1 : Int32)), .val (.int v0), .val (.int v1), .val (.int v2), .val (.int v3), .val (.ref a), .val (.ref b46), .val (.int (0 : Int32)), .val (.int (1 : Int32))] [])) _
        refine XS.iload X65.here hx rfl (hb hby at_164) rfl ?_
        refine XS.ifNo X65.here hx rfl (hb hby at_166) rfl ((if0 _ _).trans (tlt (by decide : ((0 : Int32) < (1 : Int32)))).2.2.2) ?_
        refine XS.iload X65.here hx rfl (hb hby at_169) rfl ?_
        refine XS.ifNo X65.here hx rfl (hb hby at_171) rfl ((if0 _ _).trans (feq (by decide : ¬ ((1 : Int32) = (0 : Int32)))).1) ?_
        refine XS.aload X65.here hx rfl (hb hby at_174) rfl rfl ?_
        refine XS.iconst X65.here hx rfl (hb hby at_176) ?_
        exact kt
      obtain ⟨cl67, Ar67, qc67, Sz67, Mn67, Hs67, Gs67⟩ := id Vy_65
      have hin67 : ¬ ((0 : Int32) < 0 ∨ cl67.slots.size ≤ ((0 : Int32)).toNatClampNeg) := inb_of Sz67 ⟨by decide, by decide⟩
      obtain ⟨cq68, kq68, qv68a, qv68b, qv68c⟩ := isOf hZ e65 Eb_65
      obtain ⟨_, _, ⟨T68, L68, k68, n68⟩, -, X68, ⟨Lc68, hQ68, l68, y68, z68⟩, st68⟩ := X65.virtualBack hx (y := (⟨"com/example/libbisim/libbisim/CompactInts", "get", "(I)I"⟩ : MethodName)) (z := (⟨"com/example/libbisim/libbisim/CompactInts", "get", "(I)I"⟩ : MethodName)) hown (mvT hZ (hw _ (List.mem_of_getElem? (i := 38) rfl))) (mvT hZ (hw _ (List.mem_of_getElem? (i := 39) rfl))) (notFace_of_selects (args := #[]) (mvT hZ (hw _ (List.mem_of_getElem? (i := 41) rfl)))) (mvT hZ (hw _ (List.mem_of_getElem? (i := 41) rfl))) (mvT hZ (hw _ (List.mem_of_getElem? (i := 40) rfl))) (by decide) (backOf (W := 0) (rmGC l Z a0 hw [] b46 (0 : Int32) y cl67 (nar .char (v0.toUInt32.toUInt16.toUInt32.toInt32)) h65 n0 Z_65 Fb_65 Fc_65 Ar67 hin67 (Hs67.at hin67 rfl)) hZ (hw _ (List.mem_of_getElem? (i := 42) rfl)) (hw _ (List.mem_of_getElem? (i := 8) rfl)) (by decide) (by decide)) qv68a qv68c (g := (mkF m 177 #[.val (.int p0), .val (.int p1), .val (.int p2), .val (.int p3), .val (.int p4), .val (.int p5), .val (.int bd), .val (.int (1 : Int32)), .val (.int v0), .val (.int v1), .val (.int v2), .val (.int v3), .val (.ref a), .val (.ref b46), .val (.int (0 : Int32)), .val (.int (1 : Int32))] [(.int (0 : Int32)), (.ref b46)])) rfl (by rw [hml]; rfl) (Steps.refl _) (argsL := [(.int (0 : Int32))]) (rest := []) (lenOf pd_6 rfl) rfl (by show 2 * 0 + _ ≤ _; exact Nat.le_of_eq rfl) (hb hby at_177) (fun _ _ => ⟨rfl, e65, (by decide : 3 + 0 ≤ _), (by decide : 8 + 0 ≤ _)⟩)
      dsimp only [Pt.U, Pt.locs, Pt.cells, Pt.slots] at X68 l68 y68 z68 st68 hQ68
      subst l68 y68 z68
      obtain ⟨rfl, Nq68, e68⟩ := hQ68
      have N68 := Fr.app N65 Nq68
      rw [own_c16 R0.1 (by omega)] at st68
      obtain ⟨fs, hr, hrun, hended, hW, hsame⟩ := X68.leave (v := some (.int (1 : Int32))) (fun h => by rw [Bd.returns] at h; cases h)
      refine ⟨_, _, pre0 _ (st1 _ (st2 _ (st3 _ (st4 _ (st5 _ (st6 _ (st7 _ (st8 _ (st9 _ (st10 _ (st11 _ (st12 _ (st13 _ (st14 _ (st15 _ (st45 _ (st46 _ (st58 _ (st59 _ (st60 _ (st61 _ (st62 _ (st63 _ (st64 _ (st65 _ (st66 _ (st68.trans ?_))))))))))))))))))))))))))), hrun, hended, _, _, rfl, ?_, ⟨_, rfl⟩, hW, hsame.mono (by decide) (by decide)⟩
      · refine XS.iload X68.here hx rfl (hb hby at_180) rfl ?_
        refine XS.icmpNo X68.here hx rfl (hb hby at_182) rfl (teq (rfl : v0 = v0)).2 ?_
        show Steps p.tables e below (T68.setTop (mkF m 185 #[.val (.int p0), .val (.int p1), .val (.int p2), .val (.int p3), .val (.int p4), .val (.int p5), .val (.int bd), .val (.int (1 : Int32)), .val (.int v0), .val (.int v1), .val (.int v2), .val (.int v3), .val (.ref a), .val (.ref b46), .val (.int (0 : Int32)), .val (.int (1 : Int32))] [])) _
        refine XS.iconst X68.here hx rfl (hb hby at_185) ?_
        refine XS.goto X68.here hx rfl (pc0 := 186) (pc' := 190) rfl (hb hby at_186) (by decide) (by decide) ?_
        refine XS.istore X68.here hx rfl (hb hby at_190) rfl (l' := #[.val (.int p0), .val (.int p1), .val (.int p2), .val (.int p3), .val (.int p4), .val (.int p5), .val (.int bd), .val (.int (1 : Int32)), .val (.int v0), .val (.int v1), .val (.int v2), .val (.int v3), .val (.ref a), .val (.ref b46), .val (.int (0 : Int32)), .val (.int (1 : Int32))]) rfl ?_
        refine XS.iload X68.here hx rfl (hb hby at_192) rfl ?_
        refine XS.iconst X68.here hx rfl (hb hby at_194) ?_
        refine XS.icmpYes X68.here hx rfl (pc0 := 195) (pc' := 221) rfl (hb hby at_195) rfl (flt (by decide : ¬ ((1 : Int32) < (1 : Int32)))).2.2.2 (by decide) (by decide) ?_
        refine XS.iload X68.here hx rfl (hb hby at_221) rfl ?_
        refine XS.iconst X68.here hx rfl (hb hby at_223) ?_
        show Steps p.tables e below (T68.setTop (mkF m 224 #[.val (.int p0), .val (.int p1), .val (.int p2), .val (.int p3), .val (.int p4), .val (.int p5), .val (.int bd), .val (.int (1 : Int32)), .val (.int v0), .val (.int v1), .val (.int v2), .val (.int v3), .val (.ref a), .val (.ref b46), .val (.int (0 : Int32)), .val (.int (1 : Int32))] [(.int (2 : Int32)), (.int (1 : Int32))])) _
        refine XS.icmpYes X68.here hx rfl (pc0 := 224) (pc' := 250) rfl (hb hby at_224) rfl (flt (by decide : ¬ ((2 : Int32) < (1 : Int32)))).2.2.2 (by decide) (by decide) ?_
        refine XS.iload X68.here hx rfl (hb hby at_250) rfl ?_
        refine XS.iconst X68.here hx rfl (hb hby at_252) ?_
        refine XS.icmpYes X68.here hx rfl (pc0 := 253) (pc' := 279) rfl (hb hby at_253) rfl (flt (by decide : ¬ ((3 : Int32) < (1 : Int32)))).2.2.2 (by decide) (by decide) ?_
        refine XS.iload X68.here hx rfl (hb hby at_279) rfl ?_
        show Steps p.tables e below (T68.setTop (mkF m 281 #[.val (.int p0), .val (.int p1), .val (.int p2), .val (.int p3), .val (.int p4), .val (.int p5), .val (.int bd), .val (.int (1 : Int32)), .val (.int v0), .val (.int v1), .val (.int v2), .val (.int v3), .val (.ref a), .val (.ref b46), .val (.int (0 : Int32)), .val (.int (1 : Int32))] [(.int (1 : Int32))])) _
        exact retN X68 hx (t := .boolean) Bd.returns (by simp) (hb hby at_281) hr
      · show Q_rm0 Z p0 p1 p2 p3 p4 p5 h0 n0 _ T68.heap _
        rw [e68]
        exact ⟨rfl, N68⟩
    · have ne_a_y : a ≠ y := Nat.ne_of_lt (Nat.lt_of_lt_of_le (V_a_15).lt szy)
      have hle : bd.toInt ≤ 2147483647 := by have := Int32.toInt_lt bd; omega
      have st69 : ∀ target, Steps p.tables e below (T46.setTop (mkF m 136 #[.val (.int p0), .val (.int p1), .val (.int p2), .val (.int p3), .val (.int p4), .val (.int p5), .val (.int bd), .val (.int (1 : Int32)), .val (.int v0), .val (.int v1), .val (.int v2), .val (.int v3), .val (.ref a), .val (.ref b46), .val (.int (0 : Int32)), .unset] [(.int (v0 ^^^ (1 : Int32))), (.int (0 : Int32)), (.ref a)])) target → Steps p.tables e below (T46.setTop (mkF m 102 #[.val (.int p0), .val (.int p1), .val (.int p2), .val (.int p3), .val (.int p4), .val (.int p5), .val (.int bd), .val (.int (1 : Int32)), .val (.int v0), .val (.int v1), .val (.int v2), .val (.int v3), .val (.ref a), .unset, .unset, .unset] [(.ref b46)])) target := by
        intro target kt
        refine XS.astore X46.here hx rfl (hb hby at_102) rfl rfl (l' := #[.val (.int p0), .val (.int p1), .val (.int p2), .val (.int p3), .val (.int p4), .val (.int p5), .val (.int bd), .val (.int (1 : Int32)), .val (.int v0), .val (.int v1), .val (.int v2), .val (.int v3), .val (.ref a), .val (.ref b46), .unset, .unset]) rfl ?_
        refine XS.iload X46.here hx rfl (hb hby at_104) rfl ?_
        refine X46.ldcInt hx hown (mvT hZ (hw _ (List.mem_of_getElem? (i := 25) rfl))) (g := (mkF m 106 #[.val (.int p0), .val (.int p1), .val (.int p2), .val (.int p3), .val (.int p4), .val (.int p5), .val (.int bd), .val (.int (1 : Int32)), .val (.int v0), .val (.int v1), .val (.int v2), .val (.int v3), .val (.ref a), .val (.ref b46), .unset, .unset] [(.int bd)])) rfl (hb hby at_106) _ ?_
        show Steps p.tables e below (T46.setTop (mkF m 108 #[.val (.int p0), .val (.int p1), .val (.int p2), .val (.int p3), .val (.int p4), .val (.int p5), .val (.int bd), .val (.int (1 : Int32)), .val (.int v0), .val (.int v1), .val (.int v2), .val (.int v3), .val (.ref a), .val (.ref b46), .unset, .unset] [(.int (65536 : Int32)), (.int bd)])) _
        refine XS.icmpNo X46.here hx rfl (hb hby at_108) rfl (tlt q1).2.2.2 ?_
        refine XS.iload X46.here hx rfl (hb hby at_111) rfl ?_
        refine XS.iconst X46.here hx rfl (hb hby at_113) ?_
        refine XS.icmpYes X46.here hx rfl (pc0 := 114) (pc' := 121) rfl (hb hby at_114) rfl (feq (by decide : ¬ ((1 : Int32) = (4 : Int32)))).2 (by decide) (by decide) ?_
        refine XS.iconst X46.here hx rfl (hb hby at_121) ?_
        refine XS.istore X46.here hx rfl (hb hby at_122) rfl (l' := #[.val (.int p0), .val (.int p1), .val (.int p2), .val (.int p3), .val (.int p4), .val (.int p5), .val (.int bd), .val (.int (1 : Int32)), .val (.int v0), .val (.int v1), .val (.int v2), .val (.int v3), .val (.ref a), .val (.ref b46), .val (.int (0 : Int32)), .unset]) rfl ?_
        refine XS.iload X46.here hx rfl (hb hby at_124) rfl ?_
        refine XS.ifNo X46.here hx rfl (hb hby at_126) rfl ((if0 _ _).trans (teq (rfl : (0 : Int32) = (0 : Int32))).2) ?_
        show Steps p.tables e below (T46.setTop (mkF m 129 #[.val (.int p0), .val (.int p1), .val (.int p2), .val (.int p3), .val (.int p4), .val (.int p5), .val (.int bd), .val (.int (1 : Int32)), .val (.int v0), .val (.int v1), .val (.int v2), .val (.int v3), .val (.ref a), .val (.ref b46), .val (.int (0 : Int32)), .unset] [])) _
        refine XS.aload X46.here hx rfl (hb hby at_129) rfl rfl ?_
        refine XS.iconst X46.here hx rfl (hb hby at_131) ?_
        refine XS.iload X46.here hx rfl (hb hby at_132) rfl ?_
        refine XS.iconst X46.here hx rfl (hb hby at_134) ?_
        refine XS.ixor X46.here hx rfl (hb hby at_135) rfl ?_
        exact kt
      obtain ⟨cl70, Ar70, qc70, Sz70, Mn70, Hs70, Gs70⟩ := id V_a_46
      have hin70 : ¬ ((0 : Int32) < 0 ∨ cl70.slots.size ≤ ((0 : Int32)).toNatClampNeg) := inb_of Sz70 ⟨by decide, by decide⟩
      obtain ⟨T70, h70, X70, e70, W70, st70⟩ := stI X46 hx hZ rfl Ar70 (j := (0 : Int32)) hin70 (g := (mkF m 136 #[.val (.int p0), .val (.int p1), .val (.int p2), .val (.int p3), .val (.int p4), .val (.int p5), .val (.int bd), .val (.int (1 : Int32)), .val (.int v0), .val (.int v1), .val (.int v2), .val (.int v3), .val (.ref a), .val (.ref b46), .val (.int (0 : Int32)), .unset] [(.int (v0 ^^^ (1 : Int32))), (.int (0 : Int32)), (.ref a)])) rfl rfl (hb hby at_136)
      have V_a_70 : Arv Z h70 a k7 .int (4 : Int32) [(.int (v0 ^^^ (1 : Int32))), (.int v1), (.int v2), (.int v3)] (.int (0 : Int32)) := Arv.set Ar70 qc70 Sz70 Mn70 Hs70 Gs70 rfl W70 0 rfl (Nat.le_of_ble_eq_true rfl)
      have Eb_70 := Eb.wr W70
      have Vy_70 := Vy.other W70 (Ne.symm ne_a_y)
      have Fb_70 := Fb.other W70 (Or.inl (Ne.symm ne_a_b46))
      have Fc_70 := Fc.other W70 (Or.inl (Ne.symm ne_a_b46))
      have Fi_70 := Fi.other W70 (Or.inl (Ne.symm ne_a_b46))
      have Z_70 : n0 ≤ h70.size := Nat.le_trans Z_46 (Keep.of_wr W70).1
      have N70 := Fr.snoc X70 N46 g_a
      have st71 : ∀ target, Steps p.tables e below (T70.setTop (mkF m 144 #[.val (.int p0), .val (.int p1), .val (.int p2), .val (.int p3), .val (.int p4), .val (.int p5), .val (.int bd), .val (.int (1 : Int32)), .val (.int v0), .val (.int v1), .val (.int v2), .val (.int v3), .val (.ref a), .val (.ref b46), .val (.int (0 : Int32)), .unset] [(.int (v1 ^^^ (1 : Int32))), (.int (1 : Int32)), (.ref a)])) target → Steps p.tables e below (T70.setTop (mkF m 137 #[.val (.int p0), .val (.int p1), .val (.int p2), .val (.int p3), .val (.int p4), .val (.int p5), .val (.int bd), .val (.int (1 : Int32)), .val (.int v0), .val (.int v1), .val (.int v2), .val (.int v3), .val (.ref a), .val (.ref b46), .val (.int (0 : Int32)), .unset] [])) target := by
        intro target kt
        refine XS.aload X70.here hx rfl (hb hby at_137) rfl rfl ?_
        refine XS.iconst X70.here hx rfl (hb hby at_139) ?_
        refine XS.iload X70.here hx rfl (hb hby at_140) rfl ?_
        show Steps p.tables e below (T70.setTop (mkF m 142 #[.val (.int p0), .val (.int p1), .val (.int p2), .val (.int p3), .val (.int p4), .val (.int p5), .val (.int bd), .val (.int (1 : Int32)), .val (.int v0), .val (.int v1), .val (.int v2), .val (.int v3), .val (.ref a), .val (.ref b46), .val (.int (0 : Int32)), .unset] [(.int v1), (.int (1 : Int32)), (.ref a)])) _
        refine XS.iconst X70.here hx rfl (hb hby at_142) ?_
        refine XS.ixor X70.here hx rfl (hb hby at_143) rfl ?_
        exact kt
      obtain ⟨cl72, Ar72, qc72, Sz72, Mn72, Hs72, Gs72⟩ := id V_a_70
      have hin72 : ¬ ((1 : Int32) < 0 ∨ cl72.slots.size ≤ ((1 : Int32)).toNatClampNeg) := inb_of Sz72 ⟨by decide, by decide⟩
      obtain ⟨T72, h72, X72, e72, W72, st72⟩ := stI X70 hx hZ e70 Ar72 (j := (1 : Int32)) hin72 (g := (mkF m 144 #[.val (.int p0), .val (.int p1), .val (.int p2), .val (.int p3), .val (.int p4), .val (.int p5), .val (.int bd), .val (.int (1 : Int32)), .val (.int v0), .val (.int v1), .val (.int v2), .val (.int v3), .val (.ref a), .val (.ref b46), .val (.int (0 : Int32)), .unset] [(.int (v1 ^^^ (1 : Int32))), (.int (1 : Int32)), (.ref a)])) rfl rfl (hb hby at_144)
      have V_a_72 : Arv Z h72 a k7 .int (4 : Int32) [(.int (v0 ^^^ (1 : Int32))), (.int (v1 ^^^ (1 : Int32))), (.int v2), (.int v3)] (.int (0 : Int32)) := Arv.set Ar72 qc72 Sz72 Mn72 Hs72 Gs72 rfl W72 1 rfl (Nat.le_of_ble_eq_true rfl)
      have Eb_72 := Eb_70.wr W72
      have Vy_72 := Vy_70.other W72 (Ne.symm ne_a_y)
      have Fb_72 := Fb_70.other W72 (Or.inl (Ne.symm ne_a_b46))
      have Fc_72 := Fc_70.other W72 (Or.inl (Ne.symm ne_a_b46))
      have Fi_72 := Fi_70.other W72 (Or.inl (Ne.symm ne_a_b46))
      have Z_72 : n0 ≤ h72.size := Nat.le_trans Z_70 (Keep.of_wr W72).1
      have N72 := Fr.snoc X72 N70 g_a
      have st73 : ∀ target, Steps p.tables e below (T72.setTop (mkF m 152 #[.val (.int p0), .val (.int p1), .val (.int p2), .val (.int p3), .val (.int p4), .val (.int p5), .val (.int bd), .val (.int (1 : Int32)), .val (.int v0), .val (.int v1), .val (.int v2), .val (.int v3), .val (.ref a), .val (.ref b46), .val (.int (0 : Int32)), .unset] [(.int (v2 ^^^ (1 : Int32))), (.int (2 : Int32)), (.ref a)])) target → Steps p.tables e below (T72.setTop (mkF m 145 #[.val (.int p0), .val (.int p1), .val (.int p2), .val (.int p3), .val (.int p4), .val (.int p5), .val (.int bd), .val (.int (1 : Int32)), .val (.int v0), .val (.int v1), .val (.int v2), .val (.int v3), .val (.ref a), .val (.ref b46), .val (.int (0 : Int32)), .unset] [])) target := by
        intro target kt
        refine XS.aload X72.here hx rfl (hb hby at_145) rfl rfl ?_
        refine XS.iconst X72.here hx rfl (hb hby at_147) ?_
        refine XS.iload X72.here hx rfl (hb hby at_148) rfl ?_
        refine XS.iconst X72.here hx rfl (hb hby at_150) ?_
        refine XS.ixor X72.here hx rfl (hb hby at_151) rfl ?_
        exact kt
      obtain ⟨cl74, Ar74, qc74, Sz74, Mn74, Hs74, Gs74⟩ := id V_a_72
      have hin74 : ¬ ((2 : Int32) < 0 ∨ cl74.slots.size ≤ ((2 : Int32)).toNatClampNeg) := inb_of Sz74 ⟨by decide, by decide⟩
      obtain ⟨T74, h74, X74, e74, W74, st74⟩ := stI X72 hx hZ e72 Ar74 (j := (2 : Int32)) hin74 (g := (mkF m 152 #[.val (.int p0), .val (.int p1), .val (.int p2), .val (.int p3), .val (.int p4), .val (.int p5), .val (.int bd), .val (.int (1 : Int32)), .val (.int v0), .val (.int v1), .val (.int v2), .val (.int v3), .val (.ref a), .val (.ref b46), .val (.int (0 : Int32)), .unset] [(.int (v2 ^^^ (1 : Int32))), (.int (2 : Int32)), (.ref a)])) rfl rfl (hb hby at_152)
      have V_a_74 : Arv Z h74 a k7 .int (4 : Int32) [(.int (v0 ^^^ (1 : Int32))), (.int (v1 ^^^ (1 : Int32))), (.int (v2 ^^^ (1 : Int32))), (.int v3)] (.int (0 : Int32)) := Arv.set Ar74 qc74 Sz74 Mn74 Hs74 Gs74 rfl W74 2 rfl (Nat.le_of_ble_eq_true rfl)
      have Eb_74 := Eb_72.wr W74
      have Vy_74 := Vy_72.other W74 (Ne.symm ne_a_y)
      have Fb_74 := Fb_72.other W74 (Or.inl (Ne.symm ne_a_b46))
      have Fc_74 := Fc_72.other W74 (Or.inl (Ne.symm ne_a_b46))
      have Fi_74 := Fi_72.other W74 (Or.inl (Ne.symm ne_a_b46))
      have Z_74 : n0 ≤ h74.size := Nat.le_trans Z_72 (Keep.of_wr W74).1
      have N74 := Fr.snoc X74 N72 g_a
      have st75 : ∀ target, Steps p.tables e below (T74.setTop (mkF m 160 #[.val (.int p0), .val (.int p1), .val (.int p2), .val (.int p3), .val (.int p4), .val (.int p5), .val (.int bd), .val (.int (1 : Int32)), .val (.int v0), .val (.int v1), .val (.int v2), .val (.int v3), .val (.ref a), .val (.ref b46), .val (.int (0 : Int32)), .unset] [(.int (v3 ^^^ (1 : Int32))), (.int (3 : Int32)), (.ref a)])) target → Steps p.tables e below (T74.setTop (mkF m 153 #[.val (.int p0), .val (.int p1), .val (.int p2), .val (.int p3), .val (.int p4), .val (.int p5), .val (.int bd), .val (.int (1 : Int32)), .val (.int v0), .val (.int v1), .val (.int v2), .val (.int v3), .val (.ref a), .val (.ref b46), .val (.int (0 : Int32)), .unset] [])) target := by
        intro target kt
        refine XS.aload X74.here hx rfl (hb hby at_153) rfl rfl ?_
        show Steps p.tables e below (T74.setTop (mkF m 155 #[.val (.int p0), .val (.int p1), .val (.int p2), .val (.int p3), .val (.int p4), .val (.int p5), .val (.int bd), .val (.int (1 : Int32)), .val (.int v0), .val (.int v1), .val (.int v2), .val (.int v3), .val (.ref a), .val (.ref b46), .val (.int (0 : Int32)), .unset] [(.ref a)])) _
        refine XS.iconst X74.here hx rfl (hb hby at_155) ?_
        refine XS.iload X74.here hx rfl (hb hby at_156) rfl ?_
        refine XS.iconst X74.here hx rfl (hb hby at_158) ?_
        refine XS.ixor X74.here hx rfl (hb hby at_159) rfl ?_
        exact kt
      obtain ⟨cl76, Ar76, qc76, Sz76, Mn76, Hs76, Gs76⟩ := id V_a_74
      have hin76 : ¬ ((3 : Int32) < 0 ∨ cl76.slots.size ≤ ((3 : Int32)).toNatClampNeg) := inb_of Sz76 ⟨by decide, by decide⟩
      obtain ⟨T76, h76, X76, e76, W76, st76⟩ := stI X74 hx hZ e74 Ar76 (j := (3 : Int32)) hin76 (g := (mkF m 160 #[.val (.int p0), .val (.int p1), .val (.int p2), .val (.int p3), .val (.int p4), .val (.int p5), .val (.int bd), .val (.int (1 : Int32)), .val (.int v0), .val (.int v1), .val (.int v2), .val (.int v3), .val (.ref a), .val (.ref b46), .val (.int (0 : Int32)), .unset] [(.int (v3 ^^^ (1 : Int32))), (.int (3 : Int32)), (.ref a)])) rfl rfl (hb hby at_160)
      have V_a_76 : Arv Z h76 a k7 .int (4 : Int32) [(.int (v0 ^^^ (1 : Int32))), (.int (v1 ^^^ (1 : Int32))), (.int (v2 ^^^ (1 : Int32))), (.int (v3 ^^^ (1 : Int32)))] (.int (0 : Int32)) := Arv.set Ar76 qc76 Sz76 Mn76 Hs76 Gs76 rfl W76 3 rfl (Nat.le_of_ble_eq_true rfl)
      have Eb_76 := Eb_74.wr W76
      have Vy_76 := Vy_74.other W76 (Ne.symm ne_a_y)
      have Fb_76 := Fb_74.other W76 (Or.inl (Ne.symm ne_a_b46))
      have Fc_76 := Fc_74.other W76 (Or.inl (Ne.symm ne_a_b46))
      have Fi_76 := Fi_74.other W76 (Or.inl (Ne.symm ne_a_b46))
      have Z_76 : n0 ≤ h76.size := Nat.le_trans Z_74 (Keep.of_wr W76).1
      have N76 := Fr.snoc X76 N74 g_a
      have st77 : ∀ target, Steps p.tables e below (T76.setTop (mkF m 177 #[.val (.int p0), .val (.int p1), .val (.int p2), .val (.int p3), .val (.int p4), .val (.int p5), .val (.int bd), .val (.int (1 : Int32)), .val (.int v0), .val (.int v1), .val (.int v2), .val (.int v3), .val (.ref a), .val (.ref b46), .val (.int (0 : Int32)), .val (.int (1 : Int32))] [(.int (0 : Int32)), (.ref b46)])) target → Steps p.tables e below (T76.setTop (mkF m 161 #[.val (.int p0), .val (.int p1), .val (.int p2), .val (.int p3), .val (.int p4), .val (.int p5), .val (.int bd), .val (.int (1 : Int32)), .val (.int v0), .val (.int v1), .val (.int v2), .val (.int v3), .val (.ref a), .val (.ref b46), .val (.int (0 : Int32)), .unset] [])) target := by
        intro target kt
        refine XS.iconst X76.here hx rfl (hb hby at_161) ?_
        refine XS.istore X76.here hx rfl (hb hby at_162) rfl (l' := #[.val (.int p0), .val (.int p1), .val (.int p2), .val (.int p3), .val (.int p4), .val (.int p5), .val (.int bd), .val (.int (1 : Int32)), .val (.int v0), .val (.int v1), .val (.int v2), .val (.int v3), .val (.ref a), .val (.ref b46), .val (.int (0 : Int32)), .val (.int (1 : Int32))]) rfl ?_
        refine XS.iload X76.here hx rfl (hb hby at_164) rfl ?_
        refine XS.ifNo X76.here hx rfl (hb hby at_166) rfl ((if0 _ _).trans (tlt (by decide : ((0 : Int32) < (1 : Int32)))).2.2.2) ?_
        show Steps p.tables e below (T76.setTop (mkF m 169 #[.val (.int p0), .val (.int p1), .val (.int p2), .val (.int p3), .val (.int p4), .val (.int p5), .val (.int bd), .val (.int (1 : Int32)), .val (.int v0), .val (.int v1), .val (.int v2), .val (.int v3), .val (.ref a), .val (.ref b46), .val (.int (0 : Int32)), .val (.int (1 : Int32))] [])) _
        refine XS.iload X76.here hx rfl (hb hby at_169) rfl ?_
        refine XS.ifNo X76.here hx rfl (hb hby at_171) rfl ((if0 _ _).trans (feq (by decide : ¬ ((1 : Int32) = (0 : Int32)))).1) ?_
        refine XS.aload X76.here hx rfl (hb hby at_174) rfl rfl ?_
        refine XS.iconst X76.here hx rfl (hb hby at_176) ?_
        exact kt
      obtain ⟨cl78, Ar78, qc78, Sz78, Mn78, Hs78, Gs78⟩ := id Vy_76
      have hin78 : ¬ ((0 : Int32) < 0 ∨ cl78.slots.size ≤ ((0 : Int32)).toNatClampNeg) := inb_of Sz78 ⟨by decide, by decide⟩
      obtain ⟨cq79, kq79, qv79a, qv79b, qv79c⟩ := isOf hZ e76 Eb_76
      obtain ⟨_, _, ⟨T79, L79, k79, n79⟩, -, X79, ⟨Lc79, hQ79, l79, y79, z79⟩, st79⟩ := X76.virtualBack hx (y := (⟨"com/example/libbisim/libbisim/CompactInts", "get", "(I)I"⟩ : MethodName)) (z := (⟨"com/example/libbisim/libbisim/CompactInts", "get", "(I)I"⟩ : MethodName)) hown (mvT hZ (hw _ (List.mem_of_getElem? (i := 38) rfl))) (mvT hZ (hw _ (List.mem_of_getElem? (i := 39) rfl))) (notFace_of_selects (args := #[]) (mvT hZ (hw _ (List.mem_of_getElem? (i := 41) rfl)))) (mvT hZ (hw _ (List.mem_of_getElem? (i := 41) rfl))) (mvT hZ (hw _ (List.mem_of_getElem? (i := 40) rfl))) (by decide) (backOf (W := 0) (rmGI l Z a0 hw [] b46 (0 : Int32) y cl78 v0 h76 n0 Z_76 Fb_76 Fc_76 Fi_76 Ar78 hin78 (Hs78.at hin78 rfl)) hZ (hw _ (List.mem_of_getElem? (i := 42) rfl)) (hw _ (List.mem_of_getElem? (i := 8) rfl)) (by decide) (by decide)) qv79a qv79c (g := (mkF m 177 #[.val (.int p0), .val (.int p1), .val (.int p2), .val (.int p3), .val (.int p4), .val (.int p5), .val (.int bd), .val (.int (1 : Int32)), .val (.int v0), .val (.int v1), .val (.int v2), .val (.int v3), .val (.ref a), .val (.ref b46), .val (.int (0 : Int32)), .val (.int (1 : Int32))] [(.int (0 : Int32)), (.ref b46)])) rfl (by rw [hml]; rfl) (Steps.refl _) (argsL := [(.int (0 : Int32))]) (rest := []) (lenOf pd_6 rfl) rfl (by show 2 * 0 + _ ≤ _; exact Nat.le_of_eq rfl) (hb hby at_177) (fun _ _ => ⟨rfl, e76, (by decide : 3 + 0 ≤ _), (by decide : 8 + 0 ≤ _)⟩)
      dsimp only [Pt.U, Pt.locs, Pt.cells, Pt.slots] at X79 l79 y79 z79 st79 hQ79
      subst l79 y79 z79
      obtain ⟨rfl, Nq79, e79⟩ := hQ79
      have N79 := Fr.app N76 Nq79
      obtain ⟨fs, hr, hrun, hended, hW, hsame⟩ := X79.leave (v := some (.int (1 : Int32))) (fun h => by rw [Bd.returns] at h; cases h)
      refine ⟨_, _, pre0 _ (st1 _ (st2 _ (st3 _ (st4 _ (st5 _ (st6 _ (st7 _ (st8 _ (st9 _ (st10 _ (st11 _ (st12 _ (st13 _ (st14 _ (st15 _ (st45 _ (st46 _ (st69 _ (st70 _ (st71 _ (st72 _ (st73 _ (st74 _ (st75 _ (st76 _ (st77 _ (st79.trans ?_))))))))))))))))))))))))))), hrun, hended, _, _, rfl, ?_, ⟨_, rfl⟩, hW, hsame.mono (by decide) (by decide)⟩
      · refine XS.iload X79.here hx rfl (hb hby at_180) rfl ?_
        refine XS.icmpNo X79.here hx rfl (hb hby at_182) rfl (teq (rfl : v0 = v0)).2 ?_
        refine XS.iconst X79.here hx rfl (hb hby at_185) ?_
        refine XS.goto X79.here hx rfl (pc0 := 186) (pc' := 190) rfl (hb hby at_186) (by decide) (by decide) ?_
        show Steps p.tables e below (T79.setTop (mkF m 190 #[.val (.int p0), .val (.int p1), .val (.int p2), .val (.int p3), .val (.int p4), .val (.int p5), .val (.int bd), .val (.int (1 : Int32)), .val (.int v0), .val (.int v1), .val (.int v2), .val (.int v3), .val (.ref a), .val (.ref b46), .val (.int (0 : Int32)), .val (.int (1 : Int32))] [(.int (1 : Int32))])) _
        refine XS.istore X79.here hx rfl (hb hby at_190) rfl (l' := #[.val (.int p0), .val (.int p1), .val (.int p2), .val (.int p3), .val (.int p4), .val (.int p5), .val (.int bd), .val (.int (1 : Int32)), .val (.int v0), .val (.int v1), .val (.int v2), .val (.int v3), .val (.ref a), .val (.ref b46), .val (.int (0 : Int32)), .val (.int (1 : Int32))]) rfl ?_
        refine XS.iload X79.here hx rfl (hb hby at_192) rfl ?_
        refine XS.iconst X79.here hx rfl (hb hby at_194) ?_
        refine XS.icmpYes X79.here hx rfl (pc0 := 195) (pc' := 221) rfl (hb hby at_195) rfl (flt (by decide : ¬ ((1 : Int32) < (1 : Int32)))).2.2.2 (by decide) (by decide) ?_
        refine XS.iload X79.here hx rfl (hb hby at_221) rfl ?_
        refine XS.iconst X79.here hx rfl (hb hby at_223) ?_
        refine XS.icmpYes X79.here hx rfl (pc0 := 224) (pc' := 250) rfl (hb hby at_224) rfl (flt (by decide : ¬ ((2 : Int32) < (1 : Int32)))).2.2.2 (by decide) (by decide) ?_
        refine XS.iload X79.here hx rfl (hb hby at_250) rfl ?_
        show Steps p.tables e below (T79.setTop (mkF m 252 #[.val (.int p0), .val (.int p1), .val (.int p2), .val (.int p3), .val (.int p4), .val (.int p5), .val (.int bd), .val (.int (1 : Int32)), .val (.int v0), .val (.int v1), .val (.int v2), .val (.int v3), .val (.ref a), .val (.ref b46), .val (.int (0 : Int32)), .val (.int (1 : Int32))] [(.int (1 : Int32))])) _
        refine XS.iconst X79.here hx rfl (hb hby at_252) ?_
        refine XS.icmpYes X79.here hx rfl (pc0 := 253) (pc' := 279) rfl (hb hby at_253) rfl (flt (by decide : ¬ ((3 : Int32) < (1 : Int32)))).2.2.2 (by decide) (by decide) ?_
        refine XS.iload X79.here hx rfl (hb hby at_279) rfl ?_
        show Steps p.tables e below (T79.setTop (mkF m 281 #[.val (.int p0), .val (.int p1), .val (.int p2), .val (.int p3), .val (.int p4), .val (.int p5), .val (.int bd), .val (.int (1 : Int32)), .val (.int v0), .val (.int v1), .val (.int v2), .val (.int v3), .val (.ref a), .val (.ref b46), .val (.int (0 : Int32)), .val (.int (1 : Int32))] [(.int (1 : Int32))])) _
        exact retN X79 hx (t := .boolean) Bd.returns (by simp) (hb hby at_281) hr
      · show Q_rm0 Z p0 p1 p2 p3 p4 p5 h0 n0 _ T79.heap _
        rw [e79]
        exact ⟨rfl, N79⟩
  · have st80 : ∀ target, Steps p.tables e below (T15.setTop (mkF m 99 #[.val (.int p0), .val (.int p1), .val (.int p2), .val (.int p3), .val (.int p4), .val (.int p5), .val (.int bd), .val (.int (2 : Int32)), .val (.int v0), .val (.int v1), .val (.int v2), .val (.int v3), .val (.ref a), .unset, .unset, .unset] [(.int bd), (.int (2 : Int32)), (.ref a)])) target → Steps p.tables e below (T15.setTop (mkF m 93 #[.val (.int p0), .val (.int p1), .val (.int p2), .val (.int p3), .val (.int p4), .val (.int p5), .val (.int bd), .val (.int (2 : Int32)), .val (.int v0), .val (.int v1), .val (.int v2), .val (.int v3), .val (.ref a), .unset, .unset, .unset] [])) target := by
      intro target kt
      refine XS.aload X15.here hx rfl (hb hby at_93) rfl rfl ?_
      refine XS.iload X15.here hx rfl (hb hby at_95) rfl ?_
      refine XS.iload X15.here hx rfl (hb hby at_97) rfl ?_
      exact kt
    obtain ⟨_, _, ⟨T81, L81, k81, n81⟩, -, X81, ⟨Lc81, hQ81, l81, y81, z81⟩, st81⟩ := Jvm.LawKit.callS X15 hx (y := (⟨"com/example/libbisim/libbisim/CompactInts", "of", "([III)Lcom/example/libbisim/libbisim/CompactInts;"⟩ : MethodName)) hown (mvT hZ (hw _ (List.mem_of_getElem? (i := 6) rfl))) (mvT hZ (hw _ (List.mem_of_getElem? (i := 7) rfl))) (mvT hZ (hw _ (List.mem_of_getElem? (i := 8) rfl))) (mvT hZ (hw _ (List.mem_of_getElem? (i := 9) rfl))) (by decide) (backOf (W := 0) (rmOf2 l Z a0 hw [] a bd k7 v0 v1 v2 v3 h15 n0 Z_15 V_a_15) hZ (hw _ (List.mem_of_getElem? (i := 9) rfl)) (hw _ (List.mem_of_getElem? (i := 8) rfl)) (by decide) (by decide)) (g := (mkF m 99 #[.val (.int p0), .val (.int p1), .val (.int p2), .val (.int p3), .val (.int p4), .val (.int p5), .val (.int bd), .val (.int (2 : Int32)), .val (.int v0), .val (.int v1), .val (.int v2), .val (.int v3), .val (.ref a), .unset, .unset, .unset] [(.int bd), (.int (2 : Int32)), (.ref a)])) rfl (by rw [hml]; rfl) (argsL := [(.ref a), (.int (2 : Int32)), (.int bd)]) (rest := []) (lenOf pd_1 rfl) rfl (by show 2 * 0 + _ ≤ _; exact Nat.le_of_eq rfl) (hb hby at_99) (fun _ _ => ⟨rfl, e15, (by decide : 1 + 2 ≤ _), (by decide : 4 + 5 ≤ _)⟩)
    dsimp only [Pt.U, Pt.locs, Pt.cells, Pt.slots] at X81 l81 y81 z81 st81 hQ81
    subst l81 y81 z81
    obtain ⟨b81, rfl, Nq81, K81, sz81, Eb, alt⟩ := hQ81
    have N81 := Fr.app N15 Nq81
    have g_b81 : n0 ≤ b81 := Nat.le_trans Z_15 sz81
    have ne_a_b81 : a ≠ b81 := Nat.ne_of_lt (Nat.lt_of_lt_of_le V_a_15.lt sz81)
    have V_a_81 := V_a_15.keep K81 nin0
    have Z_81 : n0 ≤ T81.heap.size := Nat.le_trans Z_15 K81.1
    rcases alt with ⟨q1, y, ky, szy, Fb, Vy⟩ | ⟨q1, q2, y, ky, szy, Fb, Fc, Vy⟩ | ⟨q1, Fb, Fc, y, ky, szy, Fi, Vy⟩
    · have ne_a_y : a ≠ y := Nat.ne_of_lt (Nat.lt_of_lt_of_le (V_a_15).lt szy)
      have hle : bd.toInt ≤ 256 := own_le rfl q1
      have st82 : ∀ target, Steps p.tables e below (T81.setTop (mkF m 136 #[.val (.int p0), .val (.int p1), .val (.int p2), .val (.int p3), .val (.int p4), .val (.int p5), .val (.int bd), .val (.int (2 : Int32)), .val (.int v0), .val (.int v1), .val (.int v2), .val (.int v3), .val (.ref a), .val (.ref b81), .val (.int (0 : Int32)), .unset] [(.int (v0 ^^^ (1 : Int32))), (.int (0 : Int32)), (.ref a)])) target → Steps p.tables e below (T81.setTop (mkF m 102 #[.val (.int p0), .val (.int p1), .val (.int p2), .val (.int p3), .val (.int p4), .val (.int p5), .val (.int bd), .val (.int (2 : Int32)), .val (.int v0), .val (.int v1), .val (.int v2), .val (.int v3), .val (.ref a), .unset, .unset, .unset] [(.ref b81)])) target := by
        intro target kt
        refine XS.astore X81.here hx rfl (hb hby at_102) rfl rfl (l' := #[.val (.int p0), .val (.int p1), .val (.int p2), .val (.int p3), .val (.int p4), .val (.int p5), .val (.int bd), .val (.int (2 : Int32)), .val (.int v0), .val (.int v1), .val (.int v2), .val (.int v3), .val (.ref a), .val (.ref b81), .unset, .unset]) rfl ?_
        refine XS.iload X81.here hx rfl (hb hby at_104) rfl ?_
        show Steps p.tables e below (T81.setTop (mkF m 106 #[.val (.int p0), .val (.int p1), .val (.int p2), .val (.int p3), .val (.int p4), .val (.int p5), .val (.int bd), .val (.int (2 : Int32)), .val (.int v0), .val (.int v1), .val (.int v2), .val (.int v3), .val (.ref a), .val (.ref b81), .unset, .unset] [(.int bd)])) _
        refine X81.ldcInt hx hown (mvT hZ (hw _ (List.mem_of_getElem? (i := 25) rfl))) (g := (mkF m 106 #[.val (.int p0), .val (.int p1), .val (.int p2), .val (.int p3), .val (.int p4), .val (.int p5), .val (.int bd), .val (.int (2 : Int32)), .val (.int v0), .val (.int v1), .val (.int v2), .val (.int v3), .val (.ref a), .val (.ref b81), .unset, .unset] [(.int bd)])) rfl (hb hby at_106) _ ?_
        refine XS.icmpYes X81.here hx rfl (pc0 := 108) (pc' := 121) rfl (hb hby at_108) rfl (flt (own_nlt q1 (by decide))).2.2.2 (by decide) (by decide) ?_
        refine XS.iconst X81.here hx rfl (hb hby at_121) ?_
        refine XS.istore X81.here hx rfl (hb hby at_122) rfl (l' := #[.val (.int p0), .val (.int p1), .val (.int p2), .val (.int p3), .val (.int p4), .val (.int p5), .val (.int bd), .val (.int (2 : Int32)), .val (.int v0), .val (.int v1), .val (.int v2), .val (.int v3), .val (.ref a), .val (.ref b81), .val (.int (0 : Int32)), .unset]) rfl ?_
        refine XS.iload X81.here hx rfl (hb hby at_124) rfl ?_
        refine XS.ifNo X81.here hx rfl (hb hby at_126) rfl ((if0 _ _).trans (teq (rfl : (0 : Int32) = (0 : Int32))).2) ?_
        refine XS.aload X81.here hx rfl (hb hby at_129) rfl rfl ?_
        refine XS.iconst X81.here hx rfl (hb hby at_131) ?_
        show Steps p.tables e below (T81.setTop (mkF m 132 #[.val (.int p0), .val (.int p1), .val (.int p2), .val (.int p3), .val (.int p4), .val (.int p5), .val (.int bd), .val (.int (2 : Int32)), .val (.int v0), .val (.int v1), .val (.int v2), .val (.int v3), .val (.ref a), .val (.ref b81), .val (.int (0 : Int32)), .unset] [(.int (0 : Int32)), (.ref a)])) _
        refine XS.iload X81.here hx rfl (hb hby at_132) rfl ?_
        refine XS.iconst X81.here hx rfl (hb hby at_134) ?_
        refine XS.ixor X81.here hx rfl (hb hby at_135) rfl ?_
        exact kt
      obtain ⟨cl83, Ar83, qc83, Sz83, Mn83, Hs83, Gs83⟩ := id V_a_81
      have hin83 : ¬ ((0 : Int32) < 0 ∨ cl83.slots.size ≤ ((0 : Int32)).toNatClampNeg) := inb_of Sz83 ⟨by decide, by decide⟩
      obtain ⟨T83, h83, X83, e83, W83, st83⟩ := stI X81 hx hZ rfl Ar83 (j := (0 : Int32)) hin83 (g := (mkF m 136 #[.val (.int p0), .val (.int p1), .val (.int p2), .val (.int p3), .val (.int p4), .val (.int p5), .val (.int bd), .val (.int (2 : Int32)), .val (.int v0), .val (.int v1), .val (.int v2), .val (.int v3), .val (.ref a), .val (.ref b81), .val (.int (0 : Int32)), .unset] [(.int (v0 ^^^ (1 : Int32))), (.int (0 : Int32)), (.ref a)])) rfl rfl (hb hby at_136)
      have V_a_83 : Arv Z h83 a k7 .int (4 : Int32) [(.int (v0 ^^^ (1 : Int32))), (.int v1), (.int v2), (.int v3)] (.int (0 : Int32)) := Arv.set Ar83 qc83 Sz83 Mn83 Hs83 Gs83 rfl W83 0 rfl (Nat.le_of_ble_eq_true rfl)
      have Eb_83 := Eb.wr W83
      have Vy_83 := Vy.other W83 (Ne.symm ne_a_y)
      have Fb_83 := Fb.other W83 (Or.inl (Ne.symm ne_a_b81))
      have Z_83 : n0 ≤ h83.size := Nat.le_trans Z_81 (Keep.of_wr W83).1
      have N83 := Fr.snoc X83 N81 g_a
      have st84 : ∀ target, Steps p.tables e below (T83.setTop (mkF m 144 #[.val (.int p0), .val (.int p1), .val (.int p2), .val (.int p3), .val (.int p4), .val (.int p5), .val (.int bd), .val (.int (2 : Int32)), .val (.int v0), .val (.int v1), .val (.int v2), .val (.int v3), .val (.ref a), .val (.ref b81), .val (.int (0 : Int32)), .unset] [(.int (v1 ^^^ (1 : Int32))), (.int (1 : Int32)), (.ref a)])) target → Steps p.tables e below (T83.setTop (mkF m 137 #[.val (.int p0), .val (.int p1), .val (.int p2), .val (.int p3), .val (.int p4), .val (.int p5), .val (.int bd), .val (.int (2 : Int32)), .val (.int v0), .val (.int v1), .val (.int v2), .val (.int v3), .val (.ref a), .val (.ref b81), .val (.int (0 : Int32)), .unset] [])) target := by
        intro target kt
        refine XS.aload X83.here hx rfl (hb hby at_137) rfl rfl ?_
        refine XS.iconst X83.here hx rfl (hb hby at_139) ?_
        refine XS.iload X83.here hx rfl (hb hby at_140) rfl ?_
        refine XS.iconst X83.here hx rfl (hb hby at_142) ?_
        refine XS.ixor X83.here hx rfl (hb hby at_143) rfl ?_
        exact kt
      obtain ⟨cl85, Ar85, qc85, Sz85, Mn85, Hs85, Gs85⟩ := id V_a_83
      have hin85 : ¬ ((1 : Int32) < 0 ∨ cl85.slots.size ≤ ((1 : Int32)).toNatClampNeg) := inb_of Sz85 ⟨by decide, by decide⟩
      obtain ⟨T85, h85, X85, e85, W85, st85⟩ := stI X83 hx hZ e83 Ar85 (j := (1 : Int32)) hin85 (g := (mkF m 144 #[.val (.int p0), .val (.int p1), .val (.int p2), .val (.int p3), .val (.int p4), .val (.int p5), .val (.int bd), .val (.int (2 : Int32)), .val (.int v0), .val (.int v1), .val (.int v2), .val (.int v3), .val (.ref a), .val (.ref b81), .val (.int (0 : Int32)), .unset] [(.int (v1 ^^^ (1 : Int32))), (.int (1 : Int32)), (.ref a)])) rfl rfl (hb hby at_144)
      have V_a_85 : Arv Z h85 a k7 .int (4 : Int32) [(.int (v0 ^^^ (1 : Int32))), (.int (v1 ^^^ (1 : Int32))), (.int v2), (.int v3)] (.int (0 : Int32)) := Arv.set Ar85 qc85 Sz85 Mn85 Hs85 Gs85 rfl W85 1 rfl (Nat.le_of_ble_eq_true rfl)
      have Eb_85 := Eb_83.wr W85
      have Vy_85 := Vy_83.other W85 (Ne.symm ne_a_y)
      have Fb_85 := Fb_83.other W85 (Or.inl (Ne.symm ne_a_b81))
      have Z_85 : n0 ≤ h85.size := Nat.le_trans Z_83 (Keep.of_wr W85).1
      have N85 := Fr.snoc X85 N83 g_a
      have st86 : ∀ target, Steps p.tables e below (T85.setTop (mkF m 152 #[.val (.int p0), .val (.int p1), .val (.int p2), .val (.int p3), .val (.int p4), .val (.int p5), .val (.int bd), .val (.int (2 : Int32)), .val (.int v0), .val (.int v1), .val (.int v2), .val (.int v3), .val (.ref a), .val (.ref b81), .val (.int (0 : Int32)), .unset] [(.int (v2 ^^^ (1 : Int32))), (.int (2 : Int32)), (.ref a)])) target → Steps p.tables e below (T85.setTop (mkF m 145 #[.val (.int p0), .val (.int p1), .val (.int p2), .val (.int p3), .val (.int p4), .val (.int p5), .val (.int bd), .val (.int (2 : Int32)), .val (.int v0), .val (.int v1), .val (.int v2), .val (.int v3), .val (.ref a), .val (.ref b81), .val (.int (0 : Int32)), .unset] [])) target := by
        intro target kt
        show Steps p.tables e below (T85.setTop (mkF m 145 #[.val (.int p0), .val (.int p1), .val (.int p2), .val (.int p3), .val (.int p4), .val (.int p5), .val (.int bd), .val (.int (2 : Int32)), .val (.int v0), .val (.int v1), .val (.int v2), .val (.int v3), .val (.ref a), .val (.ref b81), .val (.int (0 : Int32)), .unset] [])) _
        refine XS.aload X85.here hx rfl (hb hby at_145) rfl rfl ?_
        refine XS.iconst X85.here hx rfl (hb hby at_147) ?_
        refine XS.iload X85.here hx rfl (hb hby at_148) rfl ?_
        refine XS.iconst X85.here hx rfl (hb hby at_150) ?_
        refine XS.ixor X85.here hx rfl (hb hby at_151) rfl ?_
        exact kt
      obtain ⟨cl87, Ar87, qc87, Sz87, Mn87, Hs87, Gs87⟩ := id V_a_85
      have hin87 : ¬ ((2 : Int32) < 0 ∨ cl87.slots.size ≤ ((2 : Int32)).toNatClampNeg) := inb_of Sz87 ⟨by decide, by decide⟩
      obtain ⟨T87, h87, X87, e87, W87, st87⟩ := stI X85 hx hZ e85 Ar87 (j := (2 : Int32)) hin87 (g := (mkF m 152 #[.val (.int p0), .val (.int p1), .val (.int p2), .val (.int p3), .val (.int p4), .val (.int p5), .val (.int bd), .val (.int (2 : Int32)), .val (.int v0), .val (.int v1), .val (.int v2), .val (.int v3), .val (.ref a), .val (.ref b81), .val (.int (0 : Int32)), .unset] [(.int (v2 ^^^ (1 : Int32))), (.int (2 : Int32)), (.ref a)])) rfl rfl (hb hby at_152)
      have V_a_87 : Arv Z h87 a k7 .int (4 : Int32) [(.int (v0 ^^^ (1 : Int32))), (.int (v1 ^^^ (1 : Int32))), (.int (v2 ^^^ (1 : Int32))), (.int v3)] (.int (0 : Int32)) := Arv.set Ar87 qc87 Sz87 Mn87 Hs87 Gs87 rfl W87 2 rfl (Nat.le_of_ble_eq_true rfl)
      have Eb_87 := Eb_85.wr W87
      have Vy_87 := Vy_85.other W87 (Ne.symm ne_a_y)
      have Fb_87 := Fb_85.other W87 (Or.inl (Ne.symm ne_a_b81))
      have Z_87 : n0 ≤ h87.size := Nat.le_trans Z_85 (Keep.of_wr W87).1
      have N87 := Fr.snoc X87 N85 g_a
      have st88 : ∀ target, Steps p.tables e below (T87.setTop (mkF m 160 #[.val (.int p0), .val (.int p1), .val (.int p2), .val (.int p3), .val (.int p4), .val (.int p5), .val (.int bd), .val (.int (2 : Int32)), .val (.int v0), .val (.int v1), .val (.int v2), .val (.int v3), .val (.ref a), .val (.ref b81), .val (.int (0 : Int32)), .unset] [(.int (v3 ^^^ (1 : Int32))), (.int (3 : Int32)), (.ref a)])) target → Steps p.tables e below (T87.setTop (mkF m 153 #[.val (.int p0), .val (.int p1), .val (.int p2), .val (.int p3), .val (.int p4), .val (.int p5), .val (.int bd), .val (.int (2 : Int32)), .val (.int v0), .val (.int v1), .val (.int v2), .val (.int v3), .val (.ref a), .val (.ref b81), .val (.int (0 : Int32)), .unset] [])) target := by
        intro target kt
        refine XS.aload X87.here hx rfl (hb hby at_153) rfl rfl ?_
        refine XS.iconst X87.here hx rfl (hb hby at_155) ?_
        refine XS.iload X87.here hx rfl (hb hby at_156) rfl ?_
        show Steps p.tables e below (T87.setTop (mkF m 158 #[.val (.int p0), .val (.int p1), .val (.int p2), .val (.int p3), .val (.int p4), .val (.int p5), .val (.int bd), .val (.int (2 : Int32)), .val (.int v0), .val (.int v1), .val (.int v2), .val (.int v3), .val (.ref a), .val (.ref b81), .val (.int (0 : Int32)), .unset] [(.int v3), (.int (3 : Int32)), (.ref a)])) _
        refine XS.iconst X87.here hx rfl (hb hby at_158) ?_
        refine XS.ixor X87.here hx rfl (hb hby at_159) rfl ?_
        exact kt
      obtain ⟨cl89, Ar89, qc89, Sz89, Mn89, Hs89, Gs89⟩ := id V_a_87
      have hin89 : ¬ ((3 : Int32) < 0 ∨ cl89.slots.size ≤ ((3 : Int32)).toNatClampNeg) := inb_of Sz89 ⟨by decide, by decide⟩
      obtain ⟨T89, h89, X89, e89, W89, st89⟩ := stI X87 hx hZ e87 Ar89 (j := (3 : Int32)) hin89 (g := (mkF m 160 #[.val (.int p0), .val (.int p1), .val (.int p2), .val (.int p3), .val (.int p4), .val (.int p5), .val (.int bd), .val (.int (2 : Int32)), .val (.int v0), .val (.int v1), .val (.int v2), .val (.int v3), .val (.ref a), .val (.ref b81), .val (.int (0 : Int32)), .unset] [(.int (v3 ^^^ (1 : Int32))), (.int (3 : Int32)), (.ref a)])) rfl rfl (hb hby at_160)
      have V_a_89 : Arv Z h89 a k7 .int (4 : Int32) [(.int (v0 ^^^ (1 : Int32))), (.int (v1 ^^^ (1 : Int32))), (.int (v2 ^^^ (1 : Int32))), (.int (v3 ^^^ (1 : Int32)))] (.int (0 : Int32)) := Arv.set Ar89 qc89 Sz89 Mn89 Hs89 Gs89 rfl W89 3 rfl (Nat.le_of_ble_eq_true rfl)
      have Eb_89 := Eb_87.wr W89
      have Vy_89 := Vy_87.other W89 (Ne.symm ne_a_y)
      have Fb_89 := Fb_87.other W89 (Or.inl (Ne.symm ne_a_b81))
      have Z_89 : n0 ≤ h89.size := Nat.le_trans Z_87 (Keep.of_wr W89).1
      have N89 := Fr.snoc X89 N87 g_a
      have st90 : ∀ target, Steps p.tables e below (T89.setTop (mkF m 177 #[.val (.int p0), .val (.int p1), .val (.int p2), .val (.int p3), .val (.int p4), .val (.int p5), .val (.int bd), .val (.int (2 : Int32)), .val (.int v0), .val (.int v1), .val (.int v2), .val (.int v3), .val (.ref a), .val (.ref b81), .val (.int (0 : Int32)), .val (.int (1 : Int32))] [(.int (0 : Int32)), (.ref b81)])) target → Steps p.tables e below (T89.setTop (mkF m 161 #[.val (.int p0), .val (.int p1), .val (.int p2), .val (.int p3), .val (.int p4), .val (.int p5), .val (.int bd), .val (.int (2 : Int32)), .val (.int v0), .val (.int v1), .val (.int v2), .val (.int v3), .val (.ref a), .val (.ref b81), .val (.int (0 : Int32)), .unset] [])) target := by
        intro target kt
        refine XS.iconst X89.here hx rfl (hb hby at_161) ?_
        refine XS.istore X89.here hx rfl (hb hby at_162) rfl (l' := #[.val (.int p0), .val (.int p1), .val (.int p2), .val (.int p3), .val (.int p4), .val (.int p5), .val (.int bd), .val (.int (2 : Int32)), .val (.int v0), .val (.int v1), .val (.int v2), .val (.int v3), .val (.ref a), .val (.ref b81), .val (.int (0 : Int32)), .val (.int (1 : Int32))]) rfl ?_
        refine XS.iload X89.here hx rfl (hb hby at_164) rfl ?_
        refine XS.ifNo X89.here hx rfl (hb hby at_166) rfl ((if0 _ _).trans (tlt (by decide : ((0 : Int32) < (2 : Int32)))).2.2.2) ?_
        refine XS.iload X89.here hx rfl (hb hby at_169) rfl ?_
        refine XS.ifNo X89.here hx rfl (hb hby at_171) rfl ((if0 _ _).trans (feq (by decide : ¬ ((1 : Int32) = (0 : Int32)))).1) ?_
        show Steps p.tables e below (T89.setTop (mkF m 174 #[.val (.int p0), .val (.int p1), .val (.int p2), .val (.int p3), .val (.int p4), .val (.int p5), .val (.int bd), .val (.int (2 : Int32)), .val (.int v0), .val (.int v1), .val (.int v2), .val (.int v3), .val (.ref a), .val (.ref b81), .val (.int (0 : Int32)), .val (.int (1 : Int32))] [])) _
        refine XS.aload X89.here hx rfl (hb hby at_174) rfl rfl ?_
        refine XS.iconst X89.here hx rfl (hb hby at_176) ?_
        exact kt
      obtain ⟨cl91, Ar91, qc91, Sz91, Mn91, Hs91, Gs91⟩ := id Vy_89
      have hin91 : ¬ ((0 : Int32) < 0 ∨ cl91.slots.size ≤ ((0 : Int32)).toNatClampNeg) := inb_of Sz91 ⟨by decide, by decide⟩
      obtain ⟨cq92, kq92, qv92a, qv92b, qv92c⟩ := isOf hZ e89 Eb_89
      obtain ⟨_, _, ⟨T92, L92, k92, n92⟩, -, X92, ⟨Lc92, hQ92, l92, y92, z92⟩, st92⟩ := X89.virtualBack hx (y := (⟨"com/example/libbisim/libbisim/CompactInts", "get", "(I)I"⟩ : MethodName)) (z := (⟨"com/example/libbisim/libbisim/CompactInts", "get", "(I)I"⟩ : MethodName)) hown (mvT hZ (hw _ (List.mem_of_getElem? (i := 38) rfl))) (mvT hZ (hw _ (List.mem_of_getElem? (i := 39) rfl))) (notFace_of_selects (args := #[]) (mvT hZ (hw _ (List.mem_of_getElem? (i := 41) rfl)))) (mvT hZ (hw _ (List.mem_of_getElem? (i := 41) rfl))) (mvT hZ (hw _ (List.mem_of_getElem? (i := 40) rfl))) (by decide) (backOf (W := 0) (rmGB l Z a0 hw [] b81 (0 : Int32) y cl91 (nar .byte (v0.toInt8.toInt32)) h89 n0 Z_89 Fb_89 Ar91 hin91 (Hs91.at hin91 rfl)) hZ (hw _ (List.mem_of_getElem? (i := 42) rfl)) (hw _ (List.mem_of_getElem? (i := 8) rfl)) (by decide) (by decide)) qv92a qv92c (g := (mkF m 177 #[.val (.int p0), .val (.int p1), .val (.int p2), .val (.int p3), .val (.int p4), .val (.int p5), .val (.int bd), .val (.int (2 : Int32)), .val (.int v0), .val (.int v1), .val (.int v2), .val (.int v3), .val (.ref a), .val (.ref b81), .val (.int (0 : Int32)), .val (.int (1 : Int32))] [(.int (0 : Int32)), (.ref b81)])) rfl (by rw [hml]; rfl) (Steps.refl _) (argsL := [(.int (0 : Int32))]) (rest := []) (lenOf pd_6 rfl) rfl (by show 2 * 0 + _ ≤ _; exact Nat.le_of_eq rfl) (hb hby at_177) (fun _ _ => ⟨rfl, e89, (by decide : 3 + 0 ≤ _), (by decide : 9 + 0 ≤ _)⟩)
      dsimp only [Pt.U, Pt.locs, Pt.cells, Pt.slots] at X92 l92 y92 z92 st92 hQ92
      subst l92 y92 z92
      obtain ⟨rfl, Nq92, e92⟩ := hQ92
      have N92 := Fr.app N89 Nq92
      rw [own_b8 R0.1 (by omega)] at st92
      have st93 : ∀ target, Steps p.tables e below (T92.setTop (mkF m 206 #[.val (.int p0), .val (.int p1), .val (.int p2), .val (.int p3), .val (.int p4), .val (.int p5), .val (.int bd), .val (.int (2 : Int32)), .val (.int v0), .val (.int v1), .val (.int v2), .val (.int v3), .val (.ref a), .val (.ref b81), .val (.int (0 : Int32)), .val (.int (1 : Int32))] [(.int (1 : Int32)), (.ref b81)])) target → Steps p.tables e below (T92.setTop (mkF m 180 #[.val (.int p0), .val (.int p1), .val (.int p2), .val (.int p3), .val (.int p4), .val (.int p5), .val (.int bd), .val (.int (2 : Int32)), .val (.int v0), .val (.int v1), .val (.int v2), .val (.int v3), .val (.ref a), .val (.ref b81), .val (.int (0 : Int32)), .val (.int (1 : Int32))] [(.int v0)])) target := by
        intro target kt
        refine XS.iload X92.here hx rfl (hb hby at_180) rfl ?_
        refine XS.icmpNo X92.here hx rfl (hb hby at_182) rfl (teq (rfl : v0 = v0)).2 ?_
        refine XS.iconst X92.here hx rfl (hb hby at_185) ?_
        refine XS.goto X92.here hx rfl (pc0 := 186) (pc' := 190) rfl (hb hby at_186) (by decide) (by decide) ?_
        refine XS.istore X92.here hx rfl (hb hby at_190) rfl (l' := #[.val (.int p0), .val (.int p1), .val (.int p2), .val (.int p3), .val (.int p4), .val (.int p5), .val (.int bd), .val (.int (2 : Int32)), .val (.int v0), .val (.int v1), .val (.int v2), .val (.int v3), .val (.ref a), .val (.ref b81), .val (.int (0 : Int32)), .val (.int (1 : Int32))]) rfl ?_
        refine XS.iload X92.here hx rfl (hb hby at_192) rfl ?_
        show Steps p.tables e below (T92.setTop (mkF m 194 #[.val (.int p0), .val (.int p1), .val (.int p2), .val (.int p3), .val (.int p4), .val (.int p5), .val (.int bd), .val (.int (2 : Int32)), .val (.int v0), .val (.int v1), .val (.int v2), .val (.int v3), .val (.ref a), .val (.ref b81), .val (.int (0 : Int32)), .val (.int (1 : Int32))] [(.int (2 : Int32))])) _
        refine XS.iconst X92.here hx rfl (hb hby at_194) ?_
        refine XS.icmpNo X92.here hx rfl (hb hby at_195) rfl (tlt (by decide : ((1 : Int32) < (2 : Int32)))).2.2.2 ?_
        refine XS.iload X92.here hx rfl (hb hby at_198) rfl ?_
        refine XS.ifNo X92.here hx rfl (hb hby at_200) rfl ((if0 _ _).trans (feq (by decide : ¬ ((1 : Int32) = (0 : Int32)))).1) ?_
        refine XS.aload X92.here hx rfl (hb hby at_203) rfl rfl ?_
        refine XS.iconst X92.here hx rfl (hb hby at_205) ?_
        exact kt
      obtain ⟨cl94, Ar94, qc94, Sz94, Mn94, Hs94, Gs94⟩ := id Vy_89
      have hin94 : ¬ ((1 : Int32) < 0 ∨ cl94.slots.size ≤ ((1 : Int32)).toNatClampNeg) := inb_of Sz94 ⟨by decide, by decide⟩
      obtain ⟨cq95, kq95, qv95a, qv95b, qv95c⟩ := isOf hZ e92 Eb_89
      obtain ⟨_, _, ⟨T95, L95, k95, n95⟩, -, X95, ⟨Lc95, hQ95, l95, y95, z95⟩, st95⟩ := X92.virtualBack hx (y := (⟨"com/example/libbisim/libbisim/CompactInts", "get", "(I)I"⟩ : MethodName)) (z := (⟨"com/example/libbisim/libbisim/CompactInts", "get", "(I)I"⟩ : MethodName)) hown (mvT hZ (hw _ (List.mem_of_getElem? (i := 38) rfl))) (mvT hZ (hw _ (List.mem_of_getElem? (i := 39) rfl))) (notFace_of_selects (args := #[]) (mvT hZ (hw _ (List.mem_of_getElem? (i := 41) rfl)))) (mvT hZ (hw _ (List.mem_of_getElem? (i := 41) rfl))) (mvT hZ (hw _ (List.mem_of_getElem? (i := 40) rfl))) (by decide) (backOf (W := 0) (rmGB l Z a0 hw [] b81 (1 : Int32) y cl94 (nar .byte (v1.toInt8.toInt32)) h89 n0 Z_89 Fb_89 Ar94 hin94 (Hs94.at hin94 rfl)) hZ (hw _ (List.mem_of_getElem? (i := 42) rfl)) (hw _ (List.mem_of_getElem? (i := 8) rfl)) (by decide) (by decide)) qv95a qv95c (g := (mkF m 206 #[.val (.int p0), .val (.int p1), .val (.int p2), .val (.int p3), .val (.int p4), .val (.int p5), .val (.int bd), .val (.int (2 : Int32)), .val (.int v0), .val (.int v1), .val (.int v2), .val (.int v3), .val (.ref a), .val (.ref b81), .val (.int (0 : Int32)), .val (.int (1 : Int32))] [(.int (1 : Int32)), (.ref b81)])) rfl (by rw [hml]; rfl) (Steps.refl _) (argsL := [(.int (1 : Int32))]) (rest := []) (lenOf pd_6 rfl) rfl (by show 2 * 0 + _ ≤ _; exact Nat.le_of_eq rfl) (hb hby at_206) (fun _ _ => ⟨rfl, e92, (by decide : 3 + 0 ≤ _), (by decide : 9 + 0 ≤ _)⟩)
      dsimp only [Pt.U, Pt.locs, Pt.cells, Pt.slots] at X95 l95 y95 z95 st95 hQ95
      subst l95 y95 z95
      obtain ⟨rfl, Nq95, e95⟩ := hQ95
      have N95 := Fr.app N92 Nq95
      rw [own_b8 R1.1 (by omega)] at st95
      obtain ⟨fs, hr, hrun, hended, hW, hsame⟩ := X95.leave (v := some (.int (1 : Int32))) (fun h => by rw [Bd.returns] at h; cases h)
      refine ⟨_, _, pre0 _ (st1 _ (st2 _ (st3 _ (st4 _ (st5 _ (st6 _ (st7 _ (st8 _ (st9 _ (st10 _ (st11 _ (st12 _ (st13 _ (st14 _ (st15 _ (st80 _ (st81 _ (st82 _ (st83 _ (st84 _ (st85 _ (st86 _ (st87 _ (st88 _ (st89 _ (st90 _ (st92.trans (st93 _ (st95.trans ?_))))))))))))))))))))))))))))), hrun, hended, _, _, rfl, ?_, ⟨_, rfl⟩, hW, hsame.mono (by decide) (by decide)⟩
      · refine XS.iload X95.here hx rfl (hb hby at_209) rfl ?_
        refine XS.icmpNo X95.here hx rfl (hb hby at_211) rfl (teq (rfl : v1 = v1)).2 ?_
        show Steps p.tables e below (T95.setTop (mkF m 214 #[.val (.int p0), .val (.int p1), .val (.int p2), .val (.int p3), .val (.int p4), .val (.int p5), .val (.int bd), .val (.int (2 : Int32)), .val (.int v0), .val (.int v1), .val (.int v2), .val (.int v3), .val (.ref a), .val (.ref b81), .val (.int (0 : Int32)), .val (.int (1 : Int32))] [])) _
        refine XS.iconst X95.here hx rfl (hb hby at_214) ?_
        refine XS.goto X95.here hx rfl (pc0 := 215) (pc' := 219) rfl (hb hby at_215) (by decide) (by decide) ?_
        refine XS.istore X95.here hx rfl (hb hby at_219) rfl (l' := #[.val (.int p0), .val (.int p1), .val (.int p2), .val (.int p3), .val (.int p4), .val (.int p5), .val (.int bd), .val (.int (2 : Int32)), .val (.int v0), .val (.int v1), .val (.int v2), .val (.int v3), .val (.ref a), .val (.ref b81), .val (.int (0 : Int32)), .val (.int (1 : Int32))]) rfl ?_
        refine XS.iload X95.here hx rfl (hb hby at_221) rfl ?_
        refine XS.iconst X95.here hx rfl (hb hby at_223) ?_
        refine XS.icmpYes X95.here hx rfl (pc0 := 224) (pc' := 250) rfl (hb hby at_224) rfl (flt (by decide : ¬ ((2 : Int32) < (2 : Int32)))).2.2.2 (by decide) (by decide) ?_
        refine XS.iload X95.here hx rfl (hb hby at_250) rfl ?_
        refine XS.iconst X95.here hx rfl (hb hby at_252) ?_
        show Steps p.tables e below (T95.setTop (mkF m 253 #[.val (.int p0), .val (.int p1), .val (.int p2), .val (.int p3), .val (.int p4), .val (.int p5), .val (.int bd), .val (.int (2 : Int32)), .val (.int v0), .val (.int v1), .val (.int v2), .val (.int v3), .val (.ref a), .val (.ref b81), .val (.int (0 : Int32)), .val (.int (1 : Int32))] [(.int (3 : Int32)), (.int (2 : Int32))])) _
        refine XS.icmpYes X95.here hx rfl (pc0 := 253) (pc' := 279) rfl (hb hby at_253) rfl (flt (by decide : ¬ ((3 : Int32) < (2 : Int32)))).2.2.2 (by decide) (by decide) ?_
        refine XS.iload X95.here hx rfl (hb hby at_279) rfl ?_
        show Steps p.tables e below (T95.setTop (mkF m 281 #[.val (.int p0), .val (.int p1), .val (.int p2), .val (.int p3), .val (.int p4), .val (.int p5), .val (.int bd), .val (.int (2 : Int32)), .val (.int v0), .val (.int v1), .val (.int v2), .val (.int v3), .val (.ref a), .val (.ref b81), .val (.int (0 : Int32)), .val (.int (1 : Int32))] [(.int (1 : Int32))])) _
        exact retN X95 hx (t := .boolean) Bd.returns (by simp) (hb hby at_281) hr
      · show Q_rm0 Z p0 p1 p2 p3 p4 p5 h0 n0 _ T95.heap _
        rw [e95]
        exact ⟨rfl, N95⟩
    · have ne_a_y : a ≠ y := Nat.ne_of_lt (Nat.lt_of_lt_of_le (V_a_15).lt szy)
      have hle : bd.toInt ≤ 65536 := own_le rfl q2
      have st96 : ∀ target, Steps p.tables e below (T81.setTop (mkF m 136 #[.val (.int p0), .val (.int p1), .val (.int p2), .val (.int p3), .val (.int p4), .val (.int p5), .val (.int bd), .val (.int (2 : Int32)), .val (.int v0), .val (.int v1), .val (.int v2), .val (.int v3), .val (.ref a), .val (.ref b81), .val (.int (0 : Int32)), .unset] [(.int (v0 ^^^ (1 : Int32))), (.int (0 : Int32)), (.ref a)])) target → Steps p.tables e below (T81.setTop (mkF m 102 #[.val (.int p0), .val (.int p1), .val (.int p2), .val (.int p3), .val (.int p4), .val (.int p5), .val (.int bd), .val (.int (2 : Int32)), .val (.int v0), .val (.int v1), .val (.int v2), .val (.int v3), .val (.ref a), .unset, .unset, .unset] [(.ref b81)])) target := by
        intro target kt
        refine XS.astore X81.here hx rfl (hb hby at_102) rfl rfl (l' := #[.val (.int p0), .val (.int p1), .val (.int p2), .val (.int p3), .val (.int p4), .val (.int p5), .val (.int bd), .val (.int (2 : Int32)), .val (.int v0), .val (.int v1), .val (.int v2), .val (.int v3), .val (.ref a), .val (.ref b81), .unset, .unset]) rfl ?_
        refine XS.iload X81.here hx rfl (hb hby at_104) rfl ?_
        refine X81.ldcInt hx hown (mvT hZ (hw _ (List.mem_of_getElem? (i := 25) rfl))) (g := (mkF m 106 #[.val (.int p0), .val (.int p1), .val (.int p2), .val (.int p3), .val (.int p4), .val (.int p5), .val (.int bd), .val (.int (2 : Int32)), .val (.int v0), .val (.int v1), .val (.int v2), .val (.int v3), .val (.ref a), .val (.ref b81), .unset, .unset] [(.int bd)])) rfl (hb hby at_106) _ ?_
        refine XS.icmpYes X81.here hx rfl (pc0 := 108) (pc' := 121) rfl (hb hby at_108) rfl (flt q2).2.2.2 (by decide) (by decide) ?_
        refine XS.iconst X81.here hx rfl (hb hby at_121) ?_
        refine XS.istore X81.here hx rfl (hb hby at_122) rfl (l' := #[.val (.int p0), .val (.int p1), .val (.int p2), .val (.int p3), .val (.int p4), .val (.int p5), .val (.int bd), .val (.int (2 : Int32)), .val (.int v0), .val (.int v1), .val (.int v2), .val (.int v3), .val (.ref a), .val (.ref b81), .val (.int (0 : Int32)), .unset]) rfl ?_
        show Steps p.tables e below (T81.setTop (mkF m 124 #[.val (.int p0), .val (.int p1), .val (.int p2), .val (.int p3), .val (.int p4), .val (.int p5), .val (.int bd), .val (.int (2 : Int32)), .val (.int v0), .val (.int v1), .val (.int v2), .val (.int v3), .val (.ref a), .val (.ref b81), .val (.int (0 : Int32)), .unset] [])) _
        refine XS.iload X81.here hx rfl (hb hby at_124) rfl ?_
        refine XS.ifNo X81.here hx rfl (hb hby at_126) rfl ((if0 _ _).trans (teq (rfl : (0 : Int32) = (0 : Int32))).2) ?_
        refine XS.aload X81.here hx rfl (hb hby at_129) rfl rfl ?_
        refine XS.iconst X81.here hx rfl (hb hby at_131) ?_
        refine XS.iload X81.here hx rfl (hb hby at_132) rfl ?_
        refine XS.iconst X81.here hx rfl (hb hby at_134) ?_
        refine XS.ixor X81.here hx rfl (hb hby at_135) rfl ?_
        exact kt
      obtain ⟨cl97, Ar97, qc97, Sz97, Mn97, Hs97, Gs97⟩ := id V_a_81
      have hin97 : ¬ ((0 : Int32) < 0 ∨ cl97.slots.size ≤ ((0 : Int32)).toNatClampNeg) := inb_of Sz97 ⟨by decide, by decide⟩
      obtain ⟨T97, h97, X97, e97, W97, st97⟩ := stI X81 hx hZ rfl Ar97 (j := (0 : Int32)) hin97 (g := (mkF m 136 #[.val (.int p0), .val (.int p1), .val (.int p2), .val (.int p3), .val (.int p4), .val (.int p5), .val (.int bd), .val (.int (2 : Int32)), .val (.int v0), .val (.int v1), .val (.int v2), .val (.int v3), .val (.ref a), .val (.ref b81), .val (.int (0 : Int32)), .unset] [(.int (v0 ^^^ (1 : Int32))), (.int (0 : Int32)), (.ref a)])) rfl rfl (hb hby at_136)
      have V_a_97 : Arv Z h97 a k7 .int (4 : Int32) [(.int (v0 ^^^ (1 : Int32))), (.int v1), (.int v2), (.int v3)] (.int (0 : Int32)) := Arv.set Ar97 qc97 Sz97 Mn97 Hs97 Gs97 rfl W97 0 rfl (Nat.le_of_ble_eq_true rfl)
      have Eb_97 := Eb.wr W97
      have Vy_97 := Vy.other W97 (Ne.symm ne_a_y)
      have Fb_97 := Fb.other W97 (Or.inl (Ne.symm ne_a_b81))
      have Fc_97 := Fc.other W97 (Or.inl (Ne.symm ne_a_b81))
      have Z_97 : n0 ≤ h97.size := Nat.le_trans Z_81 (Keep.of_wr W97).1
      have N97 := Fr.snoc X97 N81 g_a
      have st98 : ∀ target, Steps p.tables e below (T97.setTop (mkF m 144 #[.val (.int p0), .val (.int p1), .val (.int p2), .val (.int p3), .val (.int p4), .val (.int p5), .val (.int bd), .val (.int (2 : Int32)), .val (.int v0), .val (.int v1), .val (.int v2), .val (.int v3), .val (.ref a), .val (.ref b81), .val (.int (0 : Int32)), .unset] [(.int (v1 ^^^ (1 : Int32))), (.int (1 : Int32)), (.ref a)])) target → Steps p.tables e below (T97.setTop (mkF m 137 #[.val (.int p0), .val (.int p1), .val (.int p2), .val (.int p3), .val (.int p4), .val (.int p5), .val (.int bd), .val (.int (2 : Int32)), .val (.int v0), .val (.int v1), .val (.int v2), .val (.int v3), .val (.ref a), .val (.ref b81), .val (.int (0 : Int32)), .unset] [])) target := by
        intro target kt
        refine XS.aload X97.here hx rfl (hb hby at_137) rfl rfl ?_
        show Steps p.tables e below (T97.setTop (mkF m 139 #[.val (.int p0), .val (.int p1), .val (.int p2), .val (.int p3), .val (.int p4), .val (.int p5), .val (.int bd), .val (.int (2 : Int32)), .val (.int v0), .val (.int v1), .val (.int v2), .val (.int v3), .val (.ref a), .val (.ref b81), .val (.int (0 : Int32)), .unset] [(.ref a)])) _
        refine XS.iconst X97.here hx rfl (hb hby at_139) ?_
        refine XS.iload X97.here hx rfl (hb hby at_140) rfl ?_
        refine XS.iconst X97.here hx rfl (hb hby at_142) ?_
        refine XS.ixor X97.here hx rfl (hb hby at_143) rfl ?_
        exact kt
      obtain ⟨cl99, Ar99, qc99, Sz99, Mn99, Hs99, Gs99⟩ := id V_a_97
      have hin99 : ¬ ((1 : Int32) < 0 ∨ cl99.slots.size ≤ ((1 : Int32)).toNatClampNeg) := inb_of Sz99 ⟨by decide, by decide⟩
      obtain ⟨T99, h99, X99, e99, W99, st99⟩ := stI X97 hx hZ e97 Ar99 (j := (1 : Int32)) hin99 (g := (mkF m 144 #[.val (.int p0), .val (.int p1), .val (.int p2), .val (.int p3), .val (.int p4), .val (.int p5), .val (.int bd), .val (.int (2 : Int32)), .val (.int v0), .val (.int v1), .val (.int v2), .val (.int v3), .val (.ref a), .val (.ref b81), .val (.int (0 : Int32)), .unset] [(.int (v1 ^^^ (1 : Int32))), (.int (1 : Int32)), (.ref a)])) rfl rfl (hb hby at_144)
      have V_a_99 : Arv Z h99 a k7 .int (4 : Int32) [(.int (v0 ^^^ (1 : Int32))), (.int (v1 ^^^ (1 : Int32))), (.int v2), (.int v3)] (.int (0 : Int32)) := Arv.set Ar99 qc99 Sz99 Mn99 Hs99 Gs99 rfl W99 1 rfl (Nat.le_of_ble_eq_true rfl)
      have Eb_99 := Eb_97.wr W99
      have Vy_99 := Vy_97.other W99 (Ne.symm ne_a_y)
      have Fb_99 := Fb_97.other W99 (Or.inl (Ne.symm ne_a_b81))
      have Fc_99 := Fc_97.other W99 (Or.inl (Ne.symm ne_a_b81))
      have Z_99 : n0 ≤ h99.size := Nat.le_trans Z_97 (Keep.of_wr W99).1
      have N99 := Fr.snoc X99 N97 g_a
      have st100 : ∀ target, Steps p.tables e below (T99.setTop (mkF m 152 #[.val (.int p0), .val (.int p1), .val (.int p2), .val (.int p3), .val (.int p4), .val (.int p5), .val (.int bd), .val (.int (2 : Int32)), .val (.int v0), .val (.int v1), .val (.int v2), .val (.int v3), .val (.ref a), .val (.ref b81), .val (.int (0 : Int32)), .unset] [(.int (v2 ^^^ (1 : Int32))), (.int (2 : Int32)), (.ref a)])) target → Steps p.tables e below (T99.setTop (mkF m 145 #[.val (.int p0), .val (.int p1), .val (.int p2), .val (.int p3), .val (.int p4), .val (.int p5), .val (.int bd), .val (.int (2 : Int32)), .val (.int v0), .val (.int v1), .val (.int v2), .val (.int v3), .val (.ref a), .val (.ref b81), .val (.int (0 : Int32)), .unset] [])) target := by
        intro target kt
        refine XS.aload X99.here hx rfl (hb hby at_145) rfl rfl ?_
        refine XS.iconst X99.here hx rfl (hb hby at_147) ?_
        refine XS.iload X99.here hx rfl (hb hby at_148) rfl ?_
        refine XS.iconst X99.here hx rfl (hb hby at_150) ?_
        show Steps p.tables e below (T99.setTop (mkF m 151 #[.val (.int p0), .val (.int p1), .val (.int p2), .val (.int p3), .val (.int p4), .val (.int p5), .val (.int bd), .val (.int (2 : Int32)), .val (.int v0), .val (.int v1), .val (.int v2), .val (.int v3), .val (.ref a), .val (.ref b81), .val (.int (0 : Int32)), .unset] [(.int (1 : Int32)), (.int v2), (.int (2 : Int32)), (.ref a)])) _
        refine XS.ixor X99.here hx rfl (hb hby at_151) rfl ?_
        exact kt
      obtain ⟨cl101, Ar101, qc101, Sz101, Mn101, Hs101, Gs101⟩ := id V_a_99
      have hin101 : ¬ ((2 : Int32) < 0 ∨ cl101.slots.size ≤ ((2 : Int32)).toNatClampNeg) := inb_of Sz101 ⟨by decide, by decide⟩
      obtain ⟨T101, h101, X101, e101, W101, st101⟩ := stI X99 hx hZ e99 Ar101 (j := (2 : Int32)) hin101 (g := (mkF m 152 #[.val (.int p0), .val (.int p1), .val (.int p2), .val (.int p3), .val (.int p4), .val (.int p5), .val (.int bd), .val (.int (2 : Int32)), .val (.int v0), .val (.int v1), .val (.int v2), .val (.int v3), .val (.ref a), .val (.ref b81), .val (.int (0 : Int32)), .unset] [(.int (v2 ^^^ (1 : Int32))), (.int (2 : Int32)), (.ref a)])) rfl rfl (hb hby at_152)
      have V_a_101 : Arv Z h101 a k7 .int (4 : Int32) [(.int (v0 ^^^ (1 : Int32))), (.int (v1 ^^^ (1 : Int32))), (.int (v2 ^^^ (1 : Int32))), (.int v3)] (.int (0 : Int32)) := Arv.set Ar101 qc101 Sz101 Mn101 Hs101 Gs101 rfl W101 2 rfl (Nat.le_of_ble_eq_true rfl)
      have Eb_101 := Eb_99.wr W101
      have Vy_101 := Vy_99.other W101 (Ne.symm ne_a_y)
      have Fb_101 := Fb_99.other W101 (Or.inl (Ne.symm ne_a_b81))
      have Fc_101 := Fc_99.other W101 (Or.inl (Ne.symm ne_a_b81))
      have Z_101 : n0 ≤ h101.size := Nat.le_trans Z_99 (Keep.of_wr W101).1
      have N101 := Fr.snoc X101 N99 g_a
      have st102 : ∀ target, Steps p.tables e below (T101.setTop (mkF m 160 #[.val (.int p0), .val (.int p1), .val (.int p2), .val (.int p3), .val (.int p4), .val (.int p5), .val (.int bd), .val (.int (2 : Int32)), .val (.int v0), .val (.int v1), .val (.int v2), .val (.int v3), .val (.ref a), .val (.ref b81), .val (.int (0 : Int32)), .unset] [(.int (v3 ^^^ (1 : Int32))), (.int (3 : Int32)), (.ref a)])) target → Steps p.tables e below (T101.setTop (mkF m 153 #[.val (.int p0), .val (.int p1), .val (.int p2), .val (.int p3), .val (.int p4), .val (.int p5), .val (.int bd), .val (.int (2 : Int32)), .val (.int v0), .val (.int v1), .val (.int v2), .val (.int v3), .val (.ref a), .val (.ref b81), .val (.int (0 : Int32)), .unset] [])) target := by
        intro target kt
        refine XS.aload X101.here hx rfl (hb hby at_153) rfl rfl ?_
        refine XS.iconst X101.here hx rfl (hb hby at_155) ?_
        refine XS.iload X101.here hx rfl (hb hby at_156) rfl ?_
        refine XS.iconst X101.here hx rfl (hb hby at_158) ?_
        refine XS.ixor X101.here hx rfl (hb hby at_159) rfl ?_
        exact kt
      obtain ⟨cl103, Ar103, qc103, Sz103, Mn103, Hs103, Gs103⟩ := id V_a_101
      have hin103 : ¬ ((3 : Int32) < 0 ∨ cl103.slots.size ≤ ((3 : Int32)).toNatClampNeg) := inb_of Sz103 ⟨by decide, by decide⟩
      obtain ⟨T103, h103, X103, e103, W103, st103⟩ := stI X101 hx hZ e101 Ar103 (j := (3 : Int32)) hin103 (g := (mkF m 160 #[.val (.int p0), .val (.int p1), .val (.int p2), .val (.int p3), .val (.int p4), .val (.int p5), .val (.int bd), .val (.int (2 : Int32)), .val (.int v0), .val (.int v1), .val (.int v2), .val (.int v3), .val (.ref a), .val (.ref b81), .val (.int (0 : Int32)), .unset] [(.int (v3 ^^^ (1 : Int32))), (.int (3 : Int32)), (.ref a)])) rfl rfl (hb hby at_160)
      have V_a_103 : Arv Z h103 a k7 .int (4 : Int32) [(.int (v0 ^^^ (1 : Int32))), (.int (v1 ^^^ (1 : Int32))), (.int (v2 ^^^ (1 : Int32))), (.int (v3 ^^^ (1 : Int32)))] (.int (0 : Int32)) := Arv.set Ar103 qc103 Sz103 Mn103 Hs103 Gs103 rfl W103 3 rfl (Nat.le_of_ble_eq_true rfl)
      have Eb_103 := Eb_101.wr W103
      have Vy_103 := Vy_101.other W103 (Ne.symm ne_a_y)
      have Fb_103 := Fb_101.other W103 (Or.inl (Ne.symm ne_a_b81))
      have Fc_103 := Fc_101.other W103 (Or.inl (Ne.symm ne_a_b81))
      have Z_103 : n0 ≤ h103.size := Nat.le_trans Z_101 (Keep.of_wr W103).1
      have N103 := Fr.snoc X103 N101 g_a
      have st104 : ∀ target, Steps p.tables e below (T103.setTop (mkF m 177 #[.val (.int p0), .val (.int p1), .val (.int p2), .val (.int p3), .val (.int p4), .val (.int p5), .val (.int bd), .val (.int (2 : Int32)), .val (.int v0), .val (.int v1), .val (.int v2), .val (.int v3), .val (.ref a), .val (.ref b81), .val (.int (0 : Int32)), .val (.int (1 : Int32))] [(.int (0 : Int32)), (.ref b81)])) target → Steps p.tables e below (T103.setTop (mkF m 161 #[.val (.int p0), .val (.int p1), .val (.int p2), .val (.int p3), .val (.int p4), .val (.int p5), .val (.int bd), .val (.int (2 : Int32)), .val (.int v0), .val (.int v1), .val (.int v2), .val (.int v3), .val (.ref a), .val (.ref b81), .val (.int (0 : Int32)), .unset] [])) target := by
        intro target kt
        refine XS.iconst X103.here hx rfl (hb hby at_161) ?_
        refine XS.istore X103.here hx rfl (hb hby at_162) rfl (l' := #[.val (.int p0), .val (.int p1), .val (.int p2), .val (.int p3), .val (.int p4), .val (.int p5), .val (.int bd), .val (.int (2 : Int32)), .val (.int v0), .val (.int v1), .val (.int v2), .val (.int v3), .val (.ref a), .val (.ref b81), .val (.int (0 : Int32)), .val (.int (1 : Int32))]) rfl ?_
        show Steps p.tables e below (T103.setTop (mkF m 164 #[.val (.int p0), .val (.int p1), .val (.int p2), .val (.int p3), .val (.int p4), .val (.int p5), .val (.int bd), .val (.int (2 : Int32)), .val (.int v0), .val (.int v1), .val (.int v2), .val (.int v3), .val (.ref a), .val (.ref b81), .val (.int (0 : Int32)), .val (.int (1 : Int32))] [])) _
        refine XS.iload X103.here hx rfl (hb hby at_164) rfl ?_
        refine XS.ifNo X103.here hx rfl (hb hby at_166) rfl ((if0 _ _).trans (tlt (by decide : ((0 : Int32) < (2 : Int32)))).2.2.2) ?_
        refine XS.iload X103.here hx rfl (hb hby at_169) rfl ?_
        refine XS.ifNo X103.here hx rfl (hb hby at_171) rfl ((if0 _ _).trans (feq (by decide : ¬ ((1 : Int32) = (0 : Int32)))).1) ?_
        refine XS.aload X103.here hx rfl (hb hby at_174) rfl rfl ?_
        refine XS.iconst X103.here hx rfl (hb hby at_176) ?_
        exact kt
      obtain ⟨cl105, Ar105, qc105, Sz105, Mn105, Hs105, Gs105⟩ := id Vy_103
      have hin105 : ¬ ((0 : Int32) < 0 ∨ cl105.slots.size ≤ ((0 : Int32)).toNatClampNeg) := inb_of Sz105 ⟨by decide, by decide⟩
      obtain ⟨cq106, kq106, qv106a, qv106b, qv106c⟩ := isOf hZ e103 Eb_103
      obtain ⟨_, _, ⟨T106, L106, k106, n106⟩, -, X106, ⟨Lc106, hQ106, l106, y106, z106⟩, st106⟩ := X103.virtualBack hx (y := (⟨"com/example/libbisim/libbisim/CompactInts", "get", "(I)I"⟩ : MethodName)) (z := (⟨"com/example/libbisim/libbisim/CompactInts", "get", "(I)I"⟩ : MethodName)) hown (mvT hZ (hw _ (List.mem_of_getElem? (i := 38) rfl))) (mvT hZ (hw _ (List.mem_of_getElem? (i := 39) rfl))) (notFace_of_selects (args := #[]) (mvT hZ (hw _ (List.mem_of_getElem? (i := 41) rfl)))) (mvT hZ (hw _ (List.mem_of_getElem? (i := 41) rfl))) (mvT hZ (hw _ (List.mem_of_getElem? (i := 40) rfl))) (by decide) (backOf (W := 0) (rmGC l Z a0 hw [] b81 (0 : Int32) y cl105 (nar .char (v0.toUInt32.toUInt16.toUInt32.toInt32)) h103 n0 Z_103 Fb_103 Fc_103 Ar105 hin105 (Hs105.at hin105 rfl)) hZ (hw _ (List.mem_of_getElem? (i := 42) rfl)) (hw _ (List.mem_of_getElem? (i := 8) rfl)) (by decide) (by decide)) qv106a qv106c (g := (mkF m 177 #[.val (.int p0), .val (.int p1), .val (.int p2), .val (.int p3), .val (.int p4), .val (.int p5), .val (.int bd), .val (.int (2 : Int32)), .val (.int v0), .val (.int v1), .val (.int v2), .val (.int v3), .val (.ref a), .val (.ref b81), .val (.int (0 : Int32)), .val (.int (1 : Int32))] [(.int (0 : Int32)), (.ref b81)])) rfl (by rw [hml]; rfl) (Steps.refl _) (argsL := [(.int (0 : Int32))]) (rest := []) (lenOf pd_6 rfl) rfl (by show 2 * 0 + _ ≤ _; exact Nat.le_of_eq rfl) (hb hby at_177) (fun _ _ => ⟨rfl, e103, (by decide : 3 + 0 ≤ _), (by decide : 9 + 0 ≤ _)⟩)
      dsimp only [Pt.U, Pt.locs, Pt.cells, Pt.slots] at X106 l106 y106 z106 st106 hQ106
      subst l106 y106 z106
      obtain ⟨rfl, Nq106, e106⟩ := hQ106
      have N106 := Fr.app N103 Nq106
      rw [own_c16 R0.1 (by omega)] at st106
      have st107 : ∀ target, Steps p.tables e below (T106.setTop (mkF m 206 #[.val (.int p0), .val (.int p1), .val (.int p2), .val (.int p3), .val (.int p4), .val (.int p5), .val (.int bd), .val (.int (2 : Int32)), .val (.int v0), .val (.int v1), .val (.int v2), .val (.int v3), .val (.ref a), .val (.ref b81), .val (.int (0 : Int32)), .val (.int (1 : Int32))] [(.int (1 : Int32)), (.ref b81)])) target → Steps p.tables e below (T106.setTop (mkF m 180 #[.val (.int p0), .val (.int p1), .val (.int p2), .val (.int p3), .val (.int p4), .val (.int p5), .val (.int bd), .val (.int (2 : Int32)), .val (.int v0), .val (.int v1), .val (.int v2), .val (.int v3), .val (.ref a), .val (.ref b81), .val (.int (0 : Int32)), .val (.int (1 : Int32))] [(.int v0)])) target := by
        intro target kt
        refine XS.iload X106.here hx rfl (hb hby at_180) rfl ?_
        refine XS.icmpNo X106.here hx rfl (hb hby at_182) rfl (teq (rfl : v0 = v0)).2 ?_
        show Steps p.tables e below (T106.setTop (mkF m 185 #[.val (.int p0), .val (.int p1), .val (.int p2), .val (.int p3), .val (.int p4), .val (.int p5), .val (.int bd), .val (.int (2 : Int32)), .val (.int v0), .val (.int v1), .val (.int v2), .val (.int v3), .val (.ref a), .val (.ref b81), .val (.int (0 : Int32)), .val (.int (1 : Int32))] [])) _
        refine XS.iconst X106.here hx rfl (hb hby at_185) ?_
        refine XS.goto X106.here hx rfl (pc0 := 186) (pc' := 190) rfl (hb hby at_186) (by decide) (by decide) ?_
        refine XS.istore X106.here hx rfl (hb hby at_190) rfl (l' := #[.val (.int p0), .val (.int p1), .val (.int p2), .val (.int p3), .val (.int p4), .val (.int p5), .val (.int bd), .val (.int (2 : Int32)), .val (.int v0), .val (.int v1), .val (.int v2), .val (.int v3), .val (.ref a), .val (.ref b81), .val (.int (0 : Int32)), .val (.int (1 : Int32))]) rfl ?_
        refine XS.iload X106.here hx rfl (hb hby at_192) rfl ?_
        refine XS.iconst X106.here hx rfl (hb hby at_194) ?_
        refine XS.icmpNo X106.here hx rfl (hb hby at_195) rfl (tlt (by decide : ((1 : Int32) < (2 : Int32)))).2.2.2 ?_
        refine XS.iload X106.here hx rfl (hb hby at_198) rfl ?_
        refine XS.ifNo X106.here hx rfl (hb hby at_200) rfl ((if0 _ _).trans (feq (by decide : ¬ ((1 : Int32) = (0 : Int32)))).1) ?_
        show Steps p.tables e below (T106.setTop (mkF m 203 #[.val (.int p0), .val (.int p1), .val (.int p2), .val (.int p3), .val (.int p4), .val (.int p5), .val (.int bd), .val (.int (2 : Int32)), .val (.int v0), .val (.int v1), .val (.int v2), .val (.int v3), .val (.ref a), .val (.ref b81), .val (.int (0 : Int32)), .val (.int (1 : Int32))] [])) _
        refine XS.aload X106.here hx rfl (hb hby at_203) rfl rfl ?_
        refine XS.iconst X106.here hx rfl (hb hby at_205) ?_
        exact kt
      obtain ⟨cl108, Ar108, qc108, Sz108, Mn108, Hs108, Gs108⟩ := id Vy_103
      have hin108 : ¬ ((1 : Int32) < 0 ∨ cl108.slots.size ≤ ((1 : Int32)).toNatClampNeg) := inb_of Sz108 ⟨by decide, by decide⟩
      obtain ⟨cq109, kq109, qv109a, qv109b, qv109c⟩ := isOf hZ e106 Eb_103
      obtain ⟨_, _, ⟨T109, L109, k109, n109⟩, -, X109, ⟨Lc109, hQ109, l109, y109, z109⟩, st109⟩ := X106.virtualBack hx (y := (⟨"com/example/libbisim/libbisim/CompactInts", "get", "(I)I"⟩ : MethodName)) (z := (⟨"com/example/libbisim/libbisim/CompactInts", "get", "(I)I"⟩ : MethodName)) hown (mvT hZ (hw _ (List.mem_of_getElem? (i := 38) rfl))) (mvT hZ (hw _ (List.mem_of_getElem? (i := 39) rfl))) (notFace_of_selects (args := #[]) (mvT hZ (hw _ (List.mem_of_getElem? (i := 41) rfl)))) (mvT hZ (hw _ (List.mem_of_getElem? (i := 41) rfl))) (mvT hZ (hw _ (List.mem_of_getElem? (i := 40) rfl))) (by decide) (backOf (W := 0) (rmGC l Z a0 hw [] b81 (1 : Int32) y cl108 (nar .char (v1.toUInt32.toUInt16.toUInt32.toInt32)) h103 n0 Z_103 Fb_103 Fc_103 Ar108 hin108 (Hs108.at hin108 rfl)) hZ (hw _ (List.mem_of_getElem? (i := 42) rfl)) (hw _ (List.mem_of_getElem? (i := 8) rfl)) (by decide) (by decide)) qv109a qv109c (g := (mkF m 206 #[.val (.int p0), .val (.int p1), .val (.int p2), .val (.int p3), .val (.int p4), .val (.int p5), .val (.int bd), .val (.int (2 : Int32)), .val (.int v0), .val (.int v1), .val (.int v2), .val (.int v3), .val (.ref a), .val (.ref b81), .val (.int (0 : Int32)), .val (.int (1 : Int32))] [(.int (1 : Int32)), (.ref b81)])) rfl (by rw [hml]; rfl) (Steps.refl _) (argsL := [(.int (1 : Int32))]) (rest := []) (lenOf pd_6 rfl) rfl (by show 2 * 0 + _ ≤ _; exact Nat.le_of_eq rfl) (hb hby at_206) (fun _ _ => ⟨rfl, e106, (by decide : 3 + 0 ≤ _), (by decide : 9 + 0 ≤ _)⟩)
      dsimp only [Pt.U, Pt.locs, Pt.cells, Pt.slots] at X109 l109 y109 z109 st109 hQ109
      subst l109 y109 z109
      obtain ⟨rfl, Nq109, e109⟩ := hQ109
      have N109 := Fr.app N106 Nq109
      rw [own_c16 R1.1 (by omega)] at st109
      obtain ⟨fs, hr, hrun, hended, hW, hsame⟩ := X109.leave (v := some (.int (1 : Int32))) (fun h => by rw [Bd.returns] at h; cases h)
      refine ⟨_, _, pre0 _ (st1 _ (st2 _ (st3 _ (st4 _ (st5 _ (st6 _ (st7 _ (st8 _ (st9 _ (st10 _ (st11 _ (st12 _ (st13 _ (st14 _ (st15 _ (st80 _ (st81 _ (st96 _ (st97 _ (st98 _ (st99 _ (st100 _ (st101 _ (st102 _ (st103 _ (st104 _ (st106.trans (st107 _ (st109.trans ?_))))))))))))))))))))))))))))), hrun, hended, _, _, rfl, ?_, ⟨_, rfl⟩, hW, hsame.mono (by decide) (by decide)⟩
      · refine XS.iload X109.here hx rfl (hb hby at_209) rfl ?_
        refine XS.icmpNo X109.here hx rfl (hb hby at_211) rfl (teq (rfl : v1 = v1)).2 ?_
        refine XS.iconst X109.here hx rfl (hb hby at_214) ?_
        refine XS.goto X109.here hx rfl (pc0 := 215) (pc' := 219) rfl (hb hby at_215) (by decide) (by decide) ?_
        refine XS.istore X109.here hx rfl (hb hby at_219) rfl (l' := #[.val (.int p0), .val (.int p1), .val (.int p2), .val (.int p3), .val (.int p4), .val (.int p5), .val (.int bd), .val (.int (2 : Int32)), .val (.int v0), .val (.int v1), .val (.int v2), .val (.int v3), .val (.ref a), .val (.ref b81), .val (.int (0 : Int32)), .val (.int (1 : Int32))]) rfl ?_
        refine XS.iload X109.here hx rfl (hb hby at_221) rfl ?_
        show Steps p.tables e below (T109.setTop (mkF m 223 #[.val (.int p0), .val (.int p1), .val (.int p2), .val (.int p3), .val (.int p4), .val (.int p5), .val (.int bd), .val (.int (2 : Int32)), .val (.int v0), .val (.int v1), .val (.int v2), .val (.int v3), .val (.ref a), .val (.ref b81), .val (.int (0 : Int32)), .val (.int (1 : Int32))] [(.int (2 : Int32))])) _
        refine XS.iconst X109.here hx rfl (hb hby at_223) ?_
        refine XS.icmpYes X109.here hx rfl (pc0 := 224) (pc' := 250) rfl (hb hby at_224) rfl (flt (by decide : ¬ ((2 : Int32) < (2 : Int32)))).2.2.2 (by decide) (by decide) ?_
        refine XS.iload X109.here hx rfl (hb hby at_250) rfl ?_
        refine XS.iconst X109.here hx rfl (hb hby at_252) ?_
        refine XS.icmpYes X109.here hx rfl (pc0 := 253) (pc' := 279) rfl (hb hby at_253) rfl (flt (by decide : ¬ ((3 : Int32) < (2 : Int32)))).2.2.2 (by decide) (by decide) ?_
        refine XS.iload X109.here hx rfl (hb hby at_279) rfl ?_
        show Steps p.tables e below (T109.setTop (mkF m 281 #[.val (.int p0), .val (.int p1), .val (.int p2), .val (.int p3), .val (.int p4), .val (.int p5), .val (.int bd), .val (.int (2 : Int32)), .val (.int v0), .val (.int v1), .val (.int v2), .val (.int v3), .val (.ref a), .val (.ref b81), .val (.int (0 : Int32)), .val (.int (1 : Int32))] [(.int (1 : Int32))])) _
        exact retN X109 hx (t := .boolean) Bd.returns (by simp) (hb hby at_281) hr
      · show Q_rm0 Z p0 p1 p2 p3 p4 p5 h0 n0 _ T109.heap _
        rw [e109]
        exact ⟨rfl, N109⟩
    · have ne_a_y : a ≠ y := Nat.ne_of_lt (Nat.lt_of_lt_of_le (V_a_15).lt szy)
      have hle : bd.toInt ≤ 2147483647 := by have := Int32.toInt_lt bd; omega
      have st110 : ∀ target, Steps p.tables e below (T81.setTop (mkF m 136 #[.val (.int p0), .val (.int p1), .val (.int p2), .val (.int p3), .val (.int p4), .val (.int p5), .val (.int bd), .val (.int (2 : Int32)), .val (.int v0), .val (.int v1), .val (.int v2), .val (.int v3), .val (.ref a), .val (.ref b81), .val (.int (0 : Int32)), .unset] [(.int (v0 ^^^ (1 : Int32))), (.int (0 : Int32)), (.ref a)])) target → Steps p.tables e below (T81.setTop (mkF m 102 #[.val (.int p0), .val (.int p1), .val (.int p2), .val (.int p3), .val (.int p4), .val (.int p5), .val (.int bd), .val (.int (2 : Int32)), .val (.int v0), .val (.int v1), .val (.int v2), .val (.int v3), .val (.ref a), .unset, .unset, .unset] [(.ref b81)])) target := by
        intro target kt
        refine XS.astore X81.here hx rfl (hb hby at_102) rfl rfl (l' := #[.val (.int p0), .val (.int p1), .val (.int p2), .val (.int p3), .val (.int p4), .val (.int p5), .val (.int bd), .val (.int (2 : Int32)), .val (.int v0), .val (.int v1), .val (.int v2), .val (.int v3), .val (.ref a), .val (.ref b81), .unset, .unset]) rfl ?_
        refine XS.iload X81.here hx rfl (hb hby at_104) rfl ?_
        show Steps p.tables e below (T81.setTop (mkF m 106 #[.val (.int p0), .val (.int p1), .val (.int p2), .val (.int p3), .val (.int p4), .val (.int p5), .val (.int bd), .val (.int (2 : Int32)), .val (.int v0), .val (.int v1), .val (.int v2), .val (.int v3), .val (.ref a), .val (.ref b81), .unset, .unset] [(.int bd)])) _
        refine X81.ldcInt hx hown (mvT hZ (hw _ (List.mem_of_getElem? (i := 25) rfl))) (g := (mkF m 106 #[.val (.int p0), .val (.int p1), .val (.int p2), .val (.int p3), .val (.int p4), .val (.int p5), .val (.int bd), .val (.int (2 : Int32)), .val (.int v0), .val (.int v1), .val (.int v2), .val (.int v3), .val (.ref a), .val (.ref b81), .unset, .unset] [(.int bd)])) rfl (hb hby at_106) _ ?_
        refine XS.icmpNo X81.here hx rfl (hb hby at_108) rfl (tlt q1).2.2.2 ?_
        refine XS.iload X81.here hx rfl (hb hby at_111) rfl ?_
        refine XS.iconst X81.here hx rfl (hb hby at_113) ?_
        refine XS.icmpYes X81.here hx rfl (pc0 := 114) (pc' := 121) rfl (hb hby at_114) rfl (feq (by decide : ¬ ((2 : Int32) = (4 : Int32)))).2 (by decide) (by decide) ?_
        refine XS.iconst X81.here hx rfl (hb hby at_121) ?_
        refine XS.istore X81.here hx rfl (hb hby at_122) rfl (l' := #[.val (.int p0), .val (.int p1), .val (.int p2), .val (.int p3), .val (.int p4), .val (.int p5), .val (.int bd), .val (.int (2 : Int32)), .val (.int v0), .val (.int v1), .val (.int v2), .val (.int v3), .val (.ref a), .val (.ref b81), .val (.int (0 : Int32)), .unset]) rfl ?_
        refine XS.iload X81.here hx rfl (hb hby at_124) rfl ?_
        show Steps p.tables e below (T81.setTop (mkF m 126 #[.val (.int p0), .val (.int p1), .val (.int p2), .val (.int p3), .val (.int p4), .val (.int p5), .val (.int bd), .val (.int (2 : Int32)), .val (.int v0), .val (.int v1), .val (.int v2), .val (.int v3), .val (.ref a), .val (.ref b81), .val (.int (0 : Int32)), .unset] [(.int (0 : Int32))])) _
        refine XS.ifNo X81.here hx rfl (hb hby at_126) rfl ((if0 _ _).trans (teq (rfl : (0 : Int32) = (0 : Int32))).2) ?_
        refine XS.aload X81.here hx rfl (hb hby at_129) rfl rfl ?_
        refine XS.iconst X81.here hx rfl (hb hby at_131) ?_
        refine XS.iload X81.here hx rfl (hb hby at_132) rfl ?_
        refine XS.iconst X81.here hx rfl (hb hby at_134) ?_
        refine XS.ixor X81.here hx rfl (hb hby at_135) rfl ?_
        exact kt
      obtain ⟨cl111, Ar111, qc111, Sz111, Mn111, Hs111, Gs111⟩ := id V_a_81
      have hin111 : ¬ ((0 : Int32) < 0 ∨ cl111.slots.size ≤ ((0 : Int32)).toNatClampNeg) := inb_of Sz111 ⟨by decide, by decide⟩
      obtain ⟨T111, h111, X111, e111, W111, st111⟩ := stI X81 hx hZ rfl Ar111 (j := (0 : Int32)) hin111 (g := (mkF m 136 #[.val (.int p0), .val (.int p1), .val (.int p2), .val (.int p3), .val (.int p4), .val (.int p5), .val (.int bd), .val (.int (2 : Int32)), .val (.int v0), .val (.int v1), .val (.int v2), .val (.int v3), .val (.ref a), .val (.ref b81), .val (.int (0 : Int32)), .unset] [(.int (v0 ^^^ (1 : Int32))), (.int (0 : Int32)), (.ref a)])) rfl rfl (hb hby at_136)
      have V_a_111 : Arv Z h111 a k7 .int (4 : Int32) [(.int (v0 ^^^ (1 : Int32))), (.int v1), (.int v2), (.int v3)] (.int (0 : Int32)) := Arv.set Ar111 qc111 Sz111 Mn111 Hs111 Gs111 rfl W111 0 rfl (Nat.le_of_ble_eq_true rfl)
      have Eb_111 := Eb.wr W111
      have Vy_111 := Vy.other W111 (Ne.symm ne_a_y)
      have Fb_111 := Fb.other W111 (Or.inl (Ne.symm ne_a_b81))
      have Fc_111 := Fc.other W111 (Or.inl (Ne.symm ne_a_b81))
      have Fi_111 := Fi.other W111 (Or.inl (Ne.symm ne_a_b81))
      have Z_111 : n0 ≤ h111.size := Nat.le_trans Z_81 (Keep.of_wr W111).1
      have N111 := Fr.snoc X111 N81 g_a
      have st112 : ∀ target, Steps p.tables e below (T111.setTop (mkF m 144 #[.val (.int p0), .val (.int p1), .val (.int p2), .val (.int p3), .val (.int p4), .val (.int p5), .val (.int bd), .val (.int (2 : Int32)), .val (.int v0), .val (.int v1), .val (.int v2), .val (.int v3), .val (.ref a), .val (.ref b81), .val (.int (0 : Int32)), .unset] [(.int (v1 ^^^ (1 : Int32))), (.int (1 : Int32)), (.ref a)])) target → Steps p.tables e below (T111.setTop (mkF m 137 #[.val (.int p0), .val (.int p1), .val (.int p2), .val (.int p3), .val (.int p4), .val (.int p5), .val (.int bd), .val (.int (2 : Int32)), .val (.int v0), .val (.int v1), .val (.int v2), .val (.int v3), .val (.ref a), .val (.ref b81), .val (.int (0 : Int32)), .unset] [])) target := by
        intro target kt
        refine XS.aload X111.here hx rfl (hb hby at_137) rfl rfl ?_
        refine XS.iconst X111.here hx rfl (hb hby at_139) ?_
        show Steps p.tables e below (T111.setTop (mkF m 140 #[.val (.int p0), .val (.int p1), .val (.int p2), .val (.int p3), .val (.int p4), .val (.int p5), .val (.int bd), .val (.int (2 : Int32)), .val (.int v0), .val (.int v1), .val (.int v2), .val (.int v3), .val (.ref a), .val (.ref b81), .val (.int (0 : Int32)), .unset] [(.int (1 : Int32)), (.ref a)])) _
        refine XS.iload X111.here hx rfl (hb hby at_140) rfl ?_
        refine XS.iconst X111.here hx rfl (hb hby at_142) ?_
        refine XS.ixor X111.here hx rfl (hb hby at_143) rfl ?_
        exact kt
      obtain ⟨cl113, Ar113, qc113, Sz113, Mn113, Hs113, Gs113⟩ := id V_a_111
      have hin113 : ¬ ((1 : Int32) < 0 ∨ cl113.slots.size ≤ ((1 : Int32)).toNatClampNeg) := inb_of Sz113 ⟨by decide, by decide⟩
      obtain ⟨T113, h113, X113, e113, W113, st113⟩ := stI X111 hx hZ e111 Ar113 (j := (1 : Int32)) hin113 (g := (mkF m 144 #[.val (.int p0), .val (.int p1), .val (.int p2), .val (.int p3), .val (.int p4), .val (.int p5), .val (.int bd), .val (.int (2 : Int32)), .val (.int v0), .val (.int v1), .val (.int v2), .val (.int v3), .val (.ref a), .val (.ref b81), .val (.int (0 : Int32)), .unset] [(.int (v1 ^^^ (1 : Int32))), (.int (1 : Int32)), (.ref a)])) rfl rfl (hb hby at_144)
      have V_a_113 : Arv Z h113 a k7 .int (4 : Int32) [(.int (v0 ^^^ (1 : Int32))), (.int (v1 ^^^ (1 : Int32))), (.int v2), (.int v3)] (.int (0 : Int32)) := Arv.set Ar113 qc113 Sz113 Mn113 Hs113 Gs113 rfl W113 1 rfl (Nat.le_of_ble_eq_true rfl)
      have Eb_113 := Eb_111.wr W113
      have Vy_113 := Vy_111.other W113 (Ne.symm ne_a_y)
      have Fb_113 := Fb_111.other W113 (Or.inl (Ne.symm ne_a_b81))
      have Fc_113 := Fc_111.other W113 (Or.inl (Ne.symm ne_a_b81))
      have Fi_113 := Fi_111.other W113 (Or.inl (Ne.symm ne_a_b81))
      have Z_113 : n0 ≤ h113.size := Nat.le_trans Z_111 (Keep.of_wr W113).1
      have N113 := Fr.snoc X113 N111 g_a
      have st114 : ∀ target, Steps p.tables e below (T113.setTop (mkF m 152 #[.val (.int p0), .val (.int p1), .val (.int p2), .val (.int p3), .val (.int p4), .val (.int p5), .val (.int bd), .val (.int (2 : Int32)), .val (.int v0), .val (.int v1), .val (.int v2), .val (.int v3), .val (.ref a), .val (.ref b81), .val (.int (0 : Int32)), .unset] [(.int (v2 ^^^ (1 : Int32))), (.int (2 : Int32)), (.ref a)])) target → Steps p.tables e below (T113.setTop (mkF m 145 #[.val (.int p0), .val (.int p1), .val (.int p2), .val (.int p3), .val (.int p4), .val (.int p5), .val (.int bd), .val (.int (2 : Int32)), .val (.int v0), .val (.int v1), .val (.int v2), .val (.int v3), .val (.ref a), .val (.ref b81), .val (.int (0 : Int32)), .unset] [])) target := by
        intro target kt
        refine XS.aload X113.here hx rfl (hb hby at_145) rfl rfl ?_
        refine XS.iconst X113.here hx rfl (hb hby at_147) ?_
        refine XS.iload X113.here hx rfl (hb hby at_148) rfl ?_
        refine XS.iconst X113.here hx rfl (hb hby at_150) ?_
        refine XS.ixor X113.here hx rfl (hb hby at_151) rfl ?_
        exact kt
      obtain ⟨cl115, Ar115, qc115, Sz115, Mn115, Hs115, Gs115⟩ := id V_a_113
      have hin115 : ¬ ((2 : Int32) < 0 ∨ cl115.slots.size ≤ ((2 : Int32)).toNatClampNeg) := inb_of Sz115 ⟨by decide, by decide⟩
      obtain ⟨T115, h115, X115, e115, W115, st115⟩ := stI X113 hx hZ e113 Ar115 (j := (2 : Int32)) hin115 (g := (mkF m 152 #[.val (.int p0), .val (.int p1), .val (.int p2), .val (.int p3), .val (.int p4), .val (.int p5), .val (.int bd), .val (.int (2 : Int32)), .val (.int v0), .val (.int v1), .val (.int v2), .val (.int v3), .val (.ref a), .val (.ref b81), .val (.int (0 : Int32)), .unset] [(.int (v2 ^^^ (1 : Int32))), (.int (2 : Int32)), (.ref a)])) rfl rfl (hb hby at_152)
      have V_a_115 : Arv Z h115 a k7 .int (4 : Int32) [(.int (v0 ^^^ (1 : Int32))), (.int (v1 ^^^ (1 : Int32))), (.int (v2 ^^^ (1 : Int32))), (.int v3)] (.int (0 : Int32)) := Arv.set Ar115 qc115 Sz115 Mn115 Hs115 Gs115 rfl W115 2 rfl (Nat.le_of_ble_eq_true rfl)
      have Eb_115 := Eb_113.wr W115
      have Vy_115 := Vy_113.other W115 (Ne.symm ne_a_y)
      have Fb_115 := Fb_113.other W115 (Or.inl (Ne.symm ne_a_b81))
      have Fc_115 := Fc_113.other W115 (Or.inl (Ne.symm ne_a_b81))
      have Fi_115 := Fi_113.other W115 (Or.inl (Ne.symm ne_a_b81))
      have Z_115 : n0 ≤ h115.size := Nat.le_trans Z_113 (Keep.of_wr W115).1
      have N115 := Fr.snoc X115 N113 g_a
      have st116 : ∀ target, Steps p.tables e below (T115.setTop (mkF m 160 #[.val (.int p0), .val (.int p1), .val (.int p2), .val (.int p3), .val (.int p4), .val (.int p5), .val (.int bd), .val (.int (2 : Int32)), .val (.int v0), .val (.int v1), .val (.int v2), .val (.int v3), .val (.ref a), .val (.ref b81), .val (.int (0 : Int32)), .unset] [(.int (v3 ^^^ (1 : Int32))), (.int (3 : Int32)), (.ref a)])) target → Steps p.tables e below (T115.setTop (mkF m 153 #[.val (.int p0), .val (.int p1), .val (.int p2), .val (.int p3), .val (.int p4), .val (.int p5), .val (.int bd), .val (.int (2 : Int32)), .val (.int v0), .val (.int v1), .val (.int v2), .val (.int v3), .val (.ref a), .val (.ref b81), .val (.int (0 : Int32)), .unset] [])) target := by
        intro target kt
        show Steps p.tables e below (T115.setTop (mkF m 153 #[.val (.int p0), .val (.int p1), .val (.int p2), .val (.int p3), .val (.int p4), .val (.int p5), .val (.int bd), .val (.int (2 : Int32)), .val (.int v0), .val (.int v1), .val (.int v2), .val (.int v3), .val (.ref a), .val (.ref b81), .val (.int (0 : Int32)), .unset] [])) _
        refine XS.aload X115.here hx rfl (hb hby at_153) rfl rfl ?_
        refine XS.iconst X115.here hx rfl (hb hby at_155) ?_
        refine XS.iload X115.here hx rfl (hb hby at_156) rfl ?_
        refine XS.iconst X115.here hx rfl (hb hby at_158) ?_
        refine XS.ixor X115.here hx rfl (hb hby at_159) rfl ?_
        exact kt
      obtain ⟨cl117, Ar117, qc117, Sz117, Mn117, Hs117, Gs117⟩ := id V_a_115
      have hin117 : ¬ ((3 : Int32) < 0 ∨ cl117.slots.size ≤ ((3 : Int32)).toNatClampNeg) := inb_of Sz117 ⟨by decide, by decide⟩
      obtain ⟨T117, h117, X117, e117, W117, st117⟩ := stI X115 hx hZ e115 Ar117 (j := (3 : Int32)) hin117 (g := (mkF m 160 #[.val (.int p0), .val (.int p1), .val (.int p2), .val (.int p3), .val (.int p4), .val (.int p5), .val (.int bd), .val (.int (2 : Int32)), .val (.int v0), .val (.int v1), .val (.int v2), .val (.int v3), .val (.ref a), .val (.ref b81), .val (.int (0 : Int32)), .unset] [(.int (v3 ^^^ (1 : Int32))), (.int (3 : Int32)), (.ref a)])) rfl rfl (hb hby at_160)
      have V_a_117 : Arv Z h117 a k7 .int (4 : Int32) [(.int (v0 ^^^ (1 : Int32))), (.int (v1 ^^^ (1 : Int32))), (.int (v2 ^^^ (1 : Int32))), (.int (v3 ^^^ (1 : Int32)))] (.int (0 : Int32)) := Arv.set Ar117 qc117 Sz117 Mn117 Hs117 Gs117 rfl W117 3 rfl (Nat.le_of_ble_eq_true rfl)
      have Eb_117 := Eb_115.wr W117
      have Vy_117 := Vy_115.other W117 (Ne.symm ne_a_y)
      have Fb_117 := Fb_115.other W117 (Or.inl (Ne.symm ne_a_b81))
      have Fc_117 := Fc_115.other W117 (Or.inl (Ne.symm ne_a_b81))
      have Fi_117 := Fi_115.other W117 (Or.inl (Ne.symm ne_a_b81))
      have Z_117 : n0 ≤ h117.size := Nat.le_trans Z_115 (Keep.of_wr W117).1
      have N117 := Fr.snoc X117 N115 g_a
      have st118 : ∀ target, Steps p.tables e below (T117.setTop (mkF m 177 #[.val (.int p0), .val (.int p1), .val (.int p2), .val (.int p3), .val (.int p4), .val (.int p5), .val (.int bd), .val (.int (2 : Int32)), .val (.int v0), .val (.int v1), .val (.int v2), .val (.int v3), .val (.ref a), .val (.ref b81), .val (.int (0 : Int32)), .val (.int (1 : Int32))] [(.int (0 : Int32)), (.ref b81)])) target → Steps p.tables e below (T117.setTop (mkF m 161 #[.val (.int p0), .val (.int p1), .val (.int p2), .val (.int p3), .val (.int p4), .val (.int p5), .val (.int bd), .val (.int (2 : Int32)), .val (.int v0), .val (.int v1), .val (.int v2), .val (.int v3), .val (.ref a), .val (.ref b81), .val (.int (0 : Int32)), .unset] [])) target := by
        intro target kt
        refine XS.iconst X117.here hx rfl (hb hby at_161) ?_
        refine XS.istore X117.here hx rfl (hb hby at_162) rfl (l' := #[.val (.int p0), .val (.int p1), .val (.int p2), .val (.int p3), .val (.int p4), .val (.int p5), .val (.int bd), .val (.int (2 : Int32)), .val (.int v0), .val (.int v1), .val (.int v2), .val (.int v3), .val (.ref a), .val (.ref b81), .val (.int (0 : Int32)), .val (.int (1 : Int32))]) rfl ?_
        refine XS.iload X117.here hx rfl (hb hby at_164) rfl ?_
        show Steps p.tables e below (T117.setTop (mkF m 166 #[.val (.int p0), .val (.int p1), .val (.int p2), .val (.int p3), .val (.int p4), .val (.int p5), .val (.int bd), .val (.int (2 : Int32)), .val (.int v0), .val (.int v1), .val (.int v2), .val (.int v3), .val (.ref a), .val (.ref b81), .val (.int (0 : Int32)), .val (.int (1 : Int32))] [(.int (2 : Int32))])) _
        refine XS.ifNo X117.here hx rfl (hb hby at_166) rfl ((if0 _ _).trans (tlt (by decide : ((0 : Int32) < (2 : Int32)))).2.2.2) ?_
        refine XS.iload X117.here hx rfl (hb hby at_169) rfl ?_
        refine XS.ifNo X117.here hx rfl (hb hby at_171) rfl ((if0 _ _).trans (feq (by decide : ¬ ((1 : Int32) = (0 : Int32)))).1) ?_
        refine XS.aload X117.here hx rfl (hb hby at_174) rfl rfl ?_
        refine XS.iconst X117.here hx rfl (hb hby at_176) ?_
        exact kt
      obtain ⟨cl119, Ar119, qc119, Sz119, Mn119, Hs119, Gs119⟩ := id Vy_117
      have hin119 : ¬ ((0 : Int32) < 0 ∨ cl119.slots.size ≤ ((0 : Int32)).toNatClampNeg) := inb_of Sz119 ⟨by decide, by decide⟩
      obtain ⟨cq120, kq120, qv120a, qv120b, qv120c⟩ := isOf hZ e117 Eb_117
      obtain ⟨_, _, ⟨T120, L120, k120, n120⟩, -, X120, ⟨Lc120, hQ120, l120, y120, z120⟩, st120⟩ := X117.virtualBack hx (y := (⟨"com/example/libbisim/libbisim/CompactInts", "get", "(I)I"⟩ : MethodName)) (z := (⟨"com/example/libbisim/libbisim/CompactInts", "get", "(I)I"⟩ : MethodName)) hown (mvT hZ (hw _ (List.mem_of_getElem? (i := 38) rfl))) (mvT hZ (hw _ (List.mem_of_getElem? (i := 39) rfl))) (notFace_of_selects (args := #[]) (mvT hZ (hw _ (List.mem_of_getElem? (i := 41) rfl)))) (mvT hZ (hw _ (List.mem_of_getElem? (i := 41) rfl))) (mvT hZ (hw _ (List.mem_of_getElem? (i := 40) rfl))) (by decide) (backOf (W := 0) (rmGI l Z a0 hw [] b81 (0 : Int32) y cl119 v0 h117 n0 Z_117 Fb_117 Fc_117 Fi_117 Ar119 hin119 (Hs119.at hin119 rfl)) hZ (hw _ (List.mem_of_getElem? (i := 42) rfl)) (hw _ (List.mem_of_getElem? (i := 8) rfl)) (by decide) (by decide)) qv120a qv120c (g := (mkF m 177 #[.val (.int p0), .val (.int p1), .val (.int p2), .val (.int p3), .val (.int p4), .val (.int p5), .val (.int bd), .val (.int (2 : Int32)), .val (.int v0), .val (.int v1), .val (.int v2), .val (.int v3), .val (.ref a), .val (.ref b81), .val (.int (0 : Int32)), .val (.int (1 : Int32))] [(.int (0 : Int32)), (.ref b81)])) rfl (by rw [hml]; rfl) (Steps.refl _) (argsL := [(.int (0 : Int32))]) (rest := []) (lenOf pd_6 rfl) rfl (by show 2 * 0 + _ ≤ _; exact Nat.le_of_eq rfl) (hb hby at_177) (fun _ _ => ⟨rfl, e117, (by decide : 3 + 0 ≤ _), (by decide : 9 + 0 ≤ _)⟩)
      dsimp only [Pt.U, Pt.locs, Pt.cells, Pt.slots] at X120 l120 y120 z120 st120 hQ120
      subst l120 y120 z120
      obtain ⟨rfl, Nq120, e120⟩ := hQ120
      have N120 := Fr.app N117 Nq120
      have st121 : ∀ target, Steps p.tables e below (T120.setTop (mkF m 206 #[.val (.int p0), .val (.int p1), .val (.int p2), .val (.int p3), .val (.int p4), .val (.int p5), .val (.int bd), .val (.int (2 : Int32)), .val (.int v0), .val (.int v1), .val (.int v2), .val (.int v3), .val (.ref a), .val (.ref b81), .val (.int (0 : Int32)), .val (.int (1 : Int32))] [(.int (1 : Int32)), (.ref b81)])) target → Steps p.tables e below (T120.setTop (mkF m 180 #[.val (.int p0), .val (.int p1), .val (.int p2), .val (.int p3), .val (.int p4), .val (.int p5), .val (.int bd), .val (.int (2 : Int32)), .val (.int v0), .val (.int v1), .val (.int v2), .val (.int v3), .val (.ref a), .val (.ref b81), .val (.int (0 : Int32)), .val (.int (1 : Int32))] [(.int v0)])) target := by
        intro target kt
        refine XS.iload X120.here hx rfl (hb hby at_180) rfl ?_
        refine XS.icmpNo X120.here hx rfl (hb hby at_182) rfl (teq (rfl : v0 = v0)).2 ?_
        refine XS.iconst X120.here hx rfl (hb hby at_185) ?_
        show Steps p.tables e below (T120.setTop (mkF m 186 #[.val (.int p0), .val (.int p1), .val (.int p2), .val (.int p3), .val (.int p4), .val (.int p5), .val (.int bd), .val (.int (2 : Int32)), .val (.int v0), .val (.int v1), .val (.int v2), .val (.int v3), .val (.ref a), .val (.ref b81), .val (.int (0 : Int32)), .val (.int (1 : Int32))] [(.int (1 : Int32))])) _
        refine XS.goto X120.here hx rfl (pc0 := 186) (pc' := 190) rfl (hb hby at_186) (by decide) (by decide) ?_
        refine XS.istore X120.here hx rfl (hb hby at_190) rfl (l' := #[.val (.int p0), .val (.int p1), .val (.int p2), .val (.int p3), .val (.int p4), .val (.int p5), .val (.int bd), .val (.int (2 : Int32)), .val (.int v0), .val (.int v1), .val (.int v2), .val (.int v3), .val (.ref a), .val (.ref b81), .val (.int (0 : Int32)), .val (.int (1 : Int32))]) rfl ?_
        refine XS.iload X120.here hx rfl (hb hby at_192) rfl ?_
        refine XS.iconst X120.here hx rfl (hb hby at_194) ?_
        refine XS.icmpNo X120.here hx rfl (hb hby at_195) rfl (tlt (by decide : ((1 : Int32) < (2 : Int32)))).2.2.2 ?_
        refine XS.iload X120.here hx rfl (hb hby at_198) rfl ?_
        refine XS.ifNo X120.here hx rfl (hb hby at_200) rfl ((if0 _ _).trans (feq (by decide : ¬ ((1 : Int32) = (0 : Int32)))).1) ?_
        refine XS.aload X120.here hx rfl (hb hby at_203) rfl rfl ?_
        show Steps p.tables e below (T120.setTop (mkF m 205 #[.val (.int p0), .val (.int p1), .val (.int p2), .val (.int p3), .val (.int p4), .val (.int p5), .val (.int bd), .val (.int (2 : Int32)), .val (.int v0), .val (.int v1), .val (.int v2), .val (.int v3), .val (.ref a), .val (.ref b81), .val (.int (0 : Int32)), .val (.int (1 : Int32))] [(.ref b81)])) _
        refine XS.iconst X120.here hx rfl (hb hby at_205) ?_
        exact kt
      obtain ⟨cl122, Ar122, qc122, Sz122, Mn122, Hs122, Gs122⟩ := id Vy_117
      have hin122 : ¬ ((1 : Int32) < 0 ∨ cl122.slots.size ≤ ((1 : Int32)).toNatClampNeg) := inb_of Sz122 ⟨by decide, by decide⟩
      obtain ⟨cq123, kq123, qv123a, qv123b, qv123c⟩ := isOf hZ e120 Eb_117
      obtain ⟨_, _, ⟨T123, L123, k123, n123⟩, -, X123, ⟨Lc123, hQ123, l123, y123, z123⟩, st123⟩ := X120.virtualBack hx (y := (⟨"com/example/libbisim/libbisim/CompactInts", "get", "(I)I"⟩ : MethodName)) (z := (⟨"com/example/libbisim/libbisim/CompactInts", "get", "(I)I"⟩ : MethodName)) hown (mvT hZ (hw _ (List.mem_of_getElem? (i := 38) rfl))) (mvT hZ (hw _ (List.mem_of_getElem? (i := 39) rfl))) (notFace_of_selects (args := #[]) (mvT hZ (hw _ (List.mem_of_getElem? (i := 41) rfl)))) (mvT hZ (hw _ (List.mem_of_getElem? (i := 41) rfl))) (mvT hZ (hw _ (List.mem_of_getElem? (i := 40) rfl))) (by decide) (backOf (W := 0) (rmGI l Z a0 hw [] b81 (1 : Int32) y cl122 v1 h117 n0 Z_117 Fb_117 Fc_117 Fi_117 Ar122 hin122 (Hs122.at hin122 rfl)) hZ (hw _ (List.mem_of_getElem? (i := 42) rfl)) (hw _ (List.mem_of_getElem? (i := 8) rfl)) (by decide) (by decide)) qv123a qv123c (g := (mkF m 206 #[.val (.int p0), .val (.int p1), .val (.int p2), .val (.int p3), .val (.int p4), .val (.int p5), .val (.int bd), .val (.int (2 : Int32)), .val (.int v0), .val (.int v1), .val (.int v2), .val (.int v3), .val (.ref a), .val (.ref b81), .val (.int (0 : Int32)), .val (.int (1 : Int32))] [(.int (1 : Int32)), (.ref b81)])) rfl (by rw [hml]; rfl) (Steps.refl _) (argsL := [(.int (1 : Int32))]) (rest := []) (lenOf pd_6 rfl) rfl (by show 2 * 0 + _ ≤ _; exact Nat.le_of_eq rfl) (hb hby at_206) (fun _ _ => ⟨rfl, e120, (by decide : 3 + 0 ≤ _), (by decide : 9 + 0 ≤ _)⟩)
      dsimp only [Pt.U, Pt.locs, Pt.cells, Pt.slots] at X123 l123 y123 z123 st123 hQ123
      subst l123 y123 z123
      obtain ⟨rfl, Nq123, e123⟩ := hQ123
      have N123 := Fr.app N120 Nq123
      obtain ⟨fs, hr, hrun, hended, hW, hsame⟩ := X123.leave (v := some (.int (1 : Int32))) (fun h => by rw [Bd.returns] at h; cases h)
      refine ⟨_, _, pre0 _ (st1 _ (st2 _ (st3 _ (st4 _ (st5 _ (st6 _ (st7 _ (st8 _ (st9 _ (st10 _ (st11 _ (st12 _ (st13 _ (st14 _ (st15 _ (st80 _ (st81 _ (st110 _ (st111 _ (st112 _ (st113 _ (st114 _ (st115 _ (st116 _ (st117 _ (st118 _ (st120.trans (st121 _ (st123.trans ?_))))))))))))))))))))))))))))), hrun, hended, _, _, rfl, ?_, ⟨_, rfl⟩, hW, hsame.mono (by decide) (by decide)⟩
      · refine XS.iload X123.here hx rfl (hb hby at_209) rfl ?_
        refine XS.icmpNo X123.here hx rfl (hb hby at_211) rfl (teq (rfl : v1 = v1)).2 ?_
        refine XS.iconst X123.here hx rfl (hb hby at_214) ?_
        refine XS.goto X123.here hx rfl (pc0 := 215) (pc' := 219) rfl (hb hby at_215) (by decide) (by decide) ?_
        refine XS.istore X123.here hx rfl (hb hby at_219) rfl (l' := #[.val (.int p0), .val (.int p1), .val (.int p2), .val (.int p3), .val (.int p4), .val (.int p5), .val (.int bd), .val (.int (2 : Int32)), .val (.int v0), .val (.int v1), .val (.int v2), .val (.int v3), .val (.ref a), .val (.ref b81), .val (.int (0 : Int32)), .val (.int (1 : Int32))]) rfl ?_
        refine XS.iload X123.here hx rfl (hb hby at_221) rfl ?_
        refine XS.iconst X123.here hx rfl (hb hby at_223) ?_
        show Steps p.tables e below (T123.setTop (mkF m 224 #[.val (.int p0), .val (.int p1), .val (.int p2), .val (.int p3), .val (.int p4), .val (.int p5), .val (.int bd), .val (.int (2 : Int32)), .val (.int v0), .val (.int v1), .val (.int v2), .val (.int v3), .val (.ref a), .val (.ref b81), .val (.int (0 : Int32)), .val (.int (1 : Int32))] [(.int (2 : Int32)), (.int (2 : Int32))])) _
        refine XS.icmpYes X123.here hx rfl (pc0 := 224) (pc' := 250) rfl (hb hby at_224) rfl (flt (by decide : ¬ ((2 : Int32) < (2 : Int32)))).2.2.2 (by decide) (by decide) ?_
        refine XS.iload X123.here hx rfl (hb hby at_250) rfl ?_
        refine XS.iconst X123.here hx rfl (hb hby at_252) ?_
        refine XS.icmpYes X123.here hx rfl (pc0 := 253) (pc' := 279) rfl (hb hby at_253) rfl (flt (by decide : ¬ ((3 : Int32) < (2 : Int32)))).2.2.2 (by decide) (by decide) ?_
        refine XS.iload X123.here hx rfl (hb hby at_279) rfl ?_
        show Steps p.tables e below (T123.setTop (mkF m 281 #[.val (.int p0), .val (.int p1), .val (.int p2), .val (.int p3), .val (.int p4), .val (.int p5), .val (.int bd), .val (.int (2 : Int32)), .val (.int v0), .val (.int v1), .val (.int v2), .val (.int v3), .val (.ref a), .val (.ref b81), .val (.int (0 : Int32)), .val (.int (1 : Int32))] [(.int (1 : Int32))])) _
        exact retN X123 hx (t := .boolean) Bd.returns (by simp) (hb hby at_281) hr
      · show Q_rm0 Z p0 p1 p2 p3 p4 p5 h0 n0 _ T123.heap _
        rw [e123]
        exact ⟨rfl, N123⟩
  · have st124 : ∀ target, Steps p.tables e below (T15.setTop (mkF m 99 #[.val (.int p0), .val (.int p1), .val (.int p2), .val (.int p3), .val (.int p4), .val (.int p5), .val (.int bd), .val (.int (3 : Int32)), .val (.int v0), .val (.int v1), .val (.int v2), .val (.int v3), .val (.ref a), .unset, .unset, .unset] [(.int bd), (.int (3 : Int32)), (.ref a)])) target → Steps p.tables e below (T15.setTop (mkF m 93 #[.val (.int p0), .val (.int p1), .val (.int p2), .val (.int p3), .val (.int p4), .val (.int p5), .val (.int bd), .val (.int (3 : Int32)), .val (.int v0), .val (.int v1), .val (.int v2), .val (.int v3), .val (.ref a), .unset, .unset, .unset] [])) target := by
      intro target kt
      refine XS.aload X15.here hx rfl (hb hby at_93) rfl rfl ?_
      refine XS.iload X15.here hx rfl (hb hby at_95) rfl ?_
      refine XS.iload X15.here hx rfl (hb hby at_97) rfl ?_
      exact kt
    obtain ⟨_, _, ⟨T125, L125, k125, n125⟩, -, X125, ⟨Lc125, hQ125, l125, y125, z125⟩, st125⟩ := Jvm.LawKit.callS X15 hx (y := (⟨"com/example/libbisim/libbisim/CompactInts", "of", "([III)Lcom/example/libbisim/libbisim/CompactInts;"⟩ : MethodName)) hown (mvT hZ (hw _ (List.mem_of_getElem? (i := 6) rfl))) (mvT hZ (hw _ (List.mem_of_getElem? (i := 7) rfl))) (mvT hZ (hw _ (List.mem_of_getElem? (i := 8) rfl))) (mvT hZ (hw _ (List.mem_of_getElem? (i := 9) rfl))) (by decide) (backOf (W := 0) (rmOf3 l Z a0 hw [] a bd k7 v0 v1 v2 v3 h15 n0 Z_15 V_a_15) hZ (hw _ (List.mem_of_getElem? (i := 9) rfl)) (hw _ (List.mem_of_getElem? (i := 8) rfl)) (by decide) (by decide)) (g := (mkF m 99 #[.val (.int p0), .val (.int p1), .val (.int p2), .val (.int p3), .val (.int p4), .val (.int p5), .val (.int bd), .val (.int (3 : Int32)), .val (.int v0), .val (.int v1), .val (.int v2), .val (.int v3), .val (.ref a), .unset, .unset, .unset] [(.int bd), (.int (3 : Int32)), (.ref a)])) rfl (by rw [hml]; rfl) (argsL := [(.ref a), (.int (3 : Int32)), (.int bd)]) (rest := []) (lenOf pd_1 rfl) rfl (by show 2 * 0 + _ ≤ _; exact Nat.le_of_eq rfl) (hb hby at_99) (fun _ _ => ⟨rfl, e15, (by decide : 1 + 2 ≤ _), (by decide : 4 + 6 ≤ _)⟩)
    dsimp only [Pt.U, Pt.locs, Pt.cells, Pt.slots] at X125 l125 y125 z125 st125 hQ125
    subst l125 y125 z125
    obtain ⟨b125, rfl, Nq125, K125, sz125, Eb, alt⟩ := hQ125
    have N125 := Fr.app N15 Nq125
    have g_b125 : n0 ≤ b125 := Nat.le_trans Z_15 sz125
    have ne_a_b125 : a ≠ b125 := Nat.ne_of_lt (Nat.lt_of_lt_of_le V_a_15.lt sz125)
    have V_a_125 := V_a_15.keep K125 nin0
    have Z_125 : n0 ≤ T125.heap.size := Nat.le_trans Z_15 K125.1
    rcases alt with ⟨q1, y, ky, szy, Fb, Vy⟩ | ⟨q1, q2, y, ky, szy, Fb, Fc, Vy⟩ | ⟨q1, Fb, Fc, y, ky, szy, Fi, Vy⟩
    · have ne_a_y : a ≠ y := Nat.ne_of_lt (Nat.lt_of_lt_of_le (V_a_15).lt szy)
      have hle : bd.toInt ≤ 256 := own_le rfl q1
      have st126 : ∀ target, Steps p.tables e below (T125.setTop (mkF m 136 #[.val (.int p0), .val (.int p1), .val (.int p2), .val (.int p3), .val (.int p4), .val (.int p5), .val (.int bd), .val (.int (3 : Int32)), .val (.int v0), .val (.int v1), .val (.int v2), .val (.int v3), .val (.ref a), .val (.ref b125), .val (.int (0 : Int32)), .unset] [(.int (v0 ^^^ (1 : Int32))), (.int (0 : Int32)), (.ref a)])) target → Steps p.tables e below (T125.setTop (mkF m 102 #[.val (.int p0), .val (.int p1), .val (.int p2), .val (.int p3), .val (.int p4), .val (.int p5), .val (.int bd), .val (.int (3 : Int32)), .val (.int v0), .val (.int v1), .val (.int v2), .val (.int v3), .val (.ref a), .unset, .unset, .unset] [(.ref b125)])) target := by
        intro target kt
        show Steps p.tables e below (T125.setTop (mkF m 102 #[.val (.int p0), .val (.int p1), .val (.int p2), .val (.int p3), .val (.int p4), .val (.int p5), .val (.int bd), .val (.int (3 : Int32)), .val (.int v0), .val (.int v1), .val (.int v2), .val (.int v3), .val (.ref a), .unset, .unset, .unset] [(.ref b125)])) _
        refine XS.astore X125.here hx rfl (hb hby at_102) rfl rfl (l' := #[.val (.int p0), .val (.int p1), .val (.int p2), .val (.int p3), .val (.int p4), .val (.int p5), .val (.int bd), .val (.int (3 : Int32)), .val (.int v0), .val (.int v1), .val (.int v2), .val (.int v3), .val (.ref a), .val (.ref b125), .unset, .unset]) rfl ?_
        refine XS.iload X125.here hx rfl (hb hby at_104) rfl ?_
        refine X125.ldcInt hx hown (mvT hZ (hw _ (List.mem_of_getElem? (i := 25) rfl))) (g := (mkF m 106 #[.val (.int p0), .val (.int p1), .val (.int p2), .val (.int p3), .val (.int p4), .val (.int p5), .val (.int bd), .val (.int (3 : Int32)), .val (.int v0), .val (.int v1), .val (.int v2), .val (.int v3), .val (.ref a), .val (.ref b125), .unset, .unset] [(.int bd)])) rfl (hb hby at_106) _ ?_
        refine XS.icmpYes X125.here hx rfl (pc0 := 108) (pc' := 121) rfl (hb hby at_108) rfl (flt (own_nlt q1 (by decide))).2.2.2 (by decide) (by decide) ?_
        refine XS.iconst X125.here hx rfl (hb hby at_121) ?_
        refine XS.istore X125.here hx rfl (hb hby at_122) rfl (l' := #[.val (.int p0), .val (.int p1), .val (.int p2), .val (.int p3), .val (.int p4), .val (.int p5), .val (.int bd), .val (.int (3 : Int32)), .val (.int v0), .val (.int v1), .val (.int v2), .val (.int v3), .val (.ref a), .val (.ref b125), .val (.int (0 : Int32)), .unset]) rfl ?_
        refine XS.iload X125.here hx rfl (hb hby at_124) rfl ?_
        refine XS.ifNo X125.here hx rfl (hb hby at_126) rfl ((if0 _ _).trans (teq (rfl : (0 : Int32) = (0 : Int32))).2) ?_
        show Steps p.tables e below (T125.setTop (mkF m 129 #[.val (.int p0), .val (.int p1), .val (.int p2), .val (.int p3), .val (.int p4), .val (.int p5), .val (.int bd), .val (.int (3 : Int32)), .val (.int v0), .val (.int v1), .val (.int v2), .val (.int v3), .val (.ref a), .val (.ref b125), .val (.int (0 : Int32)), .unset] [])) _
        refine XS.aload X125.here hx rfl (hb hby at_129) rfl rfl ?_
        refine XS.iconst X125.here hx rfl (hb hby at_131) ?_
        refine XS.iload X125.here hx rfl (hb hby at_132) rfl ?_
        refine XS.iconst X125.here hx rfl (hb hby at_134) ?_
        refine XS.ixor X125.here hx rfl (hb hby at_135) rfl ?_
        exact kt
      obtain ⟨cl127, Ar127, qc127, Sz127, Mn127, Hs127, Gs127⟩ := id V_a_125
      have hin127 : ¬ ((0 : Int32) < 0 ∨ cl127.slots.size ≤ ((0 : Int32)).toNatClampNeg) := inb_of Sz127 ⟨by decide, by decide⟩
      obtain ⟨T127, h127, X127, e127, W127, st127⟩ := stI X125 hx hZ rfl Ar127 (j := (0 : Int32)) hin127 (g := (mkF m 136 #[.val (.int p0), .val (.int p1), .val (.int p2), .val (.int p3), .val (.int p4), .val (.int p5), .val (.int bd), .val (.int (3 : Int32)), .val (.int v0), .val (.int v1), .val (.int v2), .val (.int v3), .val (.ref a), .val (.ref b125), .val (.int (0 : Int32)), .unset] [(.int (v0 ^^^ (1 : Int32))), (.int (0 : Int32)), (.ref a)])) rfl rfl (hb hby at_136)
      have V_a_127 : Arv Z h127 a k7 .int (4 : Int32) [(.int (v0 ^^^ (1 : Int32))), (.int v1), (.int v2), (.int v3)] (.int (0 : Int32)) := Arv.set Ar127 qc127 Sz127 Mn127 Hs127 Gs127 rfl W127 0 rfl (Nat.le_of_ble_eq_true rfl)
      have Eb_127 := Eb.wr W127
      have Vy_127 := Vy.other W127 (Ne.symm ne_a_y)
      have Fb_127 := Fb.other W127 (Or.inl (Ne.symm ne_a_b125))
      have Z_127 : n0 ≤ h127.size := Nat.le_trans Z_125 (Keep.of_wr W127).1
      have N127 := Fr.snoc X127 N125 g_a
      have st128 : ∀ target, Steps p.tables e below (T127.setTop (mkF m 144 #[.val (.int p0), .val (.int p1), .val (.int p2), .val (.int p3), .val (.int p4), .val (.int p5), .val (.int bd), .val (.int (3 : Int32)), .val (.int v0), .val (.int v1), .val (.int v2), .val (.int v3), .val (.ref a), .val (.ref b125), .val (.int (0 : Int32)), .unset] [(.int (v1 ^^^ (1 : Int32))), (.int (1 : Int32)), (.ref a)])) target → Steps p.tables e below (T127.setTop (mkF m 137 #[.val (.int p0), .val (.int p1), .val (.int p2), .val (.int p3), .val (.int p4), .val (.int p5), .val (.int bd), .val (.int (3 : Int32)), .val (.int v0), .val (.int v1), .val (.int v2), .val (.int v3), .val (.ref a), .val (.ref b125), .val (.int (0 : Int32)), .unset] [])) target := by
        intro target kt
        refine XS.aload X127.here hx rfl (hb hby at_137) rfl rfl ?_
        refine XS.iconst X127.here hx rfl (hb hby at_139) ?_
        refine XS.iload X127.here hx rfl (hb hby at_140) rfl ?_
        show Steps p.tables e below (T127.setTop (mkF m 142 #[.val (.int p0), .val (.int p1), .val (.int p2), .val (.int p3), .val (.int p4), .val (.int p5), .val (.int bd), .val (.int (3 : Int32)), .val (.int v0), .val (.int v1), .val (.int v2), .val (.int v3), .val (.ref a), .val (.ref b125), .val (.int (0 : Int32)), .unset] [(.int v1), (.int (1 : Int32)), (.ref a)])) _
        refine XS.iconst X127.here hx rfl (hb hby at_142) ?_
        refine XS.ixor X127.here hx rfl (hb hby at_143) rfl ?_
        exact kt
      obtain ⟨cl129, Ar129, qc129, Sz129, Mn129, Hs129, Gs129⟩ := id V_a_127
      have hin129 : ¬ ((1 : Int32) < 0 ∨ cl129.slots.size ≤ ((1 : Int32)).toNatClampNeg) := inb_of Sz129 ⟨by decide, by decide⟩
      obtain ⟨T129, h129, X129, e129, W129, st129⟩ := stI X127 hx hZ e127 Ar129 (j := (1 : Int32)) hin129 (g := (mkF m 144 #[.val (.int p0), .val (.int p1), .val (.int p2), .val (.int p3), .val (.int p4), .val (.int p5), .val (.int bd), .val (.int (3 : Int32)), .val (.int v0), .val (.int v1), .val (.int v2), .val (.int v3), .val (.ref a), .val (.ref b125), .val (.int (0 : Int32)), .unset] [(.int (v1 ^^^ (1 : Int32))), (.int (1 : Int32)), (.ref a)])) rfl rfl (hb hby at_144)
      have V_a_129 : Arv Z h129 a k7 .int (4 : Int32) [(.int (v0 ^^^ (1 : Int32))), (.int (v1 ^^^ (1 : Int32))), (.int v2), (.int v3)] (.int (0 : Int32)) := Arv.set Ar129 qc129 Sz129 Mn129 Hs129 Gs129 rfl W129 1 rfl (Nat.le_of_ble_eq_true rfl)
      have Eb_129 := Eb_127.wr W129
      have Vy_129 := Vy_127.other W129 (Ne.symm ne_a_y)
      have Fb_129 := Fb_127.other W129 (Or.inl (Ne.symm ne_a_b125))
      have Z_129 : n0 ≤ h129.size := Nat.le_trans Z_127 (Keep.of_wr W129).1
      have N129 := Fr.snoc X129 N127 g_a
      have st130 : ∀ target, Steps p.tables e below (T129.setTop (mkF m 152 #[.val (.int p0), .val (.int p1), .val (.int p2), .val (.int p3), .val (.int p4), .val (.int p5), .val (.int bd), .val (.int (3 : Int32)), .val (.int v0), .val (.int v1), .val (.int v2), .val (.int v3), .val (.ref a), .val (.ref b125), .val (.int (0 : Int32)), .unset] [(.int (v2 ^^^ (1 : Int32))), (.int (2 : Int32)), (.ref a)])) target → Steps p.tables e below (T129.setTop (mkF m 145 #[.val (.int p0), .val (.int p1), .val (.int p2), .val (.int p3), .val (.int p4), .val (.int p5), .val (.int bd), .val (.int (3 : Int32)), .val (.int v0), .val (.int v1), .val (.int v2), .val (.int v3), .val (.ref a), .val (.ref b125), .val (.int (0 : Int32)), .unset] [])) target := by
        intro target kt
        refine XS.aload X129.here hx rfl (hb hby at_145) rfl rfl ?_
        refine XS.iconst X129.here hx rfl (hb hby at_147) ?_
        refine XS.iload X129.here hx rfl (hb hby at_148) rfl ?_
        refine XS.iconst X129.here hx rfl (hb hby at_150) ?_
        refine XS.ixor X129.here hx rfl (hb hby at_151) rfl ?_
        exact kt
      obtain ⟨cl131, Ar131, qc131, Sz131, Mn131, Hs131, Gs131⟩ := id V_a_129
      have hin131 : ¬ ((2 : Int32) < 0 ∨ cl131.slots.size ≤ ((2 : Int32)).toNatClampNeg) := inb_of Sz131 ⟨by decide, by decide⟩
      obtain ⟨T131, h131, X131, e131, W131, st131⟩ := stI X129 hx hZ e129 Ar131 (j := (2 : Int32)) hin131 (g := (mkF m 152 #[.val (.int p0), .val (.int p1), .val (.int p2), .val (.int p3), .val (.int p4), .val (.int p5), .val (.int bd), .val (.int (3 : Int32)), .val (.int v0), .val (.int v1), .val (.int v2), .val (.int v3), .val (.ref a), .val (.ref b125), .val (.int (0 : Int32)), .unset] [(.int (v2 ^^^ (1 : Int32))), (.int (2 : Int32)), (.ref a)])) rfl rfl (hb hby at_152)
      have V_a_131 : Arv Z h131 a k7 .int (4 : Int32) [(.int (v0 ^^^ (1 : Int32))), (.int (v1 ^^^ (1 : Int32))), (.int (v2 ^^^ (1 : Int32))), (.int v3)] (.int (0 : Int32)) := Arv.set Ar131 qc131 Sz131 Mn131 Hs131 Gs131 rfl W131 2 rfl (Nat.le_of_ble_eq_true rfl)
      have Eb_131 := Eb_129.wr W131
      have Vy_131 := Vy_129.other W131 (Ne.symm ne_a_y)
      have Fb_131 := Fb_129.other W131 (Or.inl (Ne.symm ne_a_b125))
      have Z_131 : n0 ≤ h131.size := Nat.le_trans Z_129 (Keep.of_wr W131).1
      have N131 := Fr.snoc X131 N129 g_a
      have st132 : ∀ target, Steps p.tables e below (T131.setTop (mkF m 160 #[.val (.int p0), .val (.int p1), .val (.int p2), .val (.int p3), .val (.int p4), .val (.int p5), .val (.int bd), .val (.int (3 : Int32)), .val (.int v0), .val (.int v1), .val (.int v2), .val (.int v3), .val (.ref a), .val (.ref b125), .val (.int (0 : Int32)), .unset] [(.int (v3 ^^^ (1 : Int32))), (.int (3 : Int32)), (.ref a)])) target → Steps p.tables e below (T131.setTop (mkF m 153 #[.val (.int p0), .val (.int p1), .val (.int p2), .val (.int p3), .val (.int p4), .val (.int p5), .val (.int bd), .val (.int (3 : Int32)), .val (.int v0), .val (.int v1), .val (.int v2), .val (.int v3), .val (.ref a), .val (.ref b125), .val (.int (0 : Int32)), .unset] [])) target := by
        intro target kt
        refine XS.aload X131.here hx rfl (hb hby at_153) rfl rfl ?_
        show Steps p.tables e below (T131.setTop (mkF m 155 #[.val (.int p0), .val (.int p1), .val (.int p2), .val (.int p3), .val (.int p4), .val (.int p5), .val (.int bd), .val (.int (3 : Int32)), .val (.int v0), .val (.int v1), .val (.int v2), .val (.int v3), .val (.ref a), .val (.ref b125), .val (.int (0 : Int32)), .unset] [(.ref a)])) _
        refine XS.iconst X131.here hx rfl (hb hby at_155) ?_
        refine XS.iload X131.here hx rfl (hb hby at_156) rfl ?_
        refine XS.iconst X131.here hx rfl (hb hby at_158) ?_
        refine XS.ixor X131.here hx rfl (hb hby at_159) rfl ?_
        exact kt
      obtain ⟨cl133, Ar133, qc133, Sz133, Mn133, Hs133, Gs133⟩ := id V_a_131
      have hin133 : ¬ ((3 : Int32) < 0 ∨ cl133.slots.size ≤ ((3 : Int32)).toNatClampNeg) := inb_of Sz133 ⟨by decide, by decide⟩
      obtain ⟨T133, h133, X133, e133, W133, st133⟩ := stI X131 hx hZ e131 Ar133 (j := (3 : Int32)) hin133 (g := (mkF m 160 #[.val (.int p0), .val (.int p1), .val (.int p2), .val (.int p3), .val (.int p4), .val (.int p5), .val (.int bd), .val (.int (3 : Int32)), .val (.int v0), .val (.int v1), .val (.int v2), .val (.int v3), .val (.ref a), .val (.ref b125), .val (.int (0 : Int32)), .unset] [(.int (v3 ^^^ (1 : Int32))), (.int (3 : Int32)), (.ref a)])) rfl rfl (hb hby at_160)
      have V_a_133 : Arv Z h133 a k7 .int (4 : Int32) [(.int (v0 ^^^ (1 : Int32))), (.int (v1 ^^^ (1 : Int32))), (.int (v2 ^^^ (1 : Int32))), (.int (v3 ^^^ (1 : Int32)))] (.int (0 : Int32)) := Arv.set Ar133 qc133 Sz133 Mn133 Hs133 Gs133 rfl W133 3 rfl (Nat.le_of_ble_eq_true rfl)
      have Eb_133 := Eb_131.wr W133
      have Vy_133 := Vy_131.other W133 (Ne.symm ne_a_y)
      have Fb_133 := Fb_131.other W133 (Or.inl (Ne.symm ne_a_b125))
      have Z_133 : n0 ≤ h133.size := Nat.le_trans Z_131 (Keep.of_wr W133).1
      have N133 := Fr.snoc X133 N131 g_a
      have st134 : ∀ target, Steps p.tables e below (T133.setTop (mkF m 177 #[.val (.int p0), .val (.int p1), .val (.int p2), .val (.int p3), .val (.int p4), .val (.int p5), .val (.int bd), .val (.int (3 : Int32)), .val (.int v0), .val (.int v1), .val (.int v2), .val (.int v3), .val (.ref a), .val (.ref b125), .val (.int (0 : Int32)), .val (.int (1 : Int32))] [(.int (0 : Int32)), (.ref b125)])) target → Steps p.tables e below (T133.setTop (mkF m 161 #[.val (.int p0), .val (.int p1), .val (.int p2), .val (.int p3), .val (.int p4), .val (.int p5), .val (.int bd), .val (.int (3 : Int32)), .val (.int v0), .val (.int v1), .val (.int v2), .val (.int v3), .val (.ref a), .val (.ref b125), .val (.int (0 : Int32)), .unset] [])) target := by
        intro target kt
        refine XS.iconst X133.here hx rfl (hb hby at_161) ?_
        refine XS.istore X133.here hx rfl (hb hby at_162) rfl (l' := #[.val (.int p0), .val (.int p1), .val (.int p2), .val (.int p3), .val (.int p4), .val (.int p5), .val (.int bd), .val (.int (3 : Int32)), .val (.int v0), .val (.int v1), .val (.int v2), .val (.int v3), .val (.ref a), .val (.ref b125), .val (.int (0 : Int32)), .val (.int (1 : Int32))]) rfl ?_
        refine XS.iload X133.here hx rfl (hb hby at_164) rfl ?_
        refine XS.ifNo X133.here hx rfl (hb hby at_166) rfl ((if0 _ _).trans (tlt (by decide : ((0 : Int32) < (3 : Int32)))).2.2.2) ?_
        show Steps p.tables e below (T133.setTop (mkF m 169 #[.val (.int p0), .val (.int p1), .val (.int p2), .val (.int p3), .val (.int p4), .val (.int p5), .val (.int bd), .val (.int (3 : Int32)), .val (.int v0), .val (.int v1), .val (.int v2), .val (.int v3), .val (.ref a), .val (.ref b125), .val (.int (0 : Int32)), .val (.int (1 : Int32))] [])) _
        refine XS.iload X133.here hx rfl (hb hby at_169) rfl ?_
        refine XS.ifNo X133.here hx rfl (hb hby at_171) rfl ((if0 _ _).trans (feq (by decide : ¬ ((1 : Int32) = (0 : Int32)))).1) ?_
        refine XS.aload X133.here hx rfl (hb hby at_174) rfl rfl ?_
        refine XS.iconst X133.here hx rfl (hb hby at_176) ?_
        exact kt
      obtain ⟨cl135, Ar135, qc135, Sz135, Mn135, Hs135, Gs135⟩ := id Vy_133
      have hin135 : ¬ ((0 : Int32) < 0 ∨ cl135.slots.size ≤ ((0 : Int32)).toNatClampNeg) := inb_of Sz135 ⟨by decide, by decide⟩
      obtain ⟨cq136, kq136, qv136a, qv136b, qv136c⟩ := isOf hZ e133 Eb_133
      obtain ⟨_, _, ⟨T136, L136, k136, n136⟩, -, X136, ⟨Lc136, hQ136, l136, y136, z136⟩, st136⟩ := X133.virtualBack hx (y := (⟨"com/example/libbisim/libbisim/CompactInts", "get", "(I)I"⟩ : MethodName)) (z := (⟨"com/example/libbisim/libbisim/CompactInts", "get", "(I)I"⟩ : MethodName)) hown (mvT hZ (hw _ (List.mem_of_getElem? (i := 38) rfl))) (mvT hZ (hw _ (List.mem_of_getElem? (i := 39) rfl))) (notFace_of_selects (args := #[]) (mvT hZ (hw _ (List.mem_of_getElem? (i := 41) rfl)))) (mvT hZ (hw _ (List.mem_of_getElem? (i := 41) rfl))) (mvT hZ (hw _ (List.mem_of_getElem? (i := 40) rfl))) (by decide) (backOf (W := 0) (rmGB l Z a0 hw [] b125 (0 : Int32) y cl135 (nar .byte (v0.toInt8.toInt32)) h133 n0 Z_133 Fb_133 Ar135 hin135 (Hs135.at hin135 rfl)) hZ (hw _ (List.mem_of_getElem? (i := 42) rfl)) (hw _ (List.mem_of_getElem? (i := 8) rfl)) (by decide) (by decide)) qv136a qv136c (g := (mkF m 177 #[.val (.int p0), .val (.int p1), .val (.int p2), .val (.int p3), .val (.int p4), .val (.int p5), .val (.int bd), .val (.int (3 : Int32)), .val (.int v0), .val (.int v1), .val (.int v2), .val (.int v3), .val (.ref a), .val (.ref b125), .val (.int (0 : Int32)), .val (.int (1 : Int32))] [(.int (0 : Int32)), (.ref b125)])) rfl (by rw [hml]; rfl) (Steps.refl _) (argsL := [(.int (0 : Int32))]) (rest := []) (lenOf pd_6 rfl) rfl (by show 2 * 0 + _ ≤ _; exact Nat.le_of_eq rfl) (hb hby at_177) (fun _ _ => ⟨rfl, e133, (by decide : 3 + 0 ≤ _), (by decide : 10 + 0 ≤ _)⟩)
      dsimp only [Pt.U, Pt.locs, Pt.cells, Pt.slots] at X136 l136 y136 z136 st136 hQ136
      subst l136 y136 z136
      obtain ⟨rfl, Nq136, e136⟩ := hQ136
      have N136 := Fr.app N133 Nq136
      rw [own_b8 R0.1 (by omega)] at st136
      have st137 : ∀ target, Steps p.tables e below (T136.setTop (mkF m 206 #[.val (.int p0), .val (.int p1), .val (.int p2), .val (.int p3), .val (.int p4), .val (.int p5), .val (.int bd), .val (.int (3 : Int32)), .val (.int v0), .val (.int v1), .val (.int v2), .val (.int v3), .val (.ref a), .val (.ref b125), .val (.int (0 : Int32)), .val (.int (1 : Int32))] [(.int (1 : Int32)), (.ref b125)])) target → Steps p.tables e below (T136.setTop (mkF m 180 #[.val (.int p0), .val (.int p1), .val (.int p2), .val (.int p3), .val (.int p4), .val (.int p5), .val (.int bd), .val (.int (3 : Int32)), .val (.int v0), .val (.int v1), .val (.int v2), .val (.int v3), .val (.ref a), .val (.ref b125), .val (.int (0 : Int32)), .val (.int (1 : Int32))] [(.int v0)])) target := by
        intro target kt
        refine XS.iload X136.here hx rfl (hb hby at_180) rfl ?_
        refine XS.icmpNo X136.here hx rfl (hb hby at_182) rfl (teq (rfl : v0 = v0)).2 ?_
        refine XS.iconst X136.here hx rfl (hb hby at_185) ?_
        refine XS.goto X136.here hx rfl (pc0 := 186) (pc' := 190) rfl (hb hby at_186) (by decide) (by decide) ?_
        show Steps p.tables e below (T136.setTop (mkF m 190 #[.val (.int p0), .val (.int p1), .val (.int p2), .val (.int p3), .val (.int p4), .val (.int p5), .val (.int bd), .val (.int (3 : Int32)), .val (.int v0), .val (.int v1), .val (.int v2), .val (.int v3), .val (.ref a), .val (.ref b125), .val (.int (0 : Int32)), .val (.int (1 : Int32))] [(.int (1 : Int32))])) _
        refine XS.istore X136.here hx rfl (hb hby at_190) rfl (l' := #[.val (.int p0), .val (.int p1), .val (.int p2), .val (.int p3), .val (.int p4), .val (.int p5), .val (.int bd), .val (.int (3 : Int32)), .val (.int v0), .val (.int v1), .val (.int v2), .val (.int v3), .val (.ref a), .val (.ref b125), .val (.int (0 : Int32)), .val (.int (1 : Int32))]) rfl ?_
        refine XS.iload X136.here hx rfl (hb hby at_192) rfl ?_
        refine XS.iconst X136.here hx rfl (hb hby at_194) ?_
        refine XS.icmpNo X136.here hx rfl (hb hby at_195) rfl (tlt (by decide : ((1 : Int32) < (3 : Int32)))).2.2.2 ?_
        refine XS.iload X136.here hx rfl (hb hby at_198) rfl ?_
        refine XS.ifNo X136.here hx rfl (hb hby at_200) rfl ((if0 _ _).trans (feq (by decide : ¬ ((1 : Int32) = (0 : Int32)))).1) ?_
        refine XS.aload X136.here hx rfl (hb hby at_203) rfl rfl ?_
        refine XS.iconst X136.here hx rfl (hb hby at_205) ?_
        exact kt
      obtain ⟨cl138, Ar138, qc138, Sz138, Mn138, Hs138, Gs138⟩ := id Vy_133
      have hin138 : ¬ ((1 : Int32) < 0 ∨ cl138.slots.size ≤ ((1 : Int32)).toNatClampNeg) := inb_of Sz138 ⟨by decide, by decide⟩
      obtain ⟨cq139, kq139, qv139a, qv139b, qv139c⟩ := isOf hZ e136 Eb_133
      obtain ⟨_, _, ⟨T139, L139, k139, n139⟩, -, X139, ⟨Lc139, hQ139, l139, y139, z139⟩, st139⟩ := X136.virtualBack hx (y := (⟨"com/example/libbisim/libbisim/CompactInts", "get", "(I)I"⟩ : MethodName)) (z := (⟨"com/example/libbisim/libbisim/CompactInts", "get", "(I)I"⟩ : MethodName)) hown (mvT hZ (hw _ (List.mem_of_getElem? (i := 38) rfl))) (mvT hZ (hw _ (List.mem_of_getElem? (i := 39) rfl))) (notFace_of_selects (args := #[]) (mvT hZ (hw _ (List.mem_of_getElem? (i := 41) rfl)))) (mvT hZ (hw _ (List.mem_of_getElem? (i := 41) rfl))) (mvT hZ (hw _ (List.mem_of_getElem? (i := 40) rfl))) (by decide) (backOf (W := 0) (rmGB l Z a0 hw [] b125 (1 : Int32) y cl138 (nar .byte (v1.toInt8.toInt32)) h133 n0 Z_133 Fb_133 Ar138 hin138 (Hs138.at hin138 rfl)) hZ (hw _ (List.mem_of_getElem? (i := 42) rfl)) (hw _ (List.mem_of_getElem? (i := 8) rfl)) (by decide) (by decide)) qv139a qv139c (g := (mkF m 206 #[.val (.int p0), .val (.int p1), .val (.int p2), .val (.int p3), .val (.int p4), .val (.int p5), .val (.int bd), .val (.int (3 : Int32)), .val (.int v0), .val (.int v1), .val (.int v2), .val (.int v3), .val (.ref a), .val (.ref b125), .val (.int (0 : Int32)), .val (.int (1 : Int32))] [(.int (1 : Int32)), (.ref b125)])) rfl (by rw [hml]; rfl) (Steps.refl _) (argsL := [(.int (1 : Int32))]) (rest := []) (lenOf pd_6 rfl) rfl (by show 2 * 0 + _ ≤ _; exact Nat.le_of_eq rfl) (hb hby at_206) (fun _ _ => ⟨rfl, e136, (by decide : 3 + 0 ≤ _), (by decide : 10 + 0 ≤ _)⟩)
      dsimp only [Pt.U, Pt.locs, Pt.cells, Pt.slots] at X139 l139 y139 z139 st139 hQ139
      subst l139 y139 z139
      obtain ⟨rfl, Nq139, e139⟩ := hQ139
      have N139 := Fr.app N136 Nq139
      rw [own_b8 R1.1 (by omega)] at st139
      have st140 : ∀ target, Steps p.tables e below (T139.setTop (mkF m 235 #[.val (.int p0), .val (.int p1), .val (.int p2), .val (.int p3), .val (.int p4), .val (.int p5), .val (.int bd), .val (.int (3 : Int32)), .val (.int v0), .val (.int v1), .val (.int v2), .val (.int v3), .val (.ref a), .val (.ref b125), .val (.int (0 : Int32)), .val (.int (1 : Int32))] [(.int (2 : Int32)), (.ref b125)])) target → Steps p.tables e below (T139.setTop (mkF m 209 #[.val (.int p0), .val (.int p1), .val (.int p2), .val (.int p3), .val (.int p4), .val (.int p5), .val (.int bd), .val (.int (3 : Int32)), .val (.int v0), .val (.int v1), .val (.int v2), .val (.int v3), .val (.ref a), .val (.ref b125), .val (.int (0 : Int32)), .val (.int (1 : Int32))] [(.int v1)])) target := by
        intro target kt
        show Steps p.tables e below (T139.setTop (mkF m 209 #[.val (.int p0), .val (.int p1), .val (.int p2), .val (.int p3), .val (.int p4), .val (.int p5), .val (.int bd), .val (.int (3 : Int32)), .val (.int v0), .val (.int v1), .val (.int v2), .val (.int v3), .val (.ref a), .val (.ref b125), .val (.int (0 : Int32)), .val (.int (1 : Int32))] [(.int v1)])) _
        refine XS.iload X139.here hx rfl (hb hby at_209) rfl ?_
        refine XS.icmpNo X139.here hx rfl (hb hby at_211) rfl (teq (rfl : v1 = v1)).2 ?_
        refine XS.iconst X139.here hx rfl (hb hby at_214) ?_
        refine XS.goto X139.here hx rfl (pc0 := 215) (pc' := 219) rfl (hb hby at_215) (by decide) (by decide) ?_
        refine XS.istore X139.here hx rfl (hb hby at_219) rfl (l' := #[.val (.int p0), .val (.int p1), .val (.int p2), .val (.int p3), .val (.int p4), .val (.int p5), .val (.int bd), .val (.int (3 : Int32)), .val (.int v0), .val (.int v1), .val (.int v2), .val (.int v3), .val (.ref a), .val (.ref b125), .val (.int (0 : Int32)), .val (.int (1 : Int32))]) rfl ?_
        refine XS.iload X139.here hx rfl (hb hby at_221) rfl ?_
        refine XS.iconst X139.here hx rfl (hb hby at_223) ?_
        refine XS.icmpNo X139.here hx rfl (hb hby at_224) rfl (tlt (by decide : ((2 : Int32) < (3 : Int32)))).2.2.2 ?_
        show Steps p.tables e below (T139.setTop (mkF m 227 #[.val (.int p0), .val (.int p1), .val (.int p2), .val (.int p3), .val (.int p4), .val (.int p5), .val (.int bd), .val (.int (3 : Int32)), .val (.int v0), .val (.int v1), .val (.int v2), .val (.int v3), .val (.ref a), .val (.ref b125), .val (.int (0 : Int32)), .val (.int (1 : Int32))] [])) _
        refine XS.iload X139.here hx rfl (hb hby at_227) rfl ?_
        refine XS.ifNo X139.here hx rfl (hb hby at_229) rfl ((if0 _ _).trans (feq (by decide : ¬ ((1 : Int32) = (0 : Int32)))).1) ?_
        refine XS.aload X139.here hx rfl (hb hby at_232) rfl rfl ?_
        refine XS.iconst X139.here hx rfl (hb hby at_234) ?_
        exact kt
      obtain ⟨cl141, Ar141, qc141, Sz141, Mn141, Hs141, Gs141⟩ := id Vy_133
      have hin141 : ¬ ((2 : Int32) < 0 ∨ cl141.slots.size ≤ ((2 : Int32)).toNatClampNeg) := inb_of Sz141 ⟨by decide, by decide⟩
      obtain ⟨cq142, kq142, qv142a, qv142b, qv142c⟩ := isOf hZ e139 Eb_133
      obtain ⟨_, _, ⟨T142, L142, k142, n142⟩, -, X142, ⟨Lc142, hQ142, l142, y142, z142⟩, st142⟩ := X139.virtualBack hx (y := (⟨"com/example/libbisim/libbisim/CompactInts", "get", "(I)I"⟩ : MethodName)) (z := (⟨"com/example/libbisim/libbisim/CompactInts", "get", "(I)I"⟩ : MethodName)) hown (mvT hZ (hw _ (List.mem_of_getElem? (i := 38) rfl))) (mvT hZ (hw _ (List.mem_of_getElem? (i := 39) rfl))) (notFace_of_selects (args := #[]) (mvT hZ (hw _ (List.mem_of_getElem? (i := 41) rfl)))) (mvT hZ (hw _ (List.mem_of_getElem? (i := 41) rfl))) (mvT hZ (hw _ (List.mem_of_getElem? (i := 40) rfl))) (by decide) (backOf (W := 0) (rmGB l Z a0 hw [] b125 (2 : Int32) y cl141 (nar .byte (v2.toInt8.toInt32)) h133 n0 Z_133 Fb_133 Ar141 hin141 (Hs141.at hin141 rfl)) hZ (hw _ (List.mem_of_getElem? (i := 42) rfl)) (hw _ (List.mem_of_getElem? (i := 8) rfl)) (by decide) (by decide)) qv142a qv142c (g := (mkF m 235 #[.val (.int p0), .val (.int p1), .val (.int p2), .val (.int p3), .val (.int p4), .val (.int p5), .val (.int bd), .val (.int (3 : Int32)), .val (.int v0), .val (.int v1), .val (.int v2), .val (.int v3), .val (.ref a), .val (.ref b125), .val (.int (0 : Int32)), .val (.int (1 : Int32))] [(.int (2 : Int32)), (.ref b125)])) rfl (by rw [hml]; rfl) (Steps.refl _) (argsL := [(.int (2 : Int32))]) (rest := []) (lenOf pd_6 rfl) rfl (by show 2 * 0 + _ ≤ _; exact Nat.le_of_eq rfl) (hb hby at_235) (fun _ _ => ⟨rfl, e139, (by decide : 3 + 0 ≤ _), (by decide : 10 + 0 ≤ _)⟩)
      dsimp only [Pt.U, Pt.locs, Pt.cells, Pt.slots] at X142 l142 y142 z142 st142 hQ142
      subst l142 y142 z142
      obtain ⟨rfl, Nq142, e142⟩ := hQ142
      have N142 := Fr.app N139 Nq142
      rw [own_b8 R2.1 (by omega)] at st142
      obtain ⟨fs, hr, hrun, hended, hW, hsame⟩ := X142.leave (v := some (.int (1 : Int32))) (fun h => by rw [Bd.returns] at h; cases h)
      refine ⟨_, _, pre0 _ (st1 _ (st2 _ (st3 _ (st4 _ (st5 _ (st6 _ (st7 _ (st8 _ (st9 _ (st10 _ (st11 _ (st12 _ (st13 _ (st14 _ (st15 _ (st124 _ (st125 _ (st126 _ (st127 _ (st128 _ (st129 _ (st130 _ (st131 _ (st132 _ (st133 _ (st134 _ (st136.trans (st137 _ (st139.trans (st140 _ (st142.trans ?_))))))))))))))))))))))))))))))), hrun, hended, _, _, rfl, ?_, ⟨_, rfl⟩, hW, hsame.mono (by decide) (by decide)⟩
      · refine XS.iload X142.here hx rfl (hb hby at_238) rfl ?_
        refine XS.icmpNo X142.here hx rfl (hb hby at_240) rfl (teq (rfl : v2 = v2)).2 ?_
        refine XS.iconst X142.here hx rfl (hb hby at_243) ?_
        refine XS.goto X142.here hx rfl (pc0 := 244) (pc' := 248) rfl (hb hby at_244) (by decide) (by decide) ?_
        show Steps p.tables e below (T142.setTop (mkF m 248 #[.val (.int p0), .val (.int p1), .val (.int p2), .val (.int p3), .val (.int p4), .val (.int p5), .val (.int bd), .val (.int (3 : Int32)), .val (.int v0), .val (.int v1), .val (.int v2), .val (.int v3), .val (.ref a), .val (.ref b125), .val (.int (0 : Int32)), .val (.int (1 : Int32))] [(.int (1 : Int32))])) _
        refine XS.istore X142.here hx rfl (hb hby at_248) rfl (l' := #[.val (.int p0), .val (.int p1), .val (.int p2), .val (.int p3), .val (.int p4), .val (.int p5), .val (.int bd), .val (.int (3 : Int32)), .val (.int v0), .val (.int v1), .val (.int v2), .val (.int v3), .val (.ref a), .val (.ref b125), .val (.int (0 : Int32)), .val (.int (1 : Int32))]) rfl ?_
        refine XS.iload X142.here hx rfl (hb hby at_250) rfl ?_
        refine XS.iconst X142.here hx rfl (hb hby at_252) ?_
        refine XS.icmpYes X142.here hx rfl (pc0 := 253) (pc' := 279) rfl (hb hby at_253) rfl (flt (by decide : ¬ ((3 : Int32) < (3 : Int32)))).2.2.2 (by decide) (by decide) ?_
        refine XS.iload X142.here hx rfl (hb hby at_279) rfl ?_
        show Steps p.tables e below (T142.setTop (mkF m 281 #[.val (.int p0), .val (.int p1), .val (.int p2), .val (.int p3), .val (.int p4), .val (.int p5), .val (.int bd), .val (.int (3 : Int32)), .val (.int v0), .val (.int v1), .val (.int v2), .val (.int v3), .val (.ref a), .val (.ref b125), .val (.int (0 : Int32)), .val (.int (1 : Int32))] [(.int (1 : Int32))])) _
        exact retN X142 hx (t := .boolean) Bd.returns (by simp) (hb hby at_281) hr
      · show Q_rm0 Z p0 p1 p2 p3 p4 p5 h0 n0 _ T142.heap _
        rw [e142]
        exact ⟨rfl, N142⟩
    · have ne_a_y : a ≠ y := Nat.ne_of_lt (Nat.lt_of_lt_of_le (V_a_15).lt szy)
      have hle : bd.toInt ≤ 65536 := own_le rfl q2
      have st143 : ∀ target, Steps p.tables e below (T125.setTop (mkF m 136 #[.val (.int p0), .val (.int p1), .val (.int p2), .val (.int p3), .val (.int p4), .val (.int p5), .val (.int bd), .val (.int (3 : Int32)), .val (.int v0), .val (.int v1), .val (.int v2), .val (.int v3), .val (.ref a), .val (.ref b125), .val (.int (0 : Int32)), .unset] [(.int (v0 ^^^ (1 : Int32))), (.int (0 : Int32)), (.ref a)])) target → Steps p.tables e below (T125.setTop (mkF m 102 #[.val (.int p0), .val (.int p1), .val (.int p2), .val (.int p3), .val (.int p4), .val (.int p5), .val (.int bd), .val (.int (3 : Int32)), .val (.int v0), .val (.int v1), .val (.int v2), .val (.int v3), .val (.ref a), .unset, .unset, .unset] [(.ref b125)])) target := by
        intro target kt
        refine XS.astore X125.here hx rfl (hb hby at_102) rfl rfl (l' := #[.val (.int p0), .val (.int p1), .val (.int p2), .val (.int p3), .val (.int p4), .val (.int p5), .val (.int bd), .val (.int (3 : Int32)), .val (.int v0), .val (.int v1), .val (.int v2), .val (.int v3), .val (.ref a), .val (.ref b125), .unset, .unset]) rfl ?_
        refine XS.iload X125.here hx rfl (hb hby at_104) rfl ?_
        refine X125.ldcInt hx hown (mvT hZ (hw _ (List.mem_of_getElem? (i := 25) rfl))) (g := (mkF m 106 #[.val (.int p0), .val (.int p1), .val (.int p2), .val (.int p3), .val (.int p4), .val (.int p5), .val (.int bd), .val (.int (3 : Int32)), .val (.int v0), .val (.int v1), .val (.int v2), .val (.int v3), .val (.ref a), .val (.ref b125), .unset, .unset] [(.int bd)])) rfl (hb hby at_106) _ ?_
        show Steps p.tables e below (T125.setTop (mkF m 108 #[.val (.int p0), .val (.int p1), .val (.int p2), .val (.int p3), .val (.int p4), .val (.int p5), .val (.int bd), .val (.int (3 : Int32)), .val (.int v0), .val (.int v1), .val (.int v2), .val (.int v3), .val (.ref a), .val (.ref b125), .unset, .unset] [(.int (65536 : Int32)), (.int bd)])) _
        refine XS.icmpYes X125.here hx rfl (pc0 := 108) (pc' := 121) rfl (hb hby at_108) rfl (flt q2).2.2.2 (by decide) (by decide) ?_
        refine XS.iconst X125.here hx rfl (hb hby at_121) ?_
        refine XS.istore X125.here hx rfl (hb hby at_122) rfl (l' := #[.val (.int p0), .val (.int p1), .val (.int p2), .val (.int p3), .val (.int p4), .val (.int p5), .val (.int bd), .val (.int (3 : Int32)), .val (.int v0), .val (.int v1), .val (.int v2), .val (.int v3), .val (.ref a), .val (.ref b125), .val (.int (0 : Int32)), .unset]) rfl ?_
        refine XS.iload X125.here hx rfl (hb hby at_124) rfl ?_
        refine XS.ifNo X125.here hx rfl (hb hby at_126) rfl ((if0 _ _).trans (teq (rfl : (0 : Int32) = (0 : Int32))).2) ?_
        refine XS.aload X125.here hx rfl (hb hby at_129) rfl rfl ?_
        refine XS.iconst X125.here hx rfl (hb hby at_131) ?_
        refine XS.iload X125.here hx rfl (hb hby at_132) rfl ?_
        show Steps p.tables e below (T125.setTop (mkF m 134 #[.val (.int p0), .val (.int p1), .val (.int p2), .val (.int p3), .val (.int p4), .val (.int p5), .val (.int bd), .val (.int (3 : Int32)), .val (.int v0), .val (.int v1), .val (.int v2), .val (.int v3), .val (.ref a), .val (.ref b125), .val (.int (0 : Int32)), .unset] [(.int v0), (.int (0 : Int32)), (.ref a)])) _
        refine XS.iconst X125.here hx rfl (hb hby at_134) ?_
        refine XS.ixor X125.here hx rfl (hb hby at_135) rfl ?_
        exact kt
      obtain ⟨cl144, Ar144, qc144, Sz144, Mn144, Hs144, Gs144⟩ := id V_a_125
      have hin144 : ¬ ((0 : Int32) < 0 ∨ cl144.slots.size ≤ ((0 : Int32)).toNatClampNeg) := inb_of Sz144 ⟨by decide, by decide⟩
      obtain ⟨T144, h144, X144, e144, W144, st144⟩ := stI X125 hx hZ rfl Ar144 (j := (0 : Int32)) hin144 (g := (mkF m 136 #[.val (.int p0), .val (.int p1), .val (.int p2), .val (.int p3), .val (.int p4), .val (.int p5), .val (.int bd), .val (.int (3 : Int32)), .val (.int v0), .val (.int v1), .val (.int v2), .val (.int v3), .val (.ref a), .val (.ref b125), .val (.int (0 : Int32)), .unset] [(.int (v0 ^^^ (1 : Int32))), (.int (0 : Int32)), (.ref a)])) rfl rfl (hb hby at_136)
      have V_a_144 : Arv Z h144 a k7 .int (4 : Int32) [(.int (v0 ^^^ (1 : Int32))), (.int v1), (.int v2), (.int v3)] (.int (0 : Int32)) := Arv.set Ar144 qc144 Sz144 Mn144 Hs144 Gs144 rfl W144 0 rfl (Nat.le_of_ble_eq_true rfl)
      have Eb_144 := Eb.wr W144
      have Vy_144 := Vy.other W144 (Ne.symm ne_a_y)
      have Fb_144 := Fb.other W144 (Or.inl (Ne.symm ne_a_b125))
      have Fc_144 := Fc.other W144 (Or.inl (Ne.symm ne_a_b125))
      have Z_144 : n0 ≤ h144.size := Nat.le_trans Z_125 (Keep.of_wr W144).1
      have N144 := Fr.snoc X144 N125 g_a
      have st145 : ∀ target, Steps p.tables e below (T144.setTop (mkF m 144 #[.val (.int p0), .val (.int p1), .val (.int p2), .val (.int p3), .val (.int p4), .val (.int p5), .val (.int bd), .val (.int (3 : Int32)), .val (.int v0), .val (.int v1), .val (.int v2), .val (.int v3), .val (.ref a), .val (.ref b125), .val (.int (0 : Int32)), .unset] [(.int (v1 ^^^ (1 : Int32))), (.int (1 : Int32)), (.ref a)])) target → Steps p.tables e below (T144.setTop (mkF m 137 #[.val (.int p0), .val (.int p1), .val (.int p2), .val (.int p3), .val (.int p4), .val (.int p5), .val (.int bd), .val (.int (3 : Int32)), .val (.int v0), .val (.int v1), .val (.int v2), .val (.int v3), .val (.ref a), .val (.ref b125), .val (.int (0 : Int32)), .unset] [])) target := by
        intro target kt
        refine XS.aload X144.here hx rfl (hb hby at_137) rfl rfl ?_
        refine XS.iconst X144.here hx rfl (hb hby at_139) ?_
        refine XS.iload X144.here hx rfl (hb hby at_140) rfl ?_
        refine XS.iconst X144.here hx rfl (hb hby at_142) ?_
        refine XS.ixor X144.here hx rfl (hb hby at_143) rfl ?_
        exact kt
      obtain ⟨cl146, Ar146, qc146, Sz146, Mn146, Hs146, Gs146⟩ := id V_a_144
      have hin146 : ¬ ((1 : Int32) < 0 ∨ cl146.slots.size ≤ ((1 : Int32)).toNatClampNeg) := inb_of Sz146 ⟨by decide, by decide⟩
      obtain ⟨T146, h146, X146, e146, W146, st146⟩ := stI X144 hx hZ e144 Ar146 (j := (1 : Int32)) hin146 (g := (mkF m 144 #[.val (.int p0), .val (.int p1), .val (.int p2), .val (.int p3), .val (.int p4), .val (.int p5), .val (.int bd), .val (.int (3 : Int32)), .val (.int v0), .val (.int v1), .val (.int v2), .val (.int v3), .val (.ref a), .val (.ref b125), .val (.int (0 : Int32)), .unset] [(.int (v1 ^^^ (1 : Int32))), (.int (1 : Int32)), (.ref a)])) rfl rfl (hb hby at_144)
      have V_a_146 : Arv Z h146 a k7 .int (4 : Int32) [(.int (v0 ^^^ (1 : Int32))), (.int (v1 ^^^ (1 : Int32))), (.int v2), (.int v3)] (.int (0 : Int32)) := Arv.set Ar146 qc146 Sz146 Mn146 Hs146 Gs146 rfl W146 1 rfl (Nat.le_of_ble_eq_true rfl)
      have Eb_146 := Eb_144.wr W146
      have Vy_146 := Vy_144.other W146 (Ne.symm ne_a_y)
      have Fb_146 := Fb_144.other W146 (Or.inl (Ne.symm ne_a_b125))
      have Fc_146 := Fc_144.other W146 (Or.inl (Ne.symm ne_a_b125))
      have Z_146 : n0 ≤ h146.size := Nat.le_trans Z_144 (Keep.of_wr W146).1
      have N146 := Fr.snoc X146 N144 g_a
      have st147 : ∀ target, Steps p.tables e below (T146.setTop (mkF m 152 #[.val (.int p0), .val (.int p1), .val (.int p2), .val (.int p3), .val (.int p4), .val (.int p5), .val (.int bd), .val (.int (3 : Int32)), .val (.int v0), .val (.int v1), .val (.int v2), .val (.int v3), .val (.ref a), .val (.ref b125), .val (.int (0 : Int32)), .unset] [(.int (v2 ^^^ (1 : Int32))), (.int (2 : Int32)), (.ref a)])) target → Steps p.tables e below (T146.setTop (mkF m 145 #[.val (.int p0), .val (.int p1), .val (.int p2), .val (.int p3), .val (.int p4), .val (.int p5), .val (.int bd), .val (.int (3 : Int32)), .val (.int v0), .val (.int v1), .val (.int v2), .val (.int v3), .val (.ref a), .val (.ref b125), .val (.int (0 : Int32)), .unset] [])) target := by
        intro target kt
        refine XS.aload X146.here hx rfl (hb hby at_145) rfl rfl ?_
        show Steps p.tables e below (T146.setTop (mkF m 147 #[.val (.int p0), .val (.int p1), .val (.int p2), .val (.int p3), .val (.int p4), .val (.int p5), .val (.int bd), .val (.int (3 : Int32)), .val (.int v0), .val (.int v1), .val (.int v2), .val (.int v3), .val (.ref a), .val (.ref b125), .val (.int (0 : Int32)), .unset] [(.ref a)])) _
        refine XS.iconst X146.here hx rfl (hb hby at_147) ?_
        refine XS.iload X146.here hx rfl (hb hby at_148) rfl ?_
        refine XS.iconst X146.here hx rfl (hb hby at_150) ?_
        refine XS.ixor X146.here hx rfl (hb hby at_151) rfl ?_
        exact kt
      obtain ⟨cl148, Ar148, qc148, Sz148, Mn148, Hs148, Gs148⟩ := id V_a_146
      have hin148 : ¬ ((2 : Int32) < 0 ∨ cl148.slots.size ≤ ((2 : Int32)).toNatClampNeg) := inb_of Sz148 ⟨by decide, by decide⟩
      obtain ⟨T148, h148, X148, e148, W148, st148⟩ := stI X146 hx hZ e146 Ar148 (j := (2 : Int32)) hin148 (g := (mkF m 152 #[.val (.int p0), .val (.int p1), .val (.int p2), .val (.int p3), .val (.int p4), .val (.int p5), .val (.int bd), .val (.int (3 : Int32)), .val (.int v0), .val (.int v1), .val (.int v2), .val (.int v3), .val (.ref a), .val (.ref b125), .val (.int (0 : Int32)), .unset] [(.int (v2 ^^^ (1 : Int32))), (.int (2 : Int32)), (.ref a)])) rfl rfl (hb hby at_152)
      have V_a_148 : Arv Z h148 a k7 .int (4 : Int32) [(.int (v0 ^^^ (1 : Int32))), (.int (v1 ^^^ (1 : Int32))), (.int (v2 ^^^ (1 : Int32))), (.int v3)] (.int (0 : Int32)) := Arv.set Ar148 qc148 Sz148 Mn148 Hs148 Gs148 rfl W148 2 rfl (Nat.le_of_ble_eq_true rfl)
      have Eb_148 := Eb_146.wr W148
      have Vy_148 := Vy_146.other W148 (Ne.symm ne_a_y)
      have Fb_148 := Fb_146.other W148 (Or.inl (Ne.symm ne_a_b125))
      have Fc_148 := Fc_146.other W148 (Or.inl (Ne.symm ne_a_b125))
      have Z_148 : n0 ≤ h148.size := Nat.le_trans Z_146 (Keep.of_wr W148).1
      have N148 := Fr.snoc X148 N146 g_a
      have st149 : ∀ target, Steps p.tables e below (T148.setTop (mkF m 160 #[.val (.int p0), .val (.int p1), .val (.int p2), .val (.int p3), .val (.int p4), .val (.int p5), .val (.int bd), .val (.int (3 : Int32)), .val (.int v0), .val (.int v1), .val (.int v2), .val (.int v3), .val (.ref a), .val (.ref b125), .val (.int (0 : Int32)), .unset] [(.int (v3 ^^^ (1 : Int32))), (.int (3 : Int32)), (.ref a)])) target → Steps p.tables e below (T148.setTop (mkF m 153 #[.val (.int p0), .val (.int p1), .val (.int p2), .val (.int p3), .val (.int p4), .val (.int p5), .val (.int bd), .val (.int (3 : Int32)), .val (.int v0), .val (.int v1), .val (.int v2), .val (.int v3), .val (.ref a), .val (.ref b125), .val (.int (0 : Int32)), .unset] [])) target := by
        intro target kt
        refine XS.aload X148.here hx rfl (hb hby at_153) rfl rfl ?_
        refine XS.iconst X148.here hx rfl (hb hby at_155) ?_
        refine XS.iload X148.here hx rfl (hb hby at_156) rfl ?_
        refine XS.iconst X148.here hx rfl (hb hby at_158) ?_
        show Steps p.tables e below (T148.setTop (mkF m 159 #[.val (.int p0), .val (.int p1), .val (.int p2), .val (.int p3), .val (.int p4), .val (.int p5), .val (.int bd), .val (.int (3 : Int32)), .val (.int v0), .val (.int v1), .val (.int v2), .val (.int v3), .val (.ref a), .val (.ref b125), .val (.int (0 : Int32)), .unset] [(.int (1 : Int32)), (.int v3), (.int (3 : Int32)), (.ref a)])) _
        refine XS.ixor X148.here hx rfl (hb hby at_159) rfl ?_
        exact kt
      obtain ⟨cl150, Ar150, qc150, Sz150, Mn150, Hs150, Gs150⟩ := id V_a_148
      have hin150 : ¬ ((3 : Int32) < 0 ∨ cl150.slots.size ≤ ((3 : Int32)).toNatClampNeg) := inb_of Sz150 ⟨by decide, by decide⟩
      obtain ⟨T150, h150, X150, e150, W150, st150⟩ := stI X148 hx hZ e148 Ar150 (j := (3 : Int32)) hin150 (g := (mkF m 160 #[.val (.int p0), .val (.int p1), .val (.int p2), .val (.int p3), .val (.int p4), .val (.int p5), .val (.int bd), .val (.int (3 : Int32)), .val (.int v0), .val (.int v1), .val (.int v2), .val (.int v3), .val (.ref a), .val (.ref b125), .val (.int (0 : Int32)), .unset] [(.int (v3 ^^^ (1 : Int32))), (.int (3 : Int32)), (.ref a)])) rfl rfl (hb hby at_160)
      have V_a_150 : Arv Z h150 a k7 .int (4 : Int32) [(.int (v0 ^^^ (1 : Int32))), (.int (v1 ^^^ (1 : Int32))), (.int (v2 ^^^ (1 : Int32))), (.int (v3 ^^^ (1 : Int32)))] (.int (0 : Int32)) := Arv.set Ar150 qc150 Sz150 Mn150 Hs150 Gs150 rfl W150 3 rfl (Nat.le_of_ble_eq_true rfl)
      have Eb_150 := Eb_148.wr W150
      have Vy_150 := Vy_148.other W150 (Ne.symm ne_a_y)
      have Fb_150 := Fb_148.other W150 (Or.inl (Ne.symm ne_a_b125))
      have Fc_150 := Fc_148.other W150 (Or.inl (Ne.symm ne_a_b125))
      have Z_150 : n0 ≤ h150.size := Nat.le_trans Z_148 (Keep.of_wr W150).1
      have N150 := Fr.snoc X150 N148 g_a
      have st151 : ∀ target, Steps p.tables e below (T150.setTop (mkF m 177 #[.val (.int p0), .val (.int p1), .val (.int p2), .val (.int p3), .val (.int p4), .val (.int p5), .val (.int bd), .val (.int (3 : Int32)), .val (.int v0), .val (.int v1), .val (.int v2), .val (.int v3), .val (.ref a), .val (.ref b125), .val (.int (0 : Int32)), .val (.int (1 : Int32))] [(.int (0 : Int32)), (.ref b125)])) target → Steps p.tables e below (T150.setTop (mkF m 161 #[.val (.int p0), .val (.int p1), .val (.int p2), .val (.int p3), .val (.int p4), .val (.int p5), .val (.int bd), .val (.int (3 : Int32)), .val (.int v0), .val (.int v1), .val (.int v2), .val (.int v3), .val (.ref a), .val (.ref b125), .val (.int (0 : Int32)), .unset] [])) target := by
        intro target kt
        refine XS.iconst X150.here hx rfl (hb hby at_161) ?_
        refine XS.istore X150.here hx rfl (hb hby at_162) rfl (l' := #[.val (.int p0), .val (.int p1), .val (.int p2), .val (.int p3), .val (.int p4), .val (.int p5), .val (.int bd), .val (.int (3 : Int32)), .val (.int v0), .val (.int v1), .val (.int v2), .val (.int v3), .val (.ref a), .val (.ref b125), .val (.int (0 : Int32)), .val (.int (1 : Int32))]) rfl ?_
        refine XS.iload X150.here hx rfl (hb hby at_164) rfl ?_
        refine XS.ifNo X150.here hx rfl (hb hby at_166) rfl ((if0 _ _).trans (tlt (by decide : ((0 : Int32) < (3 : Int32)))).2.2.2) ?_
        refine XS.iload X150.here hx rfl (hb hby at_169) rfl ?_
        refine XS.ifNo X150.here hx rfl (hb hby at_171) rfl ((if0 _ _).trans (feq (by decide : ¬ ((1 : Int32) = (0 : Int32)))).1) ?_
        refine XS.aload X150.here hx rfl (hb hby at_174) rfl rfl ?_
        show Steps p.tables e below (T150.setTop (mkF m 176 #[.val (.int p0), .val (.int p1), .val (.int p2), .val (.int p3), .val (.int p4), .val (.int p5), .val (.int bd), .val (.int (3 : Int32)), .val (.int v0), .val (.int v1), .val (.int v2), .val (.int v3), .val (.ref a), .val (.ref b125), .val (.int (0 : Int32)), .val (.int (1 : Int32))] [(.ref b125)])) _
        refine XS.iconst X150.here hx rfl (hb hby at_176) ?_
        exact kt
      obtain ⟨cl152, Ar152, qc152, Sz152, Mn152, Hs152, Gs152⟩ := id Vy_150
      have hin152 : ¬ ((0 : Int32) < 0 ∨ cl152.slots.size ≤ ((0 : Int32)).toNatClampNeg) := inb_of Sz152 ⟨by decide, by decide⟩
      obtain ⟨cq153, kq153, qv153a, qv153b, qv153c⟩ := isOf hZ e150 Eb_150
      obtain ⟨_, _, ⟨T153, L153, k153, n153⟩, -, X153, ⟨Lc153, hQ153, l153, y153, z153⟩, st153⟩ := X150.virtualBack hx (y := (⟨"com/example/libbisim/libbisim/CompactInts", "get", "(I)I"⟩ : MethodName)) (z := (⟨"com/example/libbisim/libbisim/CompactInts", "get", "(I)I"⟩ : MethodName)) hown (mvT hZ (hw _ (List.mem_of_getElem? (i := 38) rfl))) (mvT hZ (hw _ (List.mem_of_getElem? (i := 39) rfl))) (notFace_of_selects (args := #[]) (mvT hZ (hw _ (List.mem_of_getElem? (i := 41) rfl)))) (mvT hZ (hw _ (List.mem_of_getElem? (i := 41) rfl))) (mvT hZ (hw _ (List.mem_of_getElem? (i := 40) rfl))) (by decide) (backOf (W := 0) (rmGC l Z a0 hw [] b125 (0 : Int32) y cl152 (nar .char (v0.toUInt32.toUInt16.toUInt32.toInt32)) h150 n0 Z_150 Fb_150 Fc_150 Ar152 hin152 (Hs152.at hin152 rfl)) hZ (hw _ (List.mem_of_getElem? (i := 42) rfl)) (hw _ (List.mem_of_getElem? (i := 8) rfl)) (by decide) (by decide)) qv153a qv153c (g := (mkF m 177 #[.val (.int p0), .val (.int p1), .val (.int p2), .val (.int p3), .val (.int p4), .val (.int p5), .val (.int bd), .val (.int (3 : Int32)), .val (.int v0), .val (.int v1), .val (.int v2), .val (.int v3), .val (.ref a), .val (.ref b125), .val (.int (0 : Int32)), .val (.int (1 : Int32))] [(.int (0 : Int32)), (.ref b125)])) rfl (by rw [hml]; rfl) (Steps.refl _) (argsL := [(.int (0 : Int32))]) (rest := []) (lenOf pd_6 rfl) rfl (by show 2 * 0 + _ ≤ _; exact Nat.le_of_eq rfl) (hb hby at_177) (fun _ _ => ⟨rfl, e150, (by decide : 3 + 0 ≤ _), (by decide : 10 + 0 ≤ _)⟩)
      dsimp only [Pt.U, Pt.locs, Pt.cells, Pt.slots] at X153 l153 y153 z153 st153 hQ153
      subst l153 y153 z153
      obtain ⟨rfl, Nq153, e153⟩ := hQ153
      have N153 := Fr.app N150 Nq153
      rw [own_c16 R0.1 (by omega)] at st153
      have st154 : ∀ target, Steps p.tables e below (T153.setTop (mkF m 206 #[.val (.int p0), .val (.int p1), .val (.int p2), .val (.int p3), .val (.int p4), .val (.int p5), .val (.int bd), .val (.int (3 : Int32)), .val (.int v0), .val (.int v1), .val (.int v2), .val (.int v3), .val (.ref a), .val (.ref b125), .val (.int (0 : Int32)), .val (.int (1 : Int32))] [(.int (1 : Int32)), (.ref b125)])) target → Steps p.tables e below (T153.setTop (mkF m 180 #[.val (.int p0), .val (.int p1), .val (.int p2), .val (.int p3), .val (.int p4), .val (.int p5), .val (.int bd), .val (.int (3 : Int32)), .val (.int v0), .val (.int v1), .val (.int v2), .val (.int v3), .val (.ref a), .val (.ref b125), .val (.int (0 : Int32)), .val (.int (1 : Int32))] [(.int v0)])) target := by
        intro target kt
        refine XS.iload X153.here hx rfl (hb hby at_180) rfl ?_
        refine XS.icmpNo X153.here hx rfl (hb hby at_182) rfl (teq (rfl : v0 = v0)).2 ?_
        refine XS.iconst X153.here hx rfl (hb hby at_185) ?_
        refine XS.goto X153.here hx rfl (pc0 := 186) (pc' := 190) rfl (hb hby at_186) (by decide) (by decide) ?_
        refine XS.istore X153.here hx rfl (hb hby at_190) rfl (l' := #[.val (.int p0), .val (.int p1), .val (.int p2), .val (.int p3), .val (.int p4), .val (.int p5), .val (.int bd), .val (.int (3 : Int32)), .val (.int v0), .val (.int v1), .val (.int v2), .val (.int v3), .val (.ref a), .val (.ref b125), .val (.int (0 : Int32)), .val (.int (1 : Int32))]) rfl ?_
        refine XS.iload X153.here hx rfl (hb hby at_192) rfl ?_
        refine XS.iconst X153.here hx rfl (hb hby at_194) ?_
        show Steps p.tables e below (T153.setTop (mkF m 195 #[.val (.int p0), .val (.int p1), .val (.int p2), .val (.int p3), .val (.int p4), .val (.int p5), .val (.int bd), .val (.int (3 : Int32)), .val (.int v0), .val (.int v1), .val (.int v2), .val (.int v3), .val (.ref a), .val (.ref b125), .val (.int (0 : Int32)), .val (.int (1 : Int32))] [(.int (1 : Int32)), (.int (3 : Int32))])) _
        refine XS.icmpNo X153.here hx rfl (hb hby at_195) rfl (tlt (by decide : ((1 : Int32) < (3 : Int32)))).2.2.2 ?_
        refine XS.iload X153.here hx rfl (hb hby at_198) rfl ?_
        refine XS.ifNo X153.here hx rfl (hb hby at_200) rfl ((if0 _ _).trans (feq (by decide : ¬ ((1 : Int32) = (0 : Int32)))).1) ?_
        refine XS.aload X153.here hx rfl (hb hby at_203) rfl rfl ?_
        refine XS.iconst X153.here hx rfl (hb hby at_205) ?_
        exact kt
      obtain ⟨cl155, Ar155, qc155, Sz155, Mn155, Hs155, Gs155⟩ := id Vy_150
      have hin155 : ¬ ((1 : Int32) < 0 ∨ cl155.slots.size ≤ ((1 : Int32)).toNatClampNeg) := inb_of Sz155 ⟨by decide, by decide⟩
      obtain ⟨cq156, kq156, qv156a, qv156b, qv156c⟩ := isOf hZ e153 Eb_150
      obtain ⟨_, _, ⟨T156, L156, k156, n156⟩, -, X156, ⟨Lc156, hQ156, l156, y156, z156⟩, st156⟩ := X153.virtualBack hx (y := (⟨"com/example/libbisim/libbisim/CompactInts", "get", "(I)I"⟩ : MethodName)) (z := (⟨"com/example/libbisim/libbisim/CompactInts", "get", "(I)I"⟩ : MethodName)) hown (mvT hZ (hw _ (List.mem_of_getElem? (i := 38) rfl))) (mvT hZ (hw _ (List.mem_of_getElem? (i := 39) rfl))) (notFace_of_selects (args := #[]) (mvT hZ (hw _ (List.mem_of_getElem? (i := 41) rfl)))) (mvT hZ (hw _ (List.mem_of_getElem? (i := 41) rfl))) (mvT hZ (hw _ (List.mem_of_getElem? (i := 40) rfl))) (by decide) (backOf (W := 0) (rmGC l Z a0 hw [] b125 (1 : Int32) y cl155 (nar .char (v1.toUInt32.toUInt16.toUInt32.toInt32)) h150 n0 Z_150 Fb_150 Fc_150 Ar155 hin155 (Hs155.at hin155 rfl)) hZ (hw _ (List.mem_of_getElem? (i := 42) rfl)) (hw _ (List.mem_of_getElem? (i := 8) rfl)) (by decide) (by decide)) qv156a qv156c (g := (mkF m 206 #[.val (.int p0), .val (.int p1), .val (.int p2), .val (.int p3), .val (.int p4), .val (.int p5), .val (.int bd), .val (.int (3 : Int32)), .val (.int v0), .val (.int v1), .val (.int v2), .val (.int v3), .val (.ref a), .val (.ref b125), .val (.int (0 : Int32)), .val (.int (1 : Int32))] [(.int (1 : Int32)), (.ref b125)])) rfl (by rw [hml]; rfl) (Steps.refl _) (argsL := [(.int (1 : Int32))]) (rest := []) (lenOf pd_6 rfl) rfl (by show 2 * 0 + _ ≤ _; exact Nat.le_of_eq rfl) (hb hby at_206) (fun _ _ => ⟨rfl, e153, (by decide : 3 + 0 ≤ _), (by decide : 10 + 0 ≤ _)⟩)
      dsimp only [Pt.U, Pt.locs, Pt.cells, Pt.slots] at X156 l156 y156 z156 st156 hQ156
      subst l156 y156 z156
      obtain ⟨rfl, Nq156, e156⟩ := hQ156
      have N156 := Fr.app N153 Nq156
      rw [own_c16 R1.1 (by omega)] at st156
      have st157 : ∀ target, Steps p.tables e below (T156.setTop (mkF m 235 #[.val (.int p0), .val (.int p1), .val (.int p2), .val (.int p3), .val (.int p4), .val (.int p5), .val (.int bd), .val (.int (3 : Int32)), .val (.int v0), .val (.int v1), .val (.int v2), .val (.int v3), .val (.ref a), .val (.ref b125), .val (.int (0 : Int32)), .val (.int (1 : Int32))] [(.int (2 : Int32)), (.ref b125)])) target → Steps p.tables e below (T156.setTop (mkF m 209 #[.val (.int p0), .val (.int p1), .val (.int p2), .val (.int p3), .val (.int p4), .val (.int p5), .val (.int bd), .val (.int (3 : Int32)), .val (.int v0), .val (.int v1), .val (.int v2), .val (.int v3), .val (.ref a), .val (.ref b125), .val (.int (0 : Int32)), .val (.int (1 : Int32))] [(.int v1)])) target := by
        intro target kt
        refine XS.iload X156.here hx rfl (hb hby at_209) rfl ?_
        refine XS.icmpNo X156.here hx rfl (hb hby at_211) rfl (teq (rfl : v1 = v1)).2 ?_
        refine XS.iconst X156.here hx rfl (hb hby at_214) ?_
        show Steps p.tables e below (T156.setTop (mkF m 215 #[.val (.int p0), .val (.int p1), .val (.int p2), .val (.int p3), .val (.int p4), .val (.int p5), .val (.int bd), .val (.int (3 : Int32)), .val (.int v0), .val (.int v1), .val (.int v2), .val (.int v3), .val (.ref a), .val (.ref b125), .val (.int (0 : Int32)), .val (.int (1 : Int32))] [(.int (1 : Int32))])) _
        refine XS.goto X156.here hx rfl (pc0 := 215) (pc' := 219) rfl (hb hby at_215) (by decide) (by decide) ?_
        refine XS.istore X156.here hx rfl (hb hby at_219) rfl (l' := #[.val (.int p0), .val (.int p1), .val (.int p2), .val (.int p3), .val (.int p4), .val (.int p5), .val (.int bd), .val (.int (3 : Int32)), .val (.int v0), .val (.int v1), .val (.int v2), .val (.int v3), .val (.ref a), .val (.ref b125), .val (.int (0 : Int32)), .val (.int (1 : Int32))]) rfl ?_
        refine XS.iload X156.here hx rfl (hb hby at_221) rfl ?_
        refine XS.iconst X156.here hx rfl (hb hby at_223) ?_
        refine XS.icmpNo X156.here hx rfl (hb hby at_224) rfl (tlt (by decide : ((2 : Int32) < (3 : Int32)))).2.2.2 ?_
        refine XS.iload X156.here hx rfl (hb hby at_227) rfl ?_
        refine XS.ifNo X156.here hx rfl (hb hby at_229) rfl ((if0 _ _).trans (feq (by decide : ¬ ((1 : Int32) = (0 : Int32)))).1) ?_
        refine XS.aload X156.here hx rfl (hb hby at_232) rfl rfl ?_
        show Steps p.tables e below (T156.setTop (mkF m 234 #[.val (.int p0), .val (.int p1), .val (.int p2), .val (.int p3), .val (.int p4), .val (.int p5), .val (.int bd), .val (.int (3 : Int32)), .val (.int v0), .val (.int v1), .val (.int v2), .val (.int v3), .val (.ref a), .val (.ref b125), .val (.int (0 : Int32)), .val (.int (1 : Int32))] [(.ref b125)])) _
        refine XS.iconst X156.here hx rfl (hb hby at_234) ?_
        exact kt
      obtain ⟨cl158, Ar158, qc158, Sz158, Mn158, Hs158, Gs158⟩ := id Vy_150
      have hin158 : ¬ ((2 : Int32) < 0 ∨ cl158.slots.size ≤ ((2 : Int32)).toNatClampNeg) := inb_of Sz158 ⟨by decide, by decide⟩
      obtain ⟨cq159, kq159, qv159a, qv159b, qv159c⟩ := isOf hZ e156 Eb_150
      obtain ⟨_, _, ⟨T159, L159, k159, n159⟩, -, X159, ⟨Lc159, hQ159, l159, y159, z159⟩, st159⟩ := X156.virtualBack hx (y := (⟨"com/example/libbisim/libbisim/CompactInts", "get", "(I)I"⟩ : MethodName)) (z := (⟨"com/example/libbisim/libbisim/CompactInts", "get", "(I)I"⟩ : MethodName)) hown (mvT hZ (hw _ (List.mem_of_getElem? (i := 38) rfl))) (mvT hZ (hw _ (List.mem_of_getElem? (i := 39) rfl))) (notFace_of_selects (args := #[]) (mvT hZ (hw _ (List.mem_of_getElem? (i := 41) rfl)))) (mvT hZ (hw _ (List.mem_of_getElem? (i := 41) rfl))) (mvT hZ (hw _ (List.mem_of_getElem? (i := 40) rfl))) (by decide) (backOf (W := 0) (rmGC l Z a0 hw [] b125 (2 : Int32) y cl158 (nar .char (v2.toUInt32.toUInt16.toUInt32.toInt32)) h150 n0 Z_150 Fb_150 Fc_150 Ar158 hin158 (Hs158.at hin158 rfl)) hZ (hw _ (List.mem_of_getElem? (i := 42) rfl)) (hw _ (List.mem_of_getElem? (i := 8) rfl)) (by decide) (by decide)) qv159a qv159c (g := (mkF m 235 #[.val (.int p0), .val (.int p1), .val (.int p2), .val (.int p3), .val (.int p4), .val (.int p5), .val (.int bd), .val (.int (3 : Int32)), .val (.int v0), .val (.int v1), .val (.int v2), .val (.int v3), .val (.ref a), .val (.ref b125), .val (.int (0 : Int32)), .val (.int (1 : Int32))] [(.int (2 : Int32)), (.ref b125)])) rfl (by rw [hml]; rfl) (Steps.refl _) (argsL := [(.int (2 : Int32))]) (rest := []) (lenOf pd_6 rfl) rfl (by show 2 * 0 + _ ≤ _; exact Nat.le_of_eq rfl) (hb hby at_235) (fun _ _ => ⟨rfl, e156, (by decide : 3 + 0 ≤ _), (by decide : 10 + 0 ≤ _)⟩)
      dsimp only [Pt.U, Pt.locs, Pt.cells, Pt.slots] at X159 l159 y159 z159 st159 hQ159
      subst l159 y159 z159
      obtain ⟨rfl, Nq159, e159⟩ := hQ159
      have N159 := Fr.app N156 Nq159
      rw [own_c16 R2.1 (by omega)] at st159
      obtain ⟨fs, hr, hrun, hended, hW, hsame⟩ := X159.leave (v := some (.int (1 : Int32))) (fun h => by rw [Bd.returns] at h; cases h)
      refine ⟨_, _, pre0 _ (st1 _ (st2 _ (st3 _ (st4 _ (st5 _ (st6 _ (st7 _ (st8 _ (st9 _ (st10 _ (st11 _ (st12 _ (st13 _ (st14 _ (st15 _ (st124 _ (st125 _ (st143 _ (st144 _ (st145 _ (st146 _ (st147 _ (st148 _ (st149 _ (st150 _ (st151 _ (st153.trans (st154 _ (st156.trans (st157 _ (st159.trans ?_))))))))))))))))))))))))))))))), hrun, hended, _, _, rfl, ?_, ⟨_, rfl⟩, hW, hsame.mono (by decide) (by decide)⟩
      · refine XS.iload X159.here hx rfl (hb hby at_238) rfl ?_
        refine XS.icmpNo X159.here hx rfl (hb hby at_240) rfl (teq (rfl : v2 = v2)).2 ?_
        refine XS.iconst X159.here hx rfl (hb hby at_243) ?_
        refine XS.goto X159.here hx rfl (pc0 := 244) (pc' := 248) rfl (hb hby at_244) (by decide) (by decide) ?_
        refine XS.istore X159.here hx rfl (hb hby at_248) rfl (l' := #[.val (.int p0), .val (.int p1), .val (.int p2), .val (.int p3), .val (.int p4), .val (.int p5), .val (.int bd), .val (.int (3 : Int32)), .val (.int v0), .val (.int v1), .val (.int v2), .val (.int v3), .val (.ref a), .val (.ref b125), .val (.int (0 : Int32)), .val (.int (1 : Int32))]) rfl ?_
        refine XS.iload X159.here hx rfl (hb hby at_250) rfl ?_
        refine XS.iconst X159.here hx rfl (hb hby at_252) ?_
        show Steps p.tables e below (T159.setTop (mkF m 253 #[.val (.int p0), .val (.int p1), .val (.int p2), .val (.int p3), .val (.int p4), .val (.int p5), .val (.int bd), .val (.int (3 : Int32)), .val (.int v0), .val (.int v1), .val (.int v2), .val (.int v3), .val (.ref a), .val (.ref b125), .val (.int (0 : Int32)), .val (.int (1 : Int32))] [(.int (3 : Int32)), (.int (3 : Int32))])) _
        refine XS.icmpYes X159.here hx rfl (pc0 := 253) (pc' := 279) rfl (hb hby at_253) rfl (flt (by decide : ¬ ((3 : Int32) < (3 : Int32)))).2.2.2 (by decide) (by decide) ?_
        refine XS.iload X159.here hx rfl (hb hby at_279) rfl ?_
        show Steps p.tables e below (T159.setTop (mkF m 281 #[.val (.int p0), .val (.int p1), .val (.int p2), .val (.int p3), .val (.int p4), .val (.int p5), .val (.int bd), .val (.int (3 : Int32)), .val (.int v0), .val (.int v1), .val (.int v2), .val (.int v3), .val (.ref a), .val (.ref b125), .val (.int (0 : Int32)), .val (.int (1 : Int32))] [(.int (1 : Int32))])) _
        exact retN X159 hx (t := .boolean) Bd.returns (by simp) (hb hby at_281) hr
      · show Q_rm0 Z p0 p1 p2 p3 p4 p5 h0 n0 _ T159.heap _
        rw [e159]
        exact ⟨rfl, N159⟩
    · have ne_a_y : a ≠ y := Nat.ne_of_lt (Nat.lt_of_lt_of_le (V_a_15).lt szy)
      have hle : bd.toInt ≤ 2147483647 := by have := Int32.toInt_lt bd; omega
      have st160 : ∀ target, Steps p.tables e below (T125.setTop (mkF m 136 #[.val (.int p0), .val (.int p1), .val (.int p2), .val (.int p3), .val (.int p4), .val (.int p5), .val (.int bd), .val (.int (3 : Int32)), .val (.int v0), .val (.int v1), .val (.int v2), .val (.int v3), .val (.ref a), .val (.ref b125), .val (.int (0 : Int32)), .unset] [(.int (v0 ^^^ (1 : Int32))), (.int (0 : Int32)), (.ref a)])) target → Steps p.tables e below (T125.setTop (mkF m 102 #[.val (.int p0), .val (.int p1), .val (.int p2), .val (.int p3), .val (.int p4), .val (.int p5), .val (.int bd), .val (.int (3 : Int32)), .val (.int v0), .val (.int v1), .val (.int v2), .val (.int v3), .val (.ref a), .unset, .unset, .unset] [(.ref b125)])) target := by
        intro target kt
        refine XS.astore X125.here hx rfl (hb hby at_102) rfl rfl (l' := #[.val (.int p0), .val (.int p1), .val (.int p2), .val (.int p3), .val (.int p4), .val (.int p5), .val (.int bd), .val (.int (3 : Int32)), .val (.int v0), .val (.int v1), .val (.int v2), .val (.int v3), .val (.ref a), .val (.ref b125), .unset, .unset]) rfl ?_
        refine XS.iload X125.here hx rfl (hb hby at_104) rfl ?_
        refine X125.ldcInt hx hown (mvT hZ (hw _ (List.mem_of_getElem? (i := 25) rfl))) (g := (mkF m 106 #[.val (.int p0), .val (.int p1), .val (.int p2), .val (.int p3), .val (.int p4), .val (.int p5), .val (.int bd), .val (.int (3 : Int32)), .val (.int v0), .val (.int v1), .val (.int v2), .val (.int v3), .val (.ref a), .val (.ref b125), .unset, .unset] [(.int bd)])) rfl (hb hby at_106) _ ?_
        refine XS.icmpNo X125.here hx rfl (hb hby at_108) rfl (tlt q1).2.2.2 ?_
        refine XS.iload X125.here hx rfl (hb hby at_111) rfl ?_
        refine XS.iconst X125.here hx rfl (hb hby at_113) ?_
        show Steps p.tables e below (T125.setTop (mkF m 114 #[.val (.int p0), .val (.int p1), .val (.int p2), .val (.int p3), .val (.int p4), .val (.int p5), .val (.int bd), .val (.int (3 : Int32)), .val (.int v0), .val (.int v1), .val (.int v2), .val (.int v3), .val (.ref a), .val (.ref b125), .unset, .unset] [(.int (4 : Int32)), (.int (3 : Int32))])) _
        refine XS.icmpYes X125.here hx rfl (pc0 := 114) (pc' := 121) rfl (hb hby at_114) rfl (feq (by decide : ¬ ((3 : Int32) = (4 : Int32)))).2 (by decide) (by decide) ?_
        refine XS.iconst X125.here hx rfl (hb hby at_121) ?_
        refine XS.istore X125.here hx rfl (hb hby at_122) rfl (l' := #[.val (.int p0), .val (.int p1), .val (.int p2), .val (.int p3), .val (.int p4), .val (.int p5), .val (.int bd), .val (.int (3 : Int32)), .val (.int v0), .val (.int v1), .val (.int v2), .val (.int v3), .val (.ref a), .val (.ref b125), .val (.int (0 : Int32)), .unset]) rfl ?_
        refine XS.iload X125.here hx rfl (hb hby at_124) rfl ?_
        refine XS.ifNo X125.here hx rfl (hb hby at_126) rfl ((if0 _ _).trans (teq (rfl : (0 : Int32) = (0 : Int32))).2) ?_
        refine XS.aload X125.here hx rfl (hb hby at_129) rfl rfl ?_
        refine XS.iconst X125.here hx rfl (hb hby at_131) ?_
        refine XS.iload X125.here hx rfl (hb hby at_132) rfl ?_
        show Steps p.tables e below (T125.setTop (mkF m 134 #[.val (.int p0), .val (.int p1), .val (.int p2), .val (.int p3), .val (.int p4), .val (.int p5), .val (.int bd), .val (.int (3 : Int32)), .val (.int v0), .val (.int v1), .val (.int v2), .val (.int v3), .val (.ref a), .val (.ref b125), .val (.int (0 : Int32)), .unset] [(.int v0), (.int (0 : Int32)), (.ref a)])) _
        refine XS.iconst X125.here hx rfl (hb hby at_134) ?_
        refine XS.ixor X125.here hx rfl (hb hby at_135) rfl ?_
        exact kt
      obtain ⟨cl161, Ar161, qc161, Sz161, Mn161, Hs161, Gs161⟩ := id V_a_125
      have hin161 : ¬ ((0 : Int32) < 0 ∨ cl161.slots.size ≤ ((0 : Int32)).toNatClampNeg) := inb_of Sz161 ⟨by decide, by decide⟩
      obtain ⟨T161, h161, X161, e161, W161, st161⟩ := stI X125 hx hZ rfl Ar161 (j := (0 : Int32)) hin161 (g := (mkF m 136 #[.val (.int p0), .val (.int p1), .val (.int p2), .val (.int p3), .val (.int p4), .val (.int p5), .val (.int bd), .val (.int (3 : Int32)), .val (.int v0), .val (.int v1), .val (.int v2), .val (.int v3), .val (.ref a), .val (.ref b125), .val (.int (0 : Int32)), .unset] [(.int (v0 ^^^ (1 : Int32))), (.int (0 : Int32)), (.ref a)])) rfl rfl (hb hby at_136)
      have V_a_161 : Arv Z h161 a k7 .int (4 : Int32) [(.int (v0 ^^^ (1 : Int32))), (.int v1), (.int v2), (.int v3)] (.int (0 : Int32)) := Arv.set Ar161 qc161 Sz161 Mn161 Hs161 Gs161 rfl W161 0 rfl (Nat.le_of_ble_eq_true rfl)
      have Eb_161 := Eb.wr W161
      have Vy_161 := Vy.other W161 (Ne.symm ne_a_y)
      have Fb_161 := Fb.other W161 (Or.inl (Ne.symm ne_a_b125))
      have Fc_161 := Fc.other W161 (Or.inl (Ne.symm ne_a_b125))
      have Fi_161 := Fi.other W161 (Or.inl (Ne.symm ne_a_b125))
      have Z_161 : n0 ≤ h161.size := Nat.le_trans Z_125 (Keep.of_wr W161).1
      have N161 := Fr.snoc X161 N125 g_a
      have st162 : ∀ target, Steps p.tables e below (T161.setTop (mkF m 144 #[.val (.int p0), .val (.int p1), .val (.int p2), .val (.int p3), .val (.int p4), .val (.int p5), .val (.int bd), .val (.int (3 : Int32)), .val (.int v0), .val (.int v1), .val (.int v2), .val (.int v3), .val (.ref a), .val (.ref b125), .val (.int (0 : Int32)), .unset] [(.int (v1 ^^^ (1 : Int32))), (.int (1 : Int32)), (.ref a)])) target → Steps p.tables e below (T161.setTop (mkF m 137 #[.val (.int p0), .val (.int p1), .val (.int p2), .val (.int p3), .val (.int p4), .val (.int p5), .val (.int bd), .val (.int (3 : Int32)), .val (.int v0), .val (.int v1), .val (.int v2), .val (.int v3), .val (.ref a), .val (.ref b125), .val (.int (0 : Int32)), .unset] [])) target := by
        intro target kt
        refine XS.aload X161.here hx rfl (hb hby at_137) rfl rfl ?_
        refine XS.iconst X161.here hx rfl (hb hby at_139) ?_
        refine XS.iload X161.here hx rfl (hb hby at_140) rfl ?_
        refine XS.iconst X161.here hx rfl (hb hby at_142) ?_
        refine XS.ixor X161.here hx rfl (hb hby at_143) rfl ?_
        exact kt
      obtain ⟨cl163, Ar163, qc163, Sz163, Mn163, Hs163, Gs163⟩ := id V_a_161
      have hin163 : ¬ ((1 : Int32) < 0 ∨ cl163.slots.size ≤ ((1 : Int32)).toNatClampNeg) := inb_of Sz163 ⟨by decide, by decide⟩
      obtain ⟨T163, h163, X163, e163, W163, st163⟩ := stI X161 hx hZ e161 Ar163 (j := (1 : Int32)) hin163 (g := (mkF m 144 #[.val (.int p0), .val (.int p1), .val (.int p2), .val (.int p3), .val (.int p4), .val (.int p5), .val (.int bd), .val (.int (3 : Int32)), .val (.int v0), .val (.int v1), .val (.int v2), .val (.int v3), .val (.ref a), .val (.ref b125), .val (.int (0 : Int32)), .unset] [(.int (v1 ^^^ (1 : Int32))), (.int (1 : Int32)), (.ref a)])) rfl rfl (hb hby at_144)
      have V_a_163 : Arv Z h163 a k7 .int (4 : Int32) [(.int (v0 ^^^ (1 : Int32))), (.int (v1 ^^^ (1 : Int32))), (.int v2), (.int v3)] (.int (0 : Int32)) := Arv.set Ar163 qc163 Sz163 Mn163 Hs163 Gs163 rfl W163 1 rfl (Nat.le_of_ble_eq_true rfl)
      have Eb_163 := Eb_161.wr W163
      have Vy_163 := Vy_161.other W163 (Ne.symm ne_a_y)
      have Fb_163 := Fb_161.other W163 (Or.inl (Ne.symm ne_a_b125))
      have Fc_163 := Fc_161.other W163 (Or.inl (Ne.symm ne_a_b125))
      have Fi_163 := Fi_161.other W163 (Or.inl (Ne.symm ne_a_b125))
      have Z_163 : n0 ≤ h163.size := Nat.le_trans Z_161 (Keep.of_wr W163).1
      have N163 := Fr.snoc X163 N161 g_a
      have st164 : ∀ target, Steps p.tables e below (T163.setTop (mkF m 152 #[.val (.int p0), .val (.int p1), .val (.int p2), .val (.int p3), .val (.int p4), .val (.int p5), .val (.int bd), .val (.int (3 : Int32)), .val (.int v0), .val (.int v1), .val (.int v2), .val (.int v3), .val (.ref a), .val (.ref b125), .val (.int (0 : Int32)), .unset] [(.int (v2 ^^^ (1 : Int32))), (.int (2 : Int32)), (.ref a)])) target → Steps p.tables e below (T163.setTop (mkF m 145 #[.val (.int p0), .val (.int p1), .val (.int p2), .val (.int p3), .val (.int p4), .val (.int p5), .val (.int bd), .val (.int (3 : Int32)), .val (.int v0), .val (.int v1), .val (.int v2), .val (.int v3), .val (.ref a), .val (.ref b125), .val (.int (0 : Int32)), .unset] [])) target := by
        intro target kt
        refine XS.aload X163.here hx rfl (hb hby at_145) rfl rfl ?_
        show Steps p.tables e below (T163.setTop (mkF m 147 #[.val (.int p0), .val (.int p1), .val (.int p2), .val (.int p3), .val (.int p4), .val (.int p5), .val (.int bd), .val (.int (3 : Int32)), .val (.int v0), .val (.int v1), .val (.int v2), .val (.int v3), .val (.ref a), .val (.ref b125), .val (.int (0 : Int32)), .unset] [(.ref a)])) _
        refine XS.iconst X163.here hx rfl (hb hby at_147) ?_
        refine XS.iload X163.here hx rfl (hb hby at_148) rfl ?_
        refine XS.iconst X163.here hx rfl (hb hby at_150) ?_
        refine XS.ixor X163.here hx rfl (hb hby at_151) rfl ?_
        exact kt
      obtain ⟨cl165, Ar165, qc165, Sz165, Mn165, Hs165, Gs165⟩ := id V_a_163
      have hin165 : ¬ ((2 : Int32) < 0 ∨ cl165.slots.size ≤ ((2 : Int32)).toNatClampNeg) := inb_of Sz165 ⟨by decide, by decide⟩
      obtain ⟨T165, h165, X165, e165, W165, st165⟩ := stI X163 hx hZ e163 Ar165 (j := (2 : Int32)) hin165 (g := (mkF m 152 #[.val (.int p0), .val (.int p1), .val (.int p2), .val (.int p3), .val (.int p4), .val (.int p5), .val (.int bd), .val (.int (3 : Int32)), .val (.int v0), .val (.int v1), .val (.int v2), .val (.int v3), .val (.ref a), .val (.ref b125), .val (.int (0 : Int32)), .unset] [(.int (v2 ^^^ (1 : Int32))), (.int (2 : Int32)), (.ref a)])) rfl rfl (hb hby at_152)
      have V_a_165 : Arv Z h165 a k7 .int (4 : Int32) [(.int (v0 ^^^ (1 : Int32))), (.int (v1 ^^^ (1 : Int32))), (.int (v2 ^^^ (1 : Int32))), (.int v3)] (.int (0 : Int32)) := Arv.set Ar165 qc165 Sz165 Mn165 Hs165 Gs165 rfl W165 2 rfl (Nat.le_of_ble_eq_true rfl)
      have Eb_165 := Eb_163.wr W165
      have Vy_165 := Vy_163.other W165 (Ne.symm ne_a_y)
      have Fb_165 := Fb_163.other W165 (Or.inl (Ne.symm ne_a_b125))
      have Fc_165 := Fc_163.other W165 (Or.inl (Ne.symm ne_a_b125))
      have Fi_165 := Fi_163.other W165 (Or.inl (Ne.symm ne_a_b125))
      have Z_165 : n0 ≤ h165.size := Nat.le_trans Z_163 (Keep.of_wr W165).1
      have N165 := Fr.snoc X165 N163 g_a
      have st166 : ∀ target, Steps p.tables e below (T165.setTop (mkF m 160 #[.val (.int p0), .val (.int p1), .val (.int p2), .val (.int p3), .val (.int p4), .val (.int p5), .val (.int bd), .val (.int (3 : Int32)), .val (.int v0), .val (.int v1), .val (.int v2), .val (.int v3), .val (.ref a), .val (.ref b125), .val (.int (0 : Int32)), .unset] [(.int (v3 ^^^ (1 : Int32))), (.int (3 : Int32)), (.ref a)])) target → Steps p.tables e below (T165.setTop (mkF m 153 #[.val (.int p0), .val (.int p1), .val (.int p2), .val (.int p3), .val (.int p4), .val (.int p5), .val (.int bd), .val (.int (3 : Int32)), .val (.int v0), .val (.int v1), .val (.int v2), .val (.int v3), .val (.ref a), .val (.ref b125), .val (.int (0 : Int32)), .unset] [])) target := by
        intro target kt
        refine XS.aload X165.here hx rfl (hb hby at_153) rfl rfl ?_
        refine XS.iconst X165.here hx rfl (hb hby at_155) ?_
        refine XS.iload X165.here hx rfl (hb hby at_156) rfl ?_
        refine XS.iconst X165.here hx rfl (hb hby at_158) ?_
        show Steps p.tables e below (T165.setTop (mkF m 159 #[.val (.int p0), .val (.int p1), .val (.int p2), .val (.int p3), .val (.int p4), .val (.int p5), .val (.int bd), .val (.int (3 : Int32)), .val (.int v0), .val (.int v1), .val (.int v2), .val (.int v3), .val (.ref a), .val (.ref b125), .val (.int (0 : Int32)), .unset] [(.int (1 : Int32)), (.int v3), (.int (3 : Int32)), (.ref a)])) _
        refine XS.ixor X165.here hx rfl (hb hby at_159) rfl ?_
        exact kt
      obtain ⟨cl167, Ar167, qc167, Sz167, Mn167, Hs167, Gs167⟩ := id V_a_165
      have hin167 : ¬ ((3 : Int32) < 0 ∨ cl167.slots.size ≤ ((3 : Int32)).toNatClampNeg) := inb_of Sz167 ⟨by decide, by decide⟩
      obtain ⟨T167, h167, X167, e167, W167, st167⟩ := stI X165 hx hZ e165 Ar167 (j := (3 : Int32)) hin167 (g := (mkF m 160 #[.val (.int p0), .val (.int p1), .val (.int p2), .val (.int p3), .val (.int p4), .val (.int p5), .val (.int bd), .val (.int (3 : Int32)), .val (.int v0), .val (.int v1), .val (.int v2), .val (.int v3), .val (.ref a), .val (.ref b125), .val (.int (0 : Int32)), .unset] [(.int (v3 ^^^ (1 : Int32))), (.int (3 : Int32)), (.ref a)])) rfl rfl (hb hby at_160)
      have V_a_167 : Arv Z h167 a k7 .int (4 : Int32) [(.int (v0 ^^^ (1 : Int32))), (.int (v1 ^^^ (1 : Int32))), (.int (v2 ^^^ (1 : Int32))), (.int (v3 ^^^ (1 : Int32)))] (.int (0 : Int32)) := Arv.set Ar167 qc167 Sz167 Mn167 Hs167 Gs167 rfl W167 3 rfl (Nat.le_of_ble_eq_true rfl)
      have Eb_167 := Eb_165.wr W167
      have Vy_167 := Vy_165.other W167 (Ne.symm ne_a_y)
      have Fb_167 := Fb_165.other W167 (Or.inl (Ne.symm ne_a_b125))
      have Fc_167 := Fc_165.other W167 (Or.inl (Ne.symm ne_a_b125))
      have Fi_167 := Fi_165.other W167 (Or.inl (Ne.symm ne_a_b125))
      have Z_167 : n0 ≤ h167.size := Nat.le_trans Z_165 (Keep.of_wr W167).1
      have N167 := Fr.snoc X167 N165 g_a
      have st168 : ∀ target, Steps p.tables e below (T167.setTop (mkF m 177 #[.val (.int p0), .val (.int p1), .val (.int p2), .val (.int p3), .val (.int p4), .val (.int p5), .val (.int bd), .val (.int (3 : Int32)), .val (.int v0), .val (.int v1), .val (.int v2), .val (.int v3), .val (.ref a), .val (.ref b125), .val (.int (0 : Int32)), .val (.int (1 : Int32))] [(.int (0 : Int32)), (.ref b125)])) target → Steps p.tables e below (T167.setTop (mkF m 161 #[.val (.int p0), .val (.int p1), .val (.int p2), .val (.int p3), .val (.int p4), .val (.int p5), .val (.int bd), .val (.int (3 : Int32)), .val (.int v0), .val (.int v1), .val (.int v2), .val (.int v3), .val (.ref a), .val (.ref b125), .val (.int (0 : Int32)), .unset] [])) target := by
        intro target kt
        refine XS.iconst X167.here hx rfl (hb hby at_161) ?_
        refine XS.istore X167.here hx rfl (hb hby at_162) rfl (l' := #[.val (.int p0), .val (.int p1), .val (.int p2), .val (.int p3), .val (.int p4), .val (.int p5), .val (.int bd), .val (.int (3 : Int32)), .val (.int v0), .val (.int v1), .val (.int v2), .val (.int v3), .val (.ref a), .val (.ref b125), .val (.int (0 : Int32)), .val (.int (1 : Int32))]) rfl ?_
        refine XS.iload X167.here hx rfl (hb hby at_164) rfl ?_
        refine XS.ifNo X167.here hx rfl (hb hby at_166) rfl ((if0 _ _).trans (tlt (by decide : ((0 : Int32) < (3 : Int32)))).2.2.2) ?_
        refine XS.iload X167.here hx rfl (hb hby at_169) rfl ?_
        refine XS.ifNo X167.here hx rfl (hb hby at_171) rfl ((if0 _ _).trans (feq (by decide : ¬ ((1 : Int32) = (0 : Int32)))).1) ?_
        refine XS.aload X167.here hx rfl (hb hby at_174) rfl rfl ?_
        show Steps p.tables e below (T167.setTop (mkF m 176 #[.val (.int p0), .val (.int p1), .val (.int p2), .val (.int p3), .val (.int p4), .val (.int p5), .val (.int bd), .val (.int (3 : Int32)), .val (.int v0), .val (.int v1), .val (.int v2), .val (.int v3), .val (.ref a), .val (.ref b125), .val (.int (0 : Int32)), .val (.int (1 : Int32))] [(.ref b125)])) _
        refine XS.iconst X167.here hx rfl (hb hby at_176) ?_
        exact kt
      obtain ⟨cl169, Ar169, qc169, Sz169, Mn169, Hs169, Gs169⟩ := id Vy_167
      have hin169 : ¬ ((0 : Int32) < 0 ∨ cl169.slots.size ≤ ((0 : Int32)).toNatClampNeg) := inb_of Sz169 ⟨by decide, by decide⟩
      obtain ⟨cq170, kq170, qv170a, qv170b, qv170c⟩ := isOf hZ e167 Eb_167
      obtain ⟨_, _, ⟨T170, L170, k170, n170⟩, -, X170, ⟨Lc170, hQ170, l170, y170, z170⟩, st170⟩ := X167.virtualBack hx (y := (⟨"com/example/libbisim/libbisim/CompactInts", "get", "(I)I"⟩ : MethodName)) (z := (⟨"com/example/libbisim/libbisim/CompactInts", "get", "(I)I"⟩ : MethodName)) hown (mvT hZ (hw _ (List.mem_of_getElem? (i := 38) rfl))) (mvT hZ (hw _ (List.mem_of_getElem? (i := 39) rfl))) (notFace_of_selects (args := #[]) (mvT hZ (hw _ (List.mem_of_getElem? (i := 41) rfl)))) (mvT hZ (hw _ (List.mem_of_getElem? (i := 41) rfl))) (mvT hZ (hw _ (List.mem_of_getElem? (i := 40) rfl))) (by decide) (backOf (W := 0) (rmGI l Z a0 hw [] b125 (0 : Int32) y cl169 v0 h167 n0 Z_167 Fb_167 Fc_167 Fi_167 Ar169 hin169 (Hs169.at hin169 rfl)) hZ (hw _ (List.mem_of_getElem? (i := 42) rfl)) (hw _ (List.mem_of_getElem? (i := 8) rfl)) (by decide) (by decide)) qv170a qv170c (g := (mkF m 177 #[.val (.int p0), .val (.int p1), .val (.int p2), .val (.int p3), .val (.int p4), .val (.int p5), .val (.int bd), .val (.int (3 : Int32)), .val (.int v0), .val (.int v1), .val (.int v2), .val (.int v3), .val (.ref a), .val (.ref b125), .val (.int (0 : Int32)), .val (.int (1 : Int32))] [(.int (0 : Int32)), (.ref b125)])) rfl (by rw [hml]; rfl) (Steps.refl _) (argsL := [(.int (0 : Int32))]) (rest := []) (lenOf pd_6 rfl) rfl (by show 2 * 0 + _ ≤ _; exact Nat.le_of_eq rfl) (hb hby at_177) (fun _ _ => ⟨rfl, e167, (by decide : 3 + 0 ≤ _), (by decide : 10 + 0 ≤ _)⟩)
      dsimp only [Pt.U, Pt.locs, Pt.cells, Pt.slots] at X170 l170 y170 z170 st170 hQ170
      subst l170 y170 z170
      obtain ⟨rfl, Nq170, e170⟩ := hQ170
      have N170 := Fr.app N167 Nq170
      have st171 : ∀ target, Steps p.tables e below (T170.setTop (mkF m 206 #[.val (.int p0), .val (.int p1), .val (.int p2), .val (.int p3), .val (.int p4), .val (.int p5), .val (.int bd), .val (.int (3 : Int32)), .val (.int v0), .val (.int v1), .val (.int v2), .val (.int v3), .val (.ref a), .val (.ref b125), .val (.int (0 : Int32)), .val (.int (1 : Int32))] [(.int (1 : Int32)), (.ref b125)])) target → Steps p.tables e below (T170.setTop (mkF m 180 #[.val (.int p0), .val (.int p1), .val (.int p2), .val (.int p3), .val (.int p4), .val (.int p5), .val (.int bd), .val (.int (3 : Int32)), .val (.int v0), .val (.int v1), .val (.int v2), .val (.int v3), .val (.ref a), .val (.ref b125), .val (.int (0 : Int32)), .val (.int (1 : Int32))] [(.int v0)])) target := by
        intro target kt
        refine XS.iload X170.here hx rfl (hb hby at_180) rfl ?_
        refine XS.icmpNo X170.here hx rfl (hb hby at_182) rfl (teq (rfl : v0 = v0)).2 ?_
        refine XS.iconst X170.here hx rfl (hb hby at_185) ?_
        refine XS.goto X170.here hx rfl (pc0 := 186) (pc' := 190) rfl (hb hby at_186) (by decide) (by decide) ?_
        refine XS.istore X170.here hx rfl (hb hby at_190) rfl (l' := #[.val (.int p0), .val (.int p1), .val (.int p2), .val (.int p3), .val (.int p4), .val (.int p5), .val (.int bd), .val (.int (3 : Int32)), .val (.int v0), .val (.int v1), .val (.int v2), .val (.int v3), .val (.ref a), .val (.ref b125), .val (.int (0 : Int32)), .val (.int (1 : Int32))]) rfl ?_
        refine XS.iload X170.here hx rfl (hb hby at_192) rfl ?_
        refine XS.iconst X170.here hx rfl (hb hby at_194) ?_
        show Steps p.tables e below (T170.setTop (mkF m 195 #[.val (.int p0), .val (.int p1), .val (.int p2), .val (.int p3), .val (.int p4), .val (.int p5), .val (.int bd), .val (.int (3 : Int32)), .val (.int v0), .val (.int v1), .val (.int v2), .val (.int v3), .val (.ref a), .val (.ref b125), .val (.int (0 : Int32)), .val (.int (1 : Int32))] [(.int (1 : Int32)), (.int (3 : Int32))])) _
        refine XS.icmpNo X170.here hx rfl (hb hby at_195) rfl (tlt (by decide : ((1 : Int32) < (3 : Int32)))).2.2.2 ?_
        refine XS.iload X170.here hx rfl (hb hby at_198) rfl ?_
        refine XS.ifNo X170.here hx rfl (hb hby at_200) rfl ((if0 _ _).trans (feq (by decide : ¬ ((1 : Int32) = (0 : Int32)))).1) ?_
        refine XS.aload X170.here hx rfl (hb hby at_203) rfl rfl ?_
        refine XS.iconst X170.here hx rfl (hb hby at_205) ?_
        exact kt
      obtain ⟨cl172, Ar172, qc172, Sz172, Mn172, Hs172, Gs172⟩ := id Vy_167
      have hin172 : ¬ ((1 : Int32) < 0 ∨ cl172.slots.size ≤ ((1 : Int32)).toNatClampNeg) := inb_of Sz172 ⟨by decide, by decide⟩
      obtain ⟨cq173, kq173, qv173a, qv173b, qv173c⟩ := isOf hZ e170 Eb_167
      obtain ⟨_, _, ⟨T173, L173, k173, n173⟩, -, X173, ⟨Lc173, hQ173, l173, y173, z173⟩, st173⟩ := X170.virtualBack hx (y := (⟨"com/example/libbisim/libbisim/CompactInts", "get", "(I)I"⟩ : MethodName)) (z := (⟨"com/example/libbisim/libbisim/CompactInts", "get", "(I)I"⟩ : MethodName)) hown (mvT hZ (hw _ (List.mem_of_getElem? (i := 38) rfl))) (mvT hZ (hw _ (List.mem_of_getElem? (i := 39) rfl))) (notFace_of_selects (args := #[]) (mvT hZ (hw _ (List.mem_of_getElem? (i := 41) rfl)))) (mvT hZ (hw _ (List.mem_of_getElem? (i := 41) rfl))) (mvT hZ (hw _ (List.mem_of_getElem? (i := 40) rfl))) (by decide) (backOf (W := 0) (rmGI l Z a0 hw [] b125 (1 : Int32) y cl172 v1 h167 n0 Z_167 Fb_167 Fc_167 Fi_167 Ar172 hin172 (Hs172.at hin172 rfl)) hZ (hw _ (List.mem_of_getElem? (i := 42) rfl)) (hw _ (List.mem_of_getElem? (i := 8) rfl)) (by decide) (by decide)) qv173a qv173c (g := (mkF m 206 #[.val (.int p0), .val (.int p1), .val (.int p2), .val (.int p3), .val (.int p4), .val (.int p5), .val (.int bd), .val (.int (3 : Int32)), .val (.int v0), .val (.int v1), .val (.int v2), .val (.int v3), .val (.ref a), .val (.ref b125), .val (.int (0 : Int32)), .val (.int (1 : Int32))] [(.int (1 : Int32)), (.ref b125)])) rfl (by rw [hml]; rfl) (Steps.refl _) (argsL := [(.int (1 : Int32))]) (rest := []) (lenOf pd_6 rfl) rfl (by show 2 * 0 + _ ≤ _; exact Nat.le_of_eq rfl) (hb hby at_206) (fun _ _ => ⟨rfl, e170, (by decide : 3 + 0 ≤ _), (by decide : 10 + 0 ≤ _)⟩)
      dsimp only [Pt.U, Pt.locs, Pt.cells, Pt.slots] at X173 l173 y173 z173 st173 hQ173
      subst l173 y173 z173
      obtain ⟨rfl, Nq173, e173⟩ := hQ173
      have N173 := Fr.app N170 Nq173
      have st174 : ∀ target, Steps p.tables e below (T173.setTop (mkF m 235 #[.val (.int p0), .val (.int p1), .val (.int p2), .val (.int p3), .val (.int p4), .val (.int p5), .val (.int bd), .val (.int (3 : Int32)), .val (.int v0), .val (.int v1), .val (.int v2), .val (.int v3), .val (.ref a), .val (.ref b125), .val (.int (0 : Int32)), .val (.int (1 : Int32))] [(.int (2 : Int32)), (.ref b125)])) target → Steps p.tables e below (T173.setTop (mkF m 209 #[.val (.int p0), .val (.int p1), .val (.int p2), .val (.int p3), .val (.int p4), .val (.int p5), .val (.int bd), .val (.int (3 : Int32)), .val (.int v0), .val (.int v1), .val (.int v2), .val (.int v3), .val (.ref a), .val (.ref b125), .val (.int (0 : Int32)), .val (.int (1 : Int32))] [(.int v1)])) target := by
        intro target kt
        refine XS.iload X173.here hx rfl (hb hby at_209) rfl ?_
        refine XS.icmpNo X173.here hx rfl (hb hby at_211) rfl (teq (rfl : v1 = v1)).2 ?_
        refine XS.iconst X173.here hx rfl (hb hby at_214) ?_
        show Steps p.tables e below (T173.setTop (mkF m 215 #[.val (.int p0), .val (.int p1), .val (.int p2), .val (.int p3), .val (.int p4), .val (.int p5), .val (.int bd), .val (.int (3 : Int32)), .val (.int v0), .val (.int v1), .val (.int v2), .val (.int v3), .val (.ref a), .val (.ref b125), .val (.int (0 : Int32)), .val (.int (1 : Int32))] [(.int (1 : Int32))])) _
        refine XS.goto X173.here hx rfl (pc0 := 215) (pc' := 219) rfl (hb hby at_215) (by decide) (by decide) ?_
        refine XS.istore X173.here hx rfl (hb hby at_219) rfl (l' := #[.val (.int p0), .val (.int p1), .val (.int p2), .val (.int p3), .val (.int p4), .val (.int p5), .val (.int bd), .val (.int (3 : Int32)), .val (.int v0), .val (.int v1), .val (.int v2), .val (.int v3), .val (.ref a), .val (.ref b125), .val (.int (0 : Int32)), .val (.int (1 : Int32))]) rfl ?_
        refine XS.iload X173.here hx rfl (hb hby at_221) rfl ?_
        refine XS.iconst X173.here hx rfl (hb hby at_223) ?_
        refine XS.icmpNo X173.here hx rfl (hb hby at_224) rfl (tlt (by decide : ((2 : Int32) < (3 : Int32)))).2.2.2 ?_
        refine XS.iload X173.here hx rfl (hb hby at_227) rfl ?_
        refine XS.ifNo X173.here hx rfl (hb hby at_229) rfl ((if0 _ _).trans (feq (by decide : ¬ ((1 : Int32) = (0 : Int32)))).1) ?_
        refine XS.aload X173.here hx rfl (hb hby at_232) rfl rfl ?_
        show Steps p.tables e below (T173.setTop (mkF m 234 #[.val (.int p0), .val (.int p1), .val (.int p2), .val (.int p3), .val (.int p4), .val (.int p5), .val (.int bd), .val (.int (3 : Int32)), .val (.int v0), .val (.int v1), .val (.int v2), .val (.int v3), .val (.ref a), .val (.ref b125), .val (.int (0 : Int32)), .val (.int (1 : Int32))] [(.ref b125)])) _
        refine XS.iconst X173.here hx rfl (hb hby at_234) ?_
        exact kt
      obtain ⟨cl175, Ar175, qc175, Sz175, Mn175, Hs175, Gs175⟩ := id Vy_167
      have hin175 : ¬ ((2 : Int32) < 0 ∨ cl175.slots.size ≤ ((2 : Int32)).toNatClampNeg) := inb_of Sz175 ⟨by decide, by decide⟩
      obtain ⟨cq176, kq176, qv176a, qv176b, qv176c⟩ := isOf hZ e173 Eb_167
      obtain ⟨_, _, ⟨T176, L176, k176, n176⟩, -, X176, ⟨Lc176, hQ176, l176, y176, z176⟩, st176⟩ := X173.virtualBack hx (y := (⟨"com/example/libbisim/libbisim/CompactInts", "get", "(I)I"⟩ : MethodName)) (z := (⟨"com/example/libbisim/libbisim/CompactInts", "get", "(I)I"⟩ : MethodName)) hown (mvT hZ (hw _ (List.mem_of_getElem? (i := 38) rfl))) (mvT hZ (hw _ (List.mem_of_getElem? (i := 39) rfl))) (notFace_of_selects (args := #[]) (mvT hZ (hw _ (List.mem_of_getElem? (i := 41) rfl)))) (mvT hZ (hw _ (List.mem_of_getElem? (i := 41) rfl))) (mvT hZ (hw _ (List.mem_of_getElem? (i := 40) rfl))) (by decide) (backOf (W := 0) (rmGI l Z a0 hw [] b125 (2 : Int32) y cl175 v2 h167 n0 Z_167 Fb_167 Fc_167 Fi_167 Ar175 hin175 (Hs175.at hin175 rfl)) hZ (hw _ (List.mem_of_getElem? (i := 42) rfl)) (hw _ (List.mem_of_getElem? (i := 8) rfl)) (by decide) (by decide)) qv176a qv176c (g := (mkF m 235 #[.val (.int p0), .val (.int p1), .val (.int p2), .val (.int p3), .val (.int p4), .val (.int p5), .val (.int bd), .val (.int (3 : Int32)), .val (.int v0), .val (.int v1), .val (.int v2), .val (.int v3), .val (.ref a), .val (.ref b125), .val (.int (0 : Int32)), .val (.int (1 : Int32))] [(.int (2 : Int32)), (.ref b125)])) rfl (by rw [hml]; rfl) (Steps.refl _) (argsL := [(.int (2 : Int32))]) (rest := []) (lenOf pd_6 rfl) rfl (by show 2 * 0 + _ ≤ _; exact Nat.le_of_eq rfl) (hb hby at_235) (fun _ _ => ⟨rfl, e173, (by decide : 3 + 0 ≤ _), (by decide : 10 + 0 ≤ _)⟩)
      dsimp only [Pt.U, Pt.locs, Pt.cells, Pt.slots] at X176 l176 y176 z176 st176 hQ176
      subst l176 y176 z176
      obtain ⟨rfl, Nq176, e176⟩ := hQ176
      have N176 := Fr.app N173 Nq176
      obtain ⟨fs, hr, hrun, hended, hW, hsame⟩ := X176.leave (v := some (.int (1 : Int32))) (fun h => by rw [Bd.returns] at h; cases h)
      refine ⟨_, _, pre0 _ (st1 _ (st2 _ (st3 _ (st4 _ (st5 _ (st6 _ (st7 _ (st8 _ (st9 _ (st10 _ (st11 _ (st12 _ (st13 _ (st14 _ (st15 _ (st124 _ (st125 _ (st160 _ (st161 _ (st162 _ (st163 _ (st164 _ (st165 _ (st166 _ (st167 _ (st168 _ (st170.trans (st171 _ (st173.trans (st174 _ (st176.trans ?_))))))))))))))))))))))))))))))), hrun, hended, _, _, rfl, ?_, ⟨_, rfl⟩, hW, hsame.mono (by decide) (by decide)⟩
      · refine XS.iload X176.here hx rfl (hb hby at_238) rfl ?_
        refine XS.icmpNo X176.here hx rfl (hb hby at_240) rfl (teq (rfl : v2 = v2)).2 ?_
        refine XS.iconst X176.here hx rfl (hb hby at_243) ?_
        refine XS.goto X176.here hx rfl (pc0 := 244) (pc' := 248) rfl (hb hby at_244) (by decide) (by decide) ?_
        refine XS.istore X176.here hx rfl (hb hby at_248) rfl (l' := #[.val (.int p0), .val (.int p1), .val (.int p2), .val (.int p3), .val (.int p4), .val (.int p5), .val (.int bd), .val (.int (3 : Int32)), .val (.int v0), .val (.int v1), .val (.int v2), .val (.int v3), .val (.ref a), .val (.ref b125), .val (.int (0 : Int32)), .val (.int (1 : Int32))]) rfl ?_
        refine XS.iload X176.here hx rfl (hb hby at_250) rfl ?_
        refine XS.iconst X176.here hx rfl (hb hby at_252) ?_
        show Steps p.tables e below (T176.setTop (mkF m 253 #[.val (.int p0), .val (.int p1), .val (.int p2), .val (.int p3), .val (.int p4), .val (.int p5), .val (.int bd), .val (.int (3 : Int32)), .val (.int v0), .val (.int v1), .val (.int v2), .val (.int v3), .val (.ref a), .val (.ref b125), .val (.int (0 : Int32)), .val (.int (1 : Int32))] [(.int (3 : Int32)), (.int (3 : Int32))])) _
        refine XS.icmpYes X176.here hx rfl (pc0 := 253) (pc' := 279) rfl (hb hby at_253) rfl (flt (by decide : ¬ ((3 : Int32) < (3 : Int32)))).2.2.2 (by decide) (by decide) ?_
        refine XS.iload X176.here hx rfl (hb hby at_279) rfl ?_
        show Steps p.tables e below (T176.setTop (mkF m 281 #[.val (.int p0), .val (.int p1), .val (.int p2), .val (.int p3), .val (.int p4), .val (.int p5), .val (.int bd), .val (.int (3 : Int32)), .val (.int v0), .val (.int v1), .val (.int v2), .val (.int v3), .val (.ref a), .val (.ref b125), .val (.int (0 : Int32)), .val (.int (1 : Int32))] [(.int (1 : Int32))])) _
        exact retN X176 hx (t := .boolean) Bd.returns (by simp) (hb hby at_281) hr
      · show Q_rm0 Z p0 p1 p2 p3 p4 p5 h0 n0 _ T176.heap _
        rw [e176]
        exact ⟨rfl, N176⟩
  · have st177 : ∀ target, Steps p.tables e below (T15.setTop (mkF m 99 #[.val (.int p0), .val (.int p1), .val (.int p2), .val (.int p3), .val (.int p4), .val (.int p5), .val (.int bd), .val (.int (4 : Int32)), .val (.int v0), .val (.int v1), .val (.int v2), .val (.int v3), .val (.ref a), .unset, .unset, .unset] [(.int bd), (.int (4 : Int32)), (.ref a)])) target → Steps p.tables e below (T15.setTop (mkF m 93 #[.val (.int p0), .val (.int p1), .val (.int p2), .val (.int p3), .val (.int p4), .val (.int p5), .val (.int bd), .val (.int (4 : Int32)), .val (.int v0), .val (.int v1), .val (.int v2), .val (.int v3), .val (.ref a), .unset, .unset, .unset] [])) target := by
      intro target kt
      refine XS.aload X15.here hx rfl (hb hby at_93) rfl rfl ?_
      refine XS.iload X15.here hx rfl (hb hby at_95) rfl ?_
      refine XS.iload X15.here hx rfl (hb hby at_97) rfl ?_
      exact kt
    obtain ⟨_, _, ⟨T178, L178, k178, n178⟩, -, X178, ⟨Lc178, hQ178, l178, y178, z178⟩, st178⟩ := Jvm.LawKit.callS X15 hx (y := (⟨"com/example/libbisim/libbisim/CompactInts", "of", "([III)Lcom/example/libbisim/libbisim/CompactInts;"⟩ : MethodName)) hown (mvT hZ (hw _ (List.mem_of_getElem? (i := 6) rfl))) (mvT hZ (hw _ (List.mem_of_getElem? (i := 7) rfl))) (mvT hZ (hw _ (List.mem_of_getElem? (i := 8) rfl))) (mvT hZ (hw _ (List.mem_of_getElem? (i := 9) rfl))) (by decide) (backOf (W := 0) (rmOf4 l Z a0 hw [] a bd k7 v0 v1 v2 v3 h15 n0 Z_15 V_a_15) hZ (hw _ (List.mem_of_getElem? (i := 9) rfl)) (hw _ (List.mem_of_getElem? (i := 8) rfl)) (by decide) (by decide)) (g := (mkF m 99 #[.val (.int p0), .val (.int p1), .val (.int p2), .val (.int p3), .val (.int p4), .val (.int p5), .val (.int bd), .val (.int (4 : Int32)), .val (.int v0), .val (.int v1), .val (.int v2), .val (.int v3), .val (.ref a), .unset, .unset, .unset] [(.int bd), (.int (4 : Int32)), (.ref a)])) rfl (by rw [hml]; rfl) (argsL := [(.ref a), (.int (4 : Int32)), (.int bd)]) (rest := []) (lenOf pd_1 rfl) rfl (by show 2 * 0 + _ ≤ _; exact Nat.le_of_eq rfl) (hb hby at_99) (fun _ _ => ⟨rfl, e15, (by decide : 1 + 2 ≤ _), (by decide : 4 + 7 ≤ _)⟩)
    dsimp only [Pt.U, Pt.locs, Pt.cells, Pt.slots] at X178 l178 y178 z178 st178 hQ178
    subst l178 y178 z178
    obtain ⟨b178, rfl, Nq178, K178, sz178, Eb, alt⟩ := hQ178
    have N178 := Fr.app N15 Nq178
    have g_b178 : n0 ≤ b178 := Nat.le_trans Z_15 sz178
    have ne_a_b178 : a ≠ b178 := Nat.ne_of_lt (Nat.lt_of_lt_of_le V_a_15.lt sz178)
    have V_a_178 := V_a_15.keep K178 nin0
    have Z_178 : n0 ≤ T178.heap.size := Nat.le_trans Z_15 K178.1
    rcases alt with ⟨q1, y, ky, szy, Fb, Vy⟩ | ⟨q1, q2, y, ky, szy, Fb, Fc, Vy⟩ | ⟨q1, Fb, Fc, Fi⟩
    · have ne_a_y : a ≠ y := Nat.ne_of_lt (Nat.lt_of_lt_of_le (V_a_15).lt szy)
      have hle : bd.toInt ≤ 256 := own_le rfl q1
      have st179 : ∀ target, Steps p.tables e below (T178.setTop (mkF m 136 #[.val (.int p0), .val (.int p1), .val (.int p2), .val (.int p3), .val (.int p4), .val (.int p5), .val (.int bd), .val (.int (4 : Int32)), .val (.int v0), .val (.int v1), .val (.int v2), .val (.int v3), .val (.ref a), .val (.ref b178), .val (.int (0 : Int32)), .unset] [(.int (v0 ^^^ (1 : Int32))), (.int (0 : Int32)), (.ref a)])) target → Steps p.tables e below (T178.setTop (mkF m 102 #[.val (.int p0), .val (.int p1), .val (.int p2), .val (.int p3), .val (.int p4), .val (.int p5), .val (.int bd), .val (.int (4 : Int32)), .val (.int v0), .val (.int v1), .val (.int v2), .val (.int v3), .val (.ref a), .unset, .unset, .unset] [(.ref b178)])) target := by
        intro target kt
        refine XS.astore X178.here hx rfl (hb hby at_102) rfl rfl (l' := #[.val (.int p0), .val (.int p1), .val (.int p2), .val (.int p3), .val (.int p4), .val (.int p5), .val (.int bd), .val (.int (4 : Int32)), .val (.int v0), .val (.int v1), .val (.int v2), .val (.int v3), .val (.ref a), .val (.ref b178), .unset, .unset]) rfl ?_
        refine XS.iload X178.here hx rfl (hb hby at_104) rfl ?_
        refine X178.ldcInt hx hown (mvT hZ (hw _ (List.mem_of_getElem? (i := 25) rfl))) (g := (mkF m 106 #[.val (.int p0), .val (.int p1), .val (.int p2), .val (.int p3), .val (.int p4), .val (.int p5), .val (.int bd), .val (.int (4 : Int32)), .val (.int v0), .val (.int v1), .val (.int v2), .val (.int v3), .val (.ref a), .val (.ref b178), .unset, .unset] [(.int bd)])) rfl (hb hby at_106) _ ?_
        show Steps p.tables e below (T178.setTop (mkF m 108 #[.val (.int p0), .val (.int p1), .val (.int p2), .val (.int p3), .val (.int p4), .val (.int p5), .val (.int bd), .val (.int (4 : Int32)), .val (.int v0), .val (.int v1), .val (.int v2), .val (.int v3), .val (.ref a), .val (.ref b178), .unset, .unset] [(.int (65536 : Int32)), (.int bd)])) _
        refine XS.icmpYes X178.here hx rfl (pc0 := 108) (pc' := 121) rfl (hb hby at_108) rfl (flt (own_nlt q1 (by decide))).2.2.2 (by decide) (by decide) ?_
        refine XS.iconst X178.here hx rfl (hb hby at_121) ?_
        refine XS.istore X178.here hx rfl (hb hby at_122) rfl (l' := #[.val (.int p0), .val (.int p1), .val (.int p2), .val (.int p3), .val (.int p4), .val (.int p5), .val (.int bd), .val (.int (4 : Int32)), .val (.int v0), .val (.int v1), .val (.int v2), .val (.int v3), .val (.ref a), .val (.ref b178), .val (.int (0 : Int32)), .unset]) rfl ?_
        refine XS.iload X178.here hx rfl (hb hby at_124) rfl ?_
        refine XS.ifNo X178.here hx rfl (hb hby at_126) rfl ((if0 _ _).trans (teq (rfl : (0 : Int32) = (0 : Int32))).2) ?_
        refine XS.aload X178.here hx rfl (hb hby at_129) rfl rfl ?_
        refine XS.iconst X178.here hx rfl (hb hby at_131) ?_
        refine XS.iload X178.here hx rfl (hb hby at_132) rfl ?_
        show Steps p.tables e below (T178.setTop (mkF m 134 #[.val (.int p0), .val (.int p1), .val (.int p2), .val (.int p3), .val (.int p4), .val (.int p5), .val (.int bd), .val (.int (4 : Int32)), .val (.int v0), .val (.int v1), .val (.int v2), .val (.int v3), .val (.ref a), .val (.ref b178), .val (.int (0 : Int32)), .unset] [(.int v0), (.int (0 : Int32)), (.ref a)])) _
        refine XS.iconst X178.here hx rfl (hb hby at_134) ?_
        refine XS.ixor X178.here hx rfl (hb hby at_135) rfl ?_
        exact kt
      obtain ⟨cl180, Ar180, qc180, Sz180, Mn180, Hs180, Gs180⟩ := id V_a_178
      have hin180 : ¬ ((0 : Int32) < 0 ∨ cl180.slots.size ≤ ((0 : Int32)).toNatClampNeg) := inb_of Sz180 ⟨by decide, by decide⟩
      obtain ⟨T180, h180, X180, e180, W180, st180⟩ := stI X178 hx hZ rfl Ar180 (j := (0 : Int32)) hin180 (g := (mkF m 136 #[.val (.int p0), .val (.int p1), .val (.int p2), .val (.int p3), .val (.int p4), .val (.int p5), .val (.int bd), .val (.int (4 : Int32)), .val (.int v0), .val (.int v1), .val (.int v2), .val (.int v3), .val (.ref a), .val (.ref b178), .val (.int (0 : Int32)), .unset] [(.int (v0 ^^^ (1 : Int32))), (.int (0 : Int32)), (.ref a)])) rfl rfl (hb hby at_136)
      have V_a_180 : Arv Z h180 a k7 .int (4 : Int32) [(.int (v0 ^^^ (1 : Int32))), (.int v1), (.int v2), (.int v3)] (.int (0 : Int32)) := Arv.set Ar180 qc180 Sz180 Mn180 Hs180 Gs180 rfl W180 0 rfl (Nat.le_of_ble_eq_true rfl)
      have Eb_180 := Eb.wr W180
      have Vy_180 := Vy.other W180 (Ne.symm ne_a_y)
      have Fb_180 := Fb.other W180 (Or.inl (Ne.symm ne_a_b178))
      have Z_180 : n0 ≤ h180.size := Nat.le_trans Z_178 (Keep.of_wr W180).1
      have N180 := Fr.snoc X180 N178 g_a
      have st181 : ∀ target, Steps p.tables e below (T180.setTop (mkF m 144 #[.val (.int p0), .val (.int p1), .val (.int p2), .val (.int p3), .val (.int p4), .val (.int p5), .val (.int bd), .val (.int (4 : Int32)), .val (.int v0), .val (.int v1), .val (.int v2), .val (.int v3), .val (.ref a), .val (.ref b178), .val (.int (0 : Int32)), .unset] [(.int (v1 ^^^ (1 : Int32))), (.int (1 : Int32)), (.ref a)])) target → Steps p.tables e below (T180.setTop (mkF m 137 #[.val (.int p0), .val (.int p1), .val (.int p2), .val (.int p3), .val (.int p4), .val (.int p5), .val (.int bd), .val (.int (4 : Int32)), .val (.int v0), .val (.int v1), .val (.int v2), .val (.int v3), .val (.ref a), .val (.ref b178), .val (.int (0 : Int32)), .unset] [])) target := by
        intro target kt
        refine XS.aload X180.here hx rfl (hb hby at_137) rfl rfl ?_
        refine XS.iconst X180.here hx rfl (hb hby at_139) ?_
        refine XS.iload X180.here hx rfl (hb hby at_140) rfl ?_
        refine XS.iconst X180.here hx rfl (hb hby at_142) ?_
        refine XS.ixor X180.here hx rfl (hb hby at_143) rfl ?_
        exact kt
      obtain ⟨cl182, Ar182, qc182, Sz182, Mn182, Hs182, Gs182⟩ := id V_a_180
      have hin182 : ¬ ((1 : Int32) < 0 ∨ cl182.slots.size ≤ ((1 : Int32)).toNatClampNeg) := inb_of Sz182 ⟨by decide, by decide⟩
      obtain ⟨T182, h182, X182, e182, W182, st182⟩ := stI X180 hx hZ e180 Ar182 (j := (1 : Int32)) hin182 (g := (mkF m 144 #[.val (.int p0), .val (.int p1), .val (.int p2), .val (.int p3), .val (.int p4), .val (.int p5), .val (.int bd), .val (.int (4 : Int32)), .val (.int v0), .val (.int v1), .val (.int v2), .val (.int v3), .val (.ref a), .val (.ref b178), .val (.int (0 : Int32)), .unset] [(.int (v1 ^^^ (1 : Int32))), (.int (1 : Int32)), (.ref a)])) rfl rfl (hb hby at_144)
      have V_a_182 : Arv Z h182 a k7 .int (4 : Int32) [(.int (v0 ^^^ (1 : Int32))), (.int (v1 ^^^ (1 : Int32))), (.int v2), (.int v3)] (.int (0 : Int32)) := Arv.set Ar182 qc182 Sz182 Mn182 Hs182 Gs182 rfl W182 1 rfl (Nat.le_of_ble_eq_true rfl)
      have Eb_182 := Eb_180.wr W182
      have Vy_182 := Vy_180.other W182 (Ne.symm ne_a_y)
      have Fb_182 := Fb_180.other W182 (Or.inl (Ne.symm ne_a_b178))
      have Z_182 : n0 ≤ h182.size := Nat.le_trans Z_180 (Keep.of_wr W182).1
      have N182 := Fr.snoc X182 N180 g_a
      have st183 : ∀ target, Steps p.tables e below (T182.setTop (mkF m 152 #[.val (.int p0), .val (.int p1), .val (.int p2), .val (.int p3), .val (.int p4), .val (.int p5), .val (.int bd), .val (.int (4 : Int32)), .val (.int v0), .val (.int v1), .val (.int v2), .val (.int v3), .val (.ref a), .val (.ref b178), .val (.int (0 : Int32)), .unset] [(.int (v2 ^^^ (1 : Int32))), (.int (2 : Int32)), (.ref a)])) target → Steps p.tables e below (T182.setTop (mkF m 145 #[.val (.int p0), .val (.int p1), .val (.int p2), .val (.int p3), .val (.int p4), .val (.int p5), .val (.int bd), .val (.int (4 : Int32)), .val (.int v0), .val (.int v1), .val (.int v2), .val (.int v3), .val (.ref a), .val (.ref b178), .val (.int (0 : Int32)), .unset] [])) target := by
        intro target kt
        refine XS.aload X182.here hx rfl (hb hby at_145) rfl rfl ?_
        show Steps p.tables e below (T182.setTop (mkF m 147 #[.val (.int p0), .val (.int p1), .val (.int p2), .val (.int p3), .val (.int p4), .val (.int p5), .val (.int bd), .val (.int (4 : Int32)), .val (.int v0), .val (.int v1), .val (.int v2), .val (.int v3), .val (.ref a), .val (.ref b178), .val (.int (0 : Int32)), .unset] [(.ref a)])) _
        refine XS.iconst X182.here hx rfl (hb hby at_147) ?_
        refine XS.iload X182.here hx rfl (hb hby at_148) rfl ?_
        refine XS.iconst X182.here hx rfl (hb hby at_150) ?_
        refine XS.ixor X182.here hx rfl (hb hby at_151) rfl ?_
        exact kt
      obtain ⟨cl184, Ar184, qc184, Sz184, Mn184, Hs184, Gs184⟩ := id V_a_182
      have hin184 : ¬ ((2 : Int32) < 0 ∨ cl184.slots.size ≤ ((2 : Int32)).toNatClampNeg) := inb_of Sz184 ⟨by decide, by decide⟩
      obtain ⟨T184, h184, X184, e184, W184, st184⟩ := stI X182 hx hZ e182 Ar184 (j := (2 : Int32)) hin184 (g := (mkF m 152 #[.val (.int p0), .val (.int p1), .val (.int p2), .val (.int p3), .val (.int p4), .val (.int p5), .val (.int bd), .val (.int (4 : Int32)), .val (.int v0), .val (.int v1), .val (.int v2), .val (.int v3), .val (.ref a), .val (.ref b178), .val (.int (0 : Int32)), .unset] [(.int (v2 ^^^ (1 : Int32))), (.int (2 : Int32)), (.ref a)])) rfl rfl (hb hby at_152)
      have V_a_184 : Arv Z h184 a k7 .int (4 : Int32) [(.int (v0 ^^^ (1 : Int32))), (.int (v1 ^^^ (1 : Int32))), (.int (v2 ^^^ (1 : Int32))), (.int v3)] (.int (0 : Int32)) := Arv.set Ar184 qc184 Sz184 Mn184 Hs184 Gs184 rfl W184 2 rfl (Nat.le_of_ble_eq_true rfl)
      have Eb_184 := Eb_182.wr W184
      have Vy_184 := Vy_182.other W184 (Ne.symm ne_a_y)
      have Fb_184 := Fb_182.other W184 (Or.inl (Ne.symm ne_a_b178))
      have Z_184 : n0 ≤ h184.size := Nat.le_trans Z_182 (Keep.of_wr W184).1
      have N184 := Fr.snoc X184 N182 g_a
      have st185 : ∀ target, Steps p.tables e below (T184.setTop (mkF m 160 #[.val (.int p0), .val (.int p1), .val (.int p2), .val (.int p3), .val (.int p4), .val (.int p5), .val (.int bd), .val (.int (4 : Int32)), .val (.int v0), .val (.int v1), .val (.int v2), .val (.int v3), .val (.ref a), .val (.ref b178), .val (.int (0 : Int32)), .unset] [(.int (v3 ^^^ (1 : Int32))), (.int (3 : Int32)), (.ref a)])) target → Steps p.tables e below (T184.setTop (mkF m 153 #[.val (.int p0), .val (.int p1), .val (.int p2), .val (.int p3), .val (.int p4), .val (.int p5), .val (.int bd), .val (.int (4 : Int32)), .val (.int v0), .val (.int v1), .val (.int v2), .val (.int v3), .val (.ref a), .val (.ref b178), .val (.int (0 : Int32)), .unset] [])) target := by
        intro target kt
        refine XS.aload X184.here hx rfl (hb hby at_153) rfl rfl ?_
        refine XS.iconst X184.here hx rfl (hb hby at_155) ?_
        refine XS.iload X184.here hx rfl (hb hby at_156) rfl ?_
        refine XS.iconst X184.here hx rfl (hb hby at_158) ?_
        show Steps p.tables e below (T184.setTop (mkF m 159 #[.val (.int p0), .val (.int p1), .val (.int p2), .val (.int p3), .val (.int p4), .val (.int p5), .val (.int bd), .val (.int (4 : Int32)), .val (.int v0), .val (.int v1), .val (.int v2), .val (.int v3), .val (.ref a), .val (.ref b178), .val (.int (0 : Int32)), .unset] [(.int (1 : Int32)), (.int v3), (.int (3 : Int32)), (.ref a)])) _
        refine XS.ixor X184.here hx rfl (hb hby at_159) rfl ?_
        exact kt
      obtain ⟨cl186, Ar186, qc186, Sz186, Mn186, Hs186, Gs186⟩ := id V_a_184
      have hin186 : ¬ ((3 : Int32) < 0 ∨ cl186.slots.size ≤ ((3 : Int32)).toNatClampNeg) := inb_of Sz186 ⟨by decide, by decide⟩
      obtain ⟨T186, h186, X186, e186, W186, st186⟩ := stI X184 hx hZ e184 Ar186 (j := (3 : Int32)) hin186 (g := (mkF m 160 #[.val (.int p0), .val (.int p1), .val (.int p2), .val (.int p3), .val (.int p4), .val (.int p5), .val (.int bd), .val (.int (4 : Int32)), .val (.int v0), .val (.int v1), .val (.int v2), .val (.int v3), .val (.ref a), .val (.ref b178), .val (.int (0 : Int32)), .unset] [(.int (v3 ^^^ (1 : Int32))), (.int (3 : Int32)), (.ref a)])) rfl rfl (hb hby at_160)
      have V_a_186 : Arv Z h186 a k7 .int (4 : Int32) [(.int (v0 ^^^ (1 : Int32))), (.int (v1 ^^^ (1 : Int32))), (.int (v2 ^^^ (1 : Int32))), (.int (v3 ^^^ (1 : Int32)))] (.int (0 : Int32)) := Arv.set Ar186 qc186 Sz186 Mn186 Hs186 Gs186 rfl W186 3 rfl (Nat.le_of_ble_eq_true rfl)
      have Eb_186 := Eb_184.wr W186
      have Vy_186 := Vy_184.other W186 (Ne.symm ne_a_y)
      have Fb_186 := Fb_184.other W186 (Or.inl (Ne.symm ne_a_b178))
      have Z_186 : n0 ≤ h186.size := Nat.le_trans Z_184 (Keep.of_wr W186).1
      have N186 := Fr.snoc X186 N184 g_a
      have st187 : ∀ target, Steps p.tables e below (T186.setTop (mkF m 177 #[.val (.int p0), .val (.int p1), .val (.int p2), .val (.int p3), .val (.int p4), .val (.int p5), .val (.int bd), .val (.int (4 : Int32)), .val (.int v0), .val (.int v1), .val (.int v2), .val (.int v3), .val (.ref a), .val (.ref b178), .val (.int (0 : Int32)), .val (.int (1 : Int32))] [(.int (0 : Int32)), (.ref b178)])) target → Steps p.tables e below (T186.setTop (mkF m 161 #[.val (.int p0), .val (.int p1), .val (.int p2), .val (.int p3), .val (.int p4), .val (.int p5), .val (.int bd), .val (.int (4 : Int32)), .val (.int v0), .val (.int v1), .val (.int v2), .val (.int v3), .val (.ref a), .val (.ref b178), .val (.int (0 : Int32)), .unset] [])) target := by
        intro target kt
        refine XS.iconst X186.here hx rfl (hb hby at_161) ?_
        refine XS.istore X186.here hx rfl (hb hby at_162) rfl (l' := #[.val (.int p0), .val (.int p1), .val (.int p2), .val (.int p3), .val (.int p4), .val (.int p5), .val (.int bd), .val (.int (4 : Int32)), .val (.int v0), .val (.int v1), .val (.int v2), .val (.int v3), .val (.ref a), .val (.ref b178), .val (.int (0 : Int32)), .val (.int (1 : Int32))]) rfl ?_
        refine XS.iload X186.here hx rfl (hb hby at_164) rfl ?_
        refine XS.ifNo X186.here hx rfl (hb hby at_166) rfl ((if0 _ _).trans (tlt (by decide : ((0 : Int32) < (4 : Int32)))).2.2.2) ?_
        refine XS.iload X186.here hx rfl (hb hby at_169) rfl ?_
        refine XS.ifNo X186.here hx rfl (hb hby at_171) rfl ((if0 _ _).trans (feq (by decide : ¬ ((1 : Int32) = (0 : Int32)))).1) ?_
        refine XS.aload X186.here hx rfl (hb hby at_174) rfl rfl ?_
        show Steps p.tables e below (T186.setTop (mkF m 176 #[.val (.int p0), .val (.int p1), .val (.int p2), .val (.int p3), .val (.int p4), .val (.int p5), .val (.int bd), .val (.int (4 : Int32)), .val (.int v0), .val (.int v1), .val (.int v2), .val (.int v3), .val (.ref a), .val (.ref b178), .val (.int (0 : Int32)), .val (.int (1 : Int32))] [(.ref b178)])) _
        refine XS.iconst X186.here hx rfl (hb hby at_176) ?_
        exact kt
      obtain ⟨cl188, Ar188, qc188, Sz188, Mn188, Hs188, Gs188⟩ := id Vy_186
      have hin188 : ¬ ((0 : Int32) < 0 ∨ cl188.slots.size ≤ ((0 : Int32)).toNatClampNeg) := inb_of Sz188 ⟨by decide, by decide⟩
      obtain ⟨cq189, kq189, qv189a, qv189b, qv189c⟩ := isOf hZ e186 Eb_186
      obtain ⟨_, _, ⟨T189, L189, k189, n189⟩, -, X189, ⟨Lc189, hQ189, l189, y189, z189⟩, st189⟩ := X186.virtualBack hx (y := (⟨"com/example/libbisim/libbisim/CompactInts", "get", "(I)I"⟩ : MethodName)) (z := (⟨"com/example/libbisim/libbisim/CompactInts", "get", "(I)I"⟩ : MethodName)) hown (mvT hZ (hw _ (List.mem_of_getElem? (i := 38) rfl))) (mvT hZ (hw _ (List.mem_of_getElem? (i := 39) rfl))) (notFace_of_selects (args := #[]) (mvT hZ (hw _ (List.mem_of_getElem? (i := 41) rfl)))) (mvT hZ (hw _ (List.mem_of_getElem? (i := 41) rfl))) (mvT hZ (hw _ (List.mem_of_getElem? (i := 40) rfl))) (by decide) (backOf (W := 0) (rmGB l Z a0 hw [] b178 (0 : Int32) y cl188 (nar .byte (v0.toInt8.toInt32)) h186 n0 Z_186 Fb_186 Ar188 hin188 (Hs188.at hin188 rfl)) hZ (hw _ (List.mem_of_getElem? (i := 42) rfl)) (hw _ (List.mem_of_getElem? (i := 8) rfl)) (by decide) (by decide)) qv189a qv189c (g := (mkF m 177 #[.val (.int p0), .val (.int p1), .val (.int p2), .val (.int p3), .val (.int p4), .val (.int p5), .val (.int bd), .val (.int (4 : Int32)), .val (.int v0), .val (.int v1), .val (.int v2), .val (.int v3), .val (.ref a), .val (.ref b178), .val (.int (0 : Int32)), .val (.int (1 : Int32))] [(.int (0 : Int32)), (.ref b178)])) rfl (by rw [hml]; rfl) (Steps.refl _) (argsL := [(.int (0 : Int32))]) (rest := []) (lenOf pd_6 rfl) rfl (by show 2 * 0 + _ ≤ _; exact Nat.le_of_eq rfl) (hb hby at_177) (fun _ _ => ⟨rfl, e186, (by decide : 3 + 0 ≤ _), (by decide : 11 + 0 ≤ _)⟩)
      dsimp only [Pt.U, Pt.locs, Pt.cells, Pt.slots] at X189 l189 y189 z189 st189 hQ189
      subst l189 y189 z189
      obtain ⟨rfl, Nq189, e189⟩ := hQ189
      have N189 := Fr.app N186 Nq189
      rw [own_b8 R0.1 (by omega)] at st189
      have st190 : ∀ target, Steps p.tables e below (T189.setTop (mkF m 206 #[.val (.int p0), .val (.int p1), .val (.int p2), .val (.int p3), .val (.int p4), .val (.int p5), .val (.int bd), .val (.int (4 : Int32)), .val (.int v0), .val (.int v1), .val (.int v2), .val (.int v3), .val (.ref a), .val (.ref b178), .val (.int (0 : Int32)), .val (.int (1 : Int32))] [(.int (1 : Int32)), (.ref b178)])) target → Steps p.tables e below (T189.setTop (mkF m 180 #[.val (.int p0), .val (.int p1), .val (.int p2), .val (.int p3), .val (.int p4), .val (.int p5), .val (.int bd), .val (.int (4 : Int32)), .val (.int v0), .val (.int v1), .val (.int v2), .val (.int v3), .val (.ref a), .val (.ref b178), .val (.int (0 : Int32)), .val (.int (1 : Int32))] [(.int v0)])) target := by
        intro target kt
        refine XS.iload X189.here hx rfl (hb hby at_180) rfl ?_
        refine XS.icmpNo X189.here hx rfl (hb hby at_182) rfl (teq (rfl : v0 = v0)).2 ?_
        refine XS.iconst X189.here hx rfl (hb hby at_185) ?_
        refine XS.goto X189.here hx rfl (pc0 := 186) (pc' := 190) rfl (hb hby at_186) (by decide) (by decide) ?_
        refine XS.istore X189.here hx rfl (hb hby at_190) rfl (l' := #[.val (.int p0), .val (.int p1), .val (.int p2), .val (.int p3), .val (.int p4), .val (.int p5), .val (.int bd), .val (.int (4 : Int32)), .val (.int v0), .val (.int v1), .val (.int v2), .val (.int v3), .val (.ref a), .val (.ref b178), .val (.int (0 : Int32)), .val (.int (1 : Int32))]) rfl ?_
        refine XS.iload X189.here hx rfl (hb hby at_192) rfl ?_
        refine XS.iconst X189.here hx rfl (hb hby at_194) ?_
        show Steps p.tables e below (T189.setTop (mkF m 195 #[.val (.int p0), .val (.int p1), .val (.int p2), .val (.int p3), .val (.int p4), .val (.int p5), .val (.int bd), .val (.int (4 : Int32)), .val (.int v0), .val (.int v1), .val (.int v2), .val (.int v3), .val (.ref a), .val (.ref b178), .val (.int (0 : Int32)), .val (.int (1 : Int32))] [(.int (1 : Int32)), (.int (4 : Int32))])) _
        refine XS.icmpNo X189.here hx rfl (hb hby at_195) rfl (tlt (by decide : ((1 : Int32) < (4 : Int32)))).2.2.2 ?_
        refine XS.iload X189.here hx rfl (hb hby at_198) rfl ?_
        refine XS.ifNo X189.here hx rfl (hb hby at_200) rfl ((if0 _ _).trans (feq (by decide : ¬ ((1 : Int32) = (0 : Int32)))).1) ?_
        refine XS.aload X189.here hx rfl (hb hby at_203) rfl rfl ?_
        refine XS.iconst X189.here hx rfl (hb hby at_205) ?_
        exact kt
      obtain ⟨cl191, Ar191, qc191, Sz191, Mn191, Hs191, Gs191⟩ := id Vy_186
      have hin191 : ¬ ((1 : Int32) < 0 ∨ cl191.slots.size ≤ ((1 : Int32)).toNatClampNeg) := inb_of Sz191 ⟨by decide, by decide⟩
      obtain ⟨cq192, kq192, qv192a, qv192b, qv192c⟩ := isOf hZ e189 Eb_186
      obtain ⟨_, _, ⟨T192, L192, k192, n192⟩, -, X192, ⟨Lc192, hQ192, l192, y192, z192⟩, st192⟩ := X189.virtualBack hx (y := (⟨"com/example/libbisim/libbisim/CompactInts", "get", "(I)I"⟩ : MethodName)) (z := (⟨"com/example/libbisim/libbisim/CompactInts", "get", "(I)I"⟩ : MethodName)) hown (mvT hZ (hw _ (List.mem_of_getElem? (i := 38) rfl))) (mvT hZ (hw _ (List.mem_of_getElem? (i := 39) rfl))) (notFace_of_selects (args := #[]) (mvT hZ (hw _ (List.mem_of_getElem? (i := 41) rfl)))) (mvT hZ (hw _ (List.mem_of_getElem? (i := 41) rfl))) (mvT hZ (hw _ (List.mem_of_getElem? (i := 40) rfl))) (by decide) (backOf (W := 0) (rmGB l Z a0 hw [] b178 (1 : Int32) y cl191 (nar .byte (v1.toInt8.toInt32)) h186 n0 Z_186 Fb_186 Ar191 hin191 (Hs191.at hin191 rfl)) hZ (hw _ (List.mem_of_getElem? (i := 42) rfl)) (hw _ (List.mem_of_getElem? (i := 8) rfl)) (by decide) (by decide)) qv192a qv192c (g := (mkF m 206 #[.val (.int p0), .val (.int p1), .val (.int p2), .val (.int p3), .val (.int p4), .val (.int p5), .val (.int bd), .val (.int (4 : Int32)), .val (.int v0), .val (.int v1), .val (.int v2), .val (.int v3), .val (.ref a), .val (.ref b178), .val (.int (0 : Int32)), .val (.int (1 : Int32))] [(.int (1 : Int32)), (.ref b178)])) rfl (by rw [hml]; rfl) (Steps.refl _) (argsL := [(.int (1 : Int32))]) (rest := []) (lenOf pd_6 rfl) rfl (by show 2 * 0 + _ ≤ _; exact Nat.le_of_eq rfl) (hb hby at_206) (fun _ _ => ⟨rfl, e189, (by decide : 3 + 0 ≤ _), (by decide : 11 + 0 ≤ _)⟩)
      dsimp only [Pt.U, Pt.locs, Pt.cells, Pt.slots] at X192 l192 y192 z192 st192 hQ192
      subst l192 y192 z192
      obtain ⟨rfl, Nq192, e192⟩ := hQ192
      have N192 := Fr.app N189 Nq192
      rw [own_b8 R1.1 (by omega)] at st192
      have st193 : ∀ target, Steps p.tables e below (T192.setTop (mkF m 235 #[.val (.int p0), .val (.int p1), .val (.int p2), .val (.int p3), .val (.int p4), .val (.int p5), .val (.int bd), .val (.int (4 : Int32)), .val (.int v0), .val (.int v1), .val (.int v2), .val (.int v3), .val (.ref a), .val (.ref b178), .val (.int (0 : Int32)), .val (.int (1 : Int32))] [(.int (2 : Int32)), (.ref b178)])) target → Steps p.tables e below (T192.setTop (mkF m 209 #[.val (.int p0), .val (.int p1), .val (.int p2), .val (.int p3), .val (.int p4), .val (.int p5), .val (.int bd), .val (.int (4 : Int32)), .val (.int v0), .val (.int v1), .val (.int v2), .val (.int v3), .val (.ref a), .val (.ref b178), .val (.int (0 : Int32)), .val (.int (1 : Int32))] [(.int v1)])) target := by
        intro target kt
        refine XS.iload X192.here hx rfl (hb hby at_209) rfl ?_
        refine XS.icmpNo X192.here hx rfl (hb hby at_211) rfl (teq (rfl : v1 = v1)).2 ?_
        refine XS.iconst X192.here hx rfl (hb hby at_214) ?_
        show Steps p.tables e below (T192.setTop (mkF m 215 #[.val (.int p0), .val (.int p1), .val (.int p2), .val (.int p3), .val (.int p4), .val (.int p5), .val (.int bd), .val (.int (4 : Int32)), .val (.int v0), .val (.int v1), .val (.int v2), .val (.int v3), .val (.ref a), .val (.ref b178), .val (.int (0 : Int32)), .val (.int (1 : Int32))] [(.int (1 : Int32))])) _
        refine XS.goto X192.here hx rfl (pc0 := 215) (pc' := 219) rfl (hb hby at_215) (by decide) (by decide) ?_
        refine XS.istore X192.here hx rfl (hb hby at_219) rfl (l' := #[.val (.int p0), .val (.int p1), .val (.int p2), .val (.int p3), .val (.int p4), .val (.int p5), .val (.int bd), .val (.int (4 : Int32)), .val (.int v0), .val (.int v1), .val (.int v2), .val (.int v3), .val (.ref a), .val (.ref b178), .val (.int (0 : Int32)), .val (.int (1 : Int32))]) rfl ?_
        refine XS.iload X192.here hx rfl (hb hby at_221) rfl ?_
        refine XS.iconst X192.here hx rfl (hb hby at_223) ?_
        refine XS.icmpNo X192.here hx rfl (hb hby at_224) rfl (tlt (by decide : ((2 : Int32) < (4 : Int32)))).2.2.2 ?_
        refine XS.iload X192.here hx rfl (hb hby at_227) rfl ?_
        refine XS.ifNo X192.here hx rfl (hb hby at_229) rfl ((if0 _ _).trans (feq (by decide : ¬ ((1 : Int32) = (0 : Int32)))).1) ?_
        refine XS.aload X192.here hx rfl (hb hby at_232) rfl rfl ?_
        show Steps p.tables e below (T192.setTop (mkF m 234 #[.val (.int p0), .val (.int p1), .val (.int p2), .val (.int p3), .val (.int p4), .val (.int p5), .val (.int bd), .val (.int (4 : Int32)), .val (.int v0), .val (.int v1), .val (.int v2), .val (.int v3), .val (.ref a), .val (.ref b178), .val (.int (0 : Int32)), .val (.int (1 : Int32))] [(.ref b178)])) _
        refine XS.iconst X192.here hx rfl (hb hby at_234) ?_
        exact kt
      obtain ⟨cl194, Ar194, qc194, Sz194, Mn194, Hs194, Gs194⟩ := id Vy_186
      have hin194 : ¬ ((2 : Int32) < 0 ∨ cl194.slots.size ≤ ((2 : Int32)).toNatClampNeg) := inb_of Sz194 ⟨by decide, by decide⟩
      obtain ⟨cq195, kq195, qv195a, qv195b, qv195c⟩ := isOf hZ e192 Eb_186
      obtain ⟨_, _, ⟨T195, L195, k195, n195⟩, -, X195, ⟨Lc195, hQ195, l195, y195, z195⟩, st195⟩ := X192.virtualBack hx (y := (⟨"com/example/libbisim/libbisim/CompactInts", "get", "(I)I"⟩ : MethodName)) (z := (⟨"com/example/libbisim/libbisim/CompactInts", "get", "(I)I"⟩ : MethodName)) hown (mvT hZ (hw _ (List.mem_of_getElem? (i := 38) rfl))) (mvT hZ (hw _ (List.mem_of_getElem? (i := 39) rfl))) (notFace_of_selects (args := #[]) (mvT hZ (hw _ (List.mem_of_getElem? (i := 41) rfl)))) (mvT hZ (hw _ (List.mem_of_getElem? (i := 41) rfl))) (mvT hZ (hw _ (List.mem_of_getElem? (i := 40) rfl))) (by decide) (backOf (W := 0) (rmGB l Z a0 hw [] b178 (2 : Int32) y cl194 (nar .byte (v2.toInt8.toInt32)) h186 n0 Z_186 Fb_186 Ar194 hin194 (Hs194.at hin194 rfl)) hZ (hw _ (List.mem_of_getElem? (i := 42) rfl)) (hw _ (List.mem_of_getElem? (i := 8) rfl)) (by decide) (by decide)) qv195a qv195c (g := (mkF m 235 #[.val (.int p0), .val (.int p1), .val (.int p2), .val (.int p3), .val (.int p4), .val (.int p5), .val (.int bd), .val (.int (4 : Int32)), .val (.int v0), .val (.int v1), .val (.int v2), .val (.int v3), .val (.ref a), .val (.ref b178), .val (.int (0 : Int32)), .val (.int (1 : Int32))] [(.int (2 : Int32)), (.ref b178)])) rfl (by rw [hml]; rfl) (Steps.refl _) (argsL := [(.int (2 : Int32))]) (rest := []) (lenOf pd_6 rfl) rfl (by show 2 * 0 + _ ≤ _; exact Nat.le_of_eq rfl) (hb hby at_235) (fun _ _ => ⟨rfl, e192, (by decide : 3 + 0 ≤ _), (by decide : 11 + 0 ≤ _)⟩)
      dsimp only [Pt.U, Pt.locs, Pt.cells, Pt.slots] at X195 l195 y195 z195 st195 hQ195
      subst l195 y195 z195
      obtain ⟨rfl, Nq195, e195⟩ := hQ195
      have N195 := Fr.app N192 Nq195
      rw [own_b8 R2.1 (by omega)] at st195
      have st196 : ∀ target, Steps p.tables e below (T195.setTop (mkF m 264 #[.val (.int p0), .val (.int p1), .val (.int p2), .val (.int p3), .val (.int p4), .val (.int p5), .val (.int bd), .val (.int (4 : Int32)), .val (.int v0), .val (.int v1), .val (.int v2), .val (.int v3), .val (.ref a), .val (.ref b178), .val (.int (0 : Int32)), .val (.int (1 : Int32))] [(.int (3 : Int32)), (.ref b178)])) target → Steps p.tables e below (T195.setTop (mkF m 238 #[.val (.int p0), .val (.int p1), .val (.int p2), .val (.int p3), .val (.int p4), .val (.int p5), .val (.int bd), .val (.int (4 : Int32)), .val (.int v0), .val (.int v1), .val (.int v2), .val (.int v3), .val (.ref a), .val (.ref b178), .val (.int (0 : Int32)), .val (.int (1 : Int32))] [(.int v2)])) target := by
        intro target kt
        refine XS.iload X195.here hx rfl (hb hby at_238) rfl ?_
        refine XS.icmpNo X195.here hx rfl (hb hby at_240) rfl (teq (rfl : v2 = v2)).2 ?_
        refine XS.iconst X195.here hx rfl (hb hby at_243) ?_
        refine XS.goto X195.here hx rfl (pc0 := 244) (pc' := 248) rfl (hb hby at_244) (by decide) (by decide) ?_
        refine XS.istore X195.here hx rfl (hb hby at_248) rfl (l' := #[.val (.int p0), .val (.int p1), .val (.int p2), .val (.int p3), .val (.int p4), .val (.int p5), .val (.int bd), .val (.int (4 : Int32)), .val (.int v0), .val (.int v1), .val (.int v2), .val (.int v3), .val (.ref a), .val (.ref b178), .val (.int (0 : Int32)), .val (.int (1 : Int32))]) rfl ?_
        refine XS.iload X195.here hx rfl (hb hby at_250) rfl ?_
        refine XS.iconst X195.here hx rfl (hb hby at_252) ?_
        show Steps p.tables e below (T195.setTop (mkF m 253 #[.val (.int p0), .val (.int p1), .val (.int p2), .val (.int p3), .val (.int p4), .val (.int p5), .val (.int bd), .val (.int (4 : Int32)), .val (.int v0), .val (.int v1), .val (.int v2), .val (.int v3), .val (.ref a), .val (.ref b178), .val (.int (0 : Int32)), .val (.int (1 : Int32))] [(.int (3 : Int32)), (.int (4 : Int32))])) _
        refine XS.icmpNo X195.here hx rfl (hb hby at_253) rfl (tlt (by decide : ((3 : Int32) < (4 : Int32)))).2.2.2 ?_
        refine XS.iload X195.here hx rfl (hb hby at_256) rfl ?_
        refine XS.ifNo X195.here hx rfl (hb hby at_258) rfl ((if0 _ _).trans (feq (by decide : ¬ ((1 : Int32) = (0 : Int32)))).1) ?_
        refine XS.aload X195.here hx rfl (hb hby at_261) rfl rfl ?_
        refine XS.iconst X195.here hx rfl (hb hby at_263) ?_
        exact kt
      obtain ⟨cl197, Ar197, qc197, Sz197, Mn197, Hs197, Gs197⟩ := id Vy_186
      have hin197 : ¬ ((3 : Int32) < 0 ∨ cl197.slots.size ≤ ((3 : Int32)).toNatClampNeg) := inb_of Sz197 ⟨by decide, by decide⟩
      obtain ⟨cq198, kq198, qv198a, qv198b, qv198c⟩ := isOf hZ e195 Eb_186
      obtain ⟨_, _, ⟨T198, L198, k198, n198⟩, -, X198, ⟨Lc198, hQ198, l198, y198, z198⟩, st198⟩ := X195.virtualBack hx (y := (⟨"com/example/libbisim/libbisim/CompactInts", "get", "(I)I"⟩ : MethodName)) (z := (⟨"com/example/libbisim/libbisim/CompactInts", "get", "(I)I"⟩ : MethodName)) hown (mvT hZ (hw _ (List.mem_of_getElem? (i := 38) rfl))) (mvT hZ (hw _ (List.mem_of_getElem? (i := 39) rfl))) (notFace_of_selects (args := #[]) (mvT hZ (hw _ (List.mem_of_getElem? (i := 41) rfl)))) (mvT hZ (hw _ (List.mem_of_getElem? (i := 41) rfl))) (mvT hZ (hw _ (List.mem_of_getElem? (i := 40) rfl))) (by decide) (backOf (W := 0) (rmGB l Z a0 hw [] b178 (3 : Int32) y cl197 (nar .byte (v3.toInt8.toInt32)) h186 n0 Z_186 Fb_186 Ar197 hin197 (Hs197.at hin197 rfl)) hZ (hw _ (List.mem_of_getElem? (i := 42) rfl)) (hw _ (List.mem_of_getElem? (i := 8) rfl)) (by decide) (by decide)) qv198a qv198c (g := (mkF m 264 #[.val (.int p0), .val (.int p1), .val (.int p2), .val (.int p3), .val (.int p4), .val (.int p5), .val (.int bd), .val (.int (4 : Int32)), .val (.int v0), .val (.int v1), .val (.int v2), .val (.int v3), .val (.ref a), .val (.ref b178), .val (.int (0 : Int32)), .val (.int (1 : Int32))] [(.int (3 : Int32)), (.ref b178)])) rfl (by rw [hml]; rfl) (Steps.refl _) (argsL := [(.int (3 : Int32))]) (rest := []) (lenOf pd_6 rfl) rfl (by show 2 * 0 + _ ≤ _; exact Nat.le_of_eq rfl) (hb hby at_264) (fun _ _ => ⟨rfl, e195, (by decide : 3 + 0 ≤ _), (by decide : 11 + 0 ≤ _)⟩)
      dsimp only [Pt.U, Pt.locs, Pt.cells, Pt.slots] at X198 l198 y198 z198 st198 hQ198
      subst l198 y198 z198
      obtain ⟨rfl, Nq198, e198⟩ := hQ198
      have N198 := Fr.app N195 Nq198
      rw [own_b8 R3.1 (by omega)] at st198
      obtain ⟨fs, hr, hrun, hended, hW, hsame⟩ := X198.leave (v := some (.int (1 : Int32))) (fun h => by rw [Bd.returns] at h; cases h)
      refine ⟨_, _, pre0 _ (st1 _ (st2 _ (st3 _ (st4 _ (st5 _ (st6 _ (st7 _ (st8 _ (st9 _ (st10 _ (st11 _ (st12 _ (st13 _ (st14 _ (st15 _ (st177 _ (st178 _ (st179 _ (st180 _ (st181 _ (st182 _ (st183 _ (st184 _ (st185 _ (st186 _ (st187 _ (st189.trans (st190 _ (st192.trans (st193 _ (st195.trans (st196 _ (st198.trans ?_))))))))))))))))))))))))))))))))), hrun, hended, _, _, rfl, ?_, ⟨_, rfl⟩, hW, hsame.mono (by decide) (by decide)⟩
      · refine XS.iload X198.here hx rfl (hb hby at_267) rfl ?_
        refine XS.icmpNo X198.here hx rfl (hb hby at_269) rfl (teq (rfl : v3 = v3)).2 ?_
        refine XS.iconst X198.here hx rfl (hb hby at_272) ?_
        show Steps p.tables e below (T198.setTop (mkF m 273 #[.val (.int p0), .val (.int p1), .val (.int p2), .val (.int p3), .val (.int p4), .val (.int p5), .val (.int bd), .val (.int (4 : Int32)), .val (.int v0), .val (.int v1), .val (.int v2), .val (.int v3), .val (.ref a), .val (.ref b178), .val (.int (0 : Int32)), .val (.int (1 : Int32))] [(.int (1 : Int32))])) _
        refine XS.goto X198.here hx rfl (pc0 := 273) (pc' := 277) rfl (hb hby at_273) (by decide) (by decide) ?_
        refine XS.istore X198.here hx rfl (hb hby at_277) rfl (l' := #[.val (.int p0), .val (.int p1), .val (.int p2), .val (.int p3), .val (.int p4), .val (.int p5), .val (.int bd), .val (.int (4 : Int32)), .val (.int v0), .val (.int v1), .val (.int v2), .val (.int v3), .val (.ref a), .val (.ref b178), .val (.int (0 : Int32)), .val (.int (1 : Int32))]) rfl ?_
        refine XS.iload X198.here hx rfl (hb hby at_279) rfl ?_
        show Steps p.tables e below (T198.setTop (mkF m 281 #[.val (.int p0), .val (.int p1), .val (.int p2), .val (.int p3), .val (.int p4), .val (.int p5), .val (.int bd), .val (.int (4 : Int32)), .val (.int v0), .val (.int v1), .val (.int v2), .val (.int v3), .val (.ref a), .val (.ref b178), .val (.int (0 : Int32)), .val (.int (1 : Int32))] [(.int (1 : Int32))])) _
        exact retN X198 hx (t := .boolean) Bd.returns (by simp) (hb hby at_281) hr
      · show Q_rm0 Z p0 p1 p2 p3 p4 p5 h0 n0 _ T198.heap _
        rw [e198]
        exact ⟨rfl, N198⟩
    · have ne_a_y : a ≠ y := Nat.ne_of_lt (Nat.lt_of_lt_of_le (V_a_15).lt szy)
      have hle : bd.toInt ≤ 65536 := own_le rfl q2
      have st199 : ∀ target, Steps p.tables e below (T178.setTop (mkF m 136 #[.val (.int p0), .val (.int p1), .val (.int p2), .val (.int p3), .val (.int p4), .val (.int p5), .val (.int bd), .val (.int (4 : Int32)), .val (.int v0), .val (.int v1), .val (.int v2), .val (.int v3), .val (.ref a), .val (.ref b178), .val (.int (0 : Int32)), .unset] [(.int (v0 ^^^ (1 : Int32))), (.int (0 : Int32)), (.ref a)])) target → Steps p.tables e below (T178.setTop (mkF m 102 #[.val (.int p0), .val (.int p1), .val (.int p2), .val (.int p3), .val (.int p4), .val (.int p5), .val (.int bd), .val (.int (4 : Int32)), .val (.int v0), .val (.int v1), .val (.int v2), .val (.int v3), .val (.ref a), .unset, .unset, .unset] [(.ref b178)])) target := by
        intro target kt
        refine XS.astore X178.here hx rfl (hb hby at_102) rfl rfl (l' := #[.val (.int p0), .val (.int p1), .val (.int p2), .val (.int p3), .val (.int p4), .val (.int p5), .val (.int bd), .val (.int (4 : Int32)), .val (.int v0), .val (.int v1), .val (.int v2), .val (.int v3), .val (.ref a), .val (.ref b178), .unset, .unset]) rfl ?_
        refine XS.iload X178.here hx rfl (hb hby at_104) rfl ?_
        refine X178.ldcInt hx hown (mvT hZ (hw _ (List.mem_of_getElem? (i := 25) rfl))) (g := (mkF m 106 #[.val (.int p0), .val (.int p1), .val (.int p2), .val (.int p3), .val (.int p4), .val (.int p5), .val (.int bd), .val (.int (4 : Int32)), .val (.int v0), .val (.int v1), .val (.int v2), .val (.int v3), .val (.ref a), .val (.ref b178), .unset, .unset] [(.int bd)])) rfl (hb hby at_106) _ ?_
        refine XS.icmpYes X178.here hx rfl (pc0 := 108) (pc' := 121) rfl (hb hby at_108) rfl (flt q2).2.2.2 (by decide) (by decide) ?_
        refine XS.iconst X178.here hx rfl (hb hby at_121) ?_
        show Steps p.tables e below (T178.setTop (mkF m 122 #[.val (.int p0), .val (.int p1), .val (.int p2), .val (.int p3), .val (.int p4), .val (.int p5), .val (.int bd), .val (.int (4 : Int32)), .val (.int v0), .val (.int v1), .val (.int v2), .val (.int v3), .val (.ref a), .val (.ref b178), .unset, .unset] [(.int (0 : Int32))])) _
        refine XS.istore X178.here hx rfl (hb hby at_122) rfl (l' := #[.val (.int p0), .val (.int p1), .val (.int p2), .val (.int p3), .val (.int p4), .val (.int p5), .val (.int bd), .val (.int (4 : Int32)), .val (.int v0), .val (.int v1), .val (.int v2), .val (.int v3), .val (.ref a), .val (.ref b178), .val (.int (0 : Int32)), .unset]) rfl ?_
        refine XS.iload X178.here hx rfl (hb hby at_124) rfl ?_
        refine XS.ifNo X178.here hx rfl (hb hby at_126) rfl ((if0 _ _).trans (teq (rfl : (0 : Int32) = (0 : Int32))).2) ?_
        refine XS.aload X178.here hx rfl (hb hby at_129) rfl rfl ?_
        refine XS.iconst X178.here hx rfl (hb hby at_131) ?_
        refine XS.iload X178.here hx rfl (hb hby at_132) rfl ?_
        refine XS.iconst X178.here hx rfl (hb hby at_134) ?_
        refine XS.ixor X178.here hx rfl (hb hby at_135) rfl ?_
        exact kt
      obtain ⟨cl200, Ar200, qc200, Sz200, Mn200, Hs200, Gs200⟩ := id V_a_178
      have hin200 : ¬ ((0 : Int32) < 0 ∨ cl200.slots.size ≤ ((0 : Int32)).toNatClampNeg) := inb_of Sz200 ⟨by decide, by decide⟩
      obtain ⟨T200, h200, X200, e200, W200, st200⟩ := stI X178 hx hZ rfl Ar200 (j := (0 : Int32)) hin200 (g := (mkF m 136 #[.val (.int p0), .val (.int p1), .val (.int p2), .val (.int p3), .val (.int p4), .val (.int p5), .val (.int bd), .val (.int (4 : Int32)), .val (.int v0), .val (.int v1), .val (.int v2), .val (.int v3), .val (.ref a), .val (.ref b178), .val (.int (0 : Int32)), .unset] [(.int (v0 ^^^ (1 : Int32))), (.int (0 : Int32)), (.ref a)])) rfl rfl (hb hby at_136)
      have V_a_200 : Arv Z h200 a k7 .int (4 : Int32) [(.int (v0 ^^^ (1 : Int32))), (.int v1), (.int v2), (.int v3)] (.int (0 : Int32)) := Arv.set Ar200 qc200 Sz200 Mn200 Hs200 Gs200 rfl W200 0 rfl (Nat.le_of_ble_eq_true rfl)
      have Eb_200 := Eb.wr W200
      have Vy_200 := Vy.other W200 (Ne.symm ne_a_y)
      have Fb_200 := Fb.other W200 (Or.inl (Ne.symm ne_a_b178))
      have Fc_200 := Fc.other W200 (Or.inl (Ne.symm ne_a_b178))
      have Z_200 : n0 ≤ h200.size := Nat.le_trans Z_178 (Keep.of_wr W200).1
      have N200 := Fr.snoc X200 N178 g_a
      have st201 : ∀ target, Steps p.tables e below (T200.setTop (mkF m 144 #[.val (.int p0), .val (.int p1), .val (.int p2), .val (.int p3), .val (.int p4), .val (.int p5), .val (.int bd), .val (.int (4 : Int32)), .val (.int v0), .val (.int v1), .val (.int v2), .val (.int v3), .val (.ref a), .val (.ref b178), .val (.int (0 : Int32)), .unset] [(.int (v1 ^^^ (1 : Int32))), (.int (1 : Int32)), (.ref a)])) target → Steps p.tables e below (T200.setTop (mkF m 137 #[.val (.int p0), .val (.int p1), .val (.int p2), .val (.int p3), .val (.int p4), .val (.int p5), .val (.int bd), .val (.int (4 : Int32)), .val (.int v0), .val (.int v1), .val (.int v2), .val (.int v3), .val (.ref a), .val (.ref b178), .val (.int (0 : Int32)), .unset] [])) target := by
        intro target kt
        show Steps p.tables e below (T200.setTop (mkF m 137 #[.val (.int p0), .val (.int p1), .val (.int p2), .val (.int p3), .val (.int p4), .val (.int p5), .val (.int bd), .val (.int (4 : Int32)), .val (.int v0), .val (.int v1), .val (.int v2), .val (.int v3), .val (.ref a), .val (.ref b178), .val (.int (0 : Int32)), .unset] [])) _
        refine XS.aload X200.here hx rfl (hb hby at_137) rfl rfl ?_
        refine XS.iconst X200.here hx rfl (hb hby at_139) ?_
        refine XS.iload X200.here hx rfl (hb hby at_140) rfl ?_
        refine XS.iconst X200.here hx rfl (hb hby at_142) ?_
        refine XS.ixor X200.here hx rfl (hb hby at_143) rfl ?_
        exact kt
      obtain ⟨cl202, Ar202, qc202, Sz202, Mn202, Hs202, Gs202⟩ := id V_a_200
      have hin202 : ¬ ((1 : Int32) < 0 ∨ cl202.slots.size ≤ ((1 : Int32)).toNatClampNeg) := inb_of Sz202 ⟨by decide, by decide⟩
      obtain ⟨T202, h202, X202, e202, W202, st202⟩ := stI X200 hx hZ e200 Ar202 (j := (1 : Int32)) hin202 (g := (mkF m 144 #[.val (.int p0), .val (.int p1), .val (.int p2), .val (.int p3), .val (.int p4), .val (.int p5), .val (.int bd), .val (.int (4 : Int32)), .val (.int v0), .val (.int v1), .val (.int v2), .val (.int v3), .val (.ref a), .val (.ref b178), .val (.int (0 : Int32)), .unset] [(.int (v1 ^^^ (1 : Int32))), (.int (1 : Int32)), (.ref a)])) rfl rfl (hb hby at_144)
      have V_a_202 : Arv Z h202 a k7 .int (4 : Int32) [(.int (v0 ^^^ (1 : Int32))), (.int (v1 ^^^ (1 : Int32))), (.int v2), (.int v3)] (.int (0 : Int32)) := Arv.set Ar202 qc202 Sz202 Mn202 Hs202 Gs202 rfl W202 1 rfl (Nat.le_of_ble_eq_true rfl)
      have Eb_202 := Eb_200.wr W202
      have Vy_202 := Vy_200.other W202 (Ne.symm ne_a_y)
      have Fb_202 := Fb_200.other W202 (Or.inl (Ne.symm ne_a_b178))
      have Fc_202 := Fc_200.other W202 (Or.inl (Ne.symm ne_a_b178))
      have Z_202 : n0 ≤ h202.size := Nat.le_trans Z_200 (Keep.of_wr W202).1
      have N202 := Fr.snoc X202 N200 g_a
      have st203 : ∀ target, Steps p.tables e below (T202.setTop (mkF m 152 #[.val (.int p0), .val (.int p1), .val (.int p2), .val (.int p3), .val (.int p4), .val (.int p5), .val (.int bd), .val (.int (4 : Int32)), .val (.int v0), .val (.int v1), .val (.int v2), .val (.int v3), .val (.ref a), .val (.ref b178), .val (.int (0 : Int32)), .unset] [(.int (v2 ^^^ (1 : Int32))), (.int (2 : Int32)), (.ref a)])) target → Steps p.tables e below (T202.setTop (mkF m 145 #[.val (.int p0), .val (.int p1), .val (.int p2), .val (.int p3), .val (.int p4), .val (.int p5), .val (.int bd), .val (.int (4 : Int32)), .val (.int v0), .val (.int v1), .val (.int v2), .val (.int v3), .val (.ref a), .val (.ref b178), .val (.int (0 : Int32)), .unset] [])) target := by
        intro target kt
        refine XS.aload X202.here hx rfl (hb hby at_145) rfl rfl ?_
        refine XS.iconst X202.here hx rfl (hb hby at_147) ?_
        refine XS.iload X202.here hx rfl (hb hby at_148) rfl ?_
        show Steps p.tables e below (T202.setTop (mkF m 150 #[.val (.int p0), .val (.int p1), .val (.int p2), .val (.int p3), .val (.int p4), .val (.int p5), .val (.int bd), .val (.int (4 : Int32)), .val (.int v0), .val (.int v1), .val (.int v2), .val (.int v3), .val (.ref a), .val (.ref b178), .val (.int (0 : Int32)), .unset] [(.int v2), (.int (2 : Int32)), (.ref a)])) _
        refine XS.iconst X202.here hx rfl (hb hby at_150) ?_
        refine XS.ixor X202.here hx rfl (hb hby at_151) rfl ?_
        exact kt
      obtain ⟨cl204, Ar204, qc204, Sz204, Mn204, Hs204, Gs204⟩ := id V_a_202
      have hin204 : ¬ ((2 : Int32) < 0 ∨ cl204.slots.size ≤ ((2 : Int32)).toNatClampNeg) := inb_of Sz204 ⟨by decide, by decide⟩
      obtain ⟨T204, h204, X204, e204, W204, st204⟩ := stI X202 hx hZ e202 Ar204 (j := (2 : Int32)) hin204 (g := (mkF m 152 #[.val (.int p0), .val (.int p1), .val (.int p2), .val (.int p3), .val (.int p4), .val (.int p5), .val (.int bd), .val (.int (4 : Int32)), .val (.int v0), .val (.int v1), .val (.int v2), .val (.int v3), .val (.ref a), .val (.ref b178), .val (.int (0 : Int32)), .unset] [(.int (v2 ^^^ (1 : Int32))), (.int (2 : Int32)), (.ref a)])) rfl rfl (hb hby at_152)
      have V_a_204 : Arv Z h204 a k7 .int (4 : Int32) [(.int (v0 ^^^ (1 : Int32))), (.int (v1 ^^^ (1 : Int32))), (.int (v2 ^^^ (1 : Int32))), (.int v3)] (.int (0 : Int32)) := Arv.set Ar204 qc204 Sz204 Mn204 Hs204 Gs204 rfl W204 2 rfl (Nat.le_of_ble_eq_true rfl)
      have Eb_204 := Eb_202.wr W204
      have Vy_204 := Vy_202.other W204 (Ne.symm ne_a_y)
      have Fb_204 := Fb_202.other W204 (Or.inl (Ne.symm ne_a_b178))
      have Fc_204 := Fc_202.other W204 (Or.inl (Ne.symm ne_a_b178))
      have Z_204 : n0 ≤ h204.size := Nat.le_trans Z_202 (Keep.of_wr W204).1
      have N204 := Fr.snoc X204 N202 g_a
      have st205 : ∀ target, Steps p.tables e below (T204.setTop (mkF m 160 #[.val (.int p0), .val (.int p1), .val (.int p2), .val (.int p3), .val (.int p4), .val (.int p5), .val (.int bd), .val (.int (4 : Int32)), .val (.int v0), .val (.int v1), .val (.int v2), .val (.int v3), .val (.ref a), .val (.ref b178), .val (.int (0 : Int32)), .unset] [(.int (v3 ^^^ (1 : Int32))), (.int (3 : Int32)), (.ref a)])) target → Steps p.tables e below (T204.setTop (mkF m 153 #[.val (.int p0), .val (.int p1), .val (.int p2), .val (.int p3), .val (.int p4), .val (.int p5), .val (.int bd), .val (.int (4 : Int32)), .val (.int v0), .val (.int v1), .val (.int v2), .val (.int v3), .val (.ref a), .val (.ref b178), .val (.int (0 : Int32)), .unset] [])) target := by
        intro target kt
        refine XS.aload X204.here hx rfl (hb hby at_153) rfl rfl ?_
        refine XS.iconst X204.here hx rfl (hb hby at_155) ?_
        refine XS.iload X204.here hx rfl (hb hby at_156) rfl ?_
        refine XS.iconst X204.here hx rfl (hb hby at_158) ?_
        refine XS.ixor X204.here hx rfl (hb hby at_159) rfl ?_
        exact kt
      obtain ⟨cl206, Ar206, qc206, Sz206, Mn206, Hs206, Gs206⟩ := id V_a_204
      have hin206 : ¬ ((3 : Int32) < 0 ∨ cl206.slots.size ≤ ((3 : Int32)).toNatClampNeg) := inb_of Sz206 ⟨by decide, by decide⟩
      obtain ⟨T206, h206, X206, e206, W206, st206⟩ := stI X204 hx hZ e204 Ar206 (j := (3 : Int32)) hin206 (g := (mkF m 160 #[.val (.int p0), .val (.int p1), .val (.int p2), .val (.int p3), .val (.int p4), .val (.int p5), .val (.int bd), .val (.int (4 : Int32)), .val (.int v0), .val (.int v1), .val (.int v2), .val (.int v3), .val (.ref a), .val (.ref b178), .val (.int (0 : Int32)), .unset] [(.int (v3 ^^^ (1 : Int32))), (.int (3 : Int32)), (.ref a)])) rfl rfl (hb hby at_160)
      have V_a_206 : Arv Z h206 a k7 .int (4 : Int32) [(.int (v0 ^^^ (1 : Int32))), (.int (v1 ^^^ (1 : Int32))), (.int (v2 ^^^ (1 : Int32))), (.int (v3 ^^^ (1 : Int32)))] (.int (0 : Int32)) := Arv.set Ar206 qc206 Sz206 Mn206 Hs206 Gs206 rfl W206 3 rfl (Nat.le_of_ble_eq_true rfl)
      have Eb_206 := Eb_204.wr W206
      have Vy_206 := Vy_204.other W206 (Ne.symm ne_a_y)
      have Fb_206 := Fb_204.other W206 (Or.inl (Ne.symm ne_a_b178))
      have Fc_206 := Fc_204.other W206 (Or.inl (Ne.symm ne_a_b178))
      have Z_206 : n0 ≤ h206.size := Nat.le_trans Z_204 (Keep.of_wr W206).1
      have N206 := Fr.snoc X206 N204 g_a
      have st207 : ∀ target, Steps p.tables e below (T206.setTop (mkF m 177 #[.val (.int p0), .val (.int p1), .val (.int p2), .val (.int p3), .val (.int p4), .val (.int p5), .val (.int bd), .val (.int (4 : Int32)), .val (.int v0), .val (.int v1), .val (.int v2), .val (.int v3), .val (.ref a), .val (.ref b178), .val (.int (0 : Int32)), .val (.int (1 : Int32))] [(.int (0 : Int32)), (.ref b178)])) target → Steps p.tables e below (T206.setTop (mkF m 161 #[.val (.int p0), .val (.int p1), .val (.int p2), .val (.int p3), .val (.int p4), .val (.int p5), .val (.int bd), .val (.int (4 : Int32)), .val (.int v0), .val (.int v1), .val (.int v2), .val (.int v3), .val (.ref a), .val (.ref b178), .val (.int (0 : Int32)), .unset] [])) target := by
        intro target kt
        refine XS.iconst X206.here hx rfl (hb hby at_161) ?_
        show Steps p.tables e below (T206.setTop (mkF m 162 #[.val (.int p0), .val (.int p1), .val (.int p2), .val (.int p3), .val (.int p4), .val (.int p5), .val (.int bd), .val (.int (4 : Int32)), .val (.int v0), .val (.int v1), .val (.int v2), .val (.int v3), .val (.ref a), .val (.ref b178), .val (.int (0 : Int32)), .unset] [(.int (1 : Int32))])) _
        refine XS.istore X206.here hx rfl (hb hby at_162) rfl (l' := #[.val (.int p0), .val (.int p1), .val (.int p2), .val (.int p3), .val (.int p4), .val (.int p5), .val (.int bd), .val (.int (4 : Int32)), .val (.int v0), .val (.int v1), .val (.int v2), .val (.int v3), .val (.ref a), .val (.ref b178), .val (.int (0 : Int32)), .val (.int (1 : Int32))]) rfl ?_
        refine XS.iload X206.here hx rfl (hb hby at_164) rfl ?_
        refine XS.ifNo X206.here hx rfl (hb hby at_166) rfl ((if0 _ _).trans (tlt (by decide : ((0 : Int32) < (4 : Int32)))).2.2.2) ?_
        refine XS.iload X206.here hx rfl (hb hby at_169) rfl ?_
        refine XS.ifNo X206.here hx rfl (hb hby at_171) rfl ((if0 _ _).trans (feq (by decide : ¬ ((1 : Int32) = (0 : Int32)))).1) ?_
        refine XS.aload X206.here hx rfl (hb hby at_174) rfl rfl ?_
        refine XS.iconst X206.here hx rfl (hb hby at_176) ?_
        exact kt
      obtain ⟨cl208, Ar208, qc208, Sz208, Mn208, Hs208, Gs208⟩ := id Vy_206
      have hin208 : ¬ ((0 : Int32) < 0 ∨ cl208.slots.size ≤ ((0 : Int32)).toNatClampNeg) := inb_of Sz208 ⟨by decide, by decide⟩
      obtain ⟨cq209, kq209, qv209a, qv209b, qv209c⟩ := isOf hZ e206 Eb_206
      obtain ⟨_, _, ⟨T209, L209, k209, n209⟩, -, X209, ⟨Lc209, hQ209, l209, y209, z209⟩, st209⟩ := X206.virtualBack hx (y := (⟨"com/example/libbisim/libbisim/CompactInts", "get", "(I)I"⟩ : MethodName)) (z := (⟨"com/example/libbisim/libbisim/CompactInts", "get", "(I)I"⟩ : MethodName)) hown (mvT hZ (hw _ (List.mem_of_getElem? (i := 38) rfl))) (mvT hZ (hw _ (List.mem_of_getElem? (i := 39) rfl))) (notFace_of_selects (args := #[]) (mvT hZ (hw _ (List.mem_of_getElem? (i := 41) rfl)))) (mvT hZ (hw _ (List.mem_of_getElem? (i := 41) rfl))) (mvT hZ (hw _ (List.mem_of_getElem? (i := 40) rfl))) (by decide) (backOf (W := 0) (rmGC l Z a0 hw [] b178 (0 : Int32) y cl208 (nar .char (v0.toUInt32.toUInt16.toUInt32.toInt32)) h206 n0 Z_206 Fb_206 Fc_206 Ar208 hin208 (Hs208.at hin208 rfl)) hZ (hw _ (List.mem_of_getElem? (i := 42) rfl)) (hw _ (List.mem_of_getElem? (i := 8) rfl)) (by decide) (by decide)) qv209a qv209c (g := (mkF m 177 #[.val (.int p0), .val (.int p1), .val (.int p2), .val (.int p3), .val (.int p4), .val (.int p5), .val (.int bd), .val (.int (4 : Int32)), .val (.int v0), .val (.int v1), .val (.int v2), .val (.int v3), .val (.ref a), .val (.ref b178), .val (.int (0 : Int32)), .val (.int (1 : Int32))] [(.int (0 : Int32)), (.ref b178)])) rfl (by rw [hml]; rfl) (Steps.refl _) (argsL := [(.int (0 : Int32))]) (rest := []) (lenOf pd_6 rfl) rfl (by show 2 * 0 + _ ≤ _; exact Nat.le_of_eq rfl) (hb hby at_177) (fun _ _ => ⟨rfl, e206, (by decide : 3 + 0 ≤ _), (by decide : 11 + 0 ≤ _)⟩)
      dsimp only [Pt.U, Pt.locs, Pt.cells, Pt.slots] at X209 l209 y209 z209 st209 hQ209
      subst l209 y209 z209
      obtain ⟨rfl, Nq209, e209⟩ := hQ209
      have N209 := Fr.app N206 Nq209
      rw [own_c16 R0.1 (by omega)] at st209
      have st210 : ∀ target, Steps p.tables e below (T209.setTop (mkF m 206 #[.val (.int p0), .val (.int p1), .val (.int p2), .val (.int p3), .val (.int p4), .val (.int p5), .val (.int bd), .val (.int (4 : Int32)), .val (.int v0), .val (.int v1), .val (.int v2), .val (.int v3), .val (.ref a), .val (.ref b178), .val (.int (0 : Int32)), .val (.int (1 : Int32))] [(.int (1 : Int32)), (.ref b178)])) target → Steps p.tables e below (T209.setTop (mkF m 180 #[.val (.int p0), .val (.int p1), .val (.int p2), .val (.int p3), .val (.int p4), .val (.int p5), .val (.int bd), .val (.int (4 : Int32)), .val (.int v0), .val (.int v1), .val (.int v2), .val (.int v3), .val (.ref a), .val (.ref b178), .val (.int (0 : Int32)), .val (.int (1 : Int32))] [(.int v0)])) target := by
        intro target kt
        refine XS.iload X209.here hx rfl (hb hby at_180) rfl ?_
        show Steps p.tables e below (T209.setTop (mkF m 182 #[.val (.int p0), .val (.int p1), .val (.int p2), .val (.int p3), .val (.int p4), .val (.int p5), .val (.int bd), .val (.int (4 : Int32)), .val (.int v0), .val (.int v1), .val (.int v2), .val (.int v3), .val (.ref a), .val (.ref b178), .val (.int (0 : Int32)), .val (.int (1 : Int32))] [(.int v0), (.int v0)])) _
        refine XS.icmpNo X209.here hx rfl (hb hby at_182) rfl (teq (rfl : v0 = v0)).2 ?_
        refine XS.iconst X209.here hx rfl (hb hby at_185) ?_
        refine XS.goto X209.here hx rfl (pc0 := 186) (pc' := 190) rfl (hb hby at_186) (by decide) (by decide) ?_
        refine XS.istore X209.here hx rfl (hb hby at_190) rfl (l' := #[.val (.int p0), .val (.int p1), .val (.int p2), .val (.int p3), .val (.int p4), .val (.int p5), .val (.int bd), .val (.int (4 : Int32)), .val (.int v0), .val (.int v1), .val (.int v2), .val (.int v3), .val (.ref a), .val (.ref b178), .val (.int (0 : Int32)), .val (.int (1 : Int32))]) rfl ?_
        refine XS.iload X209.here hx rfl (hb hby at_192) rfl ?_
        refine XS.iconst X209.here hx rfl (hb hby at_194) ?_
        refine XS.icmpNo X209.here hx rfl (hb hby at_195) rfl (tlt (by decide : ((1 : Int32) < (4 : Int32)))).2.2.2 ?_
        refine XS.iload X209.here hx rfl (hb hby at_198) rfl ?_
        show Steps p.tables e below (T209.setTop (mkF m 200 #[.val (.int p0), .val (.int p1), .val (.int p2), .val (.int p3), .val (.int p4), .val (.int p5), .val (.int bd), .val (.int (4 : Int32)), .val (.int v0), .val (.int v1), .val (.int v2), .val (.int v3), .val (.ref a), .val (.ref b178), .val (.int (0 : Int32)), .val (.int (1 : Int32))] [(.int (1 : Int32))])) _
        refine XS.ifNo X209.here hx rfl (hb hby at_200) rfl ((if0 _ _).trans (feq (by decide : ¬ ((1 : Int32) = (0 : Int32)))).1) ?_
        refine XS.aload X209.here hx rfl (hb hby at_203) rfl rfl ?_
        refine XS.iconst X209.here hx rfl (hb hby at_205) ?_
        exact kt
      obtain ⟨cl211, Ar211, qc211, Sz211, Mn211, Hs211, Gs211⟩ := id Vy_206
      have hin211 : ¬ ((1 : Int32) < 0 ∨ cl211.slots.size ≤ ((1 : Int32)).toNatClampNeg) := inb_of Sz211 ⟨by decide, by decide⟩
      obtain ⟨cq212, kq212, qv212a, qv212b, qv212c⟩ := isOf hZ e209 Eb_206
      obtain ⟨_, _, ⟨T212, L212, k212, n212⟩, -, X212, ⟨Lc212, hQ212, l212, y212, z212⟩, st212⟩ := X209.virtualBack hx (y := (⟨"com/example/libbisim/libbisim/CompactInts", "get", "(I)I"⟩ : MethodName)) (z := (⟨"com/example/libbisim/libbisim/CompactInts", "get", "(I)I"⟩ : MethodName)) hown (mvT hZ (hw _ (List.mem_of_getElem? (i := 38) rfl))) (mvT hZ (hw _ (List.mem_of_getElem? (i := 39) rfl))) (notFace_of_selects (args := #[]) (mvT hZ (hw _ (List.mem_of_getElem? (i := 41) rfl)))) (mvT hZ (hw _ (List.mem_of_getElem? (i := 41) rfl))) (mvT hZ (hw _ (List.mem_of_getElem? (i := 40) rfl))) (by decide) (backOf (W := 0) (rmGC l Z a0 hw [] b178 (1 : Int32) y cl211 (nar .char (v1.toUInt32.toUInt16.toUInt32.toInt32)) h206 n0 Z_206 Fb_206 Fc_206 Ar211 hin211 (Hs211.at hin211 rfl)) hZ (hw _ (List.mem_of_getElem? (i := 42) rfl)) (hw _ (List.mem_of_getElem? (i := 8) rfl)) (by decide) (by decide)) qv212a qv212c (g := (mkF m 206 #[.val (.int p0), .val (.int p1), .val (.int p2), .val (.int p3), .val (.int p4), .val (.int p5), .val (.int bd), .val (.int (4 : Int32)), .val (.int v0), .val (.int v1), .val (.int v2), .val (.int v3), .val (.ref a), .val (.ref b178), .val (.int (0 : Int32)), .val (.int (1 : Int32))] [(.int (1 : Int32)), (.ref b178)])) rfl (by rw [hml]; rfl) (Steps.refl _) (argsL := [(.int (1 : Int32))]) (rest := []) (lenOf pd_6 rfl) rfl (by show 2 * 0 + _ ≤ _; exact Nat.le_of_eq rfl) (hb hby at_206) (fun _ _ => ⟨rfl, e209, (by decide : 3 + 0 ≤ _), (by decide : 11 + 0 ≤ _)⟩)
      dsimp only [Pt.U, Pt.locs, Pt.cells, Pt.slots] at X212 l212 y212 z212 st212 hQ212
      subst l212 y212 z212
      obtain ⟨rfl, Nq212, e212⟩ := hQ212
      have N212 := Fr.app N209 Nq212
      rw [own_c16 R1.1 (by omega)] at st212
      have st213 : ∀ target, Steps p.tables e below (T212.setTop (mkF m 235 #[.val (.int p0), .val (.int p1), .val (.int p2), .val (.int p3), .val (.int p4), .val (.int p5), .val (.int bd), .val (.int (4 : Int32)), .val (.int v0), .val (.int v1), .val (.int v2), .val (.int v3), .val (.ref a), .val (.ref b178), .val (.int (0 : Int32)), .val (.int (1 : Int32))] [(.int (2 : Int32)), (.ref b178)])) target → Steps p.tables e below (T212.setTop (mkF m 209 #[.val (.int p0), .val (.int p1), .val (.int p2), .val (.int p3), .val (.int p4), .val (.int p5), .val (.int bd), .val (.int (4 : Int32)), .val (.int v0), .val (.int v1), .val (.int v2), .val (.int v3), .val (.ref a), .val (.ref b178), .val (.int (0 : Int32)), .val (.int (1 : Int32))] [(.int v1)])) target := by
        intro target kt
        refine XS.iload X212.here hx rfl (hb hby at_209) rfl ?_
        refine XS.icmpNo X212.here hx rfl (hb hby at_211) rfl (teq (rfl : v1 = v1)).2 ?_
        refine XS.iconst X212.here hx rfl (hb hby at_214) ?_
        refine XS.goto X212.here hx rfl (pc0 := 215) (pc' := 219) rfl (hb hby at_215) (by decide) (by decide) ?_
        refine XS.istore X212.here hx rfl (hb hby at_219) rfl (l' := #[.val (.int p0), .val (.int p1), .val (.int p2), .val (.int p3), .val (.int p4), .val (.int p5), .val (.int bd), .val (.int (4 : Int32)), .val (.int v0), .val (.int v1), .val (.int v2), .val (.int v3), .val (.ref a), .val (.ref b178), .val (.int (0 : Int32)), .val (.int (1 : Int32))]) rfl ?_
        show Steps p.tables e below (T212.setTop (mkF m 221 #[.val (.int p0), .val (.int p1), .val (.int p2), .val (.int p3), .val (.int p4), .val (.int p5), .val (.int bd), .val (.int (4 : Int32)), .val (.int v0), .val (.int v1), .val (.int v2), .val (.int v3), .val (.ref a), .val (.ref b178), .val (.int (0 : Int32)), .val (.int (1 : Int32))] [])) _
        refine XS.iload X212.here hx rfl (hb hby at_221) rfl ?_
        refine XS.iconst X212.here hx rfl (hb hby at_223) ?_
        refine XS.icmpNo X212.here hx rfl (hb hby at_224) rfl (tlt (by decide : ((2 : Int32) < (4 : Int32)))).2.2.2 ?_
        refine XS.iload X212.here hx rfl (hb hby at_227) rfl ?_
        refine XS.ifNo X212.here hx rfl (hb hby at_229) rfl ((if0 _ _).trans (feq (by decide : ¬ ((1 : Int32) = (0 : Int32)))).1) ?_
        refine XS.aload X212.here hx rfl (hb hby at_232) rfl rfl ?_
        refine XS.iconst X212.here hx rfl (hb hby at_234) ?_
        exact kt
      obtain ⟨cl214, Ar214, qc214, Sz214, Mn214, Hs214, Gs214⟩ := id Vy_206
      have hin214 : ¬ ((2 : Int32) < 0 ∨ cl214.slots.size ≤ ((2 : Int32)).toNatClampNeg) := inb_of Sz214 ⟨by decide, by decide⟩
      obtain ⟨cq215, kq215, qv215a, qv215b, qv215c⟩ := isOf hZ e212 Eb_206
      obtain ⟨_, _, ⟨T215, L215, k215, n215⟩, -, X215, ⟨Lc215, hQ215, l215, y215, z215⟩, st215⟩ := X212.virtualBack hx (y := (⟨"com/example/libbisim/libbisim/CompactInts", "get", "(I)I"⟩ : MethodName)) (z := (⟨"com/example/libbisim/libbisim/CompactInts", "get", "(I)I"⟩ : MethodName)) hown (mvT hZ (hw _ (List.mem_of_getElem? (i := 38) rfl))) (mvT hZ (hw _ (List.mem_of_getElem? (i := 39) rfl))) (notFace_of_selects (args := #[]) (mvT hZ (hw _ (List.mem_of_getElem? (i := 41) rfl)))) (mvT hZ (hw _ (List.mem_of_getElem? (i := 41) rfl))) (mvT hZ (hw _ (List.mem_of_getElem? (i := 40) rfl))) (by decide) (backOf (W := 0) (rmGC l Z a0 hw [] b178 (2 : Int32) y cl214 (nar .char (v2.toUInt32.toUInt16.toUInt32.toInt32)) h206 n0 Z_206 Fb_206 Fc_206 Ar214 hin214 (Hs214.at hin214 rfl)) hZ (hw _ (List.mem_of_getElem? (i := 42) rfl)) (hw _ (List.mem_of_getElem? (i := 8) rfl)) (by decide) (by decide)) qv215a qv215c (g := (mkF m 235 #[.val (.int p0), .val (.int p1), .val (.int p2), .val (.int p3), .val (.int p4), .val (.int p5), .val (.int bd), .val (.int (4 : Int32)), .val (.int v0), .val (.int v1), .val (.int v2), .val (.int v3), .val (.ref a), .val (.ref b178), .val (.int (0 : Int32)), .val (.int (1 : Int32))] [(.int (2 : Int32)), (.ref b178)])) rfl (by rw [hml]; rfl) (Steps.refl _) (argsL := [(.int (2 : Int32))]) (rest := []) (lenOf pd_6 rfl) rfl (by show 2 * 0 + _ ≤ _; exact Nat.le_of_eq rfl) (hb hby at_235) (fun _ _ => ⟨rfl, e212, (by decide : 3 + 0 ≤ _), (by decide : 11 + 0 ≤ _)⟩)
      dsimp only [Pt.U, Pt.locs, Pt.cells, Pt.slots] at X215 l215 y215 z215 st215 hQ215
      subst l215 y215 z215
      obtain ⟨rfl, Nq215, e215⟩ := hQ215
      have N215 := Fr.app N212 Nq215
      rw [own_c16 R2.1 (by omega)] at st215
      have st216 : ∀ target, Steps p.tables e below (T215.setTop (mkF m 264 #[.val (.int p0), .val (.int p1), .val (.int p2), .val (.int p3), .val (.int p4), .val (.int p5), .val (.int bd), .val (.int (4 : Int32)), .val (.int v0), .val (.int v1), .val (.int v2), .val (.int v3), .val (.ref a), .val (.ref b178), .val (.int (0 : Int32)), .val (.int (1 : Int32))] [(.int (3 : Int32)), (.ref b178)])) target → Steps p.tables e below (T215.setTop (mkF m 238 #[.val (.int p0), .val (.int p1), .val (.int p2), .val (.int p3), .val (.int p4), .val (.int p5), .val (.int bd), .val (.int (4 : Int32)), .val (.int v0), .val (.int v1), .val (.int v2), .val (.int v3), .val (.ref a), .val (.ref b178), .val (.int (0 : Int32)), .val (.int (1 : Int32))] [(.int v2)])) target := by
        intro target kt
        refine XS.iload X215.here hx rfl (hb hby at_238) rfl ?_
        show Steps p.tables e below (T215.setTop (mkF m 240 #[.val (.int p0), .val (.int p1), .val (.int p2), .val (.int p3), .val (.int p4), .val (.int p5), .val (.int bd), .val (.int (4 : Int32)), .val (.int v0), .val (.int v1), .val (.int v2), .val (.int v3), .val (.ref a), .val (.ref b178), .val (.int (0 : Int32)), .val (.int (1 : Int32))] [(.int v2), (.int v2)])) _
        refine XS.icmpNo X215.here hx rfl (hb hby at_240) rfl (teq (rfl : v2 = v2)).2 ?_
        refine XS.iconst X215.here hx rfl (hb hby at_243) ?_
        refine XS.goto X215.here hx rfl (pc0 := 244) (pc' := 248) rfl (hb hby at_244) (by decide) (by decide) ?_
        refine XS.istore X215.here hx rfl (hb hby at_248) rfl (l' := #[.val (.int p0), .val (.int p1), .val (.int p2), .val (.int p3), .val (.int p4), .val (.int p5), .val (.int bd), .val (.int (4 : Int32)), .val (.int v0), .val (.int v1), .val (.int v2), .val (.int v3), .val (.ref a), .val (.ref b178), .val (.int (0 : Int32)), .val (.int (1 : Int32))]) rfl ?_
        refine XS.iload X215.here hx rfl (hb hby at_250) rfl ?_
        refine XS.iconst X215.here hx rfl (hb hby at_252) ?_
        refine XS.icmpNo X215.here hx rfl (hb hby at_253) rfl (tlt (by decide : ((3 : Int32) < (4 : Int32)))).2.2.2 ?_
        refine XS.iload X215.here hx rfl (hb hby at_256) rfl ?_
        show Steps p.tables e below (T215.setTop (mkF m 258 #[.val (.int p0), .val (.int p1), .val (.int p2), .val (.int p3), .val (.int p4), .val (.int p5), .val (.int bd), .val (.int (4 : Int32)), .val (.int v0), .val (.int v1), .val (.int v2), .val (.int v3), .val (.ref a), .val (.ref b178), .val (.int (0 : Int32)), .val (.int (1 : Int32))] [(.int (1 : Int32))])) _
        refine XS.ifNo X215.here hx rfl (hb hby at_258) rfl ((if0 _ _).trans (feq (by decide : ¬ ((1 : Int32) = (0 : Int32)))).1) ?_
        refine XS.aload X215.here hx rfl (hb hby at_261) rfl rfl ?_
        refine XS.iconst X215.here hx rfl (hb hby at_263) ?_
        exact kt
      obtain ⟨cl217, Ar217, qc217, Sz217, Mn217, Hs217, Gs217⟩ := id Vy_206
      have hin217 : ¬ ((3 : Int32) < 0 ∨ cl217.slots.size ≤ ((3 : Int32)).toNatClampNeg) := inb_of Sz217 ⟨by decide, by decide⟩
      obtain ⟨cq218, kq218, qv218a, qv218b, qv218c⟩ := isOf hZ e215 Eb_206
      obtain ⟨_, _, ⟨T218, L218, k218, n218⟩, -, X218, ⟨Lc218, hQ218, l218, y218, z218⟩, st218⟩ := X215.virtualBack hx (y := (⟨"com/example/libbisim/libbisim/CompactInts", "get", "(I)I"⟩ : MethodName)) (z := (⟨"com/example/libbisim/libbisim/CompactInts", "get", "(I)I"⟩ : MethodName)) hown (mvT hZ (hw _ (List.mem_of_getElem? (i := 38) rfl))) (mvT hZ (hw _ (List.mem_of_getElem? (i := 39) rfl))) (notFace_of_selects (args := #[]) (mvT hZ (hw _ (List.mem_of_getElem? (i := 41) rfl)))) (mvT hZ (hw _ (List.mem_of_getElem? (i := 41) rfl))) (mvT hZ (hw _ (List.mem_of_getElem? (i := 40) rfl))) (by decide) (backOf (W := 0) (rmGC l Z a0 hw [] b178 (3 : Int32) y cl217 (nar .char (v3.toUInt32.toUInt16.toUInt32.toInt32)) h206 n0 Z_206 Fb_206 Fc_206 Ar217 hin217 (Hs217.at hin217 rfl)) hZ (hw _ (List.mem_of_getElem? (i := 42) rfl)) (hw _ (List.mem_of_getElem? (i := 8) rfl)) (by decide) (by decide)) qv218a qv218c (g := (mkF m 264 #[.val (.int p0), .val (.int p1), .val (.int p2), .val (.int p3), .val (.int p4), .val (.int p5), .val (.int bd), .val (.int (4 : Int32)), .val (.int v0), .val (.int v1), .val (.int v2), .val (.int v3), .val (.ref a), .val (.ref b178), .val (.int (0 : Int32)), .val (.int (1 : Int32))] [(.int (3 : Int32)), (.ref b178)])) rfl (by rw [hml]; rfl) (Steps.refl _) (argsL := [(.int (3 : Int32))]) (rest := []) (lenOf pd_6 rfl) rfl (by show 2 * 0 + _ ≤ _; exact Nat.le_of_eq rfl) (hb hby at_264) (fun _ _ => ⟨rfl, e215, (by decide : 3 + 0 ≤ _), (by decide : 11 + 0 ≤ _)⟩)
      dsimp only [Pt.U, Pt.locs, Pt.cells, Pt.slots] at X218 l218 y218 z218 st218 hQ218
      subst l218 y218 z218
      obtain ⟨rfl, Nq218, e218⟩ := hQ218
      have N218 := Fr.app N215 Nq218
      rw [own_c16 R3.1 (by omega)] at st218
      obtain ⟨fs, hr, hrun, hended, hW, hsame⟩ := X218.leave (v := some (.int (1 : Int32))) (fun h => by rw [Bd.returns] at h; cases h)
      refine ⟨_, _, pre0 _ (st1 _ (st2 _ (st3 _ (st4 _ (st5 _ (st6 _ (st7 _ (st8 _ (st9 _ (st10 _ (st11 _ (st12 _ (st13 _ (st14 _ (st15 _ (st177 _ (st178 _ (st199 _ (st200 _ (st201 _ (st202 _ (st203 _ (st204 _ (st205 _ (st206 _ (st207 _ (st209.trans (st210 _ (st212.trans (st213 _ (st215.trans (st216 _ (st218.trans ?_))))))))))))))))))))))))))))))))), hrun, hended, _, _, rfl, ?_, ⟨_, rfl⟩, hW, hsame.mono (by decide) (by decide)⟩
      · refine XS.iload X218.here hx rfl (hb hby at_267) rfl ?_
        refine XS.icmpNo X218.here hx rfl (hb hby at_269) rfl (teq (rfl : v3 = v3)).2 ?_
        refine XS.iconst X218.here hx rfl (hb hby at_272) ?_
        refine XS.goto X218.here hx rfl (pc0 := 273) (pc' := 277) rfl (hb hby at_273) (by decide) (by decide) ?_
        refine XS.istore X218.here hx rfl (hb hby at_277) rfl (l' := #[.val (.int p0), .val (.int p1), .val (.int p2), .val (.int p3), .val (.int p4), .val (.int p5), .val (.int bd), .val (.int (4 : Int32)), .val (.int v0), .val (.int v1), .val (.int v2), .val (.int v3), .val (.ref a), .val (.ref b178), .val (.int (0 : Int32)), .val (.int (1 : Int32))]) rfl ?_
        show Steps p.tables e below (T218.setTop (mkF m 279 #[.val (.int p0), .val (.int p1), .val (.int p2), .val (.int p3), .val (.int p4), .val (.int p5), .val (.int bd), .val (.int (4 : Int32)), .val (.int v0), .val (.int v1), .val (.int v2), .val (.int v3), .val (.ref a), .val (.ref b178), .val (.int (0 : Int32)), .val (.int (1 : Int32))] [])) _
        refine XS.iload X218.here hx rfl (hb hby at_279) rfl ?_
        show Steps p.tables e below (T218.setTop (mkF m 281 #[.val (.int p0), .val (.int p1), .val (.int p2), .val (.int p3), .val (.int p4), .val (.int p5), .val (.int bd), .val (.int (4 : Int32)), .val (.int v0), .val (.int v1), .val (.int v2), .val (.int v3), .val (.ref a), .val (.ref b178), .val (.int (0 : Int32)), .val (.int (1 : Int32))] [(.int (1 : Int32))])) _
        exact retN X218 hx (t := .boolean) Bd.returns (by simp) (hb hby at_281) hr
      · show Q_rm0 Z p0 p1 p2 p3 p4 p5 h0 n0 _ T218.heap _
        rw [e218]
        exact ⟨rfl, N218⟩
    · have hle : bd.toInt ≤ 2147483647 := by have := Int32.toInt_lt bd; omega
      have st219 : ∀ target, Steps p.tables e below (T178.setTop (mkF m 177 #[.val (.int p0), .val (.int p1), .val (.int p2), .val (.int p3), .val (.int p4), .val (.int p5), .val (.int bd), .val (.int (4 : Int32)), .val (.int v0), .val (.int v1), .val (.int v2), .val (.int v3), .val (.ref a), .val (.ref b178), .val (.int (1 : Int32)), .val (.int (1 : Int32))] [(.int (0 : Int32)), (.ref b178)])) target → Steps p.tables e below (T178.setTop (mkF m 102 #[.val (.int p0), .val (.int p1), .val (.int p2), .val (.int p3), .val (.int p4), .val (.int p5), .val (.int bd), .val (.int (4 : Int32)), .val (.int v0), .val (.int v1), .val (.int v2), .val (.int v3), .val (.ref a), .unset, .unset, .unset] [(.ref b178)])) target := by
        intro target kt
        refine XS.astore X178.here hx rfl (hb hby at_102) rfl rfl (l' := #[.val (.int p0), .val (.int p1), .val (.int p2), .val (.int p3), .val (.int p4), .val (.int p5), .val (.int bd), .val (.int (4 : Int32)), .val (.int v0), .val (.int v1), .val (.int v2), .val (.int v3), .val (.ref a), .val (.ref b178), .unset, .unset]) rfl ?_
        refine XS.iload X178.here hx rfl (hb hby at_104) rfl ?_
        refine X178.ldcInt hx hown (mvT hZ (hw _ (List.mem_of_getElem? (i := 25) rfl))) (g := (mkF m 106 #[.val (.int p0), .val (.int p1), .val (.int p2), .val (.int p3), .val (.int p4), .val (.int p5), .val (.int bd), .val (.int (4 : Int32)), .val (.int v0), .val (.int v1), .val (.int v2), .val (.int v3), .val (.ref a), .val (.ref b178), .unset, .unset] [(.int bd)])) rfl (hb hby at_106) _ ?_
        refine XS.icmpNo X178.here hx rfl (hb hby at_108) rfl (tlt q1).2.2.2 ?_
        refine XS.iload X178.here hx rfl (hb hby at_111) rfl ?_
        refine XS.iconst X178.here hx rfl (hb hby at_113) ?_
        refine XS.icmpNo X178.here hx rfl (hb hby at_114) rfl (teq (rfl : (4 : Int32) = (4 : Int32))).2 ?_
        show Steps p.tables e below (T178.setTop (mkF m 117 #[.val (.int p0), .val (.int p1), .val (.int p2), .val (.int p3), .val (.int p4), .val (.int p5), .val (.int bd), .val (.int (4 : Int32)), .val (.int v0), .val (.int v1), .val (.int v2), .val (.int v3), .val (.ref a), .val (.ref b178), .unset, .unset] [])) _
        refine XS.iconst X178.here hx rfl (hb hby at_117) ?_
        refine XS.goto X178.here hx rfl (pc0 := 118) (pc' := 122) rfl (hb hby at_118) (by decide) (by decide) ?_
        refine XS.istore X178.here hx rfl (hb hby at_122) rfl (l' := #[.val (.int p0), .val (.int p1), .val (.int p2), .val (.int p3), .val (.int p4), .val (.int p5), .val (.int bd), .val (.int (4 : Int32)), .val (.int v0), .val (.int v1), .val (.int v2), .val (.int v3), .val (.ref a), .val (.ref b178), .val (.int (1 : Int32)), .unset]) rfl ?_
        refine XS.iload X178.here hx rfl (hb hby at_124) rfl ?_
        refine XS.ifYes X178.here hx rfl (pc0 := 126) (pc' := 161) rfl (hb hby at_126) rfl ((if0 _ _).trans (feq (by decide : ¬ ((1 : Int32) = (0 : Int32)))).2) (by decide) (by decide) ?_
        refine XS.iconst X178.here hx rfl (hb hby at_161) ?_
        refine XS.istore X178.here hx rfl (hb hby at_162) rfl (l' := #[.val (.int p0), .val (.int p1), .val (.int p2), .val (.int p3), .val (.int p4), .val (.int p5), .val (.int bd), .val (.int (4 : Int32)), .val (.int v0), .val (.int v1), .val (.int v2), .val (.int v3), .val (.ref a), .val (.ref b178), .val (.int (1 : Int32)), .val (.int (1 : Int32))]) rfl ?_
        refine XS.iload X178.here hx rfl (hb hby at_164) rfl ?_
        show Steps p.tables e below (T178.setTop (mkF m 166 #[.val (.int p0), .val (.int p1), .val (.int p2), .val (.int p3), .val (.int p4), .val (.int p5), .val (.int bd), .val (.int (4 : Int32)), .val (.int v0), .val (.int v1), .val (.int v2), .val (.int v3), .val (.ref a), .val (.ref b178), .val (.int (1 : Int32)), .val (.int (1 : Int32))] [(.int (4 : Int32))])) _
        refine XS.ifNo X178.here hx rfl (hb hby at_166) rfl ((if0 _ _).trans (tlt (by decide : ((0 : Int32) < (4 : Int32)))).2.2.2) ?_
        refine XS.iload X178.here hx rfl (hb hby at_169) rfl ?_
        refine XS.ifNo X178.here hx rfl (hb hby at_171) rfl ((if0 _ _).trans (feq (by decide : ¬ ((1 : Int32) = (0 : Int32)))).1) ?_
        refine XS.aload X178.here hx rfl (hb hby at_174) rfl rfl ?_
        refine XS.iconst X178.here hx rfl (hb hby at_176) ?_
        exact kt
      obtain ⟨cl220, Ar220, qc220, Sz220, Mn220, Hs220, Gs220⟩ := id V_a_178
      have hin220 : ¬ ((0 : Int32) < 0 ∨ cl220.slots.size ≤ ((0 : Int32)).toNatClampNeg) := inb_of Sz220 ⟨by decide, by decide⟩
      obtain ⟨cq221, kq221, qv221a, qv221b, qv221c⟩ := isOf hZ rfl Eb
      obtain ⟨_, _, ⟨T221, L221, k221, n221⟩, -, X221, ⟨Lc221, hQ221, l221, y221, z221⟩, st221⟩ := X178.virtualBack hx (y := (⟨"com/example/libbisim/libbisim/CompactInts", "get", "(I)I"⟩ : MethodName)) (z := (⟨"com/example/libbisim/libbisim/CompactInts", "get", "(I)I"⟩ : MethodName)) hown (mvT hZ (hw _ (List.mem_of_getElem? (i := 38) rfl))) (mvT hZ (hw _ (List.mem_of_getElem? (i := 39) rfl))) (notFace_of_selects (args := #[]) (mvT hZ (hw _ (List.mem_of_getElem? (i := 41) rfl)))) (mvT hZ (hw _ (List.mem_of_getElem? (i := 41) rfl))) (mvT hZ (hw _ (List.mem_of_getElem? (i := 40) rfl))) (by decide) (backOf (W := 0) (rmGI l Z a0 hw [] b178 (0 : Int32) a cl220 v0 T178.heap n0 Z_178 Fb Fc Fi Ar220 hin220 (Hs220.at hin220 rfl)) hZ (hw _ (List.mem_of_getElem? (i := 42) rfl)) (hw _ (List.mem_of_getElem? (i := 8) rfl)) (by decide) (by decide)) qv221a qv221c (g := (mkF m 177 #[.val (.int p0), .val (.int p1), .val (.int p2), .val (.int p3), .val (.int p4), .val (.int p5), .val (.int bd), .val (.int (4 : Int32)), .val (.int v0), .val (.int v1), .val (.int v2), .val (.int v3), .val (.ref a), .val (.ref b178), .val (.int (1 : Int32)), .val (.int (1 : Int32))] [(.int (0 : Int32)), (.ref b178)])) rfl (by rw [hml]; rfl) (Steps.refl _) (argsL := [(.int (0 : Int32))]) (rest := []) (lenOf pd_6 rfl) rfl (by show 2 * 0 + _ ≤ _; exact Nat.le_of_eq rfl) (hb hby at_177) (fun _ _ => ⟨rfl, rfl, (by decide : 3 + 0 ≤ _), (by decide : 11 + 0 ≤ _)⟩)
      dsimp only [Pt.U, Pt.locs, Pt.cells, Pt.slots] at X221 l221 y221 z221 st221 hQ221
      subst l221 y221 z221
      obtain ⟨rfl, Nq221, e221⟩ := hQ221
      have N221 := Fr.app N178 Nq221
      have st222 : ∀ target, Steps p.tables e below (T221.setTop (mkF m 206 #[.val (.int p0), .val (.int p1), .val (.int p2), .val (.int p3), .val (.int p4), .val (.int p5), .val (.int bd), .val (.int (4 : Int32)), .val (.int v0), .val (.int v1), .val (.int v2), .val (.int v3), .val (.ref a), .val (.ref b178), .val (.int (1 : Int32)), .val (.int (1 : Int32))] [(.int (1 : Int32)), (.ref b178)])) target → Steps p.tables e below (T221.setTop (mkF m 180 #[.val (.int p0), .val (.int p1), .val (.int p2), .val (.int p3), .val (.int p4), .val (.int p5), .val (.int bd), .val (.int (4 : Int32)), .val (.int v0), .val (.int v1), .val (.int v2), .val (.int v3), .val (.ref a), .val (.ref b178), .val (.int (1 : Int32)), .val (.int (1 : Int32))] [(.int v0)])) target := by
        intro target kt
        refine XS.iload X221.here hx rfl (hb hby at_180) rfl ?_
        refine XS.icmpNo X221.here hx rfl (hb hby at_182) rfl (teq (rfl : v0 = v0)).2 ?_
        refine XS.iconst X221.here hx rfl (hb hby at_185) ?_
        show Steps p.tables e below (T221.setTop (mkF m 186 #[.val (.int p0), .val (.int p1), .val (.int p2), .val (.int p3), .val (.int p4), .val (.int p5), .val (.int bd), .val (.int (4 : Int32)), .val (.int v0), .val (.int v1), .val (.int v2), .val (.int v3), .val (.ref a), .val (.ref b178), .val (.int (1 : Int32)), .val (.int (1 : Int32))] [(.int (1 : Int32))])) _
        refine XS.goto X221.here hx rfl (pc0 := 186) (pc' := 190) rfl (hb hby at_186) (by decide) (by decide) ?_
        refine XS.istore X221.here hx rfl (hb hby at_190) rfl (l' := #[.val (.int p0), .val (.int p1), .val (.int p2), .val (.int p3), .val (.int p4), .val (.int p5), .val (.int bd), .val (.int (4 : Int32)), .val (.int v0), .val (.int v1), .val (.int v2), .val (.int v3), .val (.ref a), .val (.ref b178), .val (.int (1 : Int32)), .val (.int (1 : Int32))]) rfl ?_
        refine XS.iload X221.here hx rfl (hb hby at_192) rfl ?_
        refine XS.iconst X221.here hx rfl (hb hby at_194) ?_
        refine XS.icmpNo X221.here hx rfl (hb hby at_195) rfl (tlt (by decide : ((1 : Int32) < (4 : Int32)))).2.2.2 ?_
        refine XS.iload X221.here hx rfl (hb hby at_198) rfl ?_
        refine XS.ifNo X221.here hx rfl (hb hby at_200) rfl ((if0 _ _).trans (feq (by decide : ¬ ((1 : Int32) = (0 : Int32)))).1) ?_
        refine XS.aload X221.here hx rfl (hb hby at_203) rfl rfl ?_
        show Steps p.tables e below (T221.setTop (mkF m 205 #[.val (.int p0), .val (.int p1), .val (.int p2), .val (.int p3), .val (.int p4), .val (.int p5), .val (.int bd), .val (.int (4 : Int32)), .val (.int v0), .val (.int v1), .val (.int v2), .val (.int v3), .val (.ref a), .val (.ref b178), .val (.int (1 : Int32)), .val (.int (1 : Int32))] [(.ref b178)])) _
        refine XS.iconst X221.here hx rfl (hb hby at_205) ?_
        exact kt
      obtain ⟨cl223, Ar223, qc223, Sz223, Mn223, Hs223, Gs223⟩ := id V_a_178
      have hin223 : ¬ ((1 : Int32) < 0 ∨ cl223.slots.size ≤ ((1 : Int32)).toNatClampNeg) := inb_of Sz223 ⟨by decide, by decide⟩
      obtain ⟨cq224, kq224, qv224a, qv224b, qv224c⟩ := isOf hZ e221 Eb
      obtain ⟨_, _, ⟨T224, L224, k224, n224⟩, -, X224, ⟨Lc224, hQ224, l224, y224, z224⟩, st224⟩ := X221.virtualBack hx (y := (⟨"com/example/libbisim/libbisim/CompactInts", "get", "(I)I"⟩ : MethodName)) (z := (⟨"com/example/libbisim/libbisim/CompactInts", "get", "(I)I"⟩ : MethodName)) hown (mvT hZ (hw _ (List.mem_of_getElem? (i := 38) rfl))) (mvT hZ (hw _ (List.mem_of_getElem? (i := 39) rfl))) (notFace_of_selects (args := #[]) (mvT hZ (hw _ (List.mem_of_getElem? (i := 41) rfl)))) (mvT hZ (hw _ (List.mem_of_getElem? (i := 41) rfl))) (mvT hZ (hw _ (List.mem_of_getElem? (i := 40) rfl))) (by decide) (backOf (W := 0) (rmGI l Z a0 hw [] b178 (1 : Int32) a cl223 v1 T178.heap n0 Z_178 Fb Fc Fi Ar223 hin223 (Hs223.at hin223 rfl)) hZ (hw _ (List.mem_of_getElem? (i := 42) rfl)) (hw _ (List.mem_of_getElem? (i := 8) rfl)) (by decide) (by decide)) qv224a qv224c (g := (mkF m 206 #[.val (.int p0), .val (.int p1), .val (.int p2), .val (.int p3), .val (.int p4), .val (.int p5), .val (.int bd), .val (.int (4 : Int32)), .val (.int v0), .val (.int v1), .val (.int v2), .val (.int v3), .val (.ref a), .val (.ref b178), .val (.int (1 : Int32)), .val (.int (1 : Int32))] [(.int (1 : Int32)), (.ref b178)])) rfl (by rw [hml]; rfl) (Steps.refl _) (argsL := [(.int (1 : Int32))]) (rest := []) (lenOf pd_6 rfl) rfl (by show 2 * 0 + _ ≤ _; exact Nat.le_of_eq rfl) (hb hby at_206) (fun _ _ => ⟨rfl, e221, (by decide : 3 + 0 ≤ _), (by decide : 11 + 0 ≤ _)⟩)
      dsimp only [Pt.U, Pt.locs, Pt.cells, Pt.slots] at X224 l224 y224 z224 st224 hQ224
      subst l224 y224 z224
      obtain ⟨rfl, Nq224, e224⟩ := hQ224
      have N224 := Fr.app N221 Nq224
      have st225 : ∀ target, Steps p.tables e below (T224.setTop (mkF m 235 #[.val (.int p0), .val (.int p1), .val (.int p2), .val (.int p3), .val (.int p4), .val (.int p5), .val (.int bd), .val (.int (4 : Int32)), .val (.int v0), .val (.int v1), .val (.int v2), .val (.int v3), .val (.ref a), .val (.ref b178), .val (.int (1 : Int32)), .val (.int (1 : Int32))] [(.int (2 : Int32)), (.ref b178)])) target → Steps p.tables e below (T224.setTop (mkF m 209 #[.val (.int p0), .val (.int p1), .val (.int p2), .val (.int p3), .val (.int p4), .val (.int p5), .val (.int bd), .val (.int (4 : Int32)), .val (.int v0), .val (.int v1), .val (.int v2), .val (.int v3), .val (.ref a), .val (.ref b178), .val (.int (1 : Int32)), .val (.int (1 : Int32))] [(.int v1)])) target := by
        intro target kt
        refine XS.iload X224.here hx rfl (hb hby at_209) rfl ?_
        refine XS.icmpNo X224.here hx rfl (hb hby at_211) rfl (teq (rfl : v1 = v1)).2 ?_
        refine XS.iconst X224.here hx rfl (hb hby at_214) ?_
        refine XS.goto X224.here hx rfl (pc0 := 215) (pc' := 219) rfl (hb hby at_215) (by decide) (by decide) ?_
        refine XS.istore X224.here hx rfl (hb hby at_219) rfl (l' := #[.val (.int p0), .val (.int p1), .val (.int p2), .val (.int p3), .val (.int p4), .val (.int p5), .val (.int bd), .val (.int (4 : Int32)), .val (.int v0), .val (.int v1), .val (.int v2), .val (.int v3), .val (.ref a), .val (.ref b178), .val (.int (1 : Int32)), .val (.int (1 : Int32))]) rfl ?_
        refine XS.iload X224.here hx rfl (hb hby at_221) rfl ?_
        refine XS.iconst X224.here hx rfl (hb hby at_223) ?_
        show Steps p.tables e below (T224.setTop (mkF m 224 #[.val (.int p0), .val (.int p1), .val (.int p2), .val (.int p3), .val (.int p4), .val (.int p5), .val (.int bd), .val (.int (4 : Int32)), .val (.int v0), .val (.int v1), .val (.int v2), .val (.int v3), .val (.ref a), .val (.ref b178), .val (.int (1 : Int32)), .val (.int (1 : Int32))] [(.int (2 : Int32)), (.int (4 : Int32))])) _
        refine XS.icmpNo X224.here hx rfl (hb hby at_224) rfl (tlt (by decide : ((2 : Int32) < (4 : Int32)))).2.2.2 ?_
        refine XS.iload X224.here hx rfl (hb hby at_227) rfl ?_
        refine XS.ifNo X224.here hx rfl (hb hby at_229) rfl ((if0 _ _).trans (feq (by decide : ¬ ((1 : Int32) = (0 : Int32)))).1) ?_
        refine XS.aload X224.here hx rfl (hb hby at_232) rfl rfl ?_
        refine XS.iconst X224.here hx rfl (hb hby at_234) ?_
        exact kt
      obtain ⟨cl226, Ar226, qc226, Sz226, Mn226, Hs226, Gs226⟩ := id V_a_178
      have hin226 : ¬ ((2 : Int32) < 0 ∨ cl226.slots.size ≤ ((2 : Int32)).toNatClampNeg) := inb_of Sz226 ⟨by decide, by decide⟩
      obtain ⟨cq227, kq227, qv227a, qv227b, qv227c⟩ := isOf hZ e224 Eb
      obtain ⟨_, _, ⟨T227, L227, k227, n227⟩, -, X227, ⟨Lc227, hQ227, l227, y227, z227⟩, st227⟩ := X224.virtualBack hx (y := (⟨"com/example/libbisim/libbisim/CompactInts", "get", "(I)I"⟩ : MethodName)) (z := (⟨"com/example/libbisim/libbisim/CompactInts", "get", "(I)I"⟩ : MethodName)) hown (mvT hZ (hw _ (List.mem_of_getElem? (i := 38) rfl))) (mvT hZ (hw _ (List.mem_of_getElem? (i := 39) rfl))) (notFace_of_selects (args := #[]) (mvT hZ (hw _ (List.mem_of_getElem? (i := 41) rfl)))) (mvT hZ (hw _ (List.mem_of_getElem? (i := 41) rfl))) (mvT hZ (hw _ (List.mem_of_getElem? (i := 40) rfl))) (by decide) (backOf (W := 0) (rmGI l Z a0 hw [] b178 (2 : Int32) a cl226 v2 T178.heap n0 Z_178 Fb Fc Fi Ar226 hin226 (Hs226.at hin226 rfl)) hZ (hw _ (List.mem_of_getElem? (i := 42) rfl)) (hw _ (List.mem_of_getElem? (i := 8) rfl)) (by decide) (by decide)) qv227a qv227c (g := (mkF m 235 #[.val (.int p0), .val (.int p1), .val (.int p2), .val (.int p3), .val (.int p4), .val (.int p5), .val (.int bd), .val (.int (4 : Int32)), .val (.int v0), .val (.int v1), .val (.int v2), .val (.int v3), .val (.ref a), .val (.ref b178), .val (.int (1 : Int32)), .val (.int (1 : Int32))] [(.int (2 : Int32)), (.ref b178)])) rfl (by rw [hml]; rfl) (Steps.refl _) (argsL := [(.int (2 : Int32))]) (rest := []) (lenOf pd_6 rfl) rfl (by show 2 * 0 + _ ≤ _; exact Nat.le_of_eq rfl) (hb hby at_235) (fun _ _ => ⟨rfl, e224, (by decide : 3 + 0 ≤ _), (by decide : 11 + 0 ≤ _)⟩)
      dsimp only [Pt.U, Pt.locs, Pt.cells, Pt.slots] at X227 l227 y227 z227 st227 hQ227
      subst l227 y227 z227
      obtain ⟨rfl, Nq227, e227⟩ := hQ227
      have N227 := Fr.app N224 Nq227
      have st228 : ∀ target, Steps p.tables e below (T227.setTop (mkF m 264 #[.val (.int p0), .val (.int p1), .val (.int p2), .val (.int p3), .val (.int p4), .val (.int p5), .val (.int bd), .val (.int (4 : Int32)), .val (.int v0), .val (.int v1), .val (.int v2), .val (.int v3), .val (.ref a), .val (.ref b178), .val (.int (1 : Int32)), .val (.int (1 : Int32))] [(.int (3 : Int32)), (.ref b178)])) target → Steps p.tables e below (T227.setTop (mkF m 238 #[.val (.int p0), .val (.int p1), .val (.int p2), .val (.int p3), .val (.int p4), .val (.int p5), .val (.int bd), .val (.int (4 : Int32)), .val (.int v0), .val (.int v1), .val (.int v2), .val (.int v3), .val (.ref a), .val (.ref b178), .val (.int (1 : Int32)), .val (.int (1 : Int32))] [(.int v2)])) target := by
        intro target kt
        refine XS.iload X227.here hx rfl (hb hby at_238) rfl ?_
        refine XS.icmpNo X227.here hx rfl (hb hby at_240) rfl (teq (rfl : v2 = v2)).2 ?_
        refine XS.iconst X227.here hx rfl (hb hby at_243) ?_
        show Steps p.tables e below (T227.setTop (mkF m 244 #[.val (.int p0), .val (.int p1), .val (.int p2), .val (.int p3), .val (.int p4), .val (.int p5), .val (.int bd), .val (.int (4 : Int32)), .val (.int v0), .val (.int v1), .val (.int v2), .val (.int v3), .val (.ref a), .val (.ref b178), .val (.int (1 : Int32)), .val (.int (1 : Int32))] [(.int (1 : Int32))])) _
        refine XS.goto X227.here hx rfl (pc0 := 244) (pc' := 248) rfl (hb hby at_244) (by decide) (by decide) ?_
        refine XS.istore X227.here hx rfl (hb hby at_248) rfl (l' := #[.val (.int p0), .val (.int p1), .val (.int p2), .val (.int p3), .val (.int p4), .val (.int p5), .val (.int bd), .val (.int (4 : Int32)), .val (.int v0), .val (.int v1), .val (.int v2), .val (.int v3), .val (.ref a), .val (.ref b178), .val (.int (1 : Int32)), .val (.int (1 : Int32))]) rfl ?_
        refine XS.iload X227.here hx rfl (hb hby at_250) rfl ?_
        refine XS.iconst X227.here hx rfl (hb hby at_252) ?_
        refine XS.icmpNo X227.here hx rfl (hb hby at_253) rfl (tlt (by decide : ((3 : Int32) < (4 : Int32)))).2.2.2 ?_
        refine XS.iload X227.here hx rfl (hb hby at_256) rfl ?_
        refine XS.ifNo X227.here hx rfl (hb hby at_258) rfl ((if0 _ _).trans (feq (by decide : ¬ ((1 : Int32) = (0 : Int32)))).1) ?_
        refine XS.aload X227.here hx rfl (hb hby at_261) rfl rfl ?_
        show Steps p.tables e below (T227.setTop (mkF m 263 #[.val (.int p0), .val (.int p1), .val (.int p2), .val (.int p3), .val (.int p4), .val (.int p5), .val (.int bd), .val (.int (4 : Int32)), .val (.int v0), .val (.int v1), .val (.int v2), .val (.int v3), .val (.ref a), .val (.ref b178), .val (.int (1 : Int32)), .val (.int (1 : Int32))] [(.ref b178)])) _
        refine XS.iconst X227.here hx rfl (hb hby at_263) ?_
        exact kt
      obtain ⟨cl229, Ar229, qc229, Sz229, Mn229, Hs229, Gs229⟩ := id V_a_178
      have hin229 : ¬ ((3 : Int32) < 0 ∨ cl229.slots.size ≤ ((3 : Int32)).toNatClampNeg) := inb_of Sz229 ⟨by decide, by decide⟩
      obtain ⟨cq230, kq230, qv230a, qv230b, qv230c⟩ := isOf hZ e227 Eb
      obtain ⟨_, _, ⟨T230, L230, k230, n230⟩, -, X230, ⟨Lc230, hQ230, l230, y230, z230⟩, st230⟩ := X227.virtualBack hx (y := (⟨"com/example/libbisim/libbisim/CompactInts", "get", "(I)I"⟩ : MethodName)) (z := (⟨"com/example/libbisim/libbisim/CompactInts", "get", "(I)I"⟩ : MethodName)) hown (mvT hZ (hw _ (List.mem_of_getElem? (i := 38) rfl))) (mvT hZ (hw _ (List.mem_of_getElem? (i := 39) rfl))) (notFace_of_selects (args := #[]) (mvT hZ (hw _ (List.mem_of_getElem? (i := 41) rfl)))) (mvT hZ (hw _ (List.mem_of_getElem? (i := 41) rfl))) (mvT hZ (hw _ (List.mem_of_getElem? (i := 40) rfl))) (by decide) (backOf (W := 0) (rmGI l Z a0 hw [] b178 (3 : Int32) a cl229 v3 T178.heap n0 Z_178 Fb Fc Fi Ar229 hin229 (Hs229.at hin229 rfl)) hZ (hw _ (List.mem_of_getElem? (i := 42) rfl)) (hw _ (List.mem_of_getElem? (i := 8) rfl)) (by decide) (by decide)) qv230a qv230c (g := (mkF m 264 #[.val (.int p0), .val (.int p1), .val (.int p2), .val (.int p3), .val (.int p4), .val (.int p5), .val (.int bd), .val (.int (4 : Int32)), .val (.int v0), .val (.int v1), .val (.int v2), .val (.int v3), .val (.ref a), .val (.ref b178), .val (.int (1 : Int32)), .val (.int (1 : Int32))] [(.int (3 : Int32)), (.ref b178)])) rfl (by rw [hml]; rfl) (Steps.refl _) (argsL := [(.int (3 : Int32))]) (rest := []) (lenOf pd_6 rfl) rfl (by show 2 * 0 + _ ≤ _; exact Nat.le_of_eq rfl) (hb hby at_264) (fun _ _ => ⟨rfl, e227, (by decide : 3 + 0 ≤ _), (by decide : 11 + 0 ≤ _)⟩)
      dsimp only [Pt.U, Pt.locs, Pt.cells, Pt.slots] at X230 l230 y230 z230 st230 hQ230
      subst l230 y230 z230
      obtain ⟨rfl, Nq230, e230⟩ := hQ230
      have N230 := Fr.app N227 Nq230
      obtain ⟨fs, hr, hrun, hended, hW, hsame⟩ := X230.leave (v := some (.int (1 : Int32))) (fun h => by rw [Bd.returns] at h; cases h)
      refine ⟨_, _, pre0 _ (st1 _ (st2 _ (st3 _ (st4 _ (st5 _ (st6 _ (st7 _ (st8 _ (st9 _ (st10 _ (st11 _ (st12 _ (st13 _ (st14 _ (st15 _ (st177 _ (st178 _ (st219 _ (st221.trans (st222 _ (st224.trans (st225 _ (st227.trans (st228 _ (st230.trans ?_))))))))))))))))))))))))), hrun, hended, _, _, rfl, ?_, ⟨_, rfl⟩, hW, hsame.mono (by decide) (by decide)⟩
      · refine XS.iload X230.here hx rfl (hb hby at_267) rfl ?_
        refine XS.icmpNo X230.here hx rfl (hb hby at_269) rfl (teq (rfl : v3 = v3)).2 ?_
        refine XS.iconst X230.here hx rfl (hb hby at_272) ?_
        refine XS.goto X230.here hx rfl (pc0 := 273) (pc' := 277) rfl (hb hby at_273) (by decide) (by decide) ?_
        refine XS.istore X230.here hx rfl (hb hby at_277) rfl (l' := #[.val (.int p0), .val (.int p1), .val (.int p2), .val (.int p3), .val (.int p4), .val (.int p5), .val (.int bd), .val (.int (4 : Int32)), .val (.int v0), .val (.int v1), .val (.int v2), .val (.int v3), .val (.ref a), .val (.ref b178), .val (.int (1 : Int32)), .val (.int (1 : Int32))]) rfl ?_
        refine XS.iload X230.here hx rfl (hb hby at_279) rfl ?_
        show Steps p.tables e below (T230.setTop (mkF m 281 #[.val (.int p0), .val (.int p1), .val (.int p2), .val (.int p3), .val (.int p4), .val (.int p5), .val (.int bd), .val (.int (4 : Int32)), .val (.int v0), .val (.int v1), .val (.int v2), .val (.int v3), .val (.ref a), .val (.ref b178), .val (.int (1 : Int32)), .val (.int (1 : Int32))] [(.int (1 : Int32))])) _
        exact retN X230 hx (t := .boolean) Bd.returns (by simp) (hb hby at_281) hr
      · show Q_rm0 Z p0 p1 p2 p3 p4 p5 h0 n0 _ T230.heap _
        rw [e230]
        exact ⟨rfl, N230⟩
set_option maxRecDepth 65536 in
set_option maxHeartbeats 40000000 in
theorem comes_1 {Post : Tables → Env → Array Value → State → Outcome → State → Prop} (hpost : ∀ tb e args s v u, (limb_1_1.after args s (.returned v) u = true ∧ limb_1_2.after args s (.returned v) u = true ∧ True) → FrameEnd s (.returned v) u (Jvm.fieldLocs frame_1_writes args s ++ Jvm.arrayLocs frame_1_arrays args s ++ Jvm.staticLocs frame_1_statics s) 16 128 → Post tb e args s (.returned v) u) :
    ArmFor flags0 classFile x code maxLocals ret World_1 tables_1 room_1 Calls_1 rest_1 Pre_1 Post := by
  intro l hfl _ _ p e ha hc hk s m args below hf hA hF happ hP
  obtain ⟨hcalls, hrest, hpre⟩ := hP
  obtain ⟨-, -, -, hnamed, -, -, -, hat⟩ := (Spec.applies_iff hf).mp happ
  obtain ⟨hg, hn⟩ := and_e (Cond.before_iff.mp (show (Jvm.Cond.and given_1 narrow_1).before args s = true from hpre))
  obtain ⟨gg1, gg2⟩ := and_e hg
  obtain ⟨gg3, gg4⟩ := and_e gg2
  obtain ⟨gg5, gg6⟩ := and_e gg4
  obtain ⟨gg7, gg8⟩ := and_e gg6
  obtain ⟨gg9, gg10⟩ := and_e gg8
  obtain ⟨gg11, gg12⟩ := and_e gg10
  obtain ⟨w0, w1, w2, w3, w4, w5, rfl⟩ : ∃ w0 w1 w2 w3 w4 w5 : Value, args = #[w0, w1, w2, w3, w4, w5] := by
    have hs : args.size = 6 := by simpa [Cond.value, given_1] using gg1
    obtain ⟨L⟩ := args
    match L, hs with
    | [w0, w1, w2, w3, w4, w5], _ => exact ⟨w0, w1, w2, w3, w4, w5, rfl⟩
  have hw := fun d (hd : d ∈ tables_1) => atoms_spec (ws := Jvm.Cond.code x code maxLocals ret :: tables_1) hat d (List.mem_cons_of_mem _ hd)
  have hfit : Fit s := fun {y c} hc i hi => by
    obtain ⟨ha, rfl⟩ := Array.getElem?_eq_some_iff.mp hc
    have q := List.all_eq_true.mp ((Array.all_eq_true_iff_forall_mem.mp hF) _ (Array.getElem_mem ha)) i (List.mem_range.mpr hi)
    simpa [Array.getElem?_eq_getElem hi] using q
  obtain ⟨i0, ei0⟩ := is_v gg3
  obtain rfl : w0 = (.int i0) := Option.some.inj ei0
  obtain ⟨i1, ei1⟩ := is_v gg5
  obtain rfl : w1 = (.int i1) := Option.some.inj ei1
  obtain ⟨i2, ei2⟩ := is_v gg7
  obtain rfl : w2 = (.int i2) := Option.some.inj ei2
  obtain ⟨i3, ei3⟩ := is_v gg9
  obtain rfl : w3 = (.int i3) := Option.some.inj ei3
  obtain ⟨i4, ei4⟩ := is_v gg11
  obtain rfl : w4 = (.int i4) := Option.some.inj ei4
  obtain ⟨i5, ei5⟩ := is_v gg12
  obtain rfl : w5 = (.int i5) := Option.some.inj ei5
  obtain ⟨n, o, h1, h2, h3, _, L, rfl, ⟨rfl, N⟩, hq⟩ := rm0 l s _ hw tables_1 i0 i1 i2 i3 i4 i5 s.heap s.heap.size (Nat.le_refl _)  p e ha hc hk s m _ below hf ((Spec.applies_iff_loose hf).mp happ).1 ⟨rfl, State.Warmed39.refl s, rfl⟩ trivial
  refine ⟨n, _, h1, h2, h3, hpost _ _ _ _ _ _ ⟨Cond.after_iff.mpr rfl, Cond.after_iff.mpr (eq_i res_at (Term.int_eval (1)) rfl), trivial⟩ ⟨hq.1, hq.2.1, (hq.2.2.sift fun y hy => Or.inr (N y hy)).mono (by decide) (by decide)⟩⟩
theorem main_1_1 : Claimed_1_1 := comes_1 fun _ _ _ _ _ _ h hF => ⟨h.1, hF⟩
theorem main_1_2 : Claimed_1_2 := comes_1 fun _ _ _ _ _ _ h hF => ⟨h.2.1, hF⟩
end Jvm.Pilot.@@N@@
namespace Jvm.Pilot.@@N@@
open Jvm Jvm.ClassFile Sem Op Lib Jvm.Free Jvm.Stand Jvm.Pilot.@@N@@.Jvm.D
/-! MADE BY PROGRAM (witnessworld.py) out of the Statement's table words and the real class files: 18 classes; the members and pool entries that the words name. The judged class is class 1, her method 1. -/
namespace start1
open Jvm.ClassFile
def u (s : String) : CpInfo := .utf8 (stringToUtf16 s)
/-- a pool by its gaps: so many unusable entries, then the entry; so many at the end -/
def gap : Nat → List CpInfo → List CpInfo
  | 0, r => r
  | n + 1, r => .unusable :: gap n r
def poolList (es : List (Nat × CpInfo)) (last : Nat) : List CpInfo := es.foldr (fun e r => gap e.1 (e.2 :: r)) (gap last [])
def pool (es : List (Nat × CpInfo)) (last : Nat) : Array CpInfo := ⟨poolList es last⟩
def fileOf (pool : Array CpInfo) (this : Nat) (attrs : Array Attribute := #[]) (ms : Array MethodInfo := #[]) (fl : Nat := 33) (sup : Nat := 0) (ifs : Array Nat := #[]) (fds : Array FieldInfo := #[]) : ClassFile where
  minorVersion := 0
  majorVersion := 65
  constantPool := pool
  accessFlags := fl
  thisClass := this
  superClass := sup
  interfaces := ifs
  fields := fds
  methods := ms
  attributes := attrs
def plain (name : String) (sup : Option ClassId) : Class where
  name := name
  kind := .ordinary
  loader := none
  accessFlags := 33
  super := sup
  interfaces := #[]
  cf := none
  fields := #[]
  methods := #[]
  instanceTypes := #[]
  staticTypes := #[]
  resolved := #[]
  callSites := []
  init := .initialized
  statics := none
  mirror := none

def pool0 : Array CpInfo := pool [(5, u "<init>"), (0, u "()V"), (1, .class_ 10), (1, u "java/lang/Object")] 113

def k0c0 : Code := { maxStack := 0, maxLocals := 1, code := object_method_1_code, exceptionTable := #[], attributes := #[] }
def k0m0 : Method := { name := "<init>", desc := "()V", sig := { parameters := [], returnType := none }, accessFlags := 1, code := some k0c0 }
/-- java/lang/Object -/
def k0 : Class := { plain "java/lang/Object" none with
  accessFlags := 33
  interfaces := #[]
  cf := some (fileOf pool0 8 #[] #[{ accessFlags := 1, nameIndex := 5, descriptorIndex := 6, attributes := #[] }] 33 0 #[] #[])
  fields := #[]
  methods := #[k0m0]
  instanceTypes := #[]
  staticTypes := #[]
  resolved := Array.replicate 124 none
  statics := none }

def pool1 : Array CpInfo := pool [(2, .class_ 4), (1, u "java/lang/Object"), (0, u "<init>"), (0, u "()V"), (0, .integer 2147483647), (0, .methodref 9 10), (0, .class_ 11), (0, .nameAndType 12 13), (0, u "java/lang/Math"), (0, u "max"), (0, u "(II)I"), (0, .methodref 15 16), (0, .class_ 17), (0, .nameAndType 18 19), (0, u "com/example/libbisim/libbisim/CompactInts"), (0, u "of"), (0, u "([III)Lcom/example/libbisim/libbisim/CompactInts;"), (0, .integer 65536), (0, .methodref 15 22), (0, .nameAndType 23 24), (0, u "get"), (0, u "(I)I"), (0, .class_ 26), (0, u "com/example/libbisim/libbisim/CompactIntsOfPinLaw"), (2, u "law"), (0, u "(IIIIII)Z")] 5

def k1m0 : Method := { name := "<init>", desc := "()V", sig := { parameters := [], returnType := none }, accessFlags := 1, code := none }
def k1c1 : Code := { maxStack := 4, maxLocals := 16, code := code, exceptionTable := #[], attributes := #[] }
def k1m1 : Method := { name := "law", desc := "(IIIIII)Z", sig := { parameters := [.int, .int, .int, .int, .int, .int], returnType := some .boolean }, accessFlags := 9, code := some k1c1 }
/-- com/example/libbisim/libbisim/CompactIntsOfPinLaw -/
def k1 : Class := { plain "com/example/libbisim/libbisim/CompactIntsOfPinLaw" (some 0) with
  accessFlags := 49
  interfaces := #[]
  cf := some (fileOf pool1 25 #[] #[{ accessFlags := 1, nameIndex := 5, descriptorIndex := 6, attributes := #[] }, { accessFlags := 9, nameIndex := 29, descriptorIndex := 30, attributes := #[] }] 49 2 #[] #[])
  fields := #[]
  methods := #[k1m0, k1m1]
  instanceTypes := #[]
  staticTypes := #[]
  resolved := Array.replicate 36 none
  statics := none }

def pool2 : Array CpInfo := pool [(1, .class_ 2), (0, u "java/lang/Math"), (1, .class_ 6), (1, u "java/lang/Object"), (0, u "<init>"), (0, u "()V"), (89, .class_ 100), (1, u "java/lang/Math$RandomNumberGeneratorHolder"), (71, u "negativeZeroFloatBits"), (0, u "J"), (2, u "negativeZeroDoubleBits"), (21, u "max"), (2, u "min"), (43, u "$assertionsDisabled"), (0, u "Z"), (88, u "(II)I"), (2, u "twoToTheDoubleScaleDown"), (0, u "D"), (4, u "twoToTheDoubleScaleUp"), (9, u "E"), (3, u "PI"), (2, u "TAU"), (2, u "DEGREES_TO_RADIANS"), (0, u "RADIANS_TO_DEGREES")] 94

def k2m0 : Method := { name := "<init>", desc := "()V", sig := { parameters := [], returnType := none }, accessFlags := 2, code := none }
def k2c1 : Code := { maxStack := 2, maxLocals := 2, code := jdk_29_method_65_code, exceptionTable := #[], attributes := #[] }
def k2m1 : Method := { name := "max", desc := "(II)I", sig := { parameters := [.int, .int], returnType := some .int }, accessFlags := 9, code := some k2c1 }
def k2c2 : Code := { maxStack := 2, maxLocals := 2, code := jdk_29_method_69_code, exceptionTable := #[], attributes := #[] }
def k2m2 : Method := { name := "min", desc := "(II)I", sig := { parameters := [.int, .int], returnType := some .int }, accessFlags := 9, code := some k2c2 }
/-- java/lang/Math -/
def k2 : Class := { plain "java/lang/Math" (some 0) with
  accessFlags := 49
  interfaces := #[]
  cf := some (fileOf pool2 1 #[.nestMembers #[98]] #[{ accessFlags := 2, nameIndex := 7, descriptorIndex := 8, attributes := #[] }, { accessFlags := 9, nameIndex := 198, descriptorIndex := 335, attributes := #[] }, { accessFlags := 9, nameIndex := 201, descriptorIndex := 335, attributes := #[] }] 49 4 #[] #[{ accessFlags := 25, nameIndex := 354, descriptorIndex := 339, attributes := #[] }, { accessFlags := 25, nameIndex := 358, descriptorIndex := 339, attributes := #[] }, { accessFlags := 25, nameIndex := 361, descriptorIndex := 339, attributes := #[] }, { accessFlags := 26, nameIndex := 364, descriptorIndex := 339, attributes := #[] }, { accessFlags := 26, nameIndex := 365, descriptorIndex := 339, attributes := #[] }, { accessFlags := 26, nameIndex := 172, descriptorIndex := 173, attributes := #[] }, { accessFlags := 26, nameIndex := 176, descriptorIndex := 173, attributes := #[] }, { accessFlags := 8, nameIndex := 344, descriptorIndex := 339, attributes := #[] }, { accessFlags := 8, nameIndex := 338, descriptorIndex := 339, attributes := #[] }, { accessFlags := 4120, nameIndex := 245, descriptorIndex := 246, attributes := #[] }])
  fields := #[{ name := "E", type := .double, accessFlags := 25, slot := 0, constantValue := 0 }, { name := "PI", type := .double, accessFlags := 25, slot := 1, constantValue := 0 }, { name := "TAU", type := .double, accessFlags := 25, slot := 2, constantValue := 0 }, { name := "DEGREES_TO_RADIANS", type := .double, accessFlags := 26, slot := 3, constantValue := 0 }, { name := "RADIANS_TO_DEGREES", type := .double, accessFlags := 26, slot := 4, constantValue := 0 }, { name := "negativeZeroFloatBits", type := .long, accessFlags := 26, slot := 5, constantValue := 0 }, { name := "negativeZeroDoubleBits", type := .long, accessFlags := 26, slot := 6, constantValue := 0 }, { name := "twoToTheDoubleScaleUp", type := .double, accessFlags := 8, slot := 7, constantValue := 0 }, { name := "twoToTheDoubleScaleDown", type := .double, accessFlags := 8, slot := 8, constantValue := 0 }, { name := "$assertionsDisabled", type := .boolean, accessFlags := 4120, slot := 9, constantValue := 0 }]
  methods := #[k2m0, k2m1, k2m2]
  instanceTypes := #[]
  staticTypes := #[.double, .double, .double, .double, .double, .long, .long, .double, .double, .boolean]
  resolved := Array.replicate 460 none
  statics := none }

def pool3 : Array CpInfo := pool [(1, .class_ 2), (0, u "java/lang/Byte"), (2, .methodref 6 7), (0, .class_ 8), (0, .nameAndType 9 10), (0, u "java/lang/Object"), (0, u "<init>"), (0, u "()V"), (0, .fieldref 12 13), (0, .class_ 14), (0, .nameAndType 15 16), (0, u "com/example/libbisim/libbisim/CompactInts"), (0, u "bytes"), (0, u "[B"), (0, .fieldref 12 18), (0, .nameAndType 19 20), (0, u "chars"), (0, u "[C"), (0, .fieldref 12 22), (0, .nameAndType 23 24), (0, u "ints"), (0, u "[I"), (0, .methodref 12 26), (0, .nameAndType 9 27), (0, u "([B[C[I)V"), (0, .integer 65536), (0, .methodref 30 31), (0, .class_ 32), (0, .nameAndType 33 34), (0, u "java/util/Arrays"), (0, u "copyOf"), (0, u "([II)[I"), (0, .methodref 1 36), (0, .nameAndType 37 38), (0, u "toUnsignedInt"), (0, u "(B)I"), (0, u "BYTE_BOUND"), (0, u "I"), (2, u "CHAR_BOUND"), (2, u "of"), (0, u "([III)Lcom/example/libbisim/libbisim/CompactInts;"), (4, u "get"), (0, u "(I)I")] 2

def k3c0 : Code := { maxStack := 2, maxLocals := 4, code := prog_7_method_1_code, exceptionTable := #[], attributes := #[] }
def k3m0 : Method := { name := "<init>", desc := "([B[C[I)V", sig := { parameters := [(.array .byte), (.array .char), (.array .int)], returnType := none }, accessFlags := 2, code := some k3c0 }
def k3c1 : Code := { maxStack := 6, maxLocals := 6, code := prog_7_method_2_code, exceptionTable := #[], attributes := #[] }
def k3m1 : Method := { name := "of", desc := "([III)Lcom/example/libbisim/libbisim/CompactInts;", sig := { parameters := [(.array .int), .int, .int], returnType := some (.object "com/example/libbisim/libbisim/CompactInts") }, accessFlags := 8, code := some k3c1 }
def k3c2 : Code := { maxStack := 2, maxLocals := 3, code := prog_7_method_3_code, exceptionTable := #[], attributes := #[] }
def k3m2 : Method := { name := "get", desc := "(I)I", sig := { parameters := [.int], returnType := some .int }, accessFlags := 0, code := some k3c2 }
/-- com/example/libbisim/libbisim/CompactInts -/
def k3 : Class := { plain "com/example/libbisim/libbisim/CompactInts" (some 0) with
  accessFlags := 48
  interfaces := #[]
  cf := some (fileOf pool3 12 #[] #[{ accessFlags := 2, nameIndex := 9, descriptorIndex := 27, attributes := #[] }, { accessFlags := 8, nameIndex := 46, descriptorIndex := 47, attributes := #[] }, { accessFlags := 0, nameIndex := 52, descriptorIndex := 53, attributes := #[] }] 48 6 #[] #[{ accessFlags := 26, nameIndex := 39, descriptorIndex := 40, attributes := #[] }, { accessFlags := 26, nameIndex := 43, descriptorIndex := 40, attributes := #[] }, { accessFlags := 18, nameIndex := 15, descriptorIndex := 16, attributes := #[] }, { accessFlags := 18, nameIndex := 19, descriptorIndex := 20, attributes := #[] }, { accessFlags := 18, nameIndex := 23, descriptorIndex := 24, attributes := #[] }])
  fields := #[{ name := "BYTE_BOUND", type := .int, accessFlags := 26, slot := 0, constantValue := 0 }, { name := "CHAR_BOUND", type := .int, accessFlags := 26, slot := 1, constantValue := 0 }, { name := "bytes", type := (.array .byte), accessFlags := 18, slot := 0, constantValue := 0 }, { name := "chars", type := (.array .char), accessFlags := 18, slot := 1, constantValue := 0 }, { name := "ints", type := (.array .int), accessFlags := 18, slot := 2, constantValue := 0 }]
  methods := #[k3m0, k3m1, k3m2]
  instanceTypes := #[(.array .byte), (.array .char), (.array .int)]
  staticTypes := #[.int, .int]
  resolved := Array.replicate 56 none
  statics := none }

def pool4 : Array CpInfo := pool [(2, .class_ 4), (1, u "java/lang/Object"), (0, u "<init>"), (0, u "()V"), (7, .class_ 16), (1, u "java/util/Arrays"), (57, .class_ 76), (1, u "java/util/Arrays$NaturalOrder"), (36, .class_ 115), (1, u "java/util/Arrays$LegacyMergeSort"), (1, u "Z"), (32, .methodref 151 152), (0, .class_ 153), (0, .nameAndType 154 155), (0, u "java/lang/System"), (0, u "arraycopy"), (0, u "(Ljava/lang/Object;ILjava/lang/Object;II)V"), (146, u "copyOf"), (1, .methodref 305 306), (0, .class_ 307), (0, .nameAndType 308 309), (0, u "java/lang/Math"), (0, u "min"), (0, u "(II)I"), (65, .class_ 376), (0, u "java/util/Arrays$ArrayList"), (68, u "$assertionsDisabled"), (269, u "MIN_ARRAY_SORT_GRAN"), (0, u "I"), (2, u "INSERTIONSORT_THRESHOLD"), (151, u "([II)[I"), (103, .class_ 976), (0, u "java/util/Arrays$ArrayItr")] 52

def k4m0 : Method := { name := "<init>", desc := "()V", sig := { parameters := [], returnType := none }, accessFlags := 2, code := none }
def k4c1 : Code := { maxStack := 6, maxLocals := 3, code := jdk_65_method_123_code, exceptionTable := #[], attributes := #[] }
def k4m1 : Method := { name := "copyOf", desc := "([II)[I", sig := { parameters := [(.array .int), .int], returnType := some (.array .int) }, accessFlags := 9, code := some k4c1 }
/-- java/util/Arrays -/
def k4 : Class := { plain "java/util/Arrays" (some 0) with
  accessFlags := 49
  interfaces := #[]
  cf := some (fileOf pool4 14 #[.nestMembers #[975, 375, 113, 74]] #[{ accessFlags := 2, nameIndex := 5, descriptorIndex := 6, attributes := #[] }, { accessFlags := 9, nameIndex := 302, descriptorIndex := 871, attributes := #[] }] 49 2 #[] #[{ accessFlags := 26, nameIndex := 715, descriptorIndex := 716, attributes := #[] }, { accessFlags := 26, nameIndex := 719, descriptorIndex := 716, attributes := #[] }, { accessFlags := 4120, nameIndex := 445, descriptorIndex := 117, attributes := #[] }])
  fields := #[{ name := "MIN_ARRAY_SORT_GRAN", type := .int, accessFlags := 26, slot := 0, constantValue := 0 }, { name := "INSERTIONSORT_THRESHOLD", type := .int, accessFlags := 26, slot := 1, constantValue := 0 }, { name := "$assertionsDisabled", type := .boolean, accessFlags := 4120, slot := 2, constantValue := 0 }]
  methods := #[k4m0, k4m1]
  instanceTypes := #[]
  staticTypes := #[.int, .int, .boolean]
  resolved := Array.replicate 1029 none
  statics := none }

def pool5 : Array CpInfo := pool [(2, .class_ 4), (1, u "java/lang/Object"), (0, u "<init>"), (0, u "()V"), (1, .class_ 10), (1, u "java/lang/System"), (0, u "allowSecurityManager"), (0, u "I"), (16, u "cons"), (0, u "Ljava/io/Console;"), (77, .class_ 110), (1, u "java/lang/System$CallersHolder"), (43, u "initialErrStream"), (0, u "Ljava/io/PrintStream;"), (19, u "security"), (0, u "Ljava/lang/SecurityManager;"), (31, .class_ 209), (0, u "java/lang/System$1"), (7, u "props"), (0, u "Ljava/util/Properties;"), (2, u "lineSeparator"), (0, u "Ljava/lang/String;"), (96, .class_ 321), (1, u "java/lang/System$LoggerFinder"), (5, .class_ 328), (0, u "java/lang/System$Logger"), (67, u "err"), (2, u "out"), (91, u "notSupportedJnuEncoding"), (15, u "in"), (17, u "initialIn"), (0, u "Ljava/io/InputStream;"), (35, u "bootLayer"), (0, u "Ljava/lang/ModuleLayer;"), (99, .class_ 664), (0, u "java/lang/System$2"), (9, u "NEVER"), (2, u "MAYBE"), (49, u "arraycopy"), (0, u "(Ljava/lang/Object;ILjava/lang/Object;II)V"), (72, .class_ 802), (0, u "java/lang/System$Logger$Level")] 31

def k5m0 : Method := { name := "<init>", desc := "()V", sig := { parameters := [], returnType := none }, accessFlags := 2, code := none }
def k5m1 : Method := { name := "arraycopy", desc := "(Ljava/lang/Object;ILjava/lang/Object;II)V", sig := { parameters := [(.object "java/lang/Object"), .int, (.object "java/lang/Object"), .int, .int], returnType := none }, accessFlags := 265, code := none }
/-- java/lang/System -/
def k5 : Class := { plain "java/lang/System" (some 0) with
  accessFlags := 49
  interfaces := #[]
  cf := some (fileOf pool5 8 #[.nestMembers #[319, 327, 801, 108, 663, 208]] #[{ accessFlags := 2, nameIndex := 5, descriptorIndex := 6, attributes := #[] }, { accessFlags := 265, nameIndex := 727, descriptorIndex := 728, attributes := #[] }] 49 2 #[] #[{ accessFlags := 25, nameIndex := 507, descriptorIndex := 526, attributes := #[] }, { accessFlags := 25, nameIndex := 399, descriptorIndex := 155, attributes := #[] }, { accessFlags := 25, nameIndex := 396, descriptorIndex := 155, attributes := #[] }, { accessFlags := 10, nameIndex := 525, descriptorIndex := 526, attributes := #[] }, { accessFlags := 26, nameIndex := 674, descriptorIndex := 12, attributes := #[] }, { accessFlags := 26, nameIndex := 677, descriptorIndex := 12, attributes := #[] }, { accessFlags := 10, nameIndex := 11, descriptorIndex := 12, attributes := #[] }, { accessFlags := 74, nameIndex := 175, descriptorIndex := 176, attributes := #[] }, { accessFlags := 10, nameIndex := 491, descriptorIndex := 222, attributes := #[] }, { accessFlags := 74, nameIndex := 29, descriptorIndex := 30, attributes := #[] }, { accessFlags := 74, nameIndex := 154, descriptorIndex := 155, attributes := #[] }, { accessFlags := 10, nameIndex := 217, descriptorIndex := 218, attributes := #[] }, { accessFlags := 10, nameIndex := 221, descriptorIndex := 222, attributes := #[] }, { accessFlags := 8, nameIndex := 562, descriptorIndex := 563, attributes := #[] }])
  fields := #[{ name := "in", type := (.object "java/io/InputStream"), accessFlags := 25, slot := 0, constantValue := 0 }, { name := "out", type := (.object "java/io/PrintStream"), accessFlags := 25, slot := 1, constantValue := 0 }, { name := "err", type := (.object "java/io/PrintStream"), accessFlags := 25, slot := 2, constantValue := 0 }, { name := "initialIn", type := (.object "java/io/InputStream"), accessFlags := 10, slot := 3, constantValue := 0 }, { name := "NEVER", type := .int, accessFlags := 26, slot := 4, constantValue := 0 }, { name := "MAYBE", type := .int, accessFlags := 26, slot := 5, constantValue := 0 }, { name := "allowSecurityManager", type := .int, accessFlags := 10, slot := 6, constantValue := 0 }, { name := "security", type := (.object "java/lang/SecurityManager"), accessFlags := 74, slot := 7, constantValue := 0 }, { name := "notSupportedJnuEncoding", type := (.object "java/lang/String"), accessFlags := 10, slot := 8, constantValue := 0 }, { name := "cons", type := (.object "java/io/Console"), accessFlags := 74, slot := 9, constantValue := 0 }, { name := "initialErrStream", type := (.object "java/io/PrintStream"), accessFlags := 74, slot := 10, constantValue := 0 }, { name := "props", type := (.object "java/util/Properties"), accessFlags := 10, slot := 11, constantValue := 0 }, { name := "lineSeparator", type := (.object "java/lang/String"), accessFlags := 10, slot := 12, constantValue := 0 }, { name := "bootLayer", type := (.object "java/lang/ModuleLayer"), accessFlags := 8, slot := 13, constantValue := 0 }]
  methods := #[k5m0, k5m1]
  instanceTypes := #[]
  staticTypes := #[(.object "java/io/InputStream"), (.object "java/io/PrintStream"), (.object "java/io/PrintStream"), (.object "java/io/InputStream"), .int, .int, .int, (.object "java/lang/SecurityManager"), (.object "java/lang/String"), (.object "java/io/Console"), (.object "java/io/PrintStream"), (.object "java/util/Properties"), (.object "java/lang/String"), (.object "java/lang/ModuleLayer")]
  resolved := Array.replicate 834 none
  statics := none }

def pool6 : Array CpInfo := pool [(1, .class_ 2), (0, u "java/io/Serializable"), (0, .class_ 4), (0, u "java/lang/Object")] 2

/-- java/io/Serializable -/
def k6 : Class := { plain "java/io/Serializable" (some 0) with
  accessFlags := 1537
  interfaces := #[]
  cf := some (fileOf pool6 1 #[] #[] 1537 3 #[] #[])
  fields := #[]
  methods := #[]
  instanceTypes := #[]
  staticTypes := #[]
  resolved := Array.replicate 7 none
  statics := none }

def pool7 : Array CpInfo := pool [(2, .class_ 4), (1, u "java/lang/Object"), (0, u "<init>"), (0, u "()V"), (1, .class_ 10), (1, u "java/lang/Number"), (2, .class_ 14), (0, u "java/io/Serializable"), (0, u "serialVersionUID"), (0, u "J")] 20

def k7m0 : Method := { name := "<init>", desc := "()V", sig := { parameters := [], returnType := none }, accessFlags := 1, code := none }
/-- java/lang/Number -/
def k7 : Class := { plain "java/lang/Number" (some 0) with
  accessFlags := 1057
  interfaces := #[6]
  cf := some (fileOf pool7 8 #[] #[{ accessFlags := 1, nameIndex := 5, descriptorIndex := 6, attributes := #[] }] 1057 2 #[13] #[{ accessFlags := 26, nameIndex := 15, descriptorIndex := 16, attributes := #[] }])
  fields := #[{ name := "serialVersionUID", type := .long, accessFlags := 26, slot := 0, constantValue := 0 }]
  methods := #[k7m0]
  instanceTypes := #[]
  staticTypes := #[.long]
  resolved := Array.replicate 37 none
  statics := none }

def pool8 : Array CpInfo := pool [(1, .class_ 2), (0, u "java/lang/Comparable"), (0, .class_ 4), (0, u "java/lang/Object")] 7

/-- java/lang/Comparable -/
def k8 : Class := { plain "java/lang/Comparable" (some 0) with
  accessFlags := 1537
  interfaces := #[]
  cf := some (fileOf pool8 1 #[] #[] 1537 3 #[] #[])
  fields := #[]
  methods := #[]
  instanceTypes := #[]
  staticTypes := #[]
  resolved := Array.replicate 12 none
  statics := none }

def pool9 : Array CpInfo := pool [(1, .class_ 2), (0, u "java/lang/constant/Constable"), (0, .class_ 4), (0, u "java/lang/Object")] 6

/-- java/lang/constant/Constable -/
def k9 : Class := { plain "java/lang/constant/Constable" (some 0) with
  accessFlags := 1537
  interfaces := #[]
  cf := some (fileOf pool9 1 #[] #[] 1537 3 #[] #[])
  fields := #[]
  methods := #[]
  instanceTypes := #[]
  staticTypes := #[]
  resolved := Array.replicate 11 none
  statics := none }

def pool10 : Array CpInfo := pool [(1, .class_ 2), (0, u "java/lang/Byte"), (41, .class_ 46), (1, u "java/lang/Byte$ByteCache"), (51, .class_ 99), (0, u "java/lang/Number"), (2, u "value"), (0, u "B"), (3, u "(B)I"), (10, u "toUnsignedInt"), (16, u "TYPE"), (0, u "Ljava/lang/Class;"), (0, .class_ 138), (0, u "java/lang/Comparable"), (0, .class_ 140), (0, u "java/lang/constant/Constable"), (0, u "MIN_VALUE"), (2, u "MAX_VALUE"), (3, u "SIZE"), (0, u "I"), (1, u "BYTES"), (1, u "serialVersionUID"), (0, u "J")] 58

def k10c0 : Code := { maxStack := 2, maxLocals := 1, code := jdk_2056_method_24_code, exceptionTable := #[], attributes := #[] }
def k10m0 : Method := { name := "toUnsignedInt", desc := "(B)I", sig := { parameters := [.byte], returnType := some .int }, accessFlags := 9, code := some k10c0 }
/-- java/lang/Byte -/
def k10 : Class := { plain "java/lang/Byte" (some 7) with
  accessFlags := 49
  interfaces := #[8, 9]
  cf := some (fileOf pool10 1 #[.nestMembers #[44]] #[{ accessFlags := 9, nameIndex := 118, descriptorIndex := 107, attributes := #[] }] 49 98 #[137, 139] #[{ accessFlags := 25, nameIndex := 141, descriptorIndex := 103, attributes := #[] }, { accessFlags := 25, nameIndex := 144, descriptorIndex := 103, attributes := #[] }, { accessFlags := 25, nameIndex := 135, descriptorIndex := 136, attributes := #[] }, { accessFlags := 18, nameIndex := 102, descriptorIndex := 103, attributes := #[] }, { accessFlags := 25, nameIndex := 148, descriptorIndex := 149, attributes := #[] }, { accessFlags := 25, nameIndex := 151, descriptorIndex := 149, attributes := #[] }, { accessFlags := 26, nameIndex := 153, descriptorIndex := 154, attributes := #[] }])
  fields := #[{ name := "MIN_VALUE", type := .byte, accessFlags := 25, slot := 0, constantValue := 0 }, { name := "MAX_VALUE", type := .byte, accessFlags := 25, slot := 1, constantValue := 0 }, { name := "TYPE", type := (.object "java/lang/Class"), accessFlags := 25, slot := 2, constantValue := 0 }, { name := "value", type := .byte, accessFlags := 18, slot := 0, constantValue := 0 }, { name := "SIZE", type := .int, accessFlags := 25, slot := 3, constantValue := 0 }, { name := "BYTES", type := .int, accessFlags := 25, slot := 4, constantValue := 0 }, { name := "serialVersionUID", type := .long, accessFlags := 26, slot := 5, constantValue := 0 }]
  methods := #[k10m0]
  instanceTypes := #[.byte]
  staticTypes := #[.byte, .byte, (.object "java/lang/Class"), .int, .int, .long]
  resolved := Array.replicate 213 none
  statics := none }

def pool11 : Array CpInfo := pool [(1, u "java/lang/Cloneable"), (0, .class_ 1), (0, u "java/lang/Object"), (0, .class_ 3)] 3

/-- java/lang/Cloneable -/
def k11 : Class := { plain "java/lang/Cloneable" (some 0) with
  accessFlags := 1537
  interfaces := #[]
  cf := some (fileOf pool11 2 #[] #[] 1537 4 #[] #[])
  fields := #[]
  methods := #[]
  instanceTypes := #[]
  staticTypes := #[]
  resolved := Array.replicate 8 none
  statics := none }

/-- the primitive byte -/
def k12 : Class := { plain "byte" none with kind := .primitive 'B', accessFlags := 0x411 }
/-- [B -/
def k13 : Class := { plain "[B" (some 0) with kind := .array 12 .byte, interfaces := #[11, 6], accessFlags := 1041 }

/-- the primitive char -/
def k14 : Class := { plain "char" none with kind := .primitive 'C', accessFlags := 0x411 }
/-- [C -/
def k15 : Class := { plain "[C" (some 0) with kind := .array 14 .char, interfaces := #[11, 6], accessFlags := 1041 }

/-- the primitive int -/
def k16 : Class := { plain "int" none with kind := .primitive 'I', accessFlags := 0x411 }
/-- [I -/
def k17 : Class := { plain "[I" (some 0) with kind := .array 16 .int, interfaces := #[11, 6], accessFlags := 1041 }

def heap : Heap := #[]
def classes : Array Class := #[k0, k1, k2, k3, k4, k5, k6, k7, k8, k9, k10, k11, k12, k13, k14, k15, k16, k17]
def interned : List (Array UInt16 × Addr) := []
def slotsUsed : Nat := 0
def theMethod : MethodId := ⟨1, 1⟩
def args0 : Array Value := #[.int 5, .int 5, .int 5, .int 5, .int 5, .int 5]
def aboutOver (below : List Frame) : State where
  vm := { classes := classes, interned := interned.toArray }
  heap := heap
  slotsUsed := slotsUsed
  threads := #[{ frames := .invoking theMethod args0 :: below }]
def below0 : List Frame := [.native { method := ⟨0, 0⟩, args := #[] }]
def about1 : State := aboutOver below0
def p0 : Program := .bare "" "" ""
def e0 : Env := launch0.env 0 0 0
theorem w_frames : about1.frames = Frame.invoking theMethod args0 :: below0 := rfl
set_option maxRecDepth 65536 in
theorem w_args : argsFit about1.vm theMethod args0 = true := by decide +kernel
set_option maxRecDepth 65536 in
theorem w_heap : heapFits about1 = true := by decide +kernel
set_option maxRecDepth 65536 in
theorem w_runnable : about1.curStatus? = some .runnable := by decide +kernel
set_option maxRecDepth 65536 in
theorem w_alone : about1.alone = true := by decide +kernel
set_option maxRecDepth 65536 in
theorem w_named : about1.methodNamed? x = some theMethod := by decide +kernel
set_option maxRecDepth 65536 in
theorem w_hears : about1.hears theMethod below0 = true := by decide +kernel
set_option maxRecDepth 65536 in
theorem w_ripe : about1.ripe theMethod args0 below0 = true := by decide +kernel
theorem w_running : about1.status = .running := rfl
set_option maxRecDepth 65536 in
theorem w_room : about1.hasRoom e0.platform room_1 = true :=
  launch0.hasRoom_least _ room_1 (by decide +kernel) (by decide +kernel) (by decide +kernel) (by decide +kernel) (by decide +kernel) (by decide +kernel)
theorem allAtoms_all (ts : List Jvm.Cond) (a : Array Jvm.Value) (st : Jvm.State) : (allAtoms ts).before a st = ts.all (fun c => c.before a st) := by
  induction ts with
  | nil => rfl
  | cons c t ih =>
    show (Jvm.Cond.and c (allAtoms t)).before a st = _
    rw [Jvm.Cond.before_and, ih, List.all_cons]
def words1 : List Jvm.Cond := Jvm.Cond.code x code maxLocals ret :: tables_1
/-- a 'code' word, met by the world's own term for the bytes: nothing is compared byte by byte -/
theorem code_word {y : MethodName} {bytes : ByteArray} {mx : Nat} {rt : Option FieldType} {a : Array Value} {s : State} {m : MethodId} {meth : Method} {c : Code} (h1 : s.methodNamed? y = some m) (h2 : s.vm.method? m = some meth) (h3 : meth.code = some c) (h4 : c.code = bytes)
    (h5 : (c.maxLocals == mx && c.exceptionTable.isEmpty && decide (c.maxStack ≤ mostOperands) && decide (meth.sig.returnType = rt) && !meth.locks && decide (parseMethodDescriptor y.desc = some meth.sig)) = true) : (Jvm.Cond.code y bytes mx rt).before a s = true := by
  simp only [Bool.and_eq_true, beq_iff_eq, Bool.not_eq_true', decide_eq_true_eq] at h5
  obtain ⟨⟨⟨⟨⟨g1, g2⟩, g3⟩, g4⟩, g5⟩, g6⟩ := h5
  simp [Cond.before, Cond.holds, Cond.value, h1, h2, h3, h4, g1, g2, g3, g4, g5, g6]
def isCode : Jvm.Cond → Bool
  | .code _ _ _ _ => true
  | _ => false
theorem all_split {L : List Jvm.Cond} {P : Jvm.Cond → Bool} (h1 : L.all (fun c => isCode c || P c) = true) (h2 : ∀ c ∈ L.filter isCode, P c = true) : L.all P = true := by
  refine List.all_eq_true.mpr fun c hc => ?_
  have h := List.all_eq_true.mp h1 c hc
  rcases Bool.eq_false_or_eq_true (isCode c) with hi | hi
  · exact h2 c (List.mem_filter.mpr ⟨hc, hi⟩)
  · simpa [hi] using h
set_option maxRecDepth 65536 in
theorem w_c0 : (Jvm.Cond.code x code maxLocals ret).before args0 about1 = true := code_word (m := ⟨1, 1⟩) (meth := k1m1) (c := k1c1) (by decide +kernel) rfl rfl rfl (by decide +kernel)
set_option maxRecDepth 65536 in
theorem w_c1 : (Jvm.Cond.code ({ cls := "java/lang/Math", name := "max", desc := "(II)I" } : Jvm.MethodName) jdk_29_method_65_code (2 : Nat) (Option.some Jvm.ClassFile.FieldType.int)).before args0 about1 = true := code_word (m := ⟨2, 1⟩) (meth := k2m1) (c := k2c1) (by decide +kernel) rfl rfl rfl (by decide +kernel)
set_option maxRecDepth 65536 in
theorem w_c2 : (Jvm.Cond.code ({ cls := "com/example/libbisim/libbisim/CompactInts", name := "of", desc := "([III)Lcom/example/libbisim/libbisim/CompactInts;" } : Jvm.MethodName) prog_7_method_2_code (6 : Nat) (Option.some (Jvm.ClassFile.FieldType.object "com/example/libbisim/libbisim/CompactInts"))).before args0 about1 = true := code_word (m := ⟨3, 1⟩) (meth := k3m1) (c := k3c1) (by decide +kernel) rfl rfl rfl (by decide +kernel)
set_option maxRecDepth 65536 in
theorem w_c3 : (Jvm.Cond.code ({ cls := "com/example/libbisim/libbisim/CompactInts", name := "<init>", desc := "([B[C[I)V" } : Jvm.MethodName) prog_7_method_1_code (4 : Nat) (Option.none : Option Jvm.ClassFile.FieldType)).before args0 about1 = true := code_word (m := ⟨3, 0⟩) (meth := k3m0) (c := k3c0) (by decide +kernel) rfl rfl rfl (by decide +kernel)
set_option maxRecDepth 65536 in
theorem w_c4 : (Jvm.Cond.code ({ cls := "java/lang/Object", name := "<init>", desc := "()V" } : Jvm.MethodName) object_method_1_code (1 : Nat) (Option.none : Option Jvm.ClassFile.FieldType)).before args0 about1 = true := code_word (m := ⟨0, 0⟩) (meth := k0m0) (c := k0c0) (by decide +kernel) rfl rfl rfl (by decide +kernel)
set_option maxRecDepth 65536 in
theorem w_c5 : (Jvm.Cond.code ({ cls := "java/util/Arrays", name := "copyOf", desc := "([II)[I" } : Jvm.MethodName) jdk_65_method_123_code (3 : Nat) (Option.some (Jvm.ClassFile.FieldType.array Jvm.ClassFile.FieldType.int))).before args0 about1 = true := code_word (m := ⟨4, 1⟩) (meth := k4m1) (c := k4c1) (by decide +kernel) rfl rfl rfl (by decide +kernel)
set_option maxRecDepth 65536 in
theorem w_c6 : (Jvm.Cond.code ({ cls := "java/lang/Math", name := "min", desc := "(II)I" } : Jvm.MethodName) jdk_29_method_69_code (2 : Nat) (Option.some Jvm.ClassFile.FieldType.int)).before args0 about1 = true := code_word (m := ⟨2, 2⟩) (meth := k2m2) (c := k2c2) (by decide +kernel) rfl rfl rfl (by decide +kernel)
set_option maxRecDepth 65536 in
theorem w_c7 : (Jvm.Cond.code ({ cls := "com/example/libbisim/libbisim/CompactInts", name := "get", desc := "(I)I" } : Jvm.MethodName) prog_7_method_3_code (3 : Nat) (Option.some Jvm.ClassFile.FieldType.int)).before args0 about1 = true := code_word (m := ⟨3, 2⟩) (meth := k3m2) (c := k3c2) (by decide +kernel) rfl rfl rfl (by decide +kernel)
set_option maxRecDepth 65536 in
theorem w_c8 : (Jvm.Cond.code ({ cls := "java/lang/Byte", name := "toUnsignedInt", desc := "(B)I" } : Jvm.MethodName) jdk_2056_method_24_code (1 : Nat) (Option.some Jvm.ClassFile.FieldType.int)).before args0 about1 = true := code_word (m := ⟨10, 0⟩) (meth := k10m0) (c := k10c0) (by decide +kernel) rfl rfl rfl (by decide +kernel)
def codes1 : List Jvm.Cond := [Jvm.Cond.code x code maxLocals ret, Jvm.Cond.code ({ cls := "java/lang/Math", name := "max", desc := "(II)I" } : Jvm.MethodName) jdk_29_method_65_code (2 : Nat) (Option.some Jvm.ClassFile.FieldType.int), Jvm.Cond.code ({ cls := "com/example/libbisim/libbisim/CompactInts", name := "of", desc := "([III)Lcom/example/libbisim/libbisim/CompactInts;" } : Jvm.MethodName) prog_7_method_2_code (6 : Nat) (Option.some (Jvm.ClassFile.FieldType.object "com/example/libbisim/libbisim/CompactInts")), Jvm.Cond.code ({ cls := "com/example/libbisim/libbisim/CompactInts", name := "<init>", desc := "([B[C[I)V" } : Jvm.MethodName) prog_7_method_1_code (4 : Nat) (Option.none : Option Jvm.ClassFile.FieldType), Jvm.Cond.code ({ cls := "java/lang/Object", name := "<init>", desc := "()V" } : Jvm.MethodName) object_method_1_code (1 : Nat) (Option.none : Option Jvm.ClassFile.FieldType), Jvm.Cond.code ({ cls := "java/util/Arrays", name := "copyOf", desc := "([II)[I" } : Jvm.MethodName) jdk_65_method_123_code (3 : Nat) (Option.some (Jvm.ClassFile.FieldType.array Jvm.ClassFile.FieldType.int)), Jvm.Cond.code ({ cls := "java/lang/Math", name := "min", desc := "(II)I" } : Jvm.MethodName) jdk_29_method_69_code (2 : Nat) (Option.some Jvm.ClassFile.FieldType.int), Jvm.Cond.code ({ cls := "com/example/libbisim/libbisim/CompactInts", name := "get", desc := "(I)I" } : Jvm.MethodName) prog_7_method_3_code (3 : Nat) (Option.some Jvm.ClassFile.FieldType.int), Jvm.Cond.code ({ cls := "java/lang/Byte", name := "toUnsignedInt", desc := "(B)I" } : Jvm.MethodName) jdk_2056_method_24_code (1 : Nat) (Option.some Jvm.ClassFile.FieldType.int)]
set_option maxRecDepth 65536 in
theorem codes_eq : words1.filter isCode = codes1 := rfl
theorem w_codes : ∀ c ∈ words1.filter isCode, c.before args0 about1 = true := by
  rw [codes_eq]
  intro c hc
  simp only [codes1, List.mem_cons, List.not_mem_nil, or_false] at hc
  rcases hc with rfl | rfl | rfl | rfl | rfl | rfl | rfl | rfl | rfl
  · exact w_c0
  · exact w_c1
  · exact w_c2
  · exact w_c3
  · exact w_c4
  · exact w_c5
  · exact w_c6
  · exact w_c7
  · exact w_c8
set_option maxRecDepth 65536 in
theorem w_t1 : (words1.take 24).all (fun c => isCode c || c.before args0 about1) = true := by decide +kernel
set_option maxRecDepth 65536 in
theorem w_t2 : ((words1.drop 24).take 24).all (fun c => isCode c || c.before args0 about1) = true := by decide +kernel
set_option maxRecDepth 65536 in
theorem w_t3 : ((words1.drop 24).drop 24).all (fun c => isCode c || c.before args0 about1) = true := by decide +kernel
theorem w_tables : (allAtoms (Jvm.Cond.code x code maxLocals ret :: tables_1)).before args0 about1 = true := by
  rw [allAtoms_all]
  show words1.all (fun c => c.before args0 about1) = true
  refine all_split ?_ w_codes
  rw [← List.take_append_drop 24 words1, List.all_append, w_t1, ← List.take_append_drop 24 (words1.drop 24), List.all_append, w_t2, w_t3]
  rfl
set_option maxRecDepth 65536 in
theorem w_case : (Jvm.Cond.and given_1 narrow_1).before args0 about1 = true := by decide +kernel
theorem w_applies : (headSpec (Jvm.Cond.code x code maxLocals ret :: tables_1) room_1).applies x e0.platform about1 = true :=
  (Spec.applies_iff w_frames).mpr ⟨w_running, w_runnable, w_alone, w_named, w_hears, w_ripe, w_room, w_tables⟩
theorem atStart : AtStart classFile x code maxLocals ret World_1 tables_1 room_1 Calls_1 rest_1 Pre_1 launch0 p0 e0 about1 theMethod args0 below0 :=
  ⟨lists_1, trivial, launch0.admits_env _ _ _, launch0.least_env, fairChoices_fair.cas, fairChoices_fair.clock, w_frames, w_args, w_heap, w_applies, trivial, trivial, w_case⟩
end start1
theorem witness_1 : WitnessClaimed_1 := ⟨start1.p0, start1.e0, start1.about1, start1.theMethod, start1.args0, start1.below0, start1.atStart⟩
end Jvm.Pilot.@@N@@
