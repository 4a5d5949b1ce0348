import JvmDerived
import JvmDerived.Pilot.@@N@@Statement
import JvmDerived.Pilot.@@N@@Code
set_option linter.unusedVariables false
set_option linter.unusedSimpArgs false
namespace Jvm.RoadKit
open Sem ClassFile Op Lib Jvm.Stand Jvm.Free Jvm.LawKit
section New
variable {p : Program} {l : Launch} {e : Env} {R : Room} {s : State} {m : MethodId} {args : Array Value} {below : List Frame} {meth : Method} {c : Code} {T : State} {locs : List Loc} {cells slots : Nat}
theorem retI (X : Stand p l e R s m args below meth c T locs cells slots) (hx : p.tables.exec = Jvm.exec) {pc : Nat} {Ls : Array Slot} {z : Int32} {rest : List Value} (hret : meth.sig.returnType = some .int) (hd : decode c.code pc = .ok (.ireturn, 1)) {fs : List Frame}
    (hl : ∀ (f : JFrame) (acts : List Action), f.method = m → f.locked = none → f.entered = [] → (doReturn e (T.setTop f) acts (some (.int z))).1 = T.setFrames fs) : Steps p.tables e below (T.setTop (mkF m pc Ls (.int z :: rest))) (T.setFrames fs) := by
  have hm' : T.vm.method? m = some meth := X.method'
  have hn : narrow .int (.int z) = .int z := rfl
  show Steps p.tables e below (T.setTop { method := m, pc := pc, locals := Ls, stack := _ :: rest, locked := none }) _
  jvm_step X.here [X.here.top, hx, hd, hm', hret, hn]
  first | (intro acts; rw [hl _ acts rfl rfl rfl]) | rw [hl _ _ rfl rfl rfl]
  exact Steps.refl _
end New
end Jvm.RoadKit
namespace Jvm.Pilot.@@N@@
open Jvm Jvm.ClassFile Sem Op Lib Jvm.Free Jvm.Stand Jvm.LawKit Jvm.RoadKit Bundle Jvm.Pilot.@@N@@.Jvm.D
theorem own_lc_lt (x y : Int64) : lcmpW x y < 0 ↔ x < y := by rw [lcW]; exact lc_lt x y
theorem own_lc_gt (x y : Int64) : 0 < lcmpW x y ↔ y < x := by rw [lcW]; exact lc_gt x y
theorem own_lc_eq (x y : Int64) : lcmpW x y = 0 ↔ x = y := by rw [lcW]; exact lc_eq x y
theorem own_ri {P : Prop} [Decidable P] {a b : Value} (h1 : a.isRef = true) (h2 : b.isRef = true) : (if P then a else b).isRef = true := by
  by_cases h : P
  · rw [if_pos h]; exact h1
  · rw [if_neg h]; exact h2
theorem own_sta_keep {Z : State} {h h' : Heap} {C n d : String} {w : Value} {ws : List Addr} (F : Sta Z h C n d w) (K : Keep h h' ws) (q : ∀ x ∈ ws, ∀ cell : Cell, h[x]? = some cell → cell.vm.isStatics = false) : Sta Z h' C n d w := by
  obtain ⟨cf, i, k, f, st, cell, h1, h2, h3, h4, h5, h6, h7⟩ := F
  exact ⟨cf, i, k, f, st, cell, h1, h2, h3, h4, K.2.1 st cell h5 (fun z => by rw [q st z cell h5] at h6; cases h6), h6, h7⟩
theorem pd_0 : parseMethodDescriptor "(C)Ljava/lang/String;" = some ⟨[.char], some (.object "java/lang/String")⟩ := by decide +kernel
theorem pd_1 : parseMethodDescriptor "(C)Z" = some ⟨[.char], some .boolean⟩ := by decide +kernel
theorem pd_2 : parseMethodDescriptor "(C)[B" = some ⟨[.char], some (.array .byte)⟩ := by decide +kernel
theorem pd_3 : parseMethodDescriptor "([BB)V" = some ⟨[(.array .byte), .byte], none⟩ := by decide +kernel
theorem pd_4 : parseMethodDescriptor "()V" = some ⟨[], none⟩ := by decide +kernel
theorem pd_5 : parseMethodDescriptor "(I)Lcom/example/nomlog/nomlog/lang/Token$Kind;" = some ⟨[.int], some (.object "com/example/nomlog/nomlog/lang/Token$Kind")⟩ := by decide +kernel
theorem pd_6 : parseMethodDescriptor "(Lcom/example/nomlog/nomlog/lang/Token$Kind;Ljava/lang/String;IIII)V" = some ⟨[(.object "com/example/nomlog/nomlog/lang/Token$Kind"), (.object "java/lang/String"), .int, .int, .int, .int], none⟩ := by decide +kernel
theorem pd_7 : parseMethodDescriptor "(Lcom/example/nomlog/nomlog/lang/Token;)Z" = some ⟨[(.object "com/example/nomlog/nomlog/lang/Token")], some .boolean⟩ := by decide +kernel
def own_SS (Z : State) : Prop := ∀ f ∈ ["ATOM", "VARIABLE", "INTEGER", "STRING", "OPEN", "CLOSE", "OPEN_LIST", "CLOSE_LIST", "COMMA", "BAR", "OPERATOR", "BACKSLASH", "NECK", "END_CLAUSE", "END"], ∃ a, Sta Z Z.heap "com/example/nomlog/nomlog/lang/Token$Kind" f "Lcom/example/nomlog/nomlog/lang/Token$Kind;" (.ref a)
theorem own_char (x : Int32) : ¬ (255 : Int32) < (x &&& (255 : Int32)).toUInt32.toUInt16.toUInt32.toInt32 := by
  have h := c_mask x (255 : Int32) 8 (by decide) rfl
  have q := c_i2c (x &&& (255 : Int32))
  rw [Int32.lt_iff_toInt_lt, show (255 : Int32).toInt = 255 from rfl]
  omega
theorem own_add0 (a d : Int32) : (a + d = a) ↔ d = 0 := by
  constructor
  · intro h
    have q := c_iadd a d
    rw [h] at q
    apply Int32.toInt_inj.mp
    have b1 := Int32.le_toInt d
    have b2 := Int32.toInt_lt d
    rw [show (0 : Int32).toInt = 0 from rfl]
    omega
  · intro h; rw [h]; exact Int32.add_zero a
theorem d6_0 : decode method_2_code 0 = .ok (.iload_n 0, 1) := by decide +kernel
theorem d6_1 : decode method_2_code 1 = .ok (.bipush 15, 2) := by decide +kernel
theorem d6_3 : decode method_2_code 3 = .ok (.iand, 1) := by decide +kernel
theorem d6_4 : decode method_2_code 4 = .ok (.istore_n 1, 1) := by decide +kernel
theorem d6_5 : decode method_2_code 5 = .ok (.iload_n 1, 1) := by decide +kernel
theorem d6_6 : decode method_2_code 6 = .ok (.ifCond .ne 7, 3) := by decide +kernel
theorem d6_9 : decode method_2_code 9 = .ok (.getstatic 7, 3) := by decide +kernel
theorem d6_12 : decode method_2_code 12 = .ok (.areturn, 1) := by decide +kernel
theorem d6_13 : decode method_2_code 13 = .ok (.iload_n 1, 1) := by decide +kernel
theorem d6_14 : decode method_2_code 14 = .ok (.iconst 1, 1) := by decide +kernel
theorem d6_15 : decode method_2_code 15 = .ok (.if_icmp .ne 7, 3) := by decide +kernel
theorem d6_18 : decode method_2_code 18 = .ok (.getstatic 13, 3) := by decide +kernel
theorem d6_21 : decode method_2_code 21 = .ok (.areturn, 1) := by decide +kernel
theorem d6_22 : decode method_2_code 22 = .ok (.iload_n 1, 1) := by decide +kernel
theorem d6_23 : decode method_2_code 23 = .ok (.iconst 2, 1) := by decide +kernel
theorem d6_24 : decode method_2_code 24 = .ok (.if_icmp .ne 7, 3) := by decide +kernel
theorem d6_27 : decode method_2_code 27 = .ok (.getstatic 16, 3) := by decide +kernel
theorem d6_30 : decode method_2_code 30 = .ok (.areturn, 1) := by decide +kernel
theorem d6_31 : decode method_2_code 31 = .ok (.iload_n 1, 1) := by decide +kernel
theorem d6_32 : decode method_2_code 32 = .ok (.iconst 3, 1) := by decide +kernel
theorem d6_33 : decode method_2_code 33 = .ok (.if_icmp .ne 7, 3) := by decide +kernel
theorem d6_36 : decode method_2_code 36 = .ok (.getstatic 19, 3) := by decide +kernel
theorem d6_39 : decode method_2_code 39 = .ok (.areturn, 1) := by decide +kernel
theorem d6_40 : decode method_2_code 40 = .ok (.iload_n 1, 1) := by decide +kernel
theorem d6_41 : decode method_2_code 41 = .ok (.iconst 4, 1) := by decide +kernel
theorem d6_42 : decode method_2_code 42 = .ok (.if_icmp .ne 7, 3) := by decide +kernel
theorem d6_45 : decode method_2_code 45 = .ok (.getstatic 22, 3) := by decide +kernel
theorem d6_48 : decode method_2_code 48 = .ok (.areturn, 1) := by decide +kernel
theorem d6_49 : decode method_2_code 49 = .ok (.iload_n 1, 1) := by decide +kernel
theorem d6_50 : decode method_2_code 50 = .ok (.iconst 5, 1) := by decide +kernel
theorem d6_51 : decode method_2_code 51 = .ok (.if_icmp .ne 7, 3) := by decide +kernel
theorem d6_54 : decode method_2_code 54 = .ok (.getstatic 25, 3) := by decide +kernel
theorem d6_57 : decode method_2_code 57 = .ok (.areturn, 1) := by decide +kernel
theorem d6_58 : decode method_2_code 58 = .ok (.iload_n 1, 1) := by decide +kernel
theorem d6_59 : decode method_2_code 59 = .ok (.bipush 6, 2) := by decide +kernel
theorem d6_61 : decode method_2_code 61 = .ok (.if_icmp .ne 7, 3) := by decide +kernel
theorem d6_64 : decode method_2_code 64 = .ok (.getstatic 28, 3) := by decide +kernel
theorem d6_67 : decode method_2_code 67 = .ok (.areturn, 1) := by decide +kernel
theorem d6_68 : decode method_2_code 68 = .ok (.iload_n 1, 1) := by decide +kernel
theorem d6_69 : decode method_2_code 69 = .ok (.bipush 7, 2) := by decide +kernel
theorem d6_71 : decode method_2_code 71 = .ok (.if_icmp .ne 7, 3) := by decide +kernel
theorem d6_74 : decode method_2_code 74 = .ok (.getstatic 31, 3) := by decide +kernel
theorem d6_77 : decode method_2_code 77 = .ok (.areturn, 1) := by decide +kernel
theorem d6_78 : decode method_2_code 78 = .ok (.iload_n 1, 1) := by decide +kernel
theorem d6_79 : decode method_2_code 79 = .ok (.bipush 8, 2) := by decide +kernel
theorem d6_81 : decode method_2_code 81 = .ok (.if_icmp .ne 7, 3) := by decide +kernel
theorem d6_84 : decode method_2_code 84 = .ok (.getstatic 34, 3) := by decide +kernel
theorem d6_87 : decode method_2_code 87 = .ok (.areturn, 1) := by decide +kernel
theorem d6_88 : decode method_2_code 88 = .ok (.iload_n 1, 1) := by decide +kernel
theorem d6_89 : decode method_2_code 89 = .ok (.bipush 9, 2) := by decide +kernel
theorem d6_91 : decode method_2_code 91 = .ok (.if_icmp .ne 7, 3) := by decide +kernel
theorem d6_94 : decode method_2_code 94 = .ok (.getstatic 37, 3) := by decide +kernel
theorem d6_97 : decode method_2_code 97 = .ok (.areturn, 1) := by decide +kernel
theorem d6_98 : decode method_2_code 98 = .ok (.iload_n 1, 1) := by decide +kernel
theorem d6_99 : decode method_2_code 99 = .ok (.bipush 10, 2) := by decide +kernel
theorem d6_101 : decode method_2_code 101 = .ok (.if_icmp .ne 7, 3) := by decide +kernel
theorem d6_104 : decode method_2_code 104 = .ok (.getstatic 40, 3) := by decide +kernel
theorem d6_107 : decode method_2_code 107 = .ok (.areturn, 1) := by decide +kernel
theorem d6_108 : decode method_2_code 108 = .ok (.iload_n 1, 1) := by decide +kernel
theorem d6_109 : decode method_2_code 109 = .ok (.bipush 11, 2) := by decide +kernel
theorem d6_111 : decode method_2_code 111 = .ok (.if_icmp .ne 7, 3) := by decide +kernel
theorem d6_114 : decode method_2_code 114 = .ok (.getstatic 43, 3) := by decide +kernel
theorem d6_117 : decode method_2_code 117 = .ok (.areturn, 1) := by decide +kernel
theorem d6_118 : decode method_2_code 118 = .ok (.iload_n 1, 1) := by decide +kernel
theorem d6_119 : decode method_2_code 119 = .ok (.bipush 12, 2) := by decide +kernel
theorem d6_121 : decode method_2_code 121 = .ok (.if_icmp .ne 7, 3) := by decide +kernel
theorem d6_124 : decode method_2_code 124 = .ok (.getstatic 46, 3) := by decide +kernel
theorem d6_127 : decode method_2_code 127 = .ok (.areturn, 1) := by decide +kernel
theorem d6_128 : decode method_2_code 128 = .ok (.iload_n 1, 1) := by decide +kernel
theorem d6_129 : decode method_2_code 129 = .ok (.bipush 13, 2) := by decide +kernel
theorem d6_131 : decode method_2_code 131 = .ok (.if_icmp .ne 7, 3) := by decide +kernel
theorem d6_134 : decode method_2_code 134 = .ok (.getstatic 49, 3) := by decide +kernel
theorem d6_137 : decode method_2_code 137 = .ok (.areturn, 1) := by decide +kernel
theorem d6_138 : decode method_2_code 138 = .ok (.getstatic 52, 3) := by decide +kernel
theorem d6_141 : decode method_2_code 141 = .ok (.areturn, 1) := by decide +kernel
theorem pn_0 : plainName "com/example/nomlog/nomlog/lang/TokenFollowsPinLaw" = true := by first | (simp [plainName, overriddenIn]; done) | decide +kernel
theorem ef_rm6 (m : MethodId) (x0 : Int32) : entryFrame m #[(.int x0)] 2 = mkF m 0 #[.val (.int x0), .unset] [] := by first | (simp [entryFrame, mkF, argsToLocals, Value.category]; done) | rfl
def Q_rm6 (Z : State) (p0 : Int32) (h0 : Heap) (n0 : Nat) (v : Option Value) (h : Heap) (L : List Loc) : Prop := ∃ z, v = some (.ref z) ∧ Fr n0 L ∧ h = h0
set_option maxRecDepth 65536 in
set_option maxHeartbeats 40000000 in
theorem rm6 (l : Launch) (Z : State) (a0 : Array Value) (hw : ∀ d ∈ tables_1, d.before a0 Z = true) (ws : List Jvm.Cond) (p0 : Int32) (h0 : Heap) (n0 : Nat) (Z0 : n0 ≤ h0.size) (SS : own_SS Z) (Od : Old Z n0 h0) :
    MetFree l (⟨"com/example/nomlog/nomlog/lang/TokenFollowsPinLaw", "kindOf", "(I)Lcom/example/nomlog/nomlog/lang/Token$Kind;"⟩ : MethodName) (head1 (Jvm.Cond.code (⟨"com/example/nomlog/nomlog/lang/TokenFollowsPinLaw", "kindOf", "(I)Lcom/example/nomlog/nomlog/lang/Token$Kind;"⟩ : MethodName) method_2_code 2 (some (.object "com/example/nomlog/nomlog/lang/Token$Kind")) :: ws) ({ frames := 0, cells := 0, slots := 0, locals := 0 } : Room)) (fun a U => a = #[(.int p0)] ∧ Z.Warmed39 U.vm ∧ U.heap = h0) (fun _ _ _ _ _ => True) (fun _ U o U' => ∃ v L, o = .returned v ∧ Q_rm6 Z p0 h0 n0 v U'.heap L ∧ FrameEnd U o U' L ({ frames := 0, cells := 0, slots := 0, locals := 0 } : Room).cells ({ frames := 0, cells := 0, slots := 0, locals := 0 } : Room).slots) := by
  refine MetFree.of_bodySF (plainFor_of_name pn_0) hisR ?_
  intro p e s m args below meth c s₁ Bd hml0 hP hK
  obtain ⟨rfl, hZ, hh⟩ := hP
  have hx := Bd.exec
  have hby := Bd.bytes
  have hml : c.maxLocals = 2 := hml0
  have hown : s.vm.findClass "com/example/nomlog/nomlog/lang/TokenFollowsPinLaw" = some m.cls := findClass_of_methodNamed Bd.named
  have hnm := (name_of_methodNamed Bd.named Bd.method).1
  have X0 : Stand p l e ({ frames := 0, cells := 0, slots := 0, locals := 0 } : Room) s m #[(.int p0)] below meth c s₁ [] 0 0 := Stand.of_body Bd
  have e0 : s₁.heap = h0 := by rw [← hh, Bd.state]; rfl
  have N0 := Fr.nil n0
  have pre0 : ∀ t, Steps p.tables e below (s₁.setTop (mkF m 0 #[.val (.int p0), .unset] [])) t → Steps p.tables e below (s₁.setTop (entryFrame m #[(.int p0)] 2)) t := fun t k => castTop (ef_rm6 m p0) k
  obtain ⟨a_ATOM, S_ATOM⟩ := SS "ATOM" (by decide)
  obtain ⟨a_VARIABLE, S_VARIABLE⟩ := SS "VARIABLE" (by decide)
  obtain ⟨a_INTEGER, S_INTEGER⟩ := SS "INTEGER" (by decide)
  obtain ⟨a_STRING, S_STRING⟩ := SS "STRING" (by decide)
  obtain ⟨a_OPEN, S_OPEN⟩ := SS "OPEN" (by decide)
  obtain ⟨a_CLOSE, S_CLOSE⟩ := SS "CLOSE" (by decide)
  obtain ⟨a_OPEN_LIST, S_OPEN_LIST⟩ := SS "OPEN_LIST" (by decide)
  obtain ⟨a_CLOSE_LIST, S_CLOSE_LIST⟩ := SS "CLOSE_LIST" (by decide)
  obtain ⟨a_COMMA, S_COMMA⟩ := SS "COMMA" (by decide)
  obtain ⟨a_BAR, S_BAR⟩ := SS "BAR" (by decide)
  obtain ⟨a_OPERATOR, S_OPERATOR⟩ := SS "OPERATOR" (by decide)
  obtain ⟨a_BACKSLASH, S_BACKSLASH⟩ := SS "BACKSLASH" (by decide)
  obtain ⟨a_NECK, S_NECK⟩ := SS "NECK" (by decide)
  obtain ⟨a_END_CLAUSE, S_END_CLAUSE⟩ := SS "END_CLAUSE" (by decide)
  obtain ⟨a_END, S_END⟩ := SS "END" (by decide)
  have st1 : ∀ target, Steps p.tables e below (s₁.setTop (mkF m 6 #[.val (.int p0), .val (.int (p0 &&& (15 : Int32)))] [(.int (p0 &&& (15 : Int32)))])) target → Steps p.tables e below (s₁.setTop (mkF m 0 #[.val (.int p0), .unset] [])) target := by
    intro target kt
    show Steps p.tables e below (s₁.setTop (mkF m 0 #[.val (.int p0), .unset] [])) _
    refine XS.iloadN X0.here hx rfl (hb hby d6_0) rfl ?_
    show Steps p.tables e below (s₁.setTop (mkF m 1 #[.val (.int p0), .unset] [(.int p0)])) _
    refine XS.bipush X0.here hx rfl (hb hby d6_1) ?_
    show Steps p.tables e below (s₁.setTop (mkF m 3 #[.val (.int p0), .unset] [(.int (15 : Int32)), (.int p0)])) _
    refine XS.iand X0.here hx rfl (hb hby d6_3) rfl ?_
    show Steps p.tables e below (s₁.setTop (mkF m 4 #[.val (.int p0), .unset] [(.int (p0 &&& (15 : Int32)))])) _
    refine XS.istoreN X0.here hx rfl (hb hby d6_4) rfl (l' := #[.val (.int p0), .val (.int (p0 &&& (15 : Int32)))]) rfl ?_
    show Steps p.tables e below (s₁.setTop (mkF m 5 #[.val (.int p0), .val (.int (p0 &&& (15 : Int32)))] [])) _
    refine XS.iloadN X0.here hx rfl (hb hby d6_5) rfl ?_
    exact kt
  by_cases hc6 : (p0 &&& (15 : Int32)) = (0 : Int32)
  · have st2 : ∀ target, Steps p.tables e below (s₁.setTop (mkF m 9 #[.val (.int p0), .val (.int (p0 &&& (15 : Int32)))] [])) target → Steps p.tables e below (s₁.setTop (mkF m 6 #[.val (.int p0), .val (.int (p0 &&& (15 : Int32)))] [(.int (p0 &&& (15 : Int32)))])) target := by
      intro target kt
      show Steps p.tables e below (s₁.setTop (mkF m 6 #[.val (.int p0), .val (.int (p0 &&& (15 : Int32)))] [(.int (p0 &&& (15 : Int32)))])) _
      refine XS.ifNo X0.here hx rfl (hb hby d6_6) rfl ((if0 _ _).trans (teq hc6).2) ?_
      exact kt
    obtain ⟨T3, X3, e3, st3⟩ := getS2 X0 hx hZ hown (host := "") (Or.inl (hw _ (List.mem_of_getElem? (i := 52) rfl))) Via.refl e0 (S_ATOM.ext Od.2) (g := (mkF m 9 #[.val (.int p0), .val (.int (p0 &&& (15 : Int32)))] [])) rfl (hb hby d6_9)
    obtain ⟨fs, hr, hrun, hended, hW, hsame⟩ := X3.leave (v := some (.ref a_ATOM)) (fun h => by rw [Bd.returns] at h; cases h)
    refine ⟨_, _, pre0 _ (st1 _ (st2 _ (st3 _ ?_))), hrun, hended, _, _, rfl, ?_, ⟨_, rfl⟩, hW, hsame.mono (by decide) (by decide)⟩
    · show Steps p.tables e below (T3.setTop (mkF m 12 #[.val (.int p0), .val (.int (p0 &&& (15 : Int32)))] [(.ref a_ATOM)])) _
      jvm_step X3.here [X3.here.top, hx, (hb hby d6_12), X3.method', Bd.returns, Value.isRef, FieldType.isReference]
      first | (intro acts; rw [hr _ acts rfl rfl rfl]) | rw [hr _ _ rfl rfl rfl]
      exact Steps.refl _
    · show Q_rm6 Z p0 h0 n0 _ T3.heap _
      rw [e3]
      exact ⟨_, rfl, N0, rfl⟩
  · have st4 : ∀ target, Steps p.tables e below (s₁.setTop (mkF m 13 #[.val (.int p0), .val (.int (p0 &&& (15 : Int32)))] [])) target → Steps p.tables e below (s₁.setTop (mkF m 6 #[.val (.int p0), .val (.int (p0 &&& (15 : Int32)))] [(.int (p0 &&& (15 : Int32)))])) target := by
      intro target kt
      show Steps p.tables e below (s₁.setTop (mkF m 6 #[.val (.int p0), .val (.int (p0 &&& (15 : Int32)))] [(.int (p0 &&& (15 : Int32)))])) _
      refine XS.ifYes X0.here hx rfl (pc0 := 6) (pc' := 13) rfl (hb hby d6_6) rfl ((if0 _ _).trans (feq hc6).2) (by decide) (by decide) ?_
      exact kt
    have st5 : ∀ target, Steps p.tables e below (s₁.setTop (mkF m 15 #[.val (.int p0), .val (.int (p0 &&& (15 : Int32)))] [(.int (1 : Int32)), (.int (p0 &&& (15 : Int32)))])) target → Steps p.tables e below (s₁.setTop (mkF m 13 #[.val (.int p0), .val (.int (p0 &&& (15 : Int32)))] [])) target := by
      intro target kt
      show Steps p.tables e below (s₁.setTop (mkF m 13 #[.val (.int p0), .val (.int (p0 &&& (15 : Int32)))] [])) _
      refine XS.iloadN X0.here hx rfl (hb hby d6_13) rfl ?_
      show Steps p.tables e below (s₁.setTop (mkF m 14 #[.val (.int p0), .val (.int (p0 &&& (15 : Int32)))] [(.int (p0 &&& (15 : Int32)))])) _
      refine XS.iconst X0.here hx rfl (hb hby d6_14) ?_
      exact kt
    by_cases hc15 : (p0 &&& (15 : Int32)) = (1 : Int32)
    · have st6 : ∀ target, Steps p.tables e below (s₁.setTop (mkF m 18 #[.val (.int p0), .val (.int (p0 &&& (15 : Int32)))] [])) target → Steps p.tables e below (s₁.setTop (mkF m 15 #[.val (.int p0), .val (.int (p0 &&& (15 : Int32)))] [(.int (1 : Int32)), (.int (p0 &&& (15 : Int32)))])) target := by
        intro target kt
        show Steps p.tables e below (s₁.setTop (mkF m 15 #[.val (.int p0), .val (.int (p0 &&& (15 : Int32)))] [(.int (1 : Int32)), (.int (p0 &&& (15 : Int32)))])) _
        refine XS.icmpNo X0.here hx rfl (hb hby d6_15) rfl (teq hc15).2 ?_
        exact kt
      obtain ⟨T7, X7, e7, st7⟩ := getS2 X0 hx hZ hown (host := "") (Or.inl (hw _ (List.mem_of_getElem? (i := 77) rfl))) Via.refl e0 (S_VARIABLE.ext Od.2) (g := (mkF m 18 #[.val (.int p0), .val (.int (p0 &&& (15 : Int32)))] [])) rfl (hb hby d6_18)
      obtain ⟨fs, hr, hrun, hended, hW, hsame⟩ := X7.leave (v := some (.ref a_VARIABLE)) (fun h => by rw [Bd.returns] at h; cases h)
      refine ⟨_, _, pre0 _ (st1 _ (st4 _ (st5 _ (st6 _ (st7 _ ?_))))), hrun, hended, _, _, rfl, ?_, ⟨_, rfl⟩, hW, hsame.mono (by decide) (by decide)⟩
      · show Steps p.tables e below (T7.setTop (mkF m 21 #[.val (.int p0), .val (.int (p0 &&& (15 : Int32)))] [(.ref a_VARIABLE)])) _
        jvm_step X7.here [X7.here.top, hx, (hb hby d6_21), X7.method', Bd.returns, Value.isRef, FieldType.isReference]
        first | (intro acts; rw [hr _ acts rfl rfl rfl]) | rw [hr _ _ rfl rfl rfl]
        exact Steps.refl _
      · show Q_rm6 Z p0 h0 n0 _ T7.heap _
        rw [e7]
        exact ⟨_, rfl, N0, rfl⟩
    · have st8 : ∀ target, Steps p.tables e below (s₁.setTop (mkF m 22 #[.val (.int p0), .val (.int (p0 &&& (15 : Int32)))] [])) target → Steps p.tables e below (s₁.setTop (mkF m 15 #[.val (.int p0), .val (.int (p0 &&& (15 : Int32)))] [(.int (1 : Int32)), (.int (p0 &&& (15 : Int32)))])) target := by
        intro target kt
        show Steps p.tables e below (s₁.setTop (mkF m 15 #[.val (.int p0), .val (.int (p0 &&& (15 : Int32)))] [(.int (1 : Int32)), (.int (p0 &&& (15 : Int32)))])) _
        refine XS.icmpYes X0.here hx rfl (pc0 := 15) (pc' := 22) rfl (hb hby d6_15) rfl (feq hc15).2 (by decide) (by decide) ?_
        exact kt
      have st9 : ∀ target, Steps p.tables e below (s₁.setTop (mkF m 24 #[.val (.int p0), .val (.int (p0 &&& (15 : Int32)))] [(.int (2 : Int32)), (.int (p0 &&& (15 : Int32)))])) target → Steps p.tables e below (s₁.setTop (mkF m 22 #[.val (.int p0), .val (.int (p0 &&& (15 : Int32)))] [])) target := by
        intro target kt
        show Steps p.tables e below (s₁.setTop (mkF m 22 #[.val (.int p0), .val (.int (p0 &&& (15 : Int32)))] [])) _
        refine XS.iloadN X0.here hx rfl (hb hby d6_22) rfl ?_
        show Steps p.tables e below (s₁.setTop (mkF m 23 #[.val (.int p0), .val (.int (p0 &&& (15 : Int32)))] [(.int (p0 &&& (15 : Int32)))])) _
        refine XS.iconst X0.here hx rfl (hb hby d6_23) ?_
        exact kt
      by_cases hc24 : (p0 &&& (15 : Int32)) = (2 : Int32)
      · have st10 : ∀ target, Steps p.tables e below (s₁.setTop (mkF m 27 #[.val (.int p0), .val (.int (p0 &&& (15 : Int32)))] [])) target → Steps p.tables e below (s₁.setTop (mkF m 24 #[.val (.int p0), .val (.int (p0 &&& (15 : Int32)))] [(.int (2 : Int32)), (.int (p0 &&& (15 : Int32)))])) target := by
          intro target kt
          show Steps p.tables e below (s₁.setTop (mkF m 24 #[.val (.int p0), .val (.int (p0 &&& (15 : Int32)))] [(.int (2 : Int32)), (.int (p0 &&& (15 : Int32)))])) _
          refine XS.icmpNo X0.here hx rfl (hb hby d6_24) rfl (teq hc24).2 ?_
          exact kt
        obtain ⟨T11, X11, e11, st11⟩ := getS2 X0 hx hZ hown (host := "") (Or.inl (hw _ (List.mem_of_getElem? (i := 59) rfl))) Via.refl e0 (S_INTEGER.ext Od.2) (g := (mkF m 27 #[.val (.int p0), .val (.int (p0 &&& (15 : Int32)))] [])) rfl (hb hby d6_27)
        obtain ⟨fs, hr, hrun, hended, hW, hsame⟩ := X11.leave (v := some (.ref a_INTEGER)) (fun h => by rw [Bd.returns] at h; cases h)
        refine ⟨_, _, pre0 _ (st1 _ (st4 _ (st5 _ (st8 _ (st9 _ (st10 _ (st11 _ ?_))))))), hrun, hended, _, _, rfl, ?_, ⟨_, rfl⟩, hW, hsame.mono (by decide) (by decide)⟩
        · show Steps p.tables e below (T11.setTop (mkF m 30 #[.val (.int p0), .val (.int (p0 &&& (15 : Int32)))] [(.ref a_INTEGER)])) _
          jvm_step X11.here [X11.here.top, hx, (hb hby d6_30), X11.method', Bd.returns, Value.isRef, FieldType.isReference]
          first | (intro acts; rw [hr _ acts rfl rfl rfl]) | rw [hr _ _ rfl rfl rfl]
          exact Steps.refl _
        · show Q_rm6 Z p0 h0 n0 _ T11.heap _
          rw [e11]
          exact ⟨_, rfl, N0, rfl⟩
      · have st12 : ∀ target, Steps p.tables e below (s₁.setTop (mkF m 31 #[.val (.int p0), .val (.int (p0 &&& (15 : Int32)))] [])) target → Steps p.tables e below (s₁.setTop (mkF m 24 #[.val (.int p0), .val (.int (p0 &&& (15 : Int32)))] [(.int (2 : Int32)), (.int (p0 &&& (15 : Int32)))])) target := by
          intro target kt
          show Steps p.tables e below (s₁.setTop (mkF m 24 #[.val (.int p0), .val (.int (p0 &&& (15 : Int32)))] [(.int (2 : Int32)), (.int (p0 &&& (15 : Int32)))])) _
          refine XS.icmpYes X0.here hx rfl (pc0 := 24) (pc' := 31) rfl (hb hby d6_24) rfl (feq hc24).2 (by decide) (by decide) ?_
          exact kt
        have st13 : ∀ target, Steps p.tables e below (s₁.setTop (mkF m 33 #[.val (.int p0), .val (.int (p0 &&& (15 : Int32)))] [(.int (3 : Int32)), (.int (p0 &&& (15 : Int32)))])) target → Steps p.tables e below (s₁.setTop (mkF m 31 #[.val (.int p0), .val (.int (p0 &&& (15 : Int32)))] [])) target := by
          intro target kt
          show Steps p.tables e below (s₁.setTop (mkF m 31 #[.val (.int p0), .val (.int (p0 &&& (15 : Int32)))] [])) _
          refine XS.iloadN X0.here hx rfl (hb hby d6_31) rfl ?_
          show Steps p.tables e below (s₁.setTop (mkF m 32 #[.val (.int p0), .val (.int (p0 &&& (15 : Int32)))] [(.int (p0 &&& (15 : Int32)))])) _
          refine XS.iconst X0.here hx rfl (hb hby d6_32) ?_
          exact kt
        by_cases hc33 : (p0 &&& (15 : Int32)) = (3 : Int32)
        · have st14 : ∀ target, Steps p.tables e below (s₁.setTop (mkF m 36 #[.val (.int p0), .val (.int (p0 &&& (15 : Int32)))] [])) target → Steps p.tables e below (s₁.setTop (mkF m 33 #[.val (.int p0), .val (.int (p0 &&& (15 : Int32)))] [(.int (3 : Int32)), (.int (p0 &&& (15 : Int32)))])) target := by
            intro target kt
            show Steps p.tables e below (s₁.setTop (mkF m 33 #[.val (.int p0), .val (.int (p0 &&& (15 : Int32)))] [(.int (3 : Int32)), (.int (p0 &&& (15 : Int32)))])) _
            refine XS.icmpNo X0.here hx rfl (hb hby d6_33) rfl (teq hc33).2 ?_
            exact kt
          obtain ⟨T15, X15, e15, st15⟩ := getS2 X0 hx hZ hown (host := "") (Or.inl (hw _ (List.mem_of_getElem? (i := 33) rfl))) Via.refl e0 (S_STRING.ext Od.2) (g := (mkF m 36 #[.val (.int p0), .val (.int (p0 &&& (15 : Int32)))] [])) rfl (hb hby d6_36)
          obtain ⟨fs, hr, hrun, hended, hW, hsame⟩ := X15.leave (v := some (.ref a_STRING)) (fun h => by rw [Bd.returns] at h; cases h)
          refine ⟨_, _, pre0 _ (st1 _ (st4 _ (st5 _ (st8 _ (st9 _ (st12 _ (st13 _ (st14 _ (st15 _ ?_))))))))), hrun, hended, _, _, rfl, ?_, ⟨_, rfl⟩, hW, hsame.mono (by decide) (by decide)⟩
          · show Steps p.tables e below (T15.setTop (mkF m 39 #[.val (.int p0), .val (.int (p0 &&& (15 : Int32)))] [(.ref a_STRING)])) _
            jvm_step X15.here [X15.here.top, hx, (hb hby d6_39), X15.method', Bd.returns, Value.isRef, FieldType.isReference]
            first | (intro acts; rw [hr _ acts rfl rfl rfl]) | rw [hr _ _ rfl rfl rfl]
            exact Steps.refl _
          · show Q_rm6 Z p0 h0 n0 _ T15.heap _
            rw [e15]
            exact ⟨_, rfl, N0, rfl⟩
        · have st16 : ∀ target, Steps p.tables e below (s₁.setTop (mkF m 40 #[.val (.int p0), .val (.int (p0 &&& (15 : Int32)))] [])) target → Steps p.tables e below (s₁.setTop (mkF m 33 #[.val (.int p0), .val (.int (p0 &&& (15 : Int32)))] [(.int (3 : Int32)), (.int (p0 &&& (15 : Int32)))])) target := by
            intro target kt
            show Steps p.tables e below (s₁.setTop (mkF m 33 #[.val (.int p0), .val (.int (p0 &&& (15 : Int32)))] [(.int (3 : Int32)), (.int (p0 &&& (15 : Int32)))])) _
            refine XS.icmpYes X0.here hx rfl (pc0 := 33) (pc' := 40) rfl (hb hby d6_33) rfl (feq hc33).2 (by decide) (by decide) ?_
            exact kt
          have st17 : ∀ target, Steps p.tables e below (s₁.setTop (mkF m 42 #[.val (.int p0), .val (.int (p0 &&& (15 : Int32)))] [(.int (4 : Int32)), (.int (p0 &&& (15 : Int32)))])) target → Steps p.tables e below (s₁.setTop (mkF m 40 #[.val (.int p0), .val (.int (p0 &&& (15 : Int32)))] [])) target := by
            intro target kt
            show Steps p.tables e below (s₁.setTop (mkF m 40 #[.val (.int p0), .val (.int (p0 &&& (15 : Int32)))] [])) _
            refine XS.iloadN X0.here hx rfl (hb hby d6_40) rfl ?_
            show Steps p.tables e below (s₁.setTop (mkF m 41 #[.val (.int p0), .val (.int (p0 &&& (15 : Int32)))] [(.int (p0 &&& (15 : Int32)))])) _
            refine XS.iconst X0.here hx rfl (hb hby d6_41) ?_
            exact kt
          by_cases hc42 : (p0 &&& (15 : Int32)) = (4 : Int32)
          · have st18 : ∀ target, Steps p.tables e below (s₁.setTop (mkF m 45 #[.val (.int p0), .val (.int (p0 &&& (15 : Int32)))] [])) target → Steps p.tables e below (s₁.setTop (mkF m 42 #[.val (.int p0), .val (.int (p0 &&& (15 : Int32)))] [(.int (4 : Int32)), (.int (p0 &&& (15 : Int32)))])) target := by
              intro target kt
              show Steps p.tables e below (s₁.setTop (mkF m 42 #[.val (.int p0), .val (.int (p0 &&& (15 : Int32)))] [(.int (4 : Int32)), (.int (p0 &&& (15 : Int32)))])) _
              refine XS.icmpNo X0.here hx rfl (hb hby d6_42) rfl (teq hc42).2 ?_
              exact kt
            obtain ⟨T19, X19, e19, st19⟩ := getS2 X0 hx hZ hown (host := "") (Or.inl (hw _ (List.mem_of_getElem? (i := 81) rfl))) Via.refl e0 (S_OPEN.ext Od.2) (g := (mkF m 45 #[.val (.int p0), .val (.int (p0 &&& (15 : Int32)))] [])) rfl (hb hby d6_45)
            obtain ⟨fs, hr, hrun, hended, hW, hsame⟩ := X19.leave (v := some (.ref a_OPEN)) (fun h => by rw [Bd.returns] at h; cases h)
            refine ⟨_, _, pre0 _ (st1 _ (st4 _ (st5 _ (st8 _ (st9 _ (st12 _ (st13 _ (st16 _ (st17 _ (st18 _ (st19 _ ?_))))))))))), hrun, hended, _, _, rfl, ?_, ⟨_, rfl⟩, hW, hsame.mono (by decide) (by decide)⟩
            · show Steps p.tables e below (T19.setTop (mkF m 48 #[.val (.int p0), .val (.int (p0 &&& (15 : Int32)))] [(.ref a_OPEN)])) _
              jvm_step X19.here [X19.here.top, hx, (hb hby d6_48), X19.method', Bd.returns, Value.isRef, FieldType.isReference]
              first | (intro acts; rw [hr _ acts rfl rfl rfl]) | rw [hr _ _ rfl rfl rfl]
              exact Steps.refl _
            · show Q_rm6 Z p0 h0 n0 _ T19.heap _
              rw [e19]
              exact ⟨_, rfl, N0, rfl⟩
          · have st20 : ∀ target, Steps p.tables e below (s₁.setTop (mkF m 49 #[.val (.int p0), .val (.int (p0 &&& (15 : Int32)))] [])) target → Steps p.tables e below (s₁.setTop (mkF m 42 #[.val (.int p0), .val (.int (p0 &&& (15 : Int32)))] [(.int (4 : Int32)), (.int (p0 &&& (15 : Int32)))])) target := by
              intro target kt
              show Steps p.tables e below (s₁.setTop (mkF m 42 #[.val (.int p0), .val (.int (p0 &&& (15 : Int32)))] [(.int (4 : Int32)), (.int (p0 &&& (15 : Int32)))])) _
              refine XS.icmpYes X0.here hx rfl (pc0 := 42) (pc' := 49) rfl (hb hby d6_42) rfl (feq hc42).2 (by decide) (by decide) ?_
              exact kt
            have st21 : ∀ target, Steps p.tables e below (s₁.setTop (mkF m 51 #[.val (.int p0), .val (.int (p0 &&& (15 : Int32)))] [(.int (5 : Int32)), (.int (p0 &&& (15 : Int32)))])) target → Steps p.tables e below (s₁.setTop (mkF m 49 #[.val (.int p0), .val (.int (p0 &&& (15 : Int32)))] [])) target := by
              intro target kt
              show Steps p.tables e below (s₁.setTop (mkF m 49 #[.val (.int p0), .val (.int (p0 &&& (15 : Int32)))] [])) _
              refine XS.iloadN X0.here hx rfl (hb hby d6_49) rfl ?_
              show Steps p.tables e below (s₁.setTop (mkF m 50 #[.val (.int p0), .val (.int (p0 &&& (15 : Int32)))] [(.int (p0 &&& (15 : Int32)))])) _
              refine XS.iconst X0.here hx rfl (hb hby d6_50) ?_
              exact kt
            by_cases hc51 : (p0 &&& (15 : Int32)) = (5 : Int32)
            · have st22 : ∀ target, Steps p.tables e below (s₁.setTop (mkF m 54 #[.val (.int p0), .val (.int (p0 &&& (15 : Int32)))] [])) target → Steps p.tables e below (s₁.setTop (mkF m 51 #[.val (.int p0), .val (.int (p0 &&& (15 : Int32)))] [(.int (5 : Int32)), (.int (p0 &&& (15 : Int32)))])) target := by
                intro target kt
                show Steps p.tables e below (s₁.setTop (mkF m 51 #[.val (.int p0), .val (.int (p0 &&& (15 : Int32)))] [(.int (5 : Int32)), (.int (p0 &&& (15 : Int32)))])) _
                refine XS.icmpNo X0.here hx rfl (hb hby d6_51) rfl (teq hc51).2 ?_
                exact kt
              obtain ⟨T23, X23, e23, st23⟩ := getS2 X0 hx hZ hown (host := "") (Or.inl (hw _ (List.mem_of_getElem? (i := 75) rfl))) Via.refl e0 (S_CLOSE.ext Od.2) (g := (mkF m 54 #[.val (.int p0), .val (.int (p0 &&& (15 : Int32)))] [])) rfl (hb hby d6_54)
              obtain ⟨fs, hr, hrun, hended, hW, hsame⟩ := X23.leave (v := some (.ref a_CLOSE)) (fun h => by rw [Bd.returns] at h; cases h)
              refine ⟨_, _, pre0 _ (st1 _ (st4 _ (st5 _ (st8 _ (st9 _ (st12 _ (st13 _ (st16 _ (st17 _ (st20 _ (st21 _ (st22 _ (st23 _ ?_))))))))))))), hrun, hended, _, _, rfl, ?_, ⟨_, rfl⟩, hW, hsame.mono (by decide) (by decide)⟩
              · show Steps p.tables e below (T23.setTop (mkF m 57 #[.val (.int p0), .val (.int (p0 &&& (15 : Int32)))] [(.ref a_CLOSE)])) _
                jvm_step X23.here [X23.here.top, hx, (hb hby d6_57), X23.method', Bd.returns, Value.isRef, FieldType.isReference]
                first | (intro acts; rw [hr _ acts rfl rfl rfl]) | rw [hr _ _ rfl rfl rfl]
                exact Steps.refl _
              · show Q_rm6 Z p0 h0 n0 _ T23.heap _
                rw [e23]
                exact ⟨_, rfl, N0, rfl⟩
            · have st24 : ∀ target, Steps p.tables e below (s₁.setTop (mkF m 58 #[.val (.int p0), .val (.int (p0 &&& (15 : Int32)))] [])) target → Steps p.tables e below (s₁.setTop (mkF m 51 #[.val (.int p0), .val (.int (p0 &&& (15 : Int32)))] [(.int (5 : Int32)), (.int (p0 &&& (15 : Int32)))])) target := by
                intro target kt
                show Steps p.tables e below (s₁.setTop (mkF m 51 #[.val (.int p0), .val (.int (p0 &&& (15 : Int32)))] [(.int (5 : Int32)), (.int (p0 &&& (15 : Int32)))])) _
                refine XS.icmpYes X0.here hx rfl (pc0 := 51) (pc' := 58) rfl (hb hby d6_51) rfl (feq hc51).2 (by decide) (by decide) ?_
                exact kt
              have st25 : ∀ target, Steps p.tables e below (s₁.setTop (mkF m 61 #[.val (.int p0), .val (.int (p0 &&& (15 : Int32)))] [(.int (6 : Int32)), (.int (p0 &&& (15 : Int32)))])) target → Steps p.tables e below (s₁.setTop (mkF m 58 #[.val (.int p0), .val (.int (p0 &&& (15 : Int32)))] [])) target := by
                intro target kt
                show Steps p.tables e below (s₁.setTop (mkF m 58 #[.val (.int p0), .val (.int (p0 &&& (15 : Int32)))] [])) _
                refine XS.iloadN X0.here hx rfl (hb hby d6_58) rfl ?_
                show Steps p.tables e below (s₁.setTop (mkF m 59 #[.val (.int p0), .val (.int (p0 &&& (15 : Int32)))] [(.int (p0 &&& (15 : Int32)))])) _
                refine XS.bipush X0.here hx rfl (hb hby d6_59) ?_
                exact kt
              by_cases hc61 : (p0 &&& (15 : Int32)) = (6 : Int32)
              · have st26 : ∀ target, Steps p.tables e below (s₁.setTop (mkF m 64 #[.val (.int p0), .val (.int (p0 &&& (15 : Int32)))] [])) target → Steps p.tables e below (s₁.setTop (mkF m 61 #[.val (.int p0), .val (.int (p0 &&& (15 : Int32)))] [(.int (6 : Int32)), (.int (p0 &&& (15 : Int32)))])) target := by
                  intro target kt
                  show Steps p.tables e below (s₁.setTop (mkF m 61 #[.val (.int p0), .val (.int (p0 &&& (15 : Int32)))] [(.int (6 : Int32)), (.int (p0 &&& (15 : Int32)))])) _
                  refine XS.icmpNo X0.here hx rfl (hb hby d6_61) rfl (teq hc61).2 ?_
                  exact kt
                obtain ⟨T27, X27, e27, st27⟩ := getS2 X0 hx hZ hown (host := "") (Or.inl (hw _ (List.mem_of_getElem? (i := 71) rfl))) Via.refl e0 (S_OPEN_LIST.ext Od.2) (g := (mkF m 64 #[.val (.int p0), .val (.int (p0 &&& (15 : Int32)))] [])) rfl (hb hby d6_64)
                obtain ⟨fs, hr, hrun, hended, hW, hsame⟩ := X27.leave (v := some (.ref a_OPEN_LIST)) (fun h => by rw [Bd.returns] at h; cases h)
                refine ⟨_, _, pre0 _ (st1 _ (st4 _ (st5 _ (st8 _ (st9 _ (st12 _ (st13 _ (st16 _ (st17 _ (st20 _ (st21 _ (st24 _ (st25 _ (st26 _ (st27 _ ?_))))))))))))))), hrun, hended, _, _, rfl, ?_, ⟨_, rfl⟩, hW, hsame.mono (by decide) (by decide)⟩
                · show Steps p.tables e below (T27.setTop (mkF m 67 #[.val (.int p0), .val (.int (p0 &&& (15 : Int32)))] [(.ref a_OPEN_LIST)])) _
                  jvm_step X27.here [X27.here.top, hx, (hb hby d6_67), X27.method', Bd.returns, Value.isRef, FieldType.isReference]
                  first | (intro acts; rw [hr _ acts rfl rfl rfl]) | rw [hr _ _ rfl rfl rfl]
                  exact Steps.refl _
                · show Q_rm6 Z p0 h0 n0 _ T27.heap _
                  rw [e27]
                  exact ⟨_, rfl, N0, rfl⟩
              · have st28 : ∀ target, Steps p.tables e below (s₁.setTop (mkF m 68 #[.val (.int p0), .val (.int (p0 &&& (15 : Int32)))] [])) target → Steps p.tables e below (s₁.setTop (mkF m 61 #[.val (.int p0), .val (.int (p0 &&& (15 : Int32)))] [(.int (6 : Int32)), (.int (p0 &&& (15 : Int32)))])) target := by
                  intro target kt
                  show Steps p.tables e below (s₁.setTop (mkF m 61 #[.val (.int p0), .val (.int (p0 &&& (15 : Int32)))] [(.int (6 : Int32)), (.int (p0 &&& (15 : Int32)))])) _
                  refine XS.icmpYes X0.here hx rfl (pc0 := 61) (pc' := 68) rfl (hb hby d6_61) rfl (feq hc61).2 (by decide) (by decide) ?_
                  exact kt
                have st29 : ∀ target, Steps p.tables e below (s₁.setTop (mkF m 71 #[.val (.int p0), .val (.int (p0 &&& (15 : Int32)))] [(.int (7 : Int32)), (.int (p0 &&& (15 : Int32)))])) target → Steps p.tables e below (s₁.setTop (mkF m 68 #[.val (.int p0), .val (.int (p0 &&& (15 : Int32)))] [])) target := by
                  intro target kt
                  show Steps p.tables e below (s₁.setTop (mkF m 68 #[.val (.int p0), .val (.int (p0 &&& (15 : Int32)))] [])) _
                  refine XS.iloadN X0.here hx rfl (hb hby d6_68) rfl ?_
                  show Steps p.tables e below (s₁.setTop (mkF m 69 #[.val (.int p0), .val (.int (p0 &&& (15 : Int32)))] [(.int (p0 &&& (15 : Int32)))])) _
                  refine XS.bipush X0.here hx rfl (hb hby d6_69) ?_
                  exact kt
                by_cases hc71 : (p0 &&& (15 : Int32)) = (7 : Int32)
                · have st30 : ∀ target, Steps p.tables e below (s₁.setTop (mkF m 74 #[.val (.int p0), .val (.int (p0 &&& (15 : Int32)))] [])) target → Steps p.tables e below (s₁.setTop (mkF m 71 #[.val (.int p0), .val (.int (p0 &&& (15 : Int32)))] [(.int (7 : Int32)), (.int (p0 &&& (15 : Int32)))])) target := by
                    intro target kt
                    show Steps p.tables e below (s₁.setTop (mkF m 71 #[.val (.int p0), .val (.int (p0 &&& (15 : Int32)))] [(.int (7 : Int32)), (.int (p0 &&& (15 : Int32)))])) _
                    refine XS.icmpNo X0.here hx rfl (hb hby d6_71) rfl (teq hc71).2 ?_
                    exact kt
                  obtain ⟨T31, X31, e31, st31⟩ := getS2 X0 hx hZ hown (host := "") (Or.inl (hw _ (List.mem_of_getElem? (i := 83) rfl))) Via.refl e0 (S_CLOSE_LIST.ext Od.2) (g := (mkF m 74 #[.val (.int p0), .val (.int (p0 &&& (15 : Int32)))] [])) rfl (hb hby d6_74)
                  obtain ⟨fs, hr, hrun, hended, hW, hsame⟩ := X31.leave (v := some (.ref a_CLOSE_LIST)) (fun h => by rw [Bd.returns] at h; cases h)
                  refine ⟨_, _, pre0 _ (st1 _ (st4 _ (st5 _ (st8 _ (st9 _ (st12 _ (st13 _ (st16 _ (st17 _ (st20 _ (st21 _ (st24 _ (st25 _ (st28 _ (st29 _ (st30 _ (st31 _ ?_))))))))))))))))), hrun, hended, _, _, rfl, ?_, ⟨_, rfl⟩, hW, hsame.mono (by decide) (by decide)⟩
                  · show Steps p.tables e below (T31.setTop (mkF m 77 #[.val (.int p0), .val (.int (p0 &&& (15 : Int32)))] [(.ref a_CLOSE_LIST)])) _
                    jvm_step X31.here [X31.here.top, hx, (hb hby d6_77), X31.method', Bd.returns, Value.isRef, FieldType.isReference]
                    first | (intro acts; rw [hr _ acts rfl rfl rfl]) | rw [hr _ _ rfl rfl rfl]
                    exact Steps.refl _
                  · show Q_rm6 Z p0 h0 n0 _ T31.heap _
                    rw [e31]
                    exact ⟨_, rfl, N0, rfl⟩
                · have st32 : ∀ target, Steps p.tables e below (s₁.setTop (mkF m 78 #[.val (.int p0), .val (.int (p0 &&& (15 : Int32)))] [])) target → Steps p.tables e below (s₁.setTop (mkF m 71 #[.val (.int p0), .val (.int (p0 &&& (15 : Int32)))] [(.int (7 : Int32)), (.int (p0 &&& (15 : Int32)))])) target := by
                    intro target kt
                    show Steps p.tables e below (s₁.setTop (mkF m 71 #[.val (.int p0), .val (.int (p0 &&& (15 : Int32)))] [(.int (7 : Int32)), (.int (p0 &&& (15 : Int32)))])) _
                    refine XS.icmpYes X0.here hx rfl (pc0 := 71) (pc' := 78) rfl (hb hby d6_71) rfl (feq hc71).2 (by decide) (by decide) ?_
                    exact kt
                  have st33 : ∀ target, Steps p.tables e below (s₁.setTop (mkF m 81 #[.val (.int p0), .val (.int (p0 &&& (15 : Int32)))] [(.int (8 : Int32)), (.int (p0 &&& (15 : Int32)))])) target → Steps p.tables e below (s₁.setTop (mkF m 78 #[.val (.int p0), .val (.int (p0 &&& (15 : Int32)))] [])) target := by
                    intro target kt
                    show Steps p.tables e below (s₁.setTop (mkF m 78 #[.val (.int p0), .val (.int (p0 &&& (15 : Int32)))] [])) _
                    refine XS.iloadN X0.here hx rfl (hb hby d6_78) rfl ?_
                    show Steps p.tables e below (s₁.setTop (mkF m 79 #[.val (.int p0), .val (.int (p0 &&& (15 : Int32)))] [(.int (p0 &&& (15 : Int32)))])) _
                    refine XS.bipush X0.here hx rfl (hb hby d6_79) ?_
                    exact kt
                  by_cases hc81 : (p0 &&& (15 : Int32)) = (8 : Int32)
                  · have st34 : ∀ target, Steps p.tables e below (s₁.setTop (mkF m 84 #[.val (.int p0), .val (.int (p0 &&& (15 : Int32)))] [])) target → Steps p.tables e below (s₁.setTop (mkF m 81 #[.val (.int p0), .val (.int (p0 &&& (15 : Int32)))] [(.int (8 : Int32)), (.int (p0 &&& (15 : Int32)))])) target := by
                      intro target kt
                      show Steps p.tables e below (s₁.setTop (mkF m 81 #[.val (.int p0), .val (.int (p0 &&& (15 : Int32)))] [(.int (8 : Int32)), (.int (p0 &&& (15 : Int32)))])) _
                      refine XS.icmpNo X0.here hx rfl (hb hby d6_81) rfl (teq hc81).2 ?_
                      exact kt
                    obtain ⟨T35, X35, e35, st35⟩ := getS2 X0 hx hZ hown (host := "") (Or.inl (hw _ (List.mem_of_getElem? (i := 67) rfl))) Via.refl e0 (S_COMMA.ext Od.2) (g := (mkF m 84 #[.val (.int p0), .val (.int (p0 &&& (15 : Int32)))] [])) rfl (hb hby d6_84)
                    obtain ⟨fs, hr, hrun, hended, hW, hsame⟩ := X35.leave (v := some (.ref a_COMMA)) (fun h => by rw [Bd.returns] at h; cases h)
                    refine ⟨_, _, pre0 _ (st1 _ (st4 _ (st5 _ (st8 _ (st9 _ (st12 _ (st13 _ (st16 _ (st17 _ (st20 _ (st21 _ (st24 _ (st25 _ (st28 _ (st29 _ (st32 _ (st33 _ (st34 _ (st35 _ ?_))))))))))))))))))), hrun, hended, _, _, rfl, ?_, ⟨_, rfl⟩, hW, hsame.mono (by decide) (by decide)⟩
                    · show Steps p.tables e below (T35.setTop (mkF m 87 #[.val (.int p0), .val (.int (p0 &&& (15 : Int32)))] [(.ref a_COMMA)])) _
                      jvm_step X35.here [X35.here.top, hx, (hb hby d6_87), X35.method', Bd.returns, Value.isRef, FieldType.isReference]
                      first | (intro acts; rw [hr _ acts rfl rfl rfl]) | rw [hr _ _ rfl rfl rfl]
                      exact Steps.refl _
                    · show Q_rm6 Z p0 h0 n0 _ T35.heap _
                      rw [e35]
                      exact ⟨_, rfl, N0, rfl⟩
                  · have st36 : ∀ target, Steps p.tables e below (s₁.setTop (mkF m 88 #[.val (.int p0), .val (.int (p0 &&& (15 : Int32)))] [])) target → Steps p.tables e below (s₁.setTop (mkF m 81 #[.val (.int p0), .val (.int (p0 &&& (15 : Int32)))] [(.int (8 : Int32)), (.int (p0 &&& (15 : Int32)))])) target := by
                      intro target kt
                      show Steps p.tables e below (s₁.setTop (mkF m 81 #[.val (.int p0), .val (.int (p0 &&& (15 : Int32)))] [(.int (8 : Int32)), (.int (p0 &&& (15 : Int32)))])) _
                      refine XS.icmpYes X0.here hx rfl (pc0 := 81) (pc' := 88) rfl (hb hby d6_81) rfl (feq hc81).2 (by decide) (by decide) ?_
                      exact kt
                    have st37 : ∀ target, Steps p.tables e below (s₁.setTop (mkF m 91 #[.val (.int p0), .val (.int (p0 &&& (15 : Int32)))] [(.int (9 : Int32)), (.int (p0 &&& (15 : Int32)))])) target → Steps p.tables e below (s₁.setTop (mkF m 88 #[.val (.int p0), .val (.int (p0 &&& (15 : Int32)))] [])) target := by
                      intro target kt
                      show Steps p.tables e below (s₁.setTop (mkF m 88 #[.val (.int p0), .val (.int (p0 &&& (15 : Int32)))] [])) _
                      refine XS.iloadN X0.here hx rfl (hb hby d6_88) rfl ?_
                      show Steps p.tables e below (s₁.setTop (mkF m 89 #[.val (.int p0), .val (.int (p0 &&& (15 : Int32)))] [(.int (p0 &&& (15 : Int32)))])) _
                      refine XS.bipush X0.here hx rfl (hb hby d6_89) ?_
                      exact kt
                    by_cases hc91 : (p0 &&& (15 : Int32)) = (9 : Int32)
                    · have st38 : ∀ target, Steps p.tables e below (s₁.setTop (mkF m 94 #[.val (.int p0), .val (.int (p0 &&& (15 : Int32)))] [])) target → Steps p.tables e below (s₁.setTop (mkF m 91 #[.val (.int p0), .val (.int (p0 &&& (15 : Int32)))] [(.int (9 : Int32)), (.int (p0 &&& (15 : Int32)))])) target := by
                        intro target kt
                        show Steps p.tables e below (s₁.setTop (mkF m 91 #[.val (.int p0), .val (.int (p0 &&& (15 : Int32)))] [(.int (9 : Int32)), (.int (p0 &&& (15 : Int32)))])) _
                        refine XS.icmpNo X0.here hx rfl (hb hby d6_91) rfl (teq hc91).2 ?_
                        exact kt
                      obtain ⟨T39, X39, e39, st39⟩ := getS2 X0 hx hZ hown (host := "") (Or.inl (hw _ (List.mem_of_getElem? (i := 69) rfl))) Via.refl e0 (S_BAR.ext Od.2) (g := (mkF m 94 #[.val (.int p0), .val (.int (p0 &&& (15 : Int32)))] [])) rfl (hb hby d6_94)
                      obtain ⟨fs, hr, hrun, hended, hW, hsame⟩ := X39.leave (v := some (.ref a_BAR)) (fun h => by rw [Bd.returns] at h; cases h)
                      refine ⟨_, _, pre0 _ (st1 _ (st4 _ (st5 _ (st8 _ (st9 _ (st12 _ (st13 _ (st16 _ (st17 _ (st20 _ (st21 _ (st24 _ (st25 _ (st28 _ (st29 _ (st32 _ (st33 _ (st36 _ (st37 _ (st38 _ (st39 _ ?_))))))))))))))))))))), hrun, hended, _, _, rfl, ?_, ⟨_, rfl⟩, hW, hsame.mono (by decide) (by decide)⟩
                      · show Steps p.tables e below (T39.setTop (mkF m 97 #[.val (.int p0), .val (.int (p0 &&& (15 : Int32)))] [(.ref a_BAR)])) _
                        jvm_step X39.here [X39.here.top, hx, (hb hby d6_97), X39.method', Bd.returns, Value.isRef, FieldType.isReference]
                        first | (intro acts; rw [hr _ acts rfl rfl rfl]) | rw [hr _ _ rfl rfl rfl]
                        exact Steps.refl _
                      · show Q_rm6 Z p0 h0 n0 _ T39.heap _
                        rw [e39]
                        exact ⟨_, rfl, N0, rfl⟩
                    · have st40 : ∀ target, Steps p.tables e below (s₁.setTop (mkF m 98 #[.val (.int p0), .val (.int (p0 &&& (15 : Int32)))] [])) target → Steps p.tables e below (s₁.setTop (mkF m 91 #[.val (.int p0), .val (.int (p0 &&& (15 : Int32)))] [(.int (9 : Int32)), (.int (p0 &&& (15 : Int32)))])) target := by
                        intro target kt
                        show Steps p.tables e below (s₁.setTop (mkF m 91 #[.val (.int p0), .val (.int (p0 &&& (15 : Int32)))] [(.int (9 : Int32)), (.int (p0 &&& (15 : Int32)))])) _
                        refine XS.icmpYes X0.here hx rfl (pc0 := 91) (pc' := 98) rfl (hb hby d6_91) rfl (feq hc91).2 (by decide) (by decide) ?_
                        exact kt
                      have st41 : ∀ target, Steps p.tables e below (s₁.setTop (mkF m 101 #[.val (.int p0), .val (.int (p0 &&& (15 : Int32)))] [(.int (10 : Int32)), (.int (p0 &&& (15 : Int32)))])) target → Steps p.tables e below (s₁.setTop (mkF m 98 #[.val (.int p0), .val (.int (p0 &&& (15 : Int32)))] [])) target := by
                        intro target kt
                        show Steps p.tables e below (s₁.setTop (mkF m 98 #[.val (.int p0), .val (.int (p0 &&& (15 : Int32)))] [])) _
                        refine XS.iloadN X0.here hx rfl (hb hby d6_98) rfl ?_
                        show Steps p.tables e below (s₁.setTop (mkF m 99 #[.val (.int p0), .val (.int (p0 &&& (15 : Int32)))] [(.int (p0 &&& (15 : Int32)))])) _
                        refine XS.bipush X0.here hx rfl (hb hby d6_99) ?_
                        exact kt
                      by_cases hc101 : (p0 &&& (15 : Int32)) = (10 : Int32)
                      · have st42 : ∀ target, Steps p.tables e below (s₁.setTop (mkF m 104 #[.val (.int p0), .val (.int (p0 &&& (15 : Int32)))] [])) target → Steps p.tables e below (s₁.setTop (mkF m 101 #[.val (.int p0), .val (.int (p0 &&& (15 : Int32)))] [(.int (10 : Int32)), (.int (p0 &&& (15 : Int32)))])) target := by
                          intro target kt
                          show Steps p.tables e below (s₁.setTop (mkF m 101 #[.val (.int p0), .val (.int (p0 &&& (15 : Int32)))] [(.int (10 : Int32)), (.int (p0 &&& (15 : Int32)))])) _
                          refine XS.icmpNo X0.here hx rfl (hb hby d6_101) rfl (teq hc101).2 ?_
                          exact kt
                        obtain ⟨T43, X43, e43, st43⟩ := getS2 X0 hx hZ hown (host := "") (Or.inl (hw _ (List.mem_of_getElem? (i := 73) rfl))) Via.refl e0 (S_OPERATOR.ext Od.2) (g := (mkF m 104 #[.val (.int p0), .val (.int (p0 &&& (15 : Int32)))] [])) rfl (hb hby d6_104)
                        obtain ⟨fs, hr, hrun, hended, hW, hsame⟩ := X43.leave (v := some (.ref a_OPERATOR)) (fun h => by rw [Bd.returns] at h; cases h)
                        refine ⟨_, _, pre0 _ (st1 _ (st4 _ (st5 _ (st8 _ (st9 _ (st12 _ (st13 _ (st16 _ (st17 _ (st20 _ (st21 _ (st24 _ (st25 _ (st28 _ (st29 _ (st32 _ (st33 _ (st36 _ (st37 _ (st40 _ (st41 _ (st42 _ (st43 _ ?_))))))))))))))))))))))), hrun, hended, _, _, rfl, ?_, ⟨_, rfl⟩, hW, hsame.mono (by decide) (by decide)⟩
                        · show Steps p.tables e below (T43.setTop (mkF m 107 #[.val (.int p0), .val (.int (p0 &&& (15 : Int32)))] [(.ref a_OPERATOR)])) _
                          jvm_step X43.here [X43.here.top, hx, (hb hby d6_107), X43.method', Bd.returns, Value.isRef, FieldType.isReference]
                          first | (intro acts; rw [hr _ acts rfl rfl rfl]) | rw [hr _ _ rfl rfl rfl]
                          exact Steps.refl _
                        · show Q_rm6 Z p0 h0 n0 _ T43.heap _
                          rw [e43]
                          exact ⟨_, rfl, N0, rfl⟩
                      · have st44 : ∀ target, Steps p.tables e below (s₁.setTop (mkF m 108 #[.val (.int p0), .val (.int (p0 &&& (15 : Int32)))] [])) target → Steps p.tables e below (s₁.setTop (mkF m 101 #[.val (.int p0), .val (.int (p0 &&& (15 : Int32)))] [(.int (10 : Int32)), (.int (p0 &&& (15 : Int32)))])) target := by
                          intro target kt
                          show Steps p.tables e below (s₁.setTop (mkF m 101 #[.val (.int p0), .val (.int (p0 &&& (15 : Int32)))] [(.int (10 : Int32)), (.int (p0 &&& (15 : Int32)))])) _
                          refine XS.icmpYes X0.here hx rfl (pc0 := 101) (pc' := 108) rfl (hb hby d6_101) rfl (feq hc101).2 (by decide) (by decide) ?_
                          exact kt
                        have st45 : ∀ target, Steps p.tables e below (s₁.setTop (mkF m 111 #[.val (.int p0), .val (.int (p0 &&& (15 : Int32)))] [(.int (11 : Int32)), (.int (p0 &&& (15 : Int32)))])) target → Steps p.tables e below (s₁.setTop (mkF m 108 #[.val (.int p0), .val (.int (p0 &&& (15 : Int32)))] [])) target := by
                          intro target kt
                          show Steps p.tables e below (s₁.setTop (mkF m 108 #[.val (.int p0), .val (.int (p0 &&& (15 : Int32)))] [])) _
                          refine XS.iloadN X0.here hx rfl (hb hby d6_108) rfl ?_
                          show Steps p.tables e below (s₁.setTop (mkF m 109 #[.val (.int p0), .val (.int (p0 &&& (15 : Int32)))] [(.int (p0 &&& (15 : Int32)))])) _
                          refine XS.bipush X0.here hx rfl (hb hby d6_109) ?_
                          exact kt
                        by_cases hc111 : (p0 &&& (15 : Int32)) = (11 : Int32)
                        · have st46 : ∀ target, Steps p.tables e below (s₁.setTop (mkF m 114 #[.val (.int p0), .val (.int (p0 &&& (15 : Int32)))] [])) target → Steps p.tables e below (s₁.setTop (mkF m 111 #[.val (.int p0), .val (.int (p0 &&& (15 : Int32)))] [(.int (11 : Int32)), (.int (p0 &&& (15 : Int32)))])) target := by
                            intro target kt
                            show Steps p.tables e below (s₁.setTop (mkF m 111 #[.val (.int p0), .val (.int (p0 &&& (15 : Int32)))] [(.int (11 : Int32)), (.int (p0 &&& (15 : Int32)))])) _
                            refine XS.icmpNo X0.here hx rfl (hb hby d6_111) rfl (teq hc111).2 ?_
                            exact kt
                          obtain ⟨T47, X47, e47, st47⟩ := getS2 X0 hx hZ hown (host := "") (Or.inl (hw _ (List.mem_of_getElem? (i := 63) rfl))) Via.refl e0 (S_BACKSLASH.ext Od.2) (g := (mkF m 114 #[.val (.int p0), .val (.int (p0 &&& (15 : Int32)))] [])) rfl (hb hby d6_114)
                          obtain ⟨fs, hr, hrun, hended, hW, hsame⟩ := X47.leave (v := some (.ref a_BACKSLASH)) (fun h => by rw [Bd.returns] at h; cases h)
                          refine ⟨_, _, pre0 _ (st1 _ (st4 _ (st5 _ (st8 _ (st9 _ (st12 _ (st13 _ (st16 _ (st17 _ (st20 _ (st21 _ (st24 _ (st25 _ (st28 _ (st29 _ (st32 _ (st33 _ (st36 _ (st37 _ (st40 _ (st41 _ (st44 _ (st45 _ (st46 _ (st47 _ ?_))))))))))))))))))))))))), hrun, hended, _, _, rfl, ?_, ⟨_, rfl⟩, hW, hsame.mono (by decide) (by decide)⟩
                          · show Steps p.tables e below (T47.setTop (mkF m 117 #[.val (.int p0), .val (.int (p0 &&& (15 : Int32)))] [(.ref a_BACKSLASH)])) _
                            jvm_step X47.here [X47.here.top, hx, (hb hby d6_117), X47.method', Bd.returns, Value.isRef, FieldType.isReference]
                            first | (intro acts; rw [hr _ acts rfl rfl rfl]) | rw [hr _ _ rfl rfl rfl]
                            exact Steps.refl _
                          · show Q_rm6 Z p0 h0 n0 _ T47.heap _
                            rw [e47]
                            exact ⟨_, rfl, N0, rfl⟩
                        · have st48 : ∀ target, Steps p.tables e below (s₁.setTop (mkF m 118 #[.val (.int p0), .val (.int (p0 &&& (15 : Int32)))] [])) target → Steps p.tables e below (s₁.setTop (mkF m 111 #[.val (.int p0), .val (.int (p0 &&& (15 : Int32)))] [(.int (11 : Int32)), (.int (p0 &&& (15 : Int32)))])) target := by
                            intro target kt
                            show Steps p.tables e below (s₁.setTop (mkF m 111 #[.val (.int p0), .val (.int (p0 &&& (15 : Int32)))] [(.int (11 : Int32)), (.int (p0 &&& (15 : Int32)))])) _
                            refine XS.icmpYes X0.here hx rfl (pc0 := 111) (pc' := 118) rfl (hb hby d6_111) rfl (feq hc111).2 (by decide) (by decide) ?_
                            exact kt
                          have st49 : ∀ target, Steps p.tables e below (s₁.setTop (mkF m 121 #[.val (.int p0), .val (.int (p0 &&& (15 : Int32)))] [(.int (12 : Int32)), (.int (p0 &&& (15 : Int32)))])) target → Steps p.tables e below (s₁.setTop (mkF m 118 #[.val (.int p0), .val (.int (p0 &&& (15 : Int32)))] [])) target := by
                            intro target kt
                            show Steps p.tables e below (s₁.setTop (mkF m 118 #[.val (.int p0), .val (.int (p0 &&& (15 : Int32)))] [])) _
                            refine XS.iloadN X0.here hx rfl (hb hby d6_118) rfl ?_
                            show Steps p.tables e below (s₁.setTop (mkF m 119 #[.val (.int p0), .val (.int (p0 &&& (15 : Int32)))] [(.int (p0 &&& (15 : Int32)))])) _
                            refine XS.bipush X0.here hx rfl (hb hby d6_119) ?_
                            exact kt
                          by_cases hc121 : (p0 &&& (15 : Int32)) = (12 : Int32)
                          · have st50 : ∀ target, Steps p.tables e below (s₁.setTop (mkF m 124 #[.val (.int p0), .val (.int (p0 &&& (15 : Int32)))] [])) target → Steps p.tables e below (s₁.setTop (mkF m 121 #[.val (.int p0), .val (.int (p0 &&& (15 : Int32)))] [(.int (12 : Int32)), (.int (p0 &&& (15 : Int32)))])) target := by
                              intro target kt
                              show Steps p.tables e below (s₁.setTop (mkF m 121 #[.val (.int p0), .val (.int (p0 &&& (15 : Int32)))] [(.int (12 : Int32)), (.int (p0 &&& (15 : Int32)))])) _
                              refine XS.icmpNo X0.here hx rfl (hb hby d6_121) rfl (teq hc121).2 ?_
                              exact kt
                            obtain ⟨T51, X51, e51, st51⟩ := getS2 X0 hx hZ hown (host := "") (Or.inl (hw _ (List.mem_of_getElem? (i := 79) rfl))) Via.refl e0 (S_NECK.ext Od.2) (g := (mkF m 124 #[.val (.int p0), .val (.int (p0 &&& (15 : Int32)))] [])) rfl (hb hby d6_124)
                            obtain ⟨fs, hr, hrun, hended, hW, hsame⟩ := X51.leave (v := some (.ref a_NECK)) (fun h => by rw [Bd.returns] at h; cases h)
                            refine ⟨_, _, pre0 _ (st1 _ (st4 _ (st5 _ (st8 _ (st9 _ (st12 _ (st13 _ (st16 _ (st17 _ (st20 _ (st21 _ (st24 _ (st25 _ (st28 _ (st29 _ (st32 _ (st33 _ (st36 _ (st37 _ (st40 _ (st41 _ (st44 _ (st45 _ (st48 _ (st49 _ (st50 _ (st51 _ ?_))))))))))))))))))))))))))), hrun, hended, _, _, rfl, ?_, ⟨_, rfl⟩, hW, hsame.mono (by decide) (by decide)⟩
                            · show Steps p.tables e below (T51.setTop (mkF m 127 #[.val (.int p0), .val (.int (p0 &&& (15 : Int32)))] [(.ref a_NECK)])) _
                              jvm_step X51.here [X51.here.top, hx, (hb hby d6_127), X51.method', Bd.returns, Value.isRef, FieldType.isReference]
                              first | (intro acts; rw [hr _ acts rfl rfl rfl]) | rw [hr _ _ rfl rfl rfl]
                              exact Steps.refl _
                            · show Q_rm6 Z p0 h0 n0 _ T51.heap _
                              rw [e51]
                              exact ⟨_, rfl, N0, rfl⟩
                          · have st52 : ∀ target, Steps p.tables e below (s₁.setTop (mkF m 128 #[.val (.int p0), .val (.int (p0 &&& (15 : Int32)))] [])) target → Steps p.tables e below (s₁.setTop (mkF m 121 #[.val (.int p0), .val (.int (p0 &&& (15 : Int32)))] [(.int (12 : Int32)), (.int (p0 &&& (15 : Int32)))])) target := by
                              intro target kt
                              show Steps p.tables e below (s₁.setTop (mkF m 121 #[.val (.int p0), .val (.int (p0 &&& (15 : Int32)))] [(.int (12 : Int32)), (.int (p0 &&& (15 : Int32)))])) _
                              refine XS.icmpYes X0.here hx rfl (pc0 := 121) (pc' := 128) rfl (hb hby d6_121) rfl (feq hc121).2 (by decide) (by decide) ?_
                              exact kt
                            have st53 : ∀ target, Steps p.tables e below (s₁.setTop (mkF m 131 #[.val (.int p0), .val (.int (p0 &&& (15 : Int32)))] [(.int (13 : Int32)), (.int (p0 &&& (15 : Int32)))])) target → Steps p.tables e below (s₁.setTop (mkF m 128 #[.val (.int p0), .val (.int (p0 &&& (15 : Int32)))] [])) target := by
                              intro target kt
                              show Steps p.tables e below (s₁.setTop (mkF m 128 #[.val (.int p0), .val (.int (p0 &&& (15 : Int32)))] [])) _
                              refine XS.iloadN X0.here hx rfl (hb hby d6_128) rfl ?_
                              show Steps p.tables e below (s₁.setTop (mkF m 129 #[.val (.int p0), .val (.int (p0 &&& (15 : Int32)))] [(.int (p0 &&& (15 : Int32)))])) _
                              refine XS.bipush X0.here hx rfl (hb hby d6_129) ?_
                              exact kt
                            by_cases hc131 : (p0 &&& (15 : Int32)) = (13 : Int32)
                            · have st54 : ∀ target, Steps p.tables e below (s₁.setTop (mkF m 134 #[.val (.int p0), .val (.int (p0 &&& (15 : Int32)))] [])) target → Steps p.tables e below (s₁.setTop (mkF m 131 #[.val (.int p0), .val (.int (p0 &&& (15 : Int32)))] [(.int (13 : Int32)), (.int (p0 &&& (15 : Int32)))])) target := by
                                intro target kt
                                show Steps p.tables e below (s₁.setTop (mkF m 131 #[.val (.int p0), .val (.int (p0 &&& (15 : Int32)))] [(.int (13 : Int32)), (.int (p0 &&& (15 : Int32)))])) _
                                refine XS.icmpNo X0.here hx rfl (hb hby d6_131) rfl (teq hc131).2 ?_
                                exact kt
                              obtain ⟨T55, X55, e55, st55⟩ := getS2 X0 hx hZ hown (host := "") (Or.inl (hw _ (List.mem_of_getElem? (i := 61) rfl))) Via.refl e0 (S_END_CLAUSE.ext Od.2) (g := (mkF m 134 #[.val (.int p0), .val (.int (p0 &&& (15 : Int32)))] [])) rfl (hb hby d6_134)
                              obtain ⟨fs, hr, hrun, hended, hW, hsame⟩ := X55.leave (v := some (.ref a_END_CLAUSE)) (fun h => by rw [Bd.returns] at h; cases h)
                              refine ⟨_, _, pre0 _ (st1 _ (st4 _ (st5 _ (st8 _ (st9 _ (st12 _ (st13 _ (st16 _ (st17 _ (st20 _ (st21 _ (st24 _ (st25 _ (st28 _ (st29 _ (st32 _ (st33 _ (st36 _ (st37 _ (st40 _ (st41 _ (st44 _ (st45 _ (st48 _ (st49 _ (st52 _ (st53 _ (st54 _ (st55 _ ?_))))))))))))))))))))))))))))), hrun, hended, _, _, rfl, ?_, ⟨_, rfl⟩, hW, hsame.mono (by decide) (by decide)⟩
                              · show Steps p.tables e below (T55.setTop (mkF m 137 #[.val (.int p0), .val (.int (p0 &&& (15 : Int32)))] [(.ref a_END_CLAUSE)])) _
                                jvm_step X55.here [X55.here.top, hx, (hb hby d6_137), X55.method', Bd.returns, Value.isRef, FieldType.isReference]
                                first | (intro acts; rw [hr _ acts rfl rfl rfl]) | rw [hr _ _ rfl rfl rfl]
                                exact Steps.refl _
                              · show Q_rm6 Z p0 h0 n0 _ T55.heap _
                                rw [e55]
                                exact ⟨_, rfl, N0, rfl⟩
                            · have st56 : ∀ target, Steps p.tables e below (s₁.setTop (mkF m 138 #[.val (.int p0), .val (.int (p0 &&& (15 : Int32)))] [])) target → Steps p.tables e below (s₁.setTop (mkF m 131 #[.val (.int p0), .val (.int (p0 &&& (15 : Int32)))] [(.int (13 : Int32)), (.int (p0 &&& (15 : Int32)))])) target := by
                                intro target kt
                                show Steps p.tables e below (s₁.setTop (mkF m 131 #[.val (.int p0), .val (.int (p0 &&& (15 : Int32)))] [(.int (13 : Int32)), (.int (p0 &&& (15 : Int32)))])) _
                                refine XS.icmpYes X0.here hx rfl (pc0 := 131) (pc' := 138) rfl (hb hby d6_131) rfl (feq hc131).2 (by decide) (by decide) ?_
                                exact kt
                              obtain ⟨T57, X57, e57, st57⟩ := getS2 X0 hx hZ hown (host := "") (Or.inl (hw _ (List.mem_of_getElem? (i := 65) rfl))) Via.refl e0 (S_END.ext Od.2) (g := (mkF m 138 #[.val (.int p0), .val (.int (p0 &&& (15 : Int32)))] [])) rfl (hb hby d6_138)
                              obtain ⟨fs, hr, hrun, hended, hW, hsame⟩ := X57.leave (v := some (.ref a_END)) (fun h => by rw [Bd.returns] at h; cases h)
                              refine ⟨_, _, pre0 _ (st1 _ (st4 _ (st5 _ (st8 _ (st9 _ (st12 _ (st13 _ (st16 _ (st17 _ (st20 _ (st21 _ (st24 _ (st25 _ (st28 _ (st29 _ (st32 _ (st33 _ (st36 _ (st37 _ (st40 _ (st41 _ (st44 _ (st45 _ (st48 _ (st49 _ (st52 _ (st53 _ (st56 _ (st57 _ ?_))))))))))))))))))))))))))))), hrun, hended, _, _, rfl, ?_, ⟨_, rfl⟩, hW, hsame.mono (by decide) (by decide)⟩
                              · show Steps p.tables e below (T57.setTop (mkF m 141 #[.val (.int p0), .val (.int (p0 &&& (15 : Int32)))] [(.ref a_END)])) _
                                jvm_step X57.here [X57.here.top, hx, (hb hby d6_141), X57.method', Bd.returns, Value.isRef, FieldType.isReference]
                                first | (intro acts; rw [hr _ acts rfl rfl rfl]) | rw [hr _ _ rfl rfl rfl]
                                exact Steps.refl _
                              · show Q_rm6 Z p0 h0 n0 _ T57.heap _
                                rw [e57]
                                exact ⟨_, rfl, N0, rfl⟩
theorem d2_0 : decode jdk_43_method_3_code 0 = .ok (.iload_n 0, 1) := by decide +kernel
theorem d2_1 : decode jdk_43_method_3_code 1 = .ok (.sipush 255, 3) := by decide +kernel
theorem d2_4 : decode jdk_43_method_3_code 4 = .ok (.if_icmp .gt 7, 3) := by decide +kernel
theorem d2_7 : decode jdk_43_method_3_code 7 = .ok (.iconst 1, 1) := by decide +kernel
theorem d2_8 : decode jdk_43_method_3_code 8 = .ok (.goto 4, 3) := by decide +kernel
theorem d2_11 : decode jdk_43_method_3_code 11 = .ok (.iconst 0, 1) := by decide +kernel
theorem d2_12 : decode jdk_43_method_3_code 12 = .ok (.ireturn, 1) := by decide +kernel
theorem pn_1 : plainName "java/lang/StringLatin1" = true := by first | (simp [plainName, overriddenIn]; done) | decide +kernel
theorem ef_rm2 (m : MethodId) (x0 : Int32) : entryFrame m #[(.int x0)] 1 = mkF m 0 #[.val (.int x0)] [] := by first | (simp [entryFrame, mkF, argsToLocals, Value.category]; done) | rfl
def Q_rm2 (Z : State) (p0 : Int32) (h0 : Heap) (n0 : Nat) (v : Option Value) (h : Heap) (L : List Loc) : Prop := v = some (.int (if (255 : Int32) < p0 then (0 : Int32) else (1 : Int32))) ∧ Fr n0 L ∧ h = h0
set_option maxRecDepth 65536 in
set_option maxHeartbeats 40000000 in
theorem rm2 (l : Launch) (Z : State) (a0 : Array Value) (hw : ∀ d ∈ tables_1, d.before a0 Z = true) (ws : List Jvm.Cond) (p0 : Int32) (h0 : Heap) (n0 : Nat) (Z0 : n0 ≤ h0.size) :
    MetFree l (⟨"java/lang/StringLatin1", "canEncode", "(C)Z"⟩ : MethodName) (head1 (Jvm.Cond.code (⟨"java/lang/StringLatin1", "canEncode", "(C)Z"⟩ : MethodName) jdk_43_method_3_code 1 (some .boolean) :: ws) ({ frames := 0, cells := 0, slots := 0, locals := 0 } : Room)) (fun a U => a = #[(.int p0)] ∧ Z.Warmed39 U.vm ∧ U.heap = h0) (fun _ _ _ _ _ => True) (fun _ U o U' => ∃ v L, o = .returned v ∧ Q_rm2 Z p0 h0 n0 v U'.heap L ∧ FrameEnd U o U' L ({ frames := 0, cells := 0, slots := 0, locals := 0 } : Room).cells ({ frames := 0, cells := 0, slots := 0, locals := 0 } : Room).slots) := by
  refine MetFree.of_bodySF (plainFor_of_name pn_1) hisR ?_
  intro p e s m args below meth c s₁ Bd hml0 hP hK
  obtain ⟨rfl, hZ, hh⟩ := hP
  have hx := Bd.exec
  have hby := Bd.bytes
  have hml : c.maxLocals = 1 := hml0
  have hown : s.vm.findClass "java/lang/StringLatin1" = some m.cls := findClass_of_methodNamed Bd.named
  have hnm := (name_of_methodNamed Bd.named Bd.method).1
  have X0 : Stand p l e ({ frames := 0, cells := 0, slots := 0, locals := 0 } : Room) s m #[(.int p0)] below meth c s₁ [] 0 0 := Stand.of_body Bd
  have e0 : s₁.heap = h0 := by rw [← hh, Bd.state]; rfl
  have N0 := Fr.nil n0
  have pre0 : ∀ t, Steps p.tables e below (s₁.setTop (mkF m 0 #[.val (.int p0)] [])) t → Steps p.tables e below (s₁.setTop (entryFrame m #[(.int p0)] 1)) t := fun t k => castTop (ef_rm2 m p0) k
  obtain ⟨fs, hr, hrun, hended, hW, hsame⟩ := X0.leave (v := some (.int (if (255 : Int32) < p0 then (0 : Int32) else (1 : Int32)))) (fun h => by rw [Bd.returns] at h; cases h)
  refine ⟨_, _, pre0 _ ?_, hrun, hended, _, _, rfl, ?_, ⟨_, rfl⟩, hW, hsame.mono (by decide) (by decide)⟩
  · show Steps p.tables e below (s₁.setTop (mkF m 0 #[.val (.int p0)] [])) _
    refine XS.iloadN X0.here hx rfl (hb hby d2_0) rfl ?_
    show Steps p.tables e below (s₁.setTop (mkF m 1 #[.val (.int p0)] [(.int p0)])) _
    refine XS.sipush X0.here hx rfl (hb hby d2_1) ?_
    by_cases hc4 : (255 : Int32) < p0
    · rw [if_pos hc4] at hr
      show Steps p.tables e below (s₁.setTop (mkF m 4 #[.val (.int p0)] [(.int (255 : Int32)), (.int p0)])) _
      refine XS.icmpYes X0.here hx rfl (pc0 := 4) (pc' := 11) rfl (hb hby d2_4) rfl (tlt hc4).2.2.1 (by decide) (by decide) ?_
      show Steps p.tables e below (s₁.setTop (mkF m 11 #[.val (.int p0)] [])) _
      refine XS.iconst X0.here hx rfl (hb hby d2_11) ?_
      show Steps p.tables e below (s₁.setTop (mkF m 12 #[.val (.int p0)] [(.int (0 : Int32))])) _
      exact retN X0 hx (t := .boolean) Bd.returns (by simp) (hb hby d2_12) hr
    · rw [if_neg hc4] at hr
      show Steps p.tables e below (s₁.setTop (mkF m 4 #[.val (.int p0)] [(.int (255 : Int32)), (.int p0)])) _
      refine XS.icmpNo X0.here hx rfl (hb hby d2_4) rfl (flt hc4).2.2.1 ?_
      show Steps p.tables e below (s₁.setTop (mkF m 7 #[.val (.int p0)] [])) _
      refine XS.iconst X0.here hx rfl (hb hby d2_7) ?_
      show Steps p.tables e below (s₁.setTop (mkF m 8 #[.val (.int p0)] [(.int (1 : Int32))])) _
      refine XS.goto X0.here hx rfl (pc0 := 8) (pc' := 12) rfl (hb hby d2_8) (by decide) (by decide) ?_
      show Steps p.tables e below (s₁.setTop (mkF m 12 #[.val (.int p0)] [(.int (1 : Int32))])) _
      exact retN X0 hx (t := .boolean) Bd.returns (by simp) (hb hby d2_12) hr
  · show Q_rm2 Z p0 h0 n0 _ s₁.heap _
    rw [e0]
    exact ⟨rfl, N0, rfl⟩
theorem d3_0 : decode jdk_43_method_46_code 0 = .ok (.iconst 1, 1) := by decide +kernel
theorem d3_1 : decode jdk_43_method_46_code 1 = .ok (.newarray .byte, 2) := by decide +kernel
theorem d3_3 : decode jdk_43_method_46_code 3 = .ok (.dup, 1) := by decide +kernel
theorem d3_4 : decode jdk_43_method_46_code 4 = .ok (.iconst 0, 1) := by decide +kernel
theorem d3_5 : decode jdk_43_method_46_code 5 = .ok (.iload_n 0, 1) := by decide +kernel
theorem d3_6 : decode jdk_43_method_46_code 6 = .ok (.i2b, 1) := by decide +kernel
theorem d3_7 : decode jdk_43_method_46_code 7 = .ok (.bastore, 1) := by decide +kernel
theorem d3_8 : decode jdk_43_method_46_code 8 = .ok (.areturn, 1) := by decide +kernel
theorem ef_rm3 (m : MethodId) (x0 : Int32) : entryFrame m #[(.int x0)] 1 = mkF m 0 #[.val (.int x0)] [] := by first | (simp [entryFrame, mkF, argsToLocals, Value.category]; done) | rfl
def Q_rm3 (Z : State) (p0 : Int32) (h0 : Heap) (n0 : Nat) (v : Option Value) (h : Heap) (L : List Loc) : Prop := ∃ b, v = some (.ref b) ∧ Fr n0 L ∧ Keep h0 h [] ∧ h0.size ≤ b ∧ ∃ k, Arv Z h b k .byte (1 : Int32) [(.int (nar .byte (p0.toInt8.toInt32)))] (.int (0 : Int32))
set_option maxRecDepth 65536 in
set_option maxHeartbeats 40000000 in
theorem rm3 (l : Launch) (Z : State) (a0 : Array Value) (hw : ∀ d ∈ tables_1, d.before a0 Z = true) (ws : List Jvm.Cond) (p0 : Int32) (h0 : Heap) (n0 : Nat) (Z0 : n0 ≤ h0.size) :
    MetFree l (⟨"java/lang/StringLatin1", "toBytes", "(C)[B"⟩ : MethodName) (head1 (Jvm.Cond.code (⟨"java/lang/StringLatin1", "toBytes", "(C)[B"⟩ : MethodName) jdk_43_method_46_code 1 (some (.array .byte)) :: ws) ({ frames := 0, cells := 1, slots := 1, locals := 0 } : Room)) (fun a U => a = #[(.int p0)] ∧ Z.Warmed39 U.vm ∧ U.heap = h0) (fun _ _ _ _ _ => True) (fun _ U o U' => ∃ v L, o = .returned v ∧ Q_rm3 Z p0 h0 n0 v U'.heap L ∧ FrameEnd U o U' L ({ frames := 0, cells := 1, slots := 1, locals := 0 } : Room).cells ({ frames := 0, cells := 1, slots := 1, locals := 0 } : Room).slots) := by
  refine MetFree.of_bodySF (plainFor_of_name pn_1) hisR ?_
  intro p e s m args below meth c s₁ Bd hml0 hP hK
  obtain ⟨rfl, hZ, hh⟩ := hP
  have hx := Bd.exec
  have hby := Bd.bytes
  have hml : c.maxLocals = 1 := hml0
  have hown : s.vm.findClass "java/lang/StringLatin1" = some m.cls := findClass_of_methodNamed Bd.named
  have hnm := (name_of_methodNamed Bd.named Bd.method).1
  have X0 : Stand p l e ({ frames := 0, cells := 1, slots := 1, locals := 0 } : Room) s m #[(.int p0)] below meth c s₁ [] 0 0 := Stand.of_body Bd
  have e0 : s₁.heap = h0 := by rw [← hh, Bd.state]; rfl
  have N0 := Fr.nil n0
  have pre0 : ∀ t, Steps p.tables e below (s₁.setTop (mkF m 0 #[.val (.int p0)] [])) t → Steps p.tables e below (s₁.setTop (entryFrame m #[(.int p0)] 1)) t := fun t k => castTop (ef_rm3 m p0) k
  have Kp : Keep h0 h0 [] := Keep.refl _ _
  have st1 : ∀ target, Steps p.tables e below (s₁.setTop (mkF m 1 #[.val (.int p0)] [(.int (1 : Int32))])) target → Steps p.tables e below (s₁.setTop (mkF m 0 #[.val (.int p0)] [])) target := by
    intro target kt
    show Steps p.tables e below (s₁.setTop (mkF m 0 #[.val (.int p0)] [])) _
    refine XS.iconst X0.here hx rfl (hb hby d3_0) ?_
    exact kt
  obtain ⟨T2, h2, k2, X2, e2, E2, A2, st2⟩ := newP X0 hx hZ (hw _ (List.mem_of_getElem? (i := 14) rfl)) e0 (g := (mkF m 1 #[.val (.int p0)] [(.int (1 : Int32))])) rfl (hb hby d3_1) rfl (by decide) (cap := 1) (by decide) (by decide) (by decide) (by decide)
  obtain ⟨b, g2⟩ : ∃ z, z = h0.size := ⟨_, rfl⟩
  rw [← g2] at A2 st2
  have g_b : n0 ≤ b := Nat.le_trans Z0 (Nat.le_of_eq g2.symm)
  have sz_b : h0.size ≤ b := Nat.le_trans Kp.1 (Nat.le_of_eq g2.symm)
  have Z_2 : n0 ≤ h2.size := Nat.le_trans Z0 E2.1
  have Kp_2 : Keep h0 h2 [] := Kp.ext E2
  have V_b : Arv Z h2 b k2 .byte (1 : Int32) [(.int (0 : Int32))] (.int (0 : Int32)) := (Arv.new A2 (by decide)).pad (pad_rep [] (.int (0 : Int32)) 1)
  have st3 : ∀ target, Steps p.tables e below (T2.setTop (mkF m 7 #[.val (.int p0)] [(.int (p0.toInt8.toInt32)), (.int (0 : Int32)), (.ref b), (.ref b)])) target → Steps p.tables e below (T2.setTop (mkF m 3 #[.val (.int p0)] [(.ref b)])) target := by
    intro target kt
    show Steps p.tables e below (T2.setTop (mkF m 3 #[.val (.int p0)] [(.ref b)])) _
    refine XS.dup X2.here hx rfl (hb hby d3_3) rfl rfl ?_
    show Steps p.tables e below (T2.setTop (mkF m 4 #[.val (.int p0)] [(.ref b), (.ref b)])) _
    refine XS.iconst X2.here hx rfl (hb hby d3_4) ?_
    show Steps p.tables e below (T2.setTop (mkF m 5 #[.val (.int p0)] [(.int (0 : Int32)), (.ref b), (.ref b)])) _
    refine XS.iloadN X2.here hx rfl (hb hby d3_5) rfl ?_
    show Steps p.tables e below (T2.setTop (mkF m 6 #[.val (.int p0)] [(.int p0), (.int (0 : Int32)), (.ref b), (.ref b)])) _
    refine XS.i2b X2.here hx rfl (hb hby d3_6) rfl ?_
    exact kt
  obtain ⟨cl4, Ar4, qc4, Sz4, Mn4, Hs4, Gs4⟩ := id V_b
  have hin4 : ¬ ((0 : Int32) < 0 ∨ cl4.slots.size ≤ ((0 : Int32)).toNatClampNeg) := inb_of Sz4 ⟨by decide, by decide⟩
  obtain ⟨T4, h4, X4, e4, W4, st4⟩ := stB X2 hx hZ e2 Ar4 (j := (0 : Int32)) hin4 (g := (mkF m 7 #[.val (.int p0)] [(.int (p0.toInt8.toInt32)), (.int (0 : Int32)), (.ref b), (.ref b)])) rfl rfl (hb hby d3_7)
  have V_b_4 : Arv Z h4 b k2 .byte (1 : Int32) [(.int (nar .byte (p0.toInt8.toInt32)))] (.int (0 : Int32)) := Arv.set Ar4 qc4 Sz4 Mn4 Hs4 Gs4 (fits_nar_byte _) W4 0 rfl (Nat.le_of_ble_eq_true rfl)
  have Z_4 : n0 ≤ h4.size := Nat.le_trans Z_2 (Keep.of_wr W4).1
  have Kp_4 : Keep h0 h4 [] := Kp_2.wr W4 (Or.inr sz_b)
  have N4 := Fr.snoc X4 N0 g_b
  obtain ⟨fs, hr, hrun, hended, hW, hsame⟩ := X4.leave (v := some (.ref b)) (fun h => by rw [Bd.returns] at h; cases h)
  refine ⟨_, _, pre0 _ (st1 _ (st2 _ (st3 _ (st4 _ ?_)))), hrun, hended, _, _, rfl, ?_, ⟨_, rfl⟩, hW, hsame.mono (by decide) (by decide)⟩
  · show Steps p.tables e below (T4.setTop (mkF m 8 #[.val (.int p0)] [(.ref b)])) _
    jvm_step X4.here [X4.here.top, hx, (hb hby d3_8), X4.method', Bd.returns, Value.isRef, FieldType.isReference]
    first | (intro acts; rw [hr _ acts rfl rfl rfl]) | rw [hr _ _ rfl rfl rfl]
    exact Steps.refl _
  · show Q_rm3 Z p0 h0 n0 _ T4.heap _
    rw [e4]
    exact ⟨b, rfl, N4, Kp_4, sz_b, ⟨_, V_b_4⟩⟩
theorem d4_0 : decode jdk_42_method_151_code 0 = .ok (.aload_n 0, 1) := by decide +kernel
theorem d4_1 : decode jdk_42_method_151_code 1 = .ok (.invokespecial 1, 3) := by decide +kernel
theorem d4_4 : decode jdk_42_method_151_code 4 = .ok (.aload_n 0, 1) := by decide +kernel
theorem d4_5 : decode jdk_42_method_151_code 5 = .ok (.aload_n 1, 1) := by decide +kernel
theorem d4_6 : decode jdk_42_method_151_code 6 = .ok (.putfield 9, 3) := by decide +kernel
theorem d4_9 : decode jdk_42_method_151_code 9 = .ok (.aload_n 0, 1) := by decide +kernel
theorem d4_10 : decode jdk_42_method_151_code 10 = .ok (.iload_n 2, 1) := by decide +kernel
theorem d4_11 : decode jdk_42_method_151_code 11 = .ok (.putfield 15, 3) := by decide +kernel
theorem d4_14 : decode jdk_42_method_151_code 14 = .ok (.return_, 1) := by decide +kernel
theorem pn_2 : plainName "java/lang/String" = true := by first | (simp [plainName, overriddenIn]; done) | decide +kernel
theorem ef_rm4 (m : MethodId) (x0 : Addr) (x1 : Addr) (x2 : Int32) : entryFrame m #[(.ref x0), (.ref x1), (.int x2)] 3 = mkF m 0 #[.val (.ref x0), .val (.ref x1), .val (.int x2)] [] := by first | (simp [entryFrame, mkF, argsToLocals, Value.category]; done) | rfl
def Q_rm4 (Z : State) (r0 : Addr) (r1 : Addr) (p2 : Int32) (h0 : Heap) (n0 : Nat) (v : Option Value) (h : Heap) (L : List Loc) : Prop := v = none ∧ Fr n0 L ∧ Keep h0 h [r0] ∧ Exa Z h r0 "java/lang/String" ∧ Fld Z h r0 "java/lang/String" "value" "[B" (.ref r1) ∧ Fld Z h r0 "java/lang/String" "coder" "B" (.int (nar .byte p2))
set_option maxRecDepth 65536 in
set_option maxHeartbeats 40000000 in
theorem rm4 (l : Launch) (Z : State) (a0 : Array Value) (hw : ∀ d ∈ tables_1, d.before a0 Z = true) (ws : List Jvm.Cond) (r0 : Addr) (r1 : Addr) (p2 : Int32) (h0 : Heap) (n0 : Nat) (Z0 : n0 ≤ h0.size) (F_value : Fld Z h0 r0 "java/lang/String" "value" "[B" .null) (F_coder : Fld Z h0 r0 "java/lang/String" "coder" "B" (.int (0 : Int32))) (E_o : Exa Z h0 r0 "java/lang/String") (g_r0 : n0 ≤ r0) :
    MetFree l (⟨"java/lang/String", "<init>", "([BB)V"⟩ : MethodName) (head1 (Jvm.Cond.code (⟨"java/lang/String", "<init>", "([BB)V"⟩ : MethodName) jdk_42_method_151_code 3 none :: ws) ({ frames := 1, cells := 0, slots := 0, locals := 12 } : Room)) (fun a U => a = #[(.ref r0), (.ref r1), (.int p2)] ∧ Z.Warmed39 U.vm ∧ U.heap = h0) (fun _ _ _ _ _ => True) (fun _ U o U' => ∃ v L, o = .returned v ∧ Q_rm4 Z r0 r1 p2 h0 n0 v U'.heap L ∧ FrameEnd U o U' L ({ frames := 1, cells := 0, slots := 0, locals := 12 } : Room).cells ({ frames := 1, cells := 0, slots := 0, locals := 12 } : Room).slots) := by
  refine MetFree.of_bodySF (plainFor_of_name pn_2) hisR ?_
  intro p e s m args below meth c s₁ Bd hml0 hP hK
  obtain ⟨rfl, hZ, hh⟩ := hP
  have hx := Bd.exec
  have hby := Bd.bytes
  have hml : c.maxLocals = 3 := hml0
  have hown : s.vm.findClass "java/lang/String" = some m.cls := findClass_of_methodNamed Bd.named
  have hnm := (name_of_methodNamed Bd.named Bd.method).1
  have X0 : Stand p l e ({ frames := 1, cells := 0, slots := 0, locals := 12 } : Room) s m #[(.ref r0), (.ref r1), (.int p2)] below meth c s₁ [] 0 0 := Stand.of_body Bd
  have e0 : s₁.heap = h0 := by rw [← hh, Bd.state]; rfl
  have N0 := Fr.nil n0
  have pre0 : ∀ t, Steps p.tables e below (s₁.setTop (mkF m 0 #[.val (.ref r0), .val (.ref r1), .val (.int p2)] [])) t → Steps p.tables e below (s₁.setTop (entryFrame m #[(.ref r0), (.ref r1), (.int p2)] 3)) t := fun t k => castTop (ef_rm4 m r0 r1 p2) k
  have Kp : Keep h0 h0 [r0] := Keep.refl _ _
  have st1 : ∀ target, Steps p.tables e below (s₁.setTop (mkF m 1 #[.val (.ref r0), .val (.ref r1), .val (.int p2)] [(.ref r0)])) target → Steps p.tables e below (s₁.setTop (mkF m 0 #[.val (.ref r0), .val (.ref r1), .val (.int p2)] [])) target := by
    intro target kt
    show Steps p.tables e below (s₁.setTop (mkF m 0 #[.val (.ref r0), .val (.ref r1), .val (.int p2)] [])) _
    refine XS.aloadN X0.here hx rfl (hb hby d4_0) rfl rfl ?_
    exact kt
  obtain ⟨T2, X2, e2, st2⟩ := initO X0 hx hZ hown (hw _ (List.mem_of_getElem? (i := 19) rfl)) (hw _ (List.mem_of_getElem? (i := 20) rfl)) (hw _ (List.mem_of_getElem? (i := 21) rfl)) e0 (g := (mkF m 1 #[.val (.ref r0), .val (.ref r1), .val (.int p2)] [(.ref r0)])) rfl (by rw [hml]; rfl) rfl (hb hby d4_1) (by decide) (W := 0) (by show 2 * 0 + _ ≤ _; exact Nat.le_of_eq rfl) (by decide)
  have st3 : ∀ target, Steps p.tables e below (T2.setTop (mkF m 6 #[.val (.ref r0), .val (.ref r1), .val (.int p2)] [(.ref r1), (.ref r0)])) target → Steps p.tables e below (T2.setTop (mkF m 4 #[.val (.ref r0), .val (.ref r1), .val (.int p2)] [])) target := by
    intro target kt
    show Steps p.tables e below (T2.setTop (mkF m 4 #[.val (.ref r0), .val (.ref r1), .val (.int p2)] [])) _
    refine XS.aloadN X2.here hx rfl (hb hby d4_4) rfl rfl ?_
    show Steps p.tables e below (T2.setTop (mkF m 5 #[.val (.ref r0), .val (.ref r1), .val (.int p2)] [(.ref r0)])) _
    refine XS.aloadN X2.here hx rfl (hb hby d4_5) rfl rfl ?_
    exact kt
  obtain ⟨T4, h4, X4, e4, W4, st4⟩ := putF X2 hx hZ hown (host := "") (Or.inl (hw _ (List.mem_of_getElem? (i := 22) rfl))) Via.refl e2 F_value E_o (Or.inr ⟨(hw _ (List.mem_of_getElem? (i := 23) rfl)), rfl, hnm⟩) (hw _ (List.mem_of_getElem? (i := 10) rfl)) (ty := (.array .byte)) (by decide) rfl rfl (g := (mkF m 6 #[.val (.ref r0), .val (.ref r1), .val (.int p2)] [(.ref r1), (.ref r0)])) rfl rfl (hb hby d4_6)
  have F_value_r0_4 : Fld Z h4 r0 "java/lang/String" "value" "[B" (.ref r1) := F_value.same W4
  have E_o_4 := E_o.wr W4
  have F_coder_4 := F_coder.other W4 (Or.inr (slot_ne (Or.inr (hw _ (List.mem_of_getElem? (i := 25) rfl))) (Or.inr (hw _ (List.mem_of_getElem? (i := 23) rfl))) (by decide) (t := .byte) (t' := (.array .byte)) (by decide) (by decide)))
  have Z_4 : n0 ≤ h4.size := Nat.le_trans Z0 (Keep.of_wr W4).1
  have Kp_4 : Keep h0 h4 [r0] := Kp.wr W4 (Or.inl (List.mem_of_getElem? (i := 0) rfl))
  have N4 := Fr.snoc X4 N0 g_r0
  have st5 : ∀ target, Steps p.tables e below (T4.setTop (mkF m 11 #[.val (.ref r0), .val (.ref r1), .val (.int p2)] [(.int p2), (.ref r0)])) target → Steps p.tables e below (T4.setTop (mkF m 9 #[.val (.ref r0), .val (.ref r1), .val (.int p2)] [])) target := by
    intro target kt
    show Steps p.tables e below (T4.setTop (mkF m 9 #[.val (.ref r0), .val (.ref r1), .val (.int p2)] [])) _
    refine XS.aloadN X4.here hx rfl (hb hby d4_9) rfl rfl ?_
    show Steps p.tables e below (T4.setTop (mkF m 10 #[.val (.ref r0), .val (.ref r1), .val (.int p2)] [(.ref r0)])) _
    refine XS.iloadN X4.here hx rfl (hb hby d4_10) rfl ?_
    exact kt
  obtain ⟨T6, h6, X6, e6, W6, st6⟩ := putFN X4 hx hZ hown (hw _ (List.mem_of_getElem? (i := 24) rfl)) Via.refl e4 F_coder_4 E_o_4 (Or.inr ⟨(hw _ (List.mem_of_getElem? (i := 25) rfl)), rfl, hnm⟩) (hw _ (List.mem_of_getElem? (i := 10) rfl)) (ty := .byte) (v' := (.int (nar .byte p2))) (by decide) rfl (fits_nar_byte _) (g := (mkF m 11 #[.val (.ref r0), .val (.ref r1), .val (.int p2)] [(.int p2), (.ref r0)])) rfl rfl (hb hby d4_11)
  have F_coder_r0_6 : Fld Z h6 r0 "java/lang/String" "coder" "B" (.int (nar .byte p2)) := F_coder_4.same W6
  have E_o_6 := E_o_4.wr W6
  have F_value_r0_6 := F_value_r0_4.other W6 (Or.inr (slot_ne (Or.inr (hw _ (List.mem_of_getElem? (i := 23) rfl))) (Or.inr (hw _ (List.mem_of_getElem? (i := 25) rfl))) (by decide) (t := (.array .byte)) (t' := .byte) (by decide) (by decide)))
  have Z_6 : n0 ≤ h6.size := Nat.le_trans Z_4 (Keep.of_wr W6).1
  have Kp_6 : Keep h0 h6 [r0] := Kp_4.wr W6 (Or.inl (List.mem_of_getElem? (i := 0) rfl))
  have N6 := Fr.snoc X6 N4 g_r0
  obtain ⟨fs, hr, hrun, hended, hW, hsame⟩ := X6.leave (v := none) (fun _ => rfl)
  refine ⟨_, _, pre0 _ (st1 _ (st2 _ (st3 _ (st4 _ (st5 _ (st6 _ ?_)))))), hrun, hended, _, _, rfl, ?_, ⟨_, rfl⟩, hW, hsame.mono (by decide) (by decide)⟩
  · show Steps p.tables e below (T6.setTop (mkF m 14 #[.val (.ref r0), .val (.ref r1), .val (.int p2)] [])) _
    exact X6.returnOut hx Bd.returns (hb hby d4_14) hr
  · show Q_rm4 Z r0 r1 p2 h0 n0 _ T6.heap _
    rw [e6]
    exact ⟨rfl, N6, Kp_6, E_o_6, F_value_r0_6, F_coder_r0_6⟩
theorem d1_0 : decode jdk_42_method_139_code 0 = .ok (.getstatic 38, 3) := by decide +kernel
theorem d1_3 : decode jdk_42_method_139_code 3 = .ok (.ifCond .eq 23, 3) := by decide +kernel
theorem d1_6 : decode jdk_42_method_139_code 6 = .ok (.iload_n 0, 1) := by decide +kernel
theorem d1_7 : decode jdk_42_method_139_code 7 = .ok (.invokestatic 1015, 3) := by decide +kernel
theorem d1_10 : decode jdk_42_method_139_code 10 = .ok (.ifCond .eq 16, 3) := by decide +kernel
theorem d1_13 : decode jdk_42_method_139_code 13 = .ok (.new 10, 3) := by decide +kernel
theorem d1_16 : decode jdk_42_method_139_code 16 = .ok (.dup, 1) := by decide +kernel
theorem d1_17 : decode jdk_42_method_139_code 17 = .ok (.iload_n 0, 1) := by decide +kernel
theorem d1_18 : decode jdk_42_method_139_code 18 = .ok (.invokestatic 1018, 3) := by decide +kernel
theorem d1_21 : decode jdk_42_method_139_code 21 = .ok (.iconst 0, 1) := by decide +kernel
theorem d1_22 : decode jdk_42_method_139_code 22 = .ok (.invokespecial 209, 3) := by decide +kernel
theorem d1_25 : decode jdk_42_method_139_code 25 = .ok (.areturn, 1) := by decide +kernel
theorem d1_26 : decode jdk_42_method_139_code 26 = .ok (.new 10, 3) := by decide +kernel
theorem d1_29 : decode jdk_42_method_139_code 29 = .ok (.dup, 1) := by decide +kernel
theorem d1_30 : decode jdk_42_method_139_code 30 = .ok (.iload_n 0, 1) := by decide +kernel
theorem d1_31 : decode jdk_42_method_139_code 31 = .ok (.invokestatic 1021, 3) := by decide +kernel
theorem d1_34 : decode jdk_42_method_139_code 34 = .ok (.iconst 1, 1) := by decide +kernel
theorem d1_35 : decode jdk_42_method_139_code 35 = .ok (.invokespecial 209, 3) := by decide +kernel
theorem d1_38 : decode jdk_42_method_139_code 38 = .ok (.areturn, 1) := by decide +kernel
theorem ef_rm1 (m : MethodId) (x0 : Int32) : entryFrame m #[(.int x0)] 1 = mkF m 0 #[.val (.int x0)] [] := by first | (simp [entryFrame, mkF, argsToLocals, Value.category]; done) | rfl
def Q_rm1 (Z : State) (p0 : Int32) (cs : Int32) (h0 : Heap) (n0 : Nat) (v : Option Value) (h : Heap) (L : List Loc) : Prop := ∃ b, v = some (.ref b) ∧ Fr n0 L ∧ Keep h0 h [] ∧ h0.size ≤ b ∧ Exa Z h b "java/lang/String"
set_option maxRecDepth 65536 in
set_option maxHeartbeats 40000000 in
theorem rm1 (l : Launch) (Z : State) (a0 : Array Value) (hw : ∀ d ∈ tables_1, d.before a0 Z = true) (ws : List Jvm.Cond) (p0 : Int32) (cs : Int32) (h0 : Heap) (n0 : Nat) (Z0 : n0 ≤ h0.size) (S_cs : Sta Z h0 "java/lang/String" "COMPACT_STRINGS" "Z" (.int cs)) (hcs : ¬ cs = 0) (hle : ¬ (255 : Int32) < p0) :
    MetFree l (⟨"java/lang/String", "valueOf", "(C)Ljava/lang/String;"⟩ : MethodName) (head1 (Jvm.Cond.code (⟨"java/lang/String", "valueOf", "(C)Ljava/lang/String;"⟩ : MethodName) jdk_42_method_139_code 1 (some (.object "java/lang/String")) :: ws) ({ frames := 2, cells := 2, slots := 5, locals := 27 } : Room)) (fun a U => a = #[(.int p0)] ∧ Z.Warmed39 U.vm ∧ U.heap = h0) (fun _ _ _ _ _ => True) (fun _ U o U' => ∃ v L, o = .returned v ∧ Q_rm1 Z p0 cs h0 n0 v U'.heap L ∧ FrameEnd U o U' L ({ frames := 2, cells := 2, slots := 5, locals := 27 } : Room).cells ({ frames := 2, cells := 2, slots := 5, locals := 27 } : Room).slots) := by
  refine MetFree.of_bodySF (plainFor_of_name pn_2) hisR ?_
  intro p e s m args below meth c s₁ Bd hml0 hP hK
  obtain ⟨rfl, hZ, hh⟩ := hP
  have hx := Bd.exec
  have hby := Bd.bytes
  have hml : c.maxLocals = 1 := hml0
  have hown : s.vm.findClass "java/lang/String" = some m.cls := findClass_of_methodNamed Bd.named
  have hnm := (name_of_methodNamed Bd.named Bd.method).1
  have X0 : Stand p l e ({ frames := 2, cells := 2, slots := 5, locals := 27 } : Room) s m #[(.int p0)] below meth c s₁ [] 0 0 := Stand.of_body Bd
  have e0 : s₁.heap = h0 := by rw [← hh, Bd.state]; rfl
  have N0 := Fr.nil n0
  have pre0 : ∀ t, Steps p.tables e below (s₁.setTop (mkF m 0 #[.val (.int p0)] [])) t → Steps p.tables e below (s₁.setTop (entryFrame m #[(.int p0)] 1)) t := fun t k => castTop (ef_rm1 m p0) k
  have Kp : Keep h0 h0 [] := Keep.refl _ _
  obtain ⟨T1, X1, e1, st1⟩ := getS2 X0 hx hZ hown (host := "") (Or.inl (hw _ (List.mem_of_getElem? (i := 4) rfl))) Via.refl e0 S_cs (g := (mkF m 0 #[.val (.int p0)] [])) rfl (hb hby d1_0)
  have st2 : ∀ target, Steps p.tables e below (T1.setTop (mkF m 7 #[.val (.int p0)] [(.int p0)])) target → Steps p.tables e below (T1.setTop (mkF m 3 #[.val (.int p0)] [(.int cs)])) target := by
    intro target kt
    show Steps p.tables e below (T1.setTop (mkF m 3 #[.val (.int p0)] [(.int cs)])) _
    refine XS.ifNo X1.here hx rfl (hb hby d1_3) rfl ((if0 _ _).trans (feq hcs).1) ?_
    show Steps p.tables e below (T1.setTop (mkF m 6 #[.val (.int p0)] [])) _
    refine XS.iloadN X1.here hx rfl (hb hby d1_6) rfl ?_
    exact kt
  obtain ⟨_, _, ⟨T3, L3, k3, n3⟩, -, X3, ⟨Lc3, hQ3, l3, y3, z3⟩, st3⟩ := Jvm.LawKit.callS X1 hx (y := (⟨"java/lang/StringLatin1", "canEncode", "(C)Z"⟩ : MethodName)) hown (mvT hZ (hw _ (List.mem_of_getElem? (i := 5) rfl))) (mvT hZ (hw _ (List.mem_of_getElem? (i := 6) rfl))) (mvT hZ (hw _ (List.mem_of_getElem? (i := 7) rfl))) (mvT hZ (hw _ (List.mem_of_getElem? (i := 8) rfl))) (by decide) (backOf (W := 0) (rm2 l Z a0 hw [] p0  h0 n0 Z0 ) hZ (hw _ (List.mem_of_getElem? (i := 8) rfl)) (hw _ (List.mem_of_getElem? (i := 7) rfl)) (by decide) (by decide)) (g := (mkF m 7 #[.val (.int p0)] [(.int p0)])) rfl (by rw [hml]; rfl) (argsL := [(.int p0)]) (rest := []) (lenOf pd_1 rfl) rfl (by show 2 * 0 + _ ≤ _; exact Nat.le_of_eq rfl) (hb hby d1_7) (fun _ _ => ⟨rfl, e1, (by decide : 0 + 0 ≤ _), (by decide : 0 + 0 ≤ _)⟩)
  dsimp only [Pt.U, Pt.locs, Pt.cells, Pt.slots] at X3 l3 y3 z3 st3 hQ3
  subst l3 y3 z3
  obtain ⟨rfl, Nq3, e3⟩ := hQ3
  have N3 := Fr.app N0 Nq3
  rw [if_neg hle] at st3
  have st4 : ∀ target, Steps p.tables e below (T3.setTop (mkF m 13 #[.val (.int p0)] [])) target → Steps p.tables e below (T3.setTop (mkF m 10 #[.val (.int p0)] [(.int (1 : Int32))])) target := by
    intro target kt
    show Steps p.tables e below (T3.setTop (mkF m 10 #[.val (.int p0)] [(.int (1 : Int32))])) _
    refine XS.ifNo X3.here hx rfl (hb hby d1_10) rfl ((if0 _ _).trans (feq (by decide : ¬ ((1 : Int32) = (0 : Int32)))).1) ?_
    exact kt
  obtain ⟨T5, h5, X5, e5, E5, A5, D5, -, st5⟩ := newO X3 hx hZ hown (hw _ (List.mem_of_getElem? (i := 9) rfl)) (hw _ (List.mem_of_getElem? (i := 10) rfl)) (hw _ (List.mem_of_getElem? (i := 2) rfl)) e3 (g := (mkF m 13 #[.val (.int p0)] [])) rfl (hb hby d1_13) (by decide) (by decide)
  obtain ⟨b, g5⟩ : ∃ z, z = h0.size := ⟨_, rfl⟩
  rw [← g5] at A5 D5 st5
  have g_b : n0 ≤ b := Nat.le_trans Z0 (Nat.le_of_eq g5.symm)
  have sz_b : h0.size ≤ b := Nat.le_trans Kp.1 (Nat.le_of_eq g5.symm)
  have S_cs_5 := S_cs.ext E5
  have Z_5 : n0 ≤ h5.size := Nat.le_trans Z0 E5.1
  have Kp_5 : Keep h0 h5 [] := Kp.ext E5
  have E_b : Exa Z h5 b "java/lang/String" := A5
  have F_value_b : Fld Z h5 b "java/lang/String" "value" "[B" .null := D5 (Or.inr (hw _ (List.mem_of_getElem? (i := 23) rfl))) (ty := (.array .byte)) (by decide)
  have F_coder_b : Fld Z h5 b "java/lang/String" "coder" "B" (.int (0 : Int32)) := D5 (Or.inr (hw _ (List.mem_of_getElem? (i := 25) rfl))) (ty := .byte) (by decide)
  have st6 : ∀ target, Steps p.tables e below (T5.setTop (mkF m 18 #[.val (.int p0)] [(.int p0), (.ref b), (.ref b)])) target → Steps p.tables e below (T5.setTop (mkF m 16 #[.val (.int p0)] [(.ref b)])) target := by
    intro target kt
    show Steps p.tables e below (T5.setTop (mkF m 16 #[.val (.int p0)] [(.ref b)])) _
    refine XS.dup X5.here hx rfl (hb hby d1_16) rfl rfl ?_
    show Steps p.tables e below (T5.setTop (mkF m 17 #[.val (.int p0)] [(.ref b), (.ref b)])) _
    refine XS.iloadN X5.here hx rfl (hb hby d1_17) rfl ?_
    exact kt
  obtain ⟨_, _, ⟨T7, L7, k7, n7⟩, -, X7, ⟨Lc7, hQ7, l7, y7, z7⟩, st7⟩ := Jvm.LawKit.callS X5 hx (y := (⟨"java/lang/StringLatin1", "toBytes", "(C)[B"⟩ : MethodName)) hown (mvT hZ (hw _ (List.mem_of_getElem? (i := 11) rfl))) (mvT hZ (hw _ (List.mem_of_getElem? (i := 12) rfl))) (mvT hZ (hw _ (List.mem_of_getElem? (i := 7) rfl))) (mvT hZ (hw _ (List.mem_of_getElem? (i := 13) rfl))) (by decide) (backOf (W := 2) (rm3 l Z a0 hw [] p0  h5 n0 Z_5 ) hZ (hw _ (List.mem_of_getElem? (i := 13) rfl)) (hw _ (List.mem_of_getElem? (i := 7) rfl)) (by decide) (by decide)) (g := (mkF m 18 #[.val (.int p0)] [(.int p0), (.ref b), (.ref b)])) rfl (by rw [hml]; rfl) (argsL := [(.int p0)]) (rest := [(.ref b), (.ref b)]) (lenOf pd_2 rfl) rfl (by show 2 * 0 + _ ≤ _; exact Nat.le_of_eq rfl) (hb hby d1_18) (fun _ _ => ⟨rfl, e5, (by decide : 1 + 1 ≤ _), (by decide : 4 + 1 ≤ _)⟩)
  dsimp only [Pt.U, Pt.locs, Pt.cells, Pt.slots] at X7 l7 y7 z7 st7 hQ7
  subst l7 y7 z7
  obtain ⟨y7, rfl, Nq7, K7, sz7, ⟨ky, Vy⟩⟩ := hQ7
  have N7 := Fr.app N3 Nq7
  have g_y7 : n0 ≤ y7 := Nat.le_trans Z_5 sz7
  have sz_y7 : h0.size ≤ y7 := Nat.le_trans Kp_5.1 sz7
  have ne_b_y7 : b ≠ y7 := Nat.ne_of_lt (Nat.lt_of_lt_of_le E_b.lt sz7)
  have S_cs_7 := own_sta_keep S_cs_5 K7 all0
  have E_b_7 := E_b.keep K7
  have F_value_b_7 := F_value_b.keep K7 nin0
  have F_coder_b_7 := F_coder_b.keep K7 nin0
  have Z_7 : n0 ≤ T7.heap.size := Nat.le_trans Z_5 K7.1
  have Kp_7 : Keep h0 T7.heap [] := Kp_5.trans K7 (all0)
  have st8 : ∀ target, Steps p.tables e below (T7.setTop (mkF m 22 #[.val (.int p0)] [(.int (0 : Int32)), (.ref y7), (.ref b), (.ref b)])) target → Steps p.tables e below (T7.setTop (mkF m 21 #[.val (.int p0)] [(.ref y7), (.ref b), (.ref b)])) target := by
    intro target kt
    show Steps p.tables e below (T7.setTop (mkF m 21 #[.val (.int p0)] [(.ref y7), (.ref b), (.ref b)])) _
    refine XS.iconst X7.here hx rfl (hb hby d1_21) ?_
    exact kt
  obtain ⟨_, _, ⟨T9, L9, k9, n9⟩, -, X9, ⟨Lc9, hQ9, l9, y9, z9⟩, st9⟩ := X7.specialBack hx (y := (⟨"java/lang/String", "<init>", "([BB)V"⟩ : MethodName)) rfl hown (mvT hZ (hw _ (List.mem_of_getElem? (i := 15) rfl))) (mvT hZ (hw _ (List.mem_of_getElem? (i := 16) rfl))) (mvT hZ (hw _ (List.mem_of_getElem? (i := 18) rfl))) (by decide) (backOf (W := 1) (rm4 l Z a0 hw [] b y7 (0 : Int32)  T7.heap n0 Z_7 F_value_b_7 F_coder_b_7 E_b_7 g_b) hZ (hw _ (List.mem_of_getElem? (i := 18) rfl)) (hw _ (List.mem_of_getElem? (i := 2) rfl)) (by decide) (by decide)) (g := (mkF m 22 #[.val (.int p0)] [(.int (0 : Int32)), (.ref y7), (.ref b), (.ref b)])) rfl (by rw [hml]; rfl) (Steps.refl _) (a := b) (argsL := [(.ref y7), (.int (0 : Int32))]) (rest := [(.ref b)]) (lenOf pd_3 rfl) rfl (by show 2 * 0 + _ ≤ _; exact Nat.le_of_eq rfl) (hb hby d1_22) (fun _ _ => ⟨rfl, rfl, (by decide : 2 + 0 ≤ _), (by decide : 5 + 0 ≤ _)⟩)
  dsimp only [Pt.U, Pt.locs, Pt.cells, Pt.slots] at X9 l9 y9 z9 st9 hQ9
  subst l9 y9 z9
  obtain ⟨rfl, Nq9, K9, E_b_i, F_value_b_i, F_coder_b_i⟩ := hQ9
  have N9 := Fr.app N7 Nq9
  have S_cs_9 := own_sta_keep S_cs_7 K9 (allS E_b_7.nostat all0)
  have E_b_9 := E_b_7.keep K9
  have Vy_9 := Vy.keep K9 (ninS (Ne.symm ne_b_y7) nin0)
  have Z_9 : n0 ≤ T9.heap.size := Nat.le_trans Z_7 K9.1
  have Kp_9 : Keep h0 T9.heap [] := Kp_7.trans K9 (allS (Or.inr sz_b) (all0))
  obtain ⟨fs, hr, hrun, hended, hW, hsame⟩ := X9.leave (v := some (.ref b)) (fun h => by rw [Bd.returns] at h; cases h)
  refine ⟨_, _, pre0 _ (st1 _ (st2 _ (st3 _ (st4 _ (st5 _ (st6 _ (st7 _ (st8 _ (st9.trans ?_))))))))), hrun, hended, _, _, rfl, ?_, ⟨_, rfl⟩, hW, hsame.mono (by decide) (by decide)⟩
  · show Steps p.tables e below (T9.setTop (mkF m 25 #[.val (.int p0)] [(.ref b)])) _
    jvm_step X9.here [X9.here.top, hx, (hb hby d1_25), X9.method', Bd.returns, Value.isRef, FieldType.isReference]
    first | (intro acts; rw [hr _ acts rfl rfl rfl]) | rw [hr _ _ rfl rfl rfl]
    exact Steps.refl _
  · show Q_rm1 Z p0 cs h0 n0 _ T9.heap _
    exact ⟨b, rfl, N9, Kp_9, sz_b, E_b_i⟩
theorem d7_0 : decode prog_83_method_1_code 0 = .ok (.aload_n 0, 1) := by decide +kernel
theorem d7_1 : decode prog_83_method_1_code 1 = .ok (.invokespecial 1, 3) := by decide +kernel
theorem d7_4 : decode prog_83_method_1_code 4 = .ok (.aload_n 0, 1) := by decide +kernel
theorem d7_5 : decode prog_83_method_1_code 5 = .ok (.aload_n 1, 1) := by decide +kernel
theorem d7_6 : decode prog_83_method_1_code 6 = .ok (.putfield 7, 3) := by decide +kernel
theorem d7_9 : decode prog_83_method_1_code 9 = .ok (.aload_n 0, 1) := by decide +kernel
theorem d7_10 : decode prog_83_method_1_code 10 = .ok (.aload_n 2, 1) := by decide +kernel
theorem d7_11 : decode prog_83_method_1_code 11 = .ok (.putfield 13, 3) := by decide +kernel
theorem d7_14 : decode prog_83_method_1_code 14 = .ok (.aload_n 0, 1) := by decide +kernel
theorem d7_15 : decode prog_83_method_1_code 15 = .ok (.iload_n 3, 1) := by decide +kernel
theorem d7_16 : decode prog_83_method_1_code 16 = .ok (.putfield 17, 3) := by decide +kernel
theorem d7_19 : decode prog_83_method_1_code 19 = .ok (.aload_n 0, 1) := by decide +kernel
theorem d7_20 : decode prog_83_method_1_code 20 = .ok (.iload 4, 2) := by decide +kernel
theorem d7_22 : decode prog_83_method_1_code 22 = .ok (.putfield 21, 3) := by decide +kernel
theorem d7_25 : decode prog_83_method_1_code 25 = .ok (.aload_n 0, 1) := by decide +kernel
theorem d7_26 : decode prog_83_method_1_code 26 = .ok (.iload 5, 2) := by decide +kernel
theorem d7_28 : decode prog_83_method_1_code 28 = .ok (.putfield 24, 3) := by decide +kernel
theorem d7_31 : decode prog_83_method_1_code 31 = .ok (.aload_n 0, 1) := by decide +kernel
theorem d7_32 : decode prog_83_method_1_code 32 = .ok (.iload 6, 2) := by decide +kernel
theorem d7_34 : decode prog_83_method_1_code 34 = .ok (.putfield 27, 3) := by decide +kernel
theorem d7_37 : decode prog_83_method_1_code 37 = .ok (.return_, 1) := by decide +kernel
theorem pn_3 : plainName "com/example/nomlog/nomlog/lang/Token" = true := by first | (simp [plainName, overriddenIn]; done) | decide +kernel
theorem ef_rm7 (m : MethodId) (x0 : Addr) (x1 : Addr) (x2 : Addr) (x3 : Int32) (x4 : Int32) (x5 : Int32) (x6 : Int32) : entryFrame m #[(.ref x0), (.ref x1), (.ref x2), (.int x3), (.int x4), (.int x5), (.int x6)] 7 = mkF m 0 #[.val (.ref x0), .val (.ref x1), .val (.ref x2), .val (.int x3), .val (.int x4), .val (.int x5), .val (.int x6)] [] := by first | (simp [entryFrame, mkF, argsToLocals, Value.category]; done) | rfl
def Q_rm7 (Z : State) (r0 : Addr) (r1 : Addr) (r2 : Addr) (p3 : Int32) (p4 : Int32) (p5 : Int32) (p6 : Int32) (h0 : Heap) (n0 : Nat) (v : Option Value) (h : Heap) (L : List Loc) : Prop := v = none ∧ Fr n0 L ∧ Keep h0 h [r0] ∧ Exa Z h r0 "com/example/nomlog/nomlog/lang/Token" ∧ Fld Z h r0 "com/example/nomlog/nomlog/lang/Token" "kind" "Lcom/example/nomlog/nomlog/lang/Token$Kind;" (.ref r1) ∧ Fld Z h r0 "com/example/nomlog/nomlog/lang/Token" "text" "Ljava/lang/String;" (.ref r2) ∧ Fld Z h r0 "com/example/nomlog/nomlog/lang/Token" "start" "I" (.int p3) ∧ Fld Z h r0 "com/example/nomlog/nomlog/lang/Token" "end" "I" (.int p4) ∧ Fld Z h r0 "com/example/nomlog/nomlog/lang/Token" "line" "I" (.int p5) ∧ Fld Z h r0 "com/example/nomlog/nomlog/lang/Token" "column" "I" (.int p6)
set_option maxRecDepth 65536 in
set_option maxHeartbeats 40000000 in
theorem rm7 (l : Launch) (Z : State) (a0 : Array Value) (hw : ∀ d ∈ tables_1, d.before a0 Z = true) (ws : List Jvm.Cond) (r0 : Addr) (r1 : Addr) (r2 : Addr) (p3 : Int32) (p4 : Int32) (p5 : Int32) (p6 : Int32) (h0 : Heap) (n0 : Nat) (Z0 : n0 ≤ h0.size) (F_kind : Fld Z h0 r0 "com/example/nomlog/nomlog/lang/Token" "kind" "Lcom/example/nomlog/nomlog/lang/Token$Kind;" .null) (F_text : Fld Z h0 r0 "com/example/nomlog/nomlog/lang/Token" "text" "Ljava/lang/String;" .null) (F_start : Fld Z h0 r0 "com/example/nomlog/nomlog/lang/Token" "start" "I" (.int (0 : Int32))) (F_end : Fld Z h0 r0 "com/example/nomlog/nomlog/lang/Token" "end" "I" (.int (0 : Int32))) (F_line : Fld Z h0 r0 "com/example/nomlog/nomlog/lang/Token" "line" "I" (.int (0 : Int32))) (F_column : Fld Z h0 r0 "com/example/nomlog/nomlog/lang/Token" "column" "I" (.int (0 : Int32))) (E_o : Exa Z h0 r0 "com/example/nomlog/nomlog/lang/Token") (g_r0 : n0 ≤ r0) :
    MetFree l (⟨"com/example/nomlog/nomlog/lang/Token", "<init>", "(Lcom/example/nomlog/nomlog/lang/Token$Kind;Ljava/lang/String;IIII)V"⟩ : MethodName) (head1 (Jvm.Cond.code (⟨"com/example/nomlog/nomlog/lang/Token", "<init>", "(Lcom/example/nomlog/nomlog/lang/Token$Kind;Ljava/lang/String;IIII)V"⟩ : MethodName) prog_83_method_1_code 7 none :: ws) ({ frames := 1, cells := 0, slots := 0, locals := 12 } : Room)) (fun a U => a = #[(.ref r0), (.ref r1), (.ref r2), (.int p3), (.int p4), (.int p5), (.int p6)] ∧ Z.Warmed39 U.vm ∧ U.heap = h0) (fun _ _ _ _ _ => True) (fun _ U o U' => ∃ v L, o = .returned v ∧ Q_rm7 Z r0 r1 r2 p3 p4 p5 p6 h0 n0 v U'.heap L ∧ FrameEnd U o U' L ({ frames := 1, cells := 0, slots := 0, locals := 12 } : Room).cells ({ frames := 1, cells := 0, slots := 0, locals := 12 } : Room).slots) := by
  refine MetFree.of_bodySF (plainFor_of_name pn_3) hisR ?_
  intro p e s m args below meth c s₁ Bd hml0 hP hK
  obtain ⟨rfl, hZ, hh⟩ := hP
  have hx := Bd.exec
  have hby := Bd.bytes
  have hml : c.maxLocals = 7 := hml0
  have hown : s.vm.findClass "com/example/nomlog/nomlog/lang/Token" = some m.cls := findClass_of_methodNamed Bd.named
  have hnm := (name_of_methodNamed Bd.named Bd.method).1
  have X0 : Stand p l e ({ frames := 1, cells := 0, slots := 0, locals := 12 } : Room) s m #[(.ref r0), (.ref r1), (.ref r2), (.int p3), (.int p4), (.int p5), (.int p6)] below meth c s₁ [] 0 0 := Stand.of_body Bd
  have e0 : s₁.heap = h0 := by rw [← hh, Bd.state]; rfl
  have N0 := Fr.nil n0
  have pre0 : ∀ t, Steps p.tables e below (s₁.setTop (mkF m 0 #[.val (.ref r0), .val (.ref r1), .val (.ref r2), .val (.int p3), .val (.int p4), .val (.int p5), .val (.int p6)] [])) t → Steps p.tables e below (s₁.setTop (entryFrame m #[(.ref r0), (.ref r1), (.ref r2), (.int p3), (.int p4), (.int p5), (.int p6)] 7)) t := fun t k => castTop (ef_rm7 m r0 r1 r2 p3 p4 p5 p6) k
  have Kp : Keep h0 h0 [r0] := Keep.refl _ _
  have st1 : ∀ target, Steps p.tables e below (s₁.setTop (mkF m 1 #[.val (.ref r0), .val (.ref r1), .val (.ref r2), .val (.int p3), .val (.int p4), .val (.int p5), .val (.int p6)] [(.ref r0)])) target → Steps p.tables e below (s₁.setTop (mkF m 0 #[.val (.ref r0), .val (.ref r1), .val (.ref r2), .val (.int p3), .val (.int p4), .val (.int p5), .val (.int p6)] [])) target := by
    intro target kt
    show Steps p.tables e below (s₁.setTop (mkF m 0 #[.val (.ref r0), .val (.ref r1), .val (.ref r2), .val (.int p3), .val (.int p4), .val (.int p5), .val (.int p6)] [])) _
    refine XS.aloadN X0.here hx rfl (hb hby d7_0) rfl rfl ?_
    exact kt
  obtain ⟨T2, X2, e2, st2⟩ := initO X0 hx hZ hown (hw _ (List.mem_of_getElem? (i := 39) rfl)) (hw _ (List.mem_of_getElem? (i := 20) rfl)) (hw _ (List.mem_of_getElem? (i := 21) rfl)) e0 (g := (mkF m 1 #[.val (.ref r0), .val (.ref r1), .val (.ref r2), .val (.int p3), .val (.int p4), .val (.int p5), .val (.int p6)] [(.ref r0)])) rfl (by rw [hml]; rfl) rfl (hb hby d7_1) (by decide) (W := 0) (by show 2 * 0 + _ ≤ _; exact Nat.le_of_eq rfl) (by decide)
  have st3 : ∀ target, Steps p.tables e below (T2.setTop (mkF m 6 #[.val (.ref r0), .val (.ref r1), .val (.ref r2), .val (.int p3), .val (.int p4), .val (.int p5), .val (.int p6)] [(.ref r1), (.ref r0)])) target → Steps p.tables e below (T2.setTop (mkF m 4 #[.val (.ref r0), .val (.ref r1), .val (.ref r2), .val (.int p3), .val (.int p4), .val (.int p5), .val (.int p6)] [])) target := by
    intro target kt
    show Steps p.tables e below (T2.setTop (mkF m 4 #[.val (.ref r0), .val (.ref r1), .val (.ref r2), .val (.int p3), .val (.int p4), .val (.int p5), .val (.int p6)] [])) _
    refine XS.aloadN X2.here hx rfl (hb hby d7_4) rfl rfl ?_
    show Steps p.tables e below (T2.setTop (mkF m 5 #[.val (.ref r0), .val (.ref r1), .val (.ref r2), .val (.int p3), .val (.int p4), .val (.int p5), .val (.int p6)] [(.ref r0)])) _
    refine XS.aloadN X2.here hx rfl (hb hby d7_5) rfl rfl ?_
    exact kt
  obtain ⟨T4, h4, X4, e4, W4, st4⟩ := putF X2 hx hZ hown (host := "") (Or.inl (hw _ (List.mem_of_getElem? (i := 40) rfl))) Via.refl e2 F_kind E_o (Or.inr ⟨(hw _ (List.mem_of_getElem? (i := 41) rfl)), rfl, hnm⟩) (hw _ (List.mem_of_getElem? (i := 27) rfl)) (ty := (.object "com/example/nomlog/nomlog/lang/Token$Kind")) (by decide) rfl rfl (g := (mkF m 6 #[.val (.ref r0), .val (.ref r1), .val (.ref r2), .val (.int p3), .val (.int p4), .val (.int p5), .val (.int p6)] [(.ref r1), (.ref r0)])) rfl rfl (hb hby d7_6)
  have F_kind_r0_4 : Fld Z h4 r0 "com/example/nomlog/nomlog/lang/Token" "kind" "Lcom/example/nomlog/nomlog/lang/Token$Kind;" (.ref r1) := F_kind.same W4
  have E_o_4 := E_o.wr W4
  have F_text_4 := F_text.other W4 (Or.inr (slot_ne (Or.inr (hw _ (List.mem_of_getElem? (i := 43) rfl))) (Or.inr (hw _ (List.mem_of_getElem? (i := 41) rfl))) (by decide) (t := (.object "java/lang/String")) (t' := (.object "com/example/nomlog/nomlog/lang/Token$Kind")) (by decide) (by decide)))
  have F_start_4 := F_start.other W4 (Or.inr (slot_ne (Or.inr (hw _ (List.mem_of_getElem? (i := 45) rfl))) (Or.inr (hw _ (List.mem_of_getElem? (i := 41) rfl))) (by decide) (t := .int) (t' := (.object "com/example/nomlog/nomlog/lang/Token$Kind")) (by decide) (by decide)))
  have F_end_4 := F_end.other W4 (Or.inr (slot_ne (Or.inr (hw _ (List.mem_of_getElem? (i := 47) rfl))) (Or.inr (hw _ (List.mem_of_getElem? (i := 41) rfl))) (by decide) (t := .int) (t' := (.object "com/example/nomlog/nomlog/lang/Token$Kind")) (by decide) (by decide)))
  have F_line_4 := F_line.other W4 (Or.inr (slot_ne (Or.inr (hw _ (List.mem_of_getElem? (i := 49) rfl))) (Or.inr (hw _ (List.mem_of_getElem? (i := 41) rfl))) (by decide) (t := .int) (t' := (.object "com/example/nomlog/nomlog/lang/Token$Kind")) (by decide) (by decide)))
  have F_column_4 := F_column.other W4 (Or.inr (slot_ne (Or.inr (hw _ (List.mem_of_getElem? (i := 51) rfl))) (Or.inr (hw _ (List.mem_of_getElem? (i := 41) rfl))) (by decide) (t := .int) (t' := (.object "com/example/nomlog/nomlog/lang/Token$Kind")) (by decide) (by decide)))
  have Z_4 : n0 ≤ h4.size := Nat.le_trans Z0 (Keep.of_wr W4).1
  have Kp_4 : Keep h0 h4 [r0] := Kp.wr W4 (Or.inl (List.mem_of_getElem? (i := 0) rfl))
  have N4 := Fr.snoc X4 N0 g_r0
  have st5 : ∀ target, Steps p.tables e below (T4.setTop (mkF m 11 #[.val (.ref r0), .val (.ref r1), .val (.ref r2), .val (.int p3), .val (.int p4), .val (.int p5), .val (.int p6)] [(.ref r2), (.ref r0)])) target → Steps p.tables e below (T4.setTop (mkF m 9 #[.val (.ref r0), .val (.ref r1), .val (.ref r2), .val (.int p3), .val (.int p4), .val (.int p5), .val (.int p6)] [])) target := by
    intro target kt
    show Steps p.tables e below (T4.setTop (mkF m 9 #[.val (.ref r0), .val (.ref r1), .val (.ref r2), .val (.int p3), .val (.int p4), .val (.int p5), .val (.int p6)] [])) _
    refine XS.aloadN X4.here hx rfl (hb hby d7_9) rfl rfl ?_
    show Steps p.tables e below (T4.setTop (mkF m 10 #[.val (.ref r0), .val (.ref r1), .val (.ref r2), .val (.int p3), .val (.int p4), .val (.int p5), .val (.int p6)] [(.ref r0)])) _
    refine XS.aloadN X4.here hx rfl (hb hby d7_10) rfl rfl ?_
    exact kt
  obtain ⟨T6, h6, X6, e6, W6, st6⟩ := putF X4 hx hZ hown (host := "") (Or.inl (hw _ (List.mem_of_getElem? (i := 42) rfl))) Via.refl e4 F_text_4 E_o_4 (Or.inr ⟨(hw _ (List.mem_of_getElem? (i := 43) rfl)), rfl, hnm⟩) (hw _ (List.mem_of_getElem? (i := 27) rfl)) (ty := (.object "java/lang/String")) (by decide) rfl rfl (g := (mkF m 11 #[.val (.ref r0), .val (.ref r1), .val (.ref r2), .val (.int p3), .val (.int p4), .val (.int p5), .val (.int p6)] [(.ref r2), (.ref r0)])) rfl rfl (hb hby d7_11)
  have F_text_r0_6 : Fld Z h6 r0 "com/example/nomlog/nomlog/lang/Token" "text" "Ljava/lang/String;" (.ref r2) := F_text_4.same W6
  have E_o_6 := E_o_4.wr W6
  have F_start_6 := F_start_4.other W6 (Or.inr (slot_ne (Or.inr (hw _ (List.mem_of_getElem? (i := 45) rfl))) (Or.inr (hw _ (List.mem_of_getElem? (i := 43) rfl))) (by decide) (t := .int) (t' := (.object "java/lang/String")) (by decide) (by decide)))
  have F_end_6 := F_end_4.other W6 (Or.inr (slot_ne (Or.inr (hw _ (List.mem_of_getElem? (i := 47) rfl))) (Or.inr (hw _ (List.mem_of_getElem? (i := 43) rfl))) (by decide) (t := .int) (t' := (.object "java/lang/String")) (by decide) (by decide)))
  have F_line_6 := F_line_4.other W6 (Or.inr (slot_ne (Or.inr (hw _ (List.mem_of_getElem? (i := 49) rfl))) (Or.inr (hw _ (List.mem_of_getElem? (i := 43) rfl))) (by decide) (t := .int) (t' := (.object "java/lang/String")) (by decide) (by decide)))
  have F_column_6 := F_column_4.other W6 (Or.inr (slot_ne (Or.inr (hw _ (List.mem_of_getElem? (i := 51) rfl))) (Or.inr (hw _ (List.mem_of_getElem? (i := 43) rfl))) (by decide) (t := .int) (t' := (.object "java/lang/String")) (by decide) (by decide)))
  have F_kind_r0_6 := F_kind_r0_4.other W6 (Or.inr (slot_ne (Or.inr (hw _ (List.mem_of_getElem? (i := 41) rfl))) (Or.inr (hw _ (List.mem_of_getElem? (i := 43) rfl))) (by decide) (t := (.object "com/example/nomlog/nomlog/lang/Token$Kind")) (t' := (.object "java/lang/String")) (by decide) (by decide)))
  have Z_6 : n0 ≤ h6.size := Nat.le_trans Z_4 (Keep.of_wr W6).1
  have Kp_6 : Keep h0 h6 [r0] := Kp_4.wr W6 (Or.inl (List.mem_of_getElem? (i := 0) rfl))
  have N6 := Fr.snoc X6 N4 g_r0
  have st7 : ∀ target, Steps p.tables e below (T6.setTop (mkF m 16 #[.val (.ref r0), .val (.ref r1), .val (.ref r2), .val (.int p3), .val (.int p4), .val (.int p5), .val (.int p6)] [(.int p3), (.ref r0)])) target → Steps p.tables e below (T6.setTop (mkF m 14 #[.val (.ref r0), .val (.ref r1), .val (.ref r2), .val (.int p3), .val (.int p4), .val (.int p5), .val (.int p6)] [])) target := by
    intro target kt
    show Steps p.tables e below (T6.setTop (mkF m 14 #[.val (.ref r0), .val (.ref r1), .val (.ref r2), .val (.int p3), .val (.int p4), .val (.int p5), .val (.int p6)] [])) _
    refine XS.aloadN X6.here hx rfl (hb hby d7_14) rfl rfl ?_
    show Steps p.tables e below (T6.setTop (mkF m 15 #[.val (.ref r0), .val (.ref r1), .val (.ref r2), .val (.int p3), .val (.int p4), .val (.int p5), .val (.int p6)] [(.ref r0)])) _
    refine XS.iloadN X6.here hx rfl (hb hby d7_15) rfl ?_
    exact kt
  obtain ⟨T8, h8, X8, e8, W8, st8⟩ := putF X6 hx hZ hown (host := "") (Or.inl (hw _ (List.mem_of_getElem? (i := 44) rfl))) Via.refl e6 F_start_6 E_o_6 (Or.inr ⟨(hw _ (List.mem_of_getElem? (i := 45) rfl)), rfl, hnm⟩) (hw _ (List.mem_of_getElem? (i := 27) rfl)) (ty := .int) (by decide) rfl rfl (g := (mkF m 16 #[.val (.ref r0), .val (.ref r1), .val (.ref r2), .val (.int p3), .val (.int p4), .val (.int p5), .val (.int p6)] [(.int p3), (.ref r0)])) rfl rfl (hb hby d7_16)
  have F_start_r0_8 : Fld Z h8 r0 "com/example/nomlog/nomlog/lang/Token" "start" "I" (.int p3) := F_start_6.same W8
  have E_o_8 := E_o_6.wr W8
  have F_end_8 := F_end_6.other W8 (Or.inr (slot_ne (Or.inr (hw _ (List.mem_of_getElem? (i := 47) rfl))) (Or.inr (hw _ (List.mem_of_getElem? (i := 45) rfl))) (by decide) (t := .int) (t' := .int) (by decide) (by decide)))
  have F_line_8 := F_line_6.other W8 (Or.inr (slot_ne (Or.inr (hw _ (List.mem_of_getElem? (i := 49) rfl))) (Or.inr (hw _ (List.mem_of_getElem? (i := 45) rfl))) (by decide) (t := .int) (t' := .int) (by decide) (by decide)))
  have F_column_8 := F_column_6.other W8 (Or.inr (slot_ne (Or.inr (hw _ (List.mem_of_getElem? (i := 51) rfl))) (Or.inr (hw _ (List.mem_of_getElem? (i := 45) rfl))) (by decide) (t := .int) (t' := .int) (by decide) (by decide)))
  have F_kind_r0_8 := F_kind_r0_6.other W8 (Or.inr (slot_ne (Or.inr (hw _ (List.mem_of_getElem? (i := 41) rfl))) (Or.inr (hw _ (List.mem_of_getElem? (i := 45) rfl))) (by decide) (t := (.object "com/example/nomlog/nomlog/lang/Token$Kind")) (t' := .int) (by decide) (by decide)))
  have F_text_r0_8 := F_text_r0_6.other W8 (Or.inr (slot_ne (Or.inr (hw _ (List.mem_of_getElem? (i := 43) rfl))) (Or.inr (hw _ (List.mem_of_getElem? (i := 45) rfl))) (by decide) (t := (.object "java/lang/String")) (t' := .int) (by decide) (by decide)))
  have Z_8 : n0 ≤ h8.size := Nat.le_trans Z_6 (Keep.of_wr W8).1
  have Kp_8 : Keep h0 h8 [r0] := Kp_6.wr W8 (Or.inl (List.mem_of_getElem? (i := 0) rfl))
  have N8 := Fr.snoc X8 N6 g_r0
  have st9 : ∀ target, Steps p.tables e below (T8.setTop (mkF m 22 #[.val (.ref r0), .val (.ref r1), .val (.ref r2), .val (.int p3), .val (.int p4), .val (.int p5), .val (.int p6)] [(.int p4), (.ref r0)])) target → Steps p.tables e below (T8.setTop (mkF m 19 #[.val (.ref r0), .val (.ref r1), .val (.ref r2), .val (.int p3), .val (.int p4), .val (.int p5), .val (.int p6)] [])) target := by
    intro target kt
    show Steps p.tables e below (T8.setTop (mkF m 19 #[.val (.ref r0), .val (.ref r1), .val (.ref r2), .val (.int p3), .val (.int p4), .val (.int p5), .val (.int p6)] [])) _
    refine XS.aloadN X8.here hx rfl (hb hby d7_19) rfl rfl ?_
    show Steps p.tables e below (T8.setTop (mkF m 20 #[.val (.ref r0), .val (.ref r1), .val (.ref r2), .val (.int p3), .val (.int p4), .val (.int p5), .val (.int p6)] [(.ref r0)])) _
    refine XS.iload X8.here hx rfl (hb hby d7_20) rfl ?_
    exact kt
  obtain ⟨T10, h10, X10, e10, W10, st10⟩ := putF X8 hx hZ hown (host := "") (Or.inl (hw _ (List.mem_of_getElem? (i := 46) rfl))) Via.refl e8 F_end_8 E_o_8 (Or.inr ⟨(hw _ (List.mem_of_getElem? (i := 47) rfl)), rfl, hnm⟩) (hw _ (List.mem_of_getElem? (i := 27) rfl)) (ty := .int) (by decide) rfl rfl (g := (mkF m 22 #[.val (.ref r0), .val (.ref r1), .val (.ref r2), .val (.int p3), .val (.int p4), .val (.int p5), .val (.int p6)] [(.int p4), (.ref r0)])) rfl rfl (hb hby d7_22)
  have F_end_r0_10 : Fld Z h10 r0 "com/example/nomlog/nomlog/lang/Token" "end" "I" (.int p4) := F_end_8.same W10
  have E_o_10 := E_o_8.wr W10
  have F_line_10 := F_line_8.other W10 (Or.inr (slot_ne (Or.inr (hw _ (List.mem_of_getElem? (i := 49) rfl))) (Or.inr (hw _ (List.mem_of_getElem? (i := 47) rfl))) (by decide) (t := .int) (t' := .int) (by decide) (by decide)))
  have F_column_10 := F_column_8.other W10 (Or.inr (slot_ne (Or.inr (hw _ (List.mem_of_getElem? (i := 51) rfl))) (Or.inr (hw _ (List.mem_of_getElem? (i := 47) rfl))) (by decide) (t := .int) (t' := .int) (by decide) (by decide)))
  have F_kind_r0_10 := F_kind_r0_8.other W10 (Or.inr (slot_ne (Or.inr (hw _ (List.mem_of_getElem? (i := 41) rfl))) (Or.inr (hw _ (List.mem_of_getElem? (i := 47) rfl))) (by decide) (t := (.object "com/example/nomlog/nomlog/lang/Token$Kind")) (t' := .int) (by decide) (by decide)))
  have F_text_r0_10 := F_text_r0_8.other W10 (Or.inr (slot_ne (Or.inr (hw _ (List.mem_of_getElem? (i := 43) rfl))) (Or.inr (hw _ (List.mem_of_getElem? (i := 47) rfl))) (by decide) (t := (.object "java/lang/String")) (t' := .int) (by decide) (by decide)))
  have F_start_r0_10 := F_start_r0_8.other W10 (Or.inr (slot_ne (Or.inr (hw _ (List.mem_of_getElem? (i := 45) rfl))) (Or.inr (hw _ (List.mem_of_getElem? (i := 47) rfl))) (by decide) (t := .int) (t' := .int) (by decide) (by decide)))
  have Z_10 : n0 ≤ h10.size := Nat.le_trans Z_8 (Keep.of_wr W10).1
  have Kp_10 : Keep h0 h10 [r0] := Kp_8.wr W10 (Or.inl (List.mem_of_getElem? (i := 0) rfl))
  have N10 := Fr.snoc X10 N8 g_r0
  have st11 : ∀ target, Steps p.tables e below (T10.setTop (mkF m 28 #[.val (.ref r0), .val (.ref r1), .val (.ref r2), .val (.int p3), .val (.int p4), .val (.int p5), .val (.int p6)] [(.int p5), (.ref r0)])) target → Steps p.tables e below (T10.setTop (mkF m 25 #[.val (.ref r0), .val (.ref r1), .val (.ref r2), .val (.int p3), .val (.int p4), .val (.int p5), .val (.int p6)] [])) target := by
    intro target kt
    show Steps p.tables e below (T10.setTop (mkF m 25 #[.val (.ref r0), .val (.ref r1), .val (.ref r2), .val (.int p3), .val (.int p4), .val (.int p5), .val (.int p6)] [])) _
    refine XS.aloadN X10.here hx rfl (hb hby d7_25) rfl rfl ?_
    show Steps p.tables e below (T10.setTop (mkF m 26 #[.val (.ref r0), .val (.ref r1), .val (.ref r2), .val (.int p3), .val (.int p4), .val (.int p5), .val (.int p6)] [(.ref r0)])) _
    refine XS.iload X10.here hx rfl (hb hby d7_26) rfl ?_
    exact kt
  obtain ⟨T12, h12, X12, e12, W12, st12⟩ := putF X10 hx hZ hown (host := "") (Or.inl (hw _ (List.mem_of_getElem? (i := 48) rfl))) Via.refl e10 F_line_10 E_o_10 (Or.inr ⟨(hw _ (List.mem_of_getElem? (i := 49) rfl)), rfl, hnm⟩) (hw _ (List.mem_of_getElem? (i := 27) rfl)) (ty := .int) (by decide) rfl rfl (g := (mkF m 28 #[.val (.ref r0), .val (.ref r1), .val (.ref r2), .val (.int p3), .val (.int p4), .val (.int p5), .val (.int p6)] [(.int p5), (.ref r0)])) rfl rfl (hb hby d7_28)
  have F_line_r0_12 : Fld Z h12 r0 "com/example/nomlog/nomlog/lang/Token" "line" "I" (.int p5) := F_line_10.same W12
  have E_o_12 := E_o_10.wr W12
  have F_column_12 := F_column_10.other W12 (Or.inr (slot_ne (Or.inr (hw _ (List.mem_of_getElem? (i := 51) rfl))) (Or.inr (hw _ (List.mem_of_getElem? (i := 49) rfl))) (by decide) (t := .int) (t' := .int) (by decide) (by decide)))
  have F_kind_r0_12 := F_kind_r0_10.other W12 (Or.inr (slot_ne (Or.inr (hw _ (List.mem_of_getElem? (i := 41) rfl))) (Or.inr (hw _ (List.mem_of_getElem? (i := 49) rfl))) (by decide) (t := (.object "com/example/nomlog/nomlog/lang/Token$Kind")) (t' := .int) (by decide) (by decide)))
  have F_text_r0_12 := F_text_r0_10.other W12 (Or.inr (slot_ne (Or.inr (hw _ (List.mem_of_getElem? (i := 43) rfl))) (Or.inr (hw _ (List.mem_of_getElem? (i := 49) rfl))) (by decide) (t := (.object "java/lang/String")) (t' := .int) (by decide) (by decide)))
  have F_start_r0_12 := F_start_r0_10.other W12 (Or.inr (slot_ne (Or.inr (hw _ (List.mem_of_getElem? (i := 45) rfl))) (Or.inr (hw _ (List.mem_of_getElem? (i := 49) rfl))) (by decide) (t := .int) (t' := .int) (by decide) (by decide)))
  have F_end_r0_12 := F_end_r0_10.other W12 (Or.inr (slot_ne (Or.inr (hw _ (List.mem_of_getElem? (i := 47) rfl))) (Or.inr (hw _ (List.mem_of_getElem? (i := 49) rfl))) (by decide) (t := .int) (t' := .int) (by decide) (by decide)))
  have Z_12 : n0 ≤ h12.size := Nat.le_trans Z_10 (Keep.of_wr W12).1
  have Kp_12 : Keep h0 h12 [r0] := Kp_10.wr W12 (Or.inl (List.mem_of_getElem? (i := 0) rfl))
  have N12 := Fr.snoc X12 N10 g_r0
  have st13 : ∀ target, Steps p.tables e below (T12.setTop (mkF m 34 #[.val (.ref r0), .val (.ref r1), .val (.ref r2), .val (.int p3), .val (.int p4), .val (.int p5), .val (.int p6)] [(.int p6), (.ref r0)])) target → Steps p.tables e below (T12.setTop (mkF m 31 #[.val (.ref r0), .val (.ref r1), .val (.ref r2), .val (.int p3), .val (.int p4), .val (.int p5), .val (.int p6)] [])) target := by
    intro target kt
    show Steps p.tables e below (T12.setTop (mkF m 31 #[.val (.ref r0), .val (.ref r1), .val (.ref r2), .val (.int p3), .val (.int p4), .val (.int p5), .val (.int p6)] [])) _
    refine XS.aloadN X12.here hx rfl (hb hby d7_31) rfl rfl ?_
    show Steps p.tables e below (T12.setTop (mkF m 32 #[.val (.ref r0), .val (.ref r1), .val (.ref r2), .val (.int p3), .val (.int p4), .val (.int p5), .val (.int p6)] [(.ref r0)])) _
    refine XS.iload X12.here hx rfl (hb hby d7_32) rfl ?_
    exact kt
  obtain ⟨T14, h14, X14, e14, W14, st14⟩ := putF X12 hx hZ hown (host := "") (Or.inl (hw _ (List.mem_of_getElem? (i := 50) rfl))) Via.refl e12 F_column_12 E_o_12 (Or.inr ⟨(hw _ (List.mem_of_getElem? (i := 51) rfl)), rfl, hnm⟩) (hw _ (List.mem_of_getElem? (i := 27) rfl)) (ty := .int) (by decide) rfl rfl (g := (mkF m 34 #[.val (.ref r0), .val (.ref r1), .val (.ref r2), .val (.int p3), .val (.int p4), .val (.int p5), .val (.int p6)] [(.int p6), (.ref r0)])) rfl rfl (hb hby d7_34)
  have F_column_r0_14 : Fld Z h14 r0 "com/example/nomlog/nomlog/lang/Token" "column" "I" (.int p6) := F_column_12.same W14
  have E_o_14 := E_o_12.wr W14
  have F_kind_r0_14 := F_kind_r0_12.other W14 (Or.inr (slot_ne (Or.inr (hw _ (List.mem_of_getElem? (i := 41) rfl))) (Or.inr (hw _ (List.mem_of_getElem? (i := 51) rfl))) (by decide) (t := (.object "com/example/nomlog/nomlog/lang/Token$Kind")) (t' := .int) (by decide) (by decide)))
  have F_text_r0_14 := F_text_r0_12.other W14 (Or.inr (slot_ne (Or.inr (hw _ (List.mem_of_getElem? (i := 43) rfl))) (Or.inr (hw _ (List.mem_of_getElem? (i := 51) rfl))) (by decide) (t := (.object "java/lang/String")) (t' := .int) (by decide) (by decide)))
  have F_start_r0_14 := F_start_r0_12.other W14 (Or.inr (slot_ne (Or.inr (hw _ (List.mem_of_getElem? (i := 45) rfl))) (Or.inr (hw _ (List.mem_of_getElem? (i := 51) rfl))) (by decide) (t := .int) (t' := .int) (by decide) (by decide)))
  have F_end_r0_14 := F_end_r0_12.other W14 (Or.inr (slot_ne (Or.inr (hw _ (List.mem_of_getElem? (i := 47) rfl))) (Or.inr (hw _ (List.mem_of_getElem? (i := 51) rfl))) (by decide) (t := .int) (t' := .int) (by decide) (by decide)))
  have F_line_r0_14 := F_line_r0_12.other W14 (Or.inr (slot_ne (Or.inr (hw _ (List.mem_of_getElem? (i := 49) rfl))) (Or.inr (hw _ (List.mem_of_getElem? (i := 51) rfl))) (by decide) (t := .int) (t' := .int) (by decide) (by decide)))
  have Z_14 : n0 ≤ h14.size := Nat.le_trans Z_12 (Keep.of_wr W14).1
  have Kp_14 : Keep h0 h14 [r0] := Kp_12.wr W14 (Or.inl (List.mem_of_getElem? (i := 0) rfl))
  have N14 := Fr.snoc X14 N12 g_r0
  obtain ⟨fs, hr, hrun, hended, hW, hsame⟩ := X14.leave (v := none) (fun _ => rfl)
  refine ⟨_, _, pre0 _ (st1 _ (st2 _ (st3 _ (st4 _ (st5 _ (st6 _ (st7 _ (st8 _ (st9 _ (st10 _ (st11 _ (st12 _ (st13 _ (st14 _ ?_)))))))))))))), hrun, hended, _, _, rfl, ?_, ⟨_, rfl⟩, hW, hsame.mono (by decide) (by decide)⟩
  · show Steps p.tables e below (T14.setTop (mkF m 37 #[.val (.ref r0), .val (.ref r1), .val (.ref r2), .val (.int p3), .val (.int p4), .val (.int p5), .val (.int p6)] [])) _
    exact X14.returnOut hx Bd.returns (hb hby d7_37) hr
  · show Q_rm7 Z r0 r1 r2 p3 p4 p5 p6 h0 n0 _ T14.heap _
    rw [e14]
    exact ⟨rfl, N14, Kp_14, E_o_14, F_kind_r0_14, F_text_r0_14, F_start_r0_14, F_end_r0_14, F_line_r0_14, F_column_r0_14⟩
theorem d8_0 : decode prog_83_method_4_code 0 = .ok (.aload_n 0, 1) := by decide +kernel
theorem d8_1 : decode prog_83_method_4_code 1 = .ok (.getfield 17, 3) := by decide +kernel
theorem d8_4 : decode prog_83_method_4_code 4 = .ok (.aload_n 1, 1) := by decide +kernel
theorem d8_5 : decode prog_83_method_4_code 5 = .ok (.getfield 21, 3) := by decide +kernel
theorem d8_8 : decode prog_83_method_4_code 8 = .ok (.if_icmp .ne 7, 3) := by decide +kernel
theorem d8_11 : decode prog_83_method_4_code 11 = .ok (.iconst 1, 1) := by decide +kernel
theorem d8_12 : decode prog_83_method_4_code 12 = .ok (.goto 4, 3) := by decide +kernel
theorem d8_15 : decode prog_83_method_4_code 15 = .ok (.iconst 0, 1) := by decide +kernel
theorem d8_16 : decode prog_83_method_4_code 16 = .ok (.ireturn, 1) := by decide +kernel
theorem ef_rm8 (m : MethodId) (x0 : Addr) (x1 : Addr) : entryFrame m #[(.ref x0), (.ref x1)] 2 = mkF m 0 #[.val (.ref x0), .val (.ref x1)] [] := by first | (simp [entryFrame, mkF, argsToLocals, Value.category]; done) | rfl
def Q_rm8 (Z : State) (r0 : Addr) (r1 : Addr) (zs : Int32) (ze : Int32) (h0 : Heap) (n0 : Nat) (v : Option Value) (h : Heap) (L : List Loc) : Prop := v = some (.int (if zs = ze then (1 : Int32) else (0 : Int32))) ∧ Fr n0 L ∧ h = h0
set_option maxRecDepth 65536 in
set_option maxHeartbeats 40000000 in
theorem rm8 (l : Launch) (Z : State) (a0 : Array Value) (hw : ∀ d ∈ tables_1, d.before a0 Z = true) (ws : List Jvm.Cond) (r0 : Addr) (r1 : Addr) (zs : Int32) (ze : Int32) (h0 : Heap) (n0 : Nat) (Z0 : n0 ≤ h0.size) (F_s : Fld Z h0 r0 "com/example/nomlog/nomlog/lang/Token" "start" "I" (.int zs)) (F_e : Fld Z h0 r1 "com/example/nomlog/nomlog/lang/Token" "end" "I" (.int ze)) :
    MetFree l (⟨"com/example/nomlog/nomlog/lang/Token", "follows", "(Lcom/example/nomlog/nomlog/lang/Token;)Z"⟩ : MethodName) (head1 (Jvm.Cond.code (⟨"com/example/nomlog/nomlog/lang/Token", "follows", "(Lcom/example/nomlog/nomlog/lang/Token;)Z"⟩ : MethodName) prog_83_method_4_code 2 (some .boolean) :: ws) ({ frames := 0, cells := 0, slots := 0, locals := 0 } : Room)) (fun a U => a = #[(.ref r0), (.ref r1)] ∧ Z.Warmed39 U.vm ∧ U.heap = h0) (fun _ _ _ _ _ => True) (fun _ U o U' => ∃ v L, o = .returned v ∧ Q_rm8 Z r0 r1 zs ze h0 n0 v U'.heap L ∧ FrameEnd U o U' L ({ frames := 0, cells := 0, slots := 0, locals := 0 } : Room).cells ({ frames := 0, cells := 0, slots := 0, locals := 0 } : Room).slots) := by
  refine MetFree.of_bodySF (plainFor_of_name pn_3) hisR ?_
  intro p e s m args below meth c s₁ Bd hml0 hP hK
  obtain ⟨rfl, hZ, hh⟩ := hP
  have hx := Bd.exec
  have hby := Bd.bytes
  have hml : c.maxLocals = 2 := hml0
  have hown : s.vm.findClass "com/example/nomlog/nomlog/lang/Token" = some m.cls := findClass_of_methodNamed Bd.named
  have hnm := (name_of_methodNamed Bd.named Bd.method).1
  have X0 : Stand p l e ({ frames := 0, cells := 0, slots := 0, locals := 0 } : Room) s m #[(.ref r0), (.ref r1)] below meth c s₁ [] 0 0 := Stand.of_body Bd
  have e0 : s₁.heap = h0 := by rw [← hh, Bd.state]; rfl
  have N0 := Fr.nil n0
  have pre0 : ∀ t, Steps p.tables e below (s₁.setTop (mkF m 0 #[.val (.ref r0), .val (.ref r1)] [])) t → Steps p.tables e below (s₁.setTop (entryFrame m #[(.ref r0), (.ref r1)] 2)) t := fun t k => castTop (ef_rm8 m r0 r1) k
  have st1 : ∀ target, Steps p.tables e below (s₁.setTop (mkF m 1 #[.val (.ref r0), .val (.ref r1)] [(.ref r0)])) target → Steps p.tables e below (s₁.setTop (mkF m 0 #[.val (.ref r0), .val (.ref r1)] [])) target := by
    intro target kt
    show Steps p.tables e below (s₁.setTop (mkF m 0 #[.val (.ref r0), .val (.ref r1)] [])) _
    refine XS.aloadN X0.here hx rfl (hb hby d8_0) rfl rfl ?_
    exact kt
  obtain ⟨T2, X2, e2, st2⟩ := getF X0 hx hZ hown (host := "") (Or.inl (hw _ (List.mem_of_getElem? (i := 44) rfl))) Via.refl e0 F_s (g := (mkF m 1 #[.val (.ref r0), .val (.ref r1)] [(.ref r0)])) rfl rfl (hb hby d8_1)
  have st3 : ∀ target, Steps p.tables e below (T2.setTop (mkF m 5 #[.val (.ref r0), .val (.ref r1)] [(.ref r1), (.int zs)])) target → Steps p.tables e below (T2.setTop (mkF m 4 #[.val (.ref r0), .val (.ref r1)] [(.int zs)])) target := by
    intro target kt
    show Steps p.tables e below (T2.setTop (mkF m 4 #[.val (.ref r0), .val (.ref r1)] [(.int zs)])) _
    refine XS.aloadN X2.here hx rfl (hb hby d8_4) rfl rfl ?_
    exact kt
  obtain ⟨T4, X4, e4, st4⟩ := getF X2 hx hZ hown (host := "") (Or.inl (hw _ (List.mem_of_getElem? (i := 46) rfl))) Via.refl e2 F_e (g := (mkF m 5 #[.val (.ref r0), .val (.ref r1)] [(.ref r1), (.int zs)])) rfl rfl (hb hby d8_5)
  obtain ⟨fs, hr, hrun, hended, hW, hsame⟩ := X4.leave (v := some (.int (if zs = ze then (1 : Int32) else (0 : Int32)))) (fun h => by rw [Bd.returns] at h; cases h)
  refine ⟨_, _, pre0 _ (st1 _ (st2 _ (st3 _ (st4 _ ?_)))), hrun, hended, _, _, rfl, ?_, ⟨_, rfl⟩, hW, hsame.mono (by decide) (by decide)⟩
  · by_cases hc8 : zs = ze
    · rw [if_pos hc8] at hr
      show Steps p.tables e below (T4.setTop (mkF m 8 #[.val (.ref r0), .val (.ref r1)] [(.int ze), (.int zs)])) _
      refine XS.icmpNo X4.here hx rfl (hb hby d8_8) rfl (teq hc8).2 ?_
      show Steps p.tables e below (T4.setTop (mkF m 11 #[.val (.ref r0), .val (.ref r1)] [])) _
      refine XS.iconst X4.here hx rfl (hb hby d8_11) ?_
      show Steps p.tables e below (T4.setTop (mkF m 12 #[.val (.ref r0), .val (.ref r1)] [(.int (1 : Int32))])) _
      refine XS.goto X4.here hx rfl (pc0 := 12) (pc' := 16) rfl (hb hby d8_12) (by decide) (by decide) ?_
      show Steps p.tables e below (T4.setTop (mkF m 16 #[.val (.ref r0), .val (.ref r1)] [(.int (1 : Int32))])) _
      exact retN X4 hx (t := .boolean) Bd.returns (by simp) (hb hby d8_16) hr
    · rw [if_neg hc8] at hr
      show Steps p.tables e below (T4.setTop (mkF m 8 #[.val (.ref r0), .val (.ref r1)] [(.int ze), (.int zs)])) _
      refine XS.icmpYes X4.here hx rfl (pc0 := 8) (pc' := 15) rfl (hb hby d8_8) rfl (feq hc8).2 (by decide) (by decide) ?_
      show Steps p.tables e below (T4.setTop (mkF m 15 #[.val (.ref r0), .val (.ref r1)] [])) _
      refine XS.iconst X4.here hx rfl (hb hby d8_15) ?_
      show Steps p.tables e below (T4.setTop (mkF m 16 #[.val (.ref r0), .val (.ref r1)] [(.int (0 : Int32))])) _
      exact retN X4 hx (t := .boolean) Bd.returns (by simp) (hb hby d8_16) hr
  · show Q_rm8 Z r0 r1 zs ze h0 n0 _ T4.heap _
    rw [e4]
    exact ⟨rfl, N0, rfl⟩
theorem ef_rm0 (m : MethodId) (x0 : Int32) (x1 : Int32) (x2 : Int32) (x3 : Int32) (x4 : Int32) (x5 : Int32) : entryFrame m #[(.int x0), (.int x1), (.int x2), (.int x3), (.int x4), (.int x5)] maxLocals = mkF m 0 #[.val (.int x0), .val (.int x1), .val (.int x2), .val (.int x3), .val (.int x4), .val (.int x5), .unset, .unset, .unset, .unset, .unset] [] := by first | (simp [entryFrame, mkF, argsToLocals, Value.category, maxLocals]; done) | rfl
def Q_rm0 (Z : State) (p0 : Int32) (p1 : Int32) (p2 : Int32) (p3 : Int32) (p4 : Int32) (p5 : Int32) (cs : Int32) (h0 : Heap) (n0 : Nat) (v : Option Value) (h : Heap) (L : List Loc) : Prop := v = some (.int 1) ∧ Fr n0 L
set_option maxRecDepth 65536 in
set_option maxHeartbeats 40000000 in
theorem rm0 (l : Launch) (Z : State) (a0 : Array Value) (hw : ∀ d ∈ tables_1, d.before a0 Z = true) (ws : List Jvm.Cond) (p0 : Int32) (p1 : Int32) (p2 : Int32) (p3 : Int32) (p4 : Int32) (p5 : Int32) (cs : Int32) (h0 : Heap) (n0 : Nat) (Z0 : n0 ≤ h0.size) (SS : own_SS Z) (Od : Old Z n0 h0) (S_cs : Sta Z Z.heap "java/lang/String" "COMPACT_STRINGS" "Z" (.int cs)) (hcs : ¬ cs = 0) :
    MetFree l x (head1 (Jvm.Cond.code x code maxLocals ret :: ws) room_1) (fun a U => a = #[(.int p0), (.int p1), (.int p2), (.int p3), (.int p4), (.int p5)] ∧ Z.Warmed39 U.vm ∧ U.heap = h0) (fun _ _ _ _ _ => True) (fun _ U o U' => ∃ v L, o = .returned v ∧ Q_rm0 Z p0 p1 p2 p3 p4 p5 cs h0 n0 v U'.heap L ∧ FrameEnd U o U' L room_1.cells room_1.slots) := by
  refine MetFree.of_bodySF (plainFor_of_name pn_0) hisR ?_
  intro p e s m args below meth c s₁ Bd hml0 hP hK
  obtain ⟨rfl, hZ, hh⟩ := hP
  have hx := Bd.exec
  have hby := Bd.bytes
  have hml : c.maxLocals = 11 := hml0
  have hown : s.vm.findClass "com/example/nomlog/nomlog/lang/TokenFollowsPinLaw" = some m.cls := findClass_of_methodNamed Bd.named
  have hnm := (name_of_methodNamed Bd.named Bd.method).1
  have X0 : Stand p l e room_1 s m #[(.int p0), (.int p1), (.int p2), (.int p3), (.int p4), (.int p5)] below meth c s₁ [] 0 0 := Stand.of_body Bd
  have e0 : s₁.heap = h0 := by rw [← hh, Bd.state]; rfl
  have N0 := Fr.nil n0
  have pre0 : ∀ t, Steps p.tables e below (s₁.setTop (mkF m 0 #[.val (.int p0), .val (.int p1), .val (.int p2), .val (.int p3), .val (.int p4), .val (.int p5), .unset, .unset, .unset, .unset, .unset] [])) t → Steps p.tables e below (s₁.setTop (entryFrame m #[(.int p0), (.int p1), (.int p2), (.int p3), (.int p4), (.int p5)] maxLocals)) t := fun t k => castTop (ef_rm0 m p0 p1 p2 p3 p4 p5) k
  have st1 : ∀ target, Steps p.tables e below (s₁.setTop (mkF m 10 #[.val (.int p0), .val (.int p1), .val (.int p2), .val (.int p3), .val (.int p4), .val (.int p5), .unset, .unset, .unset, .unset, .unset] [(.int ((((p5.toUInt32 >>> ((8 : Int32) &&& 31).toUInt32).toInt32) &&& (255 : Int32)).toUInt32.toUInt16.toUInt32.toInt32))])) target → Steps p.tables e below (s₁.setTop (mkF m 0 #[.val (.int p0), .val (.int p1), .val (.int p2), .val (.int p3), .val (.int p4), .val (.int p5), .unset, .unset, .unset, .unset, .unset] [])) target := by
    intro target kt
    show Steps p.tables e below (s₁.setTop (mkF m 0 #[.val (.int p0), .val (.int p1), .val (.int p2), .val (.int p3), .val (.int p4), .val (.int p5), .unset, .unset, .unset, .unset, .unset] [])) _
    refine XS.iload X0.here hx rfl (hb hby at_0) rfl ?_
    show Steps p.tables e below (s₁.setTop (mkF m 2 #[.val (.int p0), .val (.int p1), .val (.int p2), .val (.int p3), .val (.int p4), .val (.int p5), .unset, .unset, .unset, .unset, .unset] [(.int p5)])) _
    refine XS.bipush X0.here hx rfl (hb hby at_2) ?_
    show Steps p.tables e below (s₁.setTop (mkF m 4 #[.val (.int p0), .val (.int p1), .val (.int p2), .val (.int p3), .val (.int p4), .val (.int p5), .unset, .unset, .unset, .unset, .unset] [(.int (8 : Int32)), (.int p5)])) _
    refine XS.iushr X0.here hx rfl (hb hby at_4) rfl ?_
    show Steps p.tables e below (s₁.setTop (mkF m 5 #[.val (.int p0), .val (.int p1), .val (.int p2), .val (.int p3), .val (.int p4), .val (.int p5), .unset, .unset, .unset, .unset, .unset] [(.int ((p5.toUInt32 >>> ((8 : Int32) &&& 31).toUInt32).toInt32))])) _
    refine XS.sipush X0.here hx rfl (hb hby at_5) ?_
    show Steps p.tables e below (s₁.setTop (mkF m 8 #[.val (.int p0), .val (.int p1), .val (.int p2), .val (.int p3), .val (.int p4), .val (.int p5), .unset, .unset, .unset, .unset, .unset] [(.int (255 : Int32)), (.int ((p5.toUInt32 >>> ((8 : Int32) &&& 31).toUInt32).toInt32))])) _
    refine XS.iand X0.here hx rfl (hb hby at_8) rfl ?_
    show Steps p.tables e below (s₁.setTop (mkF m 9 #[.val (.int p0), .val (.int p1), .val (.int p2), .val (.int p3), .val (.int p4), .val (.int p5), .unset, .unset, .unset, .unset, .unset] [(.int (((p5.toUInt32 >>> ((8 : Int32) &&& 31).toUInt32).toInt32) &&& (255 : Int32)))])) _
    refine XS.i2c X0.here hx rfl (hb hby at_9) rfl ?_
    exact kt
  obtain ⟨_, _, ⟨T2, L2, k2, n2⟩, -, X2, ⟨Lc2, hQ2, l2, y2, z2⟩, st2⟩ := Jvm.LawKit.callS X0 hx (y := (⟨"java/lang/String", "valueOf", "(C)Ljava/lang/String;"⟩ : MethodName)) hown (mvT hZ (hw _ (List.mem_of_getElem? (i := 0) rfl))) (mvT hZ (hw _ (List.mem_of_getElem? (i := 1) rfl))) (mvT hZ (hw _ (List.mem_of_getElem? (i := 2) rfl))) (mvT hZ (hw _ (List.mem_of_getElem? (i := 3) rfl))) (by decide) (backOf (W := 0) (rm1 l Z a0 hw [] ((((p5.toUInt32 >>> ((8 : Int32) &&& 31).toUInt32).toInt32) &&& (255 : Int32)).toUInt32.toUInt16.toUInt32.toInt32) cs h0 n0 Z0 (S_cs.ext Od.2) hcs (own_char ((p5.toUInt32 >>> ((8 : Int32) &&& 31).toUInt32).toInt32))) hZ (hw _ (List.mem_of_getElem? (i := 3) rfl)) (hw _ (List.mem_of_getElem? (i := 2) rfl)) (by decide) (by decide)) (g := (mkF m 10 #[.val (.int p0), .val (.int p1), .val (.int p2), .val (.int p3), .val (.int p4), .val (.int p5), .unset, .unset, .unset, .unset, .unset] [(.int ((((p5.toUInt32 >>> ((8 : Int32) &&& 31).toUInt32).toInt32) &&& (255 : Int32)).toUInt32.toUInt16.toUInt32.toInt32))])) rfl (by rw [hml]; rfl) (argsL := [(.int ((((p5.toUInt32 >>> ((8 : Int32) &&& 31).toUInt32).toInt32) &&& (255 : Int32)).toUInt32.toUInt16.toUInt32.toInt32))]) (rest := []) (lenOf pd_0 rfl) rfl (by show 2 * 0 + _ ≤ _; exact Nat.le_of_eq rfl) (hb hby at_10) (fun _ _ => ⟨rfl, e0, (by decide : 0 + 2 ≤ _), (by decide : 0 + 5 ≤ _)⟩)
  dsimp only [Pt.U, Pt.locs, Pt.cells, Pt.slots] at X2 l2 y2 z2 st2 hQ2
  subst l2 y2 z2
  obtain ⟨t2, rfl, Nq2, K2, sz2, Et2⟩ := hQ2
  have N2 := Fr.app N0 Nq2
  have g_t2 : n0 ≤ t2 := Nat.le_trans Z0 sz2
  have Od_2 := Od.keep K2 (all0)
  have Z_2 : n0 ≤ T2.heap.size := Nat.le_trans Z0 K2.1
  have st3 : ∀ target, Steps p.tables e below (T2.setTop (mkF m 25 #[.val (.int p0), .val (.int p1), .val (.int p2), .val (.int p3), .val (.int p4), .val (.int p5), .val (.ref t2), .unset, .unset, .unset, .unset] [(.int ((((p5.toUInt32 >>> ((16 : Int32) &&& 31).toUInt32).toInt32) &&& (255 : Int32)).toUInt32.toUInt16.toUInt32.toInt32))])) target → Steps p.tables e below (T2.setTop (mkF m 13 #[.val (.int p0), .val (.int p1), .val (.int p2), .val (.int p3), .val (.int p4), .val (.int p5), .unset, .unset, .unset, .unset, .unset] [(.ref t2)])) target := by
    intro target kt
    show Steps p.tables e below (T2.setTop (mkF m 13 #[.val (.int p0), .val (.int p1), .val (.int p2), .val (.int p3), .val (.int p4), .val (.int p5), .unset, .unset, .unset, .unset, .unset] [(.ref t2)])) _
    refine XS.astore X2.here hx rfl (hb hby at_13) rfl rfl (l' := #[.val (.int p0), .val (.int p1), .val (.int p2), .val (.int p3), .val (.int p4), .val (.int p5), .val (.ref t2), .unset, .unset, .unset, .unset]) rfl ?_
    show Steps p.tables e below (T2.setTop (mkF m 15 #[.val (.int p0), .val (.int p1), .val (.int p2), .val (.int p3), .val (.int p4), .val (.int p5), .val (.ref t2), .unset, .unset, .unset, .unset] [])) _
    refine XS.iload X2.here hx rfl (hb hby at_15) rfl ?_
    show Steps p.tables e below (T2.setTop (mkF m 17 #[.val (.int p0), .val (.int p1), .val (.int p2), .val (.int p3), .val (.int p4), .val (.int p5), .val (.ref t2), .unset, .unset, .unset, .unset] [(.int p5)])) _
    refine XS.bipush X2.here hx rfl (hb hby at_17) ?_
    show Steps p.tables e below (T2.setTop (mkF m 19 #[.val (.int p0), .val (.int p1), .val (.int p2), .val (.int p3), .val (.int p4), .val (.int p5), .val (.ref t2), .unset, .unset, .unset, .unset] [(.int (16 : Int32)), (.int p5)])) _
    refine XS.iushr X2.here hx rfl (hb hby at_19) rfl ?_
    show Steps p.tables e below (T2.setTop (mkF m 20 #[.val (.int p0), .val (.int p1), .val (.int p2), .val (.int p3), .val (.int p4), .val (.int p5), .val (.ref t2), .unset, .unset, .unset, .unset] [(.int ((p5.toUInt32 >>> ((16 : Int32) &&& 31).toUInt32).toInt32))])) _
    refine XS.sipush X2.here hx rfl (hb hby at_20) ?_
    show Steps p.tables e below (T2.setTop (mkF m 23 #[.val (.int p0), .val (.int p1), .val (.int p2), .val (.int p3), .val (.int p4), .val (.int p5), .val (.ref t2), .unset, .unset, .unset, .unset] [(.int (255 : Int32)), (.int ((p5.toUInt32 >>> ((16 : Int32) &&& 31).toUInt32).toInt32))])) _
    refine XS.iand X2.here hx rfl (hb hby at_23) rfl ?_
    show Steps p.tables e below (T2.setTop (mkF m 24 #[.val (.int p0), .val (.int p1), .val (.int p2), .val (.int p3), .val (.int p4), .val (.int p5), .val (.ref t2), .unset, .unset, .unset, .unset] [(.int (((p5.toUInt32 >>> ((16 : Int32) &&& 31).toUInt32).toInt32) &&& (255 : Int32)))])) _
    refine XS.i2c X2.here hx rfl (hb hby at_24) rfl ?_
    exact kt
  obtain ⟨_, _, ⟨T4, L4, k4, n4⟩, -, X4, ⟨Lc4, hQ4, l4, y4, z4⟩, st4⟩ := Jvm.LawKit.callS X2 hx (y := (⟨"java/lang/String", "valueOf", "(C)Ljava/lang/String;"⟩ : MethodName)) hown (mvT hZ (hw _ (List.mem_of_getElem? (i := 0) rfl))) (mvT hZ (hw _ (List.mem_of_getElem? (i := 1) rfl))) (mvT hZ (hw _ (List.mem_of_getElem? (i := 2) rfl))) (mvT hZ (hw _ (List.mem_of_getElem? (i := 3) rfl))) (by decide) (backOf (W := 0) (rm1 l Z a0 hw [] ((((p5.toUInt32 >>> ((16 : Int32) &&& 31).toUInt32).toInt32) &&& (255 : Int32)).toUInt32.toUInt16.toUInt32.toInt32) cs T2.heap n0 Z_2 (S_cs.ext Od_2.2) hcs (own_char ((p5.toUInt32 >>> ((16 : Int32) &&& 31).toUInt32).toInt32))) hZ (hw _ (List.mem_of_getElem? (i := 3) rfl)) (hw _ (List.mem_of_getElem? (i := 2) rfl)) (by decide) (by decide)) (g := (mkF m 25 #[.val (.int p0), .val (.int p1), .val (.int p2), .val (.int p3), .val (.int p4), .val (.int p5), .val (.ref t2), .unset, .unset, .unset, .unset] [(.int ((((p5.toUInt32 >>> ((16 : Int32) &&& 31).toUInt32).toInt32) &&& (255 : Int32)).toUInt32.toUInt16.toUInt32.toInt32))])) rfl (by rw [hml]; rfl) (argsL := [(.int ((((p5.toUInt32 >>> ((16 : Int32) &&& 31).toUInt32).toInt32) &&& (255 : Int32)).toUInt32.toUInt16.toUInt32.toInt32))]) (rest := []) (lenOf pd_0 rfl) rfl (by show 2 * 0 + _ ≤ _; exact Nat.le_of_eq rfl) (hb hby at_25) (fun _ _ => ⟨rfl, rfl, (by decide : 2 + 2 ≤ _), (by decide : 5 + 5 ≤ _)⟩)
  dsimp only [Pt.U, Pt.locs, Pt.cells, Pt.slots] at X4 l4 y4 z4 st4 hQ4
  subst l4 y4 z4
  obtain ⟨t4, rfl, Nq4, K4, sz4, Et4⟩ := hQ4
  have N4 := Fr.app N2 Nq4
  have g_t4 : n0 ≤ t4 := Nat.le_trans Z_2 sz4
  have ne_t2_t4 : t2 ≠ t4 := Nat.ne_of_lt (Nat.lt_of_lt_of_le Et2.lt sz4)
  have Od_4 := Od_2.keep K4 (all0)
  have Et2_4 := Et2.keep K4
  have Z_4 : n0 ≤ T4.heap.size := Nat.le_trans Z_2 K4.1
  have st5 : ∀ target, Steps p.tables e below (T4.setTop (mkF m 30 #[.val (.int p0), .val (.int p1), .val (.int p2), .val (.int p3), .val (.int p4), .val (.int p5), .val (.ref t2), .val (.ref t4), .unset, .unset, .unset] [])) target → Steps p.tables e below (T4.setTop (mkF m 28 #[.val (.int p0), .val (.int p1), .val (.int p2), .val (.int p3), .val (.int p4), .val (.int p5), .val (.ref t2), .unset, .unset, .unset, .unset] [(.ref t4)])) target := by
    intro target kt
    show Steps p.tables e below (T4.setTop (mkF m 28 #[.val (.int p0), .val (.int p1), .val (.int p2), .val (.int p3), .val (.int p4), .val (.int p5), .val (.ref t2), .unset, .unset, .unset, .unset] [(.ref t4)])) _
    refine XS.astore X4.here hx rfl (hb hby at_28) rfl rfl (l' := #[.val (.int p0), .val (.int p1), .val (.int p2), .val (.int p3), .val (.int p4), .val (.int p5), .val (.ref t2), .val (.ref t4), .unset, .unset, .unset]) rfl ?_
    exact kt
  obtain ⟨T6, h6, X6, e6, E6, A6, D6, -, st6⟩ := newO X4 hx hZ hown (hw _ (List.mem_of_getElem? (i := 26) rfl)) (hw _ (List.mem_of_getElem? (i := 27) rfl)) (hw _ (List.mem_of_getElem? (i := 28) rfl)) rfl (g := (mkF m 30 #[.val (.int p0), .val (.int p1), .val (.int p2), .val (.int p3), .val (.int p4), .val (.int p5), .val (.ref t2), .val (.ref t4), .unset, .unset, .unset] [])) rfl (hb hby at_30) (by decide) (by decide)
  obtain ⟨a, g6⟩ : ∃ z, z = T4.heap.size := ⟨_, rfl⟩
  rw [← g6] at A6 D6 st6
  have g_a : n0 ≤ a := Nat.le_trans Z_4 (Nat.le_of_eq g6.symm)
  have ne_t2_a : t2 ≠ a := Nat.ne_of_lt (Nat.lt_of_lt_of_le Et2_4.lt (Nat.le_of_eq g6.symm))
  have ne_t4_a : t4 ≠ a := Nat.ne_of_lt (Nat.lt_of_lt_of_le Et4.lt (Nat.le_of_eq g6.symm))
  have Od_6 := Od_4.ext E6
  have Et2_6 := Et2_4.ext E6
  have Et4_6 := Et4.ext E6
  have Z_6 : n0 ≤ h6.size := Nat.le_trans Z_4 E6.1
  have E_a : Exa Z h6 a "com/example/nomlog/nomlog/lang/Token" := A6
  have F_kind_a : Fld Z h6 a "com/example/nomlog/nomlog/lang/Token" "kind" "Lcom/example/nomlog/nomlog/lang/Token$Kind;" .null := D6 (Or.inr (hw _ (List.mem_of_getElem? (i := 41) rfl))) (ty := (.object "com/example/nomlog/nomlog/lang/Token$Kind")) (by decide)
  have F_text_a : Fld Z h6 a "com/example/nomlog/nomlog/lang/Token" "text" "Ljava/lang/String;" .null := D6 (Or.inr (hw _ (List.mem_of_getElem? (i := 43) rfl))) (ty := (.object "java/lang/String")) (by decide)
  have F_start_a : Fld Z h6 a "com/example/nomlog/nomlog/lang/Token" "start" "I" (.int (0 : Int32)) := D6 (Or.inr (hw _ (List.mem_of_getElem? (i := 45) rfl))) (ty := .int) (by decide)
  have F_end_a : Fld Z h6 a "com/example/nomlog/nomlog/lang/Token" "end" "I" (.int (0 : Int32)) := D6 (Or.inr (hw _ (List.mem_of_getElem? (i := 47) rfl))) (ty := .int) (by decide)
  have F_line_a : Fld Z h6 a "com/example/nomlog/nomlog/lang/Token" "line" "I" (.int (0 : Int32)) := D6 (Or.inr (hw _ (List.mem_of_getElem? (i := 49) rfl))) (ty := .int) (by decide)
  have F_column_a : Fld Z h6 a "com/example/nomlog/nomlog/lang/Token" "column" "I" (.int (0 : Int32)) := D6 (Or.inr (hw _ (List.mem_of_getElem? (i := 51) rfl))) (ty := .int) (by decide)
  have st7 : ∀ target, Steps p.tables e below (T6.setTop (mkF m 36 #[.val (.int p0), .val (.int p1), .val (.int p2), .val (.int p3), .val (.int p4), .val (.int p5), .val (.ref t2), .val (.ref t4), .unset, .unset, .unset] [(.int p5), (.ref a), (.ref a)])) target → Steps p.tables e below (T6.setTop (mkF m 33 #[.val (.int p0), .val (.int p1), .val (.int p2), .val (.int p3), .val (.int p4), .val (.int p5), .val (.ref t2), .val (.ref t4), .unset, .unset, .unset] [(.ref a)])) target := by
    intro target kt
    show Steps p.tables e below (T6.setTop (mkF m 33 #[.val (.int p0), .val (.int p1), .val (.int p2), .val (.int p3), .val (.int p4), .val (.int p5), .val (.ref t2), .val (.ref t4), .unset, .unset, .unset] [(.ref a)])) _
    refine XS.dup X6.here hx rfl (hb hby at_33) rfl rfl ?_
    show Steps p.tables e below (T6.setTop (mkF m 34 #[.val (.int p0), .val (.int p1), .val (.int p2), .val (.int p3), .val (.int p4), .val (.int p5), .val (.ref t2), .val (.ref t4), .unset, .unset, .unset] [(.ref a), (.ref a)])) _
    refine XS.iload X6.here hx rfl (hb hby at_34) rfl ?_
    exact kt
  obtain ⟨_, _, ⟨T8, L8, k8, n8⟩, -, X8, ⟨Lc8, hQ8, l8, y8, z8⟩, st8⟩ := Jvm.LawKit.callS X6 hx (y := (⟨"com/example/nomlog/nomlog/lang/TokenFollowsPinLaw", "kindOf", "(I)Lcom/example/nomlog/nomlog/lang/Token$Kind;"⟩ : MethodName)) hown (mvT hZ (hw _ (List.mem_of_getElem? (i := 29) rfl))) (mvT hZ (hw _ (List.mem_of_getElem? (i := 30) rfl))) (mvT hZ (hw _ (List.mem_of_getElem? (i := 31) rfl))) (mvT hZ (hw _ (List.mem_of_getElem? (i := 32) rfl))) (by decide) (backOf (W := 2) (rm6 l Z a0 hw [] p5  h6 n0 Z_6 SS Od_6) hZ (hw _ (List.mem_of_getElem? (i := 32) rfl)) (hw _ (List.mem_of_getElem? (i := 31) rfl)) (by decide) (by decide)) (g := (mkF m 36 #[.val (.int p0), .val (.int p1), .val (.int p2), .val (.int p3), .val (.int p4), .val (.int p5), .val (.ref t2), .val (.ref t4), .unset, .unset, .unset] [(.int p5), (.ref a), (.ref a)])) rfl (by rw [hml]; rfl) (argsL := [(.int p5)]) (rest := [(.ref a), (.ref a)]) (lenOf pd_5 rfl) rfl (by show 2 * 0 + _ ≤ _; exact Nat.le_of_eq rfl) (hb hby at_36) (fun _ _ => ⟨rfl, e6, (by decide : 5 + 0 ≤ _), (by decide : 16 + 0 ≤ _)⟩)
  dsimp only [Pt.U, Pt.locs, Pt.cells, Pt.slots] at X8 l8 y8 z8 st8 hQ8
  subst l8 y8 z8
  obtain ⟨z8, rfl, Nq8, e8⟩ := hQ8
  have N8 := Fr.app N4 Nq8
  have st9 : ∀ target, Steps p.tables e below (T8.setTop (mkF m 49 #[.val (.int p0), .val (.int p1), .val (.int p2), .val (.int p3), .val (.int p4), .val (.int p5), .val (.ref t2), .val (.ref t4), .unset, .unset, .unset] [(.int (p4 ^^^ (-1 : Int32))), (.int p4), (.int p0), (.int p2), (.ref t2), (.ref z8), (.ref a), (.ref a)])) target → Steps p.tables e below (T8.setTop (mkF m 39 #[.val (.int p0), .val (.int p1), .val (.int p2), .val (.int p3), .val (.int p4), .val (.int p5), .val (.ref t2), .val (.ref t4), .unset, .unset, .unset] [(.ref z8), (.ref a), (.ref a)])) target := by
    intro target kt
    show Steps p.tables e below (T8.setTop (mkF m 39 #[.val (.int p0), .val (.int p1), .val (.int p2), .val (.int p3), .val (.int p4), .val (.int p5), .val (.ref t2), .val (.ref t4), .unset, .unset, .unset] [(.ref z8), (.ref a), (.ref a)])) _
    refine XS.aload X8.here hx rfl (hb hby at_39) rfl rfl ?_
    show Steps p.tables e below (T8.setTop (mkF m 41 #[.val (.int p0), .val (.int p1), .val (.int p2), .val (.int p3), .val (.int p4), .val (.int p5), .val (.ref t2), .val (.ref t4), .unset, .unset, .unset] [(.ref t2), (.ref z8), (.ref a), (.ref a)])) _
    refine XS.iloadN X8.here hx rfl (hb hby at_41) rfl ?_
    show Steps p.tables e below (T8.setTop (mkF m 42 #[.val (.int p0), .val (.int p1), .val (.int p2), .val (.int p3), .val (.int p4), .val (.int p5), .val (.ref t2), .val (.ref t4), .unset, .unset, .unset] [(.int p2), (.ref t2), (.ref z8), (.ref a), (.ref a)])) _
    refine XS.iloadN X8.here hx rfl (hb hby at_42) rfl ?_
    show Steps p.tables e below (T8.setTop (mkF m 43 #[.val (.int p0), .val (.int p1), .val (.int p2), .val (.int p3), .val (.int p4), .val (.int p5), .val (.ref t2), .val (.ref t4), .unset, .unset, .unset] [(.int p0), (.int p2), (.ref t2), (.ref z8), (.ref a), (.ref a)])) _
    refine XS.iload X8.here hx rfl (hb hby at_43) rfl ?_
    show Steps p.tables e below (T8.setTop (mkF m 45 #[.val (.int p0), .val (.int p1), .val (.int p2), .val (.int p3), .val (.int p4), .val (.int p5), .val (.ref t2), .val (.ref t4), .unset, .unset, .unset] [(.int p4), (.int p0), (.int p2), (.ref t2), (.ref z8), (.ref a), (.ref a)])) _
    refine XS.iload X8.here hx rfl (hb hby at_45) rfl ?_
    show Steps p.tables e below (T8.setTop (mkF m 47 #[.val (.int p0), .val (.int p1), .val (.int p2), .val (.int p3), .val (.int p4), .val (.int p5), .val (.ref t2), .val (.ref t4), .unset, .unset, .unset] [(.int p4), (.int p4), (.int p0), (.int p2), (.ref t2), (.ref z8), (.ref a), (.ref a)])) _
    refine XS.iconst X8.here hx rfl (hb hby at_47) ?_
    show Steps p.tables e below (T8.setTop (mkF m 48 #[.val (.int p0), .val (.int p1), .val (.int p2), .val (.int p3), .val (.int p4), .val (.int p5), .val (.ref t2), .val (.ref t4), .unset, .unset, .unset] [(.int (-1 : Int32)), (.int p4), (.int p4), (.int p0), (.int p2), (.ref t2), (.ref z8), (.ref a), (.ref a)])) _
    refine XS.ixor X8.here hx rfl (hb hby at_48) rfl ?_
    exact kt
  obtain ⟨_, _, ⟨T10, L10, k10, n10⟩, -, X10, ⟨Lc10, hQ10, l10, y10, z10⟩, st10⟩ := X8.specialBack hx (y := (⟨"com/example/nomlog/nomlog/lang/Token", "<init>", "(Lcom/example/nomlog/nomlog/lang/Token$Kind;Ljava/lang/String;IIII)V"⟩ : MethodName)) rfl hown (mvT hZ (hw _ (List.mem_of_getElem? (i := 36) rfl))) (mvT hZ (hw _ (List.mem_of_getElem? (i := 37) rfl))) (mvT hZ (hw _ (List.mem_of_getElem? (i := 38) rfl))) (by decide) (backOf (W := 1) (rm7 l Z a0 hw [] a z8 t2 p2 p0 p4 (p4 ^^^ (-1 : Int32))  h6 n0 Z_6 F_kind_a F_text_a F_start_a F_end_a F_line_a F_column_a E_a g_a) hZ (hw _ (List.mem_of_getElem? (i := 38) rfl)) (hw _ (List.mem_of_getElem? (i := 28) rfl)) (by decide) (by decide)) (g := (mkF m 49 #[.val (.int p0), .val (.int p1), .val (.int p2), .val (.int p3), .val (.int p4), .val (.int p5), .val (.ref t2), .val (.ref t4), .unset, .unset, .unset] [(.int (p4 ^^^ (-1 : Int32))), (.int p4), (.int p0), (.int p2), (.ref t2), (.ref z8), (.ref a), (.ref a)])) rfl (by rw [hml]; rfl) (Steps.refl _) (a := a) (argsL := [(.ref z8), (.ref t2), (.int p2), (.int p0), (.int p4), (.int (p4 ^^^ (-1 : Int32)))]) (rest := [(.ref a)]) (lenOf pd_6 rfl) rfl (by show 2 * 0 + _ ≤ _; exact Nat.le_of_eq rfl) (hb hby at_49) (fun _ _ => ⟨rfl, e8, (by decide : 5 + 0 ≤ _), (by decide : 16 + 0 ≤ _)⟩)
  dsimp only [Pt.U, Pt.locs, Pt.cells, Pt.slots] at X10 l10 y10 z10 st10 hQ10
  subst l10 y10 z10
  obtain ⟨rfl, Nq10, K10, E_a_i, F_kind_a_i, F_text_a_i, F_start_a_i, F_end_a_i, F_line_a_i, F_column_a_i⟩ := hQ10
  have N10 := Fr.app N8 Nq10
  have Od_10 := Od_6.keep K10 (allS g_a (all0))
  have Et2_10 := Et2_6.keep K10
  have Et4_10 := Et4_6.keep K10
  have E_a_10 := E_a.keep K10
  have Z_10 : n0 ≤ T10.heap.size := Nat.le_trans Z_6 K10.1
  have st11 : ∀ target, Steps p.tables e below (T10.setTop (mkF m 54 #[.val (.int p0), .val (.int p1), .val (.int p2), .val (.int p3), .val (.int p4), .val (.int p5), .val (.ref t2), .val (.ref t4), .val (.ref a), .unset, .unset] [])) target → Steps p.tables e below (T10.setTop (mkF m 52 #[.val (.int p0), .val (.int p1), .val (.int p2), .val (.int p3), .val (.int p4), .val (.int p5), .val (.ref t2), .val (.ref t4), .unset, .unset, .unset] [(.ref a)])) target := by
    intro target kt
    show Steps p.tables e below (T10.setTop (mkF m 52 #[.val (.int p0), .val (.int p1), .val (.int p2), .val (.int p3), .val (.int p4), .val (.int p5), .val (.ref t2), .val (.ref t4), .unset, .unset, .unset] [(.ref a)])) _
    refine XS.astore X10.here hx rfl (hb hby at_52) rfl rfl (l' := #[.val (.int p0), .val (.int p1), .val (.int p2), .val (.int p3), .val (.int p4), .val (.int p5), .val (.ref t2), .val (.ref t4), .val (.ref a), .unset, .unset]) rfl ?_
    exact kt
  obtain ⟨T12, h12, X12, e12, E12, A12, D12, -, st12⟩ := newO X10 hx hZ hown (hw _ (List.mem_of_getElem? (i := 26) rfl)) (hw _ (List.mem_of_getElem? (i := 27) rfl)) (hw _ (List.mem_of_getElem? (i := 28) rfl)) rfl (g := (mkF m 54 #[.val (.int p0), .val (.int p1), .val (.int p2), .val (.int p3), .val (.int p4), .val (.int p5), .val (.ref t2), .val (.ref t4), .val (.ref a), .unset, .unset] [])) rfl (hb hby at_54) (by decide) (by decide)
  obtain ⟨b, g12⟩ : ∃ z, z = T10.heap.size := ⟨_, rfl⟩
  rw [← g12] at A12 D12 st12
  have g_b : n0 ≤ b := Nat.le_trans Z_10 (Nat.le_of_eq g12.symm)
  have ne_t2_b : t2 ≠ b := Nat.ne_of_lt (Nat.lt_of_lt_of_le Et2_10.lt (Nat.le_of_eq g12.symm))
  have ne_t4_b : t4 ≠ b := Nat.ne_of_lt (Nat.lt_of_lt_of_le Et4_10.lt (Nat.le_of_eq g12.symm))
  have ne_a_b : a ≠ b := Nat.ne_of_lt (Nat.lt_of_lt_of_le E_a_i.lt (Nat.le_of_eq g12.symm))
  have Od_12 := Od_10.ext E12
  have Et2_12 := Et2_10.ext E12
  have Et4_12 := Et4_10.ext E12
  have E_a_i_12 := E_a_i.ext E12
  have F_kind_a_i_12 := F_kind_a_i.ext E12
  have F_text_a_i_12 := F_text_a_i.ext E12
  have F_start_a_i_12 := F_start_a_i.ext E12
  have F_end_a_i_12 := F_end_a_i.ext E12
  have F_line_a_i_12 := F_line_a_i.ext E12
  have F_column_a_i_12 := F_column_a_i.ext E12
  have Z_12 : n0 ≤ h12.size := Nat.le_trans Z_10 E12.1
  have E_b : Exa Z h12 b "com/example/nomlog/nomlog/lang/Token" := A12
  have F_kind_b : Fld Z h12 b "com/example/nomlog/nomlog/lang/Token" "kind" "Lcom/example/nomlog/nomlog/lang/Token$Kind;" .null := D12 (Or.inr (hw _ (List.mem_of_getElem? (i := 41) rfl))) (ty := (.object "com/example/nomlog/nomlog/lang/Token$Kind")) (by decide)
  have F_text_b : Fld Z h12 b "com/example/nomlog/nomlog/lang/Token" "text" "Ljava/lang/String;" .null := D12 (Or.inr (hw _ (List.mem_of_getElem? (i := 43) rfl))) (ty := (.object "java/lang/String")) (by decide)
  have F_start_b : Fld Z h12 b "com/example/nomlog/nomlog/lang/Token" "start" "I" (.int (0 : Int32)) := D12 (Or.inr (hw _ (List.mem_of_getElem? (i := 45) rfl))) (ty := .int) (by decide)
  have F_end_b : Fld Z h12 b "com/example/nomlog/nomlog/lang/Token" "end" "I" (.int (0 : Int32)) := D12 (Or.inr (hw _ (List.mem_of_getElem? (i := 47) rfl))) (ty := .int) (by decide)
  have F_line_b : Fld Z h12 b "com/example/nomlog/nomlog/lang/Token" "line" "I" (.int (0 : Int32)) := D12 (Or.inr (hw _ (List.mem_of_getElem? (i := 49) rfl))) (ty := .int) (by decide)
  have F_column_b : Fld Z h12 b "com/example/nomlog/nomlog/lang/Token" "column" "I" (.int (0 : Int32)) := D12 (Or.inr (hw _ (List.mem_of_getElem? (i := 51) rfl))) (ty := .int) (by decide)
  have st13 : ∀ target, Steps p.tables e below (T12.setTop (mkF m 62 #[.val (.int p0), .val (.int p1), .val (.int p2), .val (.int p3), .val (.int p4), .val (.int p5), .val (.ref t2), .val (.ref t4), .val (.ref a), .unset, .unset] [(.int ((p5.toUInt32 >>> ((4 : Int32) &&& 31).toUInt32).toInt32)), (.ref b), (.ref b)])) target → Steps p.tables e below (T12.setTop (mkF m 57 #[.val (.int p0), .val (.int p1), .val (.int p2), .val (.int p3), .val (.int p4), .val (.int p5), .val (.ref t2), .val (.ref t4), .val (.ref a), .unset, .unset] [(.ref b)])) target := by
    intro target kt
    show Steps p.tables e below (T12.setTop (mkF m 57 #[.val (.int p0), .val (.int p1), .val (.int p2), .val (.int p3), .val (.int p4), .val (.int p5), .val (.ref t2), .val (.ref t4), .val (.ref a), .unset, .unset] [(.ref b)])) _
    refine XS.dup X12.here hx rfl (hb hby at_57) rfl rfl ?_
    show Steps p.tables e below (T12.setTop (mkF m 58 #[.val (.int p0), .val (.int p1), .val (.int p2), .val (.int p3), .val (.int p4), .val (.int p5), .val (.ref t2), .val (.ref t4), .val (.ref a), .unset, .unset] [(.ref b), (.ref b)])) _
    refine XS.iload X12.here hx rfl (hb hby at_58) rfl ?_
    show Steps p.tables e below (T12.setTop (mkF m 60 #[.val (.int p0), .val (.int p1), .val (.int p2), .val (.int p3), .val (.int p4), .val (.int p5), .val (.ref t2), .val (.ref t4), .val (.ref a), .unset, .unset] [(.int p5), (.ref b), (.ref b)])) _
    refine XS.iconst X12.here hx rfl (hb hby at_60) ?_
    show Steps p.tables e below (T12.setTop (mkF m 61 #[.val (.int p0), .val (.int p1), .val (.int p2), .val (.int p3), .val (.int p4), .val (.int p5), .val (.ref t2), .val (.ref t4), .val (.ref a), .unset, .unset] [(.int (4 : Int32)), (.int p5), (.ref b), (.ref b)])) _
    refine XS.iushr X12.here hx rfl (hb hby at_61) rfl ?_
    exact kt
  obtain ⟨_, _, ⟨T14, L14, k14, n14⟩, -, X14, ⟨Lc14, hQ14, l14, y14, z14⟩, st14⟩ := Jvm.LawKit.callS X12 hx (y := (⟨"com/example/nomlog/nomlog/lang/TokenFollowsPinLaw", "kindOf", "(I)Lcom/example/nomlog/nomlog/lang/Token$Kind;"⟩ : MethodName)) hown (mvT hZ (hw _ (List.mem_of_getElem? (i := 29) rfl))) (mvT hZ (hw _ (List.mem_of_getElem? (i := 30) rfl))) (mvT hZ (hw _ (List.mem_of_getElem? (i := 31) rfl))) (mvT hZ (hw _ (List.mem_of_getElem? (i := 32) rfl))) (by decide) (backOf (W := 2) (rm6 l Z a0 hw [] ((p5.toUInt32 >>> ((4 : Int32) &&& 31).toUInt32).toInt32)  h12 n0 Z_12 SS Od_12) hZ (hw _ (List.mem_of_getElem? (i := 32) rfl)) (hw _ (List.mem_of_getElem? (i := 31) rfl)) (by decide) (by decide)) (g := (mkF m 62 #[.val (.int p0), .val (.int p1), .val (.int p2), .val (.int p3), .val (.int p4), .val (.int p5), .val (.ref t2), .val (.ref t4), .val (.ref a), .unset, .unset] [(.int ((p5.toUInt32 >>> ((4 : Int32) &&& 31).toUInt32).toInt32)), (.ref b), (.ref b)])) rfl (by rw [hml]; rfl) (argsL := [(.int ((p5.toUInt32 >>> ((4 : Int32) &&& 31).toUInt32).toInt32))]) (rest := [(.ref b), (.ref b)]) (lenOf pd_5 rfl) rfl (by show 2 * 0 + _ ≤ _; exact Nat.le_of_eq rfl) (hb hby at_62) (fun _ _ => ⟨rfl, e12, (by decide : 6 + 0 ≤ _), (by decide : 22 + 0 ≤ _)⟩)
  dsimp only [Pt.U, Pt.locs, Pt.cells, Pt.slots] at X14 l14 y14 z14 st14 hQ14
  subst l14 y14 z14
  obtain ⟨z14, rfl, Nq14, e14⟩ := hQ14
  have N14 := Fr.app N10 Nq14
  have st15 : ∀ target, Steps p.tables e below (T14.setTop (mkF m 77 #[.val (.int p0), .val (.int p1), .val (.int p2), .val (.int p3), .val (.int p4), .val (.int p5), .val (.ref t2), .val (.ref t4), .val (.ref a), .unset, .unset] [(.int p4), (.int (p4 ^^^ (-1 : Int32))), (.int p3), (.int (p0 + p1)), (.ref t4), (.ref z14), (.ref b), (.ref b)])) target → Steps p.tables e below (T14.setTop (mkF m 65 #[.val (.int p0), .val (.int p1), .val (.int p2), .val (.int p3), .val (.int p4), .val (.int p5), .val (.ref t2), .val (.ref t4), .val (.ref a), .unset, .unset] [(.ref z14), (.ref b), (.ref b)])) target := by
    intro target kt
    show Steps p.tables e below (T14.setTop (mkF m 65 #[.val (.int p0), .val (.int p1), .val (.int p2), .val (.int p3), .val (.int p4), .val (.int p5), .val (.ref t2), .val (.ref t4), .val (.ref a), .unset, .unset] [(.ref z14), (.ref b), (.ref b)])) _
    refine XS.aload X14.here hx rfl (hb hby at_65) rfl rfl ?_
    show Steps p.tables e below (T14.setTop (mkF m 67 #[.val (.int p0), .val (.int p1), .val (.int p2), .val (.int p3), .val (.int p4), .val (.int p5), .val (.ref t2), .val (.ref t4), .val (.ref a), .unset, .unset] [(.ref t4), (.ref z14), (.ref b), (.ref b)])) _
    refine XS.iloadN X14.here hx rfl (hb hby at_67) rfl ?_
    show Steps p.tables e below (T14.setTop (mkF m 68 #[.val (.int p0), .val (.int p1), .val (.int p2), .val (.int p3), .val (.int p4), .val (.int p5), .val (.ref t2), .val (.ref t4), .val (.ref a), .unset, .unset] [(.int p0), (.ref t4), (.ref z14), (.ref b), (.ref b)])) _
    refine XS.iloadN X14.here hx rfl (hb hby at_68) rfl ?_
    show Steps p.tables e below (T14.setTop (mkF m 69 #[.val (.int p0), .val (.int p1), .val (.int p2), .val (.int p3), .val (.int p4), .val (.int p5), .val (.ref t2), .val (.ref t4), .val (.ref a), .unset, .unset] [(.int p1), (.int p0), (.ref t4), (.ref z14), (.ref b), (.ref b)])) _
    refine XS.iadd X14.here hx rfl (hb hby at_69) rfl ?_
    show Steps p.tables e below (T14.setTop (mkF m 70 #[.val (.int p0), .val (.int p1), .val (.int p2), .val (.int p3), .val (.int p4), .val (.int p5), .val (.ref t2), .val (.ref t4), .val (.ref a), .unset, .unset] [(.int (p0 + p1)), (.ref t4), (.ref z14), (.ref b), (.ref b)])) _
    refine XS.iloadN X14.here hx rfl (hb hby at_70) rfl ?_
    show Steps p.tables e below (T14.setTop (mkF m 71 #[.val (.int p0), .val (.int p1), .val (.int p2), .val (.int p3), .val (.int p4), .val (.int p5), .val (.ref t2), .val (.ref t4), .val (.ref a), .unset, .unset] [(.int p3), (.int (p0 + p1)), (.ref t4), (.ref z14), (.ref b), (.ref b)])) _
    refine XS.iload X14.here hx rfl (hb hby at_71) rfl ?_
    show Steps p.tables e below (T14.setTop (mkF m 73 #[.val (.int p0), .val (.int p1), .val (.int p2), .val (.int p3), .val (.int p4), .val (.int p5), .val (.ref t2), .val (.ref t4), .val (.ref a), .unset, .unset] [(.int p4), (.int p3), (.int (p0 + p1)), (.ref t4), (.ref z14), (.ref b), (.ref b)])) _
    refine XS.iconst X14.here hx rfl (hb hby at_73) ?_
    show Steps p.tables e below (T14.setTop (mkF m 74 #[.val (.int p0), .val (.int p1), .val (.int p2), .val (.int p3), .val (.int p4), .val (.int p5), .val (.ref t2), .val (.ref t4), .val (.ref a), .unset, .unset] [(.int (-1 : Int32)), (.int p4), (.int p3), (.int (p0 + p1)), (.ref t4), (.ref z14), (.ref b), (.ref b)])) _
    refine XS.ixor X14.here hx rfl (hb hby at_74) rfl ?_
    show Steps p.tables e below (T14.setTop (mkF m 75 #[.val (.int p0), .val (.int p1), .val (.int p2), .val (.int p3), .val (.int p4), .val (.int p5), .val (.ref t2), .val (.ref t4), .val (.ref a), .unset, .unset] [(.int (p4 ^^^ (-1 : Int32))), (.int p3), (.int (p0 + p1)), (.ref t4), (.ref z14), (.ref b), (.ref b)])) _
    refine XS.iload X14.here hx rfl (hb hby at_75) rfl ?_
    exact kt
  obtain ⟨_, _, ⟨T16, L16, k16, n16⟩, -, X16, ⟨Lc16, hQ16, l16, y16, z16⟩, st16⟩ := X14.specialBack hx (y := (⟨"com/example/nomlog/nomlog/lang/Token", "<init>", "(Lcom/example/nomlog/nomlog/lang/Token$Kind;Ljava/lang/String;IIII)V"⟩ : MethodName)) rfl hown (mvT hZ (hw _ (List.mem_of_getElem? (i := 36) rfl))) (mvT hZ (hw _ (List.mem_of_getElem? (i := 37) rfl))) (mvT hZ (hw _ (List.mem_of_getElem? (i := 38) rfl))) (by decide) (backOf (W := 1) (rm7 l Z a0 hw [] b z14 t4 (p0 + p1) p3 (p4 ^^^ (-1 : Int32)) p4  h12 n0 Z_12 F_kind_b F_text_b F_start_b F_end_b F_line_b F_column_b E_b g_b) hZ (hw _ (List.mem_of_getElem? (i := 38) rfl)) (hw _ (List.mem_of_getElem? (i := 28) rfl)) (by decide) (by decide)) (g := (mkF m 77 #[.val (.int p0), .val (.int p1), .val (.int p2), .val (.int p3), .val (.int p4), .val (.int p5), .val (.ref t2), .val (.ref t4), .val (.ref a), .unset, .unset] [(.int p4), (.int (p4 ^^^ (-1 : Int32))), (.int p3), (.int (p0 + p1)), (.ref t4), (.ref z14), (.ref b), (.ref b)])) rfl (by rw [hml]; rfl) (Steps.refl _) (a := b) (argsL := [(.ref z14), (.ref t4), (.int (p0 + p1)), (.int p3), (.int (p4 ^^^ (-1 : Int32))), (.int p4)]) (rest := [(.ref b)]) (lenOf pd_6 rfl) rfl (by show 2 * 0 + _ ≤ _; exact Nat.le_of_eq rfl) (hb hby at_77) (fun _ _ => ⟨rfl, e14, (by decide : 6 + 0 ≤ _), (by decide : 22 + 0 ≤ _)⟩)
  dsimp only [Pt.U, Pt.locs, Pt.cells, Pt.slots] at X16 l16 y16 z16 st16 hQ16
  subst l16 y16 z16
  obtain ⟨rfl, Nq16, K16, E_b_i, F_kind_b_i, F_text_b_i, F_start_b_i, F_end_b_i, F_line_b_i, F_column_b_i⟩ := hQ16
  have N16 := Fr.app N14 Nq16
  have Od_16 := Od_12.keep K16 (allS g_b (all0))
  have Et2_16 := Et2_12.keep K16
  have Et4_16 := Et4_12.keep K16
  have E_a_i_16 := E_a_i_12.keep K16
  have F_kind_a_i_16 := F_kind_a_i_12.keep K16 (ninS ne_a_b nin0)
  have F_text_a_i_16 := F_text_a_i_12.keep K16 (ninS ne_a_b nin0)
  have F_start_a_i_16 := F_start_a_i_12.keep K16 (ninS ne_a_b nin0)
  have F_end_a_i_16 := F_end_a_i_12.keep K16 (ninS ne_a_b nin0)
  have F_line_a_i_16 := F_line_a_i_12.keep K16 (ninS ne_a_b nin0)
  have F_column_a_i_16 := F_column_a_i_12.keep K16 (ninS ne_a_b nin0)
  have E_b_16 := E_b.keep K16
  have Z_16 : n0 ≤ T16.heap.size := Nat.le_trans Z_12 K16.1
  have st17 : ∀ target, Steps p.tables e below (T16.setTop (mkF m 86 #[.val (.int p0), .val (.int p1), .val (.int p2), .val (.int p3), .val (.int p4), .val (.int p5), .val (.ref t2), .val (.ref t4), .val (.ref a), .val (.ref b), .unset] [(.ref a), (.ref b)])) target → Steps p.tables e below (T16.setTop (mkF m 80 #[.val (.int p0), .val (.int p1), .val (.int p2), .val (.int p3), .val (.int p4), .val (.int p5), .val (.ref t2), .val (.ref t4), .val (.ref a), .unset, .unset] [(.ref b)])) target := by
    intro target kt
    show Steps p.tables e below (T16.setTop (mkF m 80 #[.val (.int p0), .val (.int p1), .val (.int p2), .val (.int p3), .val (.int p4), .val (.int p5), .val (.ref t2), .val (.ref t4), .val (.ref a), .unset, .unset] [(.ref b)])) _
    refine XS.astore X16.here hx rfl (hb hby at_80) rfl rfl (l' := #[.val (.int p0), .val (.int p1), .val (.int p2), .val (.int p3), .val (.int p4), .val (.int p5), .val (.ref t2), .val (.ref t4), .val (.ref a), .val (.ref b), .unset]) rfl ?_
    show Steps p.tables e below (T16.setTop (mkF m 82 #[.val (.int p0), .val (.int p1), .val (.int p2), .val (.int p3), .val (.int p4), .val (.int p5), .val (.ref t2), .val (.ref t4), .val (.ref a), .val (.ref b), .unset] [])) _
    refine XS.aload X16.here hx rfl (hb hby at_82) rfl rfl ?_
    show Steps p.tables e below (T16.setTop (mkF m 84 #[.val (.int p0), .val (.int p1), .val (.int p2), .val (.int p3), .val (.int p4), .val (.int p5), .val (.ref t2), .val (.ref t4), .val (.ref a), .val (.ref b), .unset] [(.ref b)])) _
    refine XS.aload X16.here hx rfl (hb hby at_84) rfl rfl ?_
    exact kt
  obtain ⟨cq18, kq18, qv18a, qv18b, qv18c⟩ := isOf hZ rfl E_b_i
  obtain ⟨_, _, ⟨T18, L18, k18, n18⟩, -, X18, ⟨Lc18, hQ18, l18, y18, z18⟩, st18⟩ := X16.virtualBack hx (y := (⟨"com/example/nomlog/nomlog/lang/Token", "follows", "(Lcom/example/nomlog/nomlog/lang/Token;)Z"⟩ : MethodName)) (z := (⟨"com/example/nomlog/nomlog/lang/Token", "follows", "(Lcom/example/nomlog/nomlog/lang/Token;)Z"⟩ : MethodName)) hown (mvT hZ (hw _ (List.mem_of_getElem? (i := 54) rfl))) (mvT hZ (hw _ (List.mem_of_getElem? (i := 55) rfl))) (notFace_of_selects (args := #[]) (mvT hZ (hw _ (List.mem_of_getElem? (i := 57) rfl)))) (mvT hZ (hw _ (List.mem_of_getElem? (i := 57) rfl))) (mvT hZ (hw _ (List.mem_of_getElem? (i := 56) rfl))) (by decide) (backOf (W := 0) (rm8 l Z a0 hw [] b a (p0 + p1) p0 T16.heap n0 Z_16 F_start_b_i F_end_a_i_16) hZ (hw _ (List.mem_of_getElem? (i := 58) rfl)) (hw _ (List.mem_of_getElem? (i := 28) rfl)) (by decide) (by decide)) qv18a qv18c (g := (mkF m 86 #[.val (.int p0), .val (.int p1), .val (.int p2), .val (.int p3), .val (.int p4), .val (.int p5), .val (.ref t2), .val (.ref t4), .val (.ref a), .val (.ref b), .unset] [(.ref a), (.ref b)])) rfl (by rw [hml]; rfl) (Steps.refl _) (argsL := [(.ref a)]) (rest := []) (lenOf pd_7 rfl) rfl (by show 2 * 0 + _ ≤ _; exact Nat.le_of_eq rfl) (hb hby at_86) (fun _ _ => ⟨rfl, rfl, (by decide : 6 + 0 ≤ _), (by decide : 22 + 0 ≤ _)⟩)
  dsimp only [Pt.U, Pt.locs, Pt.cells, Pt.slots] at X18 l18 y18 z18 st18 hQ18
  subst l18 y18 z18
  obtain ⟨rfl, Nq18, e18⟩ := hQ18
  have N18 := Fr.app N16 Nq18
  have st19 : ∀ target, Steps p.tables e below (T18.setTop (mkF m 93 #[.val (.int p0), .val (.int p1), .val (.int p2), .val (.int p3), .val (.int p4), .val (.int p5), .val (.ref t2), .val (.ref t4), .val (.ref a), .val (.ref b), .val (.int (if (p0 + p1) = p0 then (1 : Int32) else (0 : Int32)))] [(.int (if (p0 + p1) = p0 then (1 : Int32) else (0 : Int32)))])) target → Steps p.tables e below (T18.setTop (mkF m 89 #[.val (.int p0), .val (.int p1), .val (.int p2), .val (.int p3), .val (.int p4), .val (.int p5), .val (.ref t2), .val (.ref t4), .val (.ref a), .val (.ref b), .unset] [(.int (if (p0 + p1) = p0 then (1 : Int32) else (0 : Int32)))])) target := by
    intro target kt
    show Steps p.tables e below (T18.setTop (mkF m 89 #[.val (.int p0), .val (.int p1), .val (.int p2), .val (.int p3), .val (.int p4), .val (.int p5), .val (.ref t2), .val (.ref t4), .val (.ref a), .val (.ref b), .unset] [(.int (if (p0 + p1) = p0 then (1 : Int32) else (0 : Int32)))])) _
    refine XS.istore X18.here hx rfl (hb hby at_89) rfl (l' := #[.val (.int p0), .val (.int p1), .val (.int p2), .val (.int p3), .val (.int p4), .val (.int p5), .val (.ref t2), .val (.ref t4), .val (.ref a), .val (.ref b), .val (.int (if (p0 + p1) = p0 then (1 : Int32) else (0 : Int32)))]) rfl ?_
    show Steps p.tables e below (T18.setTop (mkF m 91 #[.val (.int p0), .val (.int p1), .val (.int p2), .val (.int p3), .val (.int p4), .val (.int p5), .val (.ref t2), .val (.ref t4), .val (.ref a), .val (.ref b), .val (.int (if (p0 + p1) = p0 then (1 : Int32) else (0 : Int32)))] [])) _
    refine XS.iload X18.here hx rfl (hb hby at_91) rfl ?_
    exact kt
  obtain ⟨y, hy, st20⟩ : ∃ (y : Int32), y = (if p1 = (0 : Int32) then (1 : Int32) else (0 : Int32)) ∧ ∀ target, Steps p.tables e below (T18.setTop (mkF m 102 #[.val (.int p0), .val (.int p1), .val (.int p2), .val (.int p3), .val (.int p4), .val (.int p5), .val (.ref t2), .val (.ref t4), .val (.ref a), .val (.ref b), .val (.int (if (p0 + p1) = p0 then (1 : Int32) else (0 : Int32)))] [(.int y), (.int (if (p0 + p1) = p0 then (1 : Int32) else (0 : Int32)))])) target → Steps p.tables e below (T18.setTop (mkF m 93 #[.val (.int p0), .val (.int p1), .val (.int p2), .val (.int p3), .val (.int p4), .val (.int p5), .val (.ref t2), .val (.ref t4), .val (.ref a), .val (.ref b), .val (.int (if (p0 + p1) = p0 then (1 : Int32) else (0 : Int32)))] [(.int (if (p0 + p1) = p0 then (1 : Int32) else (0 : Int32)))])) target := by
    refine ⟨_, rfl, fun target kt => ?_⟩
    show Steps p.tables e below (T18.setTop (mkF m 93 #[.val (.int p0), .val (.int p1), .val (.int p2), .val (.int p3), .val (.int p4), .val (.int p5), .val (.ref t2), .val (.ref t4), .val (.ref a), .val (.ref b), .val (.int (if (p0 + p1) = p0 then (1 : Int32) else (0 : Int32)))] [(.int (if (p0 + p1) = p0 then (1 : Int32) else (0 : Int32)))])) _
    refine XS.iloadN X18.here hx rfl (hb hby at_93) rfl ?_
    by_cases hc94 : p1 = (0 : Int32)
    · rw [if_pos hc94] at kt
      show Steps p.tables e below (T18.setTop (mkF m 94 #[.val (.int p0), .val (.int p1), .val (.int p2), .val (.int p3), .val (.int p4), .val (.int p5), .val (.ref t2), .val (.ref t4), .val (.ref a), .val (.ref b), .val (.int (if (p0 + p1) = p0 then (1 : Int32) else (0 : Int32)))] [(.int p1), (.int (if (p0 + p1) = p0 then (1 : Int32) else (0 : Int32)))])) _
      refine XS.ifNo X18.here hx rfl (hb hby at_94) rfl ((if0 _ _).trans (teq hc94).2) ?_
      show Steps p.tables e below (T18.setTop (mkF m 97 #[.val (.int p0), .val (.int p1), .val (.int p2), .val (.int p3), .val (.int p4), .val (.int p5), .val (.ref t2), .val (.ref t4), .val (.ref a), .val (.ref b), .val (.int (if (p0 + p1) = p0 then (1 : Int32) else (0 : Int32)))] [(.int (if (p0 + p1) = p0 then (1 : Int32) else (0 : Int32)))])) _
      refine XS.iconst X18.here hx rfl (hb hby at_97) ?_
      show Steps p.tables e below (T18.setTop (mkF m 98 #[.val (.int p0), .val (.int p1), .val (.int p2), .val (.int p3), .val (.int p4), .val (.int p5), .val (.ref t2), .val (.ref t4), .val (.ref a), .val (.ref b), .val (.int (if (p0 + p1) = p0 then (1 : Int32) else (0 : Int32)))] [(.int (1 : Int32)), (.int (if (p0 + p1) = p0 then (1 : Int32) else (0 : Int32)))])) _
      refine XS.goto X18.here hx rfl (pc0 := 98) (pc' := 102) rfl (hb hby at_98) (by decide) (by decide) ?_
      exact kt
    · rw [if_neg hc94] at kt
      show Steps p.tables e below (T18.setTop (mkF m 94 #[.val (.int p0), .val (.int p1), .val (.int p2), .val (.int p3), .val (.int p4), .val (.int p5), .val (.ref t2), .val (.ref t4), .val (.ref a), .val (.ref b), .val (.int (if (p0 + p1) = p0 then (1 : Int32) else (0 : Int32)))] [(.int p1), (.int (if (p0 + p1) = p0 then (1 : Int32) else (0 : Int32)))])) _
      refine XS.ifYes X18.here hx rfl (pc0 := 94) (pc' := 101) rfl (hb hby at_94) rfl ((if0 _ _).trans (feq hc94).2) (by decide) (by decide) ?_
      show Steps p.tables e below (T18.setTop (mkF m 101 #[.val (.int p0), .val (.int p1), .val (.int p2), .val (.int p3), .val (.int p4), .val (.int p5), .val (.ref t2), .val (.ref t4), .val (.ref a), .val (.ref b), .val (.int (if (p0 + p1) = p0 then (1 : Int32) else (0 : Int32)))] [(.int (if (p0 + p1) = p0 then (1 : Int32) else (0 : Int32)))])) _
      refine XS.iconst X18.here hx rfl (hb hby at_101) ?_
      exact kt
  have h102 : (if (p0 + p1) = p0 then (1 : Int32) else (0 : Int32)) = y := by
    rw [hy]
    by_cases u : p1 = 0
    · rw [if_pos u, if_pos ((own_add0 p0 p1).mpr u)]
    · rw [if_neg u, if_neg (fun q => u ((own_add0 p0 p1).mp q))]
  obtain ⟨fs, hr, hrun, hended, hW, hsame⟩ := X18.leave (v := some (.int (1 : Int32))) (fun h => by rw [Bd.returns] at h; cases h)
  refine ⟨_, _, pre0 _ (st1 _ (st2 _ (st3 _ (st4 _ (st5 _ (st6 _ (st7 _ (st8 _ (st9 _ (st10.trans (st11 _ (st12 _ (st13 _ (st14 _ (st15 _ (st16.trans (st17 _ (st18.trans (st19 _ (st20 _ ?_)))))))))))))))))))), hrun, hended, _, _, rfl, ?_, ⟨_, rfl⟩, hW, hsame.mono (by decide) (by decide)⟩
  · show Steps p.tables e below (T18.setTop (mkF m 102 #[.val (.int p0), .val (.int p1), .val (.int p2), .val (.int p3), .val (.int p4), .val (.int p5), .val (.ref t2), .val (.ref t4), .val (.ref a), .val (.ref b), .val (.int (if (p0 + p1) = p0 then (1 : Int32) else (0 : Int32)))] [(.int y), (.int (if (p0 + p1) = p0 then (1 : Int32) else (0 : Int32)))])) _
    refine XS.icmpNo X18.here hx rfl (hb hby at_102) rfl (teq h102).2 ?_
    show Steps p.tables e below (T18.setTop (mkF m 105 #[.val (.int p0), .val (.int p1), .val (.int p2), .val (.int p3), .val (.int p4), .val (.int p5), .val (.ref t2), .val (.ref t4), .val (.ref a), .val (.ref b), .val (.int (if (p0 + p1) = p0 then (1 : Int32) else (0 : Int32)))] [])) _
    refine XS.iconst X18.here hx rfl (hb hby at_105) ?_
    show Steps p.tables e below (T18.setTop (mkF m 106 #[.val (.int p0), .val (.int p1), .val (.int p2), .val (.int p3), .val (.int p4), .val (.int p5), .val (.ref t2), .val (.ref t4), .val (.ref a), .val (.ref b), .val (.int (if (p0 + p1) = p0 then (1 : Int32) else (0 : Int32)))] [(.int (1 : Int32))])) _
    refine XS.goto X18.here hx rfl (pc0 := 106) (pc' := 110) rfl (hb hby at_106) (by decide) (by decide) ?_
    show Steps p.tables e below (T18.setTop (mkF m 110 #[.val (.int p0), .val (.int p1), .val (.int p2), .val (.int p3), .val (.int p4), .val (.int p5), .val (.ref t2), .val (.ref t4), .val (.ref a), .val (.ref b), .val (.int (if (p0 + p1) = p0 then (1 : Int32) else (0 : Int32)))] [(.int (1 : Int32))])) _
    exact retN X18 hx (t := .boolean) Bd.returns (by simp) (hb hby at_110) hr
  · show Q_rm0 Z p0 p1 p2 p3 p4 p5 cs h0 n0 _ T18.heap _
    rw [e18]
    exact ⟨rfl, N18⟩
set_option maxRecDepth 65536 in
set_option maxHeartbeats 40000000 in
theorem comes_1 {Post : Tables → Env → Array Value → State → Outcome → State → Prop} (hpost : ∀ tb e args s v u, (limb_1_1.after args s (.returned v) u = true ∧ limb_1_2.after args s (.returned v) u = true ∧ True) → FrameEnd s (.returned v) u (Jvm.fieldLocs frame_1_writes args s ++ Jvm.arrayLocs frame_1_arrays args s ++ Jvm.staticLocs frame_1_statics s) 24 128 → Post tb e args s (.returned v) u) :
    ArmFor flags0 classFile x code maxLocals ret World_1 tables_1 room_1 Calls_1 rest_1 Pre_1 Post := by
  intro l hfl _ _ p e ha hc hk s m args below hf hA hF happ hP
  obtain ⟨hcalls, hrest, hpre⟩ := hP
  obtain ⟨-, -, -, hnamed, -, -, -, hat⟩ := (Spec.applies_iff hf).mp happ
  obtain ⟨hg, hn⟩ := and_e (Cond.before_iff.mp (show (Jvm.Cond.and given_1 narrow_1).before args s = true from hpre))
  obtain ⟨gg1, gg2⟩ := and_e hg
  obtain ⟨gg3, gg4⟩ := and_e gg2
  obtain ⟨gg5, gg6⟩ := and_e gg4
  obtain ⟨gg7, gg8⟩ := and_e gg6
  obtain ⟨gg9, gg10⟩ := and_e gg8
  obtain ⟨gg11, gg12⟩ := and_e gg10
  obtain ⟨gg13, gg14⟩ := and_e hn
  obtain ⟨gg15, gg16⟩ := and_e gg14
  obtain ⟨gg17, gg18⟩ := and_e gg16
  obtain ⟨gg19, gg20⟩ := and_e gg18
  obtain ⟨gg21, gg22⟩ := and_e gg20
  obtain ⟨gg23, gg24⟩ := and_e gg22
  obtain ⟨gg25, gg26⟩ := and_e gg24
  obtain ⟨gg27, gg28⟩ := and_e gg26
  obtain ⟨gg29, gg30⟩ := and_e gg28
  obtain ⟨gg31, gg32⟩ := and_e gg30
  obtain ⟨gg33, gg34⟩ := and_e gg32
  obtain ⟨gg35, gg36⟩ := and_e gg34
  obtain ⟨gg37, gg38⟩ := and_e gg36
  obtain ⟨gg39, gg40⟩ := and_e gg38
  obtain ⟨w0, w1, w2, w3, w4, w5, rfl⟩ : ∃ w0 w1 w2 w3 w4 w5 : Value, args = #[w0, w1, w2, w3, w4, w5] := by
    have hs : args.size = 6 := by simpa [Cond.value, given_1] using gg1
    obtain ⟨L⟩ := args
    match L, hs with
    | [w0, w1, w2, w3, w4, w5], _ => exact ⟨w0, w1, w2, w3, w4, w5, rfl⟩
  have hw := fun d (hd : d ∈ tables_1) => atoms_spec (ws := Jvm.Cond.code x code maxLocals ret :: tables_1) hat d (List.mem_cons_of_mem _ hd)
  have hfit : Fit s := fun {y c} hc i hi => by
    obtain ⟨ha, rfl⟩ := Array.getElem?_eq_some_iff.mp hc
    have q := List.all_eq_true.mp ((Array.all_eq_true_iff_forall_mem.mp hF) _ (Array.getElem_mem ha)) i (List.mem_range.mpr hi)
    simpa [Array.getElem?_eq_getElem hi] using q
  obtain ⟨hsets, hown0⟩ := atoms_of _ (rest_1_c_eq ▸ (show rest_1_c.before _ s = true from hrest))
  have hr0 := Cond.before_iff.mp hown0
  obtain ⟨i0, ei0⟩ := is_v gg3
  obtain rfl : w0 = (.int i0) := Option.some.inj ei0
  obtain ⟨i1, ei1⟩ := is_v gg5
  obtain rfl : w1 = (.int i1) := Option.some.inj ei1
  obtain ⟨i2, ei2⟩ := is_v gg7
  obtain rfl : w2 = (.int i2) := Option.some.inj ei2
  obtain ⟨i3, ei3⟩ := is_v gg9
  obtain rfl : w3 = (.int i3) := Option.some.inj ei3
  obtain ⟨i4, ei4⟩ := is_v gg11
  obtain rfl : w4 = (.int i4) := Option.some.inj ei4
  obtain ⟨i5, ei5⟩ := is_v gg12
  obtain rfl : w5 = (.int i5) := Option.some.inj ei5
  obtain ⟨a_ATOM, ev_a_ATOM⟩ := exa_v gg15
  have E_a_ATOM := Exa.start ev_a_ATOM gg15
  have S_a_ATOM := Sta.start ev_a_ATOM (Or.inr ⟨(hw _ (List.mem_of_getElem? (i := 34) rfl)), (hw _ (List.mem_of_getElem? (i := 53) rfl))⟩)
  obtain ⟨a_VARIABLE, ev_a_VARIABLE⟩ := exa_v gg35
  have E_a_VARIABLE := Exa.start ev_a_VARIABLE gg35
  have S_a_VARIABLE := Sta.start ev_a_VARIABLE (Or.inr ⟨(hw _ (List.mem_of_getElem? (i := 34) rfl)), (hw _ (List.mem_of_getElem? (i := 78) rfl))⟩)
  obtain ⟨a_INTEGER, ev_a_INTEGER⟩ := exa_v gg17
  have E_a_INTEGER := Exa.start ev_a_INTEGER gg17
  have S_a_INTEGER := Sta.start ev_a_INTEGER (Or.inr ⟨(hw _ (List.mem_of_getElem? (i := 34) rfl)), (hw _ (List.mem_of_getElem? (i := 60) rfl))⟩)
  obtain ⟨a_STRING, ev_a_STRING⟩ := exa_v gg13
  have E_a_STRING := Exa.start ev_a_STRING gg13
  have S_a_STRING := Sta.start ev_a_STRING (Or.inr ⟨(hw _ (List.mem_of_getElem? (i := 34) rfl)), (hw _ (List.mem_of_getElem? (i := 35) rfl))⟩)
  obtain ⟨a_OPEN, ev_a_OPEN⟩ := exa_v gg39
  have E_a_OPEN := Exa.start ev_a_OPEN gg39
  have S_a_OPEN := Sta.start ev_a_OPEN (Or.inr ⟨(hw _ (List.mem_of_getElem? (i := 34) rfl)), (hw _ (List.mem_of_getElem? (i := 82) rfl))⟩)
  obtain ⟨a_CLOSE, ev_a_CLOSE⟩ := exa_v gg33
  have E_a_CLOSE := Exa.start ev_a_CLOSE gg33
  have S_a_CLOSE := Sta.start ev_a_CLOSE (Or.inr ⟨(hw _ (List.mem_of_getElem? (i := 34) rfl)), (hw _ (List.mem_of_getElem? (i := 76) rfl))⟩)
  obtain ⟨a_OPEN_LIST, ev_a_OPEN_LIST⟩ := exa_v gg29
  have E_a_OPEN_LIST := Exa.start ev_a_OPEN_LIST gg29
  have S_a_OPEN_LIST := Sta.start ev_a_OPEN_LIST (Or.inr ⟨(hw _ (List.mem_of_getElem? (i := 34) rfl)), (hw _ (List.mem_of_getElem? (i := 72) rfl))⟩)
  obtain ⟨a_CLOSE_LIST, ev_a_CLOSE_LIST⟩ := exa_v gg40
  have E_a_CLOSE_LIST := Exa.start ev_a_CLOSE_LIST gg40
  have S_a_CLOSE_LIST := Sta.start ev_a_CLOSE_LIST (Or.inr ⟨(hw _ (List.mem_of_getElem? (i := 34) rfl)), (hw _ (List.mem_of_getElem? (i := 84) rfl))⟩)
  obtain ⟨a_COMMA, ev_a_COMMA⟩ := exa_v gg25
  have E_a_COMMA := Exa.start ev_a_COMMA gg25
  have S_a_COMMA := Sta.start ev_a_COMMA (Or.inr ⟨(hw _ (List.mem_of_getElem? (i := 34) rfl)), (hw _ (List.mem_of_getElem? (i := 68) rfl))⟩)
  obtain ⟨a_BAR, ev_a_BAR⟩ := exa_v gg27
  have E_a_BAR := Exa.start ev_a_BAR gg27
  have S_a_BAR := Sta.start ev_a_BAR (Or.inr ⟨(hw _ (List.mem_of_getElem? (i := 34) rfl)), (hw _ (List.mem_of_getElem? (i := 70) rfl))⟩)
  obtain ⟨a_OPERATOR, ev_a_OPERATOR⟩ := exa_v gg31
  have E_a_OPERATOR := Exa.start ev_a_OPERATOR gg31
  have S_a_OPERATOR := Sta.start ev_a_OPERATOR (Or.inr ⟨(hw _ (List.mem_of_getElem? (i := 34) rfl)), (hw _ (List.mem_of_getElem? (i := 74) rfl))⟩)
  obtain ⟨a_BACKSLASH, ev_a_BACKSLASH⟩ := exa_v gg21
  have E_a_BACKSLASH := Exa.start ev_a_BACKSLASH gg21
  have S_a_BACKSLASH := Sta.start ev_a_BACKSLASH (Or.inr ⟨(hw _ (List.mem_of_getElem? (i := 34) rfl)), (hw _ (List.mem_of_getElem? (i := 64) rfl))⟩)
  obtain ⟨a_NECK, ev_a_NECK⟩ := exa_v gg37
  have E_a_NECK := Exa.start ev_a_NECK gg37
  have S_a_NECK := Sta.start ev_a_NECK (Or.inr ⟨(hw _ (List.mem_of_getElem? (i := 34) rfl)), (hw _ (List.mem_of_getElem? (i := 80) rfl))⟩)
  obtain ⟨a_END_CLAUSE, ev_a_END_CLAUSE⟩ := exa_v gg19
  have E_a_END_CLAUSE := Exa.start ev_a_END_CLAUSE gg19
  have S_a_END_CLAUSE := Sta.start ev_a_END_CLAUSE (Or.inr ⟨(hw _ (List.mem_of_getElem? (i := 34) rfl)), (hw _ (List.mem_of_getElem? (i := 62) rfl))⟩)
  obtain ⟨a_END, ev_a_END⟩ := exa_v gg23
  have E_a_END := Exa.start ev_a_END gg23
  have S_a_END := Sta.start ev_a_END (Or.inr ⟨(hw _ (List.mem_of_getElem? (i := 34) rfl)), (hw _ (List.mem_of_getElem? (i := 66) rfl))⟩)
  obtain ⟨cs, ev_cs⟩ := is_v (Cond.before_iff.mp (hsets _ (List.mem_of_getElem? (i := 1) rfl)))
  have S_cs : Sta s s.heap "java/lang/String" "COMPACT_STRINGS" "Z" (.int cs) := Sta.start ev_cs (Or.inl (hsets _ (List.mem_of_getElem? (i := 0) rfl)))
  have hcs : ¬ cs = 0 := by
    intro q
    have u := not_v (Cond.before_iff.mp (hsets _ (List.mem_of_getElem? (i := 2) rfl)))
    have u2 := eq_i (o := none) (idx := []) ev_cs (Term.int_eval (0 : Int32)) (by rw [q])
    rw [u2] at u; cases u
  have SS : own_SS s := fun f hf => by
    simp only [List.mem_cons, List.not_mem_nil, or_false] at hf
    rcases hf with rfl | rfl | rfl | rfl | rfl | rfl | rfl | rfl | rfl | rfl | rfl | rfl | rfl | rfl | rfl
    · exact ⟨_, S_a_ATOM⟩
    · exact ⟨_, S_a_VARIABLE⟩
    · exact ⟨_, S_a_INTEGER⟩
    · exact ⟨_, S_a_STRING⟩
    · exact ⟨_, S_a_OPEN⟩
    · exact ⟨_, S_a_CLOSE⟩
    · exact ⟨_, S_a_OPEN_LIST⟩
    · exact ⟨_, S_a_CLOSE_LIST⟩
    · exact ⟨_, S_a_COMMA⟩
    · exact ⟨_, S_a_BAR⟩
    · exact ⟨_, S_a_OPERATOR⟩
    · exact ⟨_, S_a_BACKSLASH⟩
    · exact ⟨_, S_a_NECK⟩
    · exact ⟨_, S_a_END_CLAUSE⟩
    · exact ⟨_, S_a_END⟩
  obtain ⟨n, o, h1, h2, h3, _, L, rfl, ⟨rfl, N⟩, hq⟩ := rm0 l s _ hw tables_1 i0 i1 i2 i3 i4 i5 cs s.heap s.heap.size (Nat.le_refl _) SS (Old.start s) S_cs hcs p e ha hc hk s m _ below hf ((Spec.applies_iff_loose hf).mp happ).1 ⟨rfl, State.Warmed39.refl s, rfl⟩ trivial
  refine ⟨n, _, h1, h2, h3, hpost _ _ _ _ _ _ ⟨Cond.after_iff.mpr rfl, Cond.after_iff.mpr (eq_i res_at (Term.int_eval (1)) rfl), trivial⟩ ⟨hq.1, hq.2.1, (hq.2.2.sift fun y hy => Or.inr (N y hy)).mono (by decide) (by decide)⟩⟩
theorem main_1_1 : Claimed_1_1 := comes_1 fun _ _ _ _ _ _ h hF => ⟨h.1, hF⟩
theorem main_1_2 : Claimed_1_2 := comes_1 fun _ _ _ _ _ _ h hF => ⟨h.2.1, hF⟩
end Jvm.Pilot.@@N@@
namespace Jvm.Pilot.@@N@@
open Jvm Jvm.ClassFile Sem Op Lib Jvm.Free Jvm.Stand Jvm.Pilot.@@N@@.Jvm.D
/-! MADE BY PROGRAM (witnessworld.py) out of the Statement's table words and the real class files: 19 classes; the members and pool entries that the words name. The judged class is class 1, her method 2. -/
namespace start1
open Jvm.ClassFile
def u (s : String) : CpInfo := .utf8 (stringToUtf16 s)
/-- a pool by its gaps: so many unusable entries, then the entry; so many at the end -/
def gap : Nat → List CpInfo → List CpInfo
  | 0, r => r
  | n + 1, r => .unusable :: gap n r
def poolList (es : List (Nat × CpInfo)) (last : Nat) : List CpInfo := es.foldr (fun e r => gap e.1 (e.2 :: r)) (gap last [])
def pool (es : List (Nat × CpInfo)) (last : Nat) : Array CpInfo := ⟨poolList es last⟩
def fileOf (pool : Array CpInfo) (this : Nat) (attrs : Array Attribute := #[]) (ms : Array MethodInfo := #[]) (fl : Nat := 33) (sup : Nat := 0) (ifs : Array Nat := #[]) (fds : Array FieldInfo := #[]) : ClassFile where
  minorVersion := 0
  majorVersion := 65
  constantPool := pool
  accessFlags := fl
  thisClass := this
  superClass := sup
  interfaces := ifs
  fields := fds
  methods := ms
  attributes := attrs
def plain (name : String) (sup : Option ClassId) : Class where
  name := name
  kind := .ordinary
  loader := none
  accessFlags := 33
  super := sup
  interfaces := #[]
  cf := none
  fields := #[]
  methods := #[]
  instanceTypes := #[]
  staticTypes := #[]
  resolved := #[]
  callSites := []
  init := .initialized
  statics := none
  mirror := none

def pool0 : Array CpInfo := pool [(5, u "<init>"), (0, u "()V"), (1, .class_ 10), (1, u "java/lang/Object")] 113

def k0c0 : Code := { maxStack := 0, maxLocals := 1, code := object_method_1_code, exceptionTable := #[], attributes := #[] }
def k0m0 : Method := { name := "<init>", desc := "()V", sig := { parameters := [], returnType := none }, accessFlags := 1, code := some k0c0 }
/-- java/lang/Object -/
def k0 : Class := { plain "java/lang/Object" none with
  accessFlags := 33
  interfaces := #[]
  cf := some (fileOf pool0 8 #[] #[{ accessFlags := 1, nameIndex := 5, descriptorIndex := 6, attributes := #[] }] 33 0 #[] #[])
  fields := #[]
  methods := #[k0m0]
  instanceTypes := #[]
  staticTypes := #[]
  resolved := Array.replicate 124 none
  statics := none }

def pool1 : Array CpInfo := pool [(2, .class_ 4), (1, u "java/lang/Object"), (0, u "<init>"), (0, u "()V"), (0, .fieldref 8 9), (0, .class_ 10), (0, .nameAndType 11 12), (0, u "com/example/nomlog/nomlog/lang/Token$Kind"), (0, u "ATOM"), (0, u "Lcom/example/nomlog/nomlog/lang/Token$Kind;"), (0, .fieldref 8 14), (0, .nameAndType 15 12), (0, u "VARIABLE"), (0, .fieldref 8 17), (0, .nameAndType 18 12), (0, u "INTEGER"), (0, .fieldref 8 20), (0, .nameAndType 21 12), (0, u "STRING"), (0, .fieldref 8 23), (0, .nameAndType 24 12), (0, u "OPEN"), (0, .fieldref 8 26), (0, .nameAndType 27 12), (0, u "CLOSE"), (0, .fieldref 8 29), (0, .nameAndType 30 12), (0, u "OPEN_LIST"), (0, .fieldref 8 32), (0, .nameAndType 33 12), (0, u "CLOSE_LIST"), (0, .fieldref 8 35), (0, .nameAndType 36 12), (0, u "COMMA"), (0, .fieldref 8 38), (0, .nameAndType 39 12), (0, u "BAR"), (0, .fieldref 8 41), (0, .nameAndType 42 12), (0, u "OPERATOR"), (0, .fieldref 8 44), (0, .nameAndType 45 12), (0, u "BACKSLASH"), (0, .fieldref 8 47), (0, .nameAndType 48 12), (0, u "NECK"), (0, .fieldref 8 50), (0, .nameAndType 51 12), (0, u "END_CLAUSE"), (0, .fieldref 8 53), (0, .nameAndType 54 12), (0, u "END"), (0, .methodref 56 57), (0, .class_ 58), (0, .nameAndType 59 60), (0, u "java/lang/String"), (0, u "valueOf"), (0, u "(C)Ljava/lang/String;"), (0, .class_ 62), (0, u "com/example/nomlog/nomlog/lang/Token"), (0, .methodref 64 65), (0, .class_ 66), (0, .nameAndType 67 68), (0, u "com/example/nomlog/nomlog/lang/TokenFollowsPinLaw"), (0, u "kindOf"), (0, u "(I)Lcom/example/nomlog/nomlog/lang/Token$Kind;"), (0, .methodref 61 70), (0, .nameAndType 5 71), (0, u "(Lcom/example/nomlog/nomlog/lang/Token$Kind;Ljava/lang/String;IIII)V"), (0, .methodref 61 73), (0, .nameAndType 74 75), (0, u "follows"), (0, u "(Lcom/example/nomlog/nomlog/lang/Token;)Z"), (3, u "law"), (0, u "(IIIIII)Z")] 4

def k1m0 : Method := { name := "<init>", desc := "()V", sig := { parameters := [], returnType := none }, accessFlags := 2, code := none }
def k1c1 : Code := { maxStack := 2, maxLocals := 2, code := method_2_code, exceptionTable := #[], attributes := #[] }
def k1m1 : Method := { name := "kindOf", desc := "(I)Lcom/example/nomlog/nomlog/lang/Token$Kind;", sig := { parameters := [.int], returnType := some (.object "com/example/nomlog/nomlog/lang/Token$Kind") }, accessFlags := 10, code := some k1c1 }
def k1c2 : Code := { maxStack := 9, maxLocals := 11, code := code, exceptionTable := #[], attributes := #[] }
def k1m2 : Method := { name := "law", desc := "(IIIIII)Z", sig := { parameters := [.int, .int, .int, .int, .int, .int], returnType := some .boolean }, accessFlags := 9, code := some k1c2 }
/-- com/example/nomlog/nomlog/lang/TokenFollowsPinLaw -/
def k1 : Class := { plain "com/example/nomlog/nomlog/lang/TokenFollowsPinLaw" (some 0) with
  accessFlags := 49
  interfaces := #[]
  cf := some (fileOf pool1 64 #[] #[{ accessFlags := 2, nameIndex := 5, descriptorIndex := 6, attributes := #[] }, { accessFlags := 10, nameIndex := 67, descriptorIndex := 68, attributes := #[] }, { accessFlags := 9, nameIndex := 79, descriptorIndex := 80, attributes := #[] }] 49 2 #[] #[])
  fields := #[]
  methods := #[k1m0, k1m1, k1m2]
  instanceTypes := #[]
  staticTypes := #[]
  resolved := Array.replicate 85 none
  statics := none }

def pool2 : Array CpInfo := pool [(1, .class_ 2), (0, u "java/io/Serializable"), (0, .class_ 4), (0, u "java/lang/Object")] 2

/-- java/io/Serializable -/
def k2 : Class := { plain "java/io/Serializable" (some 0) with
  accessFlags := 1537
  interfaces := #[]
  cf := some (fileOf pool2 1 #[] #[] 1537 3 #[] #[])
  fields := #[]
  methods := #[]
  instanceTypes := #[]
  staticTypes := #[]
  resolved := Array.replicate 7 none
  statics := none }

def pool3 : Array CpInfo := pool [(1, .class_ 2), (0, u "java/lang/Comparable"), (0, .class_ 4), (0, u "java/lang/Object")] 7

/-- java/lang/Comparable -/
def k3 : Class := { plain "java/lang/Comparable" (some 0) with
  accessFlags := 1537
  interfaces := #[]
  cf := some (fileOf pool3 1 #[] #[] 1537 3 #[] #[])
  fields := #[]
  methods := #[]
  instanceTypes := #[]
  staticTypes := #[]
  resolved := Array.replicate 12 none
  statics := none }

def pool4 : Array CpInfo := pool [(2, .class_ 4), (1, u "java/lang/CharSequence"), (42, .class_ 48), (0, u "java/lang/CharSequence$1CodePointIterator"), (10, .class_ 60), (0, u "java/lang/CharSequence$1CharIterator"), (5, .class_ 67), (0, u "java/lang/Object")] 63

/-- java/lang/CharSequence -/
def k4 : Class := { plain "java/lang/CharSequence" (some 0) with
  accessFlags := 1537
  interfaces := #[]
  cf := some (fileOf pool4 2 #[.nestMembers #[47, 59]] #[] 1537 66 #[] #[])
  fields := #[]
  methods := #[]
  instanceTypes := #[]
  staticTypes := #[]
  resolved := Array.replicate 131 none
  statics := none }

def pool5 : Array CpInfo := pool [(1, .class_ 2), (0, u "java/lang/constant/Constable"), (0, .class_ 4), (0, u "java/lang/Object")] 6

/-- java/lang/constant/Constable -/
def k5 : Class := { plain "java/lang/constant/Constable" (some 0) with
  accessFlags := 1537
  interfaces := #[]
  cf := some (fileOf pool5 1 #[] #[] 1537 3 #[] #[])
  fields := #[]
  methods := #[]
  instanceTypes := #[]
  staticTypes := #[]
  resolved := Array.replicate 11 none
  statics := none }

def pool6 : Array CpInfo := pool [(1, .class_ 2), (0, u "java/lang/constant/ConstantDesc"), (0, .class_ 4), (0, u "java/lang/Object")] 32

/-- java/lang/constant/ConstantDesc -/
def k6 : Class := { plain "java/lang/constant/ConstantDesc" (some 0) with
  accessFlags := 1537
  interfaces := #[]
  cf := some (fileOf pool6 1 #[] #[] 1537 3 #[] #[])
  fields := #[]
  methods := #[]
  instanceTypes := #[]
  staticTypes := #[]
  resolved := Array.replicate 37 none
  statics := none }

def pool7 : Array CpInfo := pool [(1, .methodref 2 3), (0, .class_ 4), (0, .nameAndType 5 6), (0, u "java/lang/Object"), (0, u "<init>"), (0, u "()V"), (2, .fieldref 10 11), (0, .class_ 12), (0, .nameAndType 13 14), (0, u "java/lang/String"), (0, u "value"), (0, u "[B"), (0, .fieldref 10 16), (0, .nameAndType 17 18), (0, u "coder"), (0, u "B"), (2, u "hash"), (0, u "I"), (2, u "hashIsZero"), (0, u "Z"), (11, .fieldref 10 39), (0, .nameAndType 40 26), (0, u "COMPACT_STRINGS"), (12, u "toBytes"), (53, .class_ 109), (1, u "java/lang/StringLatin1"), (99, .methodref 10 210), (0, .nameAndType 5 211), (0, u "([BB)V"), (157, u "(C)Z"), (205, .class_ 576), (0, u "java/lang/CharSequence"), (22, u "CASE_INSENSITIVE_ORDER"), (0, u "Ljava/util/Comparator;"), (181, u "valueOf"), (0, u "(C)Ljava/lang/String;"), (231, .methodref 107 1016), (0, .nameAndType 1017 369), (0, u "canEncode"), (0, .methodref 107 1019), (0, .nameAndType 53 1020), (0, u "(C)[B"), (80, u "serialPersistentFields"), (0, u "[Ljava/io/ObjectStreamField;"), (0, .class_ 1104), (0, u "java/lang/String$CaseInsensitiveComparator"), (1, .class_ 1107), (0, u "java/io/Serializable"), (0, .class_ 1109), (0, u "java/lang/Comparable"), (0, .class_ 1111), (0, u "java/lang/constant/Constable"), (0, .class_ 1113), (0, u "java/lang/constant/ConstantDesc"), (2, u "serialVersionUID"), (0, u "J"), (3, u "REPL"), (0, u "C"), (2, u "LATIN1"), (1, u "UTF16")] 323

def k7m0 : Method := { name := "<init>", desc := "()V", sig := { parameters := [], returnType := none }, accessFlags := 1, code := none }
def k7c1 : Code := { maxStack := 4, maxLocals := 1, code := jdk_42_method_139_code, exceptionTable := #[], attributes := #[] }
def k7m1 : Method := { name := "valueOf", desc := "(C)Ljava/lang/String;", sig := { parameters := [.char], returnType := some (.object "java/lang/String") }, accessFlags := 9, code := some k7c1 }
def k7c2 : Code := { maxStack := 2, maxLocals := 3, code := jdk_42_method_151_code, exceptionTable := #[], attributes := #[] }
def k7m2 : Method := { name := "<init>", desc := "([BB)V", sig := { parameters := [(.array .byte), .byte], returnType := none }, accessFlags := 0, code := some k7c2 }
/-- java/lang/String -/
def k7 : Class := { plain "java/lang/String" (some 0) with
  accessFlags := 49
  interfaces := #[2, 3, 4, 5, 6]
  cf := some (fileOf pool7 10 #[.nestMembers #[1103]] #[{ accessFlags := 1, nameIndex := 5, descriptorIndex := 6, attributes := #[] }, { accessFlags := 9, nameIndex := 782, descriptorIndex := 783, attributes := #[] }, { accessFlags := 0, nameIndex := 5, descriptorIndex := 211, attributes := #[] }] 49 2 #[1106, 1108, 575, 1110, 1112] #[{ accessFlags := 18, nameIndex := 13, descriptorIndex := 14, attributes := #[] }, { accessFlags := 18, nameIndex := 17, descriptorIndex := 18, attributes := #[] }, { accessFlags := 2, nameIndex := 21, descriptorIndex := 22, attributes := #[] }, { accessFlags := 2, nameIndex := 25, descriptorIndex := 26, attributes := #[] }, { accessFlags := 26, nameIndex := 1116, descriptorIndex := 1117, attributes := #[] }, { accessFlags := 24, nameIndex := 40, descriptorIndex := 26, attributes := #[] }, { accessFlags := 26, nameIndex := 1101, descriptorIndex := 1102, attributes := #[] }, { accessFlags := 26, nameIndex := 1121, descriptorIndex := 1122, attributes := #[] }, { accessFlags := 25, nameIndex := 599, descriptorIndex := 600, attributes := #[] }, { accessFlags := 24, nameIndex := 1125, descriptorIndex := 18, attributes := #[] }, { accessFlags := 24, nameIndex := 1127, descriptorIndex := 18, attributes := #[] }])
  fields := #[{ name := "value", type := (.array .byte), accessFlags := 18, slot := 0, constantValue := 0 }, { name := "coder", type := .byte, accessFlags := 18, slot := 1, constantValue := 0 }, { name := "hash", type := .int, accessFlags := 2, slot := 2, constantValue := 0 }, { name := "hashIsZero", type := .boolean, accessFlags := 2, slot := 3, constantValue := 0 }, { name := "serialVersionUID", type := .long, accessFlags := 26, slot := 0, constantValue := 0 }, { name := "COMPACT_STRINGS", type := .boolean, accessFlags := 24, slot := 1, constantValue := 0 }, { name := "serialPersistentFields", type := (.array (.object "java/io/ObjectStreamField")), accessFlags := 26, slot := 2, constantValue := 0 }, { name := "REPL", type := .char, accessFlags := 26, slot := 3, constantValue := 0 }, { name := "CASE_INSENSITIVE_ORDER", type := (.object "java/util/Comparator"), accessFlags := 25, slot := 4, constantValue := 0 }, { name := "LATIN1", type := .byte, accessFlags := 24, slot := 5, constantValue := 0 }, { name := "UTF16", type := .byte, accessFlags := 24, slot := 6, constantValue := 0 }]
  methods := #[k7m0, k7m1, k7m2]
  instanceTypes := #[(.array .byte), .byte, .int, .boolean]
  staticTypes := #[.long, .boolean, (.array (.object "java/io/ObjectStreamField")), .char, (.object "java/util/Comparator"), .byte, .byte]
  resolved := Array.replicate 1451 none
  statics := some 0 }

def pool8 : Array CpInfo := pool [(4, .class_ 6), (1, u "java/lang/Object"), (0, u "<init>"), (0, u "()V"), (5, .class_ 16), (1, u "java/lang/StringLatin1"), (73, u "canEncode"), (14, u "(C)Z"), (15, u "$assertionsDisabled"), (0, u "Z"), (98, .class_ 223), (1, u "java/lang/StringLatin1$LinesSpliterator"), (156, u "toBytes"), (1, u "(C)[B"), (7, .class_ 391), (0, u "java/lang/StringLatin1$CharsSpliterator")] 3

def k8m0 : Method := { name := "<init>", desc := "()V", sig := { parameters := [], returnType := none }, accessFlags := 0, code := none }
def k8c1 : Code := { maxStack := 2, maxLocals := 1, code := jdk_43_method_3_code, exceptionTable := #[], attributes := #[] }
def k8m1 : Method := { name := "canEncode", desc := "(C)Z", sig := { parameters := [.char], returnType := some .boolean }, accessFlags := 9, code := some k8c1 }
def k8c2 : Code := { maxStack := 4, maxLocals := 1, code := jdk_43_method_46_code, exceptionTable := #[], attributes := #[] }
def k8m2 : Method := { name := "toBytes", desc := "(C)[B", sig := { parameters := [.char], returnType := some (.array .byte) }, accessFlags := 9, code := some k8c2 }
/-- java/lang/StringLatin1 -/
def k8 : Class := { plain "java/lang/StringLatin1" (some 0) with
  accessFlags := 48
  interfaces := #[]
  cf := some (fileOf pool8 14 #[.nestMembers #[390, 221]] #[{ accessFlags := 0, nameIndex := 7, descriptorIndex := 8, attributes := #[] }, { accessFlags := 9, nameIndex := 90, descriptorIndex := 105, attributes := #[] }, { accessFlags := 9, nameIndex := 380, descriptorIndex := 382, attributes := #[] }] 48 4 #[] #[{ accessFlags := 4120, nameIndex := 121, descriptorIndex := 122, attributes := #[] }])
  fields := #[{ name := "$assertionsDisabled", type := .boolean, accessFlags := 4120, slot := 0, constantValue := 0 }]
  methods := #[k8m0, k8m1, k8m2]
  instanceTypes := #[]
  staticTypes := #[.boolean]
  resolved := Array.replicate 395 none
  statics := none }

def pool9 : Array CpInfo := pool [(1, .methodref 2 3), (0, .class_ 4), (0, .nameAndType 5 6), (0, u "java/lang/Object"), (0, u "<init>"), (0, u "()V"), (0, .fieldref 8 9), (0, .class_ 10), (0, .nameAndType 11 12), (0, u "com/example/nomlog/nomlog/lang/Token"), (0, u "kind"), (0, u "Lcom/example/nomlog/nomlog/lang/Token$Kind;"), (0, .fieldref 8 14), (0, .nameAndType 15 16), (0, u "text"), (0, u "Ljava/lang/String;"), (0, .fieldref 8 18), (0, .nameAndType 19 20), (0, u "start"), (0, u "I"), (0, .fieldref 8 22), (0, .nameAndType 23 20), (0, u "end"), (0, .fieldref 8 25), (0, .nameAndType 26 20), (0, u "line"), (0, .fieldref 8 28), (0, .nameAndType 29 20), (0, u "column"), (0, u "(Lcom/example/nomlog/nomlog/lang/Token$Kind;Ljava/lang/String;IIII)V"), (4, u "follows"), (0, u "(Lcom/example/nomlog/nomlog/lang/Token;)Z"), (5, .class_ 43), (0, u "com/example/nomlog/nomlog/lang/Token$Kind")] 2

def k9c0 : Code := { maxStack := 2, maxLocals := 7, code := prog_83_method_1_code, exceptionTable := #[], attributes := #[] }
def k9m0 : Method := { name := "<init>", desc := "(Lcom/example/nomlog/nomlog/lang/Token$Kind;Ljava/lang/String;IIII)V", sig := { parameters := [(.object "com/example/nomlog/nomlog/lang/Token$Kind"), (.object "java/lang/String"), .int, .int, .int, .int], returnType := none }, accessFlags := 0, code := some k9c0 }
def k9c1 : Code := { maxStack := 2, maxLocals := 2, code := prog_83_method_4_code, exceptionTable := #[], attributes := #[] }
def k9m1 : Method := { name := "follows", desc := "(Lcom/example/nomlog/nomlog/lang/Token;)Z", sig := { parameters := [(.object "com/example/nomlog/nomlog/lang/Token")], returnType := some .boolean }, accessFlags := 0, code := some k9c1 }
/-- com/example/nomlog/nomlog/lang/Token -/
def k9 : Class := { plain "com/example/nomlog/nomlog/lang/Token" (some 0) with
  accessFlags := 48
  interfaces := #[]
  cf := some (fileOf pool9 8 #[.nestMembers #[42]] #[{ accessFlags := 0, nameIndex := 5, descriptorIndex := 30, attributes := #[] }, { accessFlags := 0, nameIndex := 35, descriptorIndex := 36, attributes := #[] }] 48 2 #[] #[{ accessFlags := 18, nameIndex := 11, descriptorIndex := 12, attributes := #[] }, { accessFlags := 18, nameIndex := 15, descriptorIndex := 16, attributes := #[] }, { accessFlags := 18, nameIndex := 19, descriptorIndex := 20, attributes := #[] }, { accessFlags := 18, nameIndex := 23, descriptorIndex := 20, attributes := #[] }, { accessFlags := 18, nameIndex := 26, descriptorIndex := 20, attributes := #[] }, { accessFlags := 18, nameIndex := 29, descriptorIndex := 20, attributes := #[] }])
  fields := #[{ name := "kind", type := (.object "com/example/nomlog/nomlog/lang/Token$Kind"), accessFlags := 18, slot := 0, constantValue := 0 }, { name := "text", type := (.object "java/lang/String"), accessFlags := 18, slot := 1, constantValue := 0 }, { name := "start", type := .int, accessFlags := 18, slot := 2, constantValue := 0 }, { name := "end", type := .int, accessFlags := 18, slot := 3, constantValue := 0 }, { name := "line", type := .int, accessFlags := 18, slot := 4, constantValue := 0 }, { name := "column", type := .int, accessFlags := 18, slot := 5, constantValue := 0 }]
  methods := #[k9m0, k9m1]
  instanceTypes := #[(.object "com/example/nomlog/nomlog/lang/Token$Kind"), (.object "java/lang/String"), .int, .int, .int, .int]
  staticTypes := #[]
  resolved := Array.replicate 46 none
  statics := none }

def pool10 : Array CpInfo := pool [(2, .class_ 4), (1, u "java/lang/Enum"), (0, u "name"), (0, u "Ljava/lang/String;"), (2, u "ordinal"), (0, u "I"), (1, .class_ 14), (1, u "java/lang/Object"), (4, u "hash"), (86, .class_ 108), (1, u "java/lang/Enum$EnumDesc"), (2, .class_ 112), (0, u "java/lang/constant/Constable"), (0, .class_ 114), (0, u "java/lang/Comparable"), (0, .class_ 116), (0, u "java/io/Serializable")] 87

/-- java/lang/Enum -/
def k10 : Class := { plain "java/lang/Enum" (some 0) with
  accessFlags := 1057
  interfaces := #[5, 3, 2]
  cf := some (fileOf pool10 2 #[.nestMembers #[106]] #[] 1057 12 #[111, 113, 115] #[{ accessFlags := 18, nameIndex := 5, descriptorIndex := 6, attributes := #[] }, { accessFlags := 18, nameIndex := 9, descriptorIndex := 10, attributes := #[] }, { accessFlags := 2, nameIndex := 19, descriptorIndex := 10, attributes := #[] }])
  fields := #[{ name := "name", type := (.object "java/lang/String"), accessFlags := 18, slot := 0, constantValue := 0 }, { name := "ordinal", type := .int, accessFlags := 18, slot := 1, constantValue := 0 }, { name := "hash", type := .int, accessFlags := 2, slot := 2, constantValue := 0 }]
  methods := #[]
  instanceTypes := #[(.object "java/lang/String"), .int, .int]
  staticTypes := #[]
  resolved := Array.replicate 204 none
  statics := none }

def pool11 : Array CpInfo := pool [(1, .class_ 2), (0, u "com/example/nomlog/nomlog/lang/Token$Kind"), (2, u "ATOM"), (0, u "Lcom/example/nomlog/nomlog/lang/Token$Kind;"), (2, u "VARIABLE"), (2, u "INTEGER"), (2, u "STRING"), (2, u "OPEN"), (2, u "CLOSE"), (2, u "OPEN_LIST"), (2, u "CLOSE_LIST"), (2, u "COMMA"), (2, u "BAR"), (2, u "OPERATOR"), (2, u "BACKSLASH"), (2, u "NECK"), (2, u "END_CLAUSE"), (2, u "END"), (2, u "$VALUES"), (0, u "[Lcom/example/nomlog/nomlog/lang/Token$Kind;"), (6, .class_ 61), (1, u "java/lang/Enum"), (38, .class_ 101), (0, u "com/example/nomlog/nomlog/lang/Token")] 2

/-- com/example/nomlog/nomlog/lang/Token$Kind -/
def k11 : Class := { plain "com/example/nomlog/nomlog/lang/Token$Kind" (some 10) with
  accessFlags := 16432
  interfaces := #[]
  cf := some (fileOf pool11 1 #[.nestHost 100] #[] 16432 59 #[] #[{ accessFlags := 16409, nameIndex := 5, descriptorIndex := 6, attributes := #[] }, { accessFlags := 16409, nameIndex := 9, descriptorIndex := 6, attributes := #[] }, { accessFlags := 16409, nameIndex := 12, descriptorIndex := 6, attributes := #[] }, { accessFlags := 16409, nameIndex := 15, descriptorIndex := 6, attributes := #[] }, { accessFlags := 16409, nameIndex := 18, descriptorIndex := 6, attributes := #[] }, { accessFlags := 16409, nameIndex := 21, descriptorIndex := 6, attributes := #[] }, { accessFlags := 16409, nameIndex := 24, descriptorIndex := 6, attributes := #[] }, { accessFlags := 16409, nameIndex := 27, descriptorIndex := 6, attributes := #[] }, { accessFlags := 16409, nameIndex := 30, descriptorIndex := 6, attributes := #[] }, { accessFlags := 16409, nameIndex := 33, descriptorIndex := 6, attributes := #[] }, { accessFlags := 16409, nameIndex := 36, descriptorIndex := 6, attributes := #[] }, { accessFlags := 16409, nameIndex := 39, descriptorIndex := 6, attributes := #[] }, { accessFlags := 16409, nameIndex := 42, descriptorIndex := 6, attributes := #[] }, { accessFlags := 16409, nameIndex := 45, descriptorIndex := 6, attributes := #[] }, { accessFlags := 16409, nameIndex := 48, descriptorIndex := 6, attributes := #[] }, { accessFlags := 4122, nameIndex := 51, descriptorIndex := 52, attributes := #[] }])
  fields := #[{ name := "ATOM", type := (.object "com/example/nomlog/nomlog/lang/Token$Kind"), accessFlags := 16409, slot := 0, constantValue := 0 }, { name := "VARIABLE", type := (.object "com/example/nomlog/nomlog/lang/Token$Kind"), accessFlags := 16409, slot := 1, constantValue := 0 }, { name := "INTEGER", type := (.object "com/example/nomlog/nomlog/lang/Token$Kind"), accessFlags := 16409, slot := 2, constantValue := 0 }, { name := "STRING", type := (.object "com/example/nomlog/nomlog/lang/Token$Kind"), accessFlags := 16409, slot := 3, constantValue := 0 }, { name := "OPEN", type := (.object "com/example/nomlog/nomlog/lang/Token$Kind"), accessFlags := 16409, slot := 4, constantValue := 0 }, { name := "CLOSE", type := (.object "com/example/nomlog/nomlog/lang/Token$Kind"), accessFlags := 16409, slot := 5, constantValue := 0 }, { name := "OPEN_LIST", type := (.object "com/example/nomlog/nomlog/lang/Token$Kind"), accessFlags := 16409, slot := 6, constantValue := 0 }, { name := "CLOSE_LIST", type := (.object "com/example/nomlog/nomlog/lang/Token$Kind"), accessFlags := 16409, slot := 7, constantValue := 0 }, { name := "COMMA", type := (.object "com/example/nomlog/nomlog/lang/Token$Kind"), accessFlags := 16409, slot := 8, constantValue := 0 }, { name := "BAR", type := (.object "com/example/nomlog/nomlog/lang/Token$Kind"), accessFlags := 16409, slot := 9, constantValue := 0 }, { name := "OPERATOR", type := (.object "com/example/nomlog/nomlog/lang/Token$Kind"), accessFlags := 16409, slot := 10, constantValue := 0 }, { name := "BACKSLASH", type := (.object "com/example/nomlog/nomlog/lang/Token$Kind"), accessFlags := 16409, slot := 11, constantValue := 0 }, { name := "NECK", type := (.object "com/example/nomlog/nomlog/lang/Token$Kind"), accessFlags := 16409, slot := 12, constantValue := 0 }, { name := "END_CLAUSE", type := (.object "com/example/nomlog/nomlog/lang/Token$Kind"), accessFlags := 16409, slot := 13, constantValue := 0 }, { name := "END", type := (.object "com/example/nomlog/nomlog/lang/Token$Kind"), accessFlags := 16409, slot := 14, constantValue := 0 }, { name := "$VALUES", type := (.array (.object "com/example/nomlog/nomlog/lang/Token$Kind")), accessFlags := 4122, slot := 15, constantValue := 0 }]
  methods := #[]
  instanceTypes := #[(.object "java/lang/String"), .int, .int]
  staticTypes := #[(.object "com/example/nomlog/nomlog/lang/Token$Kind"), (.object "com/example/nomlog/nomlog/lang/Token$Kind"), (.object "com/example/nomlog/nomlog/lang/Token$Kind"), (.object "com/example/nomlog/nomlog/lang/Token$Kind"), (.object "com/example/nomlog/nomlog/lang/Token$Kind"), (.object "com/example/nomlog/nomlog/lang/Token$Kind"), (.object "com/example/nomlog/nomlog/lang/Token$Kind"), (.object "com/example/nomlog/nomlog/lang/Token$Kind"), (.object "com/example/nomlog/nomlog/lang/Token$Kind"), (.object "com/example/nomlog/nomlog/lang/Token$Kind"), (.object "com/example/nomlog/nomlog/lang/Token$Kind"), (.object "com/example/nomlog/nomlog/lang/Token$Kind"), (.object "com/example/nomlog/nomlog/lang/Token$Kind"), (.object "com/example/nomlog/nomlog/lang/Token$Kind"), (.object "com/example/nomlog/nomlog/lang/Token$Kind"), (.array (.object "com/example/nomlog/nomlog/lang/Token$Kind"))]
  resolved := Array.replicate 104 none
  statics := some 1 }

def pool12 : Array CpInfo := pool [(2, .class_ 4), (1, u "java/lang/Object"), (0, u "<init>"), (0, u "()V"), (17, .class_ 26), (1, u "jdk/internal/util/Preconditions"), (28, .class_ 56), (0, u "jdk/internal/util/Preconditions$4"), (57, .class_ 115), (0, u "jdk/internal/util/Preconditions$1"), (7, u "SIOOBE_FORMATTER"), (0, u "Ljava/util/function/BiFunction;"), (0, .class_ 126), (0, u "jdk/internal/util/Preconditions$2"), (3, u "AIOOBE_FORMATTER"), (0, .class_ 132), (0, u "jdk/internal/util/Preconditions$3"), (3, u "IOOBE_FORMATTER")] 57

def k12m0 : Method := { name := "<init>", desc := "()V", sig := { parameters := [], returnType := none }, accessFlags := 1, code := none }
/-- jdk/internal/util/Preconditions -/
def k12 : Class := { plain "jdk/internal/util/Preconditions" (some 0) with
  accessFlags := 33
  interfaces := #[]
  cf := some (fileOf pool12 24 #[.nestMembers #[55, 131, 125, 114]] #[{ accessFlags := 1, nameIndex := 5, descriptorIndex := 6, attributes := #[] }] 33 2 #[] #[{ accessFlags := 25, nameIndex := 123, descriptorIndex := 124, attributes := #[] }, { accessFlags := 25, nameIndex := 130, descriptorIndex := 124, attributes := #[] }, { accessFlags := 25, nameIndex := 136, descriptorIndex := 124, attributes := #[] }])
  fields := #[{ name := "SIOOBE_FORMATTER", type := (.object "java/util/function/BiFunction"), accessFlags := 25, slot := 0, constantValue := 0 }, { name := "AIOOBE_FORMATTER", type := (.object "java/util/function/BiFunction"), accessFlags := 25, slot := 1, constantValue := 0 }, { name := "IOOBE_FORMATTER", type := (.object "java/util/function/BiFunction"), accessFlags := 25, slot := 2, constantValue := 0 }]
  methods := #[k12m0]
  instanceTypes := #[]
  staticTypes := #[(.object "java/util/function/BiFunction"), (.object "java/util/function/BiFunction"), (.object "java/util/function/BiFunction")]
  resolved := Array.replicate 194 none
  statics := some 2 }

def pool13 : Array CpInfo := pool [(9, u "<init>"), (6, .class_ 18), (1, u "java/lang/Object"), (0, u "()V"), (1, .class_ 23), (1, u "jdk/internal/util/ArraysSupport"), (0, u "LOG2_ARRAY_LONG_INDEX_SCALE"), (0, u "I"), (2, u "U"), (0, u "Ljdk/internal/misc/Unsafe;"), (8, u "BIG_ENDIAN"), (0, u "Z"), (8, u "LOG2_BYTE_BIT_SIZE"), (4, u "LOG2_ARRAY_INT_INDEX_SCALE"), (54, u "JLA"), (0, u "Ljdk/internal/access/JavaLangAccess;"), (11, u "LOG2_ARRAY_BOOLEAN_INDEX_SCALE"), (9, u "LOG2_ARRAY_BYTE_INDEX_SCALE"), (5, u "LOG2_ARRAY_CHAR_INDEX_SCALE"), (5, u "LOG2_ARRAY_SHORT_INDEX_SCALE"), (18, u "LOG2_ARRAY_FLOAT_INDEX_SCALE"), (24, u "LOG2_ARRAY_DOUBLE_INDEX_SCALE"), (89, u "T_BOOLEAN"), (2, u "T_CHAR"), (1, u "T_FLOAT"), (1, u "T_DOUBLE"), (1, u "T_BYTE"), (1, u "T_SHORT"), (1, u "T_INT"), (1, u "T_LONG"), (1, u "SOFT_MAX_ARRAY_LENGTH")] 83

def k13m0 : Method := { name := "<init>", desc := "()V", sig := { parameters := [], returnType := none }, accessFlags := 2, code := none }
/-- jdk/internal/util/ArraysSupport -/
def k13 : Class := { plain "jdk/internal/util/ArraysSupport" (some 0) with
  accessFlags := 33
  interfaces := #[]
  cf := some (fileOf pool13 21 #[] #[{ accessFlags := 2, nameIndex := 9, descriptorIndex := 19, attributes := #[] }] 33 16 #[] #[{ accessFlags := 24, nameIndex := 28, descriptorIndex := 29, attributes := #[] }, { accessFlags := 26, nameIndex := 38, descriptorIndex := 39, attributes := #[] }, { accessFlags := 25, nameIndex := 121, descriptorIndex := 25, attributes := #[] }, { accessFlags := 25, nameIndex := 131, descriptorIndex := 25, attributes := #[] }, { accessFlags := 25, nameIndex := 137, descriptorIndex := 25, attributes := #[] }, { accessFlags := 25, nameIndex := 143, descriptorIndex := 25, attributes := #[] }, { accessFlags := 25, nameIndex := 53, descriptorIndex := 25, attributes := #[] }, { accessFlags := 25, nameIndex := 24, descriptorIndex := 25, attributes := #[] }, { accessFlags := 25, nameIndex := 162, descriptorIndex := 25, attributes := #[] }, { accessFlags := 25, nameIndex := 187, descriptorIndex := 25, attributes := #[] }, { accessFlags := 26, nameIndex := 48, descriptorIndex := 25, attributes := #[] }, { accessFlags := 25, nameIndex := 277, descriptorIndex := 25, attributes := #[] }, { accessFlags := 25, nameIndex := 280, descriptorIndex := 25, attributes := #[] }, { accessFlags := 25, nameIndex := 282, descriptorIndex := 25, attributes := #[] }, { accessFlags := 25, nameIndex := 284, descriptorIndex := 25, attributes := #[] }, { accessFlags := 25, nameIndex := 286, descriptorIndex := 25, attributes := #[] }, { accessFlags := 25, nameIndex := 288, descriptorIndex := 25, attributes := #[] }, { accessFlags := 25, nameIndex := 290, descriptorIndex := 25, attributes := #[] }, { accessFlags := 25, nameIndex := 292, descriptorIndex := 25, attributes := #[] }, { accessFlags := 26, nameIndex := 108, descriptorIndex := 109, attributes := #[] }, { accessFlags := 25, nameIndex := 294, descriptorIndex := 25, attributes := #[] }])
  fields := #[{ name := "U", type := (.object "jdk/internal/misc/Unsafe"), accessFlags := 24, slot := 0, constantValue := 0 }, { name := "BIG_ENDIAN", type := .boolean, accessFlags := 26, slot := 1, constantValue := 0 }, { name := "LOG2_ARRAY_BOOLEAN_INDEX_SCALE", type := .int, accessFlags := 25, slot := 2, constantValue := 0 }, { name := "LOG2_ARRAY_BYTE_INDEX_SCALE", type := .int, accessFlags := 25, slot := 3, constantValue := 0 }, { name := "LOG2_ARRAY_CHAR_INDEX_SCALE", type := .int, accessFlags := 25, slot := 4, constantValue := 0 }, { name := "LOG2_ARRAY_SHORT_INDEX_SCALE", type := .int, accessFlags := 25, slot := 5, constantValue := 0 }, { name := "LOG2_ARRAY_INT_INDEX_SCALE", type := .int, accessFlags := 25, slot := 6, constantValue := 0 }, { name := "LOG2_ARRAY_LONG_INDEX_SCALE", type := .int, accessFlags := 25, slot := 7, constantValue := 0 }, { name := "LOG2_ARRAY_FLOAT_INDEX_SCALE", type := .int, accessFlags := 25, slot := 8, constantValue := 0 }, { name := "LOG2_ARRAY_DOUBLE_INDEX_SCALE", type := .int, accessFlags := 25, slot := 9, constantValue := 0 }, { name := "LOG2_BYTE_BIT_SIZE", type := .int, accessFlags := 26, slot := 10, constantValue := 0 }, { name := "T_BOOLEAN", type := .int, accessFlags := 25, slot := 11, constantValue := 0 }, { name := "T_CHAR", type := .int, accessFlags := 25, slot := 12, constantValue := 0 }, { name := "T_FLOAT", type := .int, accessFlags := 25, slot := 13, constantValue := 0 }, { name := "T_DOUBLE", type := .int, accessFlags := 25, slot := 14, constantValue := 0 }, { name := "T_BYTE", type := .int, accessFlags := 25, slot := 15, constantValue := 0 }, { name := "T_SHORT", type := .int, accessFlags := 25, slot := 16, constantValue := 0 }, { name := "T_INT", type := .int, accessFlags := 25, slot := 17, constantValue := 0 }, { name := "T_LONG", type := .int, accessFlags := 25, slot := 18, constantValue := 0 }, { name := "JLA", type := (.object "jdk/internal/access/JavaLangAccess"), accessFlags := 26, slot := 19, constantValue := 0 }, { name := "SOFT_MAX_ARRAY_LENGTH", type := .int, accessFlags := 25, slot := 20, constantValue := 0 }]
  methods := #[k13m0]
  instanceTypes := #[]
  staticTypes := #[(.object "jdk/internal/misc/Unsafe"), .boolean, .int, .int, .int, .int, .int, .int, .int, .int, .int, .int, .int, .int, .int, .int, .int, .int, .int, (.object "jdk/internal/access/JavaLangAccess"), .int]
  resolved := Array.replicate 378 none
  statics := none }

def pool14 : Array CpInfo := pool [(1, u "java/lang/Cloneable"), (0, .class_ 1), (0, u "java/lang/Object"), (0, .class_ 3)] 3

/-- java/lang/Cloneable -/
def k14 : Class := { plain "java/lang/Cloneable" (some 0) with
  accessFlags := 1537
  interfaces := #[]
  cf := some (fileOf pool14 2 #[] #[] 1537 4 #[] #[])
  fields := #[]
  methods := #[]
  instanceTypes := #[]
  staticTypes := #[]
  resolved := Array.replicate 8 none
  statics := none }

/-- the primitive byte -/
def k15 : Class := { plain "byte" none with kind := .primitive 'B', accessFlags := 0x411 }
/-- [B -/
def k16 : Class := { plain "[B" (some 0) with kind := .array 15 .byte, interfaces := #[14, 2], accessFlags := 1041 }

/-- the primitive int -/
def k17 : Class := { plain "int" none with kind := .primitive 'I', accessFlags := 0x411 }
/-- [I -/
def k18 : Class := { plain "[I" (some 0) with kind := .array 17 .int, interfaces := #[14, 2], accessFlags := 1041 }

def heap : Heap := #[{ cls := 7, slots := #[.long 0, .int 1, .null, .int 0, .null, .int 0, .int 0], vm := .statics 7 },
  { cls := 11, slots := #[.ref 3, .ref 4, .ref 5, .ref 6, .ref 7, .ref 8, .ref 9, .ref 10, .ref 11, .ref 12, .ref 13, .ref 14, .ref 15, .ref 16, .ref 17, .null], vm := .statics 11 },
  { cls := 12, slots := #[.null, .null, .null], vm := .statics 12 },
  { cls := 11, slots := #[.null, .int 0, .int 0], vm := .none },
  { cls := 11, slots := #[.null, .int 1, .int 0], vm := .none },
  { cls := 11, slots := #[.null, .int 2, .int 0], vm := .none },
  { cls := 11, slots := #[.null, .int 3, .int 0], vm := .none },
  { cls := 11, slots := #[.null, .int 4, .int 0], vm := .none },
  { cls := 11, slots := #[.null, .int 5, .int 0], vm := .none },
  { cls := 11, slots := #[.null, .int 6, .int 0], vm := .none },
  { cls := 11, slots := #[.null, .int 7, .int 0], vm := .none },
  { cls := 11, slots := #[.null, .int 8, .int 0], vm := .none },
  { cls := 11, slots := #[.null, .int 9, .int 0], vm := .none },
  { cls := 11, slots := #[.null, .int 10, .int 0], vm := .none },
  { cls := 11, slots := #[.null, .int 11, .int 0], vm := .none },
  { cls := 11, slots := #[.null, .int 12, .int 0], vm := .none },
  { cls := 11, slots := #[.null, .int 13, .int 0], vm := .none },
  { cls := 11, slots := #[.null, .int 14, .int 0], vm := .none }]
def classes : Array Class := #[k0, k1, k2, k3, k4, k5, k6, k7, k8, k9, k10, k11, k12, k13, k14, k15, k16, k17, k18]
def interned : List (Array UInt16 × Addr) := []
def slotsUsed : Nat := 71
def theMethod : MethodId := ⟨1, 2⟩
def args0 : Array Value := #[.int 5, .int 5, .int 5, .int 5, .int 5, .int 5]
def aboutOver (below : List Frame) : State where
  vm := { classes := classes, interned := interned.toArray }
  heap := heap
  slotsUsed := slotsUsed
  threads := #[{ frames := .invoking theMethod args0 :: below }]
def below0 : List Frame := [.native { method := ⟨0, 0⟩, args := #[] }]
def about1 : State := aboutOver below0
def p0 : Program := .bare "" "" ""
def e0 : Env := launch0.env 0 0 0
theorem w_frames : about1.frames = Frame.invoking theMethod args0 :: below0 := rfl
set_option maxRecDepth 65536 in
theorem w_args : argsFit about1.vm theMethod args0 = true := by decide +kernel
set_option maxRecDepth 65536 in
theorem w_heap : heapFits about1 = true := by decide +kernel
set_option maxRecDepth 65536 in
theorem w_runnable : about1.curStatus? = some .runnable := by decide +kernel
set_option maxRecDepth 65536 in
theorem w_alone : about1.alone = true := by decide +kernel
set_option maxRecDepth 65536 in
theorem w_named : about1.methodNamed? x = some theMethod := by decide +kernel
set_option maxRecDepth 65536 in
theorem w_hears : about1.hears theMethod below0 = true := by decide +kernel
set_option maxRecDepth 65536 in
theorem w_ripe : about1.ripe theMethod args0 below0 = true := by decide +kernel
theorem w_running : about1.status = .running := rfl
set_option maxRecDepth 65536 in
theorem w_room : about1.hasRoom e0.platform room_1 = true :=
  launch0.hasRoom_least _ room_1 (by decide +kernel) (by decide +kernel) (by decide +kernel) (by decide +kernel) (by decide +kernel) (by decide +kernel)
theorem allAtoms_all (ts : List Jvm.Cond) (a : Array Jvm.Value) (st : Jvm.State) : (allAtoms ts).before a st = ts.all (fun c => c.before a st) := by
  induction ts with
  | nil => rfl
  | cons c t ih =>
    show (Jvm.Cond.and c (allAtoms t)).before a st = _
    rw [Jvm.Cond.before_and, ih, List.all_cons]
def words1 : List Jvm.Cond := Jvm.Cond.code x code maxLocals ret :: tables_1
/-- a 'code' word, met by the world's own term for the bytes: nothing is compared byte by byte -/
theorem code_word {y : MethodName} {bytes : ByteArray} {mx : Nat} {rt : Option FieldType} {a : Array Value} {s : State} {m : MethodId} {meth : Method} {c : Code} (h1 : s.methodNamed? y = some m) (h2 : s.vm.method? m = some meth) (h3 : meth.code = some c) (h4 : c.code = bytes)
    (h5 : (c.maxLocals == mx && c.exceptionTable.isEmpty && decide (c.maxStack ≤ mostOperands) && decide (meth.sig.returnType = rt) && !meth.locks && decide (parseMethodDescriptor y.desc = some meth.sig)) = true) : (Jvm.Cond.code y bytes mx rt).before a s = true := by
  simp only [Bool.and_eq_true, beq_iff_eq, Bool.not_eq_true', decide_eq_true_eq] at h5
  obtain ⟨⟨⟨⟨⟨g1, g2⟩, g3⟩, g4⟩, g5⟩, g6⟩ := h5
  simp [Cond.before, Cond.holds, Cond.value, h1, h2, h3, h4, g1, g2, g3, g4, g5, g6]
def isCode : Jvm.Cond → Bool
  | .code _ _ _ _ => true
  | _ => false
theorem all_split {L : List Jvm.Cond} {P : Jvm.Cond → Bool} (h1 : L.all (fun c => isCode c || P c) = true) (h2 : ∀ c ∈ L.filter isCode, P c = true) : L.all P = true := by
  refine List.all_eq_true.mpr fun c hc => ?_
  have h := List.all_eq_true.mp h1 c hc
  rcases Bool.eq_false_or_eq_true (isCode c) with hi | hi
  · exact h2 c (List.mem_filter.mpr ⟨hc, hi⟩)
  · simpa [hi] using h
set_option maxRecDepth 65536 in
theorem w_c0 : (Jvm.Cond.code x code maxLocals ret).before args0 about1 = true := code_word (m := ⟨1, 2⟩) (meth := k1m2) (c := k1c2) (by decide +kernel) rfl rfl rfl (by decide +kernel)
set_option maxRecDepth 65536 in
theorem w_c1 : (Jvm.Cond.code ({ cls := "java/lang/String", name := "valueOf", desc := "(C)Ljava/lang/String;" } : Jvm.MethodName) jdk_42_method_139_code (1 : Nat) (Option.some (Jvm.ClassFile.FieldType.object "java/lang/String"))).before args0 about1 = true := code_word (m := ⟨7, 1⟩) (meth := k7m1) (c := k7c1) (by decide +kernel) rfl rfl rfl (by decide +kernel)
set_option maxRecDepth 65536 in
theorem w_c2 : (Jvm.Cond.code ({ cls := "java/lang/StringLatin1", name := "canEncode", desc := "(C)Z" } : Jvm.MethodName) jdk_43_method_3_code (1 : Nat) (Option.some Jvm.ClassFile.FieldType.boolean)).before args0 about1 = true := code_word (m := ⟨8, 1⟩) (meth := k8m1) (c := k8c1) (by decide +kernel) rfl rfl rfl (by decide +kernel)
set_option maxRecDepth 65536 in
theorem w_c3 : (Jvm.Cond.code ({ cls := "java/lang/StringLatin1", name := "toBytes", desc := "(C)[B" } : Jvm.MethodName) jdk_43_method_46_code (1 : Nat) (Option.some (Jvm.ClassFile.FieldType.array Jvm.ClassFile.FieldType.byte))).before args0 about1 = true := code_word (m := ⟨8, 2⟩) (meth := k8m2) (c := k8c2) (by decide +kernel) rfl rfl rfl (by decide +kernel)
set_option maxRecDepth 65536 in
theorem w_c4 : (Jvm.Cond.code ({ cls := "java/lang/String", name := "<init>", desc := "([BB)V" } : Jvm.MethodName) jdk_42_method_151_code (3 : Nat) (Option.none : Option Jvm.ClassFile.FieldType)).before args0 about1 = true := code_word (m := ⟨7, 2⟩) (meth := k7m2) (c := k7c2) (by decide +kernel) rfl rfl rfl (by decide +kernel)
set_option maxRecDepth 65536 in
theorem w_c5 : (Jvm.Cond.code ({ cls := "java/lang/Object", name := "<init>", desc := "()V" } : Jvm.MethodName) object_method_1_code (1 : Nat) (Option.none : Option Jvm.ClassFile.FieldType)).before args0 about1 = true := code_word (m := ⟨0, 0⟩) (meth := k0m0) (c := k0c0) (by decide +kernel) rfl rfl rfl (by decide +kernel)
set_option maxRecDepth 65536 in
theorem w_c6 : (Jvm.Cond.code ({ cls := "com/example/nomlog/nomlog/lang/TokenFollowsPinLaw", name := "kindOf", desc := "(I)Lcom/example/nomlog/nomlog/lang/Token$Kind;" } : Jvm.MethodName) method_2_code (2 : Nat) (Option.some (Jvm.ClassFile.FieldType.object "com/example/nomlog/nomlog/lang/Token$Kind"))).before args0 about1 = true := code_word (m := ⟨1, 1⟩) (meth := k1m1) (c := k1c1) (by decide +kernel) rfl rfl rfl (by decide +kernel)
set_option maxRecDepth 65536 in
theorem w_c7 : (Jvm.Cond.code ({ cls := "com/example/nomlog/nomlog/lang/Token", name := "<init>", desc := "(Lcom/example/nomlog/nomlog/lang/Token$Kind;Ljava/lang/String;IIII)V" } : Jvm.MethodName) prog_83_method_1_code (7 : Nat) (Option.none : Option Jvm.ClassFile.FieldType)).before args0 about1 = true := code_word (m := ⟨9, 0⟩) (meth := k9m0) (c := k9c0) (by decide +kernel) rfl rfl rfl (by decide +kernel)
set_option maxRecDepth 65536 in
theorem w_c8 : (Jvm.Cond.code ({ cls := "com/example/nomlog/nomlog/lang/Token", name := "follows", desc := "(Lcom/example/nomlog/nomlog/lang/Token;)Z" } : Jvm.MethodName) prog_83_method_4_code (2 : Nat) (Option.some Jvm.ClassFile.FieldType.boolean)).before args0 about1 = true := code_word (m := ⟨9, 1⟩) (meth := k9m1) (c := k9c1) (by decide +kernel) rfl rfl rfl (by decide +kernel)
def codes1 : List Jvm.Cond := [Jvm.Cond.code x code maxLocals ret, Jvm.Cond.code ({ cls := "java/lang/String", name := "valueOf", desc := "(C)Ljava/lang/String;" } : Jvm.MethodName) jdk_42_method_139_code (1 : Nat) (Option.some (Jvm.ClassFile.FieldType.object "java/lang/String")), Jvm.Cond.code ({ cls := "java/lang/StringLatin1", name := "canEncode", desc := "(C)Z" } : Jvm.MethodName) jdk_43_method_3_code (1 : Nat) (Option.some Jvm.ClassFile.FieldType.boolean), Jvm.Cond.code ({ cls := "java/lang/StringLatin1", name := "toBytes", desc := "(C)[B" } : Jvm.MethodName) jdk_43_method_46_code (1 : Nat) (Option.some (Jvm.ClassFile.FieldType.array Jvm.ClassFile.FieldType.byte)), Jvm.Cond.code ({ cls := "java/lang/String", name := "<init>", desc := "([BB)V" } : Jvm.MethodName) jdk_42_method_151_code (3 : Nat) (Option.none : Option Jvm.ClassFile.FieldType), Jvm.Cond.code ({ cls := "java/lang/Object", name := "<init>", desc := "()V" } : Jvm.MethodName) object_method_1_code (1 : Nat) (Option.none : Option Jvm.ClassFile.FieldType), Jvm.Cond.code ({ cls := "com/example/nomlog/nomlog/lang/TokenFollowsPinLaw", name := "kindOf", desc := "(I)Lcom/example/nomlog/nomlog/lang/Token$Kind;" } : Jvm.MethodName) method_2_code (2 : Nat) (Option.some (Jvm.ClassFile.FieldType.object "com/example/nomlog/nomlog/lang/Token$Kind")), Jvm.Cond.code ({ cls := "com/example/nomlog/nomlog/lang/Token", name := "<init>", desc := "(Lcom/example/nomlog/nomlog/lang/Token$Kind;Ljava/lang/String;IIII)V" } : Jvm.MethodName) prog_83_method_1_code (7 : Nat) (Option.none : Option Jvm.ClassFile.FieldType), Jvm.Cond.code ({ cls := "com/example/nomlog/nomlog/lang/Token", name := "follows", desc := "(Lcom/example/nomlog/nomlog/lang/Token;)Z" } : Jvm.MethodName) prog_83_method_4_code (2 : Nat) (Option.some Jvm.ClassFile.FieldType.boolean)]
set_option maxRecDepth 65536 in
theorem codes_eq : words1.filter isCode = codes1 := rfl
theorem w_codes : ∀ c ∈ words1.filter isCode, c.before args0 about1 = true := by
  rw [codes_eq]
  intro c hc
  simp only [codes1, List.mem_cons, List.not_mem_nil, or_false] at hc
  rcases hc with rfl | rfl | rfl | rfl | rfl | rfl | rfl | rfl | rfl
  · exact w_c0
  · exact w_c1
  · exact w_c2
  · exact w_c3
  · exact w_c4
  · exact w_c5
  · exact w_c6
  · exact w_c7
  · exact w_c8
set_option maxRecDepth 65536 in
theorem w_t1 : (words1.take 24).all (fun c => isCode c || c.before args0 about1) = true := by decide +kernel
set_option maxRecDepth 65536 in
theorem w_t2 : ((words1.drop 24).take 24).all (fun c => isCode c || c.before args0 about1) = true := by decide +kernel
set_option maxRecDepth 65536 in
theorem w_t3 : (((words1.drop 24).drop 24).take 24).all (fun c => isCode c || c.before args0 about1) = true := by decide +kernel
set_option maxRecDepth 65536 in
theorem w_t4 : (((words1.drop 24).drop 24).drop 24).all (fun c => isCode c || c.before args0 about1) = true := by decide +kernel
theorem w_tables : (allAtoms (Jvm.Cond.code x code maxLocals ret :: tables_1)).before args0 about1 = true := by
  rw [allAtoms_all]
  show words1.all (fun c => c.before args0 about1) = true
  refine all_split ?_ w_codes
  rw [← List.take_append_drop 24 words1, List.all_append, w_t1, ← List.take_append_drop 24 (words1.drop 24), List.all_append, w_t2, ← List.take_append_drop 24 ((words1.drop 24).drop 24), List.all_append, w_t3, w_t4]
  rfl
set_option maxRecDepth 65536 in
theorem w_rest : rest_1_c.before args0 about1 = true := by decide +kernel
set_option maxRecDepth 65536 in
theorem w_case : (Jvm.Cond.and given_1 narrow_1).before args0 about1 = true := by decide +kernel
theorem w_applies : (headSpec (Jvm.Cond.code x code maxLocals ret :: tables_1) room_1).applies x e0.platform about1 = true :=
  (Spec.applies_iff w_frames).mpr ⟨w_running, w_runnable, w_alone, w_named, w_hears, w_ripe, w_room, w_tables⟩
theorem atStart : AtStart classFile x code maxLocals ret World_1 tables_1 room_1 Calls_1 rest_1 Pre_1 launch0 p0 e0 about1 theMethod args0 below0 :=
  ⟨lists_1, trivial, launch0.admits_env _ _ _, launch0.least_env, fairChoices_fair.cas, fairChoices_fair.clock, w_frames, w_args, w_heap, w_applies, trivial, w_rest, w_case⟩
end start1
theorem witness_1 : WitnessClaimed_1 := ⟨start1.p0, start1.e0, start1.about1, start1.theMethod, start1.args0, start1.below0, start1.atStart⟩
end Jvm.Pilot.@@N@@
