import JvmDerived
import JvmDerived.Pilot.@@N@@Statement
import JvmDerived.Pilot.@@N@@Code
set_option linter.unusedVariables false
set_option linter.unusedSimpArgs false
namespace Jvm.RoadKit
open Sem ClassFile Op Lib Jvm.Stand Jvm.Free Jvm.LawKit
section New
variable {p : Program} {l : Launch} {e : Env} {R : Room} {s : State} {m : MethodId} {args : Array Value} {below : List Frame} {meth : Method} {c : Code} {T : State} {locs : List Loc} {cells slots : Nat}
theorem retI (X : Stand p l e R s m args below meth c T locs cells slots) (hx : p.tables.exec = Jvm.exec) {pc : Nat} {Ls : Array Slot} {z : Int32} {rest : List Value} (hret : meth.sig.returnType = some .int) (hd : decode c.code pc = .ok (.ireturn, 1)) {fs : List Frame}
    (hl : ∀ (f : JFrame) (acts : List Action), f.method = m → f.locked = none → f.entered = [] → (doReturn e (T.setTop f) acts (some (.int z))).1 = T.setFrames fs) : Steps p.tables e below (T.setTop (mkF m pc Ls (.int z :: rest))) (T.setFrames fs) := by
  have hm' : T.vm.method? m = some meth := X.method'
  have hn : narrow .int (.int z) = .int z := rfl
  show Steps p.tables e below (T.setTop { method := m, pc := pc, locals := Ls, stack := _ :: rest, locked := none }) _
  jvm_step X.here [X.here.top, hx, hd, hm', hret, hn]
  first | (intro acts; rw [hl _ acts rfl rfl rfl]) | rw [hl _ _ rfl rfl rfl]
  exact Steps.refl _
end New
end Jvm.RoadKit
namespace Jvm.Pilot.@@N@@
open Jvm Jvm.ClassFile Sem Op Lib Jvm.Free Jvm.Stand Jvm.LawKit Jvm.RoadKit Bundle Jvm.Pilot.@@N@@.Jvm.D
theorem own_lc_lt (x y : Int64) : lcmpW x y < 0 ↔ x < y := by rw [lcW]; exact lc_lt x y
theorem own_lc_gt (x y : Int64) : 0 < lcmpW x y ↔ y < x := by rw [lcW]; exact lc_gt x y
theorem own_lc_eq (x y : Int64) : lcmpW x y = 0 ↔ x = y := by rw [lcW]; exact lc_eq x y
theorem own_ri {P : Prop} [Decidable P] {a b : Value} (h1 : a.isRef = true) (h2 : b.isRef = true) : (if P then a else b).isRef = true := by
  by_cases h : P
  · rw [if_pos h]; exact h1
  · rw [if_neg h]; exact h2
theorem own_sta_keep {Z : State} {h h' : Heap} {C n d : String} {w : Value} {ws : List Addr} (F : Sta Z h C n d w) (K : Keep h h' ws) (q : ∀ x ∈ ws, ∀ cell : Cell, h[x]? = some cell → cell.vm.isStatics = false) : Sta Z h' C n d w := by
  obtain ⟨cf, i, k, f, st, cell, h1, h2, h3, h4, h5, h6, h7⟩ := F
  exact ⟨cf, i, k, f, st, cell, h1, h2, h3, h4, K.2.1 st cell h5 (fun z => by rw [q st z cell h5] at h6; cases h6), h6, h7⟩
theorem pd_0 : parseMethodDescriptor "(I)Lcom/example/rillstream/rillstream/mysql/StatementTokens$Token$Kind;" = some ⟨[.int], some (.object "com/example/rillstream/rillstream/mysql/StatementTokens$Token$Kind")⟩ := by decide +kernel
theorem pd_1 : parseMethodDescriptor "(C)Ljava/lang/String;" = some ⟨[.char], some (.object "java/lang/String")⟩ := by decide +kernel
theorem pd_2 : parseMethodDescriptor "(C)Z" = some ⟨[.char], some .boolean⟩ := by decide +kernel
theorem pd_3 : parseMethodDescriptor "(C)[B" = some ⟨[.char], some (.array .byte)⟩ := by decide +kernel
theorem pd_4 : parseMethodDescriptor "([BB)V" = some ⟨[(.array .byte), .byte], none⟩ := by decide +kernel
theorem pd_5 : parseMethodDescriptor "()V" = some ⟨[], none⟩ := by decide +kernel
theorem pd_6 : parseMethodDescriptor "(Lcom/example/rillstream/rillstream/mysql/StatementTokens$Token$Kind;Ljava/lang/String;)V" = some ⟨[(.object "com/example/rillstream/rillstream/mysql/StatementTokens$Token$Kind"), (.object "java/lang/String")], none⟩ := by decide +kernel
theorem pd_7 : parseMethodDescriptor "()Z" = some ⟨[], some .boolean⟩ := by decide +kernel
theorem own_ord {args : Array Value} {s : State} {t : Term} {C n d : String} {a : Addr} {k : Int32} (ev : t.eval args s none [] s = some (.ref a)) (h : (Cond.eq (Term.field t C n d) (Term.int k)).value args s none s [] = some true) : Fld s s.heap a C n d (.int k) := by
  apply Fld.start
  obtain ⟨x, y, e1, e2, k1, k2⟩ := cmp_v (Or.inl h)
  have e3 : y = .int k := (Option.some.inj e2).symm
  subst e3
  obtain ⟨z, rfl⟩ := k2
  have e4 := e1
  rw [fld_at ev] at e1
  have : z = k := by
    simp only [Cond.value, e4, e2] at h
    simpa using h
  rw [e1, this]
def own_kind (i : Int32) (aW aQ aS aY : Addr) : Addr := if i = (0 : Int32) then aW else if i = (1 : Int32) then aQ else if i = (2 : Int32) then aS else aY
def own_name (z aW aQ : Addr) : Int32 := if (Value.ref z) = (.ref aW) then (1 : Int32) else if (Value.ref z) = (.ref aQ) then (1 : Int32) else (0 : Int32)
theorem own_char (x : Int32) : ¬ (255 : Int32) < (x &&& (255 : Int32)).toUInt32.toUInt16.toUInt32.toInt32 := by
  have h := c_mask x (255 : Int32) 8 (by decide) rfl
  have q := c_i2c (x &&& (255 : Int32))
  rw [Int32.lt_iff_toInt_lt, show (255 : Int32).toInt = 255 from rfl]
  omega
theorem d1_0 : decode method_2_code 0 = .ok (.iload_n 0, 1) := by decide +kernel
theorem d1_1 : decode method_2_code 1 = .ok (.ifCond .ne 7, 3) := by decide +kernel
theorem d1_4 : decode method_2_code 4 = .ok (.getstatic 7, 3) := by decide +kernel
theorem d1_7 : decode method_2_code 7 = .ok (.areturn, 1) := by decide +kernel
theorem d1_8 : decode method_2_code 8 = .ok (.iload_n 0, 1) := by decide +kernel
theorem d1_9 : decode method_2_code 9 = .ok (.iconst 1, 1) := by decide +kernel
theorem d1_10 : decode method_2_code 10 = .ok (.if_icmp .ne 7, 3) := by decide +kernel
theorem d1_13 : decode method_2_code 13 = .ok (.getstatic 13, 3) := by decide +kernel
theorem d1_16 : decode method_2_code 16 = .ok (.areturn, 1) := by decide +kernel
theorem d1_17 : decode method_2_code 17 = .ok (.iload_n 0, 1) := by decide +kernel
theorem d1_18 : decode method_2_code 18 = .ok (.iconst 2, 1) := by decide +kernel
theorem d1_19 : decode method_2_code 19 = .ok (.if_icmp .ne 7, 3) := by decide +kernel
theorem d1_22 : decode method_2_code 22 = .ok (.getstatic 16, 3) := by decide +kernel
theorem d1_25 : decode method_2_code 25 = .ok (.areturn, 1) := by decide +kernel
theorem d1_26 : decode method_2_code 26 = .ok (.getstatic 19, 3) := by decide +kernel
theorem d1_29 : decode method_2_code 29 = .ok (.areturn, 1) := by decide +kernel
theorem pn_0 : plainName "com/example/rillstream/rillstream/mysql/TokenIsNamePinLaw" = true := by first | (simp [plainName, overriddenIn]; done) | decide +kernel
theorem ef_rm1 (m : MethodId) (x0 : Int32) : entryFrame m #[(.int x0)] 1 = mkF m 0 #[.val (.int x0)] [] := by first | (simp [entryFrame, mkF, argsToLocals, Value.category]; done) | rfl
def Q_rm1 (Z : State) (p0 : Int32) (aW : Addr) (aQ : Addr) (aS : Addr) (aY : Addr) (h0 : Heap) (n0 : Nat) (v : Option Value) (h : Heap) (L : List Loc) : Prop := v = some (.ref (own_kind p0 aW aQ aS aY)) ∧ Fr n0 L ∧ h = h0
set_option maxRecDepth 65536 in
set_option maxHeartbeats 40000000 in
theorem rm1 (l : Launch) (Z : State) (a0 : Array Value) (hw : ∀ d ∈ tables_1, d.before a0 Z = true) (ws : List Jvm.Cond) (p0 : Int32) (aW : Addr) (aQ : Addr) (aS : Addr) (aY : Addr) (h0 : Heap) (n0 : Nat) (Z0 : n0 ≤ h0.size) (S_aW : Sta Z h0 "com/example/rillstream/rillstream/mysql/StatementTokens$Token$Kind" "WORD" "Lcom/example/rillstream/rillstream/mysql/StatementTokens$Token$Kind;" (.ref aW)) (S_aQ : Sta Z h0 "com/example/rillstream/rillstream/mysql/StatementTokens$Token$Kind" "QUOTED" "Lcom/example/rillstream/rillstream/mysql/StatementTokens$Token$Kind;" (.ref aQ)) (S_aS : Sta Z h0 "com/example/rillstream/rillstream/mysql/StatementTokens$Token$Kind" "STRING" "Lcom/example/rillstream/rillstream/mysql/StatementTokens$Token$Kind;" (.ref aS)) (S_aY : Sta Z h0 "com/example/rillstream/rillstream/mysql/StatementTokens$Token$Kind" "SYMBOL" "Lcom/example/rillstream/rillstream/mysql/StatementTokens$Token$Kind;" (.ref aY)) :
    MetFree l (⟨"com/example/rillstream/rillstream/mysql/TokenIsNamePinLaw", "kindOf", "(I)Lcom/example/rillstream/rillstream/mysql/StatementTokens$Token$Kind;"⟩ : MethodName) (head1 (Jvm.Cond.code (⟨"com/example/rillstream/rillstream/mysql/TokenIsNamePinLaw", "kindOf", "(I)Lcom/example/rillstream/rillstream/mysql/StatementTokens$Token$Kind;"⟩ : MethodName) method_2_code 1 (some (.object "com/example/rillstream/rillstream/mysql/StatementTokens$Token$Kind")) :: ws) ({ frames := 0, cells := 0, slots := 0, locals := 0 } : Room)) (fun a U => a = #[(.int p0)] ∧ Z.Warmed39 U.vm ∧ U.heap = h0) (fun _ _ _ _ _ => True) (fun _ U o U' => ∃ v L, o = .returned v ∧ Q_rm1 Z p0 aW aQ aS aY h0 n0 v U'.heap L ∧ FrameEnd U o U' L ({ frames := 0, cells := 0, slots := 0, locals := 0 } : Room).cells ({ frames := 0, cells := 0, slots := 0, locals := 0 } : Room).slots) := by
  refine MetFree.of_bodySF (plainFor_of_name pn_0) hisR ?_
  intro p e s m args below meth c s₁ Bd hml0 hP hK
  obtain ⟨rfl, hZ, hh⟩ := hP
  have hx := Bd.exec
  have hby := Bd.bytes
  have hml : c.maxLocals = 1 := hml0
  have hown : s.vm.findClass "com/example/rillstream/rillstream/mysql/TokenIsNamePinLaw" = some m.cls := findClass_of_methodNamed Bd.named
  have hnm := (name_of_methodNamed Bd.named Bd.method).1
  have X0 : Stand p l e ({ frames := 0, cells := 0, slots := 0, locals := 0 } : Room) s m #[(.int p0)] below meth c s₁ [] 0 0 := Stand.of_body Bd
  have e0 : s₁.heap = h0 := by rw [← hh, Bd.state]; rfl
  have N0 := Fr.nil n0
  have pre0 : ∀ t, Steps p.tables e below (s₁.setTop (mkF m 0 #[.val (.int p0)] [])) t → Steps p.tables e below (s₁.setTop (entryFrame m #[(.int p0)] 1)) t := fun t k => castTop (ef_rm1 m p0) k
  have st1 : ∀ target, Steps p.tables e below (s₁.setTop (mkF m 1 #[.val (.int p0)] [(.int p0)])) target → Steps p.tables e below (s₁.setTop (mkF m 0 #[.val (.int p0)] [])) target := by
    intro target kt
    show Steps p.tables e below (s₁.setTop (mkF m 0 #[.val (.int p0)] [])) _
    refine XS.iloadN X0.here hx rfl (hb hby d1_0) rfl ?_
    exact kt
  by_cases hc1 : p0 = (0 : Int32)
  · have st2 : ∀ target, Steps p.tables e below (s₁.setTop (mkF m 4 #[.val (.int p0)] [])) target → Steps p.tables e below (s₁.setTop (mkF m 1 #[.val (.int p0)] [(.int p0)])) target := by
      intro target kt
      show Steps p.tables e below (s₁.setTop (mkF m 1 #[.val (.int p0)] [(.int p0)])) _
      refine XS.ifNo X0.here hx rfl (hb hby d1_1) rfl ((if0 _ _).trans (teq hc1).2) ?_
      exact kt
    obtain ⟨T3, X3, e3, st3⟩ := getS2 X0 hx hZ hown (host := "") (Or.inl (hw _ (List.mem_of_getElem? (i := 7) rfl))) Via.refl e0 S_aW (g := (mkF m 4 #[.val (.int p0)] [])) rfl (hb hby d1_4)
    obtain ⟨fs, hr, hrun, hended, hW, hsame⟩ := X3.leave (v := some (.ref aW)) (fun h => by rw [Bd.returns] at h; cases h)
    refine ⟨_, _, pre0 _ (st1 _ (st2 _ (st3 _ ?_))), hrun, hended, _, _, rfl, ?_, ⟨_, rfl⟩, hW, hsame.mono (by decide) (by decide)⟩
    · show Steps p.tables e below (T3.setTop (mkF m 7 #[.val (.int p0)] [(.ref aW)])) _
      jvm_step X3.here [X3.here.top, hx, (hb hby d1_7), X3.method', Bd.returns, Value.isRef, FieldType.isReference]
      first | (intro acts; rw [hr _ acts rfl rfl rfl]) | rw [hr _ _ rfl rfl rfl]
      exact Steps.refl _
    · show Q_rm1 Z p0 aW aQ aS aY h0 n0 _ T3.heap _
      rw [e3]
      exact ⟨by rw [own_kind, if_pos hc1], N0, rfl⟩
  · have st4 : ∀ target, Steps p.tables e below (s₁.setTop (mkF m 8 #[.val (.int p0)] [])) target → Steps p.tables e below (s₁.setTop (mkF m 1 #[.val (.int p0)] [(.int p0)])) target := by
      intro target kt
      show Steps p.tables e below (s₁.setTop (mkF m 1 #[.val (.int p0)] [(.int p0)])) _
      refine XS.ifYes X0.here hx rfl (pc0 := 1) (pc' := 8) rfl (hb hby d1_1) rfl ((if0 _ _).trans (feq hc1).2) (by decide) (by decide) ?_
      exact kt
    have st5 : ∀ target, Steps p.tables e below (s₁.setTop (mkF m 10 #[.val (.int p0)] [(.int (1 : Int32)), (.int p0)])) target → Steps p.tables e below (s₁.setTop (mkF m 8 #[.val (.int p0)] [])) target := by
      intro target kt
      show Steps p.tables e below (s₁.setTop (mkF m 8 #[.val (.int p0)] [])) _
      refine XS.iloadN X0.here hx rfl (hb hby d1_8) rfl ?_
      show Steps p.tables e below (s₁.setTop (mkF m 9 #[.val (.int p0)] [(.int p0)])) _
      refine XS.iconst X0.here hx rfl (hb hby d1_9) ?_
      exact kt
    by_cases hc10 : p0 = (1 : Int32)
    · have st6 : ∀ target, Steps p.tables e below (s₁.setTop (mkF m 13 #[.val (.int p0)] [])) target → Steps p.tables e below (s₁.setTop (mkF m 10 #[.val (.int p0)] [(.int (1 : Int32)), (.int p0)])) target := by
        intro target kt
        show Steps p.tables e below (s₁.setTop (mkF m 10 #[.val (.int p0)] [(.int (1 : Int32)), (.int p0)])) _
        refine XS.icmpNo X0.here hx rfl (hb hby d1_10) rfl (teq hc10).2 ?_
        exact kt
      obtain ⟨T7, X7, e7, st7⟩ := getS2 X0 hx hZ hown (host := "") (Or.inl (hw _ (List.mem_of_getElem? (i := 69) rfl))) Via.refl e0 S_aQ (g := (mkF m 13 #[.val (.int p0)] [])) rfl (hb hby d1_13)
      obtain ⟨fs, hr, hrun, hended, hW, hsame⟩ := X7.leave (v := some (.ref aQ)) (fun h => by rw [Bd.returns] at h; cases h)
      refine ⟨_, _, pre0 _ (st1 _ (st4 _ (st5 _ (st6 _ (st7 _ ?_))))), hrun, hended, _, _, rfl, ?_, ⟨_, rfl⟩, hW, hsame.mono (by decide) (by decide)⟩
      · show Steps p.tables e below (T7.setTop (mkF m 16 #[.val (.int p0)] [(.ref aQ)])) _
        jvm_step X7.here [X7.here.top, hx, (hb hby d1_16), X7.method', Bd.returns, Value.isRef, FieldType.isReference]
        first | (intro acts; rw [hr _ acts rfl rfl rfl]) | rw [hr _ _ rfl rfl rfl]
        exact Steps.refl _
      · show Q_rm1 Z p0 aW aQ aS aY h0 n0 _ T7.heap _
        rw [e7]
        exact ⟨by rw [own_kind, if_neg hc1, if_pos hc10], N0, rfl⟩
    · have st8 : ∀ target, Steps p.tables e below (s₁.setTop (mkF m 17 #[.val (.int p0)] [])) target → Steps p.tables e below (s₁.setTop (mkF m 10 #[.val (.int p0)] [(.int (1 : Int32)), (.int p0)])) target := by
        intro target kt
        show Steps p.tables e below (s₁.setTop (mkF m 10 #[.val (.int p0)] [(.int (1 : Int32)), (.int p0)])) _
        refine XS.icmpYes X0.here hx rfl (pc0 := 10) (pc' := 17) rfl (hb hby d1_10) rfl (feq hc10).2 (by decide) (by decide) ?_
        exact kt
      have st9 : ∀ target, Steps p.tables e below (s₁.setTop (mkF m 19 #[.val (.int p0)] [(.int (2 : Int32)), (.int p0)])) target → Steps p.tables e below (s₁.setTop (mkF m 17 #[.val (.int p0)] [])) target := by
        intro target kt
        show Steps p.tables e below (s₁.setTop (mkF m 17 #[.val (.int p0)] [])) _
        refine XS.iloadN X0.here hx rfl (hb hby d1_17) rfl ?_
        show Steps p.tables e below (s₁.setTop (mkF m 18 #[.val (.int p0)] [(.int p0)])) _
        refine XS.iconst X0.here hx rfl (hb hby d1_18) ?_
        exact kt
      by_cases hc19 : p0 = (2 : Int32)
      · have st10 : ∀ target, Steps p.tables e below (s₁.setTop (mkF m 22 #[.val (.int p0)] [])) target → Steps p.tables e below (s₁.setTop (mkF m 19 #[.val (.int p0)] [(.int (2 : Int32)), (.int p0)])) target := by
          intro target kt
          show Steps p.tables e below (s₁.setTop (mkF m 19 #[.val (.int p0)] [(.int (2 : Int32)), (.int p0)])) _
          refine XS.icmpNo X0.here hx rfl (hb hby d1_19) rfl (teq hc19).2 ?_
          exact kt
        obtain ⟨T11, X11, e11, st11⟩ := getS2 X0 hx hZ hown (host := "") (Or.inl (hw _ (List.mem_of_getElem? (i := 60) rfl))) Via.refl e0 S_aS (g := (mkF m 22 #[.val (.int p0)] [])) rfl (hb hby d1_22)
        obtain ⟨fs, hr, hrun, hended, hW, hsame⟩ := X11.leave (v := some (.ref aS)) (fun h => by rw [Bd.returns] at h; cases h)
        refine ⟨_, _, pre0 _ (st1 _ (st4 _ (st5 _ (st8 _ (st9 _ (st10 _ (st11 _ ?_))))))), hrun, hended, _, _, rfl, ?_, ⟨_, rfl⟩, hW, hsame.mono (by decide) (by decide)⟩
        · show Steps p.tables e below (T11.setTop (mkF m 25 #[.val (.int p0)] [(.ref aS)])) _
          jvm_step X11.here [X11.here.top, hx, (hb hby d1_25), X11.method', Bd.returns, Value.isRef, FieldType.isReference]
          first | (intro acts; rw [hr _ acts rfl rfl rfl]) | rw [hr _ _ rfl rfl rfl]
          exact Steps.refl _
        · show Q_rm1 Z p0 aW aQ aS aY h0 n0 _ T11.heap _
          rw [e11]
          exact ⟨by rw [own_kind, if_neg hc1, if_neg hc10, if_pos hc19], N0, rfl⟩
      · have st12 : ∀ target, Steps p.tables e below (s₁.setTop (mkF m 26 #[.val (.int p0)] [])) target → Steps p.tables e below (s₁.setTop (mkF m 19 #[.val (.int p0)] [(.int (2 : Int32)), (.int p0)])) target := by
          intro target kt
          show Steps p.tables e below (s₁.setTop (mkF m 19 #[.val (.int p0)] [(.int (2 : Int32)), (.int p0)])) _
          refine XS.icmpYes X0.here hx rfl (pc0 := 19) (pc' := 26) rfl (hb hby d1_19) rfl (feq hc19).2 (by decide) (by decide) ?_
          exact kt
        obtain ⟨T13, X13, e13, st13⟩ := getS2 X0 hx hZ hown (host := "") (Or.inl (hw _ (List.mem_of_getElem? (i := 70) rfl))) Via.refl e0 S_aY (g := (mkF m 26 #[.val (.int p0)] [])) rfl (hb hby d1_26)
        obtain ⟨fs, hr, hrun, hended, hW, hsame⟩ := X13.leave (v := some (.ref aY)) (fun h => by rw [Bd.returns] at h; cases h)
        refine ⟨_, _, pre0 _ (st1 _ (st4 _ (st5 _ (st8 _ (st9 _ (st12 _ (st13 _ ?_))))))), hrun, hended, _, _, rfl, ?_, ⟨_, rfl⟩, hW, hsame.mono (by decide) (by decide)⟩
        · show Steps p.tables e below (T13.setTop (mkF m 29 #[.val (.int p0)] [(.ref aY)])) _
          jvm_step X13.here [X13.here.top, hx, (hb hby d1_29), X13.method', Bd.returns, Value.isRef, FieldType.isReference]
          first | (intro acts; rw [hr _ acts rfl rfl rfl]) | rw [hr _ _ rfl rfl rfl]
          exact Steps.refl _
        · show Q_rm1 Z p0 aW aQ aS aY h0 n0 _ T13.heap _
          rw [e13]
          exact ⟨by rw [own_kind, if_neg hc1, if_neg hc10, if_neg hc19], N0, rfl⟩
theorem d3_0 : decode jdk_43_method_3_code 0 = .ok (.iload_n 0, 1) := by decide +kernel
theorem d3_1 : decode jdk_43_method_3_code 1 = .ok (.sipush 255, 3) := by decide +kernel
theorem d3_4 : decode jdk_43_method_3_code 4 = .ok (.if_icmp .gt 7, 3) := by decide +kernel
theorem d3_7 : decode jdk_43_method_3_code 7 = .ok (.iconst 1, 1) := by decide +kernel
theorem d3_8 : decode jdk_43_method_3_code 8 = .ok (.goto 4, 3) := by decide +kernel
theorem d3_11 : decode jdk_43_method_3_code 11 = .ok (.iconst 0, 1) := by decide +kernel
theorem d3_12 : decode jdk_43_method_3_code 12 = .ok (.ireturn, 1) := by decide +kernel
theorem pn_1 : plainName "java/lang/StringLatin1" = true := by first | (simp [plainName, overriddenIn]; done) | decide +kernel
theorem ef_rm3 (m : MethodId) (x0 : Int32) : entryFrame m #[(.int x0)] 1 = mkF m 0 #[.val (.int x0)] [] := by first | (simp [entryFrame, mkF, argsToLocals, Value.category]; done) | rfl
def Q_rm3 (Z : State) (p0 : Int32) (h0 : Heap) (n0 : Nat) (v : Option Value) (h : Heap) (L : List Loc) : Prop := v = some (.int (if (255 : Int32) < p0 then (0 : Int32) else (1 : Int32))) ∧ Fr n0 L ∧ h = h0
set_option maxRecDepth 65536 in
set_option maxHeartbeats 40000000 in
theorem rm3 (l : Launch) (Z : State) (a0 : Array Value) (hw : ∀ d ∈ tables_1, d.before a0 Z = true) (ws : List Jvm.Cond) (p0 : Int32) (h0 : Heap) (n0 : Nat) (Z0 : n0 ≤ h0.size) :
    MetFree l (⟨"java/lang/StringLatin1", "canEncode", "(C)Z"⟩ : MethodName) (head1 (Jvm.Cond.code (⟨"java/lang/StringLatin1", "canEncode", "(C)Z"⟩ : MethodName) jdk_43_method_3_code 1 (some .boolean) :: ws) ({ frames := 0, cells := 0, slots := 0, locals := 0 } : Room)) (fun a U => a = #[(.int p0)] ∧ Z.Warmed39 U.vm ∧ U.heap = h0) (fun _ _ _ _ _ => True) (fun _ U o U' => ∃ v L, o = .returned v ∧ Q_rm3 Z p0 h0 n0 v U'.heap L ∧ FrameEnd U o U' L ({ frames := 0, cells := 0, slots := 0, locals := 0 } : Room).cells ({ frames := 0, cells := 0, slots := 0, locals := 0 } : Room).slots) := by
  refine MetFree.of_bodySF (plainFor_of_name pn_1) hisR ?_
  intro p e s m args below meth c s₁ Bd hml0 hP hK
  obtain ⟨rfl, hZ, hh⟩ := hP
  have hx := Bd.exec
  have hby := Bd.bytes
  have hml : c.maxLocals = 1 := hml0
  have hown : s.vm.findClass "java/lang/StringLatin1" = some m.cls := findClass_of_methodNamed Bd.named
  have hnm := (name_of_methodNamed Bd.named Bd.method).1
  have X0 : Stand p l e ({ frames := 0, cells := 0, slots := 0, locals := 0 } : Room) s m #[(.int p0)] below meth c s₁ [] 0 0 := Stand.of_body Bd
  have e0 : s₁.heap = h0 := by rw [← hh, Bd.state]; rfl
  have N0 := Fr.nil n0
  have pre0 : ∀ t, Steps p.tables e below (s₁.setTop (mkF m 0 #[.val (.int p0)] [])) t → Steps p.tables e below (s₁.setTop (entryFrame m #[(.int p0)] 1)) t := fun t k => castTop (ef_rm3 m p0) k
  obtain ⟨fs, hr, hrun, hended, hW, hsame⟩ := X0.leave (v := some (.int (if (255 : Int32) < p0 then (0 : Int32) else (1 : Int32)))) (fun h => by rw [Bd.returns] at h; cases h)
  refine ⟨_, _, pre0 _ ?_, hrun, hended, _, _, rfl, ?_, ⟨_, rfl⟩, hW, hsame.mono (by decide) (by decide)⟩
  · show Steps p.tables e below (s₁.setTop (mkF m 0 #[.val (.int p0)] [])) _
    refine XS.iloadN X0.here hx rfl (hb hby d3_0) rfl ?_
    show Steps p.tables e below (s₁.setTop (mkF m 1 #[.val (.int p0)] [(.int p0)])) _
    refine XS.sipush X0.here hx rfl (hb hby d3_1) ?_
    by_cases hc4 : (255 : Int32) < p0
    · rw [if_pos hc4] at hr
      show Steps p.tables e below (s₁.setTop (mkF m 4 #[.val (.int p0)] [(.int (255 : Int32)), (.int p0)])) _
      refine XS.icmpYes X0.here hx rfl (pc0 := 4) (pc' := 11) rfl (hb hby d3_4) rfl (tlt hc4).2.2.1 (by decide) (by decide) ?_
      show Steps p.tables e below (s₁.setTop (mkF m 11 #[.val (.int p0)] [])) _
      refine XS.iconst X0.here hx rfl (hb hby d3_11) ?_
      show Steps p.tables e below (s₁.setTop (mkF m 12 #[.val (.int p0)] [(.int (0 : Int32))])) _
      exact retN X0 hx (t := .boolean) Bd.returns (by simp) (hb hby d3_12) hr
    · rw [if_neg hc4] at hr
      show Steps p.tables e below (s₁.setTop (mkF m 4 #[.val (.int p0)] [(.int (255 : Int32)), (.int p0)])) _
      refine XS.icmpNo X0.here hx rfl (hb hby d3_4) rfl (flt hc4).2.2.1 ?_
      show Steps p.tables e below (s₁.setTop (mkF m 7 #[.val (.int p0)] [])) _
      refine XS.iconst X0.here hx rfl (hb hby d3_7) ?_
      show Steps p.tables e below (s₁.setTop (mkF m 8 #[.val (.int p0)] [(.int (1 : Int32))])) _
      refine XS.goto X0.here hx rfl (pc0 := 8) (pc' := 12) rfl (hb hby d3_8) (by decide) (by decide) ?_
      show Steps p.tables e below (s₁.setTop (mkF m 12 #[.val (.int p0)] [(.int (1 : Int32))])) _
      exact retN X0 hx (t := .boolean) Bd.returns (by simp) (hb hby d3_12) hr
  · show Q_rm3 Z p0 h0 n0 _ s₁.heap _
    rw [e0]
    exact ⟨rfl, N0, rfl⟩
theorem d4_0 : decode jdk_43_method_46_code 0 = .ok (.iconst 1, 1) := by decide +kernel
theorem d4_1 : decode jdk_43_method_46_code 1 = .ok (.newarray .byte, 2) := by decide +kernel
theorem d4_3 : decode jdk_43_method_46_code 3 = .ok (.dup, 1) := by decide +kernel
theorem d4_4 : decode jdk_43_method_46_code 4 = .ok (.iconst 0, 1) := by decide +kernel
theorem d4_5 : decode jdk_43_method_46_code 5 = .ok (.iload_n 0, 1) := by decide +kernel
theorem d4_6 : decode jdk_43_method_46_code 6 = .ok (.i2b, 1) := by decide +kernel
theorem d4_7 : decode jdk_43_method_46_code 7 = .ok (.bastore, 1) := by decide +kernel
theorem d4_8 : decode jdk_43_method_46_code 8 = .ok (.areturn, 1) := by decide +kernel
theorem ef_rm4 (m : MethodId) (x0 : Int32) : entryFrame m #[(.int x0)] 1 = mkF m 0 #[.val (.int x0)] [] := by first | (simp [entryFrame, mkF, argsToLocals, Value.category]; done) | rfl
def Q_rm4 (Z : State) (p0 : Int32) (h0 : Heap) (n0 : Nat) (v : Option Value) (h : Heap) (L : List Loc) : Prop := ∃ b, v = some (.ref b) ∧ Fr n0 L ∧ Keep h0 h [] ∧ h0.size ≤ b ∧ ∃ k, Arv Z h b k .byte (1 : Int32) [(.int (nar .byte (p0.toInt8.toInt32)))] (.int (0 : Int32))
set_option maxRecDepth 65536 in
set_option maxHeartbeats 40000000 in
theorem rm4 (l : Launch) (Z : State) (a0 : Array Value) (hw : ∀ d ∈ tables_1, d.before a0 Z = true) (ws : List Jvm.Cond) (p0 : Int32) (h0 : Heap) (n0 : Nat) (Z0 : n0 ≤ h0.size) :
    MetFree l (⟨"java/lang/StringLatin1", "toBytes", "(C)[B"⟩ : MethodName) (head1 (Jvm.Cond.code (⟨"java/lang/StringLatin1", "toBytes", "(C)[B"⟩ : MethodName) jdk_43_method_46_code 1 (some (.array .byte)) :: ws) ({ frames := 0, cells := 1, slots := 1, locals := 0 } : Room)) (fun a U => a = #[(.int p0)] ∧ Z.Warmed39 U.vm ∧ U.heap = h0) (fun _ _ _ _ _ => True) (fun _ U o U' => ∃ v L, o = .returned v ∧ Q_rm4 Z p0 h0 n0 v U'.heap L ∧ FrameEnd U o U' L ({ frames := 0, cells := 1, slots := 1, locals := 0 } : Room).cells ({ frames := 0, cells := 1, slots := 1, locals := 0 } : Room).slots) := by
  refine MetFree.of_bodySF (plainFor_of_name pn_1) hisR ?_
  intro p e s m args below meth c s₁ Bd hml0 hP hK
  obtain ⟨rfl, hZ, hh⟩ := hP
  have hx := Bd.exec
  have hby := Bd.bytes
  have hml : c.maxLocals = 1 := hml0
  have hown : s.vm.findClass "java/lang/StringLatin1" = some m.cls := findClass_of_methodNamed Bd.named
  have hnm := (name_of_methodNamed Bd.named Bd.method).1
  have X0 : Stand p l e ({ frames := 0, cells := 1, slots := 1, locals := 0 } : Room) s m #[(.int p0)] below meth c s₁ [] 0 0 := Stand.of_body Bd
  have e0 : s₁.heap = h0 := by rw [← hh, Bd.state]; rfl
  have N0 := Fr.nil n0
  have pre0 : ∀ t, Steps p.tables e below (s₁.setTop (mkF m 0 #[.val (.int p0)] [])) t → Steps p.tables e below (s₁.setTop (entryFrame m #[(.int p0)] 1)) t := fun t k => castTop (ef_rm4 m p0) k
  have Kp : Keep h0 h0 [] := Keep.refl _ _
  have st1 : ∀ target, Steps p.tables e below (s₁.setTop (mkF m 1 #[.val (.int p0)] [(.int (1 : Int32))])) target → Steps p.tables e below (s₁.setTop (mkF m 0 #[.val (.int p0)] [])) target := by
    intro target kt
    show Steps p.tables e below (s₁.setTop (mkF m 0 #[.val (.int p0)] [])) _
    refine XS.iconst X0.here hx rfl (hb hby d4_0) ?_
    exact kt
  obtain ⟨T2, h2, k2, X2, e2, E2, A2, st2⟩ := newP X0 hx hZ (hw _ (List.mem_of_getElem? (i := 24) rfl)) e0 (g := (mkF m 1 #[.val (.int p0)] [(.int (1 : Int32))])) rfl (hb hby d4_1) rfl (by decide) (cap := 1) (by decide) (by decide) (by decide) (by decide)
  obtain ⟨b, g2⟩ : ∃ z, z = h0.size := ⟨_, rfl⟩
  rw [← g2] at A2 st2
  have g_b : n0 ≤ b := Nat.le_trans Z0 (Nat.le_of_eq g2.symm)
  have sz_b : h0.size ≤ b := Nat.le_trans Kp.1 (Nat.le_of_eq g2.symm)
  have Z_2 : n0 ≤ h2.size := Nat.le_trans Z0 E2.1
  have Kp_2 : Keep h0 h2 [] := Kp.ext E2
  have V_b : Arv Z h2 b k2 .byte (1 : Int32) [(.int (0 : Int32))] (.int (0 : Int32)) := (Arv.new A2 (by decide)).pad (pad_rep [] (.int (0 : Int32)) 1)
  have st3 : ∀ target, Steps p.tables e below (T2.setTop (mkF m 7 #[.val (.int p0)] [(.int (p0.toInt8.toInt32)), (.int (0 : Int32)), (.ref b), (.ref b)])) target → Steps p.tables e below (T2.setTop (mkF m 3 #[.val (.int p0)] [(.ref b)])) target := by
    intro target kt
    show Steps p.tables e below (T2.setTop (mkF m 3 #[.val (.int p0)] [(.ref b)])) _
    refine XS.dup X2.here hx rfl (hb hby d4_3) rfl rfl ?_
    show Steps p.tables e below (T2.setTop (mkF m 4 #[.val (.int p0)] [(.ref b), (.ref b)])) _
    refine XS.iconst X2.here hx rfl (hb hby d4_4) ?_
    show Steps p.tables e below (T2.setTop (mkF m 5 #[.val (.int p0)] [(.int (0 : Int32)), (.ref b), (.ref b)])) _
    refine XS.iloadN X2.here hx rfl (hb hby d4_5) rfl ?_
    show Steps p.tables e below (T2.setTop (mkF m 6 #[.val (.int p0)] [(.int p0), (.int (0 : Int32)), (.ref b), (.ref b)])) _
    refine XS.i2b X2.here hx rfl (hb hby d4_6) rfl ?_
    exact kt
  obtain ⟨cl4, Ar4, qc4, Sz4, Mn4, Hs4, Gs4⟩ := id V_b
  have hin4 : ¬ ((0 : Int32) < 0 ∨ cl4.slots.size ≤ ((0 : Int32)).toNatClampNeg) := inb_of Sz4 ⟨by decide, by decide⟩
  obtain ⟨T4, h4, X4, e4, W4, st4⟩ := stB X2 hx hZ e2 Ar4 (j := (0 : Int32)) hin4 (g := (mkF m 7 #[.val (.int p0)] [(.int (p0.toInt8.toInt32)), (.int (0 : Int32)), (.ref b), (.ref b)])) rfl rfl (hb hby d4_7)
  have V_b_4 : Arv Z h4 b k2 .byte (1 : Int32) [(.int (nar .byte (p0.toInt8.toInt32)))] (.int (0 : Int32)) := Arv.set Ar4 qc4 Sz4 Mn4 Hs4 Gs4 (fits_nar_byte _) W4 0 rfl (Nat.le_of_ble_eq_true rfl)
  have Z_4 : n0 ≤ h4.size := Nat.le_trans Z_2 (Keep.of_wr W4).1
  have Kp_4 : Keep h0 h4 [] := Kp_2.wr W4 (Or.inr sz_b)
  have N4 := Fr.snoc X4 N0 g_b
  obtain ⟨fs, hr, hrun, hended, hW, hsame⟩ := X4.leave (v := some (.ref b)) (fun h => by rw [Bd.returns] at h; cases h)
  refine ⟨_, _, pre0 _ (st1 _ (st2 _ (st3 _ (st4 _ ?_)))), hrun, hended, _, _, rfl, ?_, ⟨_, rfl⟩, hW, hsame.mono (by decide) (by decide)⟩
  · show Steps p.tables e below (T4.setTop (mkF m 8 #[.val (.int p0)] [(.ref b)])) _
    jvm_step X4.here [X4.here.top, hx, (hb hby d4_8), X4.method', Bd.returns, Value.isRef, FieldType.isReference]
    first | (intro acts; rw [hr _ acts rfl rfl rfl]) | rw [hr _ _ rfl rfl rfl]
    exact Steps.refl _
  · show Q_rm4 Z p0 h0 n0 _ T4.heap _
    rw [e4]
    exact ⟨b, rfl, N4, Kp_4, sz_b, ⟨_, V_b_4⟩⟩
theorem d5_0 : decode jdk_42_method_151_code 0 = .ok (.aload_n 0, 1) := by decide +kernel
theorem d5_1 : decode jdk_42_method_151_code 1 = .ok (.invokespecial 1, 3) := by decide +kernel
theorem d5_4 : decode jdk_42_method_151_code 4 = .ok (.aload_n 0, 1) := by decide +kernel
theorem d5_5 : decode jdk_42_method_151_code 5 = .ok (.aload_n 1, 1) := by decide +kernel
theorem d5_6 : decode jdk_42_method_151_code 6 = .ok (.putfield 9, 3) := by decide +kernel
theorem d5_9 : decode jdk_42_method_151_code 9 = .ok (.aload_n 0, 1) := by decide +kernel
theorem d5_10 : decode jdk_42_method_151_code 10 = .ok (.iload_n 2, 1) := by decide +kernel
theorem d5_11 : decode jdk_42_method_151_code 11 = .ok (.putfield 15, 3) := by decide +kernel
theorem d5_14 : decode jdk_42_method_151_code 14 = .ok (.return_, 1) := by decide +kernel
theorem pn_2 : plainName "java/lang/String" = true := by first | (simp [plainName, overriddenIn]; done) | decide +kernel
theorem ef_rm5 (m : MethodId) (x0 : Addr) (x1 : Addr) (x2 : Int32) : entryFrame m #[(.ref x0), (.ref x1), (.int x2)] 3 = mkF m 0 #[.val (.ref x0), .val (.ref x1), .val (.int x2)] [] := by first | (simp [entryFrame, mkF, argsToLocals, Value.category]; done) | rfl
def Q_rm5 (Z : State) (r0 : Addr) (r1 : Addr) (p2 : Int32) (h0 : Heap) (n0 : Nat) (v : Option Value) (h : Heap) (L : List Loc) : Prop := v = none ∧ Fr n0 L ∧ Keep h0 h [r0] ∧ Exa Z h r0 "java/lang/String" ∧ Fld Z h r0 "java/lang/String" "value" "[B" (.ref r1) ∧ Fld Z h r0 "java/lang/String" "coder" "B" (.int (nar .byte p2))
set_option maxRecDepth 65536 in
set_option maxHeartbeats 40000000 in
theorem rm5 (l : Launch) (Z : State) (a0 : Array Value) (hw : ∀ d ∈ tables_1, d.before a0 Z = true) (ws : List Jvm.Cond) (r0 : Addr) (r1 : Addr) (p2 : Int32) (h0 : Heap) (n0 : Nat) (Z0 : n0 ≤ h0.size) (F_value : Fld Z h0 r0 "java/lang/String" "value" "[B" .null) (F_coder : Fld Z h0 r0 "java/lang/String" "coder" "B" (.int (0 : Int32))) (E_o : Exa Z h0 r0 "java/lang/String") (g_r0 : n0 ≤ r0) :
    MetFree l (⟨"java/lang/String", "<init>", "([BB)V"⟩ : MethodName) (head1 (Jvm.Cond.code (⟨"java/lang/String", "<init>", "([BB)V"⟩ : MethodName) jdk_42_method_151_code 3 none :: ws) ({ frames := 1, cells := 0, slots := 0, locals := 12 } : Room)) (fun a U => a = #[(.ref r0), (.ref r1), (.int p2)] ∧ Z.Warmed39 U.vm ∧ U.heap = h0) (fun _ _ _ _ _ => True) (fun _ U o U' => ∃ v L, o = .returned v ∧ Q_rm5 Z r0 r1 p2 h0 n0 v U'.heap L ∧ FrameEnd U o U' L ({ frames := 1, cells := 0, slots := 0, locals := 12 } : Room).cells ({ frames := 1, cells := 0, slots := 0, locals := 12 } : Room).slots) := by
  refine MetFree.of_bodySF (plainFor_of_name pn_2) hisR ?_
  intro p e s m args below meth c s₁ Bd hml0 hP hK
  obtain ⟨rfl, hZ, hh⟩ := hP
  have hx := Bd.exec
  have hby := Bd.bytes
  have hml : c.maxLocals = 3 := hml0
  have hown : s.vm.findClass "java/lang/String" = some m.cls := findClass_of_methodNamed Bd.named
  have hnm := (name_of_methodNamed Bd.named Bd.method).1
  have X0 : Stand p l e ({ frames := 1, cells := 0, slots := 0, locals := 12 } : Room) s m #[(.ref r0), (.ref r1), (.int p2)] below meth c s₁ [] 0 0 := Stand.of_body Bd
  have e0 : s₁.heap = h0 := by rw [← hh, Bd.state]; rfl
  have N0 := Fr.nil n0
  have pre0 : ∀ t, Steps p.tables e below (s₁.setTop (mkF m 0 #[.val (.ref r0), .val (.ref r1), .val (.int p2)] [])) t → Steps p.tables e below (s₁.setTop (entryFrame m #[(.ref r0), (.ref r1), (.int p2)] 3)) t := fun t k => castTop (ef_rm5 m r0 r1 p2) k
  have Kp : Keep h0 h0 [r0] := Keep.refl _ _
  have st1 : ∀ target, Steps p.tables e below (s₁.setTop (mkF m 1 #[.val (.ref r0), .val (.ref r1), .val (.int p2)] [(.ref r0)])) target → Steps p.tables e below (s₁.setTop (mkF m 0 #[.val (.ref r0), .val (.ref r1), .val (.int p2)] [])) target := by
    intro target kt
    show Steps p.tables e below (s₁.setTop (mkF m 0 #[.val (.ref r0), .val (.ref r1), .val (.int p2)] [])) _
    refine XS.aloadN X0.here hx rfl (hb hby d5_0) rfl rfl ?_
    exact kt
  obtain ⟨T2, X2, e2, st2⟩ := initO X0 hx hZ hown (hw _ (List.mem_of_getElem? (i := 29) rfl)) (hw _ (List.mem_of_getElem? (i := 30) rfl)) (hw _ (List.mem_of_getElem? (i := 31) rfl)) e0 (g := (mkF m 1 #[.val (.ref r0), .val (.ref r1), .val (.int p2)] [(.ref r0)])) rfl (by rw [hml]; rfl) rfl (hb hby d5_1) (by decide) (W := 0) (by show 2 * 0 + _ ≤ _; exact Nat.le_of_eq rfl) (by decide)
  have st3 : ∀ target, Steps p.tables e below (T2.setTop (mkF m 6 #[.val (.ref r0), .val (.ref r1), .val (.int p2)] [(.ref r1), (.ref r0)])) target → Steps p.tables e below (T2.setTop (mkF m 4 #[.val (.ref r0), .val (.ref r1), .val (.int p2)] [])) target := by
    intro target kt
    show Steps p.tables e below (T2.setTop (mkF m 4 #[.val (.ref r0), .val (.ref r1), .val (.int p2)] [])) _
    refine XS.aloadN X2.here hx rfl (hb hby d5_4) rfl rfl ?_
    show Steps p.tables e below (T2.setTop (mkF m 5 #[.val (.ref r0), .val (.ref r1), .val (.int p2)] [(.ref r0)])) _
    refine XS.aloadN X2.here hx rfl (hb hby d5_5) rfl rfl ?_
    exact kt
  obtain ⟨T4, h4, X4, e4, W4, st4⟩ := putF X2 hx hZ hown (host := "") (Or.inl (hw _ (List.mem_of_getElem? (i := 32) rfl))) Via.refl e2 F_value E_o (Or.inr ⟨(hw _ (List.mem_of_getElem? (i := 33) rfl)), rfl, hnm⟩) (hw _ (List.mem_of_getElem? (i := 20) rfl)) (ty := (.array .byte)) (by decide) rfl rfl (g := (mkF m 6 #[.val (.ref r0), .val (.ref r1), .val (.int p2)] [(.ref r1), (.ref r0)])) rfl rfl (hb hby d5_6)
  have F_value_r0_4 : Fld Z h4 r0 "java/lang/String" "value" "[B" (.ref r1) := F_value.same W4
  have E_o_4 := E_o.wr W4
  have F_coder_4 := F_coder.other W4 (Or.inr (slot_ne (Or.inr (hw _ (List.mem_of_getElem? (i := 35) rfl))) (Or.inr (hw _ (List.mem_of_getElem? (i := 33) rfl))) (by decide) (t := .byte) (t' := (.array .byte)) (by decide) (by decide)))
  have Z_4 : n0 ≤ h4.size := Nat.le_trans Z0 (Keep.of_wr W4).1
  have Kp_4 : Keep h0 h4 [r0] := Kp.wr W4 (Or.inl (List.mem_of_getElem? (i := 0) rfl))
  have N4 := Fr.snoc X4 N0 g_r0
  have st5 : ∀ target, Steps p.tables e below (T4.setTop (mkF m 11 #[.val (.ref r0), .val (.ref r1), .val (.int p2)] [(.int p2), (.ref r0)])) target → Steps p.tables e below (T4.setTop (mkF m 9 #[.val (.ref r0), .val (.ref r1), .val (.int p2)] [])) target := by
    intro target kt
    show Steps p.tables e below (T4.setTop (mkF m 9 #[.val (.ref r0), .val (.ref r1), .val (.int p2)] [])) _
    refine XS.aloadN X4.here hx rfl (hb hby d5_9) rfl rfl ?_
    show Steps p.tables e below (T4.setTop (mkF m 10 #[.val (.ref r0), .val (.ref r1), .val (.int p2)] [(.ref r0)])) _
    refine XS.iloadN X4.here hx rfl (hb hby d5_10) rfl ?_
    exact kt
  obtain ⟨T6, h6, X6, e6, W6, st6⟩ := putFN X4 hx hZ hown (hw _ (List.mem_of_getElem? (i := 34) rfl)) Via.refl e4 F_coder_4 E_o_4 (Or.inr ⟨(hw _ (List.mem_of_getElem? (i := 35) rfl)), rfl, hnm⟩) (hw _ (List.mem_of_getElem? (i := 20) rfl)) (ty := .byte) (v' := (.int (nar .byte p2))) (by decide) rfl (fits_nar_byte _) (g := (mkF m 11 #[.val (.ref r0), .val (.ref r1), .val (.int p2)] [(.int p2), (.ref r0)])) rfl rfl (hb hby d5_11)
  have F_coder_r0_6 : Fld Z h6 r0 "java/lang/String" "coder" "B" (.int (nar .byte p2)) := F_coder_4.same W6
  have E_o_6 := E_o_4.wr W6
  have F_value_r0_6 := F_value_r0_4.other W6 (Or.inr (slot_ne (Or.inr (hw _ (List.mem_of_getElem? (i := 33) rfl))) (Or.inr (hw _ (List.mem_of_getElem? (i := 35) rfl))) (by decide) (t := (.array .byte)) (t' := .byte) (by decide) (by decide)))
  have Z_6 : n0 ≤ h6.size := Nat.le_trans Z_4 (Keep.of_wr W6).1
  have Kp_6 : Keep h0 h6 [r0] := Kp_4.wr W6 (Or.inl (List.mem_of_getElem? (i := 0) rfl))
  have N6 := Fr.snoc X6 N4 g_r0
  obtain ⟨fs, hr, hrun, hended, hW, hsame⟩ := X6.leave (v := none) (fun _ => rfl)
  refine ⟨_, _, pre0 _ (st1 _ (st2 _ (st3 _ (st4 _ (st5 _ (st6 _ ?_)))))), hrun, hended, _, _, rfl, ?_, ⟨_, rfl⟩, hW, hsame.mono (by decide) (by decide)⟩
  · show Steps p.tables e below (T6.setTop (mkF m 14 #[.val (.ref r0), .val (.ref r1), .val (.int p2)] [])) _
    exact X6.returnOut hx Bd.returns (hb hby d5_14) hr
  · show Q_rm5 Z r0 r1 p2 h0 n0 _ T6.heap _
    rw [e6]
    exact ⟨rfl, N6, Kp_6, E_o_6, F_value_r0_6, F_coder_r0_6⟩
theorem d2_0 : decode jdk_42_method_139_code 0 = .ok (.getstatic 38, 3) := by decide +kernel
theorem d2_3 : decode jdk_42_method_139_code 3 = .ok (.ifCond .eq 23, 3) := by decide +kernel
theorem d2_6 : decode jdk_42_method_139_code 6 = .ok (.iload_n 0, 1) := by decide +kernel
theorem d2_7 : decode jdk_42_method_139_code 7 = .ok (.invokestatic 1015, 3) := by decide +kernel
theorem d2_10 : decode jdk_42_method_139_code 10 = .ok (.ifCond .eq 16, 3) := by decide +kernel
theorem d2_13 : decode jdk_42_method_139_code 13 = .ok (.new 10, 3) := by decide +kernel
theorem d2_16 : decode jdk_42_method_139_code 16 = .ok (.dup, 1) := by decide +kernel
theorem d2_17 : decode jdk_42_method_139_code 17 = .ok (.iload_n 0, 1) := by decide +kernel
theorem d2_18 : decode jdk_42_method_139_code 18 = .ok (.invokestatic 1018, 3) := by decide +kernel
theorem d2_21 : decode jdk_42_method_139_code 21 = .ok (.iconst 0, 1) := by decide +kernel
theorem d2_22 : decode jdk_42_method_139_code 22 = .ok (.invokespecial 209, 3) := by decide +kernel
theorem d2_25 : decode jdk_42_method_139_code 25 = .ok (.areturn, 1) := by decide +kernel
theorem d2_26 : decode jdk_42_method_139_code 26 = .ok (.new 10, 3) := by decide +kernel
theorem d2_29 : decode jdk_42_method_139_code 29 = .ok (.dup, 1) := by decide +kernel
theorem d2_30 : decode jdk_42_method_139_code 30 = .ok (.iload_n 0, 1) := by decide +kernel
theorem d2_31 : decode jdk_42_method_139_code 31 = .ok (.invokestatic 1021, 3) := by decide +kernel
theorem d2_34 : decode jdk_42_method_139_code 34 = .ok (.iconst 1, 1) := by decide +kernel
theorem d2_35 : decode jdk_42_method_139_code 35 = .ok (.invokespecial 209, 3) := by decide +kernel
theorem d2_38 : decode jdk_42_method_139_code 38 = .ok (.areturn, 1) := by decide +kernel
theorem ef_rm2 (m : MethodId) (x0 : Int32) : entryFrame m #[(.int x0)] 1 = mkF m 0 #[.val (.int x0)] [] := by first | (simp [entryFrame, mkF, argsToLocals, Value.category]; done) | rfl
def Q_rm2 (Z : State) (p0 : Int32) (cs : Int32) (h0 : Heap) (n0 : Nat) (v : Option Value) (h : Heap) (L : List Loc) : Prop := ∃ b, v = some (.ref b) ∧ Fr n0 L ∧ Keep h0 h [] ∧ h0.size ≤ b ∧ Exa Z h b "java/lang/String"
set_option maxRecDepth 65536 in
set_option maxHeartbeats 40000000 in
theorem rm2 (l : Launch) (Z : State) (a0 : Array Value) (hw : ∀ d ∈ tables_1, d.before a0 Z = true) (ws : List Jvm.Cond) (p0 : Int32) (cs : Int32) (h0 : Heap) (n0 : Nat) (Z0 : n0 ≤ h0.size) (S_cs : Sta Z h0 "java/lang/String" "COMPACT_STRINGS" "Z" (.int cs)) (hcs : ¬ cs = 0) (hle : ¬ (255 : Int32) < p0) :
    MetFree l (⟨"java/lang/String", "valueOf", "(C)Ljava/lang/String;"⟩ : MethodName) (head1 (Jvm.Cond.code (⟨"java/lang/String", "valueOf", "(C)Ljava/lang/String;"⟩ : MethodName) jdk_42_method_139_code 1 (some (.object "java/lang/String")) :: ws) ({ frames := 2, cells := 2, slots := 5, locals := 27 } : Room)) (fun a U => a = #[(.int p0)] ∧ Z.Warmed39 U.vm ∧ U.heap = h0) (fun _ _ _ _ _ => True) (fun _ U o U' => ∃ v L, o = .returned v ∧ Q_rm2 Z p0 cs h0 n0 v U'.heap L ∧ FrameEnd U o U' L ({ frames := 2, cells := 2, slots := 5, locals := 27 } : Room).cells ({ frames := 2, cells := 2, slots := 5, locals := 27 } : Room).slots) := by
  refine MetFree.of_bodySF (plainFor_of_name pn_2) hisR ?_
  intro p e s m args below meth c s₁ Bd hml0 hP hK
  obtain ⟨rfl, hZ, hh⟩ := hP
  have hx := Bd.exec
  have hby := Bd.bytes
  have hml : c.maxLocals = 1 := hml0
  have hown : s.vm.findClass "java/lang/String" = some m.cls := findClass_of_methodNamed Bd.named
  have hnm := (name_of_methodNamed Bd.named Bd.method).1
  have X0 : Stand p l e ({ frames := 2, cells := 2, slots := 5, locals := 27 } : Room) s m #[(.int p0)] below meth c s₁ [] 0 0 := Stand.of_body Bd
  have e0 : s₁.heap = h0 := by rw [← hh, Bd.state]; rfl
  have N0 := Fr.nil n0
  have pre0 : ∀ t, Steps p.tables e below (s₁.setTop (mkF m 0 #[.val (.int p0)] [])) t → Steps p.tables e below (s₁.setTop (entryFrame m #[(.int p0)] 1)) t := fun t k => castTop (ef_rm2 m p0) k
  have Kp : Keep h0 h0 [] := Keep.refl _ _
  obtain ⟨T1, X1, e1, st1⟩ := getS2 X0 hx hZ hown (host := "") (Or.inl (hw _ (List.mem_of_getElem? (i := 14) rfl))) Via.refl e0 S_cs (g := (mkF m 0 #[.val (.int p0)] [])) rfl (hb hby d2_0)
  have st2 : ∀ target, Steps p.tables e below (T1.setTop (mkF m 7 #[.val (.int p0)] [(.int p0)])) target → Steps p.tables e below (T1.setTop (mkF m 3 #[.val (.int p0)] [(.int cs)])) target := by
    intro target kt
    show Steps p.tables e below (T1.setTop (mkF m 3 #[.val (.int p0)] [(.int cs)])) _
    refine XS.ifNo X1.here hx rfl (hb hby d2_3) rfl ((if0 _ _).trans (feq hcs).1) ?_
    show Steps p.tables e below (T1.setTop (mkF m 6 #[.val (.int p0)] [])) _
    refine XS.iloadN X1.here hx rfl (hb hby d2_6) rfl ?_
    exact kt
  obtain ⟨_, _, ⟨T3, L3, k3, n3⟩, -, X3, ⟨Lc3, hQ3, l3, y3, z3⟩, st3⟩ := Jvm.LawKit.callS X1 hx (y := (⟨"java/lang/StringLatin1", "canEncode", "(C)Z"⟩ : MethodName)) hown (mvT hZ (hw _ (List.mem_of_getElem? (i := 15) rfl))) (mvT hZ (hw _ (List.mem_of_getElem? (i := 16) rfl))) (mvT hZ (hw _ (List.mem_of_getElem? (i := 17) rfl))) (mvT hZ (hw _ (List.mem_of_getElem? (i := 18) rfl))) (by decide) (backOf (W := 0) (rm3 l Z a0 hw [] p0  h0 n0 Z0 ) hZ (hw _ (List.mem_of_getElem? (i := 18) rfl)) (hw _ (List.mem_of_getElem? (i := 17) rfl)) (by decide) (by decide)) (g := (mkF m 7 #[.val (.int p0)] [(.int p0)])) rfl (by rw [hml]; rfl) (argsL := [(.int p0)]) (rest := []) (lenOf pd_2 rfl) rfl (by show 2 * 0 + _ ≤ _; exact Nat.le_of_eq rfl) (hb hby d2_7) (fun _ _ => ⟨rfl, e1, (by decide : 0 + 0 ≤ _), (by decide : 0 + 0 ≤ _)⟩)
  dsimp only [Pt.U, Pt.locs, Pt.cells, Pt.slots] at X3 l3 y3 z3 st3 hQ3
  subst l3 y3 z3
  obtain ⟨rfl, Nq3, e3⟩ := hQ3
  have N3 := Fr.app N0 Nq3
  rw [if_neg hle] at st3
  have st4 : ∀ target, Steps p.tables e below (T3.setTop (mkF m 13 #[.val (.int p0)] [])) target → Steps p.tables e below (T3.setTop (mkF m 10 #[.val (.int p0)] [(.int (1 : Int32))])) target := by
    intro target kt
    show Steps p.tables e below (T3.setTop (mkF m 10 #[.val (.int p0)] [(.int (1 : Int32))])) _
    refine XS.ifNo X3.here hx rfl (hb hby d2_10) rfl ((if0 _ _).trans (feq (by decide : ¬ ((1 : Int32) = (0 : Int32)))).1) ?_
    exact kt
  obtain ⟨T5, h5, X5, e5, E5, A5, D5, -, st5⟩ := newO X3 hx hZ hown (hw _ (List.mem_of_getElem? (i := 19) rfl)) (hw _ (List.mem_of_getElem? (i := 20) rfl)) (hw _ (List.mem_of_getElem? (i := 12) rfl)) e3 (g := (mkF m 13 #[.val (.int p0)] [])) rfl (hb hby d2_13) (by decide) (by decide)
  obtain ⟨b, g5⟩ : ∃ z, z = h0.size := ⟨_, rfl⟩
  rw [← g5] at A5 D5 st5
  have g_b : n0 ≤ b := Nat.le_trans Z0 (Nat.le_of_eq g5.symm)
  have sz_b : h0.size ≤ b := Nat.le_trans Kp.1 (Nat.le_of_eq g5.symm)
  have S_cs_5 := S_cs.ext E5
  have Z_5 : n0 ≤ h5.size := Nat.le_trans Z0 E5.1
  have Kp_5 : Keep h0 h5 [] := Kp.ext E5
  have E_b : Exa Z h5 b "java/lang/String" := A5
  have F_value_b : Fld Z h5 b "java/lang/String" "value" "[B" .null := D5 (Or.inr (hw _ (List.mem_of_getElem? (i := 33) rfl))) (ty := (.array .byte)) (by decide)
  have F_coder_b : Fld Z h5 b "java/lang/String" "coder" "B" (.int (0 : Int32)) := D5 (Or.inr (hw _ (List.mem_of_getElem? (i := 35) rfl))) (ty := .byte) (by decide)
  have st6 : ∀ target, Steps p.tables e below (T5.setTop (mkF m 18 #[.val (.int p0)] [(.int p0), (.ref b), (.ref b)])) target → Steps p.tables e below (T5.setTop (mkF m 16 #[.val (.int p0)] [(.ref b)])) target := by
    intro target kt
    show Steps p.tables e below (T5.setTop (mkF m 16 #[.val (.int p0)] [(.ref b)])) _
    refine XS.dup X5.here hx rfl (hb hby d2_16) rfl rfl ?_
    show Steps p.tables e below (T5.setTop (mkF m 17 #[.val (.int p0)] [(.ref b), (.ref b)])) _
    refine XS.iloadN X5.here hx rfl (hb hby d2_17) rfl ?_
    exact kt
  obtain ⟨_, _, ⟨T7, L7, k7, n7⟩, -, X7, ⟨Lc7, hQ7, l7, y7, z7⟩, st7⟩ := Jvm.LawKit.callS X5 hx (y := (⟨"java/lang/StringLatin1", "toBytes", "(C)[B"⟩ : MethodName)) hown (mvT hZ (hw _ (List.mem_of_getElem? (i := 21) rfl))) (mvT hZ (hw _ (List.mem_of_getElem? (i := 22) rfl))) (mvT hZ (hw _ (List.mem_of_getElem? (i := 17) rfl))) (mvT hZ (hw _ (List.mem_of_getElem? (i := 23) rfl))) (by decide) (backOf (W := 2) (rm4 l Z a0 hw [] p0  h5 n0 Z_5 ) hZ (hw _ (List.mem_of_getElem? (i := 23) rfl)) (hw _ (List.mem_of_getElem? (i := 17) rfl)) (by decide) (by decide)) (g := (mkF m 18 #[.val (.int p0)] [(.int p0), (.ref b), (.ref b)])) rfl (by rw [hml]; rfl) (argsL := [(.int p0)]) (rest := [(.ref b), (.ref b)]) (lenOf pd_3 rfl) rfl (by show 2 * 0 + _ ≤ _; exact Nat.le_of_eq rfl) (hb hby d2_18) (fun _ _ => ⟨rfl, e5, (by decide : 1 + 1 ≤ _), (by decide : 4 + 1 ≤ _)⟩)
  dsimp only [Pt.U, Pt.locs, Pt.cells, Pt.slots] at X7 l7 y7 z7 st7 hQ7
  subst l7 y7 z7
  obtain ⟨y7, rfl, Nq7, K7, sz7, ⟨ky, Vy⟩⟩ := hQ7
  have N7 := Fr.app N3 Nq7
  have g_y7 : n0 ≤ y7 := Nat.le_trans Z_5 sz7
  have sz_y7 : h0.size ≤ y7 := Nat.le_trans Kp_5.1 sz7
  have ne_b_y7 : b ≠ y7 := Nat.ne_of_lt (Nat.lt_of_lt_of_le E_b.lt sz7)
  have S_cs_7 := own_sta_keep S_cs_5 K7 all0
  have E_b_7 := E_b.keep K7
  have F_value_b_7 := F_value_b.keep K7 nin0
  have F_coder_b_7 := F_coder_b.keep K7 nin0
  have Z_7 : n0 ≤ T7.heap.size := Nat.le_trans Z_5 K7.1
  have Kp_7 : Keep h0 T7.heap [] := Kp_5.trans K7 (all0)
  have st8 : ∀ target, Steps p.tables e below (T7.setTop (mkF m 22 #[.val (.int p0)] [(.int (0 : Int32)), (.ref y7), (.ref b), (.ref b)])) target → Steps p.tables e below (T7.setTop (mkF m 21 #[.val (.int p0)] [(.ref y7), (.ref b), (.ref b)])) target := by
    intro target kt
    show Steps p.tables e below (T7.setTop (mkF m 21 #[.val (.int p0)] [(.ref y7), (.ref b), (.ref b)])) _
    refine XS.iconst X7.here hx rfl (hb hby d2_21) ?_
    exact kt
  obtain ⟨_, _, ⟨T9, L9, k9, n9⟩, -, X9, ⟨Lc9, hQ9, l9, y9, z9⟩, st9⟩ := X7.specialBack hx (y := (⟨"java/lang/String", "<init>", "([BB)V"⟩ : MethodName)) rfl hown (mvT hZ (hw _ (List.mem_of_getElem? (i := 25) rfl))) (mvT hZ (hw _ (List.mem_of_getElem? (i := 26) rfl))) (mvT hZ (hw _ (List.mem_of_getElem? (i := 28) rfl))) (by decide) (backOf (W := 1) (rm5 l Z a0 hw [] b y7 (0 : Int32)  T7.heap n0 Z_7 F_value_b_7 F_coder_b_7 E_b_7 g_b) hZ (hw _ (List.mem_of_getElem? (i := 28) rfl)) (hw _ (List.mem_of_getElem? (i := 12) rfl)) (by decide) (by decide)) (g := (mkF m 22 #[.val (.int p0)] [(.int (0 : Int32)), (.ref y7), (.ref b), (.ref b)])) rfl (by rw [hml]; rfl) (Steps.refl _) (a := b) (argsL := [(.ref y7), (.int (0 : Int32))]) (rest := [(.ref b)]) (lenOf pd_4 rfl) rfl (by show 2 * 0 + _ ≤ _; exact Nat.le_of_eq rfl) (hb hby d2_22) (fun _ _ => ⟨rfl, rfl, (by decide : 2 + 0 ≤ _), (by decide : 5 + 0 ≤ _)⟩)
  dsimp only [Pt.U, Pt.locs, Pt.cells, Pt.slots] at X9 l9 y9 z9 st9 hQ9
  subst l9 y9 z9
  obtain ⟨rfl, Nq9, K9, E_b_i, F_value_b_i, F_coder_b_i⟩ := hQ9
  have N9 := Fr.app N7 Nq9
  have S_cs_9 := own_sta_keep S_cs_7 K9 (allS E_b_7.nostat all0)
  have E_b_9 := E_b_7.keep K9
  have Vy_9 := Vy.keep K9 (ninS (Ne.symm ne_b_y7) nin0)
  have Z_9 : n0 ≤ T9.heap.size := Nat.le_trans Z_7 K9.1
  have Kp_9 : Keep h0 T9.heap [] := Kp_7.trans K9 (allS (Or.inr sz_b) (all0))
  obtain ⟨fs, hr, hrun, hended, hW, hsame⟩ := X9.leave (v := some (.ref b)) (fun h => by rw [Bd.returns] at h; cases h)
  refine ⟨_, _, pre0 _ (st1 _ (st2 _ (st3 _ (st4 _ (st5 _ (st6 _ (st7 _ (st8 _ (st9.trans ?_))))))))), hrun, hended, _, _, rfl, ?_, ⟨_, rfl⟩, hW, hsame.mono (by decide) (by decide)⟩
  · show Steps p.tables e below (T9.setTop (mkF m 25 #[.val (.int p0)] [(.ref b)])) _
    jvm_step X9.here [X9.here.top, hx, (hb hby d2_25), X9.method', Bd.returns, Value.isRef, FieldType.isReference]
    first | (intro acts; rw [hr _ acts rfl rfl rfl]) | rw [hr _ _ rfl rfl rfl]
    exact Steps.refl _
  · show Q_rm2 Z p0 cs h0 n0 _ T9.heap _
    exact ⟨b, rfl, N9, Kp_9, sz_b, E_b_i⟩
theorem d8_0 : decode jdk_30_method_1_code 0 = .ok (.aload_n 0, 1) := by decide +kernel
theorem d8_1 : decode jdk_30_method_1_code 1 = .ok (.invokespecial 1, 3) := by decide +kernel
theorem d8_4 : decode jdk_30_method_1_code 4 = .ok (.return_, 1) := by decide +kernel
theorem pn_3 : plainName "java/lang/Record" = true := by first | (simp [plainName, overriddenIn]; done) | decide +kernel
theorem ef_rm8 (m : MethodId) (x0 : Addr) : entryFrame m #[(.ref x0)] 1 = mkF m 0 #[.val (.ref x0)] [] := by first | (simp [entryFrame, mkF, argsToLocals, Value.category]; done) | rfl
def Q_rm8 (Z : State) (r0 : Addr) (h0 : Heap) (n0 : Nat) (v : Option Value) (h : Heap) (L : List Loc) : Prop := v = none ∧ Fr n0 L ∧ h = h0
set_option maxRecDepth 65536 in
set_option maxHeartbeats 40000000 in
theorem rm8 (l : Launch) (Z : State) (a0 : Array Value) (hw : ∀ d ∈ tables_1, d.before a0 Z = true) (ws : List Jvm.Cond) (r0 : Addr) (h0 : Heap) (n0 : Nat) (Z0 : n0 ≤ h0.size) :
    MetFree l (⟨"java/lang/Record", "<init>", "()V"⟩ : MethodName) (head1 (Jvm.Cond.code (⟨"java/lang/Record", "<init>", "()V"⟩ : MethodName) jdk_30_method_1_code 1 none :: ws) ({ frames := 1, cells := 0, slots := 0, locals := 12 } : Room)) (fun a U => a = #[(.ref r0)] ∧ Z.Warmed39 U.vm ∧ U.heap = h0) (fun _ _ _ _ _ => True) (fun _ U o U' => ∃ v L, o = .returned v ∧ Q_rm8 Z r0 h0 n0 v U'.heap L ∧ FrameEnd U o U' L ({ frames := 1, cells := 0, slots := 0, locals := 12 } : Room).cells ({ frames := 1, cells := 0, slots := 0, locals := 12 } : Room).slots) := by
  refine MetFree.of_bodySF (plainFor_of_name pn_3) hisR ?_
  intro p e s m args below meth c s₁ Bd hml0 hP hK
  obtain ⟨rfl, hZ, hh⟩ := hP
  have hx := Bd.exec
  have hby := Bd.bytes
  have hml : c.maxLocals = 1 := hml0
  have hown : s.vm.findClass "java/lang/Record" = some m.cls := findClass_of_methodNamed Bd.named
  have hnm := (name_of_methodNamed Bd.named Bd.method).1
  have X0 : Stand p l e ({ frames := 1, cells := 0, slots := 0, locals := 12 } : Room) s m #[(.ref r0)] below meth c s₁ [] 0 0 := Stand.of_body Bd
  have e0 : s₁.heap = h0 := by rw [← hh, Bd.state]; rfl
  have N0 := Fr.nil n0
  have pre0 : ∀ t, Steps p.tables e below (s₁.setTop (mkF m 0 #[.val (.ref r0)] [])) t → Steps p.tables e below (s₁.setTop (entryFrame m #[(.ref r0)] 1)) t := fun t k => castTop (ef_rm8 m r0) k
  have st1 : ∀ target, Steps p.tables e below (s₁.setTop (mkF m 1 #[.val (.ref r0)] [(.ref r0)])) target → Steps p.tables e below (s₁.setTop (mkF m 0 #[.val (.ref r0)] [])) target := by
    intro target kt
    show Steps p.tables e below (s₁.setTop (mkF m 0 #[.val (.ref r0)] [])) _
    refine XS.aloadN X0.here hx rfl (hb hby d8_0) rfl rfl ?_
    exact kt
  obtain ⟨T2, X2, e2, st2⟩ := initO X0 hx hZ hown (hw _ (List.mem_of_getElem? (i := 44) rfl)) (hw _ (List.mem_of_getElem? (i := 30) rfl)) (hw _ (List.mem_of_getElem? (i := 31) rfl)) e0 (g := (mkF m 1 #[.val (.ref r0)] [(.ref r0)])) rfl (by rw [hml]; rfl) rfl (hb hby d8_1) (by decide) (W := 0) (by show 2 * 0 + _ ≤ _; exact Nat.le_of_eq rfl) (by decide)
  obtain ⟨fs, hr, hrun, hended, hW, hsame⟩ := X2.leave (v := none) (fun _ => rfl)
  refine ⟨_, _, pre0 _ (st1 _ (st2 _ ?_)), hrun, hended, _, _, rfl, ?_, ⟨_, rfl⟩, hW, hsame.mono (by decide) (by decide)⟩
  · show Steps p.tables e below (T2.setTop (mkF m 4 #[.val (.ref r0)] [])) _
    exact X2.returnOut hx Bd.returns (hb hby d8_4) hr
  · show Q_rm8 Z r0 h0 n0 _ T2.heap _
    rw [e2]
    exact ⟨rfl, N0, rfl⟩
theorem d7_0 : decode prog_14_method_1_code 0 = .ok (.aload_n 0, 1) := by decide +kernel
theorem d7_1 : decode prog_14_method_1_code 1 = .ok (.invokespecial 1, 3) := by decide +kernel
theorem d7_4 : decode prog_14_method_1_code 4 = .ok (.aload_n 0, 1) := by decide +kernel
theorem d7_5 : decode prog_14_method_1_code 5 = .ok (.aload_n 1, 1) := by decide +kernel
theorem d7_6 : decode prog_14_method_1_code 6 = .ok (.putfield 7, 3) := by decide +kernel
theorem d7_9 : decode prog_14_method_1_code 9 = .ok (.aload_n 0, 1) := by decide +kernel
theorem d7_10 : decode prog_14_method_1_code 10 = .ok (.aload_n 2, 1) := by decide +kernel
theorem d7_11 : decode prog_14_method_1_code 11 = .ok (.putfield 13, 3) := by decide +kernel
theorem d7_14 : decode prog_14_method_1_code 14 = .ok (.return_, 1) := by decide +kernel
theorem pn_4 : plainName "com/example/rillstream/rillstream/mysql/StatementTokens$Token" = true := by first | (simp [plainName, overriddenIn]; done) | decide +kernel
theorem ef_rm7 (m : MethodId) (x0 : Addr) (x1 : Addr) (x2 : Addr) : entryFrame m #[(.ref x0), (.ref x1), (.ref x2)] 3 = mkF m 0 #[.val (.ref x0), .val (.ref x1), .val (.ref x2)] [] := by first | (simp [entryFrame, mkF, argsToLocals, Value.category]; done) | rfl
def Q_rm7 (Z : State) (r0 : Addr) (r1 : Addr) (r2 : Addr) (h0 : Heap) (n0 : Nat) (v : Option Value) (h : Heap) (L : List Loc) : Prop := v = none ∧ Fr n0 L ∧ Keep h0 h [r0] ∧ Exa Z h r0 "com/example/rillstream/rillstream/mysql/StatementTokens$Token" ∧ Fld Z h r0 "com/example/rillstream/rillstream/mysql/StatementTokens$Token" "kind" "Lcom/example/rillstream/rillstream/mysql/StatementTokens$Token$Kind;" (.ref r1) ∧ Fld Z h r0 "com/example/rillstream/rillstream/mysql/StatementTokens$Token" "text" "Ljava/lang/String;" (.ref r2)
set_option maxRecDepth 65536 in
set_option maxHeartbeats 40000000 in
theorem rm7 (l : Launch) (Z : State) (a0 : Array Value) (hw : ∀ d ∈ tables_1, d.before a0 Z = true) (ws : List Jvm.Cond) (r0 : Addr) (r1 : Addr) (r2 : Addr) (h0 : Heap) (n0 : Nat) (Z0 : n0 ≤ h0.size) (F_kind : Fld Z h0 r0 "com/example/rillstream/rillstream/mysql/StatementTokens$Token" "kind" "Lcom/example/rillstream/rillstream/mysql/StatementTokens$Token$Kind;" .null) (F_text : Fld Z h0 r0 "com/example/rillstream/rillstream/mysql/StatementTokens$Token" "text" "Ljava/lang/String;" .null) (E_o : Exa Z h0 r0 "com/example/rillstream/rillstream/mysql/StatementTokens$Token") (g_r0 : n0 ≤ r0) :
    MetFree l (⟨"com/example/rillstream/rillstream/mysql/StatementTokens$Token", "<init>", "(Lcom/example/rillstream/rillstream/mysql/StatementTokens$Token$Kind;Ljava/lang/String;)V"⟩ : MethodName) (head1 (Jvm.Cond.code (⟨"com/example/rillstream/rillstream/mysql/StatementTokens$Token", "<init>", "(Lcom/example/rillstream/rillstream/mysql/StatementTokens$Token$Kind;Ljava/lang/String;)V"⟩ : MethodName) prog_14_method_1_code 3 none :: ws) ({ frames := 2, cells := 0, slots := 0, locals := 24 } : Room)) (fun a U => a = #[(.ref r0), (.ref r1), (.ref r2)] ∧ Z.Warmed39 U.vm ∧ U.heap = h0) (fun _ _ _ _ _ => True) (fun _ U o U' => ∃ v L, o = .returned v ∧ Q_rm7 Z r0 r1 r2 h0 n0 v U'.heap L ∧ FrameEnd U o U' L ({ frames := 2, cells := 0, slots := 0, locals := 24 } : Room).cells ({ frames := 2, cells := 0, slots := 0, locals := 24 } : Room).slots) := by
  refine MetFree.of_bodySF (plainFor_of_name pn_4) hisR ?_
  intro p e s m args below meth c s₁ Bd hml0 hP hK
  obtain ⟨rfl, hZ, hh⟩ := hP
  have hx := Bd.exec
  have hby := Bd.bytes
  have hml : c.maxLocals = 3 := hml0
  have hown : s.vm.findClass "com/example/rillstream/rillstream/mysql/StatementTokens$Token" = some m.cls := findClass_of_methodNamed Bd.named
  have hnm := (name_of_methodNamed Bd.named Bd.method).1
  have X0 : Stand p l e ({ frames := 2, cells := 0, slots := 0, locals := 24 } : Room) s m #[(.ref r0), (.ref r1), (.ref r2)] below meth c s₁ [] 0 0 := Stand.of_body Bd
  have e0 : s₁.heap = h0 := by rw [← hh, Bd.state]; rfl
  have N0 := Fr.nil n0
  have pre0 : ∀ t, Steps p.tables e below (s₁.setTop (mkF m 0 #[.val (.ref r0), .val (.ref r1), .val (.ref r2)] [])) t → Steps p.tables e below (s₁.setTop (entryFrame m #[(.ref r0), (.ref r1), (.ref r2)] 3)) t := fun t k => castTop (ef_rm7 m r0 r1 r2) k
  have Kp : Keep h0 h0 [r0] := Keep.refl _ _
  have st1 : ∀ target, Steps p.tables e below (s₁.setTop (mkF m 1 #[.val (.ref r0), .val (.ref r1), .val (.ref r2)] [(.ref r0)])) target → Steps p.tables e below (s₁.setTop (mkF m 0 #[.val (.ref r0), .val (.ref r1), .val (.ref r2)] [])) target := by
    intro target kt
    show Steps p.tables e below (s₁.setTop (mkF m 0 #[.val (.ref r0), .val (.ref r1), .val (.ref r2)] [])) _
    refine XS.aloadN X0.here hx rfl (hb hby d7_0) rfl rfl ?_
    exact kt
  obtain ⟨_, _, ⟨T2, L2, k2, n2⟩, -, X2, ⟨Lc2, hQ2, l2, y2, z2⟩, st2⟩ := X0.specialBack hx (y := (⟨"java/lang/Record", "<init>", "()V"⟩ : MethodName)) rfl hown (mvT hZ (hw _ (List.mem_of_getElem? (i := 39) rfl))) (mvT hZ (hw _ (List.mem_of_getElem? (i := 40) rfl))) (mvT hZ (hw _ (List.mem_of_getElem? (i := 43) rfl))) (by decide) (backOf (W := 0) (rm8 l Z a0 hw [] r0  h0 n0 Z0 ) hZ (hw _ (List.mem_of_getElem? (i := 43) rfl)) (hw _ (List.mem_of_getElem? (i := 42) rfl)) (by decide) (by decide)) (g := (mkF m 1 #[.val (.ref r0), .val (.ref r1), .val (.ref r2)] [(.ref r0)])) rfl (by rw [hml]; rfl) (Steps.refl _) (a := r0) (argsL := []) (rest := []) (lenOf pd_5 rfl) rfl (by show 2 * 0 + _ ≤ _; exact Nat.le_of_eq rfl) (hb hby d7_1) (fun _ _ => ⟨rfl, e0, (by decide : 0 + 0 ≤ _), (by decide : 0 + 0 ≤ _)⟩)
  dsimp only [Pt.U, Pt.locs, Pt.cells, Pt.slots] at X2 l2 y2 z2 st2 hQ2
  subst l2 y2 z2
  obtain ⟨rfl, Nq2, e2⟩ := hQ2
  have N2 := Fr.app N0 Nq2
  have st3 : ∀ target, Steps p.tables e below (T2.setTop (mkF m 6 #[.val (.ref r0), .val (.ref r1), .val (.ref r2)] [(.ref r1), (.ref r0)])) target → Steps p.tables e below (T2.setTop (mkF m 4 #[.val (.ref r0), .val (.ref r1), .val (.ref r2)] [])) target := by
    intro target kt
    show Steps p.tables e below (T2.setTop (mkF m 4 #[.val (.ref r0), .val (.ref r1), .val (.ref r2)] [])) _
    refine XS.aloadN X2.here hx rfl (hb hby d7_4) rfl rfl ?_
    show Steps p.tables e below (T2.setTop (mkF m 5 #[.val (.ref r0), .val (.ref r1), .val (.ref r2)] [(.ref r0)])) _
    refine XS.aloadN X2.here hx rfl (hb hby d7_5) rfl rfl ?_
    exact kt
  obtain ⟨T4, h4, X4, e4, W4, st4⟩ := putF X2 hx hZ hown (host := "") (Or.inl (hw _ (List.mem_of_getElem? (i := 45) rfl))) Via.refl e2 F_kind E_o (Or.inr ⟨(hw _ (List.mem_of_getElem? (i := 46) rfl)), rfl, hnm⟩) (hw _ (List.mem_of_getElem? (i := 1) rfl)) (ty := (.object "com/example/rillstream/rillstream/mysql/StatementTokens$Token$Kind")) (by decide) rfl rfl (g := (mkF m 6 #[.val (.ref r0), .val (.ref r1), .val (.ref r2)] [(.ref r1), (.ref r0)])) rfl rfl (hb hby d7_6)
  have F_kind_r0_4 : Fld Z h4 r0 "com/example/rillstream/rillstream/mysql/StatementTokens$Token" "kind" "Lcom/example/rillstream/rillstream/mysql/StatementTokens$Token$Kind;" (.ref r1) := F_kind.same W4
  have E_o_4 := E_o.wr W4
  have F_text_4 := F_text.other W4 (Or.inr (slot_ne (Or.inr (hw _ (List.mem_of_getElem? (i := 48) rfl))) (Or.inr (hw _ (List.mem_of_getElem? (i := 46) rfl))) (by decide) (t := (.object "java/lang/String")) (t' := (.object "com/example/rillstream/rillstream/mysql/StatementTokens$Token$Kind")) (by decide) (by decide)))
  have Z_4 : n0 ≤ h4.size := Nat.le_trans Z0 (Keep.of_wr W4).1
  have Kp_4 : Keep h0 h4 [r0] := Kp.wr W4 (Or.inl (List.mem_of_getElem? (i := 0) rfl))
  have N4 := Fr.snoc X4 N2 g_r0
  have st5 : ∀ target, Steps p.tables e below (T4.setTop (mkF m 11 #[.val (.ref r0), .val (.ref r1), .val (.ref r2)] [(.ref r2), (.ref r0)])) target → Steps p.tables e below (T4.setTop (mkF m 9 #[.val (.ref r0), .val (.ref r1), .val (.ref r2)] [])) target := by
    intro target kt
    show Steps p.tables e below (T4.setTop (mkF m 9 #[.val (.ref r0), .val (.ref r1), .val (.ref r2)] [])) _
    refine XS.aloadN X4.here hx rfl (hb hby d7_9) rfl rfl ?_
    show Steps p.tables e below (T4.setTop (mkF m 10 #[.val (.ref r0), .val (.ref r1), .val (.ref r2)] [(.ref r0)])) _
    refine XS.aloadN X4.here hx rfl (hb hby d7_10) rfl rfl ?_
    exact kt
  obtain ⟨T6, h6, X6, e6, W6, st6⟩ := putF X4 hx hZ hown (host := "") (Or.inl (hw _ (List.mem_of_getElem? (i := 47) rfl))) Via.refl e4 F_text_4 E_o_4 (Or.inr ⟨(hw _ (List.mem_of_getElem? (i := 48) rfl)), rfl, hnm⟩) (hw _ (List.mem_of_getElem? (i := 1) rfl)) (ty := (.object "java/lang/String")) (by decide) rfl rfl (g := (mkF m 11 #[.val (.ref r0), .val (.ref r1), .val (.ref r2)] [(.ref r2), (.ref r0)])) rfl rfl (hb hby d7_11)
  have F_text_r0_6 : Fld Z h6 r0 "com/example/rillstream/rillstream/mysql/StatementTokens$Token" "text" "Ljava/lang/String;" (.ref r2) := F_text_4.same W6
  have E_o_6 := E_o_4.wr W6
  have F_kind_r0_6 := F_kind_r0_4.other W6 (Or.inr (slot_ne (Or.inr (hw _ (List.mem_of_getElem? (i := 46) rfl))) (Or.inr (hw _ (List.mem_of_getElem? (i := 48) rfl))) (by decide) (t := (.object "com/example/rillstream/rillstream/mysql/StatementTokens$Token$Kind")) (t' := (.object "java/lang/String")) (by decide) (by decide)))
  have Z_6 : n0 ≤ h6.size := Nat.le_trans Z_4 (Keep.of_wr W6).1
  have Kp_6 : Keep h0 h6 [r0] := Kp_4.wr W6 (Or.inl (List.mem_of_getElem? (i := 0) rfl))
  have N6 := Fr.snoc X6 N4 g_r0
  obtain ⟨fs, hr, hrun, hended, hW, hsame⟩ := X6.leave (v := none) (fun _ => rfl)
  refine ⟨_, _, pre0 _ (st1 _ (st2.trans (st3 _ (st4 _ (st5 _ (st6 _ ?_)))))), hrun, hended, _, _, rfl, ?_, ⟨_, rfl⟩, hW, hsame.mono (by decide) (by decide)⟩
  · show Steps p.tables e below (T6.setTop (mkF m 14 #[.val (.ref r0), .val (.ref r1), .val (.ref r2)] [])) _
    exact X6.returnOut hx Bd.returns (hb hby d7_14) hr
  · show Q_rm7 Z r0 r1 r2 h0 n0 _ T6.heap _
    rw [e6]
    exact ⟨rfl, N6, Kp_6, E_o_6, F_kind_r0_6, F_text_r0_6⟩
theorem d9_0 : decode prog_14_method_4_code 0 = .ok (.aload_n 0, 1) := by decide +kernel
theorem d9_1 : decode prog_14_method_4_code 1 = .ok (.getfield 7, 3) := by decide +kernel
theorem d9_4 : decode prog_14_method_4_code 4 = .ok (.getstatic 17, 3) := by decide +kernel
theorem d9_7 : decode prog_14_method_4_code 7 = .ok (.if_acmp .eq 13, 3) := by decide +kernel
theorem d9_10 : decode prog_14_method_4_code 10 = .ok (.aload_n 0, 1) := by decide +kernel
theorem d9_11 : decode prog_14_method_4_code 11 = .ok (.getfield 7, 3) := by decide +kernel
theorem d9_14 : decode prog_14_method_4_code 14 = .ok (.getstatic 22, 3) := by decide +kernel
theorem d9_17 : decode prog_14_method_4_code 17 = .ok (.if_acmp .ne 7, 3) := by decide +kernel
theorem d9_20 : decode prog_14_method_4_code 20 = .ok (.iconst 1, 1) := by decide +kernel
theorem d9_21 : decode prog_14_method_4_code 21 = .ok (.goto 4, 3) := by decide +kernel
theorem d9_24 : decode prog_14_method_4_code 24 = .ok (.iconst 0, 1) := by decide +kernel
theorem d9_25 : decode prog_14_method_4_code 25 = .ok (.ireturn, 1) := by decide +kernel
theorem ef_rm9 (m : MethodId) (x0 : Addr) : entryFrame m #[(.ref x0)] 1 = mkF m 0 #[.val (.ref x0)] [] := by first | (simp [entryFrame, mkF, argsToLocals, Value.category]; done) | rfl
def Q_rm9 (Z : State) (r0 : Addr) (zk : Addr) (aW : Addr) (aQ : Addr) (h0 : Heap) (n0 : Nat) (v : Option Value) (h : Heap) (L : List Loc) : Prop := v = some (.int (own_name zk aW aQ)) ∧ Fr n0 L ∧ h = h0
set_option maxRecDepth 65536 in
set_option maxHeartbeats 40000000 in
theorem rm9 (l : Launch) (Z : State) (a0 : Array Value) (hw : ∀ d ∈ tables_1, d.before a0 Z = true) (ws : List Jvm.Cond) (r0 : Addr) (zk : Addr) (aW : Addr) (aQ : Addr) (h0 : Heap) (n0 : Nat) (Z0 : n0 ≤ h0.size) (F_k : Fld Z h0 r0 "com/example/rillstream/rillstream/mysql/StatementTokens$Token" "kind" "Lcom/example/rillstream/rillstream/mysql/StatementTokens$Token$Kind;" (.ref zk)) (S_aW : Sta Z h0 "com/example/rillstream/rillstream/mysql/StatementTokens$Token$Kind" "WORD" "Lcom/example/rillstream/rillstream/mysql/StatementTokens$Token$Kind;" (.ref aW)) (S_aQ : Sta Z h0 "com/example/rillstream/rillstream/mysql/StatementTokens$Token$Kind" "QUOTED" "Lcom/example/rillstream/rillstream/mysql/StatementTokens$Token$Kind;" (.ref aQ)) :
    MetFree l (⟨"com/example/rillstream/rillstream/mysql/StatementTokens$Token", "isName", "()Z"⟩ : MethodName) (head1 (Jvm.Cond.code (⟨"com/example/rillstream/rillstream/mysql/StatementTokens$Token", "isName", "()Z"⟩ : MethodName) prog_14_method_4_code 1 (some .boolean) :: ws) ({ frames := 0, cells := 0, slots := 0, locals := 0 } : Room)) (fun a U => a = #[(.ref r0)] ∧ Z.Warmed39 U.vm ∧ U.heap = h0) (fun _ _ _ _ _ => True) (fun _ U o U' => ∃ v L, o = .returned v ∧ Q_rm9 Z r0 zk aW aQ h0 n0 v U'.heap L ∧ FrameEnd U o U' L ({ frames := 0, cells := 0, slots := 0, locals := 0 } : Room).cells ({ frames := 0, cells := 0, slots := 0, locals := 0 } : Room).slots) := by
  refine MetFree.of_bodySF (plainFor_of_name pn_4) hisR ?_
  intro p e s m args below meth c s₁ Bd hml0 hP hK
  obtain ⟨rfl, hZ, hh⟩ := hP
  have hx := Bd.exec
  have hby := Bd.bytes
  have hml : c.maxLocals = 1 := hml0
  have hown : s.vm.findClass "com/example/rillstream/rillstream/mysql/StatementTokens$Token" = some m.cls := findClass_of_methodNamed Bd.named
  have hnm := (name_of_methodNamed Bd.named Bd.method).1
  have X0 : Stand p l e ({ frames := 0, cells := 0, slots := 0, locals := 0 } : Room) s m #[(.ref r0)] below meth c s₁ [] 0 0 := Stand.of_body Bd
  have e0 : s₁.heap = h0 := by rw [← hh, Bd.state]; rfl
  have N0 := Fr.nil n0
  have pre0 : ∀ t, Steps p.tables e below (s₁.setTop (mkF m 0 #[.val (.ref r0)] [])) t → Steps p.tables e below (s₁.setTop (entryFrame m #[(.ref r0)] 1)) t := fun t k => castTop (ef_rm9 m r0) k
  have st1 : ∀ target, Steps p.tables e below (s₁.setTop (mkF m 1 #[.val (.ref r0)] [(.ref r0)])) target → Steps p.tables e below (s₁.setTop (mkF m 0 #[.val (.ref r0)] [])) target := by
    intro target kt
    show Steps p.tables e below (s₁.setTop (mkF m 0 #[.val (.ref r0)] [])) _
    refine XS.aloadN X0.here hx rfl (hb hby d9_0) rfl rfl ?_
    exact kt
  obtain ⟨T2, X2, e2, st2⟩ := getF X0 hx hZ hown (host := "") (Or.inl (hw _ (List.mem_of_getElem? (i := 45) rfl))) Via.refl e0 F_k (g := (mkF m 1 #[.val (.ref r0)] [(.ref r0)])) rfl rfl (hb hby d9_1)
  obtain ⟨T3, X3, e3, st3⟩ := getS2 X2 hx hZ hown (host := "") (Or.inl (hw _ (List.mem_of_getElem? (i := 54) rfl))) Via.refl e2 S_aW (g := (mkF m 4 #[.val (.ref r0)] [(.ref zk)])) rfl (hb hby d9_4)
  by_cases hc7 : (Value.ref zk) = (.ref aW)
  · have st4 : ∀ target, Steps p.tables e below (T3.setTop (mkF m 20 #[.val (.ref r0)] [])) target → Steps p.tables e below (T3.setTop (mkF m 7 #[.val (.ref r0)] [(.ref aW), (.ref zk)])) target := by
      intro target kt
      show Steps p.tables e below (T3.setTop (mkF m 7 #[.val (.ref r0)] [(.ref aW), (.ref zk)])) _
      refine Jvm.RoadKit.acmp (g := (mkF m 7 #[.val (.ref r0)] [(.ref aW), (.ref zk)])) X3 hx rfl rfl rfl (pc0 := 7) (pc' := 20) (same := true) rfl (hb hby d9_7) rfl (decide_eq_true hc7) (by decide) (by decide) ?_
      exact kt
    obtain ⟨fs, hr, hrun, hended, hW, hsame⟩ := X3.leave (v := some (.int (1 : Int32))) (fun h => by rw [Bd.returns] at h; cases h)
    refine ⟨_, _, pre0 _ (st1 _ (st2 _ (st3 _ (st4 _ ?_)))), hrun, hended, _, _, rfl, ?_, ⟨_, rfl⟩, hW, hsame.mono (by decide) (by decide)⟩
    · show Steps p.tables e below (T3.setTop (mkF m 20 #[.val (.ref r0)] [])) _
      refine XS.iconst X3.here hx rfl (hb hby d9_20) ?_
      show Steps p.tables e below (T3.setTop (mkF m 21 #[.val (.ref r0)] [(.int (1 : Int32))])) _
      refine XS.goto X3.here hx rfl (pc0 := 21) (pc' := 25) rfl (hb hby d9_21) (by decide) (by decide) ?_
      show Steps p.tables e below (T3.setTop (mkF m 25 #[.val (.ref r0)] [(.int (1 : Int32))])) _
      exact retN X3 hx (t := .boolean) Bd.returns (by simp) (hb hby d9_25) hr
    · show Q_rm9 Z r0 zk aW aQ h0 n0 _ T3.heap _
      rw [e3]
      exact ⟨by rw [own_name, if_pos hc7], N0, rfl⟩
  · have st5 : ∀ target, Steps p.tables e below (T3.setTop (mkF m 10 #[.val (.ref r0)] [])) target → Steps p.tables e below (T3.setTop (mkF m 7 #[.val (.ref r0)] [(.ref aW), (.ref zk)])) target := by
      intro target kt
      show Steps p.tables e below (T3.setTop (mkF m 7 #[.val (.ref r0)] [(.ref aW), (.ref zk)])) _
      refine Jvm.RoadKit.acmp (g := (mkF m 7 #[.val (.ref r0)] [(.ref aW), (.ref zk)])) X3 hx rfl rfl rfl (pc0 := 7) (pc' := 10) (same := false) rfl (hb hby d9_7) rfl (decide_eq_false hc7) (by decide) (by decide) ?_
      exact kt
    have st6 : ∀ target, Steps p.tables e below (T3.setTop (mkF m 11 #[.val (.ref r0)] [(.ref r0)])) target → Steps p.tables e below (T3.setTop (mkF m 10 #[.val (.ref r0)] [])) target := by
      intro target kt
      show Steps p.tables e below (T3.setTop (mkF m 10 #[.val (.ref r0)] [])) _
      refine XS.aloadN X3.here hx rfl (hb hby d9_10) rfl rfl ?_
      exact kt
    obtain ⟨T7, X7, e7, st7⟩ := getF X3 hx hZ hown (host := "") (Or.inl (hw _ (List.mem_of_getElem? (i := 45) rfl))) Via.refl e3 F_k (g := (mkF m 11 #[.val (.ref r0)] [(.ref r0)])) rfl rfl (hb hby d9_11)
    obtain ⟨T8, X8, e8, st8⟩ := getS2 X7 hx hZ hown (host := "") (Or.inl (hw _ (List.mem_of_getElem? (i := 62) rfl))) Via.refl e7 S_aQ (g := (mkF m 14 #[.val (.ref r0)] [(.ref zk)])) rfl (hb hby d9_14)
    by_cases hc17 : (Value.ref zk) = (.ref aQ)
    · have st9 : ∀ target, Steps p.tables e below (T8.setTop (mkF m 20 #[.val (.ref r0)] [])) target → Steps p.tables e below (T8.setTop (mkF m 17 #[.val (.ref r0)] [(.ref aQ), (.ref zk)])) target := by
        intro target kt
        show Steps p.tables e below (T8.setTop (mkF m 17 #[.val (.ref r0)] [(.ref aQ), (.ref zk)])) _
        refine Jvm.RoadKit.acmp (g := (mkF m 17 #[.val (.ref r0)] [(.ref aQ), (.ref zk)])) X8 hx rfl rfl rfl (pc0 := 17) (pc' := 20) (same := true) rfl (hb hby d9_17) rfl (decide_eq_true hc17) (by decide) (by decide) ?_
        exact kt
      obtain ⟨fs, hr, hrun, hended, hW, hsame⟩ := X8.leave (v := some (.int (1 : Int32))) (fun h => by rw [Bd.returns] at h; cases h)
      refine ⟨_, _, pre0 _ (st1 _ (st2 _ (st3 _ (st5 _ (st6 _ (st7 _ (st8 _ (st9 _ ?_)))))))), hrun, hended, _, _, rfl, ?_, ⟨_, rfl⟩, hW, hsame.mono (by decide) (by decide)⟩
      · show Steps p.tables e below (T8.setTop (mkF m 20 #[.val (.ref r0)] [])) _
        refine XS.iconst X8.here hx rfl (hb hby d9_20) ?_
        show Steps p.tables e below (T8.setTop (mkF m 21 #[.val (.ref r0)] [(.int (1 : Int32))])) _
        refine XS.goto X8.here hx rfl (pc0 := 21) (pc' := 25) rfl (hb hby d9_21) (by decide) (by decide) ?_
        show Steps p.tables e below (T8.setTop (mkF m 25 #[.val (.ref r0)] [(.int (1 : Int32))])) _
        exact retN X8 hx (t := .boolean) Bd.returns (by simp) (hb hby d9_25) hr
      · show Q_rm9 Z r0 zk aW aQ h0 n0 _ T8.heap _
        rw [e8]
        exact ⟨by rw [own_name, if_neg hc7, if_pos hc17], N0, rfl⟩
    · have st10 : ∀ target, Steps p.tables e below (T8.setTop (mkF m 24 #[.val (.ref r0)] [])) target → Steps p.tables e below (T8.setTop (mkF m 17 #[.val (.ref r0)] [(.ref aQ), (.ref zk)])) target := by
        intro target kt
        show Steps p.tables e below (T8.setTop (mkF m 17 #[.val (.ref r0)] [(.ref aQ), (.ref zk)])) _
        refine Jvm.RoadKit.acmp (g := (mkF m 17 #[.val (.ref r0)] [(.ref aQ), (.ref zk)])) X8 hx rfl rfl rfl (pc0 := 17) (pc' := 24) (same := false) rfl (hb hby d9_17) rfl (decide_eq_false hc17) (by decide) (by decide) ?_
        exact kt
      obtain ⟨fs, hr, hrun, hended, hW, hsame⟩ := X8.leave (v := some (.int (0 : Int32))) (fun h => by rw [Bd.returns] at h; cases h)
      refine ⟨_, _, pre0 _ (st1 _ (st2 _ (st3 _ (st5 _ (st6 _ (st7 _ (st8 _ (st10 _ ?_)))))))), hrun, hended, _, _, rfl, ?_, ⟨_, rfl⟩, hW, hsame.mono (by decide) (by decide)⟩
      · show Steps p.tables e below (T8.setTop (mkF m 24 #[.val (.ref r0)] [])) _
        refine XS.iconst X8.here hx rfl (hb hby d9_24) ?_
        show Steps p.tables e below (T8.setTop (mkF m 25 #[.val (.ref r0)] [(.int (0 : Int32))])) _
        exact retN X8 hx (t := .boolean) Bd.returns (by simp) (hb hby d9_25) hr
      · show Q_rm9 Z r0 zk aW aQ h0 n0 _ T8.heap _
        rw [e8]
        exact ⟨by rw [own_name, if_neg hc7, if_neg hc17], N0, rfl⟩
theorem d10_0 : decode prog_14_method_2_code 0 = .ok (.aload_n 0, 1) := by decide +kernel
theorem d10_1 : decode prog_14_method_2_code 1 = .ok (.getfield 7, 3) := by decide +kernel
theorem d10_4 : decode prog_14_method_2_code 4 = .ok (.getstatic 17, 3) := by decide +kernel
theorem d10_7 : decode prog_14_method_2_code 7 = .ok (.if_acmp .ne 7, 3) := by decide +kernel
theorem d10_10 : decode prog_14_method_2_code 10 = .ok (.iconst 1, 1) := by decide +kernel
theorem d10_11 : decode prog_14_method_2_code 11 = .ok (.goto 4, 3) := by decide +kernel
theorem d10_14 : decode prog_14_method_2_code 14 = .ok (.iconst 0, 1) := by decide +kernel
theorem d10_15 : decode prog_14_method_2_code 15 = .ok (.ireturn, 1) := by decide +kernel
theorem ef_rm10 (m : MethodId) (x0 : Addr) : entryFrame m #[(.ref x0)] 1 = mkF m 0 #[.val (.ref x0)] [] := by first | (simp [entryFrame, mkF, argsToLocals, Value.category]; done) | rfl
def Q_rm10 (Z : State) (r0 : Addr) (zk : Addr) (aW : Addr) (h0 : Heap) (n0 : Nat) (v : Option Value) (h : Heap) (L : List Loc) : Prop := v = some (.int (if (Value.ref zk) = (.ref aW) then (1 : Int32) else (0 : Int32))) ∧ Fr n0 L ∧ h = h0
set_option maxRecDepth 65536 in
set_option maxHeartbeats 40000000 in
theorem rm10 (l : Launch) (Z : State) (a0 : Array Value) (hw : ∀ d ∈ tables_1, d.before a0 Z = true) (ws : List Jvm.Cond) (r0 : Addr) (zk : Addr) (aW : Addr) (h0 : Heap) (n0 : Nat) (Z0 : n0 ≤ h0.size) (F_k : Fld Z h0 r0 "com/example/rillstream/rillstream/mysql/StatementTokens$Token" "kind" "Lcom/example/rillstream/rillstream/mysql/StatementTokens$Token$Kind;" (.ref zk)) (S_aW : Sta Z h0 "com/example/rillstream/rillstream/mysql/StatementTokens$Token$Kind" "WORD" "Lcom/example/rillstream/rillstream/mysql/StatementTokens$Token$Kind;" (.ref aW)) :
    MetFree l (⟨"com/example/rillstream/rillstream/mysql/StatementTokens$Token", "isWord", "()Z"⟩ : MethodName) (head1 (Jvm.Cond.code (⟨"com/example/rillstream/rillstream/mysql/StatementTokens$Token", "isWord", "()Z"⟩ : MethodName) prog_14_method_2_code 1 (some .boolean) :: ws) ({ frames := 0, cells := 0, slots := 0, locals := 0 } : Room)) (fun a U => a = #[(.ref r0)] ∧ Z.Warmed39 U.vm ∧ U.heap = h0) (fun _ _ _ _ _ => True) (fun _ U o U' => ∃ v L, o = .returned v ∧ Q_rm10 Z r0 zk aW h0 n0 v U'.heap L ∧ FrameEnd U o U' L ({ frames := 0, cells := 0, slots := 0, locals := 0 } : Room).cells ({ frames := 0, cells := 0, slots := 0, locals := 0 } : Room).slots) := by
  refine MetFree.of_bodySF (plainFor_of_name pn_4) hisR ?_
  intro p e s m args below meth c s₁ Bd hml0 hP hK
  obtain ⟨rfl, hZ, hh⟩ := hP
  have hx := Bd.exec
  have hby := Bd.bytes
  have hml : c.maxLocals = 1 := hml0
  have hown : s.vm.findClass "com/example/rillstream/rillstream/mysql/StatementTokens$Token" = some m.cls := findClass_of_methodNamed Bd.named
  have hnm := (name_of_methodNamed Bd.named Bd.method).1
  have X0 : Stand p l e ({ frames := 0, cells := 0, slots := 0, locals := 0 } : Room) s m #[(.ref r0)] below meth c s₁ [] 0 0 := Stand.of_body Bd
  have e0 : s₁.heap = h0 := by rw [← hh, Bd.state]; rfl
  have N0 := Fr.nil n0
  have pre0 : ∀ t, Steps p.tables e below (s₁.setTop (mkF m 0 #[.val (.ref r0)] [])) t → Steps p.tables e below (s₁.setTop (entryFrame m #[(.ref r0)] 1)) t := fun t k => castTop (ef_rm10 m r0) k
  have st1 : ∀ target, Steps p.tables e below (s₁.setTop (mkF m 1 #[.val (.ref r0)] [(.ref r0)])) target → Steps p.tables e below (s₁.setTop (mkF m 0 #[.val (.ref r0)] [])) target := by
    intro target kt
    show Steps p.tables e below (s₁.setTop (mkF m 0 #[.val (.ref r0)] [])) _
    refine XS.aloadN X0.here hx rfl (hb hby d10_0) rfl rfl ?_
    exact kt
  obtain ⟨T2, X2, e2, st2⟩ := getF X0 hx hZ hown (host := "") (Or.inl (hw _ (List.mem_of_getElem? (i := 45) rfl))) Via.refl e0 F_k (g := (mkF m 1 #[.val (.ref r0)] [(.ref r0)])) rfl rfl (hb hby d10_1)
  obtain ⟨T3, X3, e3, st3⟩ := getS2 X2 hx hZ hown (host := "") (Or.inl (hw _ (List.mem_of_getElem? (i := 54) rfl))) Via.refl e2 S_aW (g := (mkF m 4 #[.val (.ref r0)] [(.ref zk)])) rfl (hb hby d10_4)
  obtain ⟨fs, hr, hrun, hended, hW, hsame⟩ := X3.leave (v := some (.int (if (Value.ref zk) = (.ref aW) then (1 : Int32) else (0 : Int32)))) (fun h => by rw [Bd.returns] at h; cases h)
  refine ⟨_, _, pre0 _ (st1 _ (st2 _ (st3 _ ?_))), hrun, hended, _, _, rfl, ?_, ⟨_, rfl⟩, hW, hsame.mono (by decide) (by decide)⟩
  · by_cases hc7 : (Value.ref zk) = (.ref aW)
    · rw [if_pos hc7] at hr
      show Steps p.tables e below (T3.setTop (mkF m 7 #[.val (.ref r0)] [(.ref aW), (.ref zk)])) _
      refine Jvm.RoadKit.acmp (g := (mkF m 7 #[.val (.ref r0)] [(.ref aW), (.ref zk)])) X3 hx rfl rfl rfl (pc0 := 7) (pc' := 10) (same := true) rfl (hb hby d10_7) rfl (decide_eq_true hc7) (by decide) (by decide) ?_
      show Steps p.tables e below (T3.setTop (mkF m 10 #[.val (.ref r0)] [])) _
      refine XS.iconst X3.here hx rfl (hb hby d10_10) ?_
      show Steps p.tables e below (T3.setTop (mkF m 11 #[.val (.ref r0)] [(.int (1 : Int32))])) _
      refine XS.goto X3.here hx rfl (pc0 := 11) (pc' := 15) rfl (hb hby d10_11) (by decide) (by decide) ?_
      show Steps p.tables e below (T3.setTop (mkF m 15 #[.val (.ref r0)] [(.int (1 : Int32))])) _
      exact retN X3 hx (t := .boolean) Bd.returns (by simp) (hb hby d10_15) hr
    · rw [if_neg hc7] at hr
      show Steps p.tables e below (T3.setTop (mkF m 7 #[.val (.ref r0)] [(.ref aW), (.ref zk)])) _
      refine Jvm.RoadKit.acmp (g := (mkF m 7 #[.val (.ref r0)] [(.ref aW), (.ref zk)])) X3 hx rfl rfl rfl (pc0 := 7) (pc' := 14) (same := false) rfl (hb hby d10_7) rfl (decide_eq_false hc7) (by decide) (by decide) ?_
      show Steps p.tables e below (T3.setTop (mkF m 14 #[.val (.ref r0)] [])) _
      refine XS.iconst X3.here hx rfl (hb hby d10_14) ?_
      show Steps p.tables e below (T3.setTop (mkF m 15 #[.val (.ref r0)] [(.int (0 : Int32))])) _
      exact retN X3 hx (t := .boolean) Bd.returns (by simp) (hb hby d10_15) hr
  · show Q_rm10 Z r0 zk aW h0 n0 _ T3.heap _
    rw [e3]
    exact ⟨rfl, N0, rfl⟩
theorem d11_0 : decode prog_14_method_3_code 0 = .ok (.aload_n 0, 1) := by decide +kernel
theorem d11_1 : decode prog_14_method_3_code 1 = .ok (.getfield 7, 3) := by decide +kernel
theorem d11_4 : decode prog_14_method_3_code 4 = .ok (.getstatic 22, 3) := by decide +kernel
theorem d11_7 : decode prog_14_method_3_code 7 = .ok (.if_acmp .ne 7, 3) := by decide +kernel
theorem d11_10 : decode prog_14_method_3_code 10 = .ok (.iconst 1, 1) := by decide +kernel
theorem d11_11 : decode prog_14_method_3_code 11 = .ok (.goto 4, 3) := by decide +kernel
theorem d11_14 : decode prog_14_method_3_code 14 = .ok (.iconst 0, 1) := by decide +kernel
theorem d11_15 : decode prog_14_method_3_code 15 = .ok (.ireturn, 1) := by decide +kernel
theorem ef_rm11 (m : MethodId) (x0 : Addr) : entryFrame m #[(.ref x0)] 1 = mkF m 0 #[.val (.ref x0)] [] := by first | (simp [entryFrame, mkF, argsToLocals, Value.category]; done) | rfl
def Q_rm11 (Z : State) (r0 : Addr) (zk : Addr) (aQ : Addr) (h0 : Heap) (n0 : Nat) (v : Option Value) (h : Heap) (L : List Loc) : Prop := v = some (.int (if (Value.ref zk) = (.ref aQ) then (1 : Int32) else (0 : Int32))) ∧ Fr n0 L ∧ h = h0
set_option maxRecDepth 65536 in
set_option maxHeartbeats 40000000 in
theorem rm11 (l : Launch) (Z : State) (a0 : Array Value) (hw : ∀ d ∈ tables_1, d.before a0 Z = true) (ws : List Jvm.Cond) (r0 : Addr) (zk : Addr) (aQ : Addr) (h0 : Heap) (n0 : Nat) (Z0 : n0 ≤ h0.size) (F_k : Fld Z h0 r0 "com/example/rillstream/rillstream/mysql/StatementTokens$Token" "kind" "Lcom/example/rillstream/rillstream/mysql/StatementTokens$Token$Kind;" (.ref zk)) (S_aQ : Sta Z h0 "com/example/rillstream/rillstream/mysql/StatementTokens$Token$Kind" "QUOTED" "Lcom/example/rillstream/rillstream/mysql/StatementTokens$Token$Kind;" (.ref aQ)) :
    MetFree l (⟨"com/example/rillstream/rillstream/mysql/StatementTokens$Token", "isQuoted", "()Z"⟩ : MethodName) (head1 (Jvm.Cond.code (⟨"com/example/rillstream/rillstream/mysql/StatementTokens$Token", "isQuoted", "()Z"⟩ : MethodName) prog_14_method_3_code 1 (some .boolean) :: ws) ({ frames := 0, cells := 0, slots := 0, locals := 0 } : Room)) (fun a U => a = #[(.ref r0)] ∧ Z.Warmed39 U.vm ∧ U.heap = h0) (fun _ _ _ _ _ => True) (fun _ U o U' => ∃ v L, o = .returned v ∧ Q_rm11 Z r0 zk aQ h0 n0 v U'.heap L ∧ FrameEnd U o U' L ({ frames := 0, cells := 0, slots := 0, locals := 0 } : Room).cells ({ frames := 0, cells := 0, slots := 0, locals := 0 } : Room).slots) := by
  refine MetFree.of_bodySF (plainFor_of_name pn_4) hisR ?_
  intro p e s m args below meth c s₁ Bd hml0 hP hK
  obtain ⟨rfl, hZ, hh⟩ := hP
  have hx := Bd.exec
  have hby := Bd.bytes
  have hml : c.maxLocals = 1 := hml0
  have hown : s.vm.findClass "com/example/rillstream/rillstream/mysql/StatementTokens$Token" = some m.cls := findClass_of_methodNamed Bd.named
  have hnm := (name_of_methodNamed Bd.named Bd.method).1
  have X0 : Stand p l e ({ frames := 0, cells := 0, slots := 0, locals := 0 } : Room) s m #[(.ref r0)] below meth c s₁ [] 0 0 := Stand.of_body Bd
  have e0 : s₁.heap = h0 := by rw [← hh, Bd.state]; rfl
  have N0 := Fr.nil n0
  have pre0 : ∀ t, Steps p.tables e below (s₁.setTop (mkF m 0 #[.val (.ref r0)] [])) t → Steps p.tables e below (s₁.setTop (entryFrame m #[(.ref r0)] 1)) t := fun t k => castTop (ef_rm11 m r0) k
  have st1 : ∀ target, Steps p.tables e below (s₁.setTop (mkF m 1 #[.val (.ref r0)] [(.ref r0)])) target → Steps p.tables e below (s₁.setTop (mkF m 0 #[.val (.ref r0)] [])) target := by
    intro target kt
    show Steps p.tables e below (s₁.setTop (mkF m 0 #[.val (.ref r0)] [])) _
    refine XS.aloadN X0.here hx rfl (hb hby d11_0) rfl rfl ?_
    exact kt
  obtain ⟨T2, X2, e2, st2⟩ := getF X0 hx hZ hown (host := "") (Or.inl (hw _ (List.mem_of_getElem? (i := 45) rfl))) Via.refl e0 F_k (g := (mkF m 1 #[.val (.ref r0)] [(.ref r0)])) rfl rfl (hb hby d11_1)
  obtain ⟨T3, X3, e3, st3⟩ := getS2 X2 hx hZ hown (host := "") (Or.inl (hw _ (List.mem_of_getElem? (i := 62) rfl))) Via.refl e2 S_aQ (g := (mkF m 4 #[.val (.ref r0)] [(.ref zk)])) rfl (hb hby d11_4)
  obtain ⟨fs, hr, hrun, hended, hW, hsame⟩ := X3.leave (v := some (.int (if (Value.ref zk) = (.ref aQ) then (1 : Int32) else (0 : Int32)))) (fun h => by rw [Bd.returns] at h; cases h)
  refine ⟨_, _, pre0 _ (st1 _ (st2 _ (st3 _ ?_))), hrun, hended, _, _, rfl, ?_, ⟨_, rfl⟩, hW, hsame.mono (by decide) (by decide)⟩
  · by_cases hc7 : (Value.ref zk) = (.ref aQ)
    · rw [if_pos hc7] at hr
      show Steps p.tables e below (T3.setTop (mkF m 7 #[.val (.ref r0)] [(.ref aQ), (.ref zk)])) _
      refine Jvm.RoadKit.acmp (g := (mkF m 7 #[.val (.ref r0)] [(.ref aQ), (.ref zk)])) X3 hx rfl rfl rfl (pc0 := 7) (pc' := 10) (same := true) rfl (hb hby d11_7) rfl (decide_eq_true hc7) (by decide) (by decide) ?_
      show Steps p.tables e below (T3.setTop (mkF m 10 #[.val (.ref r0)] [])) _
      refine XS.iconst X3.here hx rfl (hb hby d11_10) ?_
      show Steps p.tables e below (T3.setTop (mkF m 11 #[.val (.ref r0)] [(.int (1 : Int32))])) _
      refine XS.goto X3.here hx rfl (pc0 := 11) (pc' := 15) rfl (hb hby d11_11) (by decide) (by decide) ?_
      show Steps p.tables e below (T3.setTop (mkF m 15 #[.val (.ref r0)] [(.int (1 : Int32))])) _
      exact retN X3 hx (t := .boolean) Bd.returns (by simp) (hb hby d11_15) hr
    · rw [if_neg hc7] at hr
      show Steps p.tables e below (T3.setTop (mkF m 7 #[.val (.ref r0)] [(.ref aQ), (.ref zk)])) _
      refine Jvm.RoadKit.acmp (g := (mkF m 7 #[.val (.ref r0)] [(.ref aQ), (.ref zk)])) X3 hx rfl rfl rfl (pc0 := 7) (pc' := 14) (same := false) rfl (hb hby d11_7) rfl (decide_eq_false hc7) (by decide) (by decide) ?_
      show Steps p.tables e below (T3.setTop (mkF m 14 #[.val (.ref r0)] [])) _
      refine XS.iconst X3.here hx rfl (hb hby d11_14) ?_
      show Steps p.tables e below (T3.setTop (mkF m 15 #[.val (.ref r0)] [(.int (0 : Int32))])) _
      exact retN X3 hx (t := .boolean) Bd.returns (by simp) (hb hby d11_15) hr
  · show Q_rm11 Z r0 zk aQ h0 n0 _ T3.heap _
    rw [e3]
    exact ⟨rfl, N0, rfl⟩
theorem ef_rm0 (m : MethodId) (x0 : Int32) (x1 : Int32) : entryFrame m #[(.int x0), (.int x1)] maxLocals = mkF m 0 #[.val (.int x0), .val (.int x1), .unset, .unset, .unset, .unset] [] := by first | (simp [entryFrame, mkF, argsToLocals, Value.category, maxLocals]; done) | rfl
def Q_rm0 (Z : State) (p0 : Int32) (p1 : Int32) (aW : Addr) (aQ : Addr) (aS : Addr) (aY : Addr) (cs : Int32) (h0 : Heap) (n0 : Nat) (v : Option Value) (h : Heap) (L : List Loc) : Prop := v = some (.int 1) ∧ Fr n0 L
set_option maxRecDepth 65536 in
set_option maxHeartbeats 40000000 in
theorem rm0 (l : Launch) (Z : State) (a0 : Array Value) (hw : ∀ d ∈ tables_1, d.before a0 Z = true) (ws : List Jvm.Cond) (p0 : Int32) (p1 : Int32) (aW : Addr) (aQ : Addr) (aS : Addr) (aY : Addr) (cs : Int32) (h0 : Heap) (n0 : Nat) (Z0 : n0 ≤ h0.size) (S_aW : Sta Z h0 "com/example/rillstream/rillstream/mysql/StatementTokens$Token$Kind" "WORD" "Lcom/example/rillstream/rillstream/mysql/StatementTokens$Token$Kind;" (.ref aW)) (S_aQ : Sta Z h0 "com/example/rillstream/rillstream/mysql/StatementTokens$Token$Kind" "QUOTED" "Lcom/example/rillstream/rillstream/mysql/StatementTokens$Token$Kind;" (.ref aQ)) (S_aS : Sta Z h0 "com/example/rillstream/rillstream/mysql/StatementTokens$Token$Kind" "STRING" "Lcom/example/rillstream/rillstream/mysql/StatementTokens$Token$Kind;" (.ref aS)) (S_aY : Sta Z h0 "com/example/rillstream/rillstream/mysql/StatementTokens$Token$Kind" "SYMBOL" "Lcom/example/rillstream/rillstream/mysql/StatementTokens$Token$Kind;" (.ref aY)) (n1 : aQ ≠ aW) (n2 : aS ≠ aW) (n3 : aS ≠ aQ) (n4 : aY ≠ aW) (n5 : aY ≠ aQ) (S_cs : Sta Z h0 "java/lang/String" "COMPACT_STRINGS" "Z" (.int cs)) (hcs : ¬ cs = 0) :
    MetFree l x (head1 (Jvm.Cond.code x code maxLocals ret :: ws) room_1) (fun a U => a = #[(.int p0), (.int p1)] ∧ Z.Warmed39 U.vm ∧ U.heap = h0) (fun _ _ _ _ _ => True) (fun _ U o U' => ∃ v L, o = .returned v ∧ Q_rm0 Z p0 p1 aW aQ aS aY cs h0 n0 v U'.heap L ∧ FrameEnd U o U' L room_1.cells room_1.slots) := by
  refine MetFree.of_bodySF (plainFor_of_name pn_0) hisR ?_
  intro p e s m args below meth c s₁ Bd hml0 hP hK
  obtain ⟨rfl, hZ, hh⟩ := hP
  have hx := Bd.exec
  have hby := Bd.bytes
  have hml : c.maxLocals = 6 := hml0
  have hown : s.vm.findClass "com/example/rillstream/rillstream/mysql/TokenIsNamePinLaw" = some m.cls := findClass_of_methodNamed Bd.named
  have hnm := (name_of_methodNamed Bd.named Bd.method).1
  have X0 : Stand p l e room_1 s m #[(.int p0), (.int p1)] below meth c s₁ [] 0 0 := Stand.of_body Bd
  have e0 : s₁.heap = h0 := by rw [← hh, Bd.state]; rfl
  have N0 := Fr.nil n0
  have pre0 : ∀ t, Steps p.tables e below (s₁.setTop (mkF m 0 #[.val (.int p0), .val (.int p1), .unset, .unset, .unset, .unset] [])) t → Steps p.tables e below (s₁.setTop (entryFrame m #[(.int p0), (.int p1)] maxLocals)) t := fun t k => castTop (ef_rm0 m p0 p1) k
  have st1 : ∀ target, Steps p.tables e below (s₁.setTop (mkF m 4 #[.val (.int p0), .val (.int p1), .val (.int (p0 &&& (3 : Int32))), .unset, .unset, .unset] [])) target → Steps p.tables e below (s₁.setTop (mkF m 0 #[.val (.int p0), .val (.int p1), .unset, .unset, .unset, .unset] [])) target := by
    intro target kt
    show Steps p.tables e below (s₁.setTop (mkF m 0 #[.val (.int p0), .val (.int p1), .unset, .unset, .unset, .unset] [])) _
    refine XS.iloadN X0.here hx rfl (hb hby at_0) rfl ?_
    show Steps p.tables e below (s₁.setTop (mkF m 1 #[.val (.int p0), .val (.int p1), .unset, .unset, .unset, .unset] [(.int p0)])) _
    refine XS.iconst X0.here hx rfl (hb hby at_1) ?_
    show Steps p.tables e below (s₁.setTop (mkF m 2 #[.val (.int p0), .val (.int p1), .unset, .unset, .unset, .unset] [(.int (3 : Int32)), (.int p0)])) _
    refine XS.iand X0.here hx rfl (hb hby at_2) rfl ?_
    show Steps p.tables e below (s₁.setTop (mkF m 3 #[.val (.int p0), .val (.int p1), .unset, .unset, .unset, .unset] [(.int (p0 &&& (3 : Int32)))])) _
    refine XS.istoreN X0.here hx rfl (hb hby at_3) rfl (l' := #[.val (.int p0), .val (.int p1), .val (.int (p0 &&& (3 : Int32))), .unset, .unset, .unset]) rfl ?_
    exact kt
  obtain ⟨i, hi⟩ : ∃ z : Int32, z = (p0 &&& (3 : Int32)) := ⟨_, rfl⟩
  rw [← hi] at st1
  obtain ⟨T2, h2, X2, e2, E2, A2, D2, -, st2⟩ := newO X0 hx hZ hown (hw _ (List.mem_of_getElem? (i := 0) rfl)) (hw _ (List.mem_of_getElem? (i := 1) rfl)) (hw _ (List.mem_of_getElem? (i := 2) rfl)) e0 (g := (mkF m 4 #[.val (.int p0), .val (.int p1), .val (.int i), .unset, .unset, .unset] [])) rfl (hb hby at_4) (by decide) (by decide)
  obtain ⟨b, g2⟩ : ∃ z, z = h0.size := ⟨_, rfl⟩
  rw [← g2] at A2 D2 st2
  have g_b : n0 ≤ b := Nat.le_trans Z0 (Nat.le_of_eq g2.symm)
  have S_aW_2 := S_aW.ext E2
  have S_aQ_2 := S_aQ.ext E2
  have S_aS_2 := S_aS.ext E2
  have S_aY_2 := S_aY.ext E2
  have S_cs_2 := S_cs.ext E2
  have Z_2 : n0 ≤ h2.size := Nat.le_trans Z0 E2.1
  have E_b : Exa Z h2 b "com/example/rillstream/rillstream/mysql/StatementTokens$Token" := A2
  have F_kind_b : Fld Z h2 b "com/example/rillstream/rillstream/mysql/StatementTokens$Token" "kind" "Lcom/example/rillstream/rillstream/mysql/StatementTokens$Token$Kind;" .null := D2 (Or.inr (hw _ (List.mem_of_getElem? (i := 46) rfl))) (ty := (.object "com/example/rillstream/rillstream/mysql/StatementTokens$Token$Kind")) (by decide)
  have F_text_b : Fld Z h2 b "com/example/rillstream/rillstream/mysql/StatementTokens$Token" "text" "Ljava/lang/String;" .null := D2 (Or.inr (hw _ (List.mem_of_getElem? (i := 48) rfl))) (ty := (.object "java/lang/String")) (by decide)
  have st3 : ∀ target, Steps p.tables e below (T2.setTop (mkF m 9 #[.val (.int p0), .val (.int p1), .val (.int i), .unset, .unset, .unset] [(.int i), (.ref b), (.ref b)])) target → Steps p.tables e below (T2.setTop (mkF m 7 #[.val (.int p0), .val (.int p1), .val (.int i), .unset, .unset, .unset] [(.ref b)])) target := by
    intro target kt
    show Steps p.tables e below (T2.setTop (mkF m 7 #[.val (.int p0), .val (.int p1), .val (.int i), .unset, .unset, .unset] [(.ref b)])) _
    refine XS.dup X2.here hx rfl (hb hby at_7) rfl rfl ?_
    show Steps p.tables e below (T2.setTop (mkF m 8 #[.val (.int p0), .val (.int p1), .val (.int i), .unset, .unset, .unset] [(.ref b), (.ref b)])) _
    refine XS.iloadN X2.here hx rfl (hb hby at_8) rfl ?_
    exact kt
  obtain ⟨_, _, ⟨T4, L4, k4, n4⟩, -, X4, ⟨Lc4, hQ4, l4, y4, z4⟩, st4⟩ := Jvm.LawKit.callS X2 hx (y := (⟨"com/example/rillstream/rillstream/mysql/TokenIsNamePinLaw", "kindOf", "(I)Lcom/example/rillstream/rillstream/mysql/StatementTokens$Token$Kind;"⟩ : MethodName)) hown (mvT hZ (hw _ (List.mem_of_getElem? (i := 3) rfl))) (mvT hZ (hw _ (List.mem_of_getElem? (i := 4) rfl))) (mvT hZ (hw _ (List.mem_of_getElem? (i := 5) rfl))) (mvT hZ (hw _ (List.mem_of_getElem? (i := 6) rfl))) (by decide) (backOf (W := 2) (rm1 l Z a0 hw [] i aW aQ aS aY h2 n0 Z_2 S_aW_2 S_aQ_2 S_aS_2 S_aY_2) hZ (hw _ (List.mem_of_getElem? (i := 6) rfl)) (hw _ (List.mem_of_getElem? (i := 5) rfl)) (by decide) (by decide)) (g := (mkF m 9 #[.val (.int p0), .val (.int p1), .val (.int i), .unset, .unset, .unset] [(.int i), (.ref b), (.ref b)])) rfl (by rw [hml]; rfl) (argsL := [(.int i)]) (rest := [(.ref b), (.ref b)]) (lenOf pd_0 rfl) rfl (by show 2 * 0 + _ ≤ _; exact Nat.le_of_eq rfl) (hb hby at_9) (fun _ _ => ⟨rfl, e2, (by decide : 1 + 0 ≤ _), (by decide : 2 + 0 ≤ _)⟩)
  dsimp only [Pt.U, Pt.locs, Pt.cells, Pt.slots] at X4 l4 y4 z4 st4 hQ4
  subst l4 y4 z4
  obtain ⟨rfl, Nq4, e4⟩ := hQ4
  have N4 := Fr.app N0 Nq4
  obtain ⟨kk, hkk⟩ : ∃ z : Addr, z = (own_kind i aW aQ aS aY) := ⟨_, rfl⟩
  rw [← hkk] at st4
  have st5 : ∀ target, Steps p.tables e below (T4.setTop (mkF m 18 #[.val (.int p0), .val (.int p1), .val (.int i), .unset, .unset, .unset] [(.int ((p1 &&& (255 : Int32)).toUInt32.toUInt16.toUInt32.toInt32)), (.ref kk), (.ref b), (.ref b)])) target → Steps p.tables e below (T4.setTop (mkF m 12 #[.val (.int p0), .val (.int p1), .val (.int i), .unset, .unset, .unset] [(.ref kk), (.ref b), (.ref b)])) target := by
    intro target kt
    show Steps p.tables e below (T4.setTop (mkF m 12 #[.val (.int p0), .val (.int p1), .val (.int i), .unset, .unset, .unset] [(.ref kk), (.ref b), (.ref b)])) _
    refine XS.iloadN X4.here hx rfl (hb hby at_12) rfl ?_
    show Steps p.tables e below (T4.setTop (mkF m 13 #[.val (.int p0), .val (.int p1), .val (.int i), .unset, .unset, .unset] [(.int p1), (.ref kk), (.ref b), (.ref b)])) _
    refine XS.sipush X4.here hx rfl (hb hby at_13) ?_
    show Steps p.tables e below (T4.setTop (mkF m 16 #[.val (.int p0), .val (.int p1), .val (.int i), .unset, .unset, .unset] [(.int (255 : Int32)), (.int p1), (.ref kk), (.ref b), (.ref b)])) _
    refine XS.iand X4.here hx rfl (hb hby at_16) rfl ?_
    show Steps p.tables e below (T4.setTop (mkF m 17 #[.val (.int p0), .val (.int p1), .val (.int i), .unset, .unset, .unset] [(.int (p1 &&& (255 : Int32))), (.ref kk), (.ref b), (.ref b)])) _
    refine XS.i2c X4.here hx rfl (hb hby at_17) rfl ?_
    exact kt
  obtain ⟨_, _, ⟨T6, L6, k6, n6⟩, -, X6, ⟨Lc6, hQ6, l6, y6, z6⟩, st6⟩ := Jvm.LawKit.callS X4 hx (y := (⟨"java/lang/String", "valueOf", "(C)Ljava/lang/String;"⟩ : MethodName)) hown (mvT hZ (hw _ (List.mem_of_getElem? (i := 10) rfl))) (mvT hZ (hw _ (List.mem_of_getElem? (i := 11) rfl))) (mvT hZ (hw _ (List.mem_of_getElem? (i := 12) rfl))) (mvT hZ (hw _ (List.mem_of_getElem? (i := 13) rfl))) (by decide) (backOf (W := 3) (rm2 l Z a0 hw [] ((p1 &&& (255 : Int32)).toUInt32.toUInt16.toUInt32.toInt32) cs h2 n0 Z_2 S_cs_2 hcs (own_char p1)) hZ (hw _ (List.mem_of_getElem? (i := 13) rfl)) (hw _ (List.mem_of_getElem? (i := 12) rfl)) (by decide) (by decide)) (g := (mkF m 18 #[.val (.int p0), .val (.int p1), .val (.int i), .unset, .unset, .unset] [(.int ((p1 &&& (255 : Int32)).toUInt32.toUInt16.toUInt32.toInt32)), (.ref kk), (.ref b), (.ref b)])) rfl (by rw [hml]; rfl) (argsL := [(.int ((p1 &&& (255 : Int32)).toUInt32.toUInt16.toUInt32.toInt32))]) (rest := [(.ref kk), (.ref b), (.ref b)]) (lenOf pd_1 rfl) rfl (by show 2 * 0 + _ ≤ _; exact Nat.le_of_eq rfl) (hb hby at_18) (fun _ _ => ⟨rfl, e4, (by decide : 1 + 2 ≤ _), (by decide : 2 + 5 ≤ _)⟩)
  dsimp only [Pt.U, Pt.locs, Pt.cells, Pt.slots] at X6 l6 y6 z6 st6 hQ6
  subst l6 y6 z6
  obtain ⟨t6, rfl, Nq6, K6, sz6, Et⟩ := hQ6
  have N6 := Fr.app N4 Nq6
  have g_t6 : n0 ≤ t6 := Nat.le_trans Z_2 sz6
  have ne_b_t6 : b ≠ t6 := Nat.ne_of_lt (Nat.lt_of_lt_of_le E_b.lt sz6)
  have S_aW_6 := own_sta_keep S_aW_2 K6 all0
  have S_aQ_6 := own_sta_keep S_aQ_2 K6 all0
  have S_aS_6 := own_sta_keep S_aS_2 K6 all0
  have S_aY_6 := own_sta_keep S_aY_2 K6 all0
  have S_cs_6 := own_sta_keep S_cs_2 K6 all0
  have E_b_6 := E_b.keep K6
  have F_kind_b_6 := F_kind_b.keep K6 nin0
  have F_text_b_6 := F_text_b.keep K6 nin0
  have Z_6 : n0 ≤ T6.heap.size := Nat.le_trans Z_2 K6.1
  obtain ⟨_, _, ⟨T7, L7, k7, n7⟩, -, X7, ⟨Lc7, hQ7, l7, y7, z7⟩, st7⟩ := X6.specialBack hx (y := (⟨"com/example/rillstream/rillstream/mysql/StatementTokens$Token", "<init>", "(Lcom/example/rillstream/rillstream/mysql/StatementTokens$Token$Kind;Ljava/lang/String;)V"⟩ : MethodName)) rfl hown (mvT hZ (hw _ (List.mem_of_getElem? (i := 36) rfl))) (mvT hZ (hw _ (List.mem_of_getElem? (i := 37) rfl))) (mvT hZ (hw _ (List.mem_of_getElem? (i := 38) rfl))) (by decide) (backOf (W := 1) (rm7 l Z a0 hw [] b kk t6  T6.heap n0 Z_6 F_kind_b_6 F_text_b_6 E_b_6 g_b) hZ (hw _ (List.mem_of_getElem? (i := 38) rfl)) (hw _ (List.mem_of_getElem? (i := 2) rfl)) (by decide) (by decide)) (g := (mkF m 21 #[.val (.int p0), .val (.int p1), .val (.int i), .unset, .unset, .unset] [(.ref t6), (.ref kk), (.ref b), (.ref b)])) rfl (by rw [hml]; rfl) (Steps.refl _) (a := b) (argsL := [(.ref kk), (.ref t6)]) (rest := [(.ref b)]) (lenOf pd_6 rfl) rfl (by show 2 * 0 + _ ≤ _; exact Nat.le_of_eq rfl) (hb hby at_21) (fun _ _ => ⟨rfl, rfl, (by decide : 3 + 0 ≤ _), (by decide : 7 + 0 ≤ _)⟩)
  dsimp only [Pt.U, Pt.locs, Pt.cells, Pt.slots] at X7 l7 y7 z7 st7 hQ7
  subst l7 y7 z7
  obtain ⟨rfl, Nq7, K7, E_b_i, F_kind_b_i, F_text_b_i⟩ := hQ7
  have N7 := Fr.app N6 Nq7
  have S_aW_7 := own_sta_keep S_aW_6 K7 (allS E_b_6.nostat all0)
  have S_aQ_7 := own_sta_keep S_aQ_6 K7 (allS E_b_6.nostat all0)
  have S_aS_7 := own_sta_keep S_aS_6 K7 (allS E_b_6.nostat all0)
  have S_aY_7 := own_sta_keep S_aY_6 K7 (allS E_b_6.nostat all0)
  have S_cs_7 := own_sta_keep S_cs_6 K7 (allS E_b_6.nostat all0)
  have E_b_7 := E_b_6.keep K7
  have Et_7 := Et.keep K7
  have Z_7 : n0 ≤ T7.heap.size := Nat.le_trans Z_6 K7.1
  have st8 : ∀ target, Steps p.tables e below (T7.setTop (mkF m 25 #[.val (.int p0), .val (.int p1), .val (.int i), .val (.ref b), .unset, .unset] [])) target → Steps p.tables e below (T7.setTop (mkF m 24 #[.val (.int p0), .val (.int p1), .val (.int i), .unset, .unset, .unset] [(.ref b)])) target := by
    intro target kt
    show Steps p.tables e below (T7.setTop (mkF m 24 #[.val (.int p0), .val (.int p1), .val (.int i), .unset, .unset, .unset] [(.ref b)])) _
    refine XS.astoreN X7.here hx rfl (hb hby at_24) rfl rfl (l' := #[.val (.int p0), .val (.int p1), .val (.int i), .val (.ref b), .unset, .unset]) rfl ?_
    exact kt
  obtain ⟨ex, hex, st9⟩ : ∃ (ex : Int32), ex = (if i = (0 : Int32) then (1 : Int32) else (if i = (1 : Int32) then (1 : Int32) else (0 : Int32))) ∧ ∀ target, Steps p.tables e below (T7.setTop (mkF m 39 #[.val (.int p0), .val (.int p1), .val (.int i), .val (.ref b), .unset, .unset] [(.int ex)])) target → Steps p.tables e below (T7.setTop (mkF m 25 #[.val (.int p0), .val (.int p1), .val (.int i), .val (.ref b), .unset, .unset] [])) target := by
    refine ⟨_, rfl, fun target kt => ?_⟩
    show Steps p.tables e below (T7.setTop (mkF m 25 #[.val (.int p0), .val (.int p1), .val (.int i), .val (.ref b), .unset, .unset] [])) _
    refine XS.iloadN X7.here hx rfl (hb hby at_25) rfl ?_
    by_cases hc26 : i = (0 : Int32)
    · rw [if_pos hc26] at kt
      show Steps p.tables e below (T7.setTop (mkF m 26 #[.val (.int p0), .val (.int p1), .val (.int i), .val (.ref b), .unset, .unset] [(.int i)])) _
      refine XS.ifYes X7.here hx rfl (pc0 := 26) (pc' := 34) rfl (hb hby at_26) rfl ((if0 _ _).trans (teq hc26).1) (by decide) (by decide) ?_
      show Steps p.tables e below (T7.setTop (mkF m 34 #[.val (.int p0), .val (.int p1), .val (.int i), .val (.ref b), .unset, .unset] [])) _
      refine XS.iconst X7.here hx rfl (hb hby at_34) ?_
      show Steps p.tables e below (T7.setTop (mkF m 35 #[.val (.int p0), .val (.int p1), .val (.int i), .val (.ref b), .unset, .unset] [(.int (1 : Int32))])) _
      refine XS.goto X7.here hx rfl (pc0 := 35) (pc' := 39) rfl (hb hby at_35) (by decide) (by decide) ?_
      exact kt
    · rw [if_neg hc26] at kt
      show Steps p.tables e below (T7.setTop (mkF m 26 #[.val (.int p0), .val (.int p1), .val (.int i), .val (.ref b), .unset, .unset] [(.int i)])) _
      refine XS.ifNo X7.here hx rfl (hb hby at_26) rfl ((if0 _ _).trans (feq hc26).1) ?_
      show Steps p.tables e below (T7.setTop (mkF m 29 #[.val (.int p0), .val (.int p1), .val (.int i), .val (.ref b), .unset, .unset] [])) _
      refine XS.iloadN X7.here hx rfl (hb hby at_29) rfl ?_
      show Steps p.tables e below (T7.setTop (mkF m 30 #[.val (.int p0), .val (.int p1), .val (.int i), .val (.ref b), .unset, .unset] [(.int i)])) _
      refine XS.iconst X7.here hx rfl (hb hby at_30) ?_
      by_cases hc31 : i = (1 : Int32)
      · rw [if_pos hc31] at kt
        show Steps p.tables e below (T7.setTop (mkF m 31 #[.val (.int p0), .val (.int p1), .val (.int i), .val (.ref b), .unset, .unset] [(.int (1 : Int32)), (.int i)])) _
        refine XS.icmpNo X7.here hx rfl (hb hby at_31) rfl (teq hc31).2 ?_
        show Steps p.tables e below (T7.setTop (mkF m 34 #[.val (.int p0), .val (.int p1), .val (.int i), .val (.ref b), .unset, .unset] [])) _
        refine XS.iconst X7.here hx rfl (hb hby at_34) ?_
        show Steps p.tables e below (T7.setTop (mkF m 35 #[.val (.int p0), .val (.int p1), .val (.int i), .val (.ref b), .unset, .unset] [(.int (1 : Int32))])) _
        refine XS.goto X7.here hx rfl (pc0 := 35) (pc' := 39) rfl (hb hby at_35) (by decide) (by decide) ?_
        exact kt
      · rw [if_neg hc31] at kt
        show Steps p.tables e below (T7.setTop (mkF m 31 #[.val (.int p0), .val (.int p1), .val (.int i), .val (.ref b), .unset, .unset] [(.int (1 : Int32)), (.int i)])) _
        refine XS.icmpYes X7.here hx rfl (pc0 := 31) (pc' := 38) rfl (hb hby at_31) rfl (feq hc31).2 (by decide) (by decide) ?_
        show Steps p.tables e below (T7.setTop (mkF m 38 #[.val (.int p0), .val (.int p1), .val (.int i), .val (.ref b), .unset, .unset] [])) _
        refine XS.iconst X7.here hx rfl (hb hby at_38) ?_
        exact kt
  have st10 : ∀ target, Steps p.tables e below (T7.setTop (mkF m 41 #[.val (.int p0), .val (.int p1), .val (.int i), .val (.ref b), .val (.int ex), .unset] [])) target → Steps p.tables e below (T7.setTop (mkF m 39 #[.val (.int p0), .val (.int p1), .val (.int i), .val (.ref b), .unset, .unset] [(.int ex)])) target := by
    intro target kt
    show Steps p.tables e below (T7.setTop (mkF m 39 #[.val (.int p0), .val (.int p1), .val (.int i), .val (.ref b), .unset, .unset] [(.int ex)])) _
    refine XS.istore X7.here hx rfl (hb hby at_39) rfl (l' := #[.val (.int p0), .val (.int p1), .val (.int i), .val (.ref b), .val (.int ex), .unset]) rfl ?_
    exact kt
  have hcase : (i = 0 ∧ kk = aW) ∨ (i = 1 ∧ kk = aQ) ∨ (¬ i = 0 ∧ ¬ i = 1 ∧ kk ≠ aW ∧ kk ≠ aQ) := by
    by_cases u0 : i = 0
    · exact Or.inl ⟨u0, by rw [hkk, own_kind, if_pos u0]⟩
    · by_cases u1 : i = 1
      · exact Or.inr (Or.inl ⟨u1, by rw [hkk, own_kind, if_neg u0, if_pos u1]⟩)
      · refine Or.inr (Or.inr ⟨u0, u1, ?_⟩)
        rw [hkk, own_kind, if_neg u0, if_neg u1]
        by_cases u2 : i = 2
        · rw [if_pos u2]; exact ⟨n2, n3⟩
        · rw [if_neg u2]; exact ⟨n4, n5⟩
  rcases hcase with ⟨u0, u1⟩ | ⟨u0, u1⟩ | ⟨u0, u0', u1, u2⟩
  · have hex' : ex = 1 := by rw [hex]; rw [if_pos u0]
    have hn' : own_name kk aW aQ = 1 := by unfold own_name; rw [u1, if_pos rfl]
    have st11 : ∀ target, Steps p.tables e below (T7.setTop (mkF m 42 #[.val (.int p0), .val (.int p1), .val (.int i), .val (.ref b), .val (.int ex), .unset] [(.ref b)])) target → Steps p.tables e below (T7.setTop (mkF m 41 #[.val (.int p0), .val (.int p1), .val (.int i), .val (.ref b), .val (.int ex), .unset] [])) target := by
      intro target kt
      show Steps p.tables e below (T7.setTop (mkF m 41 #[.val (.int p0), .val (.int p1), .val (.int i), .val (.ref b), .val (.int ex), .unset] [])) _
      refine XS.aloadN X7.here hx rfl (hb hby at_41) rfl rfl ?_
      exact kt
    obtain ⟨cq12, kq12, qv12a, qv12b, qv12c⟩ := isOf hZ rfl E_b_i
    obtain ⟨_, _, ⟨T12, L12, k12, n12⟩, -, X12, ⟨Lc12, hQ12, l12, y12, z12⟩, st12⟩ := X7.virtualBack hx (y := (⟨"com/example/rillstream/rillstream/mysql/StatementTokens$Token", "isName", "()Z"⟩ : MethodName)) (z := (⟨"com/example/rillstream/rillstream/mysql/StatementTokens$Token", "isName", "()Z"⟩ : MethodName)) hown (mvT hZ (hw _ (List.mem_of_getElem? (i := 49) rfl))) (mvT hZ (hw _ (List.mem_of_getElem? (i := 50) rfl))) (notFace_of_selects (args := #[]) (mvT hZ (hw _ (List.mem_of_getElem? (i := 52) rfl)))) (mvT hZ (hw _ (List.mem_of_getElem? (i := 52) rfl))) (mvT hZ (hw _ (List.mem_of_getElem? (i := 51) rfl))) (by decide) (backOf (W := 0) (rm9 l Z a0 hw [] b kk aW aQ T7.heap n0 Z_7 F_kind_b_i S_aW_7 S_aQ_7) hZ (hw _ (List.mem_of_getElem? (i := 53) rfl)) (hw _ (List.mem_of_getElem? (i := 2) rfl)) (by decide) (by decide)) qv12a qv12c (g := (mkF m 42 #[.val (.int p0), .val (.int p1), .val (.int i), .val (.ref b), .val (.int ex), .unset] [(.ref b)])) rfl (by rw [hml]; rfl) (Steps.refl _) (argsL := []) (rest := []) (lenOf pd_7 rfl) rfl (by show 2 * 0 + _ ≤ _; exact Nat.le_of_eq rfl) (hb hby at_42) (fun _ _ => ⟨rfl, rfl, (by decide : 3 + 0 ≤ _), (by decide : 7 + 0 ≤ _)⟩)
    dsimp only [Pt.U, Pt.locs, Pt.cells, Pt.slots] at X12 l12 y12 z12 st12 hQ12
    subst l12 y12 z12
    obtain ⟨rfl, Nq12, e12⟩ := hQ12
    have N12 := Fr.app N7 Nq12
    rw [hn'] at st12
    have st13 : ∀ target, Steps p.tables e below (T12.setTop (mkF m 57 #[.val (.int p0), .val (.int p1), .val (.int i), .val (.ref b), .val (.int ex), .val (.int (1 : Int32))] [(.ref b), (.int (1 : Int32))])) target → Steps p.tables e below (T12.setTop (mkF m 45 #[.val (.int p0), .val (.int p1), .val (.int i), .val (.ref b), .val (.int ex), .unset] [(.int (1 : Int32))])) target := by
      intro target kt
      show Steps p.tables e below (T12.setTop (mkF m 45 #[.val (.int p0), .val (.int p1), .val (.int i), .val (.ref b), .val (.int ex), .unset] [(.int (1 : Int32))])) _
      refine XS.istore X12.here hx rfl (hb hby at_45) rfl (l' := #[.val (.int p0), .val (.int p1), .val (.int i), .val (.ref b), .val (.int ex), .val (.int (1 : Int32))]) rfl ?_
      show Steps p.tables e below (T12.setTop (mkF m 47 #[.val (.int p0), .val (.int p1), .val (.int i), .val (.ref b), .val (.int ex), .val (.int (1 : Int32))] [])) _
      refine XS.iload X12.here hx rfl (hb hby at_47) rfl ?_
      show Steps p.tables e below (T12.setTop (mkF m 49 #[.val (.int p0), .val (.int p1), .val (.int i), .val (.ref b), .val (.int ex), .val (.int (1 : Int32))] [(.int (1 : Int32))])) _
      refine XS.iload X12.here hx rfl (hb hby at_49) rfl ?_
      show Steps p.tables e below (T12.setTop (mkF m 51 #[.val (.int p0), .val (.int p1), .val (.int i), .val (.ref b), .val (.int ex), .val (.int (1 : Int32))] [(.int ex), (.int (1 : Int32))])) _
      refine XS.icmpNo X12.here hx rfl (hb hby at_51) rfl (teq hex'.symm).2 ?_
      show Steps p.tables e below (T12.setTop (mkF m 54 #[.val (.int p0), .val (.int p1), .val (.int i), .val (.ref b), .val (.int ex), .val (.int (1 : Int32))] [])) _
      refine XS.iload X12.here hx rfl (hb hby at_54) rfl ?_
      show Steps p.tables e below (T12.setTop (mkF m 56 #[.val (.int p0), .val (.int p1), .val (.int i), .val (.ref b), .val (.int ex), .val (.int (1 : Int32))] [(.int (1 : Int32))])) _
      refine XS.aloadN X12.here hx rfl (hb hby at_56) rfl rfl ?_
      exact kt
    obtain ⟨cq14, kq14, qv14a, qv14b, qv14c⟩ := isOf hZ e12 E_b_i
    obtain ⟨_, _, ⟨T14, L14, k14, n14⟩, -, X14, ⟨Lc14, hQ14, l14, y14, z14⟩, st14⟩ := X12.virtualBack hx (y := (⟨"com/example/rillstream/rillstream/mysql/StatementTokens$Token", "isWord", "()Z"⟩ : MethodName)) (z := (⟨"com/example/rillstream/rillstream/mysql/StatementTokens$Token", "isWord", "()Z"⟩ : MethodName)) hown (mvT hZ (hw _ (List.mem_of_getElem? (i := 55) rfl))) (mvT hZ (hw _ (List.mem_of_getElem? (i := 56) rfl))) (notFace_of_selects (args := #[]) (mvT hZ (hw _ (List.mem_of_getElem? (i := 58) rfl)))) (mvT hZ (hw _ (List.mem_of_getElem? (i := 58) rfl))) (mvT hZ (hw _ (List.mem_of_getElem? (i := 57) rfl))) (by decide) (backOf (W := 1) (rm10 l Z a0 hw [] b kk aW T7.heap n0 Z_7 F_kind_b_i S_aW_7) hZ (hw _ (List.mem_of_getElem? (i := 59) rfl)) (hw _ (List.mem_of_getElem? (i := 2) rfl)) (by decide) (by decide)) qv14a qv14c (g := (mkF m 57 #[.val (.int p0), .val (.int p1), .val (.int i), .val (.ref b), .val (.int ex), .val (.int (1 : Int32))] [(.ref b), (.int (1 : Int32))])) rfl (by rw [hml]; rfl) (Steps.refl _) (argsL := []) (rest := [(.int (1 : Int32))]) (lenOf pd_7 rfl) rfl (by show 2 * 0 + _ ≤ _; exact Nat.le_of_eq rfl) (hb hby at_57) (fun _ _ => ⟨rfl, e12, (by decide : 3 + 0 ≤ _), (by decide : 7 + 0 ≤ _)⟩)
    dsimp only [Pt.U, Pt.locs, Pt.cells, Pt.slots] at X14 l14 y14 z14 st14 hQ14
    subst l14 y14 z14
    obtain ⟨rfl, Nq14, e14⟩ := hQ14
    have N14 := Fr.app N12 Nq14
    rw [if_pos (by rw [u1])] at st14
    have st15 : ∀ target, Steps p.tables e below (T14.setTop (mkF m 83 #[.val (.int p0), .val (.int p1), .val (.int i), .val (.ref b), .val (.int ex), .val (.int (1 : Int32))] [(.int (1 : Int32))])) target → Steps p.tables e below (T14.setTop (mkF m 60 #[.val (.int p0), .val (.int p1), .val (.int i), .val (.ref b), .val (.int ex), .val (.int (1 : Int32))] [(.int (1 : Int32)), (.int (1 : Int32))])) target := by
      intro target kt
      show Steps p.tables e below (T14.setTop (mkF m 60 #[.val (.int p0), .val (.int p1), .val (.int i), .val (.ref b), .val (.int ex), .val (.int (1 : Int32))] [(.int (1 : Int32)), (.int (1 : Int32))])) _
      refine XS.ifYes X14.here hx rfl (pc0 := 60) (pc' := 70) rfl (hb hby at_60) rfl ((if0 _ _).trans (feq (by decide : ¬ ((1 : Int32) = (0 : Int32)))).2) (by decide) (by decide) ?_
      show Steps p.tables e below (T14.setTop (mkF m 70 #[.val (.int p0), .val (.int p1), .val (.int i), .val (.ref b), .val (.int ex), .val (.int (1 : Int32))] [(.int (1 : Int32))])) _
      refine XS.iconst X14.here hx rfl (hb hby at_70) ?_
      show Steps p.tables e below (T14.setTop (mkF m 71 #[.val (.int p0), .val (.int p1), .val (.int i), .val (.ref b), .val (.int ex), .val (.int (1 : Int32))] [(.int (1 : Int32)), (.int (1 : Int32))])) _
      refine XS.goto X14.here hx rfl (pc0 := 71) (pc' := 75) rfl (hb hby at_71) (by decide) (by decide) ?_
      show Steps p.tables e below (T14.setTop (mkF m 75 #[.val (.int p0), .val (.int p1), .val (.int i), .val (.ref b), .val (.int ex), .val (.int (1 : Int32))] [(.int (1 : Int32)), (.int (1 : Int32))])) _
      refine XS.icmpNo X14.here hx rfl (hb hby at_75) rfl (teq (rfl : (1 : Int32) = (1 : Int32))).2 ?_
      show Steps p.tables e below (T14.setTop (mkF m 78 #[.val (.int p0), .val (.int p1), .val (.int i), .val (.ref b), .val (.int ex), .val (.int (1 : Int32))] [])) _
      refine XS.iconst X14.here hx rfl (hb hby at_78) ?_
      show Steps p.tables e below (T14.setTop (mkF m 79 #[.val (.int p0), .val (.int p1), .val (.int i), .val (.ref b), .val (.int ex), .val (.int (1 : Int32))] [(.int (1 : Int32))])) _
      refine XS.goto X14.here hx rfl (pc0 := 79) (pc' := 83) rfl (hb hby at_79) (by decide) (by decide) ?_
      exact kt
    obtain ⟨fs, hr, hrun, hended, hW, hsame⟩ := X14.leave (v := some (.int (1 : Int32))) (fun h => by rw [Bd.returns] at h; cases h)
    refine ⟨_, _, pre0 _ (st1 _ (st2 _ (st3 _ (st4 _ (st5 _ (st6 _ (st7.trans (st8 _ (st9 _ (st10 _ (st11 _ (st12.trans (st13 _ (st14.trans (st15 _ ?_))))))))))))))), hrun, hended, _, _, rfl, ?_, ⟨_, rfl⟩, hW, hsame.mono (by decide) (by decide)⟩
    · show Steps p.tables e below (T14.setTop (mkF m 83 #[.val (.int p0), .val (.int p1), .val (.int i), .val (.ref b), .val (.int ex), .val (.int (1 : Int32))] [(.int (1 : Int32))])) _
      exact retN X14 hx (t := .boolean) Bd.returns (by simp) (hb hby at_83) hr
    · show Q_rm0 Z p0 p1 aW aQ aS aY cs h0 n0 _ T14.heap _
      rw [e14]
      exact ⟨rfl, N14⟩
  · have hex' : ex = 1 := by rw [hex]; rw [if_neg (by rw [u0]; decide), if_pos u0]
    have hn' : own_name kk aW aQ = 1 := by unfold own_name; rw [u1, if_neg (fun q => n1 (Value.ref.inj q)), if_pos rfl]
    have st16 : ∀ target, Steps p.tables e below (T7.setTop (mkF m 42 #[.val (.int p0), .val (.int p1), .val (.int i), .val (.ref b), .val (.int ex), .unset] [(.ref b)])) target → Steps p.tables e below (T7.setTop (mkF m 41 #[.val (.int p0), .val (.int p1), .val (.int i), .val (.ref b), .val (.int ex), .unset] [])) target := by
      intro target kt
      show Steps p.tables e below (T7.setTop (mkF m 41 #[.val (.int p0), .val (.int p1), .val (.int i), .val (.ref b), .val (.int ex), .unset] [])) _
      refine XS.aloadN X7.here hx rfl (hb hby at_41) rfl rfl ?_
      exact kt
    obtain ⟨cq17, kq17, qv17a, qv17b, qv17c⟩ := isOf hZ rfl E_b_i
    obtain ⟨_, _, ⟨T17, L17, k17, n17⟩, -, X17, ⟨Lc17, hQ17, l17, y17, z17⟩, st17⟩ := X7.virtualBack hx (y := (⟨"com/example/rillstream/rillstream/mysql/StatementTokens$Token", "isName", "()Z"⟩ : MethodName)) (z := (⟨"com/example/rillstream/rillstream/mysql/StatementTokens$Token", "isName", "()Z"⟩ : MethodName)) hown (mvT hZ (hw _ (List.mem_of_getElem? (i := 49) rfl))) (mvT hZ (hw _ (List.mem_of_getElem? (i := 50) rfl))) (notFace_of_selects (args := #[]) (mvT hZ (hw _ (List.mem_of_getElem? (i := 52) rfl)))) (mvT hZ (hw _ (List.mem_of_getElem? (i := 52) rfl))) (mvT hZ (hw _ (List.mem_of_getElem? (i := 51) rfl))) (by decide) (backOf (W := 0) (rm9 l Z a0 hw [] b kk aW aQ T7.heap n0 Z_7 F_kind_b_i S_aW_7 S_aQ_7) hZ (hw _ (List.mem_of_getElem? (i := 53) rfl)) (hw _ (List.mem_of_getElem? (i := 2) rfl)) (by decide) (by decide)) qv17a qv17c (g := (mkF m 42 #[.val (.int p0), .val (.int p1), .val (.int i), .val (.ref b), .val (.int ex), .unset] [(.ref b)])) rfl (by rw [hml]; rfl) (Steps.refl _) (argsL := []) (rest := []) (lenOf pd_7 rfl) rfl (by show 2 * 0 + _ ≤ _; exact Nat.le_of_eq rfl) (hb hby at_42) (fun _ _ => ⟨rfl, rfl, (by decide : 3 + 0 ≤ _), (by decide : 7 + 0 ≤ _)⟩)
    dsimp only [Pt.U, Pt.locs, Pt.cells, Pt.slots] at X17 l17 y17 z17 st17 hQ17
    subst l17 y17 z17
    obtain ⟨rfl, Nq17, e17⟩ := hQ17
    have N17 := Fr.app N7 Nq17
    rw [hn'] at st17
    have st18 : ∀ target, Steps p.tables e below (T17.setTop (mkF m 57 #[.val (.int p0), .val (.int p1), .val (.int i), .val (.ref b), .val (.int ex), .val (.int (1 : Int32))] [(.ref b), (.int (1 : Int32))])) target → Steps p.tables e below (T17.setTop (mkF m 45 #[.val (.int p0), .val (.int p1), .val (.int i), .val (.ref b), .val (.int ex), .unset] [(.int (1 : Int32))])) target := by
      intro target kt
      show Steps p.tables e below (T17.setTop (mkF m 45 #[.val (.int p0), .val (.int p1), .val (.int i), .val (.ref b), .val (.int ex), .unset] [(.int (1 : Int32))])) _
      refine XS.istore X17.here hx rfl (hb hby at_45) rfl (l' := #[.val (.int p0), .val (.int p1), .val (.int i), .val (.ref b), .val (.int ex), .val (.int (1 : Int32))]) rfl ?_
      show Steps p.tables e below (T17.setTop (mkF m 47 #[.val (.int p0), .val (.int p1), .val (.int i), .val (.ref b), .val (.int ex), .val (.int (1 : Int32))] [])) _
      refine XS.iload X17.here hx rfl (hb hby at_47) rfl ?_
      show Steps p.tables e below (T17.setTop (mkF m 49 #[.val (.int p0), .val (.int p1), .val (.int i), .val (.ref b), .val (.int ex), .val (.int (1 : Int32))] [(.int (1 : Int32))])) _
      refine XS.iload X17.here hx rfl (hb hby at_49) rfl ?_
      show Steps p.tables e below (T17.setTop (mkF m 51 #[.val (.int p0), .val (.int p1), .val (.int i), .val (.ref b), .val (.int ex), .val (.int (1 : Int32))] [(.int ex), (.int (1 : Int32))])) _
      refine XS.icmpNo X17.here hx rfl (hb hby at_51) rfl (teq hex'.symm).2 ?_
      show Steps p.tables e below (T17.setTop (mkF m 54 #[.val (.int p0), .val (.int p1), .val (.int i), .val (.ref b), .val (.int ex), .val (.int (1 : Int32))] [])) _
      refine XS.iload X17.here hx rfl (hb hby at_54) rfl ?_
      show Steps p.tables e below (T17.setTop (mkF m 56 #[.val (.int p0), .val (.int p1), .val (.int i), .val (.ref b), .val (.int ex), .val (.int (1 : Int32))] [(.int (1 : Int32))])) _
      refine XS.aloadN X17.here hx rfl (hb hby at_56) rfl rfl ?_
      exact kt
    obtain ⟨cq19, kq19, qv19a, qv19b, qv19c⟩ := isOf hZ e17 E_b_i
    obtain ⟨_, _, ⟨T19, L19, k19, n19⟩, -, X19, ⟨Lc19, hQ19, l19, y19, z19⟩, st19⟩ := X17.virtualBack hx (y := (⟨"com/example/rillstream/rillstream/mysql/StatementTokens$Token", "isWord", "()Z"⟩ : MethodName)) (z := (⟨"com/example/rillstream/rillstream/mysql/StatementTokens$Token", "isWord", "()Z"⟩ : MethodName)) hown (mvT hZ (hw _ (List.mem_of_getElem? (i := 55) rfl))) (mvT hZ (hw _ (List.mem_of_getElem? (i := 56) rfl))) (notFace_of_selects (args := #[]) (mvT hZ (hw _ (List.mem_of_getElem? (i := 58) rfl)))) (mvT hZ (hw _ (List.mem_of_getElem? (i := 58) rfl))) (mvT hZ (hw _ (List.mem_of_getElem? (i := 57) rfl))) (by decide) (backOf (W := 1) (rm10 l Z a0 hw [] b kk aW T7.heap n0 Z_7 F_kind_b_i S_aW_7) hZ (hw _ (List.mem_of_getElem? (i := 59) rfl)) (hw _ (List.mem_of_getElem? (i := 2) rfl)) (by decide) (by decide)) qv19a qv19c (g := (mkF m 57 #[.val (.int p0), .val (.int p1), .val (.int i), .val (.ref b), .val (.int ex), .val (.int (1 : Int32))] [(.ref b), (.int (1 : Int32))])) rfl (by rw [hml]; rfl) (Steps.refl _) (argsL := []) (rest := [(.int (1 : Int32))]) (lenOf pd_7 rfl) rfl (by show 2 * 0 + _ ≤ _; exact Nat.le_of_eq rfl) (hb hby at_57) (fun _ _ => ⟨rfl, e17, (by decide : 3 + 0 ≤ _), (by decide : 7 + 0 ≤ _)⟩)
    dsimp only [Pt.U, Pt.locs, Pt.cells, Pt.slots] at X19 l19 y19 z19 st19 hQ19
    subst l19 y19 z19
    obtain ⟨rfl, Nq19, e19⟩ := hQ19
    have N19 := Fr.app N17 Nq19
    rw [if_neg (fun q => n1 (u1 ▸ Value.ref.inj q))] at st19
    have st20 : ∀ target, Steps p.tables e below (T19.setTop (mkF m 64 #[.val (.int p0), .val (.int p1), .val (.int i), .val (.ref b), .val (.int ex), .val (.int (1 : Int32))] [(.ref b), (.int (1 : Int32))])) target → Steps p.tables e below (T19.setTop (mkF m 60 #[.val (.int p0), .val (.int p1), .val (.int i), .val (.ref b), .val (.int ex), .val (.int (1 : Int32))] [(.int (0 : Int32)), (.int (1 : Int32))])) target := by
      intro target kt
      show Steps p.tables e below (T19.setTop (mkF m 60 #[.val (.int p0), .val (.int p1), .val (.int i), .val (.ref b), .val (.int ex), .val (.int (1 : Int32))] [(.int (0 : Int32)), (.int (1 : Int32))])) _
      refine XS.ifNo X19.here hx rfl (hb hby at_60) rfl ((if0 _ _).trans (teq (rfl : (0 : Int32) = (0 : Int32))).2) ?_
      show Steps p.tables e below (T19.setTop (mkF m 63 #[.val (.int p0), .val (.int p1), .val (.int i), .val (.ref b), .val (.int ex), .val (.int (1 : Int32))] [(.int (1 : Int32))])) _
      refine XS.aloadN X19.here hx rfl (hb hby at_63) rfl rfl ?_
      exact kt
    obtain ⟨cq21, kq21, qv21a, qv21b, qv21c⟩ := isOf hZ e19 E_b_i
    obtain ⟨_, _, ⟨T21, L21, k21, n21⟩, -, X21, ⟨Lc21, hQ21, l21, y21, z21⟩, st21⟩ := X19.virtualBack hx (y := (⟨"com/example/rillstream/rillstream/mysql/StatementTokens$Token", "isQuoted", "()Z"⟩ : MethodName)) (z := (⟨"com/example/rillstream/rillstream/mysql/StatementTokens$Token", "isQuoted", "()Z"⟩ : MethodName)) hown (mvT hZ (hw _ (List.mem_of_getElem? (i := 64) rfl))) (mvT hZ (hw _ (List.mem_of_getElem? (i := 65) rfl))) (notFace_of_selects (args := #[]) (mvT hZ (hw _ (List.mem_of_getElem? (i := 67) rfl)))) (mvT hZ (hw _ (List.mem_of_getElem? (i := 67) rfl))) (mvT hZ (hw _ (List.mem_of_getElem? (i := 66) rfl))) (by decide) (backOf (W := 1) (rm11 l Z a0 hw [] b kk aQ T7.heap n0 Z_7 F_kind_b_i S_aQ_7) hZ (hw _ (List.mem_of_getElem? (i := 68) rfl)) (hw _ (List.mem_of_getElem? (i := 2) rfl)) (by decide) (by decide)) qv21a qv21c (g := (mkF m 64 #[.val (.int p0), .val (.int p1), .val (.int i), .val (.ref b), .val (.int ex), .val (.int (1 : Int32))] [(.ref b), (.int (1 : Int32))])) rfl (by rw [hml]; rfl) (Steps.refl _) (argsL := []) (rest := [(.int (1 : Int32))]) (lenOf pd_7 rfl) rfl (by show 2 * 0 + _ ≤ _; exact Nat.le_of_eq rfl) (hb hby at_64) (fun _ _ => ⟨rfl, e19, (by decide : 3 + 0 ≤ _), (by decide : 7 + 0 ≤ _)⟩)
    dsimp only [Pt.U, Pt.locs, Pt.cells, Pt.slots] at X21 l21 y21 z21 st21 hQ21
    subst l21 y21 z21
    obtain ⟨rfl, Nq21, e21⟩ := hQ21
    have N21 := Fr.app N19 Nq21
    rw [if_pos (by rw [u1])] at st21
    obtain ⟨fs, hr, hrun, hended, hW, hsame⟩ := X21.leave (v := some (.int (1 : Int32))) (fun h => by rw [Bd.returns] at h; cases h)
    refine ⟨_, _, pre0 _ (st1 _ (st2 _ (st3 _ (st4 _ (st5 _ (st6 _ (st7.trans (st8 _ (st9 _ (st10 _ (st16 _ (st17.trans (st18 _ (st19.trans (st20 _ (st21.trans ?_)))))))))))))))), hrun, hended, _, _, rfl, ?_, ⟨_, rfl⟩, hW, hsame.mono (by decide) (by decide)⟩
    · show Steps p.tables e below (T21.setTop (mkF m 67 #[.val (.int p0), .val (.int p1), .val (.int i), .val (.ref b), .val (.int ex), .val (.int (1 : Int32))] [(.int (1 : Int32)), (.int (1 : Int32))])) _
      refine XS.ifNo X21.here hx rfl (hb hby at_67) rfl ((if0 _ _).trans (feq (by decide : ¬ ((1 : Int32) = (0 : Int32)))).1) ?_
      show Steps p.tables e below (T21.setTop (mkF m 70 #[.val (.int p0), .val (.int p1), .val (.int i), .val (.ref b), .val (.int ex), .val (.int (1 : Int32))] [(.int (1 : Int32))])) _
      refine XS.iconst X21.here hx rfl (hb hby at_70) ?_
      show Steps p.tables e below (T21.setTop (mkF m 71 #[.val (.int p0), .val (.int p1), .val (.int i), .val (.ref b), .val (.int ex), .val (.int (1 : Int32))] [(.int (1 : Int32)), (.int (1 : Int32))])) _
      refine XS.goto X21.here hx rfl (pc0 := 71) (pc' := 75) rfl (hb hby at_71) (by decide) (by decide) ?_
      show Steps p.tables e below (T21.setTop (mkF m 75 #[.val (.int p0), .val (.int p1), .val (.int i), .val (.ref b), .val (.int ex), .val (.int (1 : Int32))] [(.int (1 : Int32)), (.int (1 : Int32))])) _
      refine XS.icmpNo X21.here hx rfl (hb hby at_75) rfl (teq (rfl : (1 : Int32) = (1 : Int32))).2 ?_
      show Steps p.tables e below (T21.setTop (mkF m 78 #[.val (.int p0), .val (.int p1), .val (.int i), .val (.ref b), .val (.int ex), .val (.int (1 : Int32))] [])) _
      refine XS.iconst X21.here hx rfl (hb hby at_78) ?_
      show Steps p.tables e below (T21.setTop (mkF m 79 #[.val (.int p0), .val (.int p1), .val (.int i), .val (.ref b), .val (.int ex), .val (.int (1 : Int32))] [(.int (1 : Int32))])) _
      refine XS.goto X21.here hx rfl (pc0 := 79) (pc' := 83) rfl (hb hby at_79) (by decide) (by decide) ?_
      show Steps p.tables e below (T21.setTop (mkF m 83 #[.val (.int p0), .val (.int p1), .val (.int i), .val (.ref b), .val (.int ex), .val (.int (1 : Int32))] [(.int (1 : Int32))])) _
      exact retN X21 hx (t := .boolean) Bd.returns (by simp) (hb hby at_83) hr
    · show Q_rm0 Z p0 p1 aW aQ aS aY cs h0 n0 _ T21.heap _
      rw [e21]
      exact ⟨rfl, N21⟩
  · have hex' : ex = 0 := by rw [hex]; rw [if_neg u0, if_neg u0']
    have hn' : own_name kk aW aQ = 0 := by unfold own_name; rw [if_neg (fun q => u1 (Value.ref.inj q)), if_neg (fun q => u2 (Value.ref.inj q))]
    have st22 : ∀ target, Steps p.tables e below (T7.setTop (mkF m 42 #[.val (.int p0), .val (.int p1), .val (.int i), .val (.ref b), .val (.int ex), .unset] [(.ref b)])) target → Steps p.tables e below (T7.setTop (mkF m 41 #[.val (.int p0), .val (.int p1), .val (.int i), .val (.ref b), .val (.int ex), .unset] [])) target := by
      intro target kt
      show Steps p.tables e below (T7.setTop (mkF m 41 #[.val (.int p0), .val (.int p1), .val (.int i), .val (.ref b), .val (.int ex), .unset] [])) _
      refine XS.aloadN X7.here hx rfl (hb hby at_41) rfl rfl ?_
      exact kt
    obtain ⟨cq23, kq23, qv23a, qv23b, qv23c⟩ := isOf hZ rfl E_b_i
    obtain ⟨_, _, ⟨T23, L23, k23, n23⟩, -, X23, ⟨Lc23, hQ23, l23, y23, z23⟩, st23⟩ := X7.virtualBack hx (y := (⟨"com/example/rillstream/rillstream/mysql/StatementTokens$Token", "isName", "()Z"⟩ : MethodName)) (z := (⟨"com/example/rillstream/rillstream/mysql/StatementTokens$Token", "isName", "()Z"⟩ : MethodName)) hown (mvT hZ (hw _ (List.mem_of_getElem? (i := 49) rfl))) (mvT hZ (hw _ (List.mem_of_getElem? (i := 50) rfl))) (notFace_of_selects (args := #[]) (mvT hZ (hw _ (List.mem_of_getElem? (i := 52) rfl)))) (mvT hZ (hw _ (List.mem_of_getElem? (i := 52) rfl))) (mvT hZ (hw _ (List.mem_of_getElem? (i := 51) rfl))) (by decide) (backOf (W := 0) (rm9 l Z a0 hw [] b kk aW aQ T7.heap n0 Z_7 F_kind_b_i S_aW_7 S_aQ_7) hZ (hw _ (List.mem_of_getElem? (i := 53) rfl)) (hw _ (List.mem_of_getElem? (i := 2) rfl)) (by decide) (by decide)) qv23a qv23c (g := (mkF m 42 #[.val (.int p0), .val (.int p1), .val (.int i), .val (.ref b), .val (.int ex), .unset] [(.ref b)])) rfl (by rw [hml]; rfl) (Steps.refl _) (argsL := []) (rest := []) (lenOf pd_7 rfl) rfl (by show 2 * 0 + _ ≤ _; exact Nat.le_of_eq rfl) (hb hby at_42) (fun _ _ => ⟨rfl, rfl, (by decide : 3 + 0 ≤ _), (by decide : 7 + 0 ≤ _)⟩)
    dsimp only [Pt.U, Pt.locs, Pt.cells, Pt.slots] at X23 l23 y23 z23 st23 hQ23
    subst l23 y23 z23
    obtain ⟨rfl, Nq23, e23⟩ := hQ23
    have N23 := Fr.app N7 Nq23
    rw [hn'] at st23
    have st24 : ∀ target, Steps p.tables e below (T23.setTop (mkF m 57 #[.val (.int p0), .val (.int p1), .val (.int i), .val (.ref b), .val (.int ex), .val (.int (0 : Int32))] [(.ref b), (.int (0 : Int32))])) target → Steps p.tables e below (T23.setTop (mkF m 45 #[.val (.int p0), .val (.int p1), .val (.int i), .val (.ref b), .val (.int ex), .unset] [(.int (0 : Int32))])) target := by
      intro target kt
      show Steps p.tables e below (T23.setTop (mkF m 45 #[.val (.int p0), .val (.int p1), .val (.int i), .val (.ref b), .val (.int ex), .unset] [(.int (0 : Int32))])) _
      refine XS.istore X23.here hx rfl (hb hby at_45) rfl (l' := #[.val (.int p0), .val (.int p1), .val (.int i), .val (.ref b), .val (.int ex), .val (.int (0 : Int32))]) rfl ?_
      show Steps p.tables e below (T23.setTop (mkF m 47 #[.val (.int p0), .val (.int p1), .val (.int i), .val (.ref b), .val (.int ex), .val (.int (0 : Int32))] [])) _
      refine XS.iload X23.here hx rfl (hb hby at_47) rfl ?_
      show Steps p.tables e below (T23.setTop (mkF m 49 #[.val (.int p0), .val (.int p1), .val (.int i), .val (.ref b), .val (.int ex), .val (.int (0 : Int32))] [(.int (0 : Int32))])) _
      refine XS.iload X23.here hx rfl (hb hby at_49) rfl ?_
      show Steps p.tables e below (T23.setTop (mkF m 51 #[.val (.int p0), .val (.int p1), .val (.int i), .val (.ref b), .val (.int ex), .val (.int (0 : Int32))] [(.int ex), (.int (0 : Int32))])) _
      refine XS.icmpNo X23.here hx rfl (hb hby at_51) rfl (teq hex'.symm).2 ?_
      show Steps p.tables e below (T23.setTop (mkF m 54 #[.val (.int p0), .val (.int p1), .val (.int i), .val (.ref b), .val (.int ex), .val (.int (0 : Int32))] [])) _
      refine XS.iload X23.here hx rfl (hb hby at_54) rfl ?_
      show Steps p.tables e below (T23.setTop (mkF m 56 #[.val (.int p0), .val (.int p1), .val (.int i), .val (.ref b), .val (.int ex), .val (.int (0 : Int32))] [(.int (0 : Int32))])) _
      refine XS.aloadN X23.here hx rfl (hb hby at_56) rfl rfl ?_
      exact kt
    obtain ⟨cq25, kq25, qv25a, qv25b, qv25c⟩ := isOf hZ e23 E_b_i
    obtain ⟨_, _, ⟨T25, L25, k25, n25⟩, -, X25, ⟨Lc25, hQ25, l25, y25, z25⟩, st25⟩ := X23.virtualBack hx (y := (⟨"com/example/rillstream/rillstream/mysql/StatementTokens$Token", "isWord", "()Z"⟩ : MethodName)) (z := (⟨"com/example/rillstream/rillstream/mysql/StatementTokens$Token", "isWord", "()Z"⟩ : MethodName)) hown (mvT hZ (hw _ (List.mem_of_getElem? (i := 55) rfl))) (mvT hZ (hw _ (List.mem_of_getElem? (i := 56) rfl))) (notFace_of_selects (args := #[]) (mvT hZ (hw _ (List.mem_of_getElem? (i := 58) rfl)))) (mvT hZ (hw _ (List.mem_of_getElem? (i := 58) rfl))) (mvT hZ (hw _ (List.mem_of_getElem? (i := 57) rfl))) (by decide) (backOf (W := 1) (rm10 l Z a0 hw [] b kk aW T7.heap n0 Z_7 F_kind_b_i S_aW_7) hZ (hw _ (List.mem_of_getElem? (i := 59) rfl)) (hw _ (List.mem_of_getElem? (i := 2) rfl)) (by decide) (by decide)) qv25a qv25c (g := (mkF m 57 #[.val (.int p0), .val (.int p1), .val (.int i), .val (.ref b), .val (.int ex), .val (.int (0 : Int32))] [(.ref b), (.int (0 : Int32))])) rfl (by rw [hml]; rfl) (Steps.refl _) (argsL := []) (rest := [(.int (0 : Int32))]) (lenOf pd_7 rfl) rfl (by show 2 * 0 + _ ≤ _; exact Nat.le_of_eq rfl) (hb hby at_57) (fun _ _ => ⟨rfl, e23, (by decide : 3 + 0 ≤ _), (by decide : 7 + 0 ≤ _)⟩)
    dsimp only [Pt.U, Pt.locs, Pt.cells, Pt.slots] at X25 l25 y25 z25 st25 hQ25
    subst l25 y25 z25
    obtain ⟨rfl, Nq25, e25⟩ := hQ25
    have N25 := Fr.app N23 Nq25
    rw [if_neg (fun q => u1 (Value.ref.inj q))] at st25
    have st26 : ∀ target, Steps p.tables e below (T25.setTop (mkF m 64 #[.val (.int p0), .val (.int p1), .val (.int i), .val (.ref b), .val (.int ex), .val (.int (0 : Int32))] [(.ref b), (.int (0 : Int32))])) target → Steps p.tables e below (T25.setTop (mkF m 60 #[.val (.int p0), .val (.int p1), .val (.int i), .val (.ref b), .val (.int ex), .val (.int (0 : Int32))] [(.int (0 : Int32)), (.int (0 : Int32))])) target := by
      intro target kt
      show Steps p.tables e below (T25.setTop (mkF m 60 #[.val (.int p0), .val (.int p1), .val (.int i), .val (.ref b), .val (.int ex), .val (.int (0 : Int32))] [(.int (0 : Int32)), (.int (0 : Int32))])) _
      refine XS.ifNo X25.here hx rfl (hb hby at_60) rfl ((if0 _ _).trans (teq (rfl : (0 : Int32) = (0 : Int32))).2) ?_
      show Steps p.tables e below (T25.setTop (mkF m 63 #[.val (.int p0), .val (.int p1), .val (.int i), .val (.ref b), .val (.int ex), .val (.int (0 : Int32))] [(.int (0 : Int32))])) _
      refine XS.aloadN X25.here hx rfl (hb hby at_63) rfl rfl ?_
      exact kt
    obtain ⟨cq27, kq27, qv27a, qv27b, qv27c⟩ := isOf hZ e25 E_b_i
    obtain ⟨_, _, ⟨T27, L27, k27, n27⟩, -, X27, ⟨Lc27, hQ27, l27, y27, z27⟩, st27⟩ := X25.virtualBack hx (y := (⟨"com/example/rillstream/rillstream/mysql/StatementTokens$Token", "isQuoted", "()Z"⟩ : MethodName)) (z := (⟨"com/example/rillstream/rillstream/mysql/StatementTokens$Token", "isQuoted", "()Z"⟩ : MethodName)) hown (mvT hZ (hw _ (List.mem_of_getElem? (i := 64) rfl))) (mvT hZ (hw _ (List.mem_of_getElem? (i := 65) rfl))) (notFace_of_selects (args := #[]) (mvT hZ (hw _ (List.mem_of_getElem? (i := 67) rfl)))) (mvT hZ (hw _ (List.mem_of_getElem? (i := 67) rfl))) (mvT hZ (hw _ (List.mem_of_getElem? (i := 66) rfl))) (by decide) (backOf (W := 1) (rm11 l Z a0 hw [] b kk aQ T7.heap n0 Z_7 F_kind_b_i S_aQ_7) hZ (hw _ (List.mem_of_getElem? (i := 68) rfl)) (hw _ (List.mem_of_getElem? (i := 2) rfl)) (by decide) (by decide)) qv27a qv27c (g := (mkF m 64 #[.val (.int p0), .val (.int p1), .val (.int i), .val (.ref b), .val (.int ex), .val (.int (0 : Int32))] [(.ref b), (.int (0 : Int32))])) rfl (by rw [hml]; rfl) (Steps.refl _) (argsL := []) (rest := [(.int (0 : Int32))]) (lenOf pd_7 rfl) rfl (by show 2 * 0 + _ ≤ _; exact Nat.le_of_eq rfl) (hb hby at_64) (fun _ _ => ⟨rfl, e25, (by decide : 3 + 0 ≤ _), (by decide : 7 + 0 ≤ _)⟩)
    dsimp only [Pt.U, Pt.locs, Pt.cells, Pt.slots] at X27 l27 y27 z27 st27 hQ27
    subst l27 y27 z27
    obtain ⟨rfl, Nq27, e27⟩ := hQ27
    have N27 := Fr.app N25 Nq27
    rw [if_neg (fun q => u2 (Value.ref.inj q))] at st27
    obtain ⟨fs, hr, hrun, hended, hW, hsame⟩ := X27.leave (v := some (.int (1 : Int32))) (fun h => by rw [Bd.returns] at h; cases h)
    refine ⟨_, _, pre0 _ (st1 _ (st2 _ (st3 _ (st4 _ (st5 _ (st6 _ (st7.trans (st8 _ (st9 _ (st10 _ (st22 _ (st23.trans (st24 _ (st25.trans (st26 _ (st27.trans ?_)))))))))))))))), hrun, hended, _, _, rfl, ?_, ⟨_, rfl⟩, hW, hsame.mono (by decide) (by decide)⟩
    · show Steps p.tables e below (T27.setTop (mkF m 67 #[.val (.int p0), .val (.int p1), .val (.int i), .val (.ref b), .val (.int ex), .val (.int (0 : Int32))] [(.int (0 : Int32)), (.int (0 : Int32))])) _
      refine XS.ifYes X27.here hx rfl (pc0 := 67) (pc' := 74) rfl (hb hby at_67) rfl ((if0 _ _).trans (teq (rfl : (0 : Int32) = (0 : Int32))).1) (by decide) (by decide) ?_
      show Steps p.tables e below (T27.setTop (mkF m 74 #[.val (.int p0), .val (.int p1), .val (.int i), .val (.ref b), .val (.int ex), .val (.int (0 : Int32))] [(.int (0 : Int32))])) _
      refine XS.iconst X27.here hx rfl (hb hby at_74) ?_
      show Steps p.tables e below (T27.setTop (mkF m 75 #[.val (.int p0), .val (.int p1), .val (.int i), .val (.ref b), .val (.int ex), .val (.int (0 : Int32))] [(.int (0 : Int32)), (.int (0 : Int32))])) _
      refine XS.icmpNo X27.here hx rfl (hb hby at_75) rfl (teq (rfl : (0 : Int32) = (0 : Int32))).2 ?_
      show Steps p.tables e below (T27.setTop (mkF m 78 #[.val (.int p0), .val (.int p1), .val (.int i), .val (.ref b), .val (.int ex), .val (.int (0 : Int32))] [])) _
      refine XS.iconst X27.here hx rfl (hb hby at_78) ?_
      show Steps p.tables e below (T27.setTop (mkF m 79 #[.val (.int p0), .val (.int p1), .val (.int i), .val (.ref b), .val (.int ex), .val (.int (0 : Int32))] [(.int (1 : Int32))])) _
      refine XS.goto X27.here hx rfl (pc0 := 79) (pc' := 83) rfl (hb hby at_79) (by decide) (by decide) ?_
      show Steps p.tables e below (T27.setTop (mkF m 83 #[.val (.int p0), .val (.int p1), .val (.int i), .val (.ref b), .val (.int ex), .val (.int (0 : Int32))] [(.int (1 : Int32))])) _
      exact retN X27 hx (t := .boolean) Bd.returns (by simp) (hb hby at_83) hr
    · show Q_rm0 Z p0 p1 aW aQ aS aY cs h0 n0 _ T27.heap _
      rw [e27]
      exact ⟨rfl, N27⟩
set_option maxRecDepth 65536 in
set_option maxHeartbeats 40000000 in
theorem comes_1 {Post : Tables → Env → Array Value → State → Outcome → State → Prop} (hpost : ∀ tb e args s v u, (limb_1_1.after args s (.returned v) u = true ∧ limb_1_2.after args s (.returned v) u = true ∧ True) → FrameEnd s (.returned v) u (Jvm.fieldLocs frame_1_writes args s ++ Jvm.arrayLocs frame_1_arrays args s ++ Jvm.staticLocs frame_1_statics s) 16 128 → Post tb e args s (.returned v) u) :
    ArmFor flags0 classFile x code maxLocals ret World_1 tables_1 room_1 Calls_1 rest_1 Pre_1 Post := by
  intro l hfl _ _ p e ha hc hk s m args below hf hA hF happ hP
  obtain ⟨hcalls, hrest, hpre⟩ := hP
  obtain ⟨-, -, -, hnamed, -, -, -, hat⟩ := (Spec.applies_iff hf).mp happ
  obtain ⟨hg, hn⟩ := and_e (Cond.before_iff.mp (show (Jvm.Cond.and given_1 narrow_1).before args s = true from hpre))
  obtain ⟨gg1, gg2⟩ := and_e hg
  obtain ⟨gg3, gg4⟩ := and_e gg2
  obtain ⟨gg5, gg6⟩ := and_e hn
  obtain ⟨gg7, gg8⟩ := and_e gg6
  obtain ⟨gg9, gg10⟩ := and_e gg8
  obtain ⟨gg11, gg12⟩ := and_e gg10
  obtain ⟨gg13, gg14⟩ := and_e gg12
  obtain ⟨gg15, gg16⟩ := and_e gg14
  obtain ⟨gg17, gg18⟩ := and_e gg16
  obtain ⟨w0, w1, rfl⟩ : ∃ w0 w1 : Value, args = #[w0, w1] := by
    have hs : args.size = 2 := by simpa [Cond.value, given_1] using gg1
    obtain ⟨L⟩ := args
    match L, hs with
    | [w0, w1], _ => exact ⟨w0, w1, rfl⟩
  have hw := fun d (hd : d ∈ tables_1) => atoms_spec (ws := Jvm.Cond.code x code maxLocals ret :: tables_1) hat d (List.mem_cons_of_mem _ hd)
  have hfit : Fit s := fun {y c} hc i hi => by
    obtain ⟨ha, rfl⟩ := Array.getElem?_eq_some_iff.mp hc
    have q := List.all_eq_true.mp ((Array.all_eq_true_iff_forall_mem.mp hF) _ (Array.getElem_mem ha)) i (List.mem_range.mpr hi)
    simpa [Array.getElem?_eq_getElem hi] using q
  obtain ⟨hsets, hown0⟩ := atoms_of _ (rest_1_c_eq ▸ (show rest_1_c.before _ s = true from hrest))
  have hr0 := Cond.before_iff.mp hown0
  obtain ⟨i0, ei0⟩ := is_v gg3
  obtain rfl : w0 = (.int i0) := Option.some.inj ei0
  obtain ⟨i1, ei1⟩ := is_v gg4
  obtain rfl : w1 = (.int i1) := Option.some.inj ei1
  obtain ⟨aW, ev_aW⟩ := exa_v gg5
  have E_aW := Exa.start ev_aW gg5
  have S_aW := Sta.start ev_aW (Or.inr ⟨(hw _ (List.mem_of_getElem? (i := 8) rfl)), (hw _ (List.mem_of_getElem? (i := 9) rfl))⟩)
  have O_aW := own_ord ev_aW gg11
  obtain ⟨aQ, ev_aQ⟩ := exa_v gg13
  have E_aQ := Exa.start ev_aQ gg13
  have S_aQ := Sta.start ev_aQ (Or.inr ⟨(hw _ (List.mem_of_getElem? (i := 8) rfl)), (hw _ (List.mem_of_getElem? (i := 63) rfl))⟩)
  have O_aQ := own_ord ev_aQ gg15
  obtain ⟨aS, ev_aS⟩ := exa_v gg7
  have E_aS := Exa.start ev_aS gg7
  have S_aS := Sta.start ev_aS (Or.inr ⟨(hw _ (List.mem_of_getElem? (i := 8) rfl)), (hw _ (List.mem_of_getElem? (i := 61) rfl))⟩)
  have O_aS := own_ord ev_aS gg9
  obtain ⟨aY, ev_aY⟩ := exa_v gg17
  have E_aY := Exa.start ev_aY gg17
  have S_aY := Sta.start ev_aY (Or.inr ⟨(hw _ (List.mem_of_getElem? (i := 8) rfl)), (hw _ (List.mem_of_getElem? (i := 71) rfl))⟩)
  have O_aY := own_ord ev_aY gg18
  obtain ⟨cs, ev_cs⟩ := is_v (Cond.before_iff.mp (hsets _ (List.mem_of_getElem? (i := 1) rfl)))
  have S_cs : Sta s s.heap "java/lang/String" "COMPACT_STRINGS" "Z" (.int cs) := Sta.start ev_cs (Or.inl (hsets _ (List.mem_of_getElem? (i := 0) rfl)))
  have hcs : ¬ cs = 0 := by
    intro q
    have u := not_v (Cond.before_iff.mp (hsets _ (List.mem_of_getElem? (i := 2) rfl)))
    have u2 := eq_i (o := none) (idx := []) ev_cs (Term.int_eval (0 : Int32)) (by rw [q])
    rw [u2] at u; cases u
  obtain ⟨n, o, h1, h2, h3, _, L, rfl, ⟨rfl, N⟩, hq⟩ := rm0 l s _ hw tables_1 i0 i1 aW aQ aS aY cs s.heap s.heap.size (Nat.le_refl _) S_aW S_aQ S_aS S_aY (Fld.ne O_aQ O_aW (by decide)) (Fld.ne O_aS O_aW (by decide)) (Fld.ne O_aS O_aQ (by decide)) (Fld.ne O_aY O_aW (by decide)) (Fld.ne O_aY O_aQ (by decide)) S_cs hcs p e ha hc hk s m _ below hf ((Spec.applies_iff_loose hf).mp happ).1 ⟨rfl, State.Warmed39.refl s, rfl⟩ trivial
  refine ⟨n, _, h1, h2, h3, hpost _ _ _ _ _ _ ⟨Cond.after_iff.mpr rfl, Cond.after_iff.mpr (eq_i res_at (Term.int_eval (1)) rfl), trivial⟩ ⟨hq.1, hq.2.1, (hq.2.2.sift fun y hy => Or.inr (N y hy)).mono (by decide) (by decide)⟩⟩
theorem main_1_1 : Claimed_1_1 := comes_1 fun _ _ _ _ _ _ h hF => ⟨h.1, hF⟩
theorem main_1_2 : Claimed_1_2 := comes_1 fun _ _ _ _ _ _ h hF => ⟨h.2.1, hF⟩
end Jvm.Pilot.@@N@@
namespace Jvm.Pilot.@@N@@
open Jvm Jvm.ClassFile Sem Op Lib Jvm.Free Jvm.Stand Jvm.Pilot.@@N@@.Jvm.D
/-! MADE BY PROGRAM (witnessworld.py) out of the Statement's table words and the real class files: 20 classes; the members and pool entries that the words name. The judged class is class 1, her method 2. -/
namespace start1
open Jvm.ClassFile
def u (s : String) : CpInfo := .utf8 (stringToUtf16 s)
/-- a pool by its gaps: so many unusable entries, then the entry; so many at the end -/
def gap : Nat → List CpInfo → List CpInfo
  | 0, r => r
  | n + 1, r => .unusable :: gap n r
def poolList (es : List (Nat × CpInfo)) (last : Nat) : List CpInfo := es.foldr (fun e r => gap e.1 (e.2 :: r)) (gap last [])
def pool (es : List (Nat × CpInfo)) (last : Nat) : Array CpInfo := ⟨poolList es last⟩
def fileOf (pool : Array CpInfo) (this : Nat) (attrs : Array Attribute := #[]) (ms : Array MethodInfo := #[]) (fl : Nat := 33) (sup : Nat := 0) (ifs : Array Nat := #[]) (fds : Array FieldInfo := #[]) : ClassFile where
  minorVersion := 0
  majorVersion := 65
  constantPool := pool
  accessFlags := fl
  thisClass := this
  superClass := sup
  interfaces := ifs
  fields := fds
  methods := ms
  attributes := attrs
def plain (name : String) (sup : Option ClassId) : Class where
  name := name
  kind := .ordinary
  loader := none
  accessFlags := 33
  super := sup
  interfaces := #[]
  cf := none
  fields := #[]
  methods := #[]
  instanceTypes := #[]
  staticTypes := #[]
  resolved := #[]
  callSites := []
  init := .initialized
  statics := none
  mirror := none

def pool0 : Array CpInfo := pool [(5, u "<init>"), (0, u "()V"), (1, .class_ 10), (1, u "java/lang/Object")] 113

def k0c0 : Code := { maxStack := 0, maxLocals := 1, code := object_method_1_code, exceptionTable := #[], attributes := #[] }
def k0m0 : Method := { name := "<init>", desc := "()V", sig := { parameters := [], returnType := none }, accessFlags := 1, code := some k0c0 }
/-- java/lang/Object -/
def k0 : Class := { plain "java/lang/Object" none with
  accessFlags := 33
  interfaces := #[]
  cf := some (fileOf pool0 8 #[] #[{ accessFlags := 1, nameIndex := 5, descriptorIndex := 6, attributes := #[] }] 33 0 #[] #[])
  fields := #[]
  methods := #[k0m0]
  instanceTypes := #[]
  staticTypes := #[]
  resolved := Array.replicate 124 none
  statics := none }

def pool1 : Array CpInfo := pool [(2, .class_ 4), (1, u "java/lang/Object"), (0, u "<init>"), (0, u "()V"), (0, .fieldref 8 9), (0, .class_ 10), (0, .nameAndType 11 12), (0, u "com/example/rillstream/rillstream/mysql/StatementTokens$Token$Kind"), (0, u "WORD"), (0, u "Lcom/example/rillstream/rillstream/mysql/StatementTokens$Token$Kind;"), (0, .fieldref 8 14), (0, .nameAndType 15 12), (0, u "QUOTED"), (0, .fieldref 8 17), (0, .nameAndType 18 12), (0, u "STRING"), (0, .fieldref 8 20), (0, .nameAndType 21 12), (0, u "SYMBOL"), (0, .class_ 23), (0, u "com/example/rillstream/rillstream/mysql/StatementTokens$Token"), (0, .methodref 25 26), (0, .class_ 27), (0, .nameAndType 28 29), (0, u "com/example/rillstream/rillstream/mysql/TokenIsNamePinLaw"), (0, u "kindOf"), (0, u "(I)Lcom/example/rillstream/rillstream/mysql/StatementTokens$Token$Kind;"), (0, .methodref 31 32), (0, .class_ 33), (0, .nameAndType 34 35), (0, u "java/lang/String"), (0, u "valueOf"), (0, u "(C)Ljava/lang/String;"), (0, .methodref 22 37), (0, .nameAndType 5 38), (0, u "(Lcom/example/rillstream/rillstream/mysql/StatementTokens$Token$Kind;Ljava/lang/String;)V"), (0, .methodref 22 40), (0, .nameAndType 41 42), (0, u "isName"), (0, u "()Z"), (0, .methodref 22 44), (0, .nameAndType 45 42), (0, u "isWord"), (0, .methodref 22 47), (0, .nameAndType 48 42), (0, u "isQuoted"), (3, u "law"), (0, u "(II)Z")] 7

def k1m0 : Method := { name := "<init>", desc := "()V", sig := { parameters := [], returnType := none }, accessFlags := 1, code := none }
def k1c1 : Code := { maxStack := 2, maxLocals := 1, code := method_2_code, exceptionTable := #[], attributes := #[] }
def k1m1 : Method := { name := "kindOf", desc := "(I)Lcom/example/rillstream/rillstream/mysql/StatementTokens$Token$Kind;", sig := { parameters := [.int], returnType := some (.object "com/example/rillstream/rillstream/mysql/StatementTokens$Token$Kind") }, accessFlags := 10, code := some k1c1 }
def k1c2 : Code := { maxStack := 5, maxLocals := 6, code := code, exceptionTable := #[], attributes := #[] }
def k1m2 : Method := { name := "law", desc := "(II)Z", sig := { parameters := [.int, .int], returnType := some .boolean }, accessFlags := 9, code := some k1c2 }
/-- com/example/rillstream/rillstream/mysql/TokenIsNamePinLaw -/
def k1 : Class := { plain "com/example/rillstream/rillstream/mysql/TokenIsNamePinLaw" (some 0) with
  accessFlags := 49
  interfaces := #[]
  cf := some (fileOf pool1 25 #[] #[{ accessFlags := 1, nameIndex := 5, descriptorIndex := 6, attributes := #[] }, { accessFlags := 10, nameIndex := 28, descriptorIndex := 29, attributes := #[] }, { accessFlags := 9, nameIndex := 52, descriptorIndex := 53, attributes := #[] }] 49 2 #[] #[])
  fields := #[]
  methods := #[k1m0, k1m1, k1m2]
  instanceTypes := #[]
  staticTypes := #[]
  resolved := Array.replicate 61 none
  statics := none }

def pool2 : Array CpInfo := pool [(1, .methodref 2 3), (0, .class_ 4), (0, .nameAndType 5 6), (0, u "java/lang/Object"), (0, u "<init>"), (0, u "()V"), (0, .class_ 8), (0, u "java/lang/Record")] 13

def k2c0 : Code := { maxStack := 1, maxLocals := 1, code := jdk_30_method_1_code, exceptionTable := #[], attributes := #[] }
def k2m0 : Method := { name := "<init>", desc := "()V", sig := { parameters := [], returnType := none }, accessFlags := 4, code := some k2c0 }
/-- java/lang/Record -/
def k2 : Class := { plain "java/lang/Record" (some 0) with
  accessFlags := 1057
  interfaces := #[]
  cf := some (fileOf pool2 7 #[] #[{ accessFlags := 4, nameIndex := 5, descriptorIndex := 6, attributes := #[] }] 1057 2 #[] #[])
  fields := #[]
  methods := #[k2m0]
  instanceTypes := #[]
  staticTypes := #[]
  resolved := Array.replicate 22 none
  statics := none }

def pool3 : Array CpInfo := pool [(1, .methodref 2 3), (0, .class_ 4), (0, .nameAndType 5 6), (0, u "java/lang/Record"), (0, u "<init>"), (0, u "()V"), (0, .fieldref 8 9), (0, .class_ 10), (0, .nameAndType 11 12), (0, u "com/example/rillstream/rillstream/mysql/StatementTokens$Token"), (0, u "kind"), (0, u "Lcom/example/rillstream/rillstream/mysql/StatementTokens$Token$Kind;"), (0, .fieldref 8 14), (0, .nameAndType 15 16), (0, u "text"), (0, u "Ljava/lang/String;"), (0, .fieldref 18 19), (0, .class_ 20), (0, .nameAndType 21 12), (0, u "com/example/rillstream/rillstream/mysql/StatementTokens$Token$Kind"), (0, u "WORD"), (0, .fieldref 18 23), (0, .nameAndType 24 12), (0, u "QUOTED"), (33, u "(Lcom/example/rillstream/rillstream/mysql/StatementTokens$Token$Kind;Ljava/lang/String;)V"), (3, u "isWord"), (0, u "()Z"), (1, u "isQuoted"), (0, u "isName"), (10, .class_ 78), (0, u "com/example/rillstream/rillstream/mysql/StatementTokens")] 21

def k3c0 : Code := { maxStack := 2, maxLocals := 3, code := prog_14_method_1_code, exceptionTable := #[], attributes := #[] }
def k3m0 : Method := { name := "<init>", desc := "(Lcom/example/rillstream/rillstream/mysql/StatementTokens$Token$Kind;Ljava/lang/String;)V", sig := { parameters := [(.object "com/example/rillstream/rillstream/mysql/StatementTokens$Token$Kind"), (.object "java/lang/String")], returnType := none }, accessFlags := 0, code := some k3c0 }
def k3c1 : Code := { maxStack := 2, maxLocals := 1, code := prog_14_method_2_code, exceptionTable := #[], attributes := #[] }
def k3m1 : Method := { name := "isWord", desc := "()Z", sig := { parameters := [], returnType := some .boolean }, accessFlags := 0, code := some k3c1 }
def k3c2 : Code := { maxStack := 2, maxLocals := 1, code := prog_14_method_3_code, exceptionTable := #[], attributes := #[] }
def k3m2 : Method := { name := "isQuoted", desc := "()Z", sig := { parameters := [], returnType := some .boolean }, accessFlags := 0, code := some k3c2 }
def k3c3 : Code := { maxStack := 2, maxLocals := 1, code := prog_14_method_4_code, exceptionTable := #[], attributes := #[] }
def k3m3 : Method := { name := "isName", desc := "()Z", sig := { parameters := [], returnType := some .boolean }, accessFlags := 0, code := some k3c3 }
/-- com/example/rillstream/rillstream/mysql/StatementTokens$Token -/
def k3 : Class := { plain "com/example/rillstream/rillstream/mysql/StatementTokens$Token" (some 2) with
  accessFlags := 48
  interfaces := #[]
  cf := some (fileOf pool3 8 #[.nestHost 77] #[{ accessFlags := 0, nameIndex := 5, descriptorIndex := 58, attributes := #[] }, { accessFlags := 0, nameIndex := 62, descriptorIndex := 63, attributes := #[] }, { accessFlags := 0, nameIndex := 65, descriptorIndex := 63, attributes := #[] }, { accessFlags := 0, nameIndex := 66, descriptorIndex := 63, attributes := #[] }] 48 2 #[] #[{ accessFlags := 18, nameIndex := 11, descriptorIndex := 12, attributes := #[] }, { accessFlags := 18, nameIndex := 15, descriptorIndex := 16, attributes := #[] }])
  fields := #[{ name := "kind", type := (.object "com/example/rillstream/rillstream/mysql/StatementTokens$Token$Kind"), accessFlags := 18, slot := 0, constantValue := 0 }, { name := "text", type := (.object "java/lang/String"), accessFlags := 18, slot := 1, constantValue := 0 }]
  methods := #[k3m0, k3m1, k3m2, k3m3]
  instanceTypes := #[(.object "com/example/rillstream/rillstream/mysql/StatementTokens$Token$Kind"), (.object "java/lang/String")]
  staticTypes := #[]
  resolved := Array.replicate 100 none
  statics := none }

def pool4 : Array CpInfo := pool [(1, .class_ 2), (0, u "java/lang/constant/Constable"), (0, .class_ 4), (0, u "java/lang/Object")] 6

/-- java/lang/constant/Constable -/
def k4 : Class := { plain "java/lang/constant/Constable" (some 0) with
  accessFlags := 1537
  interfaces := #[]
  cf := some (fileOf pool4 1 #[] #[] 1537 3 #[] #[])
  fields := #[]
  methods := #[]
  instanceTypes := #[]
  staticTypes := #[]
  resolved := Array.replicate 11 none
  statics := none }

def pool5 : Array CpInfo := pool [(1, .class_ 2), (0, u "java/lang/Comparable"), (0, .class_ 4), (0, u "java/lang/Object")] 7

/-- java/lang/Comparable -/
def k5 : Class := { plain "java/lang/Comparable" (some 0) with
  accessFlags := 1537
  interfaces := #[]
  cf := some (fileOf pool5 1 #[] #[] 1537 3 #[] #[])
  fields := #[]
  methods := #[]
  instanceTypes := #[]
  staticTypes := #[]
  resolved := Array.replicate 12 none
  statics := none }

def pool6 : Array CpInfo := pool [(1, .class_ 2), (0, u "java/io/Serializable"), (0, .class_ 4), (0, u "java/lang/Object")] 2

/-- java/io/Serializable -/
def k6 : Class := { plain "java/io/Serializable" (some 0) with
  accessFlags := 1537
  interfaces := #[]
  cf := some (fileOf pool6 1 #[] #[] 1537 3 #[] #[])
  fields := #[]
  methods := #[]
  instanceTypes := #[]
  staticTypes := #[]
  resolved := Array.replicate 7 none
  statics := none }

def pool7 : Array CpInfo := pool [(2, .class_ 4), (1, u "java/lang/Enum"), (0, u "name"), (0, u "Ljava/lang/String;"), (2, u "ordinal"), (0, u "I"), (1, .class_ 14), (1, u "java/lang/Object"), (4, u "hash"), (86, .class_ 108), (1, u "java/lang/Enum$EnumDesc"), (2, .class_ 112), (0, u "java/lang/constant/Constable"), (0, .class_ 114), (0, u "java/lang/Comparable"), (0, .class_ 116), (0, u "java/io/Serializable")] 87

/-- java/lang/Enum -/
def k7 : Class := { plain "java/lang/Enum" (some 0) with
  accessFlags := 1057
  interfaces := #[4, 5, 6]
  cf := some (fileOf pool7 2 #[.nestMembers #[106]] #[] 1057 12 #[111, 113, 115] #[{ accessFlags := 18, nameIndex := 5, descriptorIndex := 6, attributes := #[] }, { accessFlags := 18, nameIndex := 9, descriptorIndex := 10, attributes := #[] }, { accessFlags := 2, nameIndex := 19, descriptorIndex := 10, attributes := #[] }])
  fields := #[{ name := "name", type := (.object "java/lang/String"), accessFlags := 18, slot := 0, constantValue := 0 }, { name := "ordinal", type := .int, accessFlags := 18, slot := 1, constantValue := 0 }, { name := "hash", type := .int, accessFlags := 2, slot := 2, constantValue := 0 }]
  methods := #[]
  instanceTypes := #[(.object "java/lang/String"), .int, .int]
  staticTypes := #[]
  resolved := Array.replicate 204 none
  statics := none }

def pool8 : Array CpInfo := pool [(1, .class_ 2), (0, u "com/example/rillstream/rillstream/mysql/StatementTokens$Token$Kind"), (2, u "WORD"), (0, u "Lcom/example/rillstream/rillstream/mysql/StatementTokens$Token$Kind;"), (2, u "QUOTED"), (2, u "STRING"), (2, u "SYMBOL"), (2, u "$VALUES"), (0, u "[Lcom/example/rillstream/rillstream/mysql/StatementTokens$Token$Kind;"), (6, .class_ 28), (1, u "java/lang/Enum"), (27, .class_ 57), (0, u "com/example/rillstream/rillstream/mysql/StatementTokens")] 5

/-- com/example/rillstream/rillstream/mysql/StatementTokens$Token$Kind -/
def k8 : Class := { plain "com/example/rillstream/rillstream/mysql/StatementTokens$Token$Kind" (some 7) with
  accessFlags := 16432
  interfaces := #[]
  cf := some (fileOf pool8 1 #[.nestHost 56] #[] 16432 26 #[] #[{ accessFlags := 16409, nameIndex := 5, descriptorIndex := 6, attributes := #[] }, { accessFlags := 16409, nameIndex := 9, descriptorIndex := 6, attributes := #[] }, { accessFlags := 16409, nameIndex := 12, descriptorIndex := 6, attributes := #[] }, { accessFlags := 16409, nameIndex := 15, descriptorIndex := 6, attributes := #[] }, { accessFlags := 4122, nameIndex := 18, descriptorIndex := 19, attributes := #[] }])
  fields := #[{ name := "WORD", type := (.object "com/example/rillstream/rillstream/mysql/StatementTokens$Token$Kind"), accessFlags := 16409, slot := 0, constantValue := 0 }, { name := "QUOTED", type := (.object "com/example/rillstream/rillstream/mysql/StatementTokens$Token$Kind"), accessFlags := 16409, slot := 1, constantValue := 0 }, { name := "STRING", type := (.object "com/example/rillstream/rillstream/mysql/StatementTokens$Token$Kind"), accessFlags := 16409, slot := 2, constantValue := 0 }, { name := "SYMBOL", type := (.object "com/example/rillstream/rillstream/mysql/StatementTokens$Token$Kind"), accessFlags := 16409, slot := 3, constantValue := 0 }, { name := "$VALUES", type := (.array (.object "com/example/rillstream/rillstream/mysql/StatementTokens$Token$Kind")), accessFlags := 4122, slot := 4, constantValue := 0 }]
  methods := #[]
  instanceTypes := #[(.object "java/lang/String"), .int, .int]
  staticTypes := #[(.object "com/example/rillstream/rillstream/mysql/StatementTokens$Token$Kind"), (.object "com/example/rillstream/rillstream/mysql/StatementTokens$Token$Kind"), (.object "com/example/rillstream/rillstream/mysql/StatementTokens$Token$Kind"), (.object "com/example/rillstream/rillstream/mysql/StatementTokens$Token$Kind"), (.array (.object "com/example/rillstream/rillstream/mysql/StatementTokens$Token$Kind"))]
  resolved := Array.replicate 63 none
  statics := some 0 }

def pool9 : Array CpInfo := pool [(2, .class_ 4), (1, u "java/lang/CharSequence"), (42, .class_ 48), (0, u "java/lang/CharSequence$1CodePointIterator"), (10, .class_ 60), (0, u "java/lang/CharSequence$1CharIterator"), (5, .class_ 67), (0, u "java/lang/Object")] 63

/-- java/lang/CharSequence -/
def k9 : Class := { plain "java/lang/CharSequence" (some 0) with
  accessFlags := 1537
  interfaces := #[]
  cf := some (fileOf pool9 2 #[.nestMembers #[47, 59]] #[] 1537 66 #[] #[])
  fields := #[]
  methods := #[]
  instanceTypes := #[]
  staticTypes := #[]
  resolved := Array.replicate 131 none
  statics := none }

def pool10 : Array CpInfo := pool [(1, .class_ 2), (0, u "java/lang/constant/ConstantDesc"), (0, .class_ 4), (0, u "java/lang/Object")] 32

/-- java/lang/constant/ConstantDesc -/
def k10 : Class := { plain "java/lang/constant/ConstantDesc" (some 0) with
  accessFlags := 1537
  interfaces := #[]
  cf := some (fileOf pool10 1 #[] #[] 1537 3 #[] #[])
  fields := #[]
  methods := #[]
  instanceTypes := #[]
  staticTypes := #[]
  resolved := Array.replicate 37 none
  statics := none }

def pool11 : Array CpInfo := pool [(1, .methodref 2 3), (0, .class_ 4), (0, .nameAndType 5 6), (0, u "java/lang/Object"), (0, u "<init>"), (0, u "()V"), (2, .fieldref 10 11), (0, .class_ 12), (0, .nameAndType 13 14), (0, u "java/lang/String"), (0, u "value"), (0, u "[B"), (0, .fieldref 10 16), (0, .nameAndType 17 18), (0, u "coder"), (0, u "B"), (2, u "hash"), (0, u "I"), (2, u "hashIsZero"), (0, u "Z"), (11, .fieldref 10 39), (0, .nameAndType 40 26), (0, u "COMPACT_STRINGS"), (12, u "toBytes"), (53, .class_ 109), (1, u "java/lang/StringLatin1"), (99, .methodref 10 210), (0, .nameAndType 5 211), (0, u "([BB)V"), (157, u "(C)Z"), (205, .class_ 576), (0, u "java/lang/CharSequence"), (22, u "CASE_INSENSITIVE_ORDER"), (0, u "Ljava/util/Comparator;"), (181, u "valueOf"), (0, u "(C)Ljava/lang/String;"), (231, .methodref 107 1016), (0, .nameAndType 1017 369), (0, u "canEncode"), (0, .methodref 107 1019), (0, .nameAndType 53 1020), (0, u "(C)[B"), (80, u "serialPersistentFields"), (0, u "[Ljava/io/ObjectStreamField;"), (0, .class_ 1104), (0, u "java/lang/String$CaseInsensitiveComparator"), (1, .class_ 1107), (0, u "java/io/Serializable"), (0, .class_ 1109), (0, u "java/lang/Comparable"), (0, .class_ 1111), (0, u "java/lang/constant/Constable"), (0, .class_ 1113), (0, u "java/lang/constant/ConstantDesc"), (2, u "serialVersionUID"), (0, u "J"), (3, u "REPL"), (0, u "C"), (2, u "LATIN1"), (1, u "UTF16")] 323

def k11m0 : Method := { name := "<init>", desc := "()V", sig := { parameters := [], returnType := none }, accessFlags := 1, code := none }
def k11c1 : Code := { maxStack := 4, maxLocals := 1, code := jdk_42_method_139_code, exceptionTable := #[], attributes := #[] }
def k11m1 : Method := { name := "valueOf", desc := "(C)Ljava/lang/String;", sig := { parameters := [.char], returnType := some (.object "java/lang/String") }, accessFlags := 9, code := some k11c1 }
def k11c2 : Code := { maxStack := 2, maxLocals := 3, code := jdk_42_method_151_code, exceptionTable := #[], attributes := #[] }
def k11m2 : Method := { name := "<init>", desc := "([BB)V", sig := { parameters := [(.array .byte), .byte], returnType := none }, accessFlags := 0, code := some k11c2 }
/-- java/lang/String -/
def k11 : Class := { plain "java/lang/String" (some 0) with
  accessFlags := 49
  interfaces := #[6, 5, 9, 4, 10]
  cf := some (fileOf pool11 10 #[.nestMembers #[1103]] #[{ accessFlags := 1, nameIndex := 5, descriptorIndex := 6, attributes := #[] }, { accessFlags := 9, nameIndex := 782, descriptorIndex := 783, attributes := #[] }, { accessFlags := 0, nameIndex := 5, descriptorIndex := 211, attributes := #[] }] 49 2 #[1106, 1108, 575, 1110, 1112] #[{ accessFlags := 18, nameIndex := 13, descriptorIndex := 14, attributes := #[] }, { accessFlags := 18, nameIndex := 17, descriptorIndex := 18, attributes := #[] }, { accessFlags := 2, nameIndex := 21, descriptorIndex := 22, attributes := #[] }, { accessFlags := 2, nameIndex := 25, descriptorIndex := 26, attributes := #[] }, { accessFlags := 26, nameIndex := 1116, descriptorIndex := 1117, attributes := #[] }, { accessFlags := 24, nameIndex := 40, descriptorIndex := 26, attributes := #[] }, { accessFlags := 26, nameIndex := 1101, descriptorIndex := 1102, attributes := #[] }, { accessFlags := 26, nameIndex := 1121, descriptorIndex := 1122, attributes := #[] }, { accessFlags := 25, nameIndex := 599, descriptorIndex := 600, attributes := #[] }, { accessFlags := 24, nameIndex := 1125, descriptorIndex := 18, attributes := #[] }, { accessFlags := 24, nameIndex := 1127, descriptorIndex := 18, attributes := #[] }])
  fields := #[{ name := "value", type := (.array .byte), accessFlags := 18, slot := 0, constantValue := 0 }, { name := "coder", type := .byte, accessFlags := 18, slot := 1, constantValue := 0 }, { name := "hash", type := .int, accessFlags := 2, slot := 2, constantValue := 0 }, { name := "hashIsZero", type := .boolean, accessFlags := 2, slot := 3, constantValue := 0 }, { name := "serialVersionUID", type := .long, accessFlags := 26, slot := 0, constantValue := 0 }, { name := "COMPACT_STRINGS", type := .boolean, accessFlags := 24, slot := 1, constantValue := 0 }, { name := "serialPersistentFields", type := (.array (.object "java/io/ObjectStreamField")), accessFlags := 26, slot := 2, constantValue := 0 }, { name := "REPL", type := .char, accessFlags := 26, slot := 3, constantValue := 0 }, { name := "CASE_INSENSITIVE_ORDER", type := (.object "java/util/Comparator"), accessFlags := 25, slot := 4, constantValue := 0 }, { name := "LATIN1", type := .byte, accessFlags := 24, slot := 5, constantValue := 0 }, { name := "UTF16", type := .byte, accessFlags := 24, slot := 6, constantValue := 0 }]
  methods := #[k11m0, k11m1, k11m2]
  instanceTypes := #[(.array .byte), .byte, .int, .boolean]
  staticTypes := #[.long, .boolean, (.array (.object "java/io/ObjectStreamField")), .char, (.object "java/util/Comparator"), .byte, .byte]
  resolved := Array.replicate 1451 none
  statics := some 1 }

def pool12 : Array CpInfo := pool [(4, .class_ 6), (1, u "java/lang/Object"), (0, u "<init>"), (0, u "()V"), (5, .class_ 16), (1, u "java/lang/StringLatin1"), (73, u "canEncode"), (14, u "(C)Z"), (15, u "$assertionsDisabled"), (0, u "Z"), (98, .class_ 223), (1, u "java/lang/StringLatin1$LinesSpliterator"), (156, u "toBytes"), (1, u "(C)[B"), (7, .class_ 391), (0, u "java/lang/StringLatin1$CharsSpliterator")] 3

def k12m0 : Method := { name := "<init>", desc := "()V", sig := { parameters := [], returnType := none }, accessFlags := 0, code := none }
def k12c1 : Code := { maxStack := 2, maxLocals := 1, code := jdk_43_method_3_code, exceptionTable := #[], attributes := #[] }
def k12m1 : Method := { name := "canEncode", desc := "(C)Z", sig := { parameters := [.char], returnType := some .boolean }, accessFlags := 9, code := some k12c1 }
def k12c2 : Code := { maxStack := 4, maxLocals := 1, code := jdk_43_method_46_code, exceptionTable := #[], attributes := #[] }
def k12m2 : Method := { name := "toBytes", desc := "(C)[B", sig := { parameters := [.char], returnType := some (.array .byte) }, accessFlags := 9, code := some k12c2 }
/-- java/lang/StringLatin1 -/
def k12 : Class := { plain "java/lang/StringLatin1" (some 0) with
  accessFlags := 48
  interfaces := #[]
  cf := some (fileOf pool12 14 #[.nestMembers #[390, 221]] #[{ accessFlags := 0, nameIndex := 7, descriptorIndex := 8, attributes := #[] }, { accessFlags := 9, nameIndex := 90, descriptorIndex := 105, attributes := #[] }, { accessFlags := 9, nameIndex := 380, descriptorIndex := 382, attributes := #[] }] 48 4 #[] #[{ accessFlags := 4120, nameIndex := 121, descriptorIndex := 122, attributes := #[] }])
  fields := #[{ name := "$assertionsDisabled", type := .boolean, accessFlags := 4120, slot := 0, constantValue := 0 }]
  methods := #[k12m0, k12m1, k12m2]
  instanceTypes := #[]
  staticTypes := #[.boolean]
  resolved := Array.replicate 395 none
  statics := none }

def pool13 : Array CpInfo := pool [(2, .class_ 4), (1, u "java/lang/Object"), (0, u "<init>"), (0, u "()V"), (17, .class_ 26), (1, u "jdk/internal/util/Preconditions"), (28, .class_ 56), (0, u "jdk/internal/util/Preconditions$4"), (57, .class_ 115), (0, u "jdk/internal/util/Preconditions$1"), (7, u "SIOOBE_FORMATTER"), (0, u "Ljava/util/function/BiFunction;"), (0, .class_ 126), (0, u "jdk/internal/util/Preconditions$2"), (3, u "AIOOBE_FORMATTER"), (0, .class_ 132), (0, u "jdk/internal/util/Preconditions$3"), (3, u "IOOBE_FORMATTER")] 57

def k13m0 : Method := { name := "<init>", desc := "()V", sig := { parameters := [], returnType := none }, accessFlags := 1, code := none }
/-- jdk/internal/util/Preconditions -/
def k13 : Class := { plain "jdk/internal/util/Preconditions" (some 0) with
  accessFlags := 33
  interfaces := #[]
  cf := some (fileOf pool13 24 #[.nestMembers #[55, 131, 125, 114]] #[{ accessFlags := 1, nameIndex := 5, descriptorIndex := 6, attributes := #[] }] 33 2 #[] #[{ accessFlags := 25, nameIndex := 123, descriptorIndex := 124, attributes := #[] }, { accessFlags := 25, nameIndex := 130, descriptorIndex := 124, attributes := #[] }, { accessFlags := 25, nameIndex := 136, descriptorIndex := 124, attributes := #[] }])
  fields := #[{ name := "SIOOBE_FORMATTER", type := (.object "java/util/function/BiFunction"), accessFlags := 25, slot := 0, constantValue := 0 }, { name := "AIOOBE_FORMATTER", type := (.object "java/util/function/BiFunction"), accessFlags := 25, slot := 1, constantValue := 0 }, { name := "IOOBE_FORMATTER", type := (.object "java/util/function/BiFunction"), accessFlags := 25, slot := 2, constantValue := 0 }]
  methods := #[k13m0]
  instanceTypes := #[]
  staticTypes := #[(.object "java/util/function/BiFunction"), (.object "java/util/function/BiFunction"), (.object "java/util/function/BiFunction")]
  resolved := Array.replicate 194 none
  statics := some 2 }

def pool14 : Array CpInfo := pool [(9, u "<init>"), (6, .class_ 18), (1, u "java/lang/Object"), (0, u "()V"), (1, .class_ 23), (1, u "jdk/internal/util/ArraysSupport"), (0, u "LOG2_ARRAY_LONG_INDEX_SCALE"), (0, u "I"), (2, u "U"), (0, u "Ljdk/internal/misc/Unsafe;"), (8, u "BIG_ENDIAN"), (0, u "Z"), (8, u "LOG2_BYTE_BIT_SIZE"), (4, u "LOG2_ARRAY_INT_INDEX_SCALE"), (54, u "JLA"), (0, u "Ljdk/internal/access/JavaLangAccess;"), (11, u "LOG2_ARRAY_BOOLEAN_INDEX_SCALE"), (9, u "LOG2_ARRAY_BYTE_INDEX_SCALE"), (5, u "LOG2_ARRAY_CHAR_INDEX_SCALE"), (5, u "LOG2_ARRAY_SHORT_INDEX_SCALE"), (18, u "LOG2_ARRAY_FLOAT_INDEX_SCALE"), (24, u "LOG2_ARRAY_DOUBLE_INDEX_SCALE"), (89, u "T_BOOLEAN"), (2, u "T_CHAR"), (1, u "T_FLOAT"), (1, u "T_DOUBLE"), (1, u "T_BYTE"), (1, u "T_SHORT"), (1, u "T_INT"), (1, u "T_LONG"), (1, u "SOFT_MAX_ARRAY_LENGTH")] 83

def k14m0 : Method := { name := "<init>", desc := "()V", sig := { parameters := [], returnType := none }, accessFlags := 2, code := none }
/-- jdk/internal/util/ArraysSupport -/
def k14 : Class := { plain "jdk/internal/util/ArraysSupport" (some 0) with
  accessFlags := 33
  interfaces := #[]
  cf := some (fileOf pool14 21 #[] #[{ accessFlags := 2, nameIndex := 9, descriptorIndex := 19, attributes := #[] }] 33 16 #[] #[{ accessFlags := 24, nameIndex := 28, descriptorIndex := 29, attributes := #[] }, { accessFlags := 26, nameIndex := 38, descriptorIndex := 39, attributes := #[] }, { accessFlags := 25, nameIndex := 121, descriptorIndex := 25, attributes := #[] }, { accessFlags := 25, nameIndex := 131, descriptorIndex := 25, attributes := #[] }, { accessFlags := 25, nameIndex := 137, descriptorIndex := 25, attributes := #[] }, { accessFlags := 25, nameIndex := 143, descriptorIndex := 25, attributes := #[] }, { accessFlags := 25, nameIndex := 53, descriptorIndex := 25, attributes := #[] }, { accessFlags := 25, nameIndex := 24, descriptorIndex := 25, attributes := #[] }, { accessFlags := 25, nameIndex := 162, descriptorIndex := 25, attributes := #[] }, { accessFlags := 25, nameIndex := 187, descriptorIndex := 25, attributes := #[] }, { accessFlags := 26, nameIndex := 48, descriptorIndex := 25, attributes := #[] }, { accessFlags := 25, nameIndex := 277, descriptorIndex := 25, attributes := #[] }, { accessFlags := 25, nameIndex := 280, descriptorIndex := 25, attributes := #[] }, { accessFlags := 25, nameIndex := 282, descriptorIndex := 25, attributes := #[] }, { accessFlags := 25, nameIndex := 284, descriptorIndex := 25, attributes := #[] }, { accessFlags := 25, nameIndex := 286, descriptorIndex := 25, attributes := #[] }, { accessFlags := 25, nameIndex := 288, descriptorIndex := 25, attributes := #[] }, { accessFlags := 25, nameIndex := 290, descriptorIndex := 25, attributes := #[] }, { accessFlags := 25, nameIndex := 292, descriptorIndex := 25, attributes := #[] }, { accessFlags := 26, nameIndex := 108, descriptorIndex := 109, attributes := #[] }, { accessFlags := 25, nameIndex := 294, descriptorIndex := 25, attributes := #[] }])
  fields := #[{ name := "U", type := (.object "jdk/internal/misc/Unsafe"), accessFlags := 24, slot := 0, constantValue := 0 }, { name := "BIG_ENDIAN", type := .boolean, accessFlags := 26, slot := 1, constantValue := 0 }, { name := "LOG2_ARRAY_BOOLEAN_INDEX_SCALE", type := .int, accessFlags := 25, slot := 2, constantValue := 0 }, { name := "LOG2_ARRAY_BYTE_INDEX_SCALE", type := .int, accessFlags := 25, slot := 3, constantValue := 0 }, { name := "LOG2_ARRAY_CHAR_INDEX_SCALE", type := .int, accessFlags := 25, slot := 4, constantValue := 0 }, { name := "LOG2_ARRAY_SHORT_INDEX_SCALE", type := .int, accessFlags := 25, slot := 5, constantValue := 0 }, { name := "LOG2_ARRAY_INT_INDEX_SCALE", type := .int, accessFlags := 25, slot := 6, constantValue := 0 }, { name := "LOG2_ARRAY_LONG_INDEX_SCALE", type := .int, accessFlags := 25, slot := 7, constantValue := 0 }, { name := "LOG2_ARRAY_FLOAT_INDEX_SCALE", type := .int, accessFlags := 25, slot := 8, constantValue := 0 }, { name := "LOG2_ARRAY_DOUBLE_INDEX_SCALE", type := .int, accessFlags := 25, slot := 9, constantValue := 0 }, { name := "LOG2_BYTE_BIT_SIZE", type := .int, accessFlags := 26, slot := 10, constantValue := 0 }, { name := "T_BOOLEAN", type := .int, accessFlags := 25, slot := 11, constantValue := 0 }, { name := "T_CHAR", type := .int, accessFlags := 25, slot := 12, constantValue := 0 }, { name := "T_FLOAT", type := .int, accessFlags := 25, slot := 13, constantValue := 0 }, { name := "T_DOUBLE", type := .int, accessFlags := 25, slot := 14, constantValue := 0 }, { name := "T_BYTE", type := .int, accessFlags := 25, slot := 15, constantValue := 0 }, { name := "T_SHORT", type := .int, accessFlags := 25, slot := 16, constantValue := 0 }, { name := "T_INT", type := .int, accessFlags := 25, slot := 17, constantValue := 0 }, { name := "T_LONG", type := .int, accessFlags := 25, slot := 18, constantValue := 0 }, { name := "JLA", type := (.object "jdk/internal/access/JavaLangAccess"), accessFlags := 26, slot := 19, constantValue := 0 }, { name := "SOFT_MAX_ARRAY_LENGTH", type := .int, accessFlags := 25, slot := 20, constantValue := 0 }]
  methods := #[k14m0]
  instanceTypes := #[]
  staticTypes := #[(.object "jdk/internal/misc/Unsafe"), .boolean, .int, .int, .int, .int, .int, .int, .int, .int, .int, .int, .int, .int, .int, .int, .int, .int, .int, (.object "jdk/internal/access/JavaLangAccess"), .int]
  resolved := Array.replicate 378 none
  statics := none }

def pool15 : Array CpInfo := pool [(1, u "java/lang/Cloneable"), (0, .class_ 1), (0, u "java/lang/Object"), (0, .class_ 3)] 3

/-- java/lang/Cloneable -/
def k15 : Class := { plain "java/lang/Cloneable" (some 0) with
  accessFlags := 1537
  interfaces := #[]
  cf := some (fileOf pool15 2 #[] #[] 1537 4 #[] #[])
  fields := #[]
  methods := #[]
  instanceTypes := #[]
  staticTypes := #[]
  resolved := Array.replicate 8 none
  statics := none }

/-- the primitive byte -/
def k16 : Class := { plain "byte" none with kind := .primitive 'B', accessFlags := 0x411 }
/-- [B -/
def k17 : Class := { plain "[B" (some 0) with kind := .array 16 .byte, interfaces := #[15, 6], accessFlags := 1041 }

/-- the primitive int -/
def k18 : Class := { plain "int" none with kind := .primitive 'I', accessFlags := 0x411 }
/-- [I -/
def k19 : Class := { plain "[I" (some 0) with kind := .array 18 .int, interfaces := #[15, 6], accessFlags := 1041 }

def heap : Heap := #[{ cls := 8, slots := #[.ref 3, .ref 4, .ref 5, .ref 6, .null], vm := .statics 8 },
  { cls := 11, slots := #[.long 0, .int 1, .null, .int 0, .null, .int 0, .int 0], vm := .statics 11 },
  { cls := 13, slots := #[.null, .null, .null], vm := .statics 13 },
  { cls := 8, slots := #[.null, .int 0, .int 0], vm := .none },
  { cls := 8, slots := #[.null, .int 1, .int 0], vm := .none },
  { cls := 8, slots := #[.null, .int 2, .int 0], vm := .none },
  { cls := 8, slots := #[.null, .int 3, .int 0], vm := .none }]
def classes : Array Class := #[k0, k1, k2, k3, k4, k5, k6, k7, k8, k9, k10, k11, k12, k13, k14, k15, k16, k17, k18, k19]
def interned : List (Array UInt16 × Addr) := []
def slotsUsed : Nat := 27
def theMethod : MethodId := ⟨1, 2⟩
def args0 : Array Value := #[.int 5, .int 5]
def aboutOver (below : List Frame) : State where
  vm := { classes := classes, interned := interned.toArray }
  heap := heap
  slotsUsed := slotsUsed
  threads := #[{ frames := .invoking theMethod args0 :: below }]
def below0 : List Frame := [.native { method := ⟨0, 0⟩, args := #[] }]
def about1 : State := aboutOver below0
def p0 : Program := .bare "" "" ""
def e0 : Env := launch0.env 0 0 0
theorem w_frames : about1.frames = Frame.invoking theMethod args0 :: below0 := rfl
set_option maxRecDepth 65536 in
theorem w_args : argsFit about1.vm theMethod args0 = true := by decide +kernel
set_option maxRecDepth 65536 in
theorem w_heap : heapFits about1 = true := by decide +kernel
set_option maxRecDepth 65536 in
theorem w_runnable : about1.curStatus? = some .runnable := by decide +kernel
set_option maxRecDepth 65536 in
theorem w_alone : about1.alone = true := by decide +kernel
set_option maxRecDepth 65536 in
theorem w_named : about1.methodNamed? x = some theMethod := by decide +kernel
set_option maxRecDepth 65536 in
theorem w_hears : about1.hears theMethod below0 = true := by decide +kernel
set_option maxRecDepth 65536 in
theorem w_ripe : about1.ripe theMethod args0 below0 = true := by decide +kernel
theorem w_running : about1.status = .running := rfl
set_option maxRecDepth 65536 in
theorem w_room : about1.hasRoom e0.platform room_1 = true :=
  launch0.hasRoom_least _ room_1 (by decide +kernel) (by decide +kernel) (by decide +kernel) (by decide +kernel) (by decide +kernel) (by decide +kernel)
theorem allAtoms_all (ts : List Jvm.Cond) (a : Array Jvm.Value) (st : Jvm.State) : (allAtoms ts).before a st = ts.all (fun c => c.before a st) := by
  induction ts with
  | nil => rfl
  | cons c t ih =>
    show (Jvm.Cond.and c (allAtoms t)).before a st = _
    rw [Jvm.Cond.before_and, ih, List.all_cons]
def words1 : List Jvm.Cond := Jvm.Cond.code x code maxLocals ret :: tables_1
/-- a 'code' word, met by the world's own term for the bytes: nothing is compared byte by byte -/
theorem code_word {y : MethodName} {bytes : ByteArray} {mx : Nat} {rt : Option FieldType} {a : Array Value} {s : State} {m : MethodId} {meth : Method} {c : Code} (h1 : s.methodNamed? y = some m) (h2 : s.vm.method? m = some meth) (h3 : meth.code = some c) (h4 : c.code = bytes)
    (h5 : (c.maxLocals == mx && c.exceptionTable.isEmpty && decide (c.maxStack ≤ mostOperands) && decide (meth.sig.returnType = rt) && !meth.locks && decide (parseMethodDescriptor y.desc = some meth.sig)) = true) : (Jvm.Cond.code y bytes mx rt).before a s = true := by
  simp only [Bool.and_eq_true, beq_iff_eq, Bool.not_eq_true', decide_eq_true_eq] at h5
  obtain ⟨⟨⟨⟨⟨g1, g2⟩, g3⟩, g4⟩, g5⟩, g6⟩ := h5
  simp [Cond.before, Cond.holds, Cond.value, h1, h2, h3, h4, g1, g2, g3, g4, g5, g6]
def isCode : Jvm.Cond → Bool
  | .code _ _ _ _ => true
  | _ => false
theorem all_split {L : List Jvm.Cond} {P : Jvm.Cond → Bool} (h1 : L.all (fun c => isCode c || P c) = true) (h2 : ∀ c ∈ L.filter isCode, P c = true) : L.all P = true := by
  refine List.all_eq_true.mpr fun c hc => ?_
  have h := List.all_eq_true.mp h1 c hc
  rcases Bool.eq_false_or_eq_true (isCode c) with hi | hi
  · exact h2 c (List.mem_filter.mpr ⟨hc, hi⟩)
  · simpa [hi] using h
set_option maxRecDepth 65536 in
theorem w_c0 : (Jvm.Cond.code x code maxLocals ret).before args0 about1 = true := code_word (m := ⟨1, 2⟩) (meth := k1m2) (c := k1c2) (by decide +kernel) rfl rfl rfl (by decide +kernel)
set_option maxRecDepth 65536 in
theorem w_c1 : (Jvm.Cond.code ({ cls := "com/example/rillstream/rillstream/mysql/TokenIsNamePinLaw", name := "kindOf", desc := "(I)Lcom/example/rillstream/rillstream/mysql/StatementTokens$Token$Kind;" } : Jvm.MethodName) method_2_code (1 : Nat) (Option.some (Jvm.ClassFile.FieldType.object "com/example/rillstream/rillstream/mysql/StatementTokens$Token$Kind"))).before args0 about1 = true := code_word (m := ⟨1, 1⟩) (meth := k1m1) (c := k1c1) (by decide +kernel) rfl rfl rfl (by decide +kernel)
set_option maxRecDepth 65536 in
theorem w_c2 : (Jvm.Cond.code ({ cls := "java/lang/String", name := "valueOf", desc := "(C)Ljava/lang/String;" } : Jvm.MethodName) jdk_42_method_139_code (1 : Nat) (Option.some (Jvm.ClassFile.FieldType.object "java/lang/String"))).before args0 about1 = true := code_word (m := ⟨11, 1⟩) (meth := k11m1) (c := k11c1) (by decide +kernel) rfl rfl rfl (by decide +kernel)
set_option maxRecDepth 65536 in
theorem w_c3 : (Jvm.Cond.code ({ cls := "java/lang/StringLatin1", name := "canEncode", desc := "(C)Z" } : Jvm.MethodName) jdk_43_method_3_code (1 : Nat) (Option.some Jvm.ClassFile.FieldType.boolean)).before args0 about1 = true := code_word (m := ⟨12, 1⟩) (meth := k12m1) (c := k12c1) (by decide +kernel) rfl rfl rfl (by decide +kernel)
set_option maxRecDepth 65536 in
theorem w_c4 : (Jvm.Cond.code ({ cls := "java/lang/StringLatin1", name := "toBytes", desc := "(C)[B" } : Jvm.MethodName) jdk_43_method_46_code (1 : Nat) (Option.some (Jvm.ClassFile.FieldType.array Jvm.ClassFile.FieldType.byte))).before args0 about1 = true := code_word (m := ⟨12, 2⟩) (meth := k12m2) (c := k12c2) (by decide +kernel) rfl rfl rfl (by decide +kernel)
set_option maxRecDepth 65536 in
theorem w_c5 : (Jvm.Cond.code ({ cls := "java/lang/String", name := "<init>", desc := "([BB)V" } : Jvm.MethodName) jdk_42_method_151_code (3 : Nat) (Option.none : Option Jvm.ClassFile.FieldType)).before args0 about1 = true := code_word (m := ⟨11, 2⟩) (meth := k11m2) (c := k11c2) (by decide +kernel) rfl rfl rfl (by decide +kernel)
set_option maxRecDepth 65536 in
theorem w_c6 : (Jvm.Cond.code ({ cls := "java/lang/Object", name := "<init>", desc := "()V" } : Jvm.MethodName) object_method_1_code (1 : Nat) (Option.none : Option Jvm.ClassFile.FieldType)).before args0 about1 = true := code_word (m := ⟨0, 0⟩) (meth := k0m0) (c := k0c0) (by decide +kernel) rfl rfl rfl (by decide +kernel)
set_option maxRecDepth 65536 in
theorem w_c7 : (Jvm.Cond.code ({ cls := "com/example/rillstream/rillstream/mysql/StatementTokens$Token", name := "<init>", desc := "(Lcom/example/rillstream/rillstream/mysql/StatementTokens$Token$Kind;Ljava/lang/String;)V" } : Jvm.MethodName) prog_14_method_1_code (3 : Nat) (Option.none : Option Jvm.ClassFile.FieldType)).before args0 about1 = true := code_word (m := ⟨3, 0⟩) (meth := k3m0) (c := k3c0) (by decide +kernel) rfl rfl rfl (by decide +kernel)
set_option maxRecDepth 65536 in
theorem w_c8 : (Jvm.Cond.code ({ cls := "java/lang/Record", name := "<init>", desc := "()V" } : Jvm.MethodName) jdk_30_method_1_code (1 : Nat) (Option.none : Option Jvm.ClassFile.FieldType)).before args0 about1 = true := code_word (m := ⟨2, 0⟩) (meth := k2m0) (c := k2c0) (by decide +kernel) rfl rfl rfl (by decide +kernel)
set_option maxRecDepth 65536 in
theorem w_c9 : (Jvm.Cond.code ({ cls := "com/example/rillstream/rillstream/mysql/StatementTokens$Token", name := "isName", desc := "()Z" } : Jvm.MethodName) prog_14_method_4_code (1 : Nat) (Option.some Jvm.ClassFile.FieldType.boolean)).before args0 about1 = true := code_word (m := ⟨3, 3⟩) (meth := k3m3) (c := k3c3) (by decide +kernel) rfl rfl rfl (by decide +kernel)
set_option maxRecDepth 65536 in
theorem w_c10 : (Jvm.Cond.code ({ cls := "com/example/rillstream/rillstream/mysql/StatementTokens$Token", name := "isWord", desc := "()Z" } : Jvm.MethodName) prog_14_method_2_code (1 : Nat) (Option.some Jvm.ClassFile.FieldType.boolean)).before args0 about1 = true := code_word (m := ⟨3, 1⟩) (meth := k3m1) (c := k3c1) (by decide +kernel) rfl rfl rfl (by decide +kernel)
set_option maxRecDepth 65536 in
theorem w_c11 : (Jvm.Cond.code ({ cls := "com/example/rillstream/rillstream/mysql/StatementTokens$Token", name := "isQuoted", desc := "()Z" } : Jvm.MethodName) prog_14_method_3_code (1 : Nat) (Option.some Jvm.ClassFile.FieldType.boolean)).before args0 about1 = true := code_word (m := ⟨3, 2⟩) (meth := k3m2) (c := k3c2) (by decide +kernel) rfl rfl rfl (by decide +kernel)
def codes1 : List Jvm.Cond := [Jvm.Cond.code x code maxLocals ret, Jvm.Cond.code ({ cls := "com/example/rillstream/rillstream/mysql/TokenIsNamePinLaw", name := "kindOf", desc := "(I)Lcom/example/rillstream/rillstream/mysql/StatementTokens$Token$Kind;" } : Jvm.MethodName) method_2_code (1 : Nat) (Option.some (Jvm.ClassFile.FieldType.object "com/example/rillstream/rillstream/mysql/StatementTokens$Token$Kind")), Jvm.Cond.code ({ cls := "java/lang/String", name := "valueOf", desc := "(C)Ljava/lang/String;" } : Jvm.MethodName) jdk_42_method_139_code (1 : Nat) (Option.some (Jvm.ClassFile.FieldType.object "java/lang/String")), Jvm.Cond.code ({ cls := "java/lang/StringLatin1", name := "canEncode", desc := "(C)Z" } : Jvm.MethodName) jdk_43_method_3_code (1 : Nat) (Option.some Jvm.ClassFile.FieldType.boolean), Jvm.Cond.code ({ cls := "java/lang/StringLatin1", name := "toBytes", desc := "(C)[B" } : Jvm.MethodName) jdk_43_method_46_code (1 : Nat) (Option.some (Jvm.ClassFile.FieldType.array Jvm.ClassFile.FieldType.byte)), Jvm.Cond.code ({ cls := "java/lang/String", name := "<init>", desc := "([BB)V" } : Jvm.MethodName) jdk_42_method_151_code (3 : Nat) (Option.none : Option Jvm.ClassFile.FieldType), Jvm.Cond.code ({ cls := "java/lang/Object", name := "<init>", desc := "()V" } : Jvm.MethodName) object_method_1_code (1 : Nat) (Option.none : Option Jvm.ClassFile.FieldType), Jvm.Cond.code ({ cls := "com/example/rillstream/rillstream/mysql/StatementTokens$Token", name := "<init>", desc := "(Lcom/example/rillstream/rillstream/mysql/StatementTokens$Token$Kind;Ljava/lang/String;)V" } : Jvm.MethodName) prog_14_method_1_code (3 : Nat) (Option.none : Option Jvm.ClassFile.FieldType), Jvm.Cond.code ({ cls := "java/lang/Record", name := "<init>", desc := "()V" } : Jvm.MethodName) jdk_30_method_1_code (1 : Nat) (Option.none : Option Jvm.ClassFile.FieldType), Jvm.Cond.code ({ cls := "com/example/rillstream/rillstream/mysql/StatementTokens$Token", name := "isName", desc := "()Z" } : Jvm.MethodName) prog_14_method_4_code (1 : Nat) (Option.some Jvm.ClassFile.FieldType.boolean), Jvm.Cond.code ({ cls := "com/example/rillstream/rillstream/mysql/StatementTokens$Token", name := "isWord", desc := "()Z" } : Jvm.MethodName) prog_14_method_2_code (1 : Nat) (Option.some Jvm.ClassFile.FieldType.boolean), Jvm.Cond.code ({ cls := "com/example/rillstream/rillstream/mysql/StatementTokens$Token", name := "isQuoted", desc := "()Z" } : Jvm.MethodName) prog_14_method_3_code (1 : Nat) (Option.some Jvm.ClassFile.FieldType.boolean)]
set_option maxRecDepth 65536 in
theorem codes_eq : words1.filter isCode = codes1 := rfl
theorem w_codes : ∀ c ∈ words1.filter isCode, c.before args0 about1 = true := by
  rw [codes_eq]
  intro c hc
  simp only [codes1, List.mem_cons, List.not_mem_nil, or_false] at hc
  rcases hc with rfl | rfl | rfl | rfl | rfl | rfl | rfl | rfl | rfl | rfl | rfl | rfl
  · exact w_c0
  · exact w_c1
  · exact w_c2
  · exact w_c3
  · exact w_c4
  · exact w_c5
  · exact w_c6
  · exact w_c7
  · exact w_c8
  · exact w_c9
  · exact w_c10
  · exact w_c11
set_option maxRecDepth 65536 in
theorem w_t1 : (words1.take 24).all (fun c => isCode c || c.before args0 about1) = true := by decide +kernel
set_option maxRecDepth 65536 in
theorem w_t2 : ((words1.drop 24).take 24).all (fun c => isCode c || c.before args0 about1) = true := by decide +kernel
set_option maxRecDepth 65536 in
theorem w_t3 : (((words1.drop 24).drop 24).take 24).all (fun c => isCode c || c.before args0 about1) = true := by decide +kernel
set_option maxRecDepth 65536 in
theorem w_t4 : (((words1.drop 24).drop 24).drop 24).all (fun c => isCode c || c.before args0 about1) = true := by decide +kernel
theorem w_tables : (allAtoms (Jvm.Cond.code x code maxLocals ret :: tables_1)).before args0 about1 = true := by
  rw [allAtoms_all]
  show words1.all (fun c => c.before args0 about1) = true
  refine all_split ?_ w_codes
  rw [← List.take_append_drop 24 words1, List.all_append, w_t1, ← List.take_append_drop 24 (words1.drop 24), List.all_append, w_t2, ← List.take_append_drop 24 ((words1.drop 24).drop 24), List.all_append, w_t3, w_t4]
  rfl
set_option maxRecDepth 65536 in
theorem w_rest : rest_1_c.before args0 about1 = true := by decide +kernel
set_option maxRecDepth 65536 in
theorem w_case : (Jvm.Cond.and given_1 narrow_1).before args0 about1 = true := by decide +kernel
theorem w_applies : (headSpec (Jvm.Cond.code x code maxLocals ret :: tables_1) room_1).applies x e0.platform about1 = true :=
  (Spec.applies_iff w_frames).mpr ⟨w_running, w_runnable, w_alone, w_named, w_hears, w_ripe, w_room, w_tables⟩
theorem atStart : AtStart classFile x code maxLocals ret World_1 tables_1 room_1 Calls_1 rest_1 Pre_1 launch0 p0 e0 about1 theMethod args0 below0 :=
  ⟨lists_1, trivial, launch0.admits_env _ _ _, launch0.least_env, fairChoices_fair.cas, fairChoices_fair.clock, w_frames, w_args, w_heap, w_applies, trivial, w_rest, w_case⟩
end start1
theorem witness_1 : WitnessClaimed_1 := ⟨start1.p0, start1.e0, start1.about1, start1.theMethod, start1.args0, start1.below0, start1.atStart⟩
end Jvm.Pilot.@@N@@
