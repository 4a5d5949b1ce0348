import JvmDerived
import JvmDerived.Pilot.@@N@@Statement
import JvmDerived.Pilot.@@N@@Code
set_option linter.unusedVariables false
set_option linter.unusedSimpArgs false
namespace Jvm.RoadKit
open Sem ClassFile Op Lib Jvm.Stand Jvm.Free Jvm.LawKit
section New
variable {p : Program} {l : Launch} {e : Env} {R : Room} {s : State} {m : MethodId} {args : Array Value} {below : List Frame} {meth : Method} {c : Code} {T : State} {locs : List Loc} {cells slots : Nat}
theorem retI (X : Stand p l e R s m args below meth c T locs cells slots) (hx : p.tables.exec = Jvm.exec) {pc : Nat} {Ls : Array Slot} {z : Int32} {rest : List Value} (hret : meth.sig.returnType = some .int) (hd : decode c.code pc = .ok (.ireturn, 1)) {fs : List Frame}
    (hl : ∀ (f : JFrame) (acts : List Action), f.method = m → f.locked = none → f.entered = [] → (doReturn e (T.setTop f) acts (some (.int z))).1 = T.setFrames fs) : Steps p.tables e below (T.setTop (mkF m pc Ls (.int z :: rest))) (T.setFrames fs) := by
  have hm' : T.vm.method? m = some meth := X.method'
  have hn : narrow .int (.int z) = .int z := rfl
  show Steps p.tables e below (T.setTop { method := m, pc := pc, locals := Ls, stack := _ :: rest, locked := none }) _
  jvm_step X.here [X.here.top, hx, hd, hm', hret, hn]
  first | (intro acts; rw [hl _ acts rfl rfl rfl]) | rw [hl _ _ rfl rfl rfl]
  exact Steps.refl _
end New
end Jvm.RoadKit
namespace Jvm.Pilot.@@N@@
open Jvm Jvm.ClassFile Sem Op Lib Jvm.Free Jvm.Stand Jvm.LawKit Jvm.RoadKit Bundle Jvm.Pilot.@@N@@.Jvm.D
theorem own_lc_lt (x y : Int64) : lcmpW x y < 0 ↔ x < y := by rw [lcW]; exact lc_lt x y
theorem own_lc_gt (x y : Int64) : 0 < lcmpW x y ↔ y < x := by rw [lcW]; exact lc_gt x y
theorem own_lc_eq (x y : Int64) : lcmpW x y = 0 ↔ x = y := by rw [lcW]; exact lc_eq x y
theorem own_ri {P : Prop} [Decidable P] {a b : Value} (h1 : a.isRef = true) (h2 : b.isRef = true) : (if P then a else b).isRef = true := by
  by_cases h : P
  · rw [if_pos h]; exact h1
  · rw [if_neg h]; exact h2
theorem own_sta_keep {Z : State} {h h' : Heap} {C n d : String} {w : Value} {ws : List Addr} (F : Sta Z h C n d w) (K : Keep h h' ws) (q : ∀ x ∈ ws, ∀ cell : Cell, h[x]? = some cell → cell.vm.isStatics = false) : Sta Z h' C n d w := by
  obtain ⟨cf, i, k, f, st, cell, h1, h2, h3, h4, h5, h6, h7⟩ := F
  exact ⟨cf, i, k, f, st, cell, h1, h2, h3, h4, K.2.1 st cell h5 (fun z => by rw [q st z cell h5] at h6; cases h6), h6, h7⟩
theorem pd_0 : parseMethodDescriptor "(IIJJ)V" = some ⟨[.int, .int, .long, .long], none⟩ := by decide +kernel
theorem pd_1 : parseMethodDescriptor "()V" = some ⟨[], none⟩ := by decide +kernel
theorem pd_2 : parseMethodDescriptor "(I)I" = some ⟨[.int], some .int⟩ := by decide +kernel
theorem pd_3 : parseMethodDescriptor "(Ljava/lang/Object;)Z" = some ⟨[(.object "java/lang/Object")], some .boolean⟩ := by decide +kernel
theorem pd_4 : parseMethodDescriptor "(J)Ljava/lang/Long;" = some ⟨[.long], some (.object "java/lang/Long")⟩ := by decide +kernel
theorem pd_5 : parseMethodDescriptor "(J)V" = some ⟨[.long], none⟩ := by decide +kernel
theorem own_len {args : Array Value} {s : State} {t : Term} {a : Addr} {cell : Cell} {v : Value} (ev : t.eval args s none [] s = some (.ref a)) (hc : s.arrayAt? a = some cell) (h : (Term.length t).eval args s none [] s = some v) : cell.slots.size < 2 ^ 31 := by
  simp only [Term.eval, ev, hc, Option.bind_eq_bind, Option.bind_some] at h
  split at h
  · assumption
  · cases h
def own_f1 (x : Int32) : Int32 := (x - (((x.toUInt32 >>> ((1 : Int32) &&& 31).toUInt32).toInt32) &&& (1431655765 : Int32)))
def own_f2 (x : Int32) : Int32 := ((x &&& (858993459 : Int32)) + (((x.toUInt32 >>> ((2 : Int32) &&& 31).toUInt32).toInt32) &&& (858993459 : Int32)))
def own_f3 (x : Int32) : Int32 := ((x + ((x.toUInt32 >>> ((4 : Int32) &&& 31).toUInt32).toInt32)) &&& (252645135 : Int32))
def own_f4 (x : Int32) : Int32 := (x + ((x.toUInt32 >>> ((8 : Int32) &&& 31).toUInt32).toInt32))
def own_f5 (x : Int32) : Int32 := (x + ((x.toUInt32 >>> ((16 : Int32) &&& 31).toUInt32).toInt32))
def own_bc (x : Int32) : Int32 := own_f5 (own_f4 (own_f3 (own_f2 (own_f1 x)))) &&& (63 : Int32)
def own_good (d : Int32) : Prop := own_bc d = 1 ∧ ¬ d < (512 : Int32) ∧ ¬ (1048576 : Int32) < d
theorem own_goodK : ∀ k : Fin 12, own_bc ((512 : Int32) <<< ((Int32.ofNat k.val) &&& 31)) = 1 ∧ ¬ ((512 : Int32) <<< ((Int32.ofNat k.val) &&& 31)) < (512 : Int32) ∧ ¬ (1048576 : Int32) < ((512 : Int32) <<< ((Int32.ofNat k.val) &&& 31)) := by decide +kernel
theorem own_good_of (x : Int32) : own_good ((512 : Int32) <<< (((x &&& (255 : Int32)) % (12 : Int32)) &&& 31)) := by
  have h := c_and x (255 : Int32) (by decide)
  have q := (c_irem (x &&& (255 : Int32)) (12 : Int32) 12 rfl).1 h.1
  obtain ⟨k, hk, e⟩ : ∃ k : Nat, k < 12 ∧ (x &&& (255 : Int32)) % (12 : Int32) = Int32.ofNat k := by
    refine ⟨((x &&& (255 : Int32)) % (12 : Int32)).toInt.toNat, by omega, ?_⟩
    apply Int32.toInt_inj.mp
    rw [Int32.toInt_ofNat_of_lt (by omega)]
    omega
  rw [e]
  exact own_goodK ⟨k, hk⟩
/-- an object of java/lang/Long is no HashTree -/
theorem own_noins {Z : State} {h : Heap} {a : Addr} {a0 : Array Value} {K : String} {n : Nat} (E : Exa Z h a "java/lang/Long") (w1 : (Cond.superclass "java/lang/Long" "java/lang/Number").before a0 Z = true) (w2 : (Cond.superclass "java/lang/Number" "java/lang/Object").before a0 Z = true) (w3 : (Cond.noSuperclass "java/lang/Object").before a0 Z = true) (w4 : (Cond.instantiable K n).before a0 Z = true) (n1 : K ≠ "java/lang/Long") (n2 : K ≠ "java/lang/Number") (n3 : K ≠ "java/lang/Object") : Ins Z h a K false := by
  obtain ⟨cell, k, h1, h2, h3, h4, h5⟩ := E
  obtain ⟨cN, kL, kN, fN, gL, gN, sL, oL, oN, iL⟩ := Cond.superclass_spec h2 w1
  obtain ⟨cO, kN', kO, fO, gN', gO, sN, -, oO, -⟩ := Cond.superclass_spec fN w2
  obtain ⟨cO', kO', fO', gO', sO, -, -⟩ := Cond.noSuperclass_spec w3
  obtain ⟨cK, kK, fK, gK, oK, iK, -⟩ := Cond.instantiable_spec w4
  cases fO.symm.trans fO'
  cases gO.symm.trans gO'
  cases gN.symm.trans gN'
  have ne : ∀ {A B : String} {c d : ClassId}, Z.vm.findClass A = some c → Z.vm.findClass B = some d → A ≠ B → c ≠ d := fun p q r e => by
    subst e
    obtain ⟨k1, a1, a2⟩ := Vm.findClass_spec p
    obtain ⟨k2, b1, b2⟩ := Vm.findClass_spec q
    cases a1.symm.trans b1
    exact r (a2.symm.trans b2)
  have hLK := ne h2 fK (Ne.symm n1)
  have hNK := ne fN fK (Ne.symm n2)
  have hOK := ne fO fK (Ne.symm n3)
  have iK' : kK.isInterface = false := by
    cases hi : kK.isInterface
    · rfl
    · rw [hi] at iK; simp at iK
  have sub : ∀ fuel, Z.vm.isSubclassAux fuel cell.cls cK = false := fun fuel => by
    rcases fuel with _ | _ | _ | fuel
    · rfl
    · simp [Vm.isSubclassAux, hLK, gL, sL]
    · simp [Vm.isSubclassAux, hLK, hNK, gL, sL, gN, sN]
    · simp [Vm.isSubclassAux, hLK, hNK, hOK, gL, sL, gN, sN, gO, sO]
  refine ⟨cell, cK, h1, fK, ?_⟩
  have q : Z.vm.assignable cell.cls cK = false := by
    show Z.vm.assignableAux (255 + 1) cell.cls cK = false
    simp [Vm.assignableAux, hLK, gL, gK, oL, oK, iK', Vm.isSubclass, sub]
  simp [q]
theorem d4_0 : decode jdk_33_method_49_code 0 = .ok (.iload_n 0, 1) := by decide +kernel
theorem d4_1 : decode jdk_33_method_49_code 1 = .ok (.iload_n 0, 1) := by decide +kernel
theorem d4_2 : decode jdk_33_method_49_code 2 = .ok (.iconst 1, 1) := by decide +kernel
theorem d4_3 : decode jdk_33_method_49_code 3 = .ok (.iushr, 1) := by decide +kernel
theorem d4_4 : decode jdk_33_method_49_code 4 = .ok (.ldc_w 265, 3) := by decide +kernel
theorem d4_7 : decode jdk_33_method_49_code 7 = .ok (.iand, 1) := by decide +kernel
theorem d4_8 : decode jdk_33_method_49_code 8 = .ok (.isub, 1) := by decide +kernel
theorem d4_9 : decode jdk_33_method_49_code 9 = .ok (.istore_n 0, 1) := by decide +kernel
theorem d4_10 : decode jdk_33_method_49_code 10 = .ok (.iload_n 0, 1) := by decide +kernel
theorem d4_11 : decode jdk_33_method_49_code 11 = .ok (.ldc_w 266, 3) := by decide +kernel
theorem d4_14 : decode jdk_33_method_49_code 14 = .ok (.iand, 1) := by decide +kernel
theorem d4_15 : decode jdk_33_method_49_code 15 = .ok (.iload_n 0, 1) := by decide +kernel
theorem d4_16 : decode jdk_33_method_49_code 16 = .ok (.iconst 2, 1) := by decide +kernel
theorem d4_17 : decode jdk_33_method_49_code 17 = .ok (.iushr, 1) := by decide +kernel
theorem d4_18 : decode jdk_33_method_49_code 18 = .ok (.ldc_w 266, 3) := by decide +kernel
theorem d4_21 : decode jdk_33_method_49_code 21 = .ok (.iand, 1) := by decide +kernel
theorem d4_22 : decode jdk_33_method_49_code 22 = .ok (.iadd, 1) := by decide +kernel
theorem d4_23 : decode jdk_33_method_49_code 23 = .ok (.istore_n 0, 1) := by decide +kernel
theorem d4_24 : decode jdk_33_method_49_code 24 = .ok (.iload_n 0, 1) := by decide +kernel
theorem d4_25 : decode jdk_33_method_49_code 25 = .ok (.iload_n 0, 1) := by decide +kernel
theorem d4_26 : decode jdk_33_method_49_code 26 = .ok (.iconst 4, 1) := by decide +kernel
theorem d4_27 : decode jdk_33_method_49_code 27 = .ok (.iushr, 1) := by decide +kernel
theorem d4_28 : decode jdk_33_method_49_code 28 = .ok (.iadd, 1) := by decide +kernel
theorem d4_29 : decode jdk_33_method_49_code 29 = .ok (.ldc_w 267, 3) := by decide +kernel
theorem d4_32 : decode jdk_33_method_49_code 32 = .ok (.iand, 1) := by decide +kernel
theorem d4_33 : decode jdk_33_method_49_code 33 = .ok (.istore_n 0, 1) := by decide +kernel
theorem d4_34 : decode jdk_33_method_49_code 34 = .ok (.iload_n 0, 1) := by decide +kernel
theorem d4_35 : decode jdk_33_method_49_code 35 = .ok (.iload_n 0, 1) := by decide +kernel
theorem d4_36 : decode jdk_33_method_49_code 36 = .ok (.bipush 8, 2) := by decide +kernel
theorem d4_38 : decode jdk_33_method_49_code 38 = .ok (.iushr, 1) := by decide +kernel
theorem d4_39 : decode jdk_33_method_49_code 39 = .ok (.iadd, 1) := by decide +kernel
theorem d4_40 : decode jdk_33_method_49_code 40 = .ok (.istore_n 0, 1) := by decide +kernel
theorem d4_41 : decode jdk_33_method_49_code 41 = .ok (.iload_n 0, 1) := by decide +kernel
theorem d4_42 : decode jdk_33_method_49_code 42 = .ok (.iload_n 0, 1) := by decide +kernel
theorem d4_43 : decode jdk_33_method_49_code 43 = .ok (.bipush 16, 2) := by decide +kernel
theorem d4_45 : decode jdk_33_method_49_code 45 = .ok (.iushr, 1) := by decide +kernel
theorem d4_46 : decode jdk_33_method_49_code 46 = .ok (.iadd, 1) := by decide +kernel
theorem d4_47 : decode jdk_33_method_49_code 47 = .ok (.istore_n 0, 1) := by decide +kernel
theorem d4_48 : decode jdk_33_method_49_code 48 = .ok (.iload_n 0, 1) := by decide +kernel
theorem d4_49 : decode jdk_33_method_49_code 49 = .ok (.bipush 63, 2) := by decide +kernel
theorem d4_51 : decode jdk_33_method_49_code 51 = .ok (.iand, 1) := by decide +kernel
theorem d4_52 : decode jdk_33_method_49_code 52 = .ok (.ireturn, 1) := by decide +kernel
theorem pn_0 : plainName "java/lang/Integer" = true := by first | (simp [plainName, overriddenIn]; done) | decide +kernel
theorem ef_rm4 (m : MethodId) (x0 : Int32) : entryFrame m #[(.int x0)] 1 = mkF m 0 #[.val (.int x0)] [] := by first | (simp [entryFrame, mkF, argsToLocals, Value.category]; done) | rfl
def Q_rm4 (Z : State) (p0 : Int32) (h0 : Heap) (n0 : Nat) (v : Option Value) (h : Heap) (L : List Loc) : Prop := v = some (.int (own_bc p0)) ∧ Fr n0 L ∧ h = h0
set_option maxRecDepth 65536 in
set_option maxHeartbeats 40000000 in
theorem rm4 (l : Launch) (Z : State) (a0 : Array Value) (hw : ∀ d ∈ tables_1, d.before a0 Z = true) (ws : List Jvm.Cond) (p0 : Int32) (h0 : Heap) (n0 : Nat) (Z0 : n0 ≤ h0.size) :
    MetFree l (⟨"java/lang/Integer", "bitCount", "(I)I"⟩ : MethodName) (head1 (Jvm.Cond.code (⟨"java/lang/Integer", "bitCount", "(I)I"⟩ : MethodName) jdk_33_method_49_code 1 (some .int) :: ws) ({ frames := 0, cells := 0, slots := 0, locals := 0 } : Room)) (fun a U => a = #[(.int p0)] ∧ Z.Warmed39 U.vm ∧ U.heap = h0) (fun _ _ _ _ _ => True) (fun _ U o U' => ∃ v L, o = .returned v ∧ Q_rm4 Z p0 h0 n0 v U'.heap L ∧ FrameEnd U o U' L ({ frames := 0, cells := 0, slots := 0, locals := 0 } : Room).cells ({ frames := 0, cells := 0, slots := 0, locals := 0 } : Room).slots) := by
  refine MetFree.of_bodySF (plainFor_of_name pn_0) hisR ?_
  intro p e s m args below meth c s₁ Bd hml0 hP hK
  obtain ⟨rfl, hZ, hh⟩ := hP
  have hx := Bd.exec
  have hby := Bd.bytes
  have hml : c.maxLocals = 1 := hml0
  have hown : s.vm.findClass "java/lang/Integer" = some m.cls := findClass_of_methodNamed Bd.named
  have hnm := (name_of_methodNamed Bd.named Bd.method).1
  have X0 : Stand p l e ({ frames := 0, cells := 0, slots := 0, locals := 0 } : Room) s m #[(.int p0)] below meth c s₁ [] 0 0 := Stand.of_body Bd
  have e0 : s₁.heap = h0 := by rw [← hh, Bd.state]; rfl
  have N0 := Fr.nil n0
  have pre0 : ∀ t, Steps p.tables e below (s₁.setTop (mkF m 0 #[.val (.int p0)] [])) t → Steps p.tables e below (s₁.setTop (entryFrame m #[(.int p0)] 1)) t := fun t k => castTop (ef_rm4 m p0) k
  have st1 : ∀ target, Steps p.tables e below (s₁.setTop (mkF m 10 #[.val (.int (p0 - (((p0.toUInt32 >>> ((1 : Int32) &&& 31).toUInt32).toInt32) &&& (1431655765 : Int32))))] [])) target → Steps p.tables e below (s₁.setTop (mkF m 0 #[.val (.int p0)] [])) target := by
    intro target kt
    show Steps p.tables e below (s₁.setTop (mkF m 0 #[.val (.int p0)] [])) _
    refine XS.iloadN X0.here hx rfl (hb hby d4_0) rfl ?_
    show Steps p.tables e below (s₁.setTop (mkF m 1 #[.val (.int p0)] [(.int p0)])) _
    refine XS.iloadN X0.here hx rfl (hb hby d4_1) rfl ?_
    show Steps p.tables e below (s₁.setTop (mkF m 2 #[.val (.int p0)] [(.int p0), (.int p0)])) _
    refine XS.iconst X0.here hx rfl (hb hby d4_2) ?_
    show Steps p.tables e below (s₁.setTop (mkF m 3 #[.val (.int p0)] [(.int (1 : Int32)), (.int p0), (.int p0)])) _
    refine XS.iushr X0.here hx rfl (hb hby d4_3) rfl ?_
    show Steps p.tables e below (s₁.setTop (mkF m 4 #[.val (.int p0)] [(.int ((p0.toUInt32 >>> ((1 : Int32) &&& 31).toUInt32).toInt32)), (.int p0)])) _
    refine X0.ldcwInt hx hown (mvT hZ (hw _ (List.mem_of_getElem? (i := 16) rfl))) (g := (mkF m 4 #[.val (.int p0)] [(.int ((p0.toUInt32 >>> ((1 : Int32) &&& 31).toUInt32).toInt32)), (.int p0)])) rfl (hb hby d4_4) _ ?_
    show Steps p.tables e below (s₁.setTop (mkF m 7 #[.val (.int p0)] [(.int (1431655765 : Int32)), (.int ((p0.toUInt32 >>> ((1 : Int32) &&& 31).toUInt32).toInt32)), (.int p0)])) _
    refine XS.iand X0.here hx rfl (hb hby d4_7) rfl ?_
    show Steps p.tables e below (s₁.setTop (mkF m 8 #[.val (.int p0)] [(.int (((p0.toUInt32 >>> ((1 : Int32) &&& 31).toUInt32).toInt32) &&& (1431655765 : Int32))), (.int p0)])) _
    refine XS.isub X0.here hx rfl (hb hby d4_8) rfl ?_
    show Steps p.tables e below (s₁.setTop (mkF m 9 #[.val (.int p0)] [(.int (p0 - (((p0.toUInt32 >>> ((1 : Int32) &&& 31).toUInt32).toInt32) &&& (1431655765 : Int32))))])) _
    refine XS.istoreN X0.here hx rfl (hb hby d4_9) rfl (l' := #[.val (.int (p0 - (((p0.toUInt32 >>> ((1 : Int32) &&& 31).toUInt32).toInt32) &&& (1431655765 : Int32))))]) rfl ?_
    exact kt
  obtain ⟨b1, hb1⟩ : ∃ z : Int32, z = (p0 - (((p0.toUInt32 >>> ((1 : Int32) &&& 31).toUInt32).toInt32) &&& (1431655765 : Int32))) := ⟨_, rfl⟩
  rw [← hb1] at st1
  have st2 : ∀ target, Steps p.tables e below (s₁.setTop (mkF m 24 #[.val (.int ((b1 &&& (858993459 : Int32)) + (((b1.toUInt32 >>> ((2 : Int32) &&& 31).toUInt32).toInt32) &&& (858993459 : Int32))))] [])) target → Steps p.tables e below (s₁.setTop (mkF m 10 #[.val (.int b1)] [])) target := by
    intro target kt
    show Steps p.tables e below (s₁.setTop (mkF m 10 #[.val (.int b1)] [])) _
    refine XS.iloadN X0.here hx rfl (hb hby d4_10) rfl ?_
    show Steps p.tables e below (s₁.setTop (mkF m 11 #[.val (.int b1)] [(.int b1)])) _
    refine X0.ldcwInt hx hown (mvT hZ (hw _ (List.mem_of_getElem? (i := 17) rfl))) (g := (mkF m 11 #[.val (.int b1)] [(.int b1)])) rfl (hb hby d4_11) _ ?_
    show Steps p.tables e below (s₁.setTop (mkF m 14 #[.val (.int b1)] [(.int (858993459 : Int32)), (.int b1)])) _
    refine XS.iand X0.here hx rfl (hb hby d4_14) rfl ?_
    show Steps p.tables e below (s₁.setTop (mkF m 15 #[.val (.int b1)] [(.int (b1 &&& (858993459 : Int32)))])) _
    refine XS.iloadN X0.here hx rfl (hb hby d4_15) rfl ?_
    show Steps p.tables e below (s₁.setTop (mkF m 16 #[.val (.int b1)] [(.int b1), (.int (b1 &&& (858993459 : Int32)))])) _
    refine XS.iconst X0.here hx rfl (hb hby d4_16) ?_
    show Steps p.tables e below (s₁.setTop (mkF m 17 #[.val (.int b1)] [(.int (2 : Int32)), (.int b1), (.int (b1 &&& (858993459 : Int32)))])) _
    refine XS.iushr X0.here hx rfl (hb hby d4_17) rfl ?_
    show Steps p.tables e below (s₁.setTop (mkF m 18 #[.val (.int b1)] [(.int ((b1.toUInt32 >>> ((2 : Int32) &&& 31).toUInt32).toInt32)), (.int (b1 &&& (858993459 : Int32)))])) _
    refine X0.ldcwInt hx hown (mvT hZ (hw _ (List.mem_of_getElem? (i := 17) rfl))) (g := (mkF m 18 #[.val (.int b1)] [(.int ((b1.toUInt32 >>> ((2 : Int32) &&& 31).toUInt32).toInt32)), (.int (b1 &&& (858993459 : Int32)))])) rfl (hb hby d4_18) _ ?_
    show Steps p.tables e below (s₁.setTop (mkF m 21 #[.val (.int b1)] [(.int (858993459 : Int32)), (.int ((b1.toUInt32 >>> ((2 : Int32) &&& 31).toUInt32).toInt32)), (.int (b1 &&& (858993459 : Int32)))])) _
    refine XS.iand X0.here hx rfl (hb hby d4_21) rfl ?_
    show Steps p.tables e below (s₁.setTop (mkF m 22 #[.val (.int b1)] [(.int (((b1.toUInt32 >>> ((2 : Int32) &&& 31).toUInt32).toInt32) &&& (858993459 : Int32))), (.int (b1 &&& (858993459 : Int32)))])) _
    refine XS.iadd X0.here hx rfl (hb hby d4_22) rfl ?_
    show Steps p.tables e below (s₁.setTop (mkF m 23 #[.val (.int b1)] [(.int ((b1 &&& (858993459 : Int32)) + (((b1.toUInt32 >>> ((2 : Int32) &&& 31).toUInt32).toInt32) &&& (858993459 : Int32))))])) _
    refine XS.istoreN X0.here hx rfl (hb hby d4_23) rfl (l' := #[.val (.int ((b1 &&& (858993459 : Int32)) + (((b1.toUInt32 >>> ((2 : Int32) &&& 31).toUInt32).toInt32) &&& (858993459 : Int32))))]) rfl ?_
    exact kt
  obtain ⟨b2, hb2⟩ : ∃ z : Int32, z = ((b1 &&& (858993459 : Int32)) + (((b1.toUInt32 >>> ((2 : Int32) &&& 31).toUInt32).toInt32) &&& (858993459 : Int32))) := ⟨_, rfl⟩
  rw [← hb2] at st2
  have st3 : ∀ target, Steps p.tables e below (s₁.setTop (mkF m 34 #[.val (.int ((b2 + ((b2.toUInt32 >>> ((4 : Int32) &&& 31).toUInt32).toInt32)) &&& (252645135 : Int32)))] [])) target → Steps p.tables e below (s₁.setTop (mkF m 24 #[.val (.int b2)] [])) target := by
    intro target kt
    show Steps p.tables e below (s₁.setTop (mkF m 24 #[.val (.int b2)] [])) _
    refine XS.iloadN X0.here hx rfl (hb hby d4_24) rfl ?_
    show Steps p.tables e below (s₁.setTop (mkF m 25 #[.val (.int b2)] [(.int b2)])) _
    refine XS.iloadN X0.here hx rfl (hb hby d4_25) rfl ?_
    show Steps p.tables e below (s₁.setTop (mkF m 26 #[.val (.int b2)] [(.int b2), (.int b2)])) _
    refine XS.iconst X0.here hx rfl (hb hby d4_26) ?_
    show Steps p.tables e below (s₁.setTop (mkF m 27 #[.val (.int b2)] [(.int (4 : Int32)), (.int b2), (.int b2)])) _
    refine XS.iushr X0.here hx rfl (hb hby d4_27) rfl ?_
    show Steps p.tables e below (s₁.setTop (mkF m 28 #[.val (.int b2)] [(.int ((b2.toUInt32 >>> ((4 : Int32) &&& 31).toUInt32).toInt32)), (.int b2)])) _
    refine XS.iadd X0.here hx rfl (hb hby d4_28) rfl ?_
    show Steps p.tables e below (s₁.setTop (mkF m 29 #[.val (.int b2)] [(.int (b2 + ((b2.toUInt32 >>> ((4 : Int32) &&& 31).toUInt32).toInt32)))])) _
    refine X0.ldcwInt hx hown (mvT hZ (hw _ (List.mem_of_getElem? (i := 18) rfl))) (g := (mkF m 29 #[.val (.int b2)] [(.int (b2 + ((b2.toUInt32 >>> ((4 : Int32) &&& 31).toUInt32).toInt32)))])) rfl (hb hby d4_29) _ ?_
    show Steps p.tables e below (s₁.setTop (mkF m 32 #[.val (.int b2)] [(.int (252645135 : Int32)), (.int (b2 + ((b2.toUInt32 >>> ((4 : Int32) &&& 31).toUInt32).toInt32)))])) _
    refine XS.iand X0.here hx rfl (hb hby d4_32) rfl ?_
    show Steps p.tables e below (s₁.setTop (mkF m 33 #[.val (.int b2)] [(.int ((b2 + ((b2.toUInt32 >>> ((4 : Int32) &&& 31).toUInt32).toInt32)) &&& (252645135 : Int32)))])) _
    refine XS.istoreN X0.here hx rfl (hb hby d4_33) rfl (l' := #[.val (.int ((b2 + ((b2.toUInt32 >>> ((4 : Int32) &&& 31).toUInt32).toInt32)) &&& (252645135 : Int32)))]) rfl ?_
    exact kt
  obtain ⟨b3, hb3⟩ : ∃ z : Int32, z = ((b2 + ((b2.toUInt32 >>> ((4 : Int32) &&& 31).toUInt32).toInt32)) &&& (252645135 : Int32)) := ⟨_, rfl⟩
  rw [← hb3] at st3
  have st4 : ∀ target, Steps p.tables e below (s₁.setTop (mkF m 41 #[.val (.int (b3 + ((b3.toUInt32 >>> ((8 : Int32) &&& 31).toUInt32).toInt32)))] [])) target → Steps p.tables e below (s₁.setTop (mkF m 34 #[.val (.int b3)] [])) target := by
    intro target kt
    show Steps p.tables e below (s₁.setTop (mkF m 34 #[.val (.int b3)] [])) _
    refine XS.iloadN X0.here hx rfl (hb hby d4_34) rfl ?_
    show Steps p.tables e below (s₁.setTop (mkF m 35 #[.val (.int b3)] [(.int b3)])) _
    refine XS.iloadN X0.here hx rfl (hb hby d4_35) rfl ?_
    show Steps p.tables e below (s₁.setTop (mkF m 36 #[.val (.int b3)] [(.int b3), (.int b3)])) _
    refine XS.bipush X0.here hx rfl (hb hby d4_36) ?_
    show Steps p.tables e below (s₁.setTop (mkF m 38 #[.val (.int b3)] [(.int (8 : Int32)), (.int b3), (.int b3)])) _
    refine XS.iushr X0.here hx rfl (hb hby d4_38) rfl ?_
    show Steps p.tables e below (s₁.setTop (mkF m 39 #[.val (.int b3)] [(.int ((b3.toUInt32 >>> ((8 : Int32) &&& 31).toUInt32).toInt32)), (.int b3)])) _
    refine XS.iadd X0.here hx rfl (hb hby d4_39) rfl ?_
    show Steps p.tables e below (s₁.setTop (mkF m 40 #[.val (.int b3)] [(.int (b3 + ((b3.toUInt32 >>> ((8 : Int32) &&& 31).toUInt32).toInt32)))])) _
    refine XS.istoreN X0.here hx rfl (hb hby d4_40) rfl (l' := #[.val (.int (b3 + ((b3.toUInt32 >>> ((8 : Int32) &&& 31).toUInt32).toInt32)))]) rfl ?_
    exact kt
  obtain ⟨b4, hb4⟩ : ∃ z : Int32, z = (b3 + ((b3.toUInt32 >>> ((8 : Int32) &&& 31).toUInt32).toInt32)) := ⟨_, rfl⟩
  rw [← hb4] at st4
  have st5 : ∀ target, Steps p.tables e below (s₁.setTop (mkF m 48 #[.val (.int (b4 + ((b4.toUInt32 >>> ((16 : Int32) &&& 31).toUInt32).toInt32)))] [])) target → Steps p.tables e below (s₁.setTop (mkF m 41 #[.val (.int b4)] [])) target := by
    intro target kt
    show Steps p.tables e below (s₁.setTop (mkF m 41 #[.val (.int b4)] [])) _
    refine XS.iloadN X0.here hx rfl (hb hby d4_41) rfl ?_
    show Steps p.tables e below (s₁.setTop (mkF m 42 #[.val (.int b4)] [(.int b4)])) _
    refine XS.iloadN X0.here hx rfl (hb hby d4_42) rfl ?_
    show Steps p.tables e below (s₁.setTop (mkF m 43 #[.val (.int b4)] [(.int b4), (.int b4)])) _
    refine XS.bipush X0.here hx rfl (hb hby d4_43) ?_
    show Steps p.tables e below (s₁.setTop (mkF m 45 #[.val (.int b4)] [(.int (16 : Int32)), (.int b4), (.int b4)])) _
    refine XS.iushr X0.here hx rfl (hb hby d4_45) rfl ?_
    show Steps p.tables e below (s₁.setTop (mkF m 46 #[.val (.int b4)] [(.int ((b4.toUInt32 >>> ((16 : Int32) &&& 31).toUInt32).toInt32)), (.int b4)])) _
    refine XS.iadd X0.here hx rfl (hb hby d4_46) rfl ?_
    show Steps p.tables e below (s₁.setTop (mkF m 47 #[.val (.int b4)] [(.int (b4 + ((b4.toUInt32 >>> ((16 : Int32) &&& 31).toUInt32).toInt32)))])) _
    refine XS.istoreN X0.here hx rfl (hb hby d4_47) rfl (l' := #[.val (.int (b4 + ((b4.toUInt32 >>> ((16 : Int32) &&& 31).toUInt32).toInt32)))]) rfl ?_
    exact kt
  obtain ⟨b5, hb5⟩ : ∃ z : Int32, z = (b4 + ((b4.toUInt32 >>> ((16 : Int32) &&& 31).toUInt32).toInt32)) := ⟨_, rfl⟩
  rw [← hb5] at st5
  obtain ⟨fs, hr, hrun, hended, hW, hsame⟩ := X0.leave (v := some (.int (b5 &&& (63 : Int32)))) (fun h => by rw [Bd.returns] at h; cases h)
  refine ⟨_, _, pre0 _ (st1 _ (st2 _ (st3 _ (st4 _ (st5 _ ?_))))), hrun, hended, _, _, rfl, ?_, ⟨_, rfl⟩, hW, hsame.mono (by decide) (by decide)⟩
  · show Steps p.tables e below (s₁.setTop (mkF m 48 #[.val (.int b5)] [])) _
    refine XS.iloadN X0.here hx rfl (hb hby d4_48) rfl ?_
    show Steps p.tables e below (s₁.setTop (mkF m 49 #[.val (.int b5)] [(.int b5)])) _
    refine XS.bipush X0.here hx rfl (hb hby d4_49) ?_
    show Steps p.tables e below (s₁.setTop (mkF m 51 #[.val (.int b5)] [(.int (63 : Int32)), (.int b5)])) _
    refine XS.iand X0.here hx rfl (hb hby d4_51) rfl ?_
    show Steps p.tables e below (s₁.setTop (mkF m 52 #[.val (.int b5)] [(.int (b5 &&& (63 : Int32)))])) _
    exact retI X0 hx Bd.returns (hb hby d4_52) hr
  · show Q_rm4 Z p0 h0 n0 _ s₁.heap _
    rw [e0]
    exact ⟨by rw [hb5, hb4, hb3, hb2, hb1]; rfl, N0, rfl⟩
theorem d3_0 : decode prog_51_method_2_code 0 = .ok (.iload_n 0, 1) := by decide +kernel
theorem d3_1 : decode prog_51_method_2_code 1 = .ok (.invokestatic 27, 3) := by decide +kernel
theorem d3_4 : decode prog_51_method_2_code 4 = .ok (.iconst 1, 1) := by decide +kernel
theorem d3_5 : decode prog_51_method_2_code 5 = .ok (.if_icmp .ne 16, 3) := by decide +kernel
theorem d3_8 : decode prog_51_method_2_code 8 = .ok (.iload_n 0, 1) := by decide +kernel
theorem d3_9 : decode prog_51_method_2_code 9 = .ok (.sipush 512, 3) := by decide +kernel
theorem d3_12 : decode prog_51_method_2_code 12 = .ok (.if_icmp .lt 9, 3) := by decide +kernel
theorem d3_15 : decode prog_51_method_2_code 15 = .ok (.iload_n 0, 1) := by decide +kernel
theorem d3_16 : decode prog_51_method_2_code 16 = .ok (.ldc 32, 2) := by decide +kernel
theorem d3_18 : decode prog_51_method_2_code 18 = .ok (.if_icmp .le 17, 3) := by decide +kernel
theorem d3_21 : decode prog_51_method_2_code 21 = .ok (.new 33, 3) := by decide +kernel
theorem d3_24 : decode prog_51_method_2_code 24 = .ok (.dup, 1) := by decide +kernel
theorem d3_25 : decode prog_51_method_2_code 25 = .ok (.iload_n 0, 1) := by decide +kernel
theorem d3_31 : decode prog_51_method_2_code 31 = .ok (.invokespecial 39, 3) := by decide +kernel
theorem d3_34 : decode prog_51_method_2_code 34 = .ok (.athrow, 1) := by decide +kernel
theorem d3_35 : decode prog_51_method_2_code 35 = .ok (.iload_n 0, 1) := by decide +kernel
theorem d3_36 : decode prog_51_method_2_code 36 = .ok (.ireturn, 1) := by decide +kernel
theorem pn_1 : plainName "com/example/imprimatur/imprimatur/verify/HashTree" = true := by first | (simp [plainName, overriddenIn]; done) | decide +kernel
theorem ef_rm3 (m : MethodId) (x0 : Int32) : entryFrame m #[(.int x0)] 1 = mkF m 0 #[.val (.int x0)] [] := by first | (simp [entryFrame, mkF, argsToLocals, Value.category]; done) | rfl
def Q_rm3 (Z : State) (p0 : Int32) (h0 : Heap) (n0 : Nat) (v : Option Value) (h : Heap) (L : List Loc) : Prop := v = some (.int p0) ∧ Fr n0 L ∧ h = h0
set_option maxRecDepth 65536 in
set_option maxHeartbeats 40000000 in
theorem rm3 (l : Launch) (Z : State) (a0 : Array Value) (hw : ∀ d ∈ tables_1, d.before a0 Z = true) (ws : List Jvm.Cond) (p0 : Int32) (h0 : Heap) (n0 : Nat) (Z0 : n0 ≤ h0.size) (hok : own_good p0) :
    MetFree l (⟨"com/example/imprimatur/imprimatur/verify/HashTree", "checkedBlockSize", "(I)I"⟩ : MethodName) (head1 (Jvm.Cond.code (⟨"com/example/imprimatur/imprimatur/verify/HashTree", "checkedBlockSize", "(I)I"⟩ : MethodName) prog_51_method_2_code 1 (some .int) :: ws) ({ frames := 1, cells := 0, slots := 0, locals := 12 } : Room)) (fun a U => a = #[(.int p0)] ∧ Z.Warmed39 U.vm ∧ U.heap = h0) (fun _ _ _ _ _ => True) (fun _ U o U' => ∃ v L, o = .returned v ∧ Q_rm3 Z p0 h0 n0 v U'.heap L ∧ FrameEnd U o U' L ({ frames := 1, cells := 0, slots := 0, locals := 12 } : Room).cells ({ frames := 1, cells := 0, slots := 0, locals := 12 } : Room).slots) := by
  refine MetFree.of_bodySF (plainFor_of_name pn_1) hisR ?_
  intro p e s m args below meth c s₁ Bd hml0 hP hK
  obtain ⟨rfl, hZ, hh⟩ := hP
  have hx := Bd.exec
  have hby := Bd.bytes
  have hml : c.maxLocals = 1 := hml0
  have hown : s.vm.findClass "com/example/imprimatur/imprimatur/verify/HashTree" = some m.cls := findClass_of_methodNamed Bd.named
  have hnm := (name_of_methodNamed Bd.named Bd.method).1
  have X0 : Stand p l e ({ frames := 1, cells := 0, slots := 0, locals := 12 } : Room) s m #[(.int p0)] below meth c s₁ [] 0 0 := Stand.of_body Bd
  have e0 : s₁.heap = h0 := by rw [← hh, Bd.state]; rfl
  have N0 := Fr.nil n0
  have pre0 : ∀ t, Steps p.tables e below (s₁.setTop (mkF m 0 #[.val (.int p0)] [])) t → Steps p.tables e below (s₁.setTop (entryFrame m #[(.int p0)] 1)) t := fun t k => castTop (ef_rm3 m p0) k
  have st1 : ∀ target, Steps p.tables e below (s₁.setTop (mkF m 1 #[.val (.int p0)] [(.int p0)])) target → Steps p.tables e below (s₁.setTop (mkF m 0 #[.val (.int p0)] [])) target := by
    intro target kt
    show Steps p.tables e below (s₁.setTop (mkF m 0 #[.val (.int p0)] [])) _
    refine XS.iloadN X0.here hx rfl (hb hby d3_0) rfl ?_
    exact kt
  obtain ⟨_, _, ⟨T2, L2, k2, n2⟩, -, X2, ⟨Lc2, hQ2, l2, y2, z2⟩, st2⟩ := Jvm.LawKit.callS X0 hx (y := (⟨"java/lang/Integer", "bitCount", "(I)I"⟩ : MethodName)) hown (mvT hZ (hw _ (List.mem_of_getElem? (i := 12) rfl))) (mvT hZ (hw _ (List.mem_of_getElem? (i := 13) rfl))) (mvT hZ (hw _ (List.mem_of_getElem? (i := 14) rfl))) (mvT hZ (hw _ (List.mem_of_getElem? (i := 15) rfl))) (by decide) (backOf (W := 0) (rm4 l Z a0 hw [] p0  h0 n0 Z0 ) hZ (hw _ (List.mem_of_getElem? (i := 15) rfl)) (hw _ (List.mem_of_getElem? (i := 14) rfl)) (by decide) (by decide)) (g := (mkF m 1 #[.val (.int p0)] [(.int p0)])) rfl (by rw [hml]; rfl) (argsL := [(.int p0)]) (rest := []) (lenOf pd_2 rfl) rfl (by show 2 * 0 + _ ≤ _; exact Nat.le_of_eq rfl) (hb hby d3_1) (fun _ _ => ⟨rfl, e0, (by decide : 0 + 0 ≤ _), (by decide : 0 + 0 ≤ _)⟩)
  dsimp only [Pt.U, Pt.locs, Pt.cells, Pt.slots] at X2 l2 y2 z2 st2 hQ2
  subst l2 y2 z2
  obtain ⟨rfl, Nq2, e2⟩ := hQ2
  have N2 := Fr.app N0 Nq2
  obtain ⟨fs, hr, hrun, hended, hW, hsame⟩ := X2.leave (v := some (.int p0)) (fun h => by rw [Bd.returns] at h; cases h)
  refine ⟨_, _, pre0 _ (st1 _ (st2 _ ?_)), hrun, hended, _, _, rfl, ?_, ⟨_, rfl⟩, hW, hsame.mono (by decide) (by decide)⟩
  · show Steps p.tables e below (T2.setTop (mkF m 4 #[.val (.int p0)] [(.int (own_bc p0))])) _
    refine XS.iconst X2.here hx rfl (hb hby d3_4) ?_
    show Steps p.tables e below (T2.setTop (mkF m 5 #[.val (.int p0)] [(.int (1 : Int32)), (.int (own_bc p0))])) _
    refine XS.icmpNo X2.here hx rfl (hb hby d3_5) rfl (teq hok.1).2 ?_
    show Steps p.tables e below (T2.setTop (mkF m 8 #[.val (.int p0)] [])) _
    refine XS.iloadN X2.here hx rfl (hb hby d3_8) rfl ?_
    show Steps p.tables e below (T2.setTop (mkF m 9 #[.val (.int p0)] [(.int p0)])) _
    refine XS.sipush X2.here hx rfl (hb hby d3_9) ?_
    show Steps p.tables e below (T2.setTop (mkF m 12 #[.val (.int p0)] [(.int (512 : Int32)), (.int p0)])) _
    refine XS.icmpNo X2.here hx rfl (hb hby d3_12) rfl (flt hok.2.1).1 ?_
    show Steps p.tables e below (T2.setTop (mkF m 15 #[.val (.int p0)] [])) _
    refine XS.iloadN X2.here hx rfl (hb hby d3_15) rfl ?_
    show Steps p.tables e below (T2.setTop (mkF m 16 #[.val (.int p0)] [(.int p0)])) _
    refine X2.ldcInt hx hown (mvT hZ (hw _ (List.mem_of_getElem? (i := 19) rfl))) (g := (mkF m 16 #[.val (.int p0)] [(.int p0)])) rfl (hb hby d3_16) _ ?_
    show Steps p.tables e below (T2.setTop (mkF m 18 #[.val (.int p0)] [(.int (1048576 : Int32)), (.int p0)])) _
    refine XS.icmpYes X2.here hx rfl (pc0 := 18) (pc' := 35) rfl (hb hby d3_18) rfl (flt hok.2.2).2.2.2 (by decide) (by decide) ?_
    show Steps p.tables e below (T2.setTop (mkF m 35 #[.val (.int p0)] [])) _
    refine XS.iloadN X2.here hx rfl (hb hby d3_35) rfl ?_
    show Steps p.tables e below (T2.setTop (mkF m 36 #[.val (.int p0)] [(.int p0)])) _
    exact retI X2 hx Bd.returns (hb hby d3_36) hr
  · show Q_rm3 Z p0 h0 n0 _ T2.heap _
    rw [e2]
    exact ⟨rfl, N2, rfl⟩
theorem d1_0 : decode prog_51_method_1_code 0 = .ok (.aload_n 0, 1) := by decide +kernel
theorem d1_1 : decode prog_51_method_1_code 1 = .ok (.invokespecial 1, 3) := by decide +kernel
theorem d1_4 : decode prog_51_method_1_code 4 = .ok (.aload_n 0, 1) := by decide +kernel
theorem d1_5 : decode prog_51_method_1_code 5 = .ok (.iload_n 1, 1) := by decide +kernel
theorem d1_6 : decode prog_51_method_1_code 6 = .ok (.invokestatic 7, 3) := by decide +kernel
theorem d1_9 : decode prog_51_method_1_code 9 = .ok (.putfield 13, 3) := by decide +kernel
theorem d1_12 : decode prog_51_method_1_code 12 = .ok (.aload_n 0, 1) := by decide +kernel
theorem d1_13 : decode prog_51_method_1_code 13 = .ok (.iload_n 2, 1) := by decide +kernel
theorem d1_14 : decode prog_51_method_1_code 14 = .ok (.invokestatic 7, 3) := by decide +kernel
theorem d1_17 : decode prog_51_method_1_code 17 = .ok (.putfield 17, 3) := by decide +kernel
theorem d1_20 : decode prog_51_method_1_code 20 = .ok (.aload_n 0, 1) := by decide +kernel
theorem d1_21 : decode prog_51_method_1_code 21 = .ok (.lload_n 3, 1) := by decide +kernel
theorem d1_22 : decode prog_51_method_1_code 22 = .ok (.putfield 20, 3) := by decide +kernel
theorem d1_25 : decode prog_51_method_1_code 25 = .ok (.aload_n 0, 1) := by decide +kernel
theorem d1_26 : decode prog_51_method_1_code 26 = .ok (.lload 5, 2) := by decide +kernel
theorem d1_28 : decode prog_51_method_1_code 28 = .ok (.putfield 24, 3) := by decide +kernel
theorem d1_31 : decode prog_51_method_1_code 31 = .ok (.return_, 1) := by decide +kernel
theorem ef_rm1 (m : MethodId) (x0 : Addr) (x1 : Int32) (x2 : Int32) (x3 : Int64) (x4 : Int64) : entryFrame m #[(.ref x0), (.int x1), (.int x2), (.long x3), (.long x4)] 7 = mkF m 0 #[.val (.ref x0), .val (.int x1), .val (.int x2), .val (.long x3), .second, .val (.long x4), .second] [] := by first | (simp [entryFrame, mkF, argsToLocals, Value.category]; done) | rfl
def Q_rm1 (Z : State) (r0 : Addr) (p1 : Int32) (p2 : Int32) (q3 : Int64) (q4 : Int64) (h0 : Heap) (n0 : Nat) (v : Option Value) (h : Heap) (L : List Loc) : Prop := v = none ∧ Fr n0 L ∧ Keep h0 h [r0] ∧ Exa Z h r0 "com/example/imprimatur/imprimatur/verify/HashTree" ∧ Fld Z h r0 "com/example/imprimatur/imprimatur/verify/HashTree" "dataBlockSize" "I" (.int p1) ∧ Fld Z h r0 "com/example/imprimatur/imprimatur/verify/HashTree" "hashBlockSize" "I" (.int p2) ∧ Fld Z h r0 "com/example/imprimatur/imprimatur/verify/HashTree" "treeOffset" "J" (.long q3) ∧ Fld Z h r0 "com/example/imprimatur/imprimatur/verify/HashTree" "treeSize" "J" (.long q4)
set_option maxRecDepth 65536 in
set_option maxHeartbeats 40000000 in
theorem rm1 (l : Launch) (Z : State) (a0 : Array Value) (hw : ∀ d ∈ tables_1, d.before a0 Z = true) (ws : List Jvm.Cond) (r0 : Addr) (p1 : Int32) (p2 : Int32) (q3 : Int64) (q4 : Int64) (h0 : Heap) (n0 : Nat) (Z0 : n0 ≤ h0.size) (F_dataBlockSize : Fld Z h0 r0 "com/example/imprimatur/imprimatur/verify/HashTree" "dataBlockSize" "I" (.int (0 : Int32))) (F_hashBlockSize : Fld Z h0 r0 "com/example/imprimatur/imprimatur/verify/HashTree" "hashBlockSize" "I" (.int (0 : Int32))) (F_treeOffset : Fld Z h0 r0 "com/example/imprimatur/imprimatur/verify/HashTree" "treeOffset" "J" (.long (0 : Int64))) (F_treeSize : Fld Z h0 r0 "com/example/imprimatur/imprimatur/verify/HashTree" "treeSize" "J" (.long (0 : Int64))) (E_o : Exa Z h0 r0 "com/example/imprimatur/imprimatur/verify/HashTree") (g_r0 : n0 ≤ r0) (k1 : own_good p1) (k2 : own_good p2) :
    MetFree l (⟨"com/example/imprimatur/imprimatur/verify/HashTree", "<init>", "(IIJJ)V"⟩ : MethodName) (head1 (Jvm.Cond.code (⟨"com/example/imprimatur/imprimatur/verify/HashTree", "<init>", "(IIJJ)V"⟩ : MethodName) prog_51_method_1_code 7 none :: ws) ({ frames := 2, cells := 0, slots := 0, locals := 25 } : Room)) (fun a U => a = #[(.ref r0), (.int p1), (.int p2), (.long q3), (.long q4)] ∧ Z.Warmed39 U.vm ∧ U.heap = h0) (fun _ _ _ _ _ => True) (fun _ U o U' => ∃ v L, o = .returned v ∧ Q_rm1 Z r0 p1 p2 q3 q4 h0 n0 v U'.heap L ∧ FrameEnd U o U' L ({ frames := 2, cells := 0, slots := 0, locals := 25 } : Room).cells ({ frames := 2, cells := 0, slots := 0, locals := 25 } : Room).slots) := by
  refine MetFree.of_bodySF (plainFor_of_name pn_1) hisR ?_
  intro p e s m args below meth c s₁ Bd hml0 hP hK
  obtain ⟨rfl, hZ, hh⟩ := hP
  have hx := Bd.exec
  have hby := Bd.bytes
  have hml : c.maxLocals = 7 := hml0
  have hown : s.vm.findClass "com/example/imprimatur/imprimatur/verify/HashTree" = some m.cls := findClass_of_methodNamed Bd.named
  have hnm := (name_of_methodNamed Bd.named Bd.method).1
  have X0 : Stand p l e ({ frames := 2, cells := 0, slots := 0, locals := 25 } : Room) s m #[(.ref r0), (.int p1), (.int p2), (.long q3), (.long q4)] below meth c s₁ [] 0 0 := Stand.of_body Bd
  have e0 : s₁.heap = h0 := by rw [← hh, Bd.state]; rfl
  have N0 := Fr.nil n0
  have pre0 : ∀ t, Steps p.tables e below (s₁.setTop (mkF m 0 #[.val (.ref r0), .val (.int p1), .val (.int p2), .val (.long q3), .second, .val (.long q4), .second] [])) t → Steps p.tables e below (s₁.setTop (entryFrame m #[(.ref r0), (.int p1), (.int p2), (.long q3), (.long q4)] 7)) t := fun t k => castTop (ef_rm1 m r0 p1 p2 q3 q4) k
  have Kp : Keep h0 h0 [r0] := Keep.refl _ _
  have st1 : ∀ target, Steps p.tables e below (s₁.setTop (mkF m 1 #[.val (.ref r0), .val (.int p1), .val (.int p2), .val (.long q3), .second, .val (.long q4), .second] [(.ref r0)])) target → Steps p.tables e below (s₁.setTop (mkF m 0 #[.val (.ref r0), .val (.int p1), .val (.int p2), .val (.long q3), .second, .val (.long q4), .second] [])) target := by
    intro target kt
    show Steps p.tables e below (s₁.setTop (mkF m 0 #[.val (.ref r0), .val (.int p1), .val (.int p2), .val (.long q3), .second, .val (.long q4), .second] [])) _
    refine XS.aloadN X0.here hx rfl (hb hby d1_0) rfl rfl ?_
    exact kt
  obtain ⟨T2, X2, e2, st2⟩ := initO X0 hx hZ hown (hw _ (List.mem_of_getElem? (i := 6) rfl)) (hw _ (List.mem_of_getElem? (i := 7) rfl)) (hw _ (List.mem_of_getElem? (i := 8) rfl)) e0 (g := (mkF m 1 #[.val (.ref r0), .val (.int p1), .val (.int p2), .val (.long q3), .second, .val (.long q4), .second] [(.ref r0)])) rfl (by rw [hml]; rfl) rfl (hb hby d1_1) (by decide) (W := 0) (by show 2 * 0 + _ ≤ _; exact Nat.le_of_eq rfl) (by decide)
  have st3 : ∀ target, Steps p.tables e below (T2.setTop (mkF m 6 #[.val (.ref r0), .val (.int p1), .val (.int p2), .val (.long q3), .second, .val (.long q4), .second] [(.int p1), (.ref r0)])) target → Steps p.tables e below (T2.setTop (mkF m 4 #[.val (.ref r0), .val (.int p1), .val (.int p2), .val (.long q3), .second, .val (.long q4), .second] [])) target := by
    intro target kt
    show Steps p.tables e below (T2.setTop (mkF m 4 #[.val (.ref r0), .val (.int p1), .val (.int p2), .val (.long q3), .second, .val (.long q4), .second] [])) _
    refine XS.aloadN X2.here hx rfl (hb hby d1_4) rfl rfl ?_
    show Steps p.tables e below (T2.setTop (mkF m 5 #[.val (.ref r0), .val (.int p1), .val (.int p2), .val (.long q3), .second, .val (.long q4), .second] [(.ref r0)])) _
    refine XS.iloadN X2.here hx rfl (hb hby d1_5) rfl ?_
    exact kt
  obtain ⟨_, _, ⟨T4, L4, k4, n4⟩, -, X4, ⟨Lc4, hQ4, l4, y4, z4⟩, st4⟩ := Jvm.LawKit.callS X2 hx (y := (⟨"com/example/imprimatur/imprimatur/verify/HashTree", "checkedBlockSize", "(I)I"⟩ : MethodName)) hown (mvT hZ (hw _ (List.mem_of_getElem? (i := 9) rfl))) (mvT hZ (hw _ (List.mem_of_getElem? (i := 10) rfl))) (mvT hZ (hw _ (List.mem_of_getElem? (i := 2) rfl))) (mvT hZ (hw _ (List.mem_of_getElem? (i := 11) rfl))) (by decide) (backOf (W := 1) (rm3 l Z a0 hw [] p1  h0 n0 Z0 k1) hZ (hw _ (List.mem_of_getElem? (i := 11) rfl)) (hw _ (List.mem_of_getElem? (i := 2) rfl)) (by decide) (by decide)) (g := (mkF m 6 #[.val (.ref r0), .val (.int p1), .val (.int p2), .val (.long q3), .second, .val (.long q4), .second] [(.int p1), (.ref r0)])) rfl (by rw [hml]; rfl) (argsL := [(.int p1)]) (rest := [(.ref r0)]) (lenOf pd_2 rfl) rfl (by show 2 * 0 + _ ≤ _; exact Nat.le_of_eq rfl) (hb hby d1_6) (fun _ _ => ⟨rfl, e2, (by decide : 0 + 0 ≤ _), (by decide : 0 + 0 ≤ _)⟩)
  dsimp only [Pt.U, Pt.locs, Pt.cells, Pt.slots] at X4 l4 y4 z4 st4 hQ4
  subst l4 y4 z4
  obtain ⟨rfl, Nq4, e4⟩ := hQ4
  have N4 := Fr.app N0 Nq4
  obtain ⟨T5, h5, X5, e5, W5, st5⟩ := putF X4 hx hZ hown (host := "") (Or.inl (hw _ (List.mem_of_getElem? (i := 20) rfl))) Via.refl e4 F_dataBlockSize E_o (Or.inr ⟨(hw _ (List.mem_of_getElem? (i := 21) rfl)), rfl, hnm⟩) (hw _ (List.mem_of_getElem? (i := 1) rfl)) (ty := .int) (by decide) rfl rfl (g := (mkF m 9 #[.val (.ref r0), .val (.int p1), .val (.int p2), .val (.long q3), .second, .val (.long q4), .second] [(.int p1), (.ref r0)])) rfl rfl (hb hby d1_9)
  have F_dataBlockSize_r0_5 : Fld Z h5 r0 "com/example/imprimatur/imprimatur/verify/HashTree" "dataBlockSize" "I" (.int p1) := F_dataBlockSize.same W5
  have E_o_5 := E_o.wr W5
  have F_hashBlockSize_5 := F_hashBlockSize.other W5 (Or.inr (slot_ne (Or.inr (hw _ (List.mem_of_getElem? (i := 23) rfl))) (Or.inr (hw _ (List.mem_of_getElem? (i := 21) rfl))) (by decide) (t := .int) (t' := .int) (by decide) (by decide)))
  have F_treeOffset_5 := F_treeOffset.other W5 (Or.inr (slot_ne (Or.inr (hw _ (List.mem_of_getElem? (i := 25) rfl))) (Or.inr (hw _ (List.mem_of_getElem? (i := 21) rfl))) (by decide) (t := .long) (t' := .int) (by decide) (by decide)))
  have F_treeSize_5 := F_treeSize.other W5 (Or.inr (slot_ne (Or.inr (hw _ (List.mem_of_getElem? (i := 27) rfl))) (Or.inr (hw _ (List.mem_of_getElem? (i := 21) rfl))) (by decide) (t := .long) (t' := .int) (by decide) (by decide)))
  have Z_5 : n0 ≤ h5.size := Nat.le_trans Z0 (Keep.of_wr W5).1
  have Kp_5 : Keep h0 h5 [r0] := Kp.wr W5 (Or.inl (List.mem_of_getElem? (i := 0) rfl))
  have N5 := Fr.snoc X5 N4 g_r0
  have st6 : ∀ target, Steps p.tables e below (T5.setTop (mkF m 14 #[.val (.ref r0), .val (.int p1), .val (.int p2), .val (.long q3), .second, .val (.long q4), .second] [(.int p2), (.ref r0)])) target → Steps p.tables e below (T5.setTop (mkF m 12 #[.val (.ref r0), .val (.int p1), .val (.int p2), .val (.long q3), .second, .val (.long q4), .second] [])) target := by
    intro target kt
    show Steps p.tables e below (T5.setTop (mkF m 12 #[.val (.ref r0), .val (.int p1), .val (.int p2), .val (.long q3), .second, .val (.long q4), .second] [])) _
    refine XS.aloadN X5.here hx rfl (hb hby d1_12) rfl rfl ?_
    show Steps p.tables e below (T5.setTop (mkF m 13 #[.val (.ref r0), .val (.int p1), .val (.int p2), .val (.long q3), .second, .val (.long q4), .second] [(.ref r0)])) _
    refine XS.iloadN X5.here hx rfl (hb hby d1_13) rfl ?_
    exact kt
  obtain ⟨_, _, ⟨T7, L7, k7, n7⟩, -, X7, ⟨Lc7, hQ7, l7, y7, z7⟩, st7⟩ := Jvm.LawKit.callS X5 hx (y := (⟨"com/example/imprimatur/imprimatur/verify/HashTree", "checkedBlockSize", "(I)I"⟩ : MethodName)) hown (mvT hZ (hw _ (List.mem_of_getElem? (i := 9) rfl))) (mvT hZ (hw _ (List.mem_of_getElem? (i := 10) rfl))) (mvT hZ (hw _ (List.mem_of_getElem? (i := 2) rfl))) (mvT hZ (hw _ (List.mem_of_getElem? (i := 11) rfl))) (by decide) (backOf (W := 1) (rm3 l Z a0 hw [] p2  h5 n0 Z_5 k2) hZ (hw _ (List.mem_of_getElem? (i := 11) rfl)) (hw _ (List.mem_of_getElem? (i := 2) rfl)) (by decide) (by decide)) (g := (mkF m 14 #[.val (.ref r0), .val (.int p1), .val (.int p2), .val (.long q3), .second, .val (.long q4), .second] [(.int p2), (.ref r0)])) rfl (by rw [hml]; rfl) (argsL := [(.int p2)]) (rest := [(.ref r0)]) (lenOf pd_2 rfl) rfl (by show 2 * 0 + _ ≤ _; exact Nat.le_of_eq rfl) (hb hby d1_14) (fun _ _ => ⟨rfl, e5, (by decide : 0 + 0 ≤ _), (by decide : 0 + 0 ≤ _)⟩)
  dsimp only [Pt.U, Pt.locs, Pt.cells, Pt.slots] at X7 l7 y7 z7 st7 hQ7
  subst l7 y7 z7
  obtain ⟨rfl, Nq7, e7⟩ := hQ7
  have N7 := Fr.app N5 Nq7
  obtain ⟨T8, h8, X8, e8, W8, st8⟩ := putF X7 hx hZ hown (host := "") (Or.inl (hw _ (List.mem_of_getElem? (i := 22) rfl))) Via.refl e7 F_hashBlockSize_5 E_o_5 (Or.inr ⟨(hw _ (List.mem_of_getElem? (i := 23) rfl)), rfl, hnm⟩) (hw _ (List.mem_of_getElem? (i := 1) rfl)) (ty := .int) (by decide) rfl rfl (g := (mkF m 17 #[.val (.ref r0), .val (.int p1), .val (.int p2), .val (.long q3), .second, .val (.long q4), .second] [(.int p2), (.ref r0)])) rfl rfl (hb hby d1_17)
  have F_hashBlockSize_r0_8 : Fld Z h8 r0 "com/example/imprimatur/imprimatur/verify/HashTree" "hashBlockSize" "I" (.int p2) := F_hashBlockSize_5.same W8
  have E_o_8 := E_o_5.wr W8
  have F_treeOffset_8 := F_treeOffset_5.other W8 (Or.inr (slot_ne (Or.inr (hw _ (List.mem_of_getElem? (i := 25) rfl))) (Or.inr (hw _ (List.mem_of_getElem? (i := 23) rfl))) (by decide) (t := .long) (t' := .int) (by decide) (by decide)))
  have F_treeSize_8 := F_treeSize_5.other W8 (Or.inr (slot_ne (Or.inr (hw _ (List.mem_of_getElem? (i := 27) rfl))) (Or.inr (hw _ (List.mem_of_getElem? (i := 23) rfl))) (by decide) (t := .long) (t' := .int) (by decide) (by decide)))
  have F_dataBlockSize_r0_8 := F_dataBlockSize_r0_5.other W8 (Or.inr (slot_ne (Or.inr (hw _ (List.mem_of_getElem? (i := 21) rfl))) (Or.inr (hw _ (List.mem_of_getElem? (i := 23) rfl))) (by decide) (t := .int) (t' := .int) (by decide) (by decide)))
  have Z_8 : n0 ≤ h8.size := Nat.le_trans Z_5 (Keep.of_wr W8).1
  have Kp_8 : Keep h0 h8 [r0] := Kp_5.wr W8 (Or.inl (List.mem_of_getElem? (i := 0) rfl))
  have N8 := Fr.snoc X8 N7 g_r0
  have st9 : ∀ target, Steps p.tables e below (T8.setTop (mkF m 22 #[.val (.ref r0), .val (.int p1), .val (.int p2), .val (.long q3), .second, .val (.long q4), .second] [(.long q3), (.ref r0)])) target → Steps p.tables e below (T8.setTop (mkF m 20 #[.val (.ref r0), .val (.int p1), .val (.int p2), .val (.long q3), .second, .val (.long q4), .second] [])) target := by
    intro target kt
    show Steps p.tables e below (T8.setTop (mkF m 20 #[.val (.ref r0), .val (.int p1), .val (.int p2), .val (.long q3), .second, .val (.long q4), .second] [])) _
    refine XS.aloadN X8.here hx rfl (hb hby d1_20) rfl rfl ?_
    show Steps p.tables e below (T8.setTop (mkF m 21 #[.val (.ref r0), .val (.int p1), .val (.int p2), .val (.long q3), .second, .val (.long q4), .second] [(.ref r0)])) _
    refine XS.lloadN X8.here hx rfl (hb hby d1_21) rfl ?_
    exact kt
  obtain ⟨T10, h10, X10, e10, W10, st10⟩ := putF X8 hx hZ hown (host := "") (Or.inl (hw _ (List.mem_of_getElem? (i := 24) rfl))) Via.refl e8 F_treeOffset_8 E_o_8 (Or.inr ⟨(hw _ (List.mem_of_getElem? (i := 25) rfl)), rfl, hnm⟩) (hw _ (List.mem_of_getElem? (i := 1) rfl)) (ty := .long) (by decide) rfl rfl (g := (mkF m 22 #[.val (.ref r0), .val (.int p1), .val (.int p2), .val (.long q3), .second, .val (.long q4), .second] [(.long q3), (.ref r0)])) rfl rfl (hb hby d1_22)
  have F_treeOffset_r0_10 : Fld Z h10 r0 "com/example/imprimatur/imprimatur/verify/HashTree" "treeOffset" "J" (.long q3) := F_treeOffset_8.same W10
  have E_o_10 := E_o_8.wr W10
  have F_treeSize_10 := F_treeSize_8.other W10 (Or.inr (slot_ne (Or.inr (hw _ (List.mem_of_getElem? (i := 27) rfl))) (Or.inr (hw _ (List.mem_of_getElem? (i := 25) rfl))) (by decide) (t := .long) (t' := .long) (by decide) (by decide)))
  have F_dataBlockSize_r0_10 := F_dataBlockSize_r0_8.other W10 (Or.inr (slot_ne (Or.inr (hw _ (List.mem_of_getElem? (i := 21) rfl))) (Or.inr (hw _ (List.mem_of_getElem? (i := 25) rfl))) (by decide) (t := .int) (t' := .long) (by decide) (by decide)))
  have F_hashBlockSize_r0_10 := F_hashBlockSize_r0_8.other W10 (Or.inr (slot_ne (Or.inr (hw _ (List.mem_of_getElem? (i := 23) rfl))) (Or.inr (hw _ (List.mem_of_getElem? (i := 25) rfl))) (by decide) (t := .int) (t' := .long) (by decide) (by decide)))
  have Z_10 : n0 ≤ h10.size := Nat.le_trans Z_8 (Keep.of_wr W10).1
  have Kp_10 : Keep h0 h10 [r0] := Kp_8.wr W10 (Or.inl (List.mem_of_getElem? (i := 0) rfl))
  have N10 := Fr.snoc X10 N8 g_r0
  have st11 : ∀ target, Steps p.tables e below (T10.setTop (mkF m 28 #[.val (.ref r0), .val (.int p1), .val (.int p2), .val (.long q3), .second, .val (.long q4), .second] [(.long q4), (.ref r0)])) target → Steps p.tables e below (T10.setTop (mkF m 25 #[.val (.ref r0), .val (.int p1), .val (.int p2), .val (.long q3), .second, .val (.long q4), .second] [])) target := by
    intro target kt
    show Steps p.tables e below (T10.setTop (mkF m 25 #[.val (.ref r0), .val (.int p1), .val (.int p2), .val (.long q3), .second, .val (.long q4), .second] [])) _
    refine XS.aloadN X10.here hx rfl (hb hby d1_25) rfl rfl ?_
    show Steps p.tables e below (T10.setTop (mkF m 26 #[.val (.ref r0), .val (.int p1), .val (.int p2), .val (.long q3), .second, .val (.long q4), .second] [(.ref r0)])) _
    refine XS.lload X10.here hx rfl (hb hby d1_26) rfl ?_
    exact kt
  obtain ⟨T12, h12, X12, e12, W12, st12⟩ := putF X10 hx hZ hown (host := "") (Or.inl (hw _ (List.mem_of_getElem? (i := 26) rfl))) Via.refl e10 F_treeSize_10 E_o_10 (Or.inr ⟨(hw _ (List.mem_of_getElem? (i := 27) rfl)), rfl, hnm⟩) (hw _ (List.mem_of_getElem? (i := 1) rfl)) (ty := .long) (by decide) rfl rfl (g := (mkF m 28 #[.val (.ref r0), .val (.int p1), .val (.int p2), .val (.long q3), .second, .val (.long q4), .second] [(.long q4), (.ref r0)])) rfl rfl (hb hby d1_28)
  have F_treeSize_r0_12 : Fld Z h12 r0 "com/example/imprimatur/imprimatur/verify/HashTree" "treeSize" "J" (.long q4) := F_treeSize_10.same W12
  have E_o_12 := E_o_10.wr W12
  have F_dataBlockSize_r0_12 := F_dataBlockSize_r0_10.other W12 (Or.inr (slot_ne (Or.inr (hw _ (List.mem_of_getElem? (i := 21) rfl))) (Or.inr (hw _ (List.mem_of_getElem? (i := 27) rfl))) (by decide) (t := .int) (t' := .long) (by decide) (by decide)))
  have F_hashBlockSize_r0_12 := F_hashBlockSize_r0_10.other W12 (Or.inr (slot_ne (Or.inr (hw _ (List.mem_of_getElem? (i := 23) rfl))) (Or.inr (hw _ (List.mem_of_getElem? (i := 27) rfl))) (by decide) (t := .int) (t' := .long) (by decide) (by decide)))
  have F_treeOffset_r0_12 := F_treeOffset_r0_10.other W12 (Or.inr (slot_ne (Or.inr (hw _ (List.mem_of_getElem? (i := 25) rfl))) (Or.inr (hw _ (List.mem_of_getElem? (i := 27) rfl))) (by decide) (t := .long) (t' := .long) (by decide) (by decide)))
  have Z_12 : n0 ≤ h12.size := Nat.le_trans Z_10 (Keep.of_wr W12).1
  have Kp_12 : Keep h0 h12 [r0] := Kp_10.wr W12 (Or.inl (List.mem_of_getElem? (i := 0) rfl))
  have N12 := Fr.snoc X12 N10 g_r0
  obtain ⟨fs, hr, hrun, hended, hW, hsame⟩ := X12.leave (v := none) (fun _ => rfl)
  refine ⟨_, _, pre0 _ (st1 _ (st2 _ (st3 _ (st4 _ (st5 _ (st6 _ (st7 _ (st8 _ (st9 _ (st10 _ (st11 _ (st12 _ ?_)))))))))))), hrun, hended, _, _, rfl, ?_, ⟨_, rfl⟩, hW, hsame.mono (by decide) (by decide)⟩
  · show Steps p.tables e below (T12.setTop (mkF m 31 #[.val (.ref r0), .val (.int p1), .val (.int p2), .val (.long q3), .second, .val (.long q4), .second] [])) _
    exact X12.returnOut hx Bd.returns (hb hby d1_31) hr
  · show Q_rm1 Z r0 p1 p2 q3 q4 h0 n0 _ T12.heap _
    rw [e12]
    exact ⟨rfl, N12, Kp_12, E_o_12, F_dataBlockSize_r0_12, F_hashBlockSize_r0_12, F_treeOffset_r0_12, F_treeSize_r0_12⟩
theorem d5_0 : decode prog_51_method_4_code 0 = .ok (.aload_n 1, 1) := by decide +kernel
theorem d5_1 : decode prog_51_method_4_code 1 = .ok (.instanceof 8, 3) := by decide +kernel
theorem d5_4 : decode prog_51_method_4_code 4 = .ok (.ifCond .eq 58, 3) := by decide +kernel
theorem d5_7 : decode prog_51_method_4_code 7 = .ok (.aload_n 1, 1) := by decide +kernel
theorem d5_8 : decode prog_51_method_4_code 8 = .ok (.checkcast 8, 3) := by decide +kernel
theorem d5_11 : decode prog_51_method_4_code 11 = .ok (.astore_n 2, 1) := by decide +kernel
theorem d5_12 : decode prog_51_method_4_code 12 = .ok (.aload_n 0, 1) := by decide +kernel
theorem d5_13 : decode prog_51_method_4_code 13 = .ok (.getfield 13, 3) := by decide +kernel
theorem d5_16 : decode prog_51_method_4_code 16 = .ok (.aload_n 2, 1) := by decide +kernel
theorem d5_17 : decode prog_51_method_4_code 17 = .ok (.getfield 13, 3) := by decide +kernel
theorem d5_20 : decode prog_51_method_4_code 20 = .ok (.if_icmp .ne 42, 3) := by decide +kernel
theorem d5_23 : decode prog_51_method_4_code 23 = .ok (.aload_n 0, 1) := by decide +kernel
theorem d5_24 : decode prog_51_method_4_code 24 = .ok (.getfield 17, 3) := by decide +kernel
theorem d5_27 : decode prog_51_method_4_code 27 = .ok (.aload_n 2, 1) := by decide +kernel
theorem d5_28 : decode prog_51_method_4_code 28 = .ok (.getfield 17, 3) := by decide +kernel
theorem d5_31 : decode prog_51_method_4_code 31 = .ok (.if_icmp .ne 31, 3) := by decide +kernel
theorem d5_34 : decode prog_51_method_4_code 34 = .ok (.aload_n 0, 1) := by decide +kernel
theorem d5_35 : decode prog_51_method_4_code 35 = .ok (.getfield 20, 3) := by decide +kernel
theorem d5_38 : decode prog_51_method_4_code 38 = .ok (.aload_n 2, 1) := by decide +kernel
theorem d5_39 : decode prog_51_method_4_code 39 = .ok (.getfield 20, 3) := by decide +kernel
theorem d5_42 : decode prog_51_method_4_code 42 = .ok (.lcmp, 1) := by decide +kernel
theorem d5_43 : decode prog_51_method_4_code 43 = .ok (.ifCond .ne 19, 3) := by decide +kernel
theorem d5_46 : decode prog_51_method_4_code 46 = .ok (.aload_n 0, 1) := by decide +kernel
theorem d5_47 : decode prog_51_method_4_code 47 = .ok (.getfield 24, 3) := by decide +kernel
theorem d5_50 : decode prog_51_method_4_code 50 = .ok (.aload_n 2, 1) := by decide +kernel
theorem d5_51 : decode prog_51_method_4_code 51 = .ok (.getfield 24, 3) := by decide +kernel
theorem d5_54 : decode prog_51_method_4_code 54 = .ok (.lcmp, 1) := by decide +kernel
theorem d5_55 : decode prog_51_method_4_code 55 = .ok (.ifCond .ne 7, 3) := by decide +kernel
theorem d5_58 : decode prog_51_method_4_code 58 = .ok (.iconst 1, 1) := by decide +kernel
theorem d5_59 : decode prog_51_method_4_code 59 = .ok (.goto 4, 3) := by decide +kernel
theorem d5_62 : decode prog_51_method_4_code 62 = .ok (.iconst 0, 1) := by decide +kernel
theorem d5_63 : decode prog_51_method_4_code 63 = .ok (.ireturn, 1) := by decide +kernel
theorem ef_rmEqN (m : MethodId) (x0 : Addr) : entryFrame m #[(.ref x0), .null] 3 = mkF m 0 #[.val (.ref x0), .val .null, .unset] [] := by first | (simp [entryFrame, mkF, argsToLocals, Value.category]; done) | rfl
def Q_rmEqN (Z : State) (r0 : Addr) (h0 : Heap) (n0 : Nat) (v : Option Value) (h : Heap) (L : List Loc) : Prop := v = some (.int (0 : Int32)) ∧ Fr n0 L ∧ h = h0
set_option maxRecDepth 65536 in
set_option maxHeartbeats 40000000 in
theorem rmEqN (l : Launch) (Z : State) (a0 : Array Value) (hw : ∀ d ∈ tables_1, d.before a0 Z = true) (ws : List Jvm.Cond) (r0 : Addr) (h0 : Heap) (n0 : Nat) (Z0 : n0 ≤ h0.size) :
    MetFree l (⟨"com/example/imprimatur/imprimatur/verify/HashTree", "equals", "(Ljava/lang/Object;)Z"⟩ : MethodName) (head1 (Jvm.Cond.code (⟨"com/example/imprimatur/imprimatur/verify/HashTree", "equals", "(Ljava/lang/Object;)Z"⟩ : MethodName) prog_51_method_4_code 3 (some .boolean) :: ws) ({ frames := 0, cells := 0, slots := 0, locals := 0 } : Room)) (fun a U => a = #[(.ref r0), .null] ∧ Z.Warmed39 U.vm ∧ U.heap = h0) (fun _ _ _ _ _ => True) (fun _ U o U' => ∃ v L, o = .returned v ∧ Q_rmEqN Z r0 h0 n0 v U'.heap L ∧ FrameEnd U o U' L ({ frames := 0, cells := 0, slots := 0, locals := 0 } : Room).cells ({ frames := 0, cells := 0, slots := 0, locals := 0 } : Room).slots) := by
  refine MetFree.of_bodySF (plainFor_of_name pn_1) hisR ?_
  intro p e s m args below meth c s₁ Bd hml0 hP hK
  obtain ⟨rfl, hZ, hh⟩ := hP
  have hx := Bd.exec
  have hby := Bd.bytes
  have hml : c.maxLocals = 3 := hml0
  have hown : s.vm.findClass "com/example/imprimatur/imprimatur/verify/HashTree" = some m.cls := findClass_of_methodNamed Bd.named
  have hnm := (name_of_methodNamed Bd.named Bd.method).1
  have X0 : Stand p l e ({ frames := 0, cells := 0, slots := 0, locals := 0 } : Room) s m #[(.ref r0), .null] below meth c s₁ [] 0 0 := Stand.of_body Bd
  have e0 : s₁.heap = h0 := by rw [← hh, Bd.state]; rfl
  have N0 := Fr.nil n0
  have pre0 : ∀ t, Steps p.tables e below (s₁.setTop (mkF m 0 #[.val (.ref r0), .val .null, .unset] [])) t → Steps p.tables e below (s₁.setTop (entryFrame m #[(.ref r0), .null] 3)) t := fun t k => castTop (ef_rmEqN m r0) k
  have st1 : ∀ target, Steps p.tables e below (s₁.setTop (mkF m 1 #[.val (.ref r0), .val .null, .unset] [.null])) target → Steps p.tables e below (s₁.setTop (mkF m 0 #[.val (.ref r0), .val .null, .unset] [])) target := by
    intro target kt
    show Steps p.tables e below (s₁.setTop (mkF m 0 #[.val (.ref r0), .val .null, .unset] [])) _
    refine XS.aloadN X0.here hx rfl (hb hby d5_0) rfl rfl ?_
    exact kt
  have st2 : ∀ target, Steps p.tables e below (s₁.setTop (mkF m 4 #[.val (.ref r0), .val .null, .unset] [(.int (0 : Int32))])) target → Steps p.tables e below (s₁.setTop (mkF m 1 #[.val (.ref r0), .val .null, .unset] [.null])) target := fun target kt => X0.instanceofNull hx (g := (mkF m 1 #[.val (.ref r0), .val .null, .unset] [.null])) rfl rfl (hb hby d5_1) _ kt
  obtain ⟨fs, hr, hrun, hended, hW, hsame⟩ := X0.leave (v := some (.int (0 : Int32))) (fun h => by rw [Bd.returns] at h; cases h)
  refine ⟨_, _, pre0 _ (st1 _ (st2 _ ?_)), hrun, hended, _, _, rfl, ?_, ⟨_, rfl⟩, hW, hsame.mono (by decide) (by decide)⟩
  · show Steps p.tables e below (s₁.setTop (mkF m 4 #[.val (.ref r0), .val .null, .unset] [(.int (0 : Int32))])) _
    refine XS.ifYes X0.here hx rfl (pc0 := 4) (pc' := 62) rfl (hb hby d5_4) rfl ((if0 _ _).trans (teq (rfl : (0 : Int32) = (0 : Int32))).1) (by decide) (by decide) ?_
    show Steps p.tables e below (s₁.setTop (mkF m 62 #[.val (.ref r0), .val .null, .unset] [])) _
    refine XS.iconst X0.here hx rfl (hb hby d5_62) ?_
    show Steps p.tables e below (s₁.setTop (mkF m 63 #[.val (.ref r0), .val .null, .unset] [(.int (0 : Int32))])) _
    exact retN X0 hx (t := .boolean) Bd.returns (by simp) (hb hby d5_63) hr
  · show Q_rmEqN Z r0 h0 n0 _ s₁.heap _
    rw [e0]
    exact ⟨rfl, N0, rfl⟩
def own_eq (d1 h1 : Int32) (o1 s1 : Int64) (d2 h2 : Int32) (o2 s2 : Int64) : Int32 := if d1 = d2 then if h1 = h2 then if o1 = o2 then if s1 = s2 then (1 : Int32) else (0 : Int32) else (0 : Int32) else (0 : Int32) else (0 : Int32)
theorem ef_rmEq (m : MethodId) (x0 : Addr) (x1 : Addr) : entryFrame m #[(.ref x0), (.ref x1)] 3 = mkF m 0 #[.val (.ref x0), .val (.ref x1), .unset] [] := by first | (simp [entryFrame, mkF, argsToLocals, Value.category]; done) | rfl
def Q_rmEq (Z : State) (r0 : Addr) (r1 : Addr) (d1 : Int32) (k1 : Int32) (o1 : Int64) (s1 : Int64) (d2 : Int32) (k2 : Int32) (o2 : Int64) (s2 : Int64) (h0 : Heap) (n0 : Nat) (v : Option Value) (h : Heap) (L : List Loc) : Prop := v = some (.int (own_eq d1 k1 o1 s1 d2 k2 o2 s2)) ∧ Fr n0 L ∧ h = h0
set_option maxRecDepth 65536 in
set_option maxHeartbeats 40000000 in
theorem rmEq (l : Launch) (Z : State) (a0 : Array Value) (hw : ∀ d ∈ tables_1, d.before a0 Z = true) (ws : List Jvm.Cond) (r0 : Addr) (r1 : Addr) (d1 : Int32) (k1 : Int32) (o1 : Int64) (s1 : Int64) (d2 : Int32) (k2 : Int32) (o2 : Int64) (s2 : Int64) (h0 : Heap) (n0 : Nat) (Z0 : n0 ≤ h0.size) (E_r1 : Exa Z h0 r1 "com/example/imprimatur/imprimatur/verify/HashTree") (F_dataBlockSize_0 : Fld Z h0 r0 "com/example/imprimatur/imprimatur/verify/HashTree" "dataBlockSize" "I" (.int d1)) (F_hashBlockSize_0 : Fld Z h0 r0 "com/example/imprimatur/imprimatur/verify/HashTree" "hashBlockSize" "I" (.int k1)) (F_treeOffset_0 : Fld Z h0 r0 "com/example/imprimatur/imprimatur/verify/HashTree" "treeOffset" "J" (.long o1)) (F_treeSize_0 : Fld Z h0 r0 "com/example/imprimatur/imprimatur/verify/HashTree" "treeSize" "J" (.long s1)) (F_dataBlockSize_1 : Fld Z h0 r1 "com/example/imprimatur/imprimatur/verify/HashTree" "dataBlockSize" "I" (.int d2)) (F_hashBlockSize_1 : Fld Z h0 r1 "com/example/imprimatur/imprimatur/verify/HashTree" "hashBlockSize" "I" (.int k2)) (F_treeOffset_1 : Fld Z h0 r1 "com/example/imprimatur/imprimatur/verify/HashTree" "treeOffset" "J" (.long o2)) (F_treeSize_1 : Fld Z h0 r1 "com/example/imprimatur/imprimatur/verify/HashTree" "treeSize" "J" (.long s2)) :
    MetFree l (⟨"com/example/imprimatur/imprimatur/verify/HashTree", "equals", "(Ljava/lang/Object;)Z"⟩ : MethodName) (head1 (Jvm.Cond.code (⟨"com/example/imprimatur/imprimatur/verify/HashTree", "equals", "(Ljava/lang/Object;)Z"⟩ : MethodName) prog_51_method_4_code 3 (some .boolean) :: ws) ({ frames := 0, cells := 0, slots := 0, locals := 0 } : Room)) (fun a U => a = #[(.ref r0), (.ref r1)] ∧ Z.Warmed39 U.vm ∧ U.heap = h0) (fun _ _ _ _ _ => True) (fun _ U o U' => ∃ v L, o = .returned v ∧ Q_rmEq Z r0 r1 d1 k1 o1 s1 d2 k2 o2 s2 h0 n0 v U'.heap L ∧ FrameEnd U o U' L ({ frames := 0, cells := 0, slots := 0, locals := 0 } : Room).cells ({ frames := 0, cells := 0, slots := 0, locals := 0 } : Room).slots) := by
  refine MetFree.of_bodySF (plainFor_of_name pn_1) hisR ?_
  intro p e s m args below meth c s₁ Bd hml0 hP hK
  obtain ⟨rfl, hZ, hh⟩ := hP
  have hx := Bd.exec
  have hby := Bd.bytes
  have hml : c.maxLocals = 3 := hml0
  have hown : s.vm.findClass "com/example/imprimatur/imprimatur/verify/HashTree" = some m.cls := findClass_of_methodNamed Bd.named
  have hnm := (name_of_methodNamed Bd.named Bd.method).1
  have X0 : Stand p l e ({ frames := 0, cells := 0, slots := 0, locals := 0 } : Room) s m #[(.ref r0), (.ref r1)] below meth c s₁ [] 0 0 := Stand.of_body Bd
  have e0 : s₁.heap = h0 := by rw [← hh, Bd.state]; rfl
  have N0 := Fr.nil n0
  have pre0 : ∀ t, Steps p.tables e below (s₁.setTop (mkF m 0 #[.val (.ref r0), .val (.ref r1), .unset] [])) t → Steps p.tables e below (s₁.setTop (entryFrame m #[(.ref r0), (.ref r1)] 3)) t := fun t k => castTop (ef_rmEq m r0 r1) k
  have st1 : ∀ target, Steps p.tables e below (s₁.setTop (mkF m 1 #[.val (.ref r0), .val (.ref r1), .unset] [(.ref r1)])) target → Steps p.tables e below (s₁.setTop (mkF m 0 #[.val (.ref r0), .val (.ref r1), .unset] [])) target := by
    intro target kt
    show Steps p.tables e below (s₁.setTop (mkF m 0 #[.val (.ref r0), .val (.ref r1), .unset] [])) _
    refine XS.aloadN X0.here hx rfl (hb hby d5_0) rfl rfl ?_
    exact kt
  obtain ⟨T2, X2, e2, st2⟩ := instY X0 hx hZ hown (hw _ (List.mem_of_getElem? (i := 33) rfl)) e0 (Ins.self E_r1) (g := (mkF m 1 #[.val (.ref r0), .val (.ref r1), .unset] [(.ref r1)])) rfl rfl (hb hby d5_1)
  have st3 : ∀ target, Steps p.tables e below (T2.setTop (mkF m 8 #[.val (.ref r0), .val (.ref r1), .unset] [(.ref r1)])) target → Steps p.tables e below (T2.setTop (mkF m 4 #[.val (.ref r0), .val (.ref r1), .unset] [(.int (1 : Int32))])) target := by
    intro target kt
    show Steps p.tables e below (T2.setTop (mkF m 4 #[.val (.ref r0), .val (.ref r1), .unset] [(.int (1 : Int32))])) _
    refine XS.ifNo X2.here hx rfl (hb hby d5_4) rfl ((if0 _ _).trans (feq (by decide : ¬ ((1 : Int32) = (0 : Int32)))).1) ?_
    show Steps p.tables e below (T2.setTop (mkF m 7 #[.val (.ref r0), .val (.ref r1), .unset] [])) _
    refine XS.aloadN X2.here hx rfl (hb hby d5_7) rfl rfl ?_
    exact kt
  obtain ⟨T4, X4, e4, st4⟩ := castY X2 hx hZ hown (hw _ (List.mem_of_getElem? (i := 33) rfl)) e2 (Ins.self E_r1) (g := (mkF m 8 #[.val (.ref r0), .val (.ref r1), .unset] [(.ref r1)])) rfl rfl (hb hby d5_8)
  have st5 : ∀ target, Steps p.tables e below (T4.setTop (mkF m 13 #[.val (.ref r0), .val (.ref r1), .val (.ref r1)] [(.ref r0)])) target → Steps p.tables e below (T4.setTop (mkF m 11 #[.val (.ref r0), .val (.ref r1), .unset] [(.ref r1)])) target := by
    intro target kt
    show Steps p.tables e below (T4.setTop (mkF m 11 #[.val (.ref r0), .val (.ref r1), .unset] [(.ref r1)])) _
    refine XS.astoreN X4.here hx rfl (hb hby d5_11) rfl rfl (l' := #[.val (.ref r0), .val (.ref r1), .val (.ref r1)]) rfl ?_
    show Steps p.tables e below (T4.setTop (mkF m 12 #[.val (.ref r0), .val (.ref r1), .val (.ref r1)] [])) _
    refine XS.aloadN X4.here hx rfl (hb hby d5_12) rfl rfl ?_
    exact kt
  obtain ⟨T6, X6, e6, st6⟩ := getF X4 hx hZ hown (host := "") (Or.inl (hw _ (List.mem_of_getElem? (i := 20) rfl))) Via.refl e4 F_dataBlockSize_0 (g := (mkF m 13 #[.val (.ref r0), .val (.ref r1), .val (.ref r1)] [(.ref r0)])) rfl rfl (hb hby d5_13)
  have st7 : ∀ target, Steps p.tables e below (T6.setTop (mkF m 17 #[.val (.ref r0), .val (.ref r1), .val (.ref r1)] [(.ref r1), (.int d1)])) target → Steps p.tables e below (T6.setTop (mkF m 16 #[.val (.ref r0), .val (.ref r1), .val (.ref r1)] [(.int d1)])) target := by
    intro target kt
    show Steps p.tables e below (T6.setTop (mkF m 16 #[.val (.ref r0), .val (.ref r1), .val (.ref r1)] [(.int d1)])) _
    refine XS.aloadN X6.here hx rfl (hb hby d5_16) rfl rfl ?_
    exact kt
  obtain ⟨T8, X8, e8, st8⟩ := getF X6 hx hZ hown (host := "") (Or.inl (hw _ (List.mem_of_getElem? (i := 20) rfl))) Via.refl e6 F_dataBlockSize_1 (g := (mkF m 17 #[.val (.ref r0), .val (.ref r1), .val (.ref r1)] [(.ref r1), (.int d1)])) rfl rfl (hb hby d5_17)
  by_cases hc20 : d1 = d2
  · have st9 : ∀ target, Steps p.tables e below (T8.setTop (mkF m 23 #[.val (.ref r0), .val (.ref r1), .val (.ref r1)] [])) target → Steps p.tables e below (T8.setTop (mkF m 20 #[.val (.ref r0), .val (.ref r1), .val (.ref r1)] [(.int d2), (.int d1)])) target := by
      intro target kt
      show Steps p.tables e below (T8.setTop (mkF m 20 #[.val (.ref r0), .val (.ref r1), .val (.ref r1)] [(.int d2), (.int d1)])) _
      refine XS.icmpNo X8.here hx rfl (hb hby d5_20) rfl (teq hc20).2 ?_
      exact kt
    have st10 : ∀ target, Steps p.tables e below (T8.setTop (mkF m 24 #[.val (.ref r0), .val (.ref r1), .val (.ref r1)] [(.ref r0)])) target → Steps p.tables e below (T8.setTop (mkF m 23 #[.val (.ref r0), .val (.ref r1), .val (.ref r1)] [])) target := by
      intro target kt
      show Steps p.tables e below (T8.setTop (mkF m 23 #[.val (.ref r0), .val (.ref r1), .val (.ref r1)] [])) _
      refine XS.aloadN X8.here hx rfl (hb hby d5_23) rfl rfl ?_
      exact kt
    obtain ⟨T11, X11, e11, st11⟩ := getF X8 hx hZ hown (host := "") (Or.inl (hw _ (List.mem_of_getElem? (i := 22) rfl))) Via.refl e8 F_hashBlockSize_0 (g := (mkF m 24 #[.val (.ref r0), .val (.ref r1), .val (.ref r1)] [(.ref r0)])) rfl rfl (hb hby d5_24)
    have st12 : ∀ target, Steps p.tables e below (T11.setTop (mkF m 28 #[.val (.ref r0), .val (.ref r1), .val (.ref r1)] [(.ref r1), (.int k1)])) target → Steps p.tables e below (T11.setTop (mkF m 27 #[.val (.ref r0), .val (.ref r1), .val (.ref r1)] [(.int k1)])) target := by
      intro target kt
      show Steps p.tables e below (T11.setTop (mkF m 27 #[.val (.ref r0), .val (.ref r1), .val (.ref r1)] [(.int k1)])) _
      refine XS.aloadN X11.here hx rfl (hb hby d5_27) rfl rfl ?_
      exact kt
    obtain ⟨T13, X13, e13, st13⟩ := getF X11 hx hZ hown (host := "") (Or.inl (hw _ (List.mem_of_getElem? (i := 22) rfl))) Via.refl e11 F_hashBlockSize_1 (g := (mkF m 28 #[.val (.ref r0), .val (.ref r1), .val (.ref r1)] [(.ref r1), (.int k1)])) rfl rfl (hb hby d5_28)
    by_cases hc31 : k1 = k2
    · have st14 : ∀ target, Steps p.tables e below (T13.setTop (mkF m 34 #[.val (.ref r0), .val (.ref r1), .val (.ref r1)] [])) target → Steps p.tables e below (T13.setTop (mkF m 31 #[.val (.ref r0), .val (.ref r1), .val (.ref r1)] [(.int k2), (.int k1)])) target := by
        intro target kt
        show Steps p.tables e below (T13.setTop (mkF m 31 #[.val (.ref r0), .val (.ref r1), .val (.ref r1)] [(.int k2), (.int k1)])) _
        refine XS.icmpNo X13.here hx rfl (hb hby d5_31) rfl (teq hc31).2 ?_
        exact kt
      have st15 : ∀ target, Steps p.tables e below (T13.setTop (mkF m 35 #[.val (.ref r0), .val (.ref r1), .val (.ref r1)] [(.ref r0)])) target → Steps p.tables e below (T13.setTop (mkF m 34 #[.val (.ref r0), .val (.ref r1), .val (.ref r1)] [])) target := by
        intro target kt
        show Steps p.tables e below (T13.setTop (mkF m 34 #[.val (.ref r0), .val (.ref r1), .val (.ref r1)] [])) _
        refine XS.aloadN X13.here hx rfl (hb hby d5_34) rfl rfl ?_
        exact kt
      obtain ⟨T16, X16, e16, st16⟩ := getF X13 hx hZ hown (host := "") (Or.inl (hw _ (List.mem_of_getElem? (i := 24) rfl))) Via.refl e13 F_treeOffset_0 (g := (mkF m 35 #[.val (.ref r0), .val (.ref r1), .val (.ref r1)] [(.ref r0)])) rfl rfl (hb hby d5_35)
      have st17 : ∀ target, Steps p.tables e below (T16.setTop (mkF m 39 #[.val (.ref r0), .val (.ref r1), .val (.ref r1)] [(.ref r1), (.long o1)])) target → Steps p.tables e below (T16.setTop (mkF m 38 #[.val (.ref r0), .val (.ref r1), .val (.ref r1)] [(.long o1)])) target := by
        intro target kt
        show Steps p.tables e below (T16.setTop (mkF m 38 #[.val (.ref r0), .val (.ref r1), .val (.ref r1)] [(.long o1)])) _
        refine XS.aloadN X16.here hx rfl (hb hby d5_38) rfl rfl ?_
        exact kt
      obtain ⟨T18, X18, e18, st18⟩ := getF X16 hx hZ hown (host := "") (Or.inl (hw _ (List.mem_of_getElem? (i := 24) rfl))) Via.refl e16 F_treeOffset_1 (g := (mkF m 39 #[.val (.ref r0), .val (.ref r1), .val (.ref r1)] [(.ref r1), (.long o1)])) rfl rfl (hb hby d5_39)
      have st19 : ∀ target, Steps p.tables e below (T18.setTop (mkF m 43 #[.val (.ref r0), .val (.ref r1), .val (.ref r1)] [(.int (lcmpW o1 o2))])) target → Steps p.tables e below (T18.setTop (mkF m 42 #[.val (.ref r0), .val (.ref r1), .val (.ref r1)] [(.long o2), (.long o1)])) target := by
        intro target kt
        show Steps p.tables e below (T18.setTop (mkF m 42 #[.val (.ref r0), .val (.ref r1), .val (.ref r1)] [(.long o2), (.long o1)])) _
        refine XS.lcmp X18.here hx rfl (hb hby d5_42) rfl ?_
        exact kt
      by_cases hc43 : o1 = o2
      · have st20 : ∀ target, Steps p.tables e below (T18.setTop (mkF m 46 #[.val (.ref r0), .val (.ref r1), .val (.ref r1)] [])) target → Steps p.tables e below (T18.setTop (mkF m 43 #[.val (.ref r0), .val (.ref r1), .val (.ref r1)] [(.int (lcmpW o1 o2))])) target := by
          intro target kt
          show Steps p.tables e below (T18.setTop (mkF m 43 #[.val (.ref r0), .val (.ref r1), .val (.ref r1)] [(.int (lcmpW o1 o2))])) _
          refine XS.ifNo X18.here hx rfl (hb hby d5_43) rfl ((if0 _ _).trans (teq ((own_lc_eq _ _).mpr hc43)).2) ?_
          exact kt
        have st21 : ∀ target, Steps p.tables e below (T18.setTop (mkF m 47 #[.val (.ref r0), .val (.ref r1), .val (.ref r1)] [(.ref r0)])) target → Steps p.tables e below (T18.setTop (mkF m 46 #[.val (.ref r0), .val (.ref r1), .val (.ref r1)] [])) target := by
          intro target kt
          show Steps p.tables e below (T18.setTop (mkF m 46 #[.val (.ref r0), .val (.ref r1), .val (.ref r1)] [])) _
          refine XS.aloadN X18.here hx rfl (hb hby d5_46) rfl rfl ?_
          exact kt
        obtain ⟨T22, X22, e22, st22⟩ := getF X18 hx hZ hown (host := "") (Or.inl (hw _ (List.mem_of_getElem? (i := 26) rfl))) Via.refl e18 F_treeSize_0 (g := (mkF m 47 #[.val (.ref r0), .val (.ref r1), .val (.ref r1)] [(.ref r0)])) rfl rfl (hb hby d5_47)
        have st23 : ∀ target, Steps p.tables e below (T22.setTop (mkF m 51 #[.val (.ref r0), .val (.ref r1), .val (.ref r1)] [(.ref r1), (.long s1)])) target → Steps p.tables e below (T22.setTop (mkF m 50 #[.val (.ref r0), .val (.ref r1), .val (.ref r1)] [(.long s1)])) target := by
          intro target kt
          show Steps p.tables e below (T22.setTop (mkF m 50 #[.val (.ref r0), .val (.ref r1), .val (.ref r1)] [(.long s1)])) _
          refine XS.aloadN X22.here hx rfl (hb hby d5_50) rfl rfl ?_
          exact kt
        obtain ⟨T24, X24, e24, st24⟩ := getF X22 hx hZ hown (host := "") (Or.inl (hw _ (List.mem_of_getElem? (i := 26) rfl))) Via.refl e22 F_treeSize_1 (g := (mkF m 51 #[.val (.ref r0), .val (.ref r1), .val (.ref r1)] [(.ref r1), (.long s1)])) rfl rfl (hb hby d5_51)
        have st25 : ∀ target, Steps p.tables e below (T24.setTop (mkF m 55 #[.val (.ref r0), .val (.ref r1), .val (.ref r1)] [(.int (lcmpW s1 s2))])) target → Steps p.tables e below (T24.setTop (mkF m 54 #[.val (.ref r0), .val (.ref r1), .val (.ref r1)] [(.long s2), (.long s1)])) target := by
          intro target kt
          show Steps p.tables e below (T24.setTop (mkF m 54 #[.val (.ref r0), .val (.ref r1), .val (.ref r1)] [(.long s2), (.long s1)])) _
          refine XS.lcmp X24.here hx rfl (hb hby d5_54) rfl ?_
          exact kt
        by_cases hc55 : s1 = s2
        · have st26 : ∀ target, Steps p.tables e below (T24.setTop (mkF m 58 #[.val (.ref r0), .val (.ref r1), .val (.ref r1)] [])) target → Steps p.tables e below (T24.setTop (mkF m 55 #[.val (.ref r0), .val (.ref r1), .val (.ref r1)] [(.int (lcmpW s1 s2))])) target := by
            intro target kt
            show Steps p.tables e below (T24.setTop (mkF m 55 #[.val (.ref r0), .val (.ref r1), .val (.ref r1)] [(.int (lcmpW s1 s2))])) _
            refine XS.ifNo X24.here hx rfl (hb hby d5_55) rfl ((if0 _ _).trans (teq ((own_lc_eq _ _).mpr hc55)).2) ?_
            exact kt
          obtain ⟨fs, hr, hrun, hended, hW, hsame⟩ := X24.leave (v := some (.int (1 : Int32))) (fun h => by rw [Bd.returns] at h; cases h)
          refine ⟨_, _, pre0 _ (st1 _ (st2 _ (st3 _ (st4 _ (st5 _ (st6 _ (st7 _ (st8 _ (st9 _ (st10 _ (st11 _ (st12 _ (st13 _ (st14 _ (st15 _ (st16 _ (st17 _ (st18 _ (st19 _ (st20 _ (st21 _ (st22 _ (st23 _ (st24 _ (st25 _ (st26 _ ?_)))))))))))))))))))))))))), hrun, hended, _, _, rfl, ?_, ⟨_, rfl⟩, hW, hsame.mono (by decide) (by decide)⟩
          · show Steps p.tables e below (T24.setTop (mkF m 58 #[.val (.ref r0), .val (.ref r1), .val (.ref r1)] [])) _
            refine XS.iconst X24.here hx rfl (hb hby d5_58) ?_
            show Steps p.tables e below (T24.setTop (mkF m 59 #[.val (.ref r0), .val (.ref r1), .val (.ref r1)] [(.int (1 : Int32))])) _
            refine XS.goto X24.here hx rfl (pc0 := 59) (pc' := 63) rfl (hb hby d5_59) (by decide) (by decide) ?_
            show Steps p.tables e below (T24.setTop (mkF m 63 #[.val (.ref r0), .val (.ref r1), .val (.ref r1)] [(.int (1 : Int32))])) _
            exact retN X24 hx (t := .boolean) Bd.returns (by simp) (hb hby d5_63) hr
          · show Q_rmEq Z r0 r1 d1 k1 o1 s1 d2 k2 o2 s2 h0 n0 _ T24.heap _
            rw [e24]
            exact ⟨by rw [own_eq, if_pos hc20, if_pos hc31, if_pos hc43, if_pos hc55], N0, rfl⟩
        · have st27 : ∀ target, Steps p.tables e below (T24.setTop (mkF m 62 #[.val (.ref r0), .val (.ref r1), .val (.ref r1)] [])) target → Steps p.tables e below (T24.setTop (mkF m 55 #[.val (.ref r0), .val (.ref r1), .val (.ref r1)] [(.int (lcmpW s1 s2))])) target := by
            intro target kt
            show Steps p.tables e below (T24.setTop (mkF m 55 #[.val (.ref r0), .val (.ref r1), .val (.ref r1)] [(.int (lcmpW s1 s2))])) _
            refine XS.ifYes X24.here hx rfl (pc0 := 55) (pc' := 62) rfl (hb hby d5_55) rfl ((if0 _ _).trans (feq (mt (own_lc_eq _ _).mp hc55)).2) (by decide) (by decide) ?_
            exact kt
          obtain ⟨fs, hr, hrun, hended, hW, hsame⟩ := X24.leave (v := some (.int (0 : Int32))) (fun h => by rw [Bd.returns] at h; cases h)
          refine ⟨_, _, pre0 _ (st1 _ (st2 _ (st3 _ (st4 _ (st5 _ (st6 _ (st7 _ (st8 _ (st9 _ (st10 _ (st11 _ (st12 _ (st13 _ (st14 _ (st15 _ (st16 _ (st17 _ (st18 _ (st19 _ (st20 _ (st21 _ (st22 _ (st23 _ (st24 _ (st25 _ (st27 _ ?_)))))))))))))))))))))))))), hrun, hended, _, _, rfl, ?_, ⟨_, rfl⟩, hW, hsame.mono (by decide) (by decide)⟩
          · show Steps p.tables e below (T24.setTop (mkF m 62 #[.val (.ref r0), .val (.ref r1), .val (.ref r1)] [])) _
            refine XS.iconst X24.here hx rfl (hb hby d5_62) ?_
            show Steps p.tables e below (T24.setTop (mkF m 63 #[.val (.ref r0), .val (.ref r1), .val (.ref r1)] [(.int (0 : Int32))])) _
            exact retN X24 hx (t := .boolean) Bd.returns (by simp) (hb hby d5_63) hr
          · show Q_rmEq Z r0 r1 d1 k1 o1 s1 d2 k2 o2 s2 h0 n0 _ T24.heap _
            rw [e24]
            exact ⟨by rw [own_eq, if_pos hc20, if_pos hc31, if_pos hc43, if_neg hc55], N0, rfl⟩
      · have st28 : ∀ target, Steps p.tables e below (T18.setTop (mkF m 62 #[.val (.ref r0), .val (.ref r1), .val (.ref r1)] [])) target → Steps p.tables e below (T18.setTop (mkF m 43 #[.val (.ref r0), .val (.ref r1), .val (.ref r1)] [(.int (lcmpW o1 o2))])) target := by
          intro target kt
          show Steps p.tables e below (T18.setTop (mkF m 43 #[.val (.ref r0), .val (.ref r1), .val (.ref r1)] [(.int (lcmpW o1 o2))])) _
          refine XS.ifYes X18.here hx rfl (pc0 := 43) (pc' := 62) rfl (hb hby d5_43) rfl ((if0 _ _).trans (feq (mt (own_lc_eq _ _).mp hc43)).2) (by decide) (by decide) ?_
          exact kt
        obtain ⟨fs, hr, hrun, hended, hW, hsame⟩ := X18.leave (v := some (.int (0 : Int32))) (fun h => by rw [Bd.returns] at h; cases h)
        refine ⟨_, _, pre0 _ (st1 _ (st2 _ (st3 _ (st4 _ (st5 _ (st6 _ (st7 _ (st8 _ (st9 _ (st10 _ (st11 _ (st12 _ (st13 _ (st14 _ (st15 _ (st16 _ (st17 _ (st18 _ (st19 _ (st28 _ ?_)))))))))))))))))))), hrun, hended, _, _, rfl, ?_, ⟨_, rfl⟩, hW, hsame.mono (by decide) (by decide)⟩
        · show Steps p.tables e below (T18.setTop (mkF m 62 #[.val (.ref r0), .val (.ref r1), .val (.ref r1)] [])) _
          refine XS.iconst X18.here hx rfl (hb hby d5_62) ?_
          show Steps p.tables e below (T18.setTop (mkF m 63 #[.val (.ref r0), .val (.ref r1), .val (.ref r1)] [(.int (0 : Int32))])) _
          exact retN X18 hx (t := .boolean) Bd.returns (by simp) (hb hby d5_63) hr
        · show Q_rmEq Z r0 r1 d1 k1 o1 s1 d2 k2 o2 s2 h0 n0 _ T18.heap _
          rw [e18]
          exact ⟨by rw [own_eq, if_pos hc20, if_pos hc31, if_neg hc43], N0, rfl⟩
    · have st29 : ∀ target, Steps p.tables e below (T13.setTop (mkF m 62 #[.val (.ref r0), .val (.ref r1), .val (.ref r1)] [])) target → Steps p.tables e below (T13.setTop (mkF m 31 #[.val (.ref r0), .val (.ref r1), .val (.ref r1)] [(.int k2), (.int k1)])) target := by
        intro target kt
        show Steps p.tables e below (T13.setTop (mkF m 31 #[.val (.ref r0), .val (.ref r1), .val (.ref r1)] [(.int k2), (.int k1)])) _
        refine XS.icmpYes X13.here hx rfl (pc0 := 31) (pc' := 62) rfl (hb hby d5_31) rfl (feq hc31).2 (by decide) (by decide) ?_
        exact kt
      obtain ⟨fs, hr, hrun, hended, hW, hsame⟩ := X13.leave (v := some (.int (0 : Int32))) (fun h => by rw [Bd.returns] at h; cases h)
      refine ⟨_, _, pre0 _ (st1 _ (st2 _ (st3 _ (st4 _ (st5 _ (st6 _ (st7 _ (st8 _ (st9 _ (st10 _ (st11 _ (st12 _ (st13 _ (st29 _ ?_)))))))))))))), hrun, hended, _, _, rfl, ?_, ⟨_, rfl⟩, hW, hsame.mono (by decide) (by decide)⟩
      · show Steps p.tables e below (T13.setTop (mkF m 62 #[.val (.ref r0), .val (.ref r1), .val (.ref r1)] [])) _
        refine XS.iconst X13.here hx rfl (hb hby d5_62) ?_
        show Steps p.tables e below (T13.setTop (mkF m 63 #[.val (.ref r0), .val (.ref r1), .val (.ref r1)] [(.int (0 : Int32))])) _
        exact retN X13 hx (t := .boolean) Bd.returns (by simp) (hb hby d5_63) hr
      · show Q_rmEq Z r0 r1 d1 k1 o1 s1 d2 k2 o2 s2 h0 n0 _ T13.heap _
        rw [e13]
        exact ⟨by rw [own_eq, if_pos hc20, if_neg hc31], N0, rfl⟩
  · have st30 : ∀ target, Steps p.tables e below (T8.setTop (mkF m 62 #[.val (.ref r0), .val (.ref r1), .val (.ref r1)] [])) target → Steps p.tables e below (T8.setTop (mkF m 20 #[.val (.ref r0), .val (.ref r1), .val (.ref r1)] [(.int d2), (.int d1)])) target := by
      intro target kt
      show Steps p.tables e below (T8.setTop (mkF m 20 #[.val (.ref r0), .val (.ref r1), .val (.ref r1)] [(.int d2), (.int d1)])) _
      refine XS.icmpYes X8.here hx rfl (pc0 := 20) (pc' := 62) rfl (hb hby d5_20) rfl (feq hc20).2 (by decide) (by decide) ?_
      exact kt
    obtain ⟨fs, hr, hrun, hended, hW, hsame⟩ := X8.leave (v := some (.int (0 : Int32))) (fun h => by rw [Bd.returns] at h; cases h)
    refine ⟨_, _, pre0 _ (st1 _ (st2 _ (st3 _ (st4 _ (st5 _ (st6 _ (st7 _ (st8 _ (st30 _ ?_))))))))), hrun, hended, _, _, rfl, ?_, ⟨_, rfl⟩, hW, hsame.mono (by decide) (by decide)⟩
    · show Steps p.tables e below (T8.setTop (mkF m 62 #[.val (.ref r0), .val (.ref r1), .val (.ref r1)] [])) _
      refine XS.iconst X8.here hx rfl (hb hby d5_62) ?_
      show Steps p.tables e below (T8.setTop (mkF m 63 #[.val (.ref r0), .val (.ref r1), .val (.ref r1)] [(.int (0 : Int32))])) _
      exact retN X8 hx (t := .boolean) Bd.returns (by simp) (hb hby d5_63) hr
    · show Q_rmEq Z r0 r1 d1 k1 o1 s1 d2 k2 o2 s2 h0 n0 _ T8.heap _
      rw [e8]
      exact ⟨by rw [own_eq, if_neg hc20], N0, rfl⟩
theorem ef_rmEqL (m : MethodId) (x0 : Addr) (x1 : Addr) : entryFrame m #[(.ref x0), (.ref x1)] 3 = mkF m 0 #[.val (.ref x0), .val (.ref x1), .unset] [] := by first | (simp [entryFrame, mkF, argsToLocals, Value.category]; done) | rfl
def Q_rmEqL (Z : State) (r0 : Addr) (r1 : Addr) (h0 : Heap) (n0 : Nat) (v : Option Value) (h : Heap) (L : List Loc) : Prop := v = some (.int (0 : Int32)) ∧ Fr n0 L ∧ h = h0
set_option maxRecDepth 65536 in
set_option maxHeartbeats 40000000 in
theorem rmEqL (l : Launch) (Z : State) (a0 : Array Value) (hw : ∀ d ∈ tables_1, d.before a0 Z = true) (ws : List Jvm.Cond) (r0 : Addr) (r1 : Addr) (h0 : Heap) (n0 : Nat) (Z0 : n0 ≤ h0.size) (E_r1 : Exa Z h0 r1 "java/lang/Long") :
    MetFree l (⟨"com/example/imprimatur/imprimatur/verify/HashTree", "equals", "(Ljava/lang/Object;)Z"⟩ : MethodName) (head1 (Jvm.Cond.code (⟨"com/example/imprimatur/imprimatur/verify/HashTree", "equals", "(Ljava/lang/Object;)Z"⟩ : MethodName) prog_51_method_4_code 3 (some .boolean) :: ws) ({ frames := 0, cells := 0, slots := 0, locals := 0 } : Room)) (fun a U => a = #[(.ref r0), (.ref r1)] ∧ Z.Warmed39 U.vm ∧ U.heap = h0) (fun _ _ _ _ _ => True) (fun _ U o U' => ∃ v L, o = .returned v ∧ Q_rmEqL Z r0 r1 h0 n0 v U'.heap L ∧ FrameEnd U o U' L ({ frames := 0, cells := 0, slots := 0, locals := 0 } : Room).cells ({ frames := 0, cells := 0, slots := 0, locals := 0 } : Room).slots) := by
  refine MetFree.of_bodySF (plainFor_of_name pn_1) hisR ?_
  intro p e s m args below meth c s₁ Bd hml0 hP hK
  obtain ⟨rfl, hZ, hh⟩ := hP
  have hx := Bd.exec
  have hby := Bd.bytes
  have hml : c.maxLocals = 3 := hml0
  have hown : s.vm.findClass "com/example/imprimatur/imprimatur/verify/HashTree" = some m.cls := findClass_of_methodNamed Bd.named
  have hnm := (name_of_methodNamed Bd.named Bd.method).1
  have X0 : Stand p l e ({ frames := 0, cells := 0, slots := 0, locals := 0 } : Room) s m #[(.ref r0), (.ref r1)] below meth c s₁ [] 0 0 := Stand.of_body Bd
  have e0 : s₁.heap = h0 := by rw [← hh, Bd.state]; rfl
  have N0 := Fr.nil n0
  have pre0 : ∀ t, Steps p.tables e below (s₁.setTop (mkF m 0 #[.val (.ref r0), .val (.ref r1), .unset] [])) t → Steps p.tables e below (s₁.setTop (entryFrame m #[(.ref r0), (.ref r1)] 3)) t := fun t k => castTop (ef_rmEqL m r0 r1) k
  have st1 : ∀ target, Steps p.tables e below (s₁.setTop (mkF m 1 #[.val (.ref r0), .val (.ref r1), .unset] [(.ref r1)])) target → Steps p.tables e below (s₁.setTop (mkF m 0 #[.val (.ref r0), .val (.ref r1), .unset] [])) target := by
    intro target kt
    show Steps p.tables e below (s₁.setTop (mkF m 0 #[.val (.ref r0), .val (.ref r1), .unset] [])) _
    refine XS.aloadN X0.here hx rfl (hb hby d5_0) rfl rfl ?_
    exact kt
  have Nx : Ins Z h0 r1 "com/example/imprimatur/imprimatur/verify/HashTree" false := own_noins E_r1 (hw _ (List.mem_of_getElem? (i := 56) rfl)) (hw _ (List.mem_of_getElem? (i := 57) rfl)) (hw _ (List.mem_of_getElem? (i := 58) rfl)) (hw _ (List.mem_of_getElem? (i := 1) rfl)) (by decide) (by decide) (by decide)
  obtain ⟨T2, X2, e2, st2⟩ := instN X0 hx hZ hown (hw _ (List.mem_of_getElem? (i := 33) rfl)) e0 (by rw [hh]; exact Nx) (by rw [hh]; exact E_r1) (g := (mkF m 1 #[.val (.ref r0), .val (.ref r1), .unset] [(.ref r1)])) rfl rfl (hb hby d5_1)
  obtain ⟨fs, hr, hrun, hended, hW, hsame⟩ := X2.leave (v := some (.int (0 : Int32))) (fun h => by rw [Bd.returns] at h; cases h)
  refine ⟨_, _, pre0 _ (st1 _ (st2 _ ?_)), hrun, hended, _, _, rfl, ?_, ⟨_, rfl⟩, hW, hsame.mono (by decide) (by decide)⟩
  · show Steps p.tables e below (T2.setTop (mkF m 4 #[.val (.ref r0), .val (.ref r1), .unset] [(.int (0 : Int32))])) _
    refine XS.ifYes X2.here hx rfl (pc0 := 4) (pc' := 62) rfl (hb hby d5_4) rfl ((if0 _ _).trans (teq (rfl : (0 : Int32) = (0 : Int32))).1) (by decide) (by decide) ?_
    show Steps p.tables e below (T2.setTop (mkF m 62 #[.val (.ref r0), .val (.ref r1), .unset] [])) _
    refine XS.iconst X2.here hx rfl (hb hby d5_62) ?_
    show Steps p.tables e below (T2.setTop (mkF m 63 #[.val (.ref r0), .val (.ref r1), .unset] [(.int (0 : Int32))])) _
    exact retN X2 hx (t := .boolean) Bd.returns (by simp) (hb hby d5_63) hr
  · show Q_rmEqL Z r0 r1 h0 n0 _ T2.heap _
    rw [e2]
    exact ⟨rfl, N0, rfl⟩
theorem d8_0 : decode jdk_18_method_1_code 0 = .ok (.aload_n 0, 1) := by decide +kernel
theorem d8_1 : decode jdk_18_method_1_code 1 = .ok (.invokespecial 1, 3) := by decide +kernel
theorem d8_4 : decode jdk_18_method_1_code 4 = .ok (.return_, 1) := by decide +kernel
theorem pn_2 : plainName "java/lang/Number" = true := by first | (simp [plainName, overriddenIn]; done) | decide +kernel
theorem ef_rm8 (m : MethodId) (x0 : Addr) : entryFrame m #[(.ref x0)] 1 = mkF m 0 #[.val (.ref x0)] [] := by first | (simp [entryFrame, mkF, argsToLocals, Value.category]; done) | rfl
def Q_rm8 (Z : State) (r0 : Addr) (h0 : Heap) (n0 : Nat) (v : Option Value) (h : Heap) (L : List Loc) : Prop := v = none ∧ Fr n0 L ∧ h = h0
set_option maxRecDepth 65536 in
set_option maxHeartbeats 40000000 in
theorem rm8 (l : Launch) (Z : State) (a0 : Array Value) (hw : ∀ d ∈ tables_1, d.before a0 Z = true) (ws : List Jvm.Cond) (r0 : Addr) (h0 : Heap) (n0 : Nat) (Z0 : n0 ≤ h0.size) :
    MetFree l (⟨"java/lang/Number", "<init>", "()V"⟩ : MethodName) (head1 (Jvm.Cond.code (⟨"java/lang/Number", "<init>", "()V"⟩ : MethodName) jdk_18_method_1_code 1 none :: ws) ({ frames := 1, cells := 0, slots := 0, locals := 12 } : Room)) (fun a U => a = #[(.ref r0)] ∧ Z.Warmed39 U.vm ∧ U.heap = h0) (fun _ _ _ _ _ => True) (fun _ U o U' => ∃ v L, o = .returned v ∧ Q_rm8 Z r0 h0 n0 v U'.heap L ∧ FrameEnd U o U' L ({ frames := 1, cells := 0, slots := 0, locals := 12 } : Room).cells ({ frames := 1, cells := 0, slots := 0, locals := 12 } : Room).slots) := by
  refine MetFree.of_bodySF (plainFor_of_name pn_2) hisR ?_
  intro p e s m args below meth c s₁ Bd hml0 hP hK
  obtain ⟨rfl, hZ, hh⟩ := hP
  have hx := Bd.exec
  have hby := Bd.bytes
  have hml : c.maxLocals = 1 := hml0
  have hown : s.vm.findClass "java/lang/Number" = some m.cls := findClass_of_methodNamed Bd.named
  have hnm := (name_of_methodNamed Bd.named Bd.method).1
  have X0 : Stand p l e ({ frames := 1, cells := 0, slots := 0, locals := 12 } : Room) s m #[(.ref r0)] below meth c s₁ [] 0 0 := Stand.of_body Bd
  have e0 : s₁.heap = h0 := by rw [← hh, Bd.state]; rfl
  have N0 := Fr.nil n0
  have pre0 : ∀ t, Steps p.tables e below (s₁.setTop (mkF m 0 #[.val (.ref r0)] [])) t → Steps p.tables e below (s₁.setTop (entryFrame m #[(.ref r0)] 1)) t := fun t k => castTop (ef_rm8 m r0) k
  have st1 : ∀ target, Steps p.tables e below (s₁.setTop (mkF m 1 #[.val (.ref r0)] [(.ref r0)])) target → Steps p.tables e below (s₁.setTop (mkF m 0 #[.val (.ref r0)] [])) target := by
    intro target kt
    show Steps p.tables e below (s₁.setTop (mkF m 0 #[.val (.ref r0)] [])) _
    refine XS.aloadN X0.here hx rfl (hb hby d8_0) rfl rfl ?_
    exact kt
  obtain ⟨T2, X2, e2, st2⟩ := initO X0 hx hZ hown (hw _ (List.mem_of_getElem? (i := 53) rfl)) (hw _ (List.mem_of_getElem? (i := 7) rfl)) (hw _ (List.mem_of_getElem? (i := 8) rfl)) e0 (g := (mkF m 1 #[.val (.ref r0)] [(.ref r0)])) rfl (by rw [hml]; rfl) rfl (hb hby d8_1) (by decide) (W := 0) (by show 2 * 0 + _ ≤ _; exact Nat.le_of_eq rfl) (by decide)
  obtain ⟨fs, hr, hrun, hended, hW, hsame⟩ := X2.leave (v := none) (fun _ => rfl)
  refine ⟨_, _, pre0 _ (st1 _ (st2 _ ?_)), hrun, hended, _, _, rfl, ?_, ⟨_, rfl⟩, hW, hsame.mono (by decide) (by decide)⟩
  · show Steps p.tables e below (T2.setTop (mkF m 4 #[.val (.ref r0)] [])) _
    exact X2.returnOut hx Bd.returns (hb hby d8_4) hr
  · show Q_rm8 Z r0 h0 n0 _ T2.heap _
    rw [e2]
    exact ⟨rfl, N0, rfl⟩
theorem d7_0 : decode jdk_35_method_26_code 0 = .ok (.aload_n 0, 1) := by decide +kernel
theorem d7_1 : decode jdk_35_method_26_code 1 = .ok (.invokespecial 270, 3) := by decide +kernel
theorem d7_4 : decode jdk_35_method_26_code 4 = .ok (.aload_n 0, 1) := by decide +kernel
theorem d7_5 : decode jdk_35_method_26_code 5 = .ok (.lload_n 1, 1) := by decide +kernel
theorem d7_6 : decode jdk_35_method_26_code 6 = .ok (.putfield 273, 3) := by decide +kernel
theorem d7_9 : decode jdk_35_method_26_code 9 = .ok (.return_, 1) := by decide +kernel
theorem pn_3 : plainName "java/lang/Long" = true := by first | (simp [plainName, overriddenIn]; done) | decide +kernel
theorem ef_rm7 (m : MethodId) (x0 : Addr) (x1 : Int64) : entryFrame m #[(.ref x0), (.long x1)] 3 = mkF m 0 #[.val (.ref x0), .val (.long x1), .second] [] := by first | (simp [entryFrame, mkF, argsToLocals, Value.category]; done) | rfl
def Q_rm7 (Z : State) (r0 : Addr) (q1 : Int64) (h0 : Heap) (n0 : Nat) (v : Option Value) (h : Heap) (L : List Loc) : Prop := v = none ∧ Fr n0 L ∧ Keep h0 h [r0] ∧ Exa Z h r0 "java/lang/Long" ∧ Fld Z h r0 "java/lang/Long" "value" "J" (.long q1)
set_option maxRecDepth 65536 in
set_option maxHeartbeats 40000000 in
theorem rm7 (l : Launch) (Z : State) (a0 : Array Value) (hw : ∀ d ∈ tables_1, d.before a0 Z = true) (ws : List Jvm.Cond) (r0 : Addr) (q1 : Int64) (h0 : Heap) (n0 : Nat) (Z0 : n0 ≤ h0.size) (F_value : Fld Z h0 r0 "java/lang/Long" "value" "J" (.long (0 : Int64))) (E_o : Exa Z h0 r0 "java/lang/Long") (g_r0 : n0 ≤ r0) :
    MetFree l (⟨"java/lang/Long", "<init>", "(J)V"⟩ : MethodName) (head1 (Jvm.Cond.code (⟨"java/lang/Long", "<init>", "(J)V"⟩ : MethodName) jdk_35_method_26_code 3 none :: ws) ({ frames := 2, cells := 0, slots := 0, locals := 24 } : Room)) (fun a U => a = #[(.ref r0), (.long q1)] ∧ Z.Warmed39 U.vm ∧ U.heap = h0) (fun _ _ _ _ _ => True) (fun _ U o U' => ∃ v L, o = .returned v ∧ Q_rm7 Z r0 q1 h0 n0 v U'.heap L ∧ FrameEnd U o U' L ({ frames := 2, cells := 0, slots := 0, locals := 24 } : Room).cells ({ frames := 2, cells := 0, slots := 0, locals := 24 } : Room).slots) := by
  refine MetFree.of_bodySF (plainFor_of_name pn_3) hisR ?_
  intro p e s m args below meth c s₁ Bd hml0 hP hK
  obtain ⟨rfl, hZ, hh⟩ := hP
  have hx := Bd.exec
  have hby := Bd.bytes
  have hml : c.maxLocals = 3 := hml0
  have hown : s.vm.findClass "java/lang/Long" = some m.cls := findClass_of_methodNamed Bd.named
  have hnm := (name_of_methodNamed Bd.named Bd.method).1
  have X0 : Stand p l e ({ frames := 2, cells := 0, slots := 0, locals := 24 } : Room) s m #[(.ref r0), (.long q1)] below meth c s₁ [] 0 0 := Stand.of_body Bd
  have e0 : s₁.heap = h0 := by rw [← hh, Bd.state]; rfl
  have N0 := Fr.nil n0
  have pre0 : ∀ t, Steps p.tables e below (s₁.setTop (mkF m 0 #[.val (.ref r0), .val (.long q1), .second] [])) t → Steps p.tables e below (s₁.setTop (entryFrame m #[(.ref r0), (.long q1)] 3)) t := fun t k => castTop (ef_rm7 m r0 q1) k
  have Kp : Keep h0 h0 [r0] := Keep.refl _ _
  have st1 : ∀ target, Steps p.tables e below (s₁.setTop (mkF m 1 #[.val (.ref r0), .val (.long q1), .second] [(.ref r0)])) target → Steps p.tables e below (s₁.setTop (mkF m 0 #[.val (.ref r0), .val (.long q1), .second] [])) target := by
    intro target kt
    show Steps p.tables e below (s₁.setTop (mkF m 0 #[.val (.ref r0), .val (.long q1), .second] [])) _
    refine XS.aloadN X0.here hx rfl (hb hby d7_0) rfl rfl ?_
    exact kt
  obtain ⟨_, _, ⟨T2, L2, k2, n2⟩, -, X2, ⟨Lc2, hQ2, l2, y2, z2⟩, st2⟩ := X0.specialBack hx (y := (⟨"java/lang/Number", "<init>", "()V"⟩ : MethodName)) rfl hown (mvT hZ (hw _ (List.mem_of_getElem? (i := 47) rfl))) (mvT hZ (hw _ (List.mem_of_getElem? (i := 48) rfl))) (mvT hZ (hw _ (List.mem_of_getElem? (i := 52) rfl))) (by decide) (backOf (W := 0) (rm8 l Z a0 hw [] r0  h0 n0 Z0 ) hZ (hw _ (List.mem_of_getElem? (i := 52) rfl)) (hw _ (List.mem_of_getElem? (i := 51) rfl)) (by decide) (by decide)) (g := (mkF m 1 #[.val (.ref r0), .val (.long q1), .second] [(.ref r0)])) rfl (by rw [hml]; rfl) (Steps.refl _) (a := r0) (argsL := []) (rest := []) (lenOf pd_1 rfl) rfl (by show 2 * 0 + _ ≤ _; exact Nat.le_of_eq rfl) (hb hby d7_1) (fun _ _ => ⟨rfl, e0, (by decide : 0 + 0 ≤ _), (by decide : 0 + 0 ≤ _)⟩)
  dsimp only [Pt.U, Pt.locs, Pt.cells, Pt.slots] at X2 l2 y2 z2 st2 hQ2
  subst l2 y2 z2
  obtain ⟨rfl, Nq2, e2⟩ := hQ2
  have N2 := Fr.app N0 Nq2
  have st3 : ∀ target, Steps p.tables e below (T2.setTop (mkF m 6 #[.val (.ref r0), .val (.long q1), .second] [(.long q1), (.ref r0)])) target → Steps p.tables e below (T2.setTop (mkF m 4 #[.val (.ref r0), .val (.long q1), .second] [])) target := by
    intro target kt
    show Steps p.tables e below (T2.setTop (mkF m 4 #[.val (.ref r0), .val (.long q1), .second] [])) _
    refine XS.aloadN X2.here hx rfl (hb hby d7_4) rfl rfl ?_
    show Steps p.tables e below (T2.setTop (mkF m 5 #[.val (.ref r0), .val (.long q1), .second] [(.ref r0)])) _
    refine XS.lloadN X2.here hx rfl (hb hby d7_5) rfl ?_
    exact kt
  obtain ⟨T4, h4, X4, e4, W4, st4⟩ := putF X2 hx hZ hown (host := "") (Or.inl (hw _ (List.mem_of_getElem? (i := 54) rfl))) Via.refl e2 F_value E_o (Or.inr ⟨(hw _ (List.mem_of_getElem? (i := 55) rfl)), rfl, hnm⟩) (hw _ (List.mem_of_getElem? (i := 42) rfl)) (ty := .long) (by decide) rfl rfl (g := (mkF m 6 #[.val (.ref r0), .val (.long q1), .second] [(.long q1), (.ref r0)])) rfl rfl (hb hby d7_6)
  have F_value_r0_4 : Fld Z h4 r0 "java/lang/Long" "value" "J" (.long q1) := F_value.same W4
  have E_o_4 := E_o.wr W4
  have Z_4 : n0 ≤ h4.size := Nat.le_trans Z0 (Keep.of_wr W4).1
  have Kp_4 : Keep h0 h4 [r0] := Kp.wr W4 (Or.inl (List.mem_of_getElem? (i := 0) rfl))
  have N4 := Fr.snoc X4 N2 g_r0
  obtain ⟨fs, hr, hrun, hended, hW, hsame⟩ := X4.leave (v := none) (fun _ => rfl)
  refine ⟨_, _, pre0 _ (st1 _ (st2.trans (st3 _ (st4 _ ?_)))), hrun, hended, _, _, rfl, ?_, ⟨_, rfl⟩, hW, hsame.mono (by decide) (by decide)⟩
  · show Steps p.tables e below (T4.setTop (mkF m 9 #[.val (.ref r0), .val (.long q1), .second] [])) _
    exact X4.returnOut hx Bd.returns (hb hby d7_9) hr
  · show Q_rm7 Z r0 q1 h0 n0 _ T4.heap _
    rw [e4]
    exact ⟨rfl, N4, Kp_4, E_o_4, F_value_r0_4⟩
theorem d6_0 : decode jdk_35_method_24_code 0 = .ok (.sipush 128, 3) := by decide +kernel
theorem d6_3 : decode jdk_35_method_24_code 3 = .ok (.istore_n 2, 1) := by decide +kernel
theorem d6_4 : decode jdk_35_method_24_code 4 = .ok (.lload_n 0, 1) := by decide +kernel
theorem d6_5 : decode jdk_35_method_24_code 5 = .ok (.ldc2_w 230, 3) := by decide +kernel
theorem d6_8 : decode jdk_35_method_24_code 8 = .ok (.lcmp, 1) := by decide +kernel
theorem d6_9 : decode jdk_35_method_24_code 9 = .ok (.ifCond .lt 22, 3) := by decide +kernel
theorem d6_12 : decode jdk_35_method_24_code 12 = .ok (.lload_n 0, 1) := by decide +kernel
theorem d6_13 : decode jdk_35_method_24_code 13 = .ok (.ldc2_w 232, 3) := by decide +kernel
theorem d6_16 : decode jdk_35_method_24_code 16 = .ok (.lcmp, 1) := by decide +kernel
theorem d6_17 : decode jdk_35_method_24_code 17 = .ok (.ifCond .gt 14, 3) := by decide +kernel
theorem d6_20 : decode jdk_35_method_24_code 20 = .ok (.getstatic 234, 3) := by decide +kernel
theorem d6_23 : decode jdk_35_method_24_code 23 = .ok (.lload_n 0, 1) := by decide +kernel
theorem d6_24 : decode jdk_35_method_24_code 24 = .ok (.l2i, 1) := by decide +kernel
theorem d6_25 : decode jdk_35_method_24_code 25 = .ok (.sipush 128, 3) := by decide +kernel
theorem d6_28 : decode jdk_35_method_24_code 28 = .ok (.iadd, 1) := by decide +kernel
theorem d6_29 : decode jdk_35_method_24_code 29 = .ok (.aaload, 1) := by decide +kernel
theorem d6_30 : decode jdk_35_method_24_code 30 = .ok (.areturn, 1) := by decide +kernel
theorem d6_31 : decode jdk_35_method_24_code 31 = .ok (.new 1, 3) := by decide +kernel
theorem d6_34 : decode jdk_35_method_24_code 34 = .ok (.dup, 1) := by decide +kernel
theorem d6_35 : decode jdk_35_method_24_code 35 = .ok (.lload_n 0, 1) := by decide +kernel
theorem d6_36 : decode jdk_35_method_24_code 36 = .ok (.invokespecial 240, 3) := by decide +kernel
theorem d6_39 : decode jdk_35_method_24_code 39 = .ok (.areturn, 1) := by decide +kernel
theorem ef_rm6 (m : MethodId) (x0 : Int64) : entryFrame m #[(.long x0)] 3 = mkF m 0 #[.val (.long x0), .second, .unset] [] := by first | (simp [entryFrame, mkF, argsToLocals, Value.category]; done) | rfl
def Q_rm6 (Z : State) (q0 : Int64) (ca : Addr) (cc : Cell) (val : Int32 → Value) (h0 : Heap) (n0 : Nat) (v : Option Value) (h : Heap) (L : List Loc) : Prop := ∃ t, v = some (.ref t) ∧ Fr n0 L ∧ Keep h0 h [] ∧ Exa Z h t "java/lang/Long"
set_option maxRecDepth 65536 in
set_option maxHeartbeats 40000000 in
theorem rm6 (l : Launch) (Z : State) (a0 : Array Value) (hw : ∀ d ∈ tables_1, d.before a0 Z = true) (ws : List Jvm.Cond) (q0 : Int64) (ca : Addr) (cc : Cell) (val : Int32 → Value) (h0 : Heap) (n0 : Nat) (Z0 : n0 ≤ h0.size) (Bx : Bxs Z ca cc "java/lang/Long" "J" (256 : Int32) val) (Od : Old Z n0 h0) (S_c : Sta Z Z.heap "java/lang/Long$LongCache" "cache" "[Ljava/lang/Long;" (.ref ca)) :
    MetFree l (⟨"java/lang/Long", "valueOf", "(J)Ljava/lang/Long;"⟩ : MethodName) (head1 (Jvm.Cond.code (⟨"java/lang/Long", "valueOf", "(J)Ljava/lang/Long;"⟩ : MethodName) jdk_35_method_24_code 3 (some (.object "java/lang/Long")) :: ws) ({ frames := 3, cells := 1, slots := 1, locals := 39 } : Room)) (fun a U => a = #[(.long q0)] ∧ Z.Warmed39 U.vm ∧ U.heap = h0) (fun _ _ _ _ _ => True) (fun _ U o U' => ∃ v L, o = .returned v ∧ Q_rm6 Z q0 ca cc val h0 n0 v U'.heap L ∧ FrameEnd U o U' L ({ frames := 3, cells := 1, slots := 1, locals := 39 } : Room).cells ({ frames := 3, cells := 1, slots := 1, locals := 39 } : Room).slots) := by
  refine MetFree.of_bodySF (plainFor_of_name pn_3) hisR ?_
  intro p e s m args below meth c s₁ Bd hml0 hP hK
  obtain ⟨rfl, hZ, hh⟩ := hP
  have hx := Bd.exec
  have hby := Bd.bytes
  have hml : c.maxLocals = 3 := hml0
  have hown : s.vm.findClass "java/lang/Long" = some m.cls := findClass_of_methodNamed Bd.named
  have hnm := (name_of_methodNamed Bd.named Bd.method).1
  have X0 : Stand p l e ({ frames := 3, cells := 1, slots := 1, locals := 39 } : Room) s m #[(.long q0)] below meth c s₁ [] 0 0 := Stand.of_body Bd
  have e0 : s₁.heap = h0 := by rw [← hh, Bd.state]; rfl
  have N0 := Fr.nil n0
  have pre0 : ∀ t, Steps p.tables e below (s₁.setTop (mkF m 0 #[.val (.long q0), .second, .unset] [])) t → Steps p.tables e below (s₁.setTop (entryFrame m #[(.long q0)] 3)) t := fun t k => castTop (ef_rm6 m q0) k
  have Kp : Keep h0 h0 [] := Keep.refl _ _
  have st1 : ∀ target, Steps p.tables e below (s₁.setTop (mkF m 9 #[.val (.long q0), .second, .val (.int (128 : Int32))] [(.int (lcmpW q0 (-128 : Int64)))])) target → Steps p.tables e below (s₁.setTop (mkF m 0 #[.val (.long q0), .second, .unset] [])) target := by
    intro target kt
    show Steps p.tables e below (s₁.setTop (mkF m 0 #[.val (.long q0), .second, .unset] [])) _
    refine XS.sipush X0.here hx rfl (hb hby d6_0) ?_
    show Steps p.tables e below (s₁.setTop (mkF m 3 #[.val (.long q0), .second, .unset] [(.int (128 : Int32))])) _
    refine XS.istoreN X0.here hx rfl (hb hby d6_3) rfl (l' := #[.val (.long q0), .second, .val (.int (128 : Int32))]) rfl ?_
    show Steps p.tables e below (s₁.setTop (mkF m 4 #[.val (.long q0), .second, .val (.int (128 : Int32))] [])) _
    refine XS.lloadN X0.here hx rfl (hb hby d6_4) rfl ?_
    show Steps p.tables e below (s₁.setTop (mkF m 5 #[.val (.long q0), .second, .val (.int (128 : Int32))] [(.long q0)])) _
    refine X0.ldc2Long hx hown (mvT hZ (hw _ (List.mem_of_getElem? (i := 39) rfl))) (g := (mkF m 5 #[.val (.long q0), .second, .val (.int (128 : Int32))] [(.long q0)])) rfl (hb hby d6_5) _ ?_
    show Steps p.tables e below (s₁.setTop (mkF m 8 #[.val (.long q0), .second, .val (.int (128 : Int32))] [(.long (-128 : Int64)), (.long q0)])) _
    refine XS.lcmp X0.here hx rfl (hb hby d6_8) rfl ?_
    exact kt
  by_cases hc9 : q0 < (-128 : Int64)
  · have st2 : ∀ target, Steps p.tables e below (s₁.setTop (mkF m 31 #[.val (.long q0), .second, .val (.int (128 : Int32))] [])) target → Steps p.tables e below (s₁.setTop (mkF m 9 #[.val (.long q0), .second, .val (.int (128 : Int32))] [(.int (lcmpW q0 (-128 : Int64)))])) target := by
      intro target kt
      show Steps p.tables e below (s₁.setTop (mkF m 9 #[.val (.long q0), .second, .val (.int (128 : Int32))] [(.int (lcmpW q0 (-128 : Int64)))])) _
      refine XS.ifYes X0.here hx rfl (pc0 := 9) (pc' := 31) rfl (hb hby d6_9) rfl ((if0 _ _).trans (tlt ((own_lc_lt _ _).mpr hc9)).1) (by decide) (by decide) ?_
      exact kt
    obtain ⟨T3, h3, X3, e3, E3, A3, D3, -, st3⟩ := newO X0 hx hZ hown (hw _ (List.mem_of_getElem? (i := 41) rfl)) (hw _ (List.mem_of_getElem? (i := 42) rfl)) (hw _ (List.mem_of_getElem? (i := 37) rfl)) e0 (g := (mkF m 31 #[.val (.long q0), .second, .val (.int (128 : Int32))] [])) rfl (hb hby d6_31) (by decide) (by decide)
    obtain ⟨b, g3⟩ : ∃ z, z = h0.size := ⟨_, rfl⟩
    rw [← g3] at A3 D3 st3
    have g_b : n0 ≤ b := Nat.le_trans Z0 (Nat.le_of_eq g3.symm)
    have sz_b : h0.size ≤ b := Nat.le_trans Kp.1 (Nat.le_of_eq g3.symm)
    have Z_3 : n0 ≤ h3.size := Nat.le_trans Z0 E3.1
    have Kp_3 : Keep h0 h3 [] := Kp.ext E3
    have E_b : Exa Z h3 b "java/lang/Long" := A3
    have F_value_b : Fld Z h3 b "java/lang/Long" "value" "J" (.long (0 : Int64)) := D3 (Or.inr (hw _ (List.mem_of_getElem? (i := 55) rfl))) (ty := .long) (by decide)
    have st4 : ∀ target, Steps p.tables e below (T3.setTop (mkF m 36 #[.val (.long q0), .second, .val (.int (128 : Int32))] [(.long q0), (.ref b), (.ref b)])) target → Steps p.tables e below (T3.setTop (mkF m 34 #[.val (.long q0), .second, .val (.int (128 : Int32))] [(.ref b)])) target := by
      intro target kt
      show Steps p.tables e below (T3.setTop (mkF m 34 #[.val (.long q0), .second, .val (.int (128 : Int32))] [(.ref b)])) _
      refine XS.dup X3.here hx rfl (hb hby d6_34) rfl rfl ?_
      show Steps p.tables e below (T3.setTop (mkF m 35 #[.val (.long q0), .second, .val (.int (128 : Int32))] [(.ref b), (.ref b)])) _
      refine XS.lloadN X3.here hx rfl (hb hby d6_35) rfl ?_
      exact kt
    obtain ⟨_, _, ⟨T5, L5, k5, n5⟩, -, X5, ⟨Lc5, hQ5, l5, y5, z5⟩, st5⟩ := X3.specialBack hx (y := (⟨"java/lang/Long", "<init>", "(J)V"⟩ : MethodName)) rfl hown (mvT hZ (hw _ (List.mem_of_getElem? (i := 43) rfl))) (mvT hZ (hw _ (List.mem_of_getElem? (i := 44) rfl))) (mvT hZ (hw _ (List.mem_of_getElem? (i := 46) rfl))) (by decide) (backOf (W := 1) (rm7 l Z a0 hw [] b q0  h3 n0 Z_3 F_value_b E_b g_b) hZ (hw _ (List.mem_of_getElem? (i := 46) rfl)) (hw _ (List.mem_of_getElem? (i := 37) rfl)) (by decide) (by decide)) (g := (mkF m 36 #[.val (.long q0), .second, .val (.int (128 : Int32))] [(.long q0), (.ref b), (.ref b)])) rfl (by rw [hml]; rfl) (Steps.refl _) (a := b) (argsL := [(.long q0)]) (rest := [(.ref b)]) (lenOf pd_5 rfl) rfl (by show 2 * 0 + _ ≤ _; exact Nat.le_of_eq rfl) (hb hby d6_36) (fun _ _ => ⟨rfl, e3, (by decide : 1 + 0 ≤ _), (by decide : 1 + 0 ≤ _)⟩)
    dsimp only [Pt.U, Pt.locs, Pt.cells, Pt.slots] at X5 l5 y5 z5 st5 hQ5
    subst l5 y5 z5
    obtain ⟨rfl, Nq5, K5, E_b_i, F_value_b_i⟩ := hQ5
    have N5 := Fr.app N0 Nq5
    have E_b_5 := E_b.keep K5
    have Z_5 : n0 ≤ T5.heap.size := Nat.le_trans Z_3 K5.1
    have Kp_5 : Keep h0 T5.heap [] := Kp_3.trans K5 (allS (Or.inr sz_b) (all0))
    obtain ⟨fs, hr, hrun, hended, hW, hsame⟩ := X5.leave (v := some (.ref b)) (fun h => by rw [Bd.returns] at h; cases h)
    refine ⟨_, _, pre0 _ (st1 _ (st2 _ (st3 _ (st4 _ (st5.trans ?_))))), hrun, hended, _, _, rfl, ?_, ⟨_, rfl⟩, hW, hsame.mono (by decide) (by decide)⟩
    · show Steps p.tables e below (T5.setTop (mkF m 39 #[.val (.long q0), .second, .val (.int (128 : Int32))] [(.ref b)])) _
      jvm_step X5.here [X5.here.top, hx, (hb hby d6_39), X5.method', Bd.returns, Value.isRef, FieldType.isReference]
      first | (intro acts; rw [hr _ acts rfl rfl rfl]) | rw [hr _ _ rfl rfl rfl]
      exact Steps.refl _
    · show Q_rm6 Z q0 ca cc val h0 n0 _ T5.heap _
      exact ⟨b, rfl, N5, Kp_5, E_b_i⟩
  · have st6 : ∀ target, Steps p.tables e below (s₁.setTop (mkF m 12 #[.val (.long q0), .second, .val (.int (128 : Int32))] [])) target → Steps p.tables e below (s₁.setTop (mkF m 9 #[.val (.long q0), .second, .val (.int (128 : Int32))] [(.int (lcmpW q0 (-128 : Int64)))])) target := by
      intro target kt
      show Steps p.tables e below (s₁.setTop (mkF m 9 #[.val (.long q0), .second, .val (.int (128 : Int32))] [(.int (lcmpW q0 (-128 : Int64)))])) _
      refine XS.ifNo X0.here hx rfl (hb hby d6_9) rfl ((if0 _ _).trans (flt (mt (own_lc_lt _ _).mp hc9)).1) ?_
      exact kt
    have st7 : ∀ target, Steps p.tables e below (s₁.setTop (mkF m 17 #[.val (.long q0), .second, .val (.int (128 : Int32))] [(.int (lcmpW q0 (127 : Int64)))])) target → Steps p.tables e below (s₁.setTop (mkF m 12 #[.val (.long q0), .second, .val (.int (128 : Int32))] [])) target := by
      intro target kt
      show Steps p.tables e below (s₁.setTop (mkF m 12 #[.val (.long q0), .second, .val (.int (128 : Int32))] [])) _
      refine XS.lloadN X0.here hx rfl (hb hby d6_12) rfl ?_
      show Steps p.tables e below (s₁.setTop (mkF m 13 #[.val (.long q0), .second, .val (.int (128 : Int32))] [(.long q0)])) _
      refine X0.ldc2Long hx hown (mvT hZ (hw _ (List.mem_of_getElem? (i := 40) rfl))) (g := (mkF m 13 #[.val (.long q0), .second, .val (.int (128 : Int32))] [(.long q0)])) rfl (hb hby d6_13) _ ?_
      show Steps p.tables e below (s₁.setTop (mkF m 16 #[.val (.long q0), .second, .val (.int (128 : Int32))] [(.long (127 : Int64)), (.long q0)])) _
      refine XS.lcmp X0.here hx rfl (hb hby d6_16) rfl ?_
      exact kt
    by_cases hc17 : (127 : Int64) < q0
    · have st8 : ∀ target, Steps p.tables e below (s₁.setTop (mkF m 31 #[.val (.long q0), .second, .val (.int (128 : Int32))] [])) target → Steps p.tables e below (s₁.setTop (mkF m 17 #[.val (.long q0), .second, .val (.int (128 : Int32))] [(.int (lcmpW q0 (127 : Int64)))])) target := by
        intro target kt
        show Steps p.tables e below (s₁.setTop (mkF m 17 #[.val (.long q0), .second, .val (.int (128 : Int32))] [(.int (lcmpW q0 (127 : Int64)))])) _
        refine XS.ifYes X0.here hx rfl (pc0 := 17) (pc' := 31) rfl (hb hby d6_17) rfl ((if0 _ _).trans (tlt ((own_lc_gt _ _).mpr hc17)).2.2.1) (by decide) (by decide) ?_
        exact kt
      obtain ⟨T9, h9, X9, e9, E9, A9, D9, -, st9⟩ := newO X0 hx hZ hown (hw _ (List.mem_of_getElem? (i := 41) rfl)) (hw _ (List.mem_of_getElem? (i := 42) rfl)) (hw _ (List.mem_of_getElem? (i := 37) rfl)) e0 (g := (mkF m 31 #[.val (.long q0), .second, .val (.int (128 : Int32))] [])) rfl (hb hby d6_31) (by decide) (by decide)
      obtain ⟨b, g9⟩ : ∃ z, z = h0.size := ⟨_, rfl⟩
      rw [← g9] at A9 D9 st9
      have g_b : n0 ≤ b := Nat.le_trans Z0 (Nat.le_of_eq g9.symm)
      have sz_b : h0.size ≤ b := Nat.le_trans Kp.1 (Nat.le_of_eq g9.symm)
      have Z_9 : n0 ≤ h9.size := Nat.le_trans Z0 E9.1
      have Kp_9 : Keep h0 h9 [] := Kp.ext E9
      have E_b : Exa Z h9 b "java/lang/Long" := A9
      have F_value_b : Fld Z h9 b "java/lang/Long" "value" "J" (.long (0 : Int64)) := D9 (Or.inr (hw _ (List.mem_of_getElem? (i := 55) rfl))) (ty := .long) (by decide)
      have st10 : ∀ target, Steps p.tables e below (T9.setTop (mkF m 36 #[.val (.long q0), .second, .val (.int (128 : Int32))] [(.long q0), (.ref b), (.ref b)])) target → Steps p.tables e below (T9.setTop (mkF m 34 #[.val (.long q0), .second, .val (.int (128 : Int32))] [(.ref b)])) target := by
        intro target kt
        show Steps p.tables e below (T9.setTop (mkF m 34 #[.val (.long q0), .second, .val (.int (128 : Int32))] [(.ref b)])) _
        refine XS.dup X9.here hx rfl (hb hby d6_34) rfl rfl ?_
        show Steps p.tables e below (T9.setTop (mkF m 35 #[.val (.long q0), .second, .val (.int (128 : Int32))] [(.ref b), (.ref b)])) _
        refine XS.lloadN X9.here hx rfl (hb hby d6_35) rfl ?_
        exact kt
      obtain ⟨_, _, ⟨T11, L11, k11, n11⟩, -, X11, ⟨Lc11, hQ11, l11, y11, z11⟩, st11⟩ := X9.specialBack hx (y := (⟨"java/lang/Long", "<init>", "(J)V"⟩ : MethodName)) rfl hown (mvT hZ (hw _ (List.mem_of_getElem? (i := 43) rfl))) (mvT hZ (hw _ (List.mem_of_getElem? (i := 44) rfl))) (mvT hZ (hw _ (List.mem_of_getElem? (i := 46) rfl))) (by decide) (backOf (W := 1) (rm7 l Z a0 hw [] b q0  h9 n0 Z_9 F_value_b E_b g_b) hZ (hw _ (List.mem_of_getElem? (i := 46) rfl)) (hw _ (List.mem_of_getElem? (i := 37) rfl)) (by decide) (by decide)) (g := (mkF m 36 #[.val (.long q0), .second, .val (.int (128 : Int32))] [(.long q0), (.ref b), (.ref b)])) rfl (by rw [hml]; rfl) (Steps.refl _) (a := b) (argsL := [(.long q0)]) (rest := [(.ref b)]) (lenOf pd_5 rfl) rfl (by show 2 * 0 + _ ≤ _; exact Nat.le_of_eq rfl) (hb hby d6_36) (fun _ _ => ⟨rfl, e9, (by decide : 1 + 0 ≤ _), (by decide : 1 + 0 ≤ _)⟩)
      dsimp only [Pt.U, Pt.locs, Pt.cells, Pt.slots] at X11 l11 y11 z11 st11 hQ11
      subst l11 y11 z11
      obtain ⟨rfl, Nq11, K11, E_b_i, F_value_b_i⟩ := hQ11
      have N11 := Fr.app N0 Nq11
      have E_b_11 := E_b.keep K11
      have Z_11 : n0 ≤ T11.heap.size := Nat.le_trans Z_9 K11.1
      have Kp_11 : Keep h0 T11.heap [] := Kp_9.trans K11 (allS (Or.inr sz_b) (all0))
      obtain ⟨fs, hr, hrun, hended, hW, hsame⟩ := X11.leave (v := some (.ref b)) (fun h => by rw [Bd.returns] at h; cases h)
      refine ⟨_, _, pre0 _ (st1 _ (st6 _ (st7 _ (st8 _ (st9 _ (st10 _ (st11.trans ?_))))))), hrun, hended, _, _, rfl, ?_, ⟨_, rfl⟩, hW, hsame.mono (by decide) (by decide)⟩
      · show Steps p.tables e below (T11.setTop (mkF m 39 #[.val (.long q0), .second, .val (.int (128 : Int32))] [(.ref b)])) _
        jvm_step X11.here [X11.here.top, hx, (hb hby d6_39), X11.method', Bd.returns, Value.isRef, FieldType.isReference]
        first | (intro acts; rw [hr _ acts rfl rfl rfl]) | rw [hr _ _ rfl rfl rfl]
        exact Steps.refl _
      · show Q_rm6 Z q0 ca cc val h0 n0 _ T11.heap _
        exact ⟨b, rfl, N11, Kp_11, E_b_i⟩
    · have st12 : ∀ target, Steps p.tables e below (s₁.setTop (mkF m 20 #[.val (.long q0), .second, .val (.int (128 : Int32))] [])) target → Steps p.tables e below (s₁.setTop (mkF m 17 #[.val (.long q0), .second, .val (.int (128 : Int32))] [(.int (lcmpW q0 (127 : Int64)))])) target := by
        intro target kt
        show Steps p.tables e below (s₁.setTop (mkF m 17 #[.val (.long q0), .second, .val (.int (128 : Int32))] [(.int (lcmpW q0 (127 : Int64)))])) _
        refine XS.ifNo X0.here hx rfl (hb hby d6_17) rfl ((if0 _ _).trans (flt (mt (own_lc_gt _ _).mp hc17)).2.2.1) ?_
        exact kt
      obtain ⟨T13, X13, e13, st13⟩ := getS2 X0 hx hZ hown (host := "") (Or.inl (hw _ (List.mem_of_getElem? (i := 59) rfl))) Via.refl e0 (S_c.ext Od.2) (g := (mkF m 20 #[.val (.long q0), .second, .val (.int (128 : Int32))] [])) rfl (hb hby d6_20)
      have st14 : ∀ target, Steps p.tables e below (T13.setTop (mkF m 29 #[.val (.long q0), .second, .val (.int (128 : Int32))] [(.int ((q0.toInt32) + (128 : Int32))), (.ref ca)])) target → Steps p.tables e below (T13.setTop (mkF m 23 #[.val (.long q0), .second, .val (.int (128 : Int32))] [(.ref ca)])) target := by
        intro target kt
        show Steps p.tables e below (T13.setTop (mkF m 23 #[.val (.long q0), .second, .val (.int (128 : Int32))] [(.ref ca)])) _
        refine XS.lloadN X13.here hx rfl (hb hby d6_23) rfl ?_
        show Steps p.tables e below (T13.setTop (mkF m 24 #[.val (.long q0), .second, .val (.int (128 : Int32))] [(.long q0), (.ref ca)])) _
        refine XS.l2i X13.here hx rfl (hb hby d6_24) rfl ?_
        show Steps p.tables e below (T13.setTop (mkF m 25 #[.val (.long q0), .second, .val (.int (128 : Int32))] [(.int (q0.toInt32)), (.ref ca)])) _
        refine XS.sipush X13.here hx rfl (hb hby d6_25) ?_
        show Steps p.tables e below (T13.setTop (mkF m 28 #[.val (.long q0), .second, .val (.int (128 : Int32))] [(.int (128 : Int32)), (.int (q0.toInt32)), (.ref ca)])) _
        refine XS.iadd X13.here hx rfl (hb hby d6_28) rfl ?_
        exact kt
      have hj : 0 ≤ ((q0.toInt32) + (128 : Int32)).toInt ∧ ((q0.toInt32) + (128 : Int32)).toInt < 256 := by
        have a1 := c_l2i q0
        have a2 := c_iadd q0.toInt32 (128 : Int32)
        have a3 := Int32.le_toInt q0.toInt32
        have a4 := Int32.toInt_lt q0.toInt32
        have a5 := Int32.le_toInt (q0.toInt32 + (128 : Int32))
        have a6 := Int32.toInt_lt (q0.toInt32 + (128 : Int32))
        rw [Int64.lt_iff_toInt_lt] at hc9 hc17
        rw [show (128 : Int32).toInt = 128 from rfl] at a2
        rw [show (-128 : Int64).toInt = -128 from rfl] at hc9
        rw [show (127 : Int64).toInt = 127 from rfl] at hc17
        omega
      have hin : ¬ (((q0.toInt32) + (128 : Int32)) < 0 ∨ cc.slots.size ≤ (((q0.toInt32) + (128 : Int32))).toNatClampNeg) := by
        refine inb_of Bx.2.1 ⟨?_, ?_⟩
        · rw [Int32.lt_iff_toInt_lt, show (0 : Int32).toInt = 0 from rfl]; omega
        · rw [Int32.lt_iff_toInt_lt, show (256 : Int32).toInt = 256 from rfl]; omega
      obtain ⟨bx, hat, Ebx, -⟩ := Bx.2.2.2 _ hin
      have Arc := (Bx.ext Od.2).1
      have st15 : ∀ target, Steps p.tables e below (T13.setTop (mkF m 30 #[.val (.long q0), .second, .val (.int (128 : Int32))] [(.ref bx)])) target → Steps p.tables e below (T13.setTop (mkF m 29 #[.val (.long q0), .second, .val (.int (128 : Int32))] [(.int ((q0.toInt32) + (128 : Int32))), (.ref ca)])) target := fun target kt => X13.aaload hx (j := ((q0.toInt32) + (128 : Int32))) (v := (.ref bx)) (by rw [e13]; exact Arc.1) (State.isArrayOf_alike hZ.alike Arc.2.1) rfl Arc.2.2 hin hat (g := (mkF m 29 #[.val (.long q0), .second, .val (.int (128 : Int32))] [(.int ((q0.toInt32) + (128 : Int32))), (.ref ca)])) rfl rfl (hb hby d6_29) _ kt
      obtain ⟨fs, hr, hrun, hended, hW, hsame⟩ := X13.leave (v := some (.ref bx)) (fun h => by rw [Bd.returns] at h; cases h)
      refine ⟨_, _, pre0 _ (st1 _ (st6 _ (st7 _ (st12 _ (st13 _ (st14 _ (st15 _ ?_))))))), hrun, hended, _, _, rfl, ?_, ⟨_, rfl⟩, hW, hsame.mono (by decide) (by decide)⟩
      · show Steps p.tables e below (T13.setTop (mkF m 30 #[.val (.long q0), .second, .val (.int (128 : Int32))] [(.ref bx)])) _
        jvm_step X13.here [X13.here.top, hx, (hb hby d6_30), X13.method', Bd.returns, Value.isRef, FieldType.isReference]
        first | (intro acts; rw [hr _ acts rfl rfl rfl]) | rw [hr _ _ rfl rfl rfl]
        exact Steps.refl _
      · show Q_rm6 Z q0 ca cc val h0 n0 _ T13.heap _
        rw [e13]
        exact ⟨bx, rfl, N0, Kp, Ebx.ext Od.2⟩
theorem pn_4 : plainName "com/example/imprimatur/imprimatur/verify/HashTreeEqualsPinLaw" = true := by first | (simp [plainName, overriddenIn]; done) | decide +kernel
theorem ef_rm0 (m : MethodId) (x0 : Int32) (x1 : Int32) (x2 : Int64) (x3 : Int64) (x4 : Int64) (x5 : Int64) : entryFrame m #[(.int x0), (.int x1), (.long x2), (.long x3), (.long x4), (.long x5)] maxLocals = mkF m 0 #[.val (.int x0), .val (.int x1), .val (.long x2), .second, .val (.long x3), .second, .val (.long x4), .second, .val (.long x5), .second, .unset, .unset, .unset, .unset, .unset, .unset, .unset, .unset, .unset, .unset, .unset, .unset] [] := by first | (simp [entryFrame, mkF, argsToLocals, Value.category, maxLocals]; done) | rfl
def Q_rm0 (Z : State) (p0 : Int32) (p1 : Int32) (q2 : Int64) (q3 : Int64) (q4 : Int64) (q5 : Int64) (ca : Addr) (cc : Cell) (val : Int32 → Value) (h0 : Heap) (n0 : Nat) (v : Option Value) (h : Heap) (L : List Loc) : Prop := v = some (.int 1) ∧ Fr n0 L
set_option maxRecDepth 65536 in
set_option maxHeartbeats 40000000 in
theorem rm0 (l : Launch) (Z : State) (a0 : Array Value) (hw : ∀ d ∈ tables_1, d.before a0 Z = true) (ws : List Jvm.Cond) (p0 : Int32) (p1 : Int32) (q2 : Int64) (q3 : Int64) (q4 : Int64) (q5 : Int64) (ca : Addr) (cc : Cell) (val : Int32 → Value) (h0 : Heap) (n0 : Nat) (Z0 : n0 ≤ h0.size) (Bx : Bxs Z ca cc "java/lang/Long" "J" (256 : Int32) val) (Od : Old Z n0 h0) (S_c : Sta Z Z.heap "java/lang/Long$LongCache" "cache" "[Ljava/lang/Long;" (.ref ca)) :
    MetFree l x (head1 (Jvm.Cond.code x code maxLocals ret :: ws) room_1) (fun a U => a = #[(.int p0), (.int p1), (.long q2), (.long q3), (.long q4), (.long q5)] ∧ Z.Warmed39 U.vm ∧ U.heap = h0) (fun _ _ _ _ _ => True) (fun _ U o U' => ∃ v L, o = .returned v ∧ Q_rm0 Z p0 p1 q2 q3 q4 q5 ca cc val h0 n0 v U'.heap L ∧ FrameEnd U o U' L room_1.cells room_1.slots) := by
  refine MetFree.of_bodySF (plainFor_of_name pn_4) hisR ?_
  intro p e s m args below meth c s₁ Bd hml0 hP hK
  obtain ⟨rfl, hZ, hh⟩ := hP
  have hx := Bd.exec
  have hby := Bd.bytes
  have hml : c.maxLocals = 22 := hml0
  have hown : s.vm.findClass "com/example/imprimatur/imprimatur/verify/HashTreeEqualsPinLaw" = some m.cls := findClass_of_methodNamed Bd.named
  have hnm := (name_of_methodNamed Bd.named Bd.method).1
  have X0 : Stand p l e room_1 s m #[(.int p0), (.int p1), (.long q2), (.long q3), (.long q4), (.long q5)] below meth c s₁ [] 0 0 := Stand.of_body Bd
  have e0 : s₁.heap = h0 := by rw [← hh, Bd.state]; rfl
  have N0 := Fr.nil n0
  have pre0 : ∀ t, Steps p.tables e below (s₁.setTop (mkF m 0 #[.val (.int p0), .val (.int p1), .val (.long q2), .second, .val (.long q3), .second, .val (.long q4), .second, .val (.long q5), .second, .unset, .unset, .unset, .unset, .unset, .unset, .unset, .unset, .unset, .unset, .unset, .unset] [])) t → Steps p.tables e below (s₁.setTop (entryFrame m #[(.int p0), (.int p1), (.long q2), (.long q3), (.long q4), (.long q5)] maxLocals)) t := fun t k => castTop (ef_rm0 m p0 p1 q2 q3 q4 q5) k
  have st1 : ∀ target, Steps p.tables e below (s₁.setTop (mkF m 14 #[.val (.int p0), .val (.int p1), .val (.long q2), .second, .val (.long q3), .second, .val (.long q4), .second, .val (.long q5), .second, .val (.int ((512 : Int32) <<< (((p0 &&& (255 : Int32)) % (12 : Int32)) &&& 31))), .unset, .unset, .unset, .unset, .unset, .unset, .unset, .unset, .unset, .unset, .unset] [])) target → Steps p.tables e below (s₁.setTop (mkF m 0 #[.val (.int p0), .val (.int p1), .val (.long q2), .second, .val (.long q3), .second, .val (.long q4), .second, .val (.long q5), .second, .unset, .unset, .unset, .unset, .unset, .unset, .unset, .unset, .unset, .unset, .unset, .unset] [])) target := by
    intro target kt
    show Steps p.tables e below (s₁.setTop (mkF m 0 #[.val (.int p0), .val (.int p1), .val (.long q2), .second, .val (.long q3), .second, .val (.long q4), .second, .val (.long q5), .second, .unset, .unset, .unset, .unset, .unset, .unset, .unset, .unset, .unset, .unset, .unset, .unset] [])) _
    refine XS.sipush X0.here hx rfl (hb hby at_0) ?_
    show Steps p.tables e below (s₁.setTop (mkF m 3 #[.val (.int p0), .val (.int p1), .val (.long q2), .second, .val (.long q3), .second, .val (.long q4), .second, .val (.long q5), .second, .unset, .unset, .unset, .unset, .unset, .unset, .unset, .unset, .unset, .unset, .unset, .unset] [(.int (512 : Int32))])) _
    refine XS.iloadN X0.here hx rfl (hb hby at_3) rfl ?_
    show Steps p.tables e below (s₁.setTop (mkF m 4 #[.val (.int p0), .val (.int p1), .val (.long q2), .second, .val (.long q3), .second, .val (.long q4), .second, .val (.long q5), .second, .unset, .unset, .unset, .unset, .unset, .unset, .unset, .unset, .unset, .unset, .unset, .unset] [(.int p0), (.int (512 : Int32))])) _
    refine XS.sipush X0.here hx rfl (hb hby at_4) ?_
    show Steps p.tables e below (s₁.setTop (mkF m 7 #[.val (.int p0), .val (.int p1), .val (.long q2), .second, .val (.long q3), .second, .val (.long q4), .second, .val (.long q5), .second, .unset, .unset, .unset, .unset, .unset, .unset, .unset, .unset, .unset, .unset, .unset, .unset] [(.int (255 : Int32)), (.int p0), (.int (512 : Int32))])) _
    refine XS.iand X0.here hx rfl (hb hby at_7) rfl ?_
    show Steps p.tables e below (s₁.setTop (mkF m 8 #[.val (.int p0), .val (.int p1), .val (.long q2), .second, .val (.long q3), .second, .val (.long q4), .second, .val (.long q5), .second, .unset, .unset, .unset, .unset, .unset, .unset, .unset, .unset, .unset, .unset, .unset, .unset] [(.int (p0 &&& (255 : Int32))), (.int (512 : Int32))])) _
    refine XS.bipush X0.here hx rfl (hb hby at_8) ?_
    show Steps p.tables e below (s₁.setTop (mkF m 10 #[.val (.int p0), .val (.int p1), .val (.long q2), .second, .val (.long q3), .second, .val (.long q4), .second, .val (.long q5), .second, .unset, .unset, .unset, .unset, .unset, .unset, .unset, .unset, .unset, .unset, .unset, .unset] [(.int (12 : Int32)), (.int (p0 &&& (255 : Int32))), (.int (512 : Int32))])) _
    refine iremM (g := (mkF m 10 #[.val (.int p0), .val (.int p1), .val (.long q2), .second, .val (.long q3), .second, .val (.long q4), .second, .val (.long q5), .second, .unset, .unset, .unset, .unset, .unset, .unset, .unset, .unset, .unset, .unset, .unset, .unset] [(.int (12 : Int32)), (.int (p0 &&& (255 : Int32))), (.int (512 : Int32))])) X0 hx rfl (hb hby at_10) rfl (by decide) ?_
    show Steps p.tables e below (s₁.setTop (mkF m 11 #[.val (.int p0), .val (.int p1), .val (.long q2), .second, .val (.long q3), .second, .val (.long q4), .second, .val (.long q5), .second, .unset, .unset, .unset, .unset, .unset, .unset, .unset, .unset, .unset, .unset, .unset, .unset] [(.int ((p0 &&& (255 : Int32)) % (12 : Int32))), (.int (512 : Int32))])) _
    refine XS.ishl X0.here hx rfl (hb hby at_11) rfl ?_
    show Steps p.tables e below (s₁.setTop (mkF m 12 #[.val (.int p0), .val (.int p1), .val (.long q2), .second, .val (.long q3), .second, .val (.long q4), .second, .val (.long q5), .second, .unset, .unset, .unset, .unset, .unset, .unset, .unset, .unset, .unset, .unset, .unset, .unset] [(.int ((512 : Int32) <<< (((p0 &&& (255 : Int32)) % (12 : Int32)) &&& 31)))])) _
    refine XS.istore X0.here hx rfl (hb hby at_12) rfl (l' := #[.val (.int p0), .val (.int p1), .val (.long q2), .second, .val (.long q3), .second, .val (.long q4), .second, .val (.long q5), .second, .val (.int ((512 : Int32) <<< (((p0 &&& (255 : Int32)) % (12 : Int32)) &&& 31))), .unset, .unset, .unset, .unset, .unset, .unset, .unset, .unset, .unset, .unset, .unset]) rfl ?_
    exact kt
  obtain ⟨d1, hd1⟩ : ∃ z : Int32, z = ((512 : Int32) <<< (((p0 &&& (255 : Int32)) % (12 : Int32)) &&& 31)) := ⟨_, rfl⟩
  rw [← hd1] at st1
  have st2 : ∀ target, Steps p.tables e below (s₁.setTop (mkF m 31 #[.val (.int p0), .val (.int p1), .val (.long q2), .second, .val (.long q3), .second, .val (.long q4), .second, .val (.long q5), .second, .val (.int d1), .val (.int ((512 : Int32) <<< (((((p0.toUInt32 >>> ((8 : Int32) &&& 31).toUInt32).toInt32) &&& (255 : Int32)) % (12 : Int32)) &&& 31))), .unset, .unset, .unset, .unset, .unset, .unset, .unset, .unset, .unset, .unset] [])) target → Steps p.tables e below (s₁.setTop (mkF m 14 #[.val (.int p0), .val (.int p1), .val (.long q2), .second, .val (.long q3), .second, .val (.long q4), .second, .val (.long q5), .second, .val (.int d1), .unset, .unset, .unset, .unset, .unset, .unset, .unset, .unset, .unset, .unset, .unset] [])) target := by
    intro target kt
    show Steps p.tables e below (s₁.setTop (mkF m 14 #[.val (.int p0), .val (.int p1), .val (.long q2), .second, .val (.long q3), .second, .val (.long q4), .second, .val (.long q5), .second, .val (.int d1), .unset, .unset, .unset, .unset, .unset, .unset, .unset, .unset, .unset, .unset, .unset] [])) _
    refine XS.sipush X0.here hx rfl (hb hby at_14) ?_
    show Steps p.tables e below (s₁.setTop (mkF m 17 #[.val (.int p0), .val (.int p1), .val (.long q2), .second, .val (.long q3), .second, .val (.long q4), .second, .val (.long q5), .second, .val (.int d1), .unset, .unset, .unset, .unset, .unset, .unset, .unset, .unset, .unset, .unset, .unset] [(.int (512 : Int32))])) _
    refine XS.iloadN X0.here hx rfl (hb hby at_17) rfl ?_
    show Steps p.tables e below (s₁.setTop (mkF m 18 #[.val (.int p0), .val (.int p1), .val (.long q2), .second, .val (.long q3), .second, .val (.long q4), .second, .val (.long q5), .second, .val (.int d1), .unset, .unset, .unset, .unset, .unset, .unset, .unset, .unset, .unset, .unset, .unset] [(.int p0), (.int (512 : Int32))])) _
    refine XS.bipush X0.here hx rfl (hb hby at_18) ?_
    show Steps p.tables e below (s₁.setTop (mkF m 20 #[.val (.int p0), .val (.int p1), .val (.long q2), .second, .val (.long q3), .second, .val (.long q4), .second, .val (.long q5), .second, .val (.int d1), .unset, .unset, .unset, .unset, .unset, .unset, .unset, .unset, .unset, .unset, .unset] [(.int (8 : Int32)), (.int p0), (.int (512 : Int32))])) _
    refine XS.iushr X0.here hx rfl (hb hby at_20) rfl ?_
    show Steps p.tables e below (s₁.setTop (mkF m 21 #[.val (.int p0), .val (.int p1), .val (.long q2), .second, .val (.long q3), .second, .val (.long q4), .second, .val (.long q5), .second, .val (.int d1), .unset, .unset, .unset, .unset, .unset, .unset, .unset, .unset, .unset, .unset, .unset] [(.int ((p0.toUInt32 >>> ((8 : Int32) &&& 31).toUInt32).toInt32)), (.int (512 : Int32))])) _
    refine XS.sipush X0.here hx rfl (hb hby at_21) ?_
    show Steps p.tables e below (s₁.setTop (mkF m 24 #[.val (.int p0), .val (.int p1), .val (.long q2), .second, .val (.long q3), .second, .val (.long q4), .second, .val (.long q5), .second, .val (.int d1), .unset, .unset, .unset, .unset, .unset, .unset, .unset, .unset, .unset, .unset, .unset] [(.int (255 : Int32)), (.int ((p0.toUInt32 >>> ((8 : Int32) &&& 31).toUInt32).toInt32)), (.int (512 : Int32))])) _
    refine XS.iand X0.here hx rfl (hb hby at_24) rfl ?_
    show Steps p.tables e below (s₁.setTop (mkF m 25 #[.val (.int p0), .val (.int p1), .val (.long q2), .second, .val (.long q3), .second, .val (.long q4), .second, .val (.long q5), .second, .val (.int d1), .unset, .unset, .unset, .unset, .unset, .unset, .unset, .unset, .unset, .unset, .unset] [(.int (((p0.toUInt32 >>> ((8 : Int32) &&& 31).toUInt32).toInt32) &&& (255 : Int32))), (.int (512 : Int32))])) _
    refine XS.bipush X0.here hx rfl (hb hby at_25) ?_
    show Steps p.tables e below (s₁.setTop (mkF m 27 #[.val (.int p0), .val (.int p1), .val (.long q2), .second, .val (.long q3), .second, .val (.long q4), .second, .val (.long q5), .second, .val (.int d1), .unset, .unset, .unset, .unset, .unset, .unset, .unset, .unset, .unset, .unset, .unset] [(.int (12 : Int32)), (.int (((p0.toUInt32 >>> ((8 : Int32) &&& 31).toUInt32).toInt32) &&& (255 : Int32))), (.int (512 : Int32))])) _
    refine iremM (g := (mkF m 27 #[.val (.int p0), .val (.int p1), .val (.long q2), .second, .val (.long q3), .second, .val (.long q4), .second, .val (.long q5), .second, .val (.int d1), .unset, .unset, .unset, .unset, .unset, .unset, .unset, .unset, .unset, .unset, .unset] [(.int (12 : Int32)), (.int (((p0.toUInt32 >>> ((8 : Int32) &&& 31).toUInt32).toInt32) &&& (255 : Int32))), (.int (512 : Int32))])) X0 hx rfl (hb hby at_27) rfl (by decide) ?_
    show Steps p.tables e below (s₁.setTop (mkF m 28 #[.val (.int p0), .val (.int p1), .val (.long q2), .second, .val (.long q3), .second, .val (.long q4), .second, .val (.long q5), .second, .val (.int d1), .unset, .unset, .unset, .unset, .unset, .unset, .unset, .unset, .unset, .unset, .unset] [(.int ((((p0.toUInt32 >>> ((8 : Int32) &&& 31).toUInt32).toInt32) &&& (255 : Int32)) % (12 : Int32))), (.int (512 : Int32))])) _
    refine XS.ishl X0.here hx rfl (hb hby at_28) rfl ?_
    show Steps p.tables e below (s₁.setTop (mkF m 29 #[.val (.int p0), .val (.int p1), .val (.long q2), .second, .val (.long q3), .second, .val (.long q4), .second, .val (.long q5), .second, .val (.int d1), .unset, .unset, .unset, .unset, .unset, .unset, .unset, .unset, .unset, .unset, .unset] [(.int ((512 : Int32) <<< (((((p0.toUInt32 >>> ((8 : Int32) &&& 31).toUInt32).toInt32) &&& (255 : Int32)) % (12 : Int32)) &&& 31)))])) _
    refine XS.istore X0.here hx rfl (hb hby at_29) rfl (l' := #[.val (.int p0), .val (.int p1), .val (.long q2), .second, .val (.long q3), .second, .val (.long q4), .second, .val (.long q5), .second, .val (.int d1), .val (.int ((512 : Int32) <<< (((((p0.toUInt32 >>> ((8 : Int32) &&& 31).toUInt32).toInt32) &&& (255 : Int32)) % (12 : Int32)) &&& 31))), .unset, .unset, .unset, .unset, .unset, .unset, .unset, .unset, .unset, .unset]) rfl ?_
    exact kt
  obtain ⟨k1, hk1⟩ : ∃ z : Int32, z = ((512 : Int32) <<< (((((p0.toUInt32 >>> ((8 : Int32) &&& 31).toUInt32).toInt32) &&& (255 : Int32)) % (12 : Int32)) &&& 31)) := ⟨_, rfl⟩
  rw [← hk1] at st2
  have G1 : own_good d1 := hd1 ▸ own_good_of _
  have G2 : own_good k1 := hk1 ▸ own_good_of _
  obtain ⟨d2, hd2, st3⟩ : ∃ (d2 : Int32), d2 = (if (p1 &&& (1 : Int32)) = (0 : Int32) then ((512 : Int32) <<< (((((p0.toUInt32 >>> ((16 : Int32) &&& 31).toUInt32).toInt32) &&& (255 : Int32)) % (12 : Int32)) &&& 31)) else d1) ∧ ∀ target, Steps p.tables e below (s₁.setTop (mkF m 57 #[.val (.int p0), .val (.int p1), .val (.long q2), .second, .val (.long q3), .second, .val (.long q4), .second, .val (.long q5), .second, .val (.int d1), .val (.int k1), .unset, .unset, .unset, .unset, .unset, .unset, .unset, .unset, .unset, .unset] [(.int d2)])) target → Steps p.tables e below (s₁.setTop (mkF m 31 #[.val (.int p0), .val (.int p1), .val (.long q2), .second, .val (.long q3), .second, .val (.long q4), .second, .val (.long q5), .second, .val (.int d1), .val (.int k1), .unset, .unset, .unset, .unset, .unset, .unset, .unset, .unset, .unset, .unset] [])) target := by
    refine ⟨_, rfl, fun target kt => ?_⟩
    show Steps p.tables e below (s₁.setTop (mkF m 31 #[.val (.int p0), .val (.int p1), .val (.long q2), .second, .val (.long q3), .second, .val (.long q4), .second, .val (.long q5), .second, .val (.int d1), .val (.int k1), .unset, .unset, .unset, .unset, .unset, .unset, .unset, .unset, .unset, .unset] [])) _
    refine XS.iloadN X0.here hx rfl (hb hby at_31) rfl ?_
    show Steps p.tables e below (s₁.setTop (mkF m 32 #[.val (.int p0), .val (.int p1), .val (.long q2), .second, .val (.long q3), .second, .val (.long q4), .second, .val (.long q5), .second, .val (.int d1), .val (.int k1), .unset, .unset, .unset, .unset, .unset, .unset, .unset, .unset, .unset, .unset] [(.int p1)])) _
    refine XS.iconst X0.here hx rfl (hb hby at_32) ?_
    show Steps p.tables e below (s₁.setTop (mkF m 33 #[.val (.int p0), .val (.int p1), .val (.long q2), .second, .val (.long q3), .second, .val (.long q4), .second, .val (.long q5), .second, .val (.int d1), .val (.int k1), .unset, .unset, .unset, .unset, .unset, .unset, .unset, .unset, .unset, .unset] [(.int (1 : Int32)), (.int p1)])) _
    refine XS.iand X0.here hx rfl (hb hby at_33) rfl ?_
    by_cases hc34 : (p1 &&& (1 : Int32)) = (0 : Int32)
    · rw [if_pos hc34] at kt
      show Steps p.tables e below (s₁.setTop (mkF m 34 #[.val (.int p0), .val (.int p1), .val (.long q2), .second, .val (.long q3), .second, .val (.long q4), .second, .val (.long q5), .second, .val (.int d1), .val (.int k1), .unset, .unset, .unset, .unset, .unset, .unset, .unset, .unset, .unset, .unset] [(.int (p1 &&& (1 : Int32)))])) _
      refine XS.ifYes X0.here hx rfl (pc0 := 34) (pc' := 42) rfl (hb hby at_34) rfl ((if0 _ _).trans (teq hc34).1) (by decide) (by decide) ?_
      show Steps p.tables e below (s₁.setTop (mkF m 42 #[.val (.int p0), .val (.int p1), .val (.long q2), .second, .val (.long q3), .second, .val (.long q4), .second, .val (.long q5), .second, .val (.int d1), .val (.int k1), .unset, .unset, .unset, .unset, .unset, .unset, .unset, .unset, .unset, .unset] [])) _
      refine XS.sipush X0.here hx rfl (hb hby at_42) ?_
      show Steps p.tables e below (s₁.setTop (mkF m 45 #[.val (.int p0), .val (.int p1), .val (.long q2), .second, .val (.long q3), .second, .val (.long q4), .second, .val (.long q5), .second, .val (.int d1), .val (.int k1), .unset, .unset, .unset, .unset, .unset, .unset, .unset, .unset, .unset, .unset] [(.int (512 : Int32))])) _
      refine XS.iloadN X0.here hx rfl (hb hby at_45) rfl ?_
      show Steps p.tables e below (s₁.setTop (mkF m 46 #[.val (.int p0), .val (.int p1), .val (.long q2), .second, .val (.long q3), .second, .val (.long q4), .second, .val (.long q5), .second, .val (.int d1), .val (.int k1), .unset, .unset, .unset, .unset, .unset, .unset, .unset, .unset, .unset, .unset] [(.int p0), (.int (512 : Int32))])) _
      refine XS.bipush X0.here hx rfl (hb hby at_46) ?_
      show Steps p.tables e below (s₁.setTop (mkF m 48 #[.val (.int p0), .val (.int p1), .val (.long q2), .second, .val (.long q3), .second, .val (.long q4), .second, .val (.long q5), .second, .val (.int d1), .val (.int k1), .unset, .unset, .unset, .unset, .unset, .unset, .unset, .unset, .unset, .unset] [(.int (16 : Int32)), (.int p0), (.int (512 : Int32))])) _
      refine XS.iushr X0.here hx rfl (hb hby at_48) rfl ?_
      show Steps p.tables e below (s₁.setTop (mkF m 49 #[.val (.int p0), .val (.int p1), .val (.long q2), .second, .val (.long q3), .second, .val (.long q4), .second, .val (.long q5), .second, .val (.int d1), .val (.int k1), .unset, .unset, .unset, .unset, .unset, .unset, .unset, .unset, .unset, .unset] [(.int ((p0.toUInt32 >>> ((16 : Int32) &&& 31).toUInt32).toInt32)), (.int (512 : Int32))])) _
      refine XS.sipush X0.here hx rfl (hb hby at_49) ?_
      show Steps p.tables e below (s₁.setTop (mkF m 52 #[.val (.int p0), .val (.int p1), .val (.long q2), .second, .val (.long q3), .second, .val (.long q4), .second, .val (.long q5), .second, .val (.int d1), .val (.int k1), .unset, .unset, .unset, .unset, .unset, .unset, .unset, .unset, .unset, .unset] [(.int (255 : Int32)), (.int ((p0.toUInt32 >>> ((16 : Int32) &&& 31).toUInt32).toInt32)), (.int (512 : Int32))])) _
      refine XS.iand X0.here hx rfl (hb hby at_52) rfl ?_
      show Steps p.tables e below (s₁.setTop (mkF m 53 #[.val (.int p0), .val (.int p1), .val (.long q2), .second, .val (.long q3), .second, .val (.long q4), .second, .val (.long q5), .second, .val (.int d1), .val (.int k1), .unset, .unset, .unset, .unset, .unset, .unset, .unset, .unset, .unset, .unset] [(.int (((p0.toUInt32 >>> ((16 : Int32) &&& 31).toUInt32).toInt32) &&& (255 : Int32))), (.int (512 : Int32))])) _
      refine XS.bipush X0.here hx rfl (hb hby at_53) ?_
      show Steps p.tables e below (s₁.setTop (mkF m 55 #[.val (.int p0), .val (.int p1), .val (.long q2), .second, .val (.long q3), .second, .val (.long q4), .second, .val (.long q5), .second, .val (.int d1), .val (.int k1), .unset, .unset, .unset, .unset, .unset, .unset, .unset, .unset, .unset, .unset] [(.int (12 : Int32)), (.int (((p0.toUInt32 >>> ((16 : Int32) &&& 31).toUInt32).toInt32) &&& (255 : Int32))), (.int (512 : Int32))])) _
      refine iremM (g := (mkF m 55 #[.val (.int p0), .val (.int p1), .val (.long q2), .second, .val (.long q3), .second, .val (.long q4), .second, .val (.long q5), .second, .val (.int d1), .val (.int k1), .unset, .unset, .unset, .unset, .unset, .unset, .unset, .unset, .unset, .unset] [(.int (12 : Int32)), (.int (((p0.toUInt32 >>> ((16 : Int32) &&& 31).toUInt32).toInt32) &&& (255 : Int32))), (.int (512 : Int32))])) X0 hx rfl (hb hby at_55) rfl (by decide) ?_
      show Steps p.tables e below (s₁.setTop (mkF m 56 #[.val (.int p0), .val (.int p1), .val (.long q2), .second, .val (.long q3), .second, .val (.long q4), .second, .val (.long q5), .second, .val (.int d1), .val (.int k1), .unset, .unset, .unset, .unset, .unset, .unset, .unset, .unset, .unset, .unset] [(.int ((((p0.toUInt32 >>> ((16 : Int32) &&& 31).toUInt32).toInt32) &&& (255 : Int32)) % (12 : Int32))), (.int (512 : Int32))])) _
      refine XS.ishl X0.here hx rfl (hb hby at_56) rfl ?_
      exact kt
    · rw [if_neg hc34] at kt
      show Steps p.tables e below (s₁.setTop (mkF m 34 #[.val (.int p0), .val (.int p1), .val (.long q2), .second, .val (.long q3), .second, .val (.long q4), .second, .val (.long q5), .second, .val (.int d1), .val (.int k1), .unset, .unset, .unset, .unset, .unset, .unset, .unset, .unset, .unset, .unset] [(.int (p1 &&& (1 : Int32)))])) _
      refine XS.ifNo X0.here hx rfl (hb hby at_34) rfl ((if0 _ _).trans (feq hc34).1) ?_
      show Steps p.tables e below (s₁.setTop (mkF m 37 #[.val (.int p0), .val (.int p1), .val (.long q2), .second, .val (.long q3), .second, .val (.long q4), .second, .val (.long q5), .second, .val (.int d1), .val (.int k1), .unset, .unset, .unset, .unset, .unset, .unset, .unset, .unset, .unset, .unset] [])) _
      refine XS.iload X0.here hx rfl (hb hby at_37) rfl ?_
      show Steps p.tables e below (s₁.setTop (mkF m 39 #[.val (.int p0), .val (.int p1), .val (.long q2), .second, .val (.long q3), .second, .val (.long q4), .second, .val (.long q5), .second, .val (.int d1), .val (.int k1), .unset, .unset, .unset, .unset, .unset, .unset, .unset, .unset, .unset, .unset] [(.int d1)])) _
      refine XS.goto X0.here hx rfl (pc0 := 39) (pc' := 57) rfl (hb hby at_39) (by decide) (by decide) ?_
      exact kt
  have G3 : own_good d2 := by
    rw [hd2]; split
    · exact own_good_of _
    · exact G1
  have st4 : ∀ target, Steps p.tables e below (s₁.setTop (mkF m 59 #[.val (.int p0), .val (.int p1), .val (.long q2), .second, .val (.long q3), .second, .val (.long q4), .second, .val (.long q5), .second, .val (.int d1), .val (.int k1), .val (.int d2), .unset, .unset, .unset, .unset, .unset, .unset, .unset, .unset, .unset] [])) target → Steps p.tables e below (s₁.setTop (mkF m 57 #[.val (.int p0), .val (.int p1), .val (.long q2), .second, .val (.long q3), .second, .val (.long q4), .second, .val (.long q5), .second, .val (.int d1), .val (.int k1), .unset, .unset, .unset, .unset, .unset, .unset, .unset, .unset, .unset, .unset] [(.int d2)])) target := by
    intro target kt
    show Steps p.tables e below (s₁.setTop (mkF m 57 #[.val (.int p0), .val (.int p1), .val (.long q2), .second, .val (.long q3), .second, .val (.long q4), .second, .val (.long q5), .second, .val (.int d1), .val (.int k1), .unset, .unset, .unset, .unset, .unset, .unset, .unset, .unset, .unset, .unset] [(.int d2)])) _
    refine XS.istore X0.here hx rfl (hb hby at_57) rfl (l' := #[.val (.int p0), .val (.int p1), .val (.long q2), .second, .val (.long q3), .second, .val (.long q4), .second, .val (.long q5), .second, .val (.int d1), .val (.int k1), .val (.int d2), .unset, .unset, .unset, .unset, .unset, .unset, .unset, .unset, .unset]) rfl ?_
    exact kt
  obtain ⟨k2, hk2, st5⟩ : ∃ (k2 : Int32), k2 = (if (p1 &&& (2 : Int32)) = (0 : Int32) then ((512 : Int32) <<< (((((p0.toUInt32 >>> ((24 : Int32) &&& 31).toUInt32).toInt32) &&& (255 : Int32)) % (12 : Int32)) &&& 31)) else k1) ∧ ∀ target, Steps p.tables e below (s₁.setTop (mkF m 85 #[.val (.int p0), .val (.int p1), .val (.long q2), .second, .val (.long q3), .second, .val (.long q4), .second, .val (.long q5), .second, .val (.int d1), .val (.int k1), .val (.int d2), .unset, .unset, .unset, .unset, .unset, .unset, .unset, .unset, .unset] [(.int k2)])) target → Steps p.tables e below (s₁.setTop (mkF m 59 #[.val (.int p0), .val (.int p1), .val (.long q2), .second, .val (.long q3), .second, .val (.long q4), .second, .val (.long q5), .second, .val (.int d1), .val (.int k1), .val (.int d2), .unset, .unset, .unset, .unset, .unset, .unset, .unset, .unset, .unset] [])) target := by
    refine ⟨_, rfl, fun target kt => ?_⟩
    show Steps p.tables e below (s₁.setTop (mkF m 59 #[.val (.int p0), .val (.int p1), .val (.long q2), .second, .val (.long q3), .second, .val (.long q4), .second, .val (.long q5), .second, .val (.int d1), .val (.int k1), .val (.int d2), .unset, .unset, .unset, .unset, .unset, .unset, .unset, .unset, .unset] [])) _
    refine XS.iloadN X0.here hx rfl (hb hby at_59) rfl ?_
    show Steps p.tables e below (s₁.setTop (mkF m 60 #[.val (.int p0), .val (.int p1), .val (.long q2), .second, .val (.long q3), .second, .val (.long q4), .second, .val (.long q5), .second, .val (.int d1), .val (.int k1), .val (.int d2), .unset, .unset, .unset, .unset, .unset, .unset, .unset, .unset, .unset] [(.int p1)])) _
    refine XS.iconst X0.here hx rfl (hb hby at_60) ?_
    show Steps p.tables e below (s₁.setTop (mkF m 61 #[.val (.int p0), .val (.int p1), .val (.long q2), .second, .val (.long q3), .second, .val (.long q4), .second, .val (.long q5), .second, .val (.int d1), .val (.int k1), .val (.int d2), .unset, .unset, .unset, .unset, .unset, .unset, .unset, .unset, .unset] [(.int (2 : Int32)), (.int p1)])) _
    refine XS.iand X0.here hx rfl (hb hby at_61) rfl ?_
    by_cases hc62 : (p1 &&& (2 : Int32)) = (0 : Int32)
    · rw [if_pos hc62] at kt
      show Steps p.tables e below (s₁.setTop (mkF m 62 #[.val (.int p0), .val (.int p1), .val (.long q2), .second, .val (.long q3), .second, .val (.long q4), .second, .val (.long q5), .second, .val (.int d1), .val (.int k1), .val (.int d2), .unset, .unset, .unset, .unset, .unset, .unset, .unset, .unset, .unset] [(.int (p1 &&& (2 : Int32)))])) _
      refine XS.ifYes X0.here hx rfl (pc0 := 62) (pc' := 70) rfl (hb hby at_62) rfl ((if0 _ _).trans (teq hc62).1) (by decide) (by decide) ?_
      show Steps p.tables e below (s₁.setTop (mkF m 70 #[.val (.int p0), .val (.int p1), .val (.long q2), .second, .val (.long q3), .second, .val (.long q4), .second, .val (.long q5), .second, .val (.int d1), .val (.int k1), .val (.int d2), .unset, .unset, .unset, .unset, .unset, .unset, .unset, .unset, .unset] [])) _
      refine XS.sipush X0.here hx rfl (hb hby at_70) ?_
      show Steps p.tables e below (s₁.setTop (mkF m 73 #[.val (.int p0), .val (.int p1), .val (.long q2), .second, .val (.long q3), .second, .val (.long q4), .second, .val (.long q5), .second, .val (.int d1), .val (.int k1), .val (.int d2), .unset, .unset, .unset, .unset, .unset, .unset, .unset, .unset, .unset] [(.int (512 : Int32))])) _
      refine XS.iloadN X0.here hx rfl (hb hby at_73) rfl ?_
      show Steps p.tables e below (s₁.setTop (mkF m 74 #[.val (.int p0), .val (.int p1), .val (.long q2), .second, .val (.long q3), .second, .val (.long q4), .second, .val (.long q5), .second, .val (.int d1), .val (.int k1), .val (.int d2), .unset, .unset, .unset, .unset, .unset, .unset, .unset, .unset, .unset] [(.int p0), (.int (512 : Int32))])) _
      refine XS.bipush X0.here hx rfl (hb hby at_74) ?_
      show Steps p.tables e below (s₁.setTop (mkF m 76 #[.val (.int p0), .val (.int p1), .val (.long q2), .second, .val (.long q3), .second, .val (.long q4), .second, .val (.long q5), .second, .val (.int d1), .val (.int k1), .val (.int d2), .unset, .unset, .unset, .unset, .unset, .unset, .unset, .unset, .unset] [(.int (24 : Int32)), (.int p0), (.int (512 : Int32))])) _
      refine XS.iushr X0.here hx rfl (hb hby at_76) rfl ?_
      show Steps p.tables e below (s₁.setTop (mkF m 77 #[.val (.int p0), .val (.int p1), .val (.long q2), .second, .val (.long q3), .second, .val (.long q4), .second, .val (.long q5), .second, .val (.int d1), .val (.int k1), .val (.int d2), .unset, .unset, .unset, .unset, .unset, .unset, .unset, .unset, .unset] [(.int ((p0.toUInt32 >>> ((24 : Int32) &&& 31).toUInt32).toInt32)), (.int (512 : Int32))])) _
      refine XS.sipush X0.here hx rfl (hb hby at_77) ?_
      show Steps p.tables e below (s₁.setTop (mkF m 80 #[.val (.int p0), .val (.int p1), .val (.long q2), .second, .val (.long q3), .second, .val (.long q4), .second, .val (.long q5), .second, .val (.int d1), .val (.int k1), .val (.int d2), .unset, .unset, .unset, .unset, .unset, .unset, .unset, .unset, .unset] [(.int (255 : Int32)), (.int ((p0.toUInt32 >>> ((24 : Int32) &&& 31).toUInt32).toInt32)), (.int (512 : Int32))])) _
      refine XS.iand X0.here hx rfl (hb hby at_80) rfl ?_
      show Steps p.tables e below (s₁.setTop (mkF m 81 #[.val (.int p0), .val (.int p1), .val (.long q2), .second, .val (.long q3), .second, .val (.long q4), .second, .val (.long q5), .second, .val (.int d1), .val (.int k1), .val (.int d2), .unset, .unset, .unset, .unset, .unset, .unset, .unset, .unset, .unset] [(.int (((p0.toUInt32 >>> ((24 : Int32) &&& 31).toUInt32).toInt32) &&& (255 : Int32))), (.int (512 : Int32))])) _
      refine XS.bipush X0.here hx rfl (hb hby at_81) ?_
      show Steps p.tables e below (s₁.setTop (mkF m 83 #[.val (.int p0), .val (.int p1), .val (.long q2), .second, .val (.long q3), .second, .val (.long q4), .second, .val (.long q5), .second, .val (.int d1), .val (.int k1), .val (.int d2), .unset, .unset, .unset, .unset, .unset, .unset, .unset, .unset, .unset] [(.int (12 : Int32)), (.int (((p0.toUInt32 >>> ((24 : Int32) &&& 31).toUInt32).toInt32) &&& (255 : Int32))), (.int (512 : Int32))])) _
      refine iremM (g := (mkF m 83 #[.val (.int p0), .val (.int p1), .val (.long q2), .second, .val (.long q3), .second, .val (.long q4), .second, .val (.long q5), .second, .val (.int d1), .val (.int k1), .val (.int d2), .unset, .unset, .unset, .unset, .unset, .unset, .unset, .unset, .unset] [(.int (12 : Int32)), (.int (((p0.toUInt32 >>> ((24 : Int32) &&& 31).toUInt32).toInt32) &&& (255 : Int32))), (.int (512 : Int32))])) X0 hx rfl (hb hby at_83) rfl (by decide) ?_
      show Steps p.tables e below (s₁.setTop (mkF m 84 #[.val (.int p0), .val (.int p1), .val (.long q2), .second, .val (.long q3), .second, .val (.long q4), .second, .val (.long q5), .second, .val (.int d1), .val (.int k1), .val (.int d2), .unset, .unset, .unset, .unset, .unset, .unset, .unset, .unset, .unset] [(.int ((((p0.toUInt32 >>> ((24 : Int32) &&& 31).toUInt32).toInt32) &&& (255 : Int32)) % (12 : Int32))), (.int (512 : Int32))])) _
      refine XS.ishl X0.here hx rfl (hb hby at_84) rfl ?_
      exact kt
    · rw [if_neg hc62] at kt
      show Steps p.tables e below (s₁.setTop (mkF m 62 #[.val (.int p0), .val (.int p1), .val (.long q2), .second, .val (.long q3), .second, .val (.long q4), .second, .val (.long q5), .second, .val (.int d1), .val (.int k1), .val (.int d2), .unset, .unset, .unset, .unset, .unset, .unset, .unset, .unset, .unset] [(.int (p1 &&& (2 : Int32)))])) _
      refine XS.ifNo X0.here hx rfl (hb hby at_62) rfl ((if0 _ _).trans (feq hc62).1) ?_
      show Steps p.tables e below (s₁.setTop (mkF m 65 #[.val (.int p0), .val (.int p1), .val (.long q2), .second, .val (.long q3), .second, .val (.long q4), .second, .val (.long q5), .second, .val (.int d1), .val (.int k1), .val (.int d2), .unset, .unset, .unset, .unset, .unset, .unset, .unset, .unset, .unset] [])) _
      refine XS.iload X0.here hx rfl (hb hby at_65) rfl ?_
      show Steps p.tables e below (s₁.setTop (mkF m 67 #[.val (.int p0), .val (.int p1), .val (.long q2), .second, .val (.long q3), .second, .val (.long q4), .second, .val (.long q5), .second, .val (.int d1), .val (.int k1), .val (.int d2), .unset, .unset, .unset, .unset, .unset, .unset, .unset, .unset, .unset] [(.int k1)])) _
      refine XS.goto X0.here hx rfl (pc0 := 67) (pc' := 85) rfl (hb hby at_67) (by decide) (by decide) ?_
      exact kt
  have G4 : own_good k2 := by
    rw [hk2]; split
    · exact own_good_of _
    · exact G2
  have st6 : ∀ target, Steps p.tables e below (s₁.setTop (mkF m 87 #[.val (.int p0), .val (.int p1), .val (.long q2), .second, .val (.long q3), .second, .val (.long q4), .second, .val (.long q5), .second, .val (.int d1), .val (.int k1), .val (.int d2), .val (.int k2), .unset, .unset, .unset, .unset, .unset, .unset, .unset, .unset] [])) target → Steps p.tables e below (s₁.setTop (mkF m 85 #[.val (.int p0), .val (.int p1), .val (.long q2), .second, .val (.long q3), .second, .val (.long q4), .second, .val (.long q5), .second, .val (.int d1), .val (.int k1), .val (.int d2), .unset, .unset, .unset, .unset, .unset, .unset, .unset, .unset, .unset] [(.int k2)])) target := by
    intro target kt
    show Steps p.tables e below (s₁.setTop (mkF m 85 #[.val (.int p0), .val (.int p1), .val (.long q2), .second, .val (.long q3), .second, .val (.long q4), .second, .val (.long q5), .second, .val (.int d1), .val (.int k1), .val (.int d2), .unset, .unset, .unset, .unset, .unset, .unset, .unset, .unset, .unset] [(.int k2)])) _
    refine XS.istore X0.here hx rfl (hb hby at_85) rfl (l' := #[.val (.int p0), .val (.int p1), .val (.long q2), .second, .val (.long q3), .second, .val (.long q4), .second, .val (.long q5), .second, .val (.int d1), .val (.int k1), .val (.int d2), .val (.int k2), .unset, .unset, .unset, .unset, .unset, .unset, .unset, .unset]) rfl ?_
    exact kt
  obtain ⟨o2, ho2, st7⟩ : ∃ (o2 : Int64), o2 = (if (p1 &&& (4 : Int32)) = (0 : Int32) then q4 else q2) ∧ ∀ target, Steps p.tables e below (s₁.setTop (mkF m 99 #[.val (.int p0), .val (.int p1), .val (.long q2), .second, .val (.long q3), .second, .val (.long q4), .second, .val (.long q5), .second, .val (.int d1), .val (.int k1), .val (.int d2), .val (.int k2), .unset, .unset, .unset, .unset, .unset, .unset, .unset, .unset] [(.long o2)])) target → Steps p.tables e below (s₁.setTop (mkF m 87 #[.val (.int p0), .val (.int p1), .val (.long q2), .second, .val (.long q3), .second, .val (.long q4), .second, .val (.long q5), .second, .val (.int d1), .val (.int k1), .val (.int d2), .val (.int k2), .unset, .unset, .unset, .unset, .unset, .unset, .unset, .unset] [])) target := by
    refine ⟨_, rfl, fun target kt => ?_⟩
    show Steps p.tables e below (s₁.setTop (mkF m 87 #[.val (.int p0), .val (.int p1), .val (.long q2), .second, .val (.long q3), .second, .val (.long q4), .second, .val (.long q5), .second, .val (.int d1), .val (.int k1), .val (.int d2), .val (.int k2), .unset, .unset, .unset, .unset, .unset, .unset, .unset, .unset] [])) _
    refine XS.iloadN X0.here hx rfl (hb hby at_87) rfl ?_
    show Steps p.tables e below (s₁.setTop (mkF m 88 #[.val (.int p0), .val (.int p1), .val (.long q2), .second, .val (.long q3), .second, .val (.long q4), .second, .val (.long q5), .second, .val (.int d1), .val (.int k1), .val (.int d2), .val (.int k2), .unset, .unset, .unset, .unset, .unset, .unset, .unset, .unset] [(.int p1)])) _
    refine XS.iconst X0.here hx rfl (hb hby at_88) ?_
    show Steps p.tables e below (s₁.setTop (mkF m 89 #[.val (.int p0), .val (.int p1), .val (.long q2), .second, .val (.long q3), .second, .val (.long q4), .second, .val (.long q5), .second, .val (.int d1), .val (.int k1), .val (.int d2), .val (.int k2), .unset, .unset, .unset, .unset, .unset, .unset, .unset, .unset] [(.int (4 : Int32)), (.int p1)])) _
    refine XS.iand X0.here hx rfl (hb hby at_89) rfl ?_
    by_cases hc90 : (p1 &&& (4 : Int32)) = (0 : Int32)
    · rw [if_pos hc90] at kt
      show Steps p.tables e below (s₁.setTop (mkF m 90 #[.val (.int p0), .val (.int p1), .val (.long q2), .second, .val (.long q3), .second, .val (.long q4), .second, .val (.long q5), .second, .val (.int d1), .val (.int k1), .val (.int d2), .val (.int k2), .unset, .unset, .unset, .unset, .unset, .unset, .unset, .unset] [(.int (p1 &&& (4 : Int32)))])) _
      refine XS.ifYes X0.here hx rfl (pc0 := 90) (pc' := 97) rfl (hb hby at_90) rfl ((if0 _ _).trans (teq hc90).1) (by decide) (by decide) ?_
      show Steps p.tables e below (s₁.setTop (mkF m 97 #[.val (.int p0), .val (.int p1), .val (.long q2), .second, .val (.long q3), .second, .val (.long q4), .second, .val (.long q5), .second, .val (.int d1), .val (.int k1), .val (.int d2), .val (.int k2), .unset, .unset, .unset, .unset, .unset, .unset, .unset, .unset] [])) _
      refine XS.lload X0.here hx rfl (hb hby at_97) rfl ?_
      exact kt
    · rw [if_neg hc90] at kt
      show Steps p.tables e below (s₁.setTop (mkF m 90 #[.val (.int p0), .val (.int p1), .val (.long q2), .second, .val (.long q3), .second, .val (.long q4), .second, .val (.long q5), .second, .val (.int d1), .val (.int k1), .val (.int d2), .val (.int k2), .unset, .unset, .unset, .unset, .unset, .unset, .unset, .unset] [(.int (p1 &&& (4 : Int32)))])) _
      refine XS.ifNo X0.here hx rfl (hb hby at_90) rfl ((if0 _ _).trans (feq hc90).1) ?_
      show Steps p.tables e below (s₁.setTop (mkF m 93 #[.val (.int p0), .val (.int p1), .val (.long q2), .second, .val (.long q3), .second, .val (.long q4), .second, .val (.long q5), .second, .val (.int d1), .val (.int k1), .val (.int d2), .val (.int k2), .unset, .unset, .unset, .unset, .unset, .unset, .unset, .unset] [])) _
      refine XS.lloadN X0.here hx rfl (hb hby at_93) rfl ?_
      show Steps p.tables e below (s₁.setTop (mkF m 94 #[.val (.int p0), .val (.int p1), .val (.long q2), .second, .val (.long q3), .second, .val (.long q4), .second, .val (.long q5), .second, .val (.int d1), .val (.int k1), .val (.int d2), .val (.int k2), .unset, .unset, .unset, .unset, .unset, .unset, .unset, .unset] [(.long q2)])) _
      refine XS.goto X0.here hx rfl (pc0 := 94) (pc' := 99) rfl (hb hby at_94) (by decide) (by decide) ?_
      exact kt
  have st8 : ∀ target, Steps p.tables e below (s₁.setTop (mkF m 101 #[.val (.int p0), .val (.int p1), .val (.long q2), .second, .val (.long q3), .second, .val (.long q4), .second, .val (.long q5), .second, .val (.int d1), .val (.int k1), .val (.int d2), .val (.int k2), .val (.long o2), .second, .unset, .unset, .unset, .unset, .unset, .unset] [])) target → Steps p.tables e below (s₁.setTop (mkF m 99 #[.val (.int p0), .val (.int p1), .val (.long q2), .second, .val (.long q3), .second, .val (.long q4), .second, .val (.long q5), .second, .val (.int d1), .val (.int k1), .val (.int d2), .val (.int k2), .unset, .unset, .unset, .unset, .unset, .unset, .unset, .unset] [(.long o2)])) target := by
    intro target kt
    show Steps p.tables e below (s₁.setTop (mkF m 99 #[.val (.int p0), .val (.int p1), .val (.long q2), .second, .val (.long q3), .second, .val (.long q4), .second, .val (.long q5), .second, .val (.int d1), .val (.int k1), .val (.int d2), .val (.int k2), .unset, .unset, .unset, .unset, .unset, .unset, .unset, .unset] [(.long o2)])) _
    refine XS.lstore X0.here hx rfl (hb hby at_99) rfl (l' := #[.val (.int p0), .val (.int p1), .val (.long q2), .second, .val (.long q3), .second, .val (.long q4), .second, .val (.long q5), .second, .val (.int d1), .val (.int k1), .val (.int d2), .val (.int k2), .val (.long o2), .second, .unset, .unset, .unset, .unset, .unset, .unset]) rfl ?_
    exact kt
  obtain ⟨s2, hs2, st9⟩ : ∃ (s2 : Int64), s2 = (if (p1 &&& (8 : Int32)) = (0 : Int32) then q5 else q3) ∧ ∀ target, Steps p.tables e below (s₁.setTop (mkF m 115 #[.val (.int p0), .val (.int p1), .val (.long q2), .second, .val (.long q3), .second, .val (.long q4), .second, .val (.long q5), .second, .val (.int d1), .val (.int k1), .val (.int d2), .val (.int k2), .val (.long o2), .second, .unset, .unset, .unset, .unset, .unset, .unset] [(.long s2)])) target → Steps p.tables e below (s₁.setTop (mkF m 101 #[.val (.int p0), .val (.int p1), .val (.long q2), .second, .val (.long q3), .second, .val (.long q4), .second, .val (.long q5), .second, .val (.int d1), .val (.int k1), .val (.int d2), .val (.int k2), .val (.long o2), .second, .unset, .unset, .unset, .unset, .unset, .unset] [])) target := by
    refine ⟨_, rfl, fun target kt => ?_⟩
    show Steps p.tables e below (s₁.setTop (mkF m 101 #[.val (.int p0), .val (.int p1), .val (.long q2), .second, .val (.long q3), .second, .val (.long q4), .second, .val (.long q5), .second, .val (.int d1), .val (.int k1), .val (.int d2), .val (.int k2), .val (.long o2), .second, .unset, .unset, .unset, .unset, .unset, .unset] [])) _
    refine XS.iloadN X0.here hx rfl (hb hby at_101) rfl ?_
    show Steps p.tables e below (s₁.setTop (mkF m 102 #[.val (.int p0), .val (.int p1), .val (.long q2), .second, .val (.long q3), .second, .val (.long q4), .second, .val (.long q5), .second, .val (.int d1), .val (.int k1), .val (.int d2), .val (.int k2), .val (.long o2), .second, .unset, .unset, .unset, .unset, .unset, .unset] [(.int p1)])) _
    refine XS.bipush X0.here hx rfl (hb hby at_102) ?_
    show Steps p.tables e below (s₁.setTop (mkF m 104 #[.val (.int p0), .val (.int p1), .val (.long q2), .second, .val (.long q3), .second, .val (.long q4), .second, .val (.long q5), .second, .val (.int d1), .val (.int k1), .val (.int d2), .val (.int k2), .val (.long o2), .second, .unset, .unset, .unset, .unset, .unset, .unset] [(.int (8 : Int32)), (.int p1)])) _
    refine XS.iand X0.here hx rfl (hb hby at_104) rfl ?_
    by_cases hc105 : (p1 &&& (8 : Int32)) = (0 : Int32)
    · rw [if_pos hc105] at kt
      show Steps p.tables e below (s₁.setTop (mkF m 105 #[.val (.int p0), .val (.int p1), .val (.long q2), .second, .val (.long q3), .second, .val (.long q4), .second, .val (.long q5), .second, .val (.int d1), .val (.int k1), .val (.int d2), .val (.int k2), .val (.long o2), .second, .unset, .unset, .unset, .unset, .unset, .unset] [(.int (p1 &&& (8 : Int32)))])) _
      refine XS.ifYes X0.here hx rfl (pc0 := 105) (pc' := 113) rfl (hb hby at_105) rfl ((if0 _ _).trans (teq hc105).1) (by decide) (by decide) ?_
      show Steps p.tables e below (s₁.setTop (mkF m 113 #[.val (.int p0), .val (.int p1), .val (.long q2), .second, .val (.long q3), .second, .val (.long q4), .second, .val (.long q5), .second, .val (.int d1), .val (.int k1), .val (.int d2), .val (.int k2), .val (.long o2), .second, .unset, .unset, .unset, .unset, .unset, .unset] [])) _
      refine XS.lload X0.here hx rfl (hb hby at_113) rfl ?_
      exact kt
    · rw [if_neg hc105] at kt
      show Steps p.tables e below (s₁.setTop (mkF m 105 #[.val (.int p0), .val (.int p1), .val (.long q2), .second, .val (.long q3), .second, .val (.long q4), .second, .val (.long q5), .second, .val (.int d1), .val (.int k1), .val (.int d2), .val (.int k2), .val (.long o2), .second, .unset, .unset, .unset, .unset, .unset, .unset] [(.int (p1 &&& (8 : Int32)))])) _
      refine XS.ifNo X0.here hx rfl (hb hby at_105) rfl ((if0 _ _).trans (feq hc105).1) ?_
      show Steps p.tables e below (s₁.setTop (mkF m 108 #[.val (.int p0), .val (.int p1), .val (.long q2), .second, .val (.long q3), .second, .val (.long q4), .second, .val (.long q5), .second, .val (.int d1), .val (.int k1), .val (.int d2), .val (.int k2), .val (.long o2), .second, .unset, .unset, .unset, .unset, .unset, .unset] [])) _
      refine XS.lload X0.here hx rfl (hb hby at_108) rfl ?_
      show Steps p.tables e below (s₁.setTop (mkF m 110 #[.val (.int p0), .val (.int p1), .val (.long q2), .second, .val (.long q3), .second, .val (.long q4), .second, .val (.long q5), .second, .val (.int d1), .val (.int k1), .val (.int d2), .val (.int k2), .val (.long o2), .second, .unset, .unset, .unset, .unset, .unset, .unset] [(.long q3)])) _
      refine XS.goto X0.here hx rfl (pc0 := 110) (pc' := 115) rfl (hb hby at_110) (by decide) (by decide) ?_
      exact kt
  have st10 : ∀ target, Steps p.tables e below (s₁.setTop (mkF m 117 #[.val (.int p0), .val (.int p1), .val (.long q2), .second, .val (.long q3), .second, .val (.long q4), .second, .val (.long q5), .second, .val (.int d1), .val (.int k1), .val (.int d2), .val (.int k2), .val (.long o2), .second, .val (.long s2), .second, .unset, .unset, .unset, .unset] [])) target → Steps p.tables e below (s₁.setTop (mkF m 115 #[.val (.int p0), .val (.int p1), .val (.long q2), .second, .val (.long q3), .second, .val (.long q4), .second, .val (.long q5), .second, .val (.int d1), .val (.int k1), .val (.int d2), .val (.int k2), .val (.long o2), .second, .unset, .unset, .unset, .unset, .unset, .unset] [(.long s2)])) target := by
    intro target kt
    show Steps p.tables e below (s₁.setTop (mkF m 115 #[.val (.int p0), .val (.int p1), .val (.long q2), .second, .val (.long q3), .second, .val (.long q4), .second, .val (.long q5), .second, .val (.int d1), .val (.int k1), .val (.int d2), .val (.int k2), .val (.long o2), .second, .unset, .unset, .unset, .unset, .unset, .unset] [(.long s2)])) _
    refine XS.lstore X0.here hx rfl (hb hby at_115) rfl (l' := #[.val (.int p0), .val (.int p1), .val (.long q2), .second, .val (.long q3), .second, .val (.long q4), .second, .val (.long q5), .second, .val (.int d1), .val (.int k1), .val (.int d2), .val (.int k2), .val (.long o2), .second, .val (.long s2), .second, .unset, .unset, .unset, .unset]) rfl ?_
    exact kt
  obtain ⟨T11, h11, X11, e11, E11, A11, D11, -, st11⟩ := newO X0 hx hZ hown (hw _ (List.mem_of_getElem? (i := 0) rfl)) (hw _ (List.mem_of_getElem? (i := 1) rfl)) (hw _ (List.mem_of_getElem? (i := 2) rfl)) e0 (g := (mkF m 117 #[.val (.int p0), .val (.int p1), .val (.long q2), .second, .val (.long q3), .second, .val (.long q4), .second, .val (.long q5), .second, .val (.int d1), .val (.int k1), .val (.int d2), .val (.int k2), .val (.long o2), .second, .val (.long s2), .second, .unset, .unset, .unset, .unset] [])) rfl (hb hby at_117) (by decide) (by decide)
  obtain ⟨a, g11⟩ : ∃ z, z = h0.size := ⟨_, rfl⟩
  rw [← g11] at A11 D11 st11
  have g_a : n0 ≤ a := Nat.le_trans Z0 (Nat.le_of_eq g11.symm)
  have Od_11 := Od.ext E11
  have Z_11 : n0 ≤ h11.size := Nat.le_trans Z0 E11.1
  have E_a : Exa Z h11 a "com/example/imprimatur/imprimatur/verify/HashTree" := A11
  have F_dataBlockSize_a : Fld Z h11 a "com/example/imprimatur/imprimatur/verify/HashTree" "dataBlockSize" "I" (.int (0 : Int32)) := D11 (Or.inr (hw _ (List.mem_of_getElem? (i := 21) rfl))) (ty := .int) (by decide)
  have F_hashBlockSize_a : Fld Z h11 a "com/example/imprimatur/imprimatur/verify/HashTree" "hashBlockSize" "I" (.int (0 : Int32)) := D11 (Or.inr (hw _ (List.mem_of_getElem? (i := 23) rfl))) (ty := .int) (by decide)
  have F_treeOffset_a : Fld Z h11 a "com/example/imprimatur/imprimatur/verify/HashTree" "treeOffset" "J" (.long (0 : Int64)) := D11 (Or.inr (hw _ (List.mem_of_getElem? (i := 25) rfl))) (ty := .long) (by decide)
  have F_treeSize_a : Fld Z h11 a "com/example/imprimatur/imprimatur/verify/HashTree" "treeSize" "J" (.long (0 : Int64)) := D11 (Or.inr (hw _ (List.mem_of_getElem? (i := 27) rfl))) (ty := .long) (by decide)
  have st12 : ∀ target, Steps p.tables e below (T11.setTop (mkF m 128 #[.val (.int p0), .val (.int p1), .val (.long q2), .second, .val (.long q3), .second, .val (.long q4), .second, .val (.long q5), .second, .val (.int d1), .val (.int k1), .val (.int d2), .val (.int k2), .val (.long o2), .second, .val (.long s2), .second, .unset, .unset, .unset, .unset] [(.long q3), (.long q2), (.int k1), (.int d1), (.ref a), (.ref a)])) target → Steps p.tables e below (T11.setTop (mkF m 120 #[.val (.int p0), .val (.int p1), .val (.long q2), .second, .val (.long q3), .second, .val (.long q4), .second, .val (.long q5), .second, .val (.int d1), .val (.int k1), .val (.int d2), .val (.int k2), .val (.long o2), .second, .val (.long s2), .second, .unset, .unset, .unset, .unset] [(.ref a)])) target := by
    intro target kt
    show Steps p.tables e below (T11.setTop (mkF m 120 #[.val (.int p0), .val (.int p1), .val (.long q2), .second, .val (.long q3), .second, .val (.long q4), .second, .val (.long q5), .second, .val (.int d1), .val (.int k1), .val (.int d2), .val (.int k2), .val (.long o2), .second, .val (.long s2), .second, .unset, .unset, .unset, .unset] [(.ref a)])) _
    refine XS.dup X11.here hx rfl (hb hby at_120) rfl rfl ?_
    show Steps p.tables e below (T11.setTop (mkF m 121 #[.val (.int p0), .val (.int p1), .val (.long q2), .second, .val (.long q3), .second, .val (.long q4), .second, .val (.long q5), .second, .val (.int d1), .val (.int k1), .val (.int d2), .val (.int k2), .val (.long o2), .second, .val (.long s2), .second, .unset, .unset, .unset, .unset] [(.ref a), (.ref a)])) _
    refine XS.iload X11.here hx rfl (hb hby at_121) rfl ?_
    show Steps p.tables e below (T11.setTop (mkF m 123 #[.val (.int p0), .val (.int p1), .val (.long q2), .second, .val (.long q3), .second, .val (.long q4), .second, .val (.long q5), .second, .val (.int d1), .val (.int k1), .val (.int d2), .val (.int k2), .val (.long o2), .second, .val (.long s2), .second, .unset, .unset, .unset, .unset] [(.int d1), (.ref a), (.ref a)])) _
    refine XS.iload X11.here hx rfl (hb hby at_123) rfl ?_
    show Steps p.tables e below (T11.setTop (mkF m 125 #[.val (.int p0), .val (.int p1), .val (.long q2), .second, .val (.long q3), .second, .val (.long q4), .second, .val (.long q5), .second, .val (.int d1), .val (.int k1), .val (.int d2), .val (.int k2), .val (.long o2), .second, .val (.long s2), .second, .unset, .unset, .unset, .unset] [(.int k1), (.int d1), (.ref a), (.ref a)])) _
    refine XS.lloadN X11.here hx rfl (hb hby at_125) rfl ?_
    show Steps p.tables e below (T11.setTop (mkF m 126 #[.val (.int p0), .val (.int p1), .val (.long q2), .second, .val (.long q3), .second, .val (.long q4), .second, .val (.long q5), .second, .val (.int d1), .val (.int k1), .val (.int d2), .val (.int k2), .val (.long o2), .second, .val (.long s2), .second, .unset, .unset, .unset, .unset] [(.long q2), (.int k1), (.int d1), (.ref a), (.ref a)])) _
    refine XS.lload X11.here hx rfl (hb hby at_126) rfl ?_
    exact kt
  obtain ⟨_, _, ⟨T13, L13, k13, n13⟩, -, X13, ⟨Lc13, hQ13, l13, y13, z13⟩, st13⟩ := X11.specialBack hx (y := (⟨"com/example/imprimatur/imprimatur/verify/HashTree", "<init>", "(IIJJ)V"⟩ : MethodName)) rfl hown (mvT hZ (hw _ (List.mem_of_getElem? (i := 3) rfl))) (mvT hZ (hw _ (List.mem_of_getElem? (i := 4) rfl))) (mvT hZ (hw _ (List.mem_of_getElem? (i := 5) rfl))) (by decide) (backOf (W := 1) (rm1 l Z a0 hw [] a d1 k1 q2 q3  h11 n0 Z_11 F_dataBlockSize_a F_hashBlockSize_a F_treeOffset_a F_treeSize_a E_a g_a G1 G2) hZ (hw _ (List.mem_of_getElem? (i := 5) rfl)) (hw _ (List.mem_of_getElem? (i := 2) rfl)) (by decide) (by decide)) (g := (mkF m 128 #[.val (.int p0), .val (.int p1), .val (.long q2), .second, .val (.long q3), .second, .val (.long q4), .second, .val (.long q5), .second, .val (.int d1), .val (.int k1), .val (.int d2), .val (.int k2), .val (.long o2), .second, .val (.long s2), .second, .unset, .unset, .unset, .unset] [(.long q3), (.long q2), (.int k1), (.int d1), (.ref a), (.ref a)])) rfl (by rw [hml]; rfl) (Steps.refl _) (a := a) (argsL := [(.int d1), (.int k1), (.long q2), (.long q3)]) (rest := [(.ref a)]) (lenOf pd_0 rfl) rfl (by show 2 * 0 + _ ≤ _; exact Nat.le_of_eq rfl) (hb hby at_128) (fun _ _ => ⟨rfl, e11, (by decide : 1 + 0 ≤ _), (by decide : 4 + 0 ≤ _)⟩)
  dsimp only [Pt.U, Pt.locs, Pt.cells, Pt.slots] at X13 l13 y13 z13 st13 hQ13
  subst l13 y13 z13
  obtain ⟨rfl, Nq13, K13, E_a_i, F_dataBlockSize_a_i, F_hashBlockSize_a_i, F_treeOffset_a_i, F_treeSize_a_i⟩ := hQ13
  have N13 := Fr.app N0 Nq13
  have Od_13 := Od_11.keep K13 (allS g_a (all0))
  have E_a_13 := E_a.keep K13
  have Z_13 : n0 ≤ T13.heap.size := Nat.le_trans Z_11 K13.1
  have st14 : ∀ target, Steps p.tables e below (T13.setTop (mkF m 140 #[.val (.int p0), .val (.int p1), .val (.long q2), .second, .val (.long q3), .second, .val (.long q4), .second, .val (.long q5), .second, .val (.int d1), .val (.int k1), .val (.int d2), .val (.int k2), .val (.long o2), .second, .val (.long s2), .second, .val (.ref a), .val (.int (((p1.toUInt32 >>> ((4 : Int32) &&& 31).toUInt32).toInt32) &&& (3 : Int32))), .unset, .unset] [])) target → Steps p.tables e below (T13.setTop (mkF m 131 #[.val (.int p0), .val (.int p1), .val (.long q2), .second, .val (.long q3), .second, .val (.long q4), .second, .val (.long q5), .second, .val (.int d1), .val (.int k1), .val (.int d2), .val (.int k2), .val (.long o2), .second, .val (.long s2), .second, .unset, .unset, .unset, .unset] [(.ref a)])) target := by
    intro target kt
    show Steps p.tables e below (T13.setTop (mkF m 131 #[.val (.int p0), .val (.int p1), .val (.long q2), .second, .val (.long q3), .second, .val (.long q4), .second, .val (.long q5), .second, .val (.int d1), .val (.int k1), .val (.int d2), .val (.int k2), .val (.long o2), .second, .val (.long s2), .second, .unset, .unset, .unset, .unset] [(.ref a)])) _
    refine XS.astore X13.here hx rfl (hb hby at_131) rfl rfl (l' := #[.val (.int p0), .val (.int p1), .val (.long q2), .second, .val (.long q3), .second, .val (.long q4), .second, .val (.long q5), .second, .val (.int d1), .val (.int k1), .val (.int d2), .val (.int k2), .val (.long o2), .second, .val (.long s2), .second, .val (.ref a), .unset, .unset, .unset]) rfl ?_
    show Steps p.tables e below (T13.setTop (mkF m 133 #[.val (.int p0), .val (.int p1), .val (.long q2), .second, .val (.long q3), .second, .val (.long q4), .second, .val (.long q5), .second, .val (.int d1), .val (.int k1), .val (.int d2), .val (.int k2), .val (.long o2), .second, .val (.long s2), .second, .val (.ref a), .unset, .unset, .unset] [])) _
    refine XS.iloadN X13.here hx rfl (hb hby at_133) rfl ?_
    show Steps p.tables e below (T13.setTop (mkF m 134 #[.val (.int p0), .val (.int p1), .val (.long q2), .second, .val (.long q3), .second, .val (.long q4), .second, .val (.long q5), .second, .val (.int d1), .val (.int k1), .val (.int d2), .val (.int k2), .val (.long o2), .second, .val (.long s2), .second, .val (.ref a), .unset, .unset, .unset] [(.int p1)])) _
    refine XS.iconst X13.here hx rfl (hb hby at_134) ?_
    show Steps p.tables e below (T13.setTop (mkF m 135 #[.val (.int p0), .val (.int p1), .val (.long q2), .second, .val (.long q3), .second, .val (.long q4), .second, .val (.long q5), .second, .val (.int d1), .val (.int k1), .val (.int d2), .val (.int k2), .val (.long o2), .second, .val (.long s2), .second, .val (.ref a), .unset, .unset, .unset] [(.int (4 : Int32)), (.int p1)])) _
    refine XS.iushr X13.here hx rfl (hb hby at_135) rfl ?_
    show Steps p.tables e below (T13.setTop (mkF m 136 #[.val (.int p0), .val (.int p1), .val (.long q2), .second, .val (.long q3), .second, .val (.long q4), .second, .val (.long q5), .second, .val (.int d1), .val (.int k1), .val (.int d2), .val (.int k2), .val (.long o2), .second, .val (.long s2), .second, .val (.ref a), .unset, .unset, .unset] [(.int ((p1.toUInt32 >>> ((4 : Int32) &&& 31).toUInt32).toInt32))])) _
    refine XS.iconst X13.here hx rfl (hb hby at_136) ?_
    show Steps p.tables e below (T13.setTop (mkF m 137 #[.val (.int p0), .val (.int p1), .val (.long q2), .second, .val (.long q3), .second, .val (.long q4), .second, .val (.long q5), .second, .val (.int d1), .val (.int k1), .val (.int d2), .val (.int k2), .val (.long o2), .second, .val (.long s2), .second, .val (.ref a), .unset, .unset, .unset] [(.int (3 : Int32)), (.int ((p1.toUInt32 >>> ((4 : Int32) &&& 31).toUInt32).toInt32))])) _
    refine XS.iand X13.here hx rfl (hb hby at_137) rfl ?_
    show Steps p.tables e below (T13.setTop (mkF m 138 #[.val (.int p0), .val (.int p1), .val (.long q2), .second, .val (.long q3), .second, .val (.long q4), .second, .val (.long q5), .second, .val (.int d1), .val (.int k1), .val (.int d2), .val (.int k2), .val (.long o2), .second, .val (.long s2), .second, .val (.ref a), .unset, .unset, .unset] [(.int (((p1.toUInt32 >>> ((4 : Int32) &&& 31).toUInt32).toInt32) &&& (3 : Int32)))])) _
    refine XS.istore X13.here hx rfl (hb hby at_138) rfl (l' := #[.val (.int p0), .val (.int p1), .val (.long q2), .second, .val (.long q3), .second, .val (.long q4), .second, .val (.long q5), .second, .val (.int d1), .val (.int k1), .val (.int d2), .val (.int k2), .val (.long o2), .second, .val (.long s2), .second, .val (.ref a), .val (.int (((p1.toUInt32 >>> ((4 : Int32) &&& 31).toUInt32).toInt32) &&& (3 : Int32))), .unset, .unset]) rfl ?_
    exact kt
  obtain ⟨kd, hkd⟩ : ∃ z : Int32, z = (((p1.toUInt32 >>> ((4 : Int32) &&& 31).toUInt32).toInt32) &&& (3 : Int32)) := ⟨_, rfl⟩
  rw [← hkd] at st14
  have st15 : ∀ target, Steps p.tables e below (T13.setTop (mkF m 143 #[.val (.int p0), .val (.int p1), .val (.long q2), .second, .val (.long q3), .second, .val (.long q4), .second, .val (.long q5), .second, .val (.int d1), .val (.int k1), .val (.int d2), .val (.int k2), .val (.long o2), .second, .val (.long s2), .second, .val (.ref a), .val (.int kd), .unset, .unset] [(.int (1 : Int32)), (.int kd)])) target → Steps p.tables e below (T13.setTop (mkF m 140 #[.val (.int p0), .val (.int p1), .val (.long q2), .second, .val (.long q3), .second, .val (.long q4), .second, .val (.long q5), .second, .val (.int d1), .val (.int k1), .val (.int d2), .val (.int k2), .val (.long o2), .second, .val (.long s2), .second, .val (.ref a), .val (.int kd), .unset, .unset] [])) target := by
    intro target kt
    show Steps p.tables e below (T13.setTop (mkF m 140 #[.val (.int p0), .val (.int p1), .val (.long q2), .second, .val (.long q3), .second, .val (.long q4), .second, .val (.long q5), .second, .val (.int d1), .val (.int k1), .val (.int d2), .val (.int k2), .val (.long o2), .second, .val (.long s2), .second, .val (.ref a), .val (.int kd), .unset, .unset] [])) _
    refine XS.iload X13.here hx rfl (hb hby at_140) rfl ?_
    show Steps p.tables e below (T13.setTop (mkF m 142 #[.val (.int p0), .val (.int p1), .val (.long q2), .second, .val (.long q3), .second, .val (.long q4), .second, .val (.long q5), .second, .val (.int d1), .val (.int k1), .val (.int d2), .val (.int k2), .val (.long o2), .second, .val (.long s2), .second, .val (.ref a), .val (.int kd), .unset, .unset] [(.int kd)])) _
    refine XS.iconst X13.here hx rfl (hb hby at_142) ?_
    exact kt
  by_cases hc143 : kd = (1 : Int32)
  · have st16 : ∀ target, Steps p.tables e below (T13.setTop (mkF m 146 #[.val (.int p0), .val (.int p1), .val (.long q2), .second, .val (.long q3), .second, .val (.long q4), .second, .val (.long q5), .second, .val (.int d1), .val (.int k1), .val (.int d2), .val (.int k2), .val (.long o2), .second, .val (.long s2), .second, .val (.ref a), .val (.int kd), .unset, .unset] [])) target → Steps p.tables e below (T13.setTop (mkF m 143 #[.val (.int p0), .val (.int p1), .val (.long q2), .second, .val (.long q3), .second, .val (.long q4), .second, .val (.long q5), .second, .val (.int d1), .val (.int k1), .val (.int d2), .val (.int k2), .val (.long o2), .second, .val (.long s2), .second, .val (.ref a), .val (.int kd), .unset, .unset] [(.int (1 : Int32)), (.int kd)])) target := by
      intro target kt
      show Steps p.tables e below (T13.setTop (mkF m 143 #[.val (.int p0), .val (.int p1), .val (.long q2), .second, .val (.long q3), .second, .val (.long q4), .second, .val (.long q5), .second, .val (.int d1), .val (.int k1), .val (.int d2), .val (.int k2), .val (.long o2), .second, .val (.long s2), .second, .val (.ref a), .val (.int kd), .unset, .unset] [(.int (1 : Int32)), (.int kd)])) _
      refine XS.icmpNo X13.here hx rfl (hb hby at_143) rfl (teq hc143).2 ?_
      exact kt
    have st17 : ∀ target, Steps p.tables e below (T13.setTop (mkF m 149 #[.val (.int p0), .val (.int p1), .val (.long q2), .second, .val (.long q3), .second, .val (.long q4), .second, .val (.long q5), .second, .val (.int d1), .val (.int k1), .val (.int d2), .val (.int k2), .val (.long o2), .second, .val (.long s2), .second, .val (.ref a), .val (.int kd), .unset, .unset] [.null, (.ref a)])) target → Steps p.tables e below (T13.setTop (mkF m 146 #[.val (.int p0), .val (.int p1), .val (.long q2), .second, .val (.long q3), .second, .val (.long q4), .second, .val (.long q5), .second, .val (.int d1), .val (.int k1), .val (.int d2), .val (.int k2), .val (.long o2), .second, .val (.long s2), .second, .val (.ref a), .val (.int kd), .unset, .unset] [])) target := by
      intro target kt
      show Steps p.tables e below (T13.setTop (mkF m 146 #[.val (.int p0), .val (.int p1), .val (.long q2), .second, .val (.long q3), .second, .val (.long q4), .second, .val (.long q5), .second, .val (.int d1), .val (.int k1), .val (.int d2), .val (.int k2), .val (.long o2), .second, .val (.long s2), .second, .val (.ref a), .val (.int kd), .unset, .unset] [])) _
      refine XS.aload X13.here hx rfl (hb hby at_146) rfl rfl ?_
      show Steps p.tables e below (T13.setTop (mkF m 148 #[.val (.int p0), .val (.int p1), .val (.long q2), .second, .val (.long q3), .second, .val (.long q4), .second, .val (.long q5), .second, .val (.int d1), .val (.int k1), .val (.int d2), .val (.int k2), .val (.long o2), .second, .val (.long s2), .second, .val (.ref a), .val (.int kd), .unset, .unset] [(.ref a)])) _
      refine XS.aconstNull X13.here hx rfl (hb hby at_148) ?_
      exact kt
    obtain ⟨cq18, kq18, qv18a, qv18b, qv18c⟩ := isOf hZ rfl E_a_i
    obtain ⟨_, _, ⟨T18, L18, k18, n18⟩, -, X18, ⟨Lc18, hQ18, l18, y18, z18⟩, st18⟩ := X13.virtualBack hx (y := (⟨"com/example/imprimatur/imprimatur/verify/HashTree", "equals", "(Ljava/lang/Object;)Z"⟩ : MethodName)) (z := (⟨"com/example/imprimatur/imprimatur/verify/HashTree", "equals", "(Ljava/lang/Object;)Z"⟩ : MethodName)) hown (mvT hZ (hw _ (List.mem_of_getElem? (i := 28) rfl))) (mvT hZ (hw _ (List.mem_of_getElem? (i := 29) rfl))) (notFace_of_selects (args := #[]) (mvT hZ (hw _ (List.mem_of_getElem? (i := 31) rfl)))) (mvT hZ (hw _ (List.mem_of_getElem? (i := 31) rfl))) (mvT hZ (hw _ (List.mem_of_getElem? (i := 30) rfl))) (by decide) (backOf (W := 0) (rmEqN l Z a0 hw [] a  T13.heap n0 Z_13 ) hZ (hw _ (List.mem_of_getElem? (i := 32) rfl)) (hw _ (List.mem_of_getElem? (i := 2) rfl)) (by decide) (by decide)) qv18a qv18c (g := (mkF m 149 #[.val (.int p0), .val (.int p1), .val (.long q2), .second, .val (.long q3), .second, .val (.long q4), .second, .val (.long q5), .second, .val (.int d1), .val (.int k1), .val (.int d2), .val (.int k2), .val (.long o2), .second, .val (.long s2), .second, .val (.ref a), .val (.int kd), .unset, .unset] [.null, (.ref a)])) rfl (by rw [hml]; rfl) (Steps.refl _) (argsL := [.null]) (rest := []) (lenOf pd_3 rfl) rfl (by show 2 * 0 + _ ≤ _; exact Nat.le_of_eq rfl) (hb hby at_149) (fun _ _ => ⟨rfl, rfl, (by decide : 1 + 0 ≤ _), (by decide : 4 + 0 ≤ _)⟩)
    dsimp only [Pt.U, Pt.locs, Pt.cells, Pt.slots] at X18 l18 y18 z18 st18 hQ18
    subst l18 y18 z18
    obtain ⟨rfl, Nq18, e18⟩ := hQ18
    have N18 := Fr.app N13 Nq18
    obtain ⟨fs, hr, hrun, hended, hW, hsame⟩ := X18.leave (v := some (.int (1 : Int32))) (fun h => by rw [Bd.returns] at h; cases h)
    refine ⟨_, _, pre0 _ (st1 _ (st2 _ (st3 _ (st4 _ (st5 _ (st6 _ (st7 _ (st8 _ (st9 _ (st10 _ (st11 _ (st12 _ (st13.trans (st14 _ (st15 _ (st16 _ (st17 _ (st18.trans ?_)))))))))))))))))), hrun, hended, _, _, rfl, ?_, ⟨_, rfl⟩, hW, hsame.mono (by decide) (by decide)⟩
    · show Steps p.tables e below (T18.setTop (mkF m 152 #[.val (.int p0), .val (.int p1), .val (.long q2), .second, .val (.long q3), .second, .val (.long q4), .second, .val (.long q5), .second, .val (.int d1), .val (.int k1), .val (.int d2), .val (.int k2), .val (.long o2), .second, .val (.long s2), .second, .val (.ref a), .val (.int kd), .unset, .unset] [(.int (0 : Int32))])) _
      refine XS.ifNo X18.here hx rfl (hb hby at_152) rfl ((if0 _ _).trans (teq (rfl : (0 : Int32) = (0 : Int32))).2) ?_
      show Steps p.tables e below (T18.setTop (mkF m 155 #[.val (.int p0), .val (.int p1), .val (.long q2), .second, .val (.long q3), .second, .val (.long q4), .second, .val (.long q5), .second, .val (.int d1), .val (.int k1), .val (.int d2), .val (.int k2), .val (.long o2), .second, .val (.long s2), .second, .val (.ref a), .val (.int kd), .unset, .unset] [])) _
      refine XS.iconst X18.here hx rfl (hb hby at_155) ?_
      show Steps p.tables e below (T18.setTop (mkF m 156 #[.val (.int p0), .val (.int p1), .val (.long q2), .second, .val (.long q3), .second, .val (.long q4), .second, .val (.long q5), .second, .val (.int d1), .val (.int k1), .val (.int d2), .val (.int k2), .val (.long o2), .second, .val (.long s2), .second, .val (.ref a), .val (.int kd), .unset, .unset] [(.int (1 : Int32))])) _
      refine XS.goto X18.here hx rfl (pc0 := 156) (pc' := 160) rfl (hb hby at_156) (by decide) (by decide) ?_
      show Steps p.tables e below (T18.setTop (mkF m 160 #[.val (.int p0), .val (.int p1), .val (.long q2), .second, .val (.long q3), .second, .val (.long q4), .second, .val (.long q5), .second, .val (.int d1), .val (.int k1), .val (.int d2), .val (.int k2), .val (.long o2), .second, .val (.long s2), .second, .val (.ref a), .val (.int kd), .unset, .unset] [(.int (1 : Int32))])) _
      exact retN X18 hx (t := .boolean) Bd.returns (by simp) (hb hby at_160) hr
    · show Q_rm0 Z p0 p1 q2 q3 q4 q5 ca cc val h0 n0 _ T18.heap _
      rw [e18]
      exact ⟨rfl, N18⟩
  · have st19 : ∀ target, Steps p.tables e below (T13.setTop (mkF m 161 #[.val (.int p0), .val (.int p1), .val (.long q2), .second, .val (.long q3), .second, .val (.long q4), .second, .val (.long q5), .second, .val (.int d1), .val (.int k1), .val (.int d2), .val (.int k2), .val (.long o2), .second, .val (.long s2), .second, .val (.ref a), .val (.int kd), .unset, .unset] [])) target → Steps p.tables e below (T13.setTop (mkF m 143 #[.val (.int p0), .val (.int p1), .val (.long q2), .second, .val (.long q3), .second, .val (.long q4), .second, .val (.long q5), .second, .val (.int d1), .val (.int k1), .val (.int d2), .val (.int k2), .val (.long o2), .second, .val (.long s2), .second, .val (.ref a), .val (.int kd), .unset, .unset] [(.int (1 : Int32)), (.int kd)])) target := by
      intro target kt
      show Steps p.tables e below (T13.setTop (mkF m 143 #[.val (.int p0), .val (.int p1), .val (.long q2), .second, .val (.long q3), .second, .val (.long q4), .second, .val (.long q5), .second, .val (.int d1), .val (.int k1), .val (.int d2), .val (.int k2), .val (.long o2), .second, .val (.long s2), .second, .val (.ref a), .val (.int kd), .unset, .unset] [(.int (1 : Int32)), (.int kd)])) _
      refine XS.icmpYes X13.here hx rfl (pc0 := 143) (pc' := 161) rfl (hb hby at_143) rfl (feq hc143).2 (by decide) (by decide) ?_
      exact kt
    have st20 : ∀ target, Steps p.tables e below (T13.setTop (mkF m 164 #[.val (.int p0), .val (.int p1), .val (.long q2), .second, .val (.long q3), .second, .val (.long q4), .second, .val (.long q5), .second, .val (.int d1), .val (.int k1), .val (.int d2), .val (.int k2), .val (.long o2), .second, .val (.long s2), .second, .val (.ref a), .val (.int kd), .unset, .unset] [(.int (2 : Int32)), (.int kd)])) target → Steps p.tables e below (T13.setTop (mkF m 161 #[.val (.int p0), .val (.int p1), .val (.long q2), .second, .val (.long q3), .second, .val (.long q4), .second, .val (.long q5), .second, .val (.int d1), .val (.int k1), .val (.int d2), .val (.int k2), .val (.long o2), .second, .val (.long s2), .second, .val (.ref a), .val (.int kd), .unset, .unset] [])) target := by
      intro target kt
      show Steps p.tables e below (T13.setTop (mkF m 161 #[.val (.int p0), .val (.int p1), .val (.long q2), .second, .val (.long q3), .second, .val (.long q4), .second, .val (.long q5), .second, .val (.int d1), .val (.int k1), .val (.int d2), .val (.int k2), .val (.long o2), .second, .val (.long s2), .second, .val (.ref a), .val (.int kd), .unset, .unset] [])) _
      refine XS.iload X13.here hx rfl (hb hby at_161) rfl ?_
      show Steps p.tables e below (T13.setTop (mkF m 163 #[.val (.int p0), .val (.int p1), .val (.long q2), .second, .val (.long q3), .second, .val (.long q4), .second, .val (.long q5), .second, .val (.int d1), .val (.int k1), .val (.int d2), .val (.int k2), .val (.long o2), .second, .val (.long s2), .second, .val (.ref a), .val (.int kd), .unset, .unset] [(.int kd)])) _
      refine XS.iconst X13.here hx rfl (hb hby at_163) ?_
      exact kt
    by_cases hc164 : kd = (2 : Int32)
    · have st21 : ∀ target, Steps p.tables e below (T13.setTop (mkF m 167 #[.val (.int p0), .val (.int p1), .val (.long q2), .second, .val (.long q3), .second, .val (.long q4), .second, .val (.long q5), .second, .val (.int d1), .val (.int k1), .val (.int d2), .val (.int k2), .val (.long o2), .second, .val (.long s2), .second, .val (.ref a), .val (.int kd), .unset, .unset] [])) target → Steps p.tables e below (T13.setTop (mkF m 164 #[.val (.int p0), .val (.int p1), .val (.long q2), .second, .val (.long q3), .second, .val (.long q4), .second, .val (.long q5), .second, .val (.int d1), .val (.int k1), .val (.int d2), .val (.int k2), .val (.long o2), .second, .val (.long s2), .second, .val (.ref a), .val (.int kd), .unset, .unset] [(.int (2 : Int32)), (.int kd)])) target := by
        intro target kt
        show Steps p.tables e below (T13.setTop (mkF m 164 #[.val (.int p0), .val (.int p1), .val (.long q2), .second, .val (.long q3), .second, .val (.long q4), .second, .val (.long q5), .second, .val (.int d1), .val (.int k1), .val (.int d2), .val (.int k2), .val (.long o2), .second, .val (.long s2), .second, .val (.ref a), .val (.int kd), .unset, .unset] [(.int (2 : Int32)), (.int kd)])) _
        refine XS.icmpNo X13.here hx rfl (hb hby at_164) rfl (teq hc164).2 ?_
        exact kt
      have st22 : ∀ target, Steps p.tables e below (T13.setTop (mkF m 171 #[.val (.int p0), .val (.int p1), .val (.long q2), .second, .val (.long q3), .second, .val (.long q4), .second, .val (.long q5), .second, .val (.int d1), .val (.int k1), .val (.int d2), .val (.int k2), .val (.long o2), .second, .val (.long s2), .second, .val (.ref a), .val (.int kd), .unset, .unset] [(.ref a), (.ref a)])) target → Steps p.tables e below (T13.setTop (mkF m 167 #[.val (.int p0), .val (.int p1), .val (.long q2), .second, .val (.long q3), .second, .val (.long q4), .second, .val (.long q5), .second, .val (.int d1), .val (.int k1), .val (.int d2), .val (.int k2), .val (.long o2), .second, .val (.long s2), .second, .val (.ref a), .val (.int kd), .unset, .unset] [])) target := by
        intro target kt
        show Steps p.tables e below (T13.setTop (mkF m 167 #[.val (.int p0), .val (.int p1), .val (.long q2), .second, .val (.long q3), .second, .val (.long q4), .second, .val (.long q5), .second, .val (.int d1), .val (.int k1), .val (.int d2), .val (.int k2), .val (.long o2), .second, .val (.long s2), .second, .val (.ref a), .val (.int kd), .unset, .unset] [])) _
        refine XS.aload X13.here hx rfl (hb hby at_167) rfl rfl ?_
        show Steps p.tables e below (T13.setTop (mkF m 169 #[.val (.int p0), .val (.int p1), .val (.long q2), .second, .val (.long q3), .second, .val (.long q4), .second, .val (.long q5), .second, .val (.int d1), .val (.int k1), .val (.int d2), .val (.int k2), .val (.long o2), .second, .val (.long s2), .second, .val (.ref a), .val (.int kd), .unset, .unset] [(.ref a)])) _
        refine XS.aload X13.here hx rfl (hb hby at_169) rfl rfl ?_
        exact kt
      obtain ⟨cq23, kq23, qv23a, qv23b, qv23c⟩ := isOf hZ rfl E_a_i
      obtain ⟨_, _, ⟨T23, L23, k23, n23⟩, -, X23, ⟨Lc23, hQ23, l23, y23, z23⟩, st23⟩ := X13.virtualBack hx (y := (⟨"com/example/imprimatur/imprimatur/verify/HashTree", "equals", "(Ljava/lang/Object;)Z"⟩ : MethodName)) (z := (⟨"com/example/imprimatur/imprimatur/verify/HashTree", "equals", "(Ljava/lang/Object;)Z"⟩ : MethodName)) hown (mvT hZ (hw _ (List.mem_of_getElem? (i := 28) rfl))) (mvT hZ (hw _ (List.mem_of_getElem? (i := 29) rfl))) (notFace_of_selects (args := #[]) (mvT hZ (hw _ (List.mem_of_getElem? (i := 31) rfl)))) (mvT hZ (hw _ (List.mem_of_getElem? (i := 31) rfl))) (mvT hZ (hw _ (List.mem_of_getElem? (i := 30) rfl))) (by decide) (backOf (W := 0) (rmEq l Z a0 hw [] a a d1 k1 q2 q3 d1 k1 q2 q3 T13.heap n0 Z_13 E_a_i F_dataBlockSize_a_i F_hashBlockSize_a_i F_treeOffset_a_i F_treeSize_a_i F_dataBlockSize_a_i F_hashBlockSize_a_i F_treeOffset_a_i F_treeSize_a_i) hZ (hw _ (List.mem_of_getElem? (i := 32) rfl)) (hw _ (List.mem_of_getElem? (i := 2) rfl)) (by decide) (by decide)) qv23a qv23c (g := (mkF m 171 #[.val (.int p0), .val (.int p1), .val (.long q2), .second, .val (.long q3), .second, .val (.long q4), .second, .val (.long q5), .second, .val (.int d1), .val (.int k1), .val (.int d2), .val (.int k2), .val (.long o2), .second, .val (.long s2), .second, .val (.ref a), .val (.int kd), .unset, .unset] [(.ref a), (.ref a)])) rfl (by rw [hml]; rfl) (Steps.refl _) (argsL := [(.ref a)]) (rest := []) (lenOf pd_3 rfl) rfl (by show 2 * 0 + _ ≤ _; exact Nat.le_of_eq rfl) (hb hby at_171) (fun _ _ => ⟨rfl, rfl, (by decide : 1 + 0 ≤ _), (by decide : 4 + 0 ≤ _)⟩)
      dsimp only [Pt.U, Pt.locs, Pt.cells, Pt.slots] at X23 l23 y23 z23 st23 hQ23
      subst l23 y23 z23
      obtain ⟨rfl, Nq23, e23⟩ := hQ23
      have N23 := Fr.app N13 Nq23
      have eqq : own_eq d1 k1 q2 q3 d1 k1 q2 q3 = 1 := by rw [own_eq, if_pos rfl, if_pos rfl, if_pos rfl, if_pos rfl]
      rw [eqq] at st23
      obtain ⟨fs, hr, hrun, hended, hW, hsame⟩ := X23.leave (v := some (.int (1 : Int32))) (fun h => by rw [Bd.returns] at h; cases h)
      refine ⟨_, _, pre0 _ (st1 _ (st2 _ (st3 _ (st4 _ (st5 _ (st6 _ (st7 _ (st8 _ (st9 _ (st10 _ (st11 _ (st12 _ (st13.trans (st14 _ (st15 _ (st19 _ (st20 _ (st21 _ (st22 _ (st23.trans ?_)))))))))))))))))))), hrun, hended, _, _, rfl, ?_, ⟨_, rfl⟩, hW, hsame.mono (by decide) (by decide)⟩
      · show Steps p.tables e below (T23.setTop (mkF m 174 #[.val (.int p0), .val (.int p1), .val (.long q2), .second, .val (.long q3), .second, .val (.long q4), .second, .val (.long q5), .second, .val (.int d1), .val (.int k1), .val (.int d2), .val (.int k2), .val (.long o2), .second, .val (.long s2), .second, .val (.ref a), .val (.int kd), .unset, .unset] [(.int (1 : Int32))])) _
        exact retN X23 hx (t := .boolean) Bd.returns (by simp) (hb hby at_174) hr
      · show Q_rm0 Z p0 p1 q2 q3 q4 q5 ca cc val h0 n0 _ T23.heap _
        rw [e23]
        exact ⟨rfl, N23⟩
    · have st24 : ∀ target, Steps p.tables e below (T13.setTop (mkF m 175 #[.val (.int p0), .val (.int p1), .val (.long q2), .second, .val (.long q3), .second, .val (.long q4), .second, .val (.long q5), .second, .val (.int d1), .val (.int k1), .val (.int d2), .val (.int k2), .val (.long o2), .second, .val (.long s2), .second, .val (.ref a), .val (.int kd), .unset, .unset] [])) target → Steps p.tables e below (T13.setTop (mkF m 164 #[.val (.int p0), .val (.int p1), .val (.long q2), .second, .val (.long q3), .second, .val (.long q4), .second, .val (.long q5), .second, .val (.int d1), .val (.int k1), .val (.int d2), .val (.int k2), .val (.long o2), .second, .val (.long s2), .second, .val (.ref a), .val (.int kd), .unset, .unset] [(.int (2 : Int32)), (.int kd)])) target := by
        intro target kt
        show Steps p.tables e below (T13.setTop (mkF m 164 #[.val (.int p0), .val (.int p1), .val (.long q2), .second, .val (.long q3), .second, .val (.long q4), .second, .val (.long q5), .second, .val (.int d1), .val (.int k1), .val (.int d2), .val (.int k2), .val (.long o2), .second, .val (.long s2), .second, .val (.ref a), .val (.int kd), .unset, .unset] [(.int (2 : Int32)), (.int kd)])) _
        refine XS.icmpYes X13.here hx rfl (pc0 := 164) (pc' := 175) rfl (hb hby at_164) rfl (feq hc164).2 (by decide) (by decide) ?_
        exact kt
      have st25 : ∀ target, Steps p.tables e below (T13.setTop (mkF m 178 #[.val (.int p0), .val (.int p1), .val (.long q2), .second, .val (.long q3), .second, .val (.long q4), .second, .val (.long q5), .second, .val (.int d1), .val (.int k1), .val (.int d2), .val (.int k2), .val (.long o2), .second, .val (.long s2), .second, .val (.ref a), .val (.int kd), .unset, .unset] [(.int (3 : Int32)), (.int kd)])) target → Steps p.tables e below (T13.setTop (mkF m 175 #[.val (.int p0), .val (.int p1), .val (.long q2), .second, .val (.long q3), .second, .val (.long q4), .second, .val (.long q5), .second, .val (.int d1), .val (.int k1), .val (.int d2), .val (.int k2), .val (.long o2), .second, .val (.long s2), .second, .val (.ref a), .val (.int kd), .unset, .unset] [])) target := by
        intro target kt
        show Steps p.tables e below (T13.setTop (mkF m 175 #[.val (.int p0), .val (.int p1), .val (.long q2), .second, .val (.long q3), .second, .val (.long q4), .second, .val (.long q5), .second, .val (.int d1), .val (.int k1), .val (.int d2), .val (.int k2), .val (.long o2), .second, .val (.long s2), .second, .val (.ref a), .val (.int kd), .unset, .unset] [])) _
        refine XS.iload X13.here hx rfl (hb hby at_175) rfl ?_
        show Steps p.tables e below (T13.setTop (mkF m 177 #[.val (.int p0), .val (.int p1), .val (.long q2), .second, .val (.long q3), .second, .val (.long q4), .second, .val (.long q5), .second, .val (.int d1), .val (.int k1), .val (.int d2), .val (.int k2), .val (.long o2), .second, .val (.long s2), .second, .val (.ref a), .val (.int kd), .unset, .unset] [(.int kd)])) _
        refine XS.iconst X13.here hx rfl (hb hby at_177) ?_
        exact kt
      by_cases hc178 : kd = (3 : Int32)
      · have st26 : ∀ target, Steps p.tables e below (T13.setTop (mkF m 181 #[.val (.int p0), .val (.int p1), .val (.long q2), .second, .val (.long q3), .second, .val (.long q4), .second, .val (.long q5), .second, .val (.int d1), .val (.int k1), .val (.int d2), .val (.int k2), .val (.long o2), .second, .val (.long s2), .second, .val (.ref a), .val (.int kd), .unset, .unset] [])) target → Steps p.tables e below (T13.setTop (mkF m 178 #[.val (.int p0), .val (.int p1), .val (.long q2), .second, .val (.long q3), .second, .val (.long q4), .second, .val (.long q5), .second, .val (.int d1), .val (.int k1), .val (.int d2), .val (.int k2), .val (.long o2), .second, .val (.long s2), .second, .val (.ref a), .val (.int kd), .unset, .unset] [(.int (3 : Int32)), (.int kd)])) target := by
          intro target kt
          show Steps p.tables e below (T13.setTop (mkF m 178 #[.val (.int p0), .val (.int p1), .val (.long q2), .second, .val (.long q3), .second, .val (.long q4), .second, .val (.long q5), .second, .val (.int d1), .val (.int k1), .val (.int d2), .val (.int k2), .val (.long o2), .second, .val (.long s2), .second, .val (.ref a), .val (.int kd), .unset, .unset] [(.int (3 : Int32)), (.int kd)])) _
          refine XS.icmpNo X13.here hx rfl (hb hby at_178) rfl (teq hc178).2 ?_
          exact kt
        have st27 : ∀ target, Steps p.tables e below (T13.setTop (mkF m 184 #[.val (.int p0), .val (.int p1), .val (.long q2), .second, .val (.long q3), .second, .val (.long q4), .second, .val (.long q5), .second, .val (.int d1), .val (.int k1), .val (.int d2), .val (.int k2), .val (.long o2), .second, .val (.long s2), .second, .val (.ref a), .val (.int kd), .unset, .unset] [(.long q2), (.ref a)])) target → Steps p.tables e below (T13.setTop (mkF m 181 #[.val (.int p0), .val (.int p1), .val (.long q2), .second, .val (.long q3), .second, .val (.long q4), .second, .val (.long q5), .second, .val (.int d1), .val (.int k1), .val (.int d2), .val (.int k2), .val (.long o2), .second, .val (.long s2), .second, .val (.ref a), .val (.int kd), .unset, .unset] [])) target := by
          intro target kt
          show Steps p.tables e below (T13.setTop (mkF m 181 #[.val (.int p0), .val (.int p1), .val (.long q2), .second, .val (.long q3), .second, .val (.long q4), .second, .val (.long q5), .second, .val (.int d1), .val (.int k1), .val (.int d2), .val (.int k2), .val (.long o2), .second, .val (.long s2), .second, .val (.ref a), .val (.int kd), .unset, .unset] [])) _
          refine XS.aload X13.here hx rfl (hb hby at_181) rfl rfl ?_
          show Steps p.tables e below (T13.setTop (mkF m 183 #[.val (.int p0), .val (.int p1), .val (.long q2), .second, .val (.long q3), .second, .val (.long q4), .second, .val (.long q5), .second, .val (.int d1), .val (.int k1), .val (.int d2), .val (.int k2), .val (.long o2), .second, .val (.long s2), .second, .val (.ref a), .val (.int kd), .unset, .unset] [(.ref a)])) _
          refine XS.lloadN X13.here hx rfl (hb hby at_183) rfl ?_
          exact kt
        obtain ⟨_, _, ⟨T28, L28, k28, n28⟩, -, X28, ⟨Lc28, hQ28, l28, y28, z28⟩, st28⟩ := Jvm.LawKit.callS X13 hx (y := (⟨"java/lang/Long", "valueOf", "(J)Ljava/lang/Long;"⟩ : MethodName)) hown (mvT hZ (hw _ (List.mem_of_getElem? (i := 35) rfl))) (mvT hZ (hw _ (List.mem_of_getElem? (i := 36) rfl))) (mvT hZ (hw _ (List.mem_of_getElem? (i := 37) rfl))) (mvT hZ (hw _ (List.mem_of_getElem? (i := 38) rfl))) (by decide) (backOf (W := 1) (rm6 l Z a0 hw [] q2 ca cc val T13.heap n0 Z_13 Bx Od_13 S_c) hZ (hw _ (List.mem_of_getElem? (i := 38) rfl)) (hw _ (List.mem_of_getElem? (i := 37) rfl)) (by decide) (by decide)) (g := (mkF m 184 #[.val (.int p0), .val (.int p1), .val (.long q2), .second, .val (.long q3), .second, .val (.long q4), .second, .val (.long q5), .second, .val (.int d1), .val (.int k1), .val (.int d2), .val (.int k2), .val (.long o2), .second, .val (.long s2), .second, .val (.ref a), .val (.int kd), .unset, .unset] [(.long q2), (.ref a)])) rfl (by rw [hml]; rfl) (argsL := [(.long q2)]) (rest := [(.ref a)]) (lenOf pd_4 rfl) rfl (by show 2 * 0 + _ ≤ _; exact Nat.le_of_eq rfl) (hb hby at_184) (fun _ _ => ⟨rfl, rfl, (by decide : 1 + 1 ≤ _), (by decide : 4 + 1 ≤ _)⟩)
        dsimp only [Pt.U, Pt.locs, Pt.cells, Pt.slots] at X28 l28 y28 z28 st28 hQ28
        subst l28 y28 z28
        obtain ⟨t28, rfl, Nq28, K28, Et28⟩ := hQ28
        have N28 := Fr.app N13 Nq28
        have Od_28 := Od_13.keep K28 (all0)
        have E_a_i_28 := E_a_i.keep K28
        have F_dataBlockSize_a_i_28 := F_dataBlockSize_a_i.keep K28 nin0
        have F_hashBlockSize_a_i_28 := F_hashBlockSize_a_i.keep K28 nin0
        have F_treeOffset_a_i_28 := F_treeOffset_a_i.keep K28 nin0
        have F_treeSize_a_i_28 := F_treeSize_a_i.keep K28 nin0
        have Z_28 : n0 ≤ T28.heap.size := Nat.le_trans Z_13 K28.1
        obtain ⟨cq29, kq29, qv29a, qv29b, qv29c⟩ := isOf hZ rfl E_a_i_28
        obtain ⟨_, _, ⟨T29, L29, k29, n29⟩, -, X29, ⟨Lc29, hQ29, l29, y29, z29⟩, st29⟩ := X28.virtualBack hx (y := (⟨"com/example/imprimatur/imprimatur/verify/HashTree", "equals", "(Ljava/lang/Object;)Z"⟩ : MethodName)) (z := (⟨"com/example/imprimatur/imprimatur/verify/HashTree", "equals", "(Ljava/lang/Object;)Z"⟩ : MethodName)) hown (mvT hZ (hw _ (List.mem_of_getElem? (i := 28) rfl))) (mvT hZ (hw _ (List.mem_of_getElem? (i := 29) rfl))) (notFace_of_selects (args := #[]) (mvT hZ (hw _ (List.mem_of_getElem? (i := 31) rfl)))) (mvT hZ (hw _ (List.mem_of_getElem? (i := 31) rfl))) (mvT hZ (hw _ (List.mem_of_getElem? (i := 30) rfl))) (by decide) (backOf (W := 0) (rmEqL l Z a0 hw [] a t28  T28.heap n0 Z_28 Et28) hZ (hw _ (List.mem_of_getElem? (i := 32) rfl)) (hw _ (List.mem_of_getElem? (i := 2) rfl)) (by decide) (by decide)) qv29a qv29c (g := (mkF m 187 #[.val (.int p0), .val (.int p1), .val (.long q2), .second, .val (.long q3), .second, .val (.long q4), .second, .val (.long q5), .second, .val (.int d1), .val (.int k1), .val (.int d2), .val (.int k2), .val (.long o2), .second, .val (.long s2), .second, .val (.ref a), .val (.int kd), .unset, .unset] [(.ref t28), (.ref a)])) rfl (by rw [hml]; rfl) (Steps.refl _) (argsL := [(.ref t28)]) (rest := []) (lenOf pd_3 rfl) rfl (by show 2 * 0 + _ ≤ _; exact Nat.le_of_eq rfl) (hb hby at_187) (fun _ _ => ⟨rfl, rfl, (by decide : 2 + 0 ≤ _), (by decide : 5 + 0 ≤ _)⟩)
        dsimp only [Pt.U, Pt.locs, Pt.cells, Pt.slots] at X29 l29 y29 z29 st29 hQ29
        subst l29 y29 z29
        obtain ⟨rfl, Nq29, e29⟩ := hQ29
        have N29 := Fr.app N28 Nq29
        obtain ⟨fs, hr, hrun, hended, hW, hsame⟩ := X29.leave (v := some (.int (1 : Int32))) (fun h => by rw [Bd.returns] at h; cases h)
        refine ⟨_, _, pre0 _ (st1 _ (st2 _ (st3 _ (st4 _ (st5 _ (st6 _ (st7 _ (st8 _ (st9 _ (st10 _ (st11 _ (st12 _ (st13.trans (st14 _ (st15 _ (st19 _ (st20 _ (st24 _ (st25 _ (st26 _ (st27 _ (st28 _ (st29.trans ?_))))))))))))))))))))))), hrun, hended, _, _, rfl, ?_, ⟨_, rfl⟩, hW, hsame.mono (by decide) (by decide)⟩
        · show Steps p.tables e below (T29.setTop (mkF m 190 #[.val (.int p0), .val (.int p1), .val (.long q2), .second, .val (.long q3), .second, .val (.long q4), .second, .val (.long q5), .second, .val (.int d1), .val (.int k1), .val (.int d2), .val (.int k2), .val (.long o2), .second, .val (.long s2), .second, .val (.ref a), .val (.int kd), .unset, .unset] [(.int (0 : Int32))])) _
          refine XS.ifNo X29.here hx rfl (hb hby at_190) rfl ((if0 _ _).trans (teq (rfl : (0 : Int32) = (0 : Int32))).2) ?_
          show Steps p.tables e below (T29.setTop (mkF m 193 #[.val (.int p0), .val (.int p1), .val (.long q2), .second, .val (.long q3), .second, .val (.long q4), .second, .val (.long q5), .second, .val (.int d1), .val (.int k1), .val (.int d2), .val (.int k2), .val (.long o2), .second, .val (.long s2), .second, .val (.ref a), .val (.int kd), .unset, .unset] [])) _
          refine XS.iconst X29.here hx rfl (hb hby at_193) ?_
          show Steps p.tables e below (T29.setTop (mkF m 194 #[.val (.int p0), .val (.int p1), .val (.long q2), .second, .val (.long q3), .second, .val (.long q4), .second, .val (.long q5), .second, .val (.int d1), .val (.int k1), .val (.int d2), .val (.int k2), .val (.long o2), .second, .val (.long s2), .second, .val (.ref a), .val (.int kd), .unset, .unset] [(.int (1 : Int32))])) _
          refine XS.goto X29.here hx rfl (pc0 := 194) (pc' := 198) rfl (hb hby at_194) (by decide) (by decide) ?_
          show Steps p.tables e below (T29.setTop (mkF m 198 #[.val (.int p0), .val (.int p1), .val (.long q2), .second, .val (.long q3), .second, .val (.long q4), .second, .val (.long q5), .second, .val (.int d1), .val (.int k1), .val (.int d2), .val (.int k2), .val (.long o2), .second, .val (.long s2), .second, .val (.ref a), .val (.int kd), .unset, .unset] [(.int (1 : Int32))])) _
          exact retN X29 hx (t := .boolean) Bd.returns (by simp) (hb hby at_198) hr
        · show Q_rm0 Z p0 p1 q2 q3 q4 q5 ca cc val h0 n0 _ T29.heap _
          rw [e29]
          exact ⟨rfl, N29⟩
      · have st30 : ∀ target, Steps p.tables e below (T13.setTop (mkF m 199 #[.val (.int p0), .val (.int p1), .val (.long q2), .second, .val (.long q3), .second, .val (.long q4), .second, .val (.long q5), .second, .val (.int d1), .val (.int k1), .val (.int d2), .val (.int k2), .val (.long o2), .second, .val (.long s2), .second, .val (.ref a), .val (.int kd), .unset, .unset] [])) target → Steps p.tables e below (T13.setTop (mkF m 178 #[.val (.int p0), .val (.int p1), .val (.long q2), .second, .val (.long q3), .second, .val (.long q4), .second, .val (.long q5), .second, .val (.int d1), .val (.int k1), .val (.int d2), .val (.int k2), .val (.long o2), .second, .val (.long s2), .second, .val (.ref a), .val (.int kd), .unset, .unset] [(.int (3 : Int32)), (.int kd)])) target := by
          intro target kt
          show Steps p.tables e below (T13.setTop (mkF m 178 #[.val (.int p0), .val (.int p1), .val (.long q2), .second, .val (.long q3), .second, .val (.long q4), .second, .val (.long q5), .second, .val (.int d1), .val (.int k1), .val (.int d2), .val (.int k2), .val (.long o2), .second, .val (.long s2), .second, .val (.ref a), .val (.int kd), .unset, .unset] [(.int (3 : Int32)), (.int kd)])) _
          refine XS.icmpYes X13.here hx rfl (pc0 := 178) (pc' := 199) rfl (hb hby at_178) rfl (feq hc178).2 (by decide) (by decide) ?_
          exact kt
        obtain ⟨T31, h31, X31, e31, E31, A31, D31, -, st31⟩ := newO X13 hx hZ hown (hw _ (List.mem_of_getElem? (i := 0) rfl)) (hw _ (List.mem_of_getElem? (i := 1) rfl)) (hw _ (List.mem_of_getElem? (i := 2) rfl)) rfl (g := (mkF m 199 #[.val (.int p0), .val (.int p1), .val (.long q2), .second, .val (.long q3), .second, .val (.long q4), .second, .val (.long q5), .second, .val (.int d1), .val (.int k1), .val (.int d2), .val (.int k2), .val (.long o2), .second, .val (.long s2), .second, .val (.ref a), .val (.int kd), .unset, .unset] [])) rfl (hb hby at_199) (by decide) (by decide)
        obtain ⟨b, g31⟩ : ∃ z, z = T13.heap.size := ⟨_, rfl⟩
        rw [← g31] at A31 D31 st31
        have g_b : n0 ≤ b := Nat.le_trans Z_13 (Nat.le_of_eq g31.symm)
        have ne_a_b : a ≠ b := Nat.ne_of_lt (Nat.lt_of_lt_of_le E_a_i.lt (Nat.le_of_eq g31.symm))
        have Od_31 := Od_13.ext E31
        have E_a_i_31 := E_a_i.ext E31
        have F_dataBlockSize_a_i_31 := F_dataBlockSize_a_i.ext E31
        have F_hashBlockSize_a_i_31 := F_hashBlockSize_a_i.ext E31
        have F_treeOffset_a_i_31 := F_treeOffset_a_i.ext E31
        have F_treeSize_a_i_31 := F_treeSize_a_i.ext E31
        have Z_31 : n0 ≤ h31.size := Nat.le_trans Z_13 E31.1
        have E_b : Exa Z h31 b "com/example/imprimatur/imprimatur/verify/HashTree" := A31
        have F_dataBlockSize_b : Fld Z h31 b "com/example/imprimatur/imprimatur/verify/HashTree" "dataBlockSize" "I" (.int (0 : Int32)) := D31 (Or.inr (hw _ (List.mem_of_getElem? (i := 21) rfl))) (ty := .int) (by decide)
        have F_hashBlockSize_b : Fld Z h31 b "com/example/imprimatur/imprimatur/verify/HashTree" "hashBlockSize" "I" (.int (0 : Int32)) := D31 (Or.inr (hw _ (List.mem_of_getElem? (i := 23) rfl))) (ty := .int) (by decide)
        have F_treeOffset_b : Fld Z h31 b "com/example/imprimatur/imprimatur/verify/HashTree" "treeOffset" "J" (.long (0 : Int64)) := D31 (Or.inr (hw _ (List.mem_of_getElem? (i := 25) rfl))) (ty := .long) (by decide)
        have F_treeSize_b : Fld Z h31 b "com/example/imprimatur/imprimatur/verify/HashTree" "treeSize" "J" (.long (0 : Int64)) := D31 (Or.inr (hw _ (List.mem_of_getElem? (i := 27) rfl))) (ty := .long) (by decide)
        have st32 : ∀ target, Steps p.tables e below (T31.setTop (mkF m 211 #[.val (.int p0), .val (.int p1), .val (.long q2), .second, .val (.long q3), .second, .val (.long q4), .second, .val (.long q5), .second, .val (.int d1), .val (.int k1), .val (.int d2), .val (.int k2), .val (.long o2), .second, .val (.long s2), .second, .val (.ref a), .val (.int kd), .unset, .unset] [(.long s2), (.long o2), (.int k2), (.int d2), (.ref b), (.ref b)])) target → Steps p.tables e below (T31.setTop (mkF m 202 #[.val (.int p0), .val (.int p1), .val (.long q2), .second, .val (.long q3), .second, .val (.long q4), .second, .val (.long q5), .second, .val (.int d1), .val (.int k1), .val (.int d2), .val (.int k2), .val (.long o2), .second, .val (.long s2), .second, .val (.ref a), .val (.int kd), .unset, .unset] [(.ref b)])) target := by
          intro target kt
          show Steps p.tables e below (T31.setTop (mkF m 202 #[.val (.int p0), .val (.int p1), .val (.long q2), .second, .val (.long q3), .second, .val (.long q4), .second, .val (.long q5), .second, .val (.int d1), .val (.int k1), .val (.int d2), .val (.int k2), .val (.long o2), .second, .val (.long s2), .second, .val (.ref a), .val (.int kd), .unset, .unset] [(.ref b)])) _
          refine XS.dup X31.here hx rfl (hb hby at_202) rfl rfl ?_
          show Steps p.tables e below (T31.setTop (mkF m 203 #[.val (.int p0), .val (.int p1), .val (.long q2), .second, .val (.long q3), .second, .val (.long q4), .second, .val (.long q5), .second, .val (.int d1), .val (.int k1), .val (.int d2), .val (.int k2), .val (.long o2), .second, .val (.long s2), .second, .val (.ref a), .val (.int kd), .unset, .unset] [(.ref b), (.ref b)])) _
          refine XS.iload X31.here hx rfl (hb hby at_203) rfl ?_
          show Steps p.tables e below (T31.setTop (mkF m 205 #[.val (.int p0), .val (.int p1), .val (.long q2), .second, .val (.long q3), .second, .val (.long q4), .second, .val (.long q5), .second, .val (.int d1), .val (.int k1), .val (.int d2), .val (.int k2), .val (.long o2), .second, .val (.long s2), .second, .val (.ref a), .val (.int kd), .unset, .unset] [(.int d2), (.ref b), (.ref b)])) _
          refine XS.iload X31.here hx rfl (hb hby at_205) rfl ?_
          show Steps p.tables e below (T31.setTop (mkF m 207 #[.val (.int p0), .val (.int p1), .val (.long q2), .second, .val (.long q3), .second, .val (.long q4), .second, .val (.long q5), .second, .val (.int d1), .val (.int k1), .val (.int d2), .val (.int k2), .val (.long o2), .second, .val (.long s2), .second, .val (.ref a), .val (.int kd), .unset, .unset] [(.int k2), (.int d2), (.ref b), (.ref b)])) _
          refine XS.lload X31.here hx rfl (hb hby at_207) rfl ?_
          show Steps p.tables e below (T31.setTop (mkF m 209 #[.val (.int p0), .val (.int p1), .val (.long q2), .second, .val (.long q3), .second, .val (.long q4), .second, .val (.long q5), .second, .val (.int d1), .val (.int k1), .val (.int d2), .val (.int k2), .val (.long o2), .second, .val (.long s2), .second, .val (.ref a), .val (.int kd), .unset, .unset] [(.long o2), (.int k2), (.int d2), (.ref b), (.ref b)])) _
          refine XS.lload X31.here hx rfl (hb hby at_209) rfl ?_
          exact kt
        obtain ⟨_, _, ⟨T33, L33, k33, n33⟩, -, X33, ⟨Lc33, hQ33, l33, y33, z33⟩, st33⟩ := X31.specialBack hx (y := (⟨"com/example/imprimatur/imprimatur/verify/HashTree", "<init>", "(IIJJ)V"⟩ : MethodName)) rfl hown (mvT hZ (hw _ (List.mem_of_getElem? (i := 3) rfl))) (mvT hZ (hw _ (List.mem_of_getElem? (i := 4) rfl))) (mvT hZ (hw _ (List.mem_of_getElem? (i := 5) rfl))) (by decide) (backOf (W := 1) (rm1 l Z a0 hw [] b d2 k2 o2 s2  h31 n0 Z_31 F_dataBlockSize_b F_hashBlockSize_b F_treeOffset_b F_treeSize_b E_b g_b G3 G4) hZ (hw _ (List.mem_of_getElem? (i := 5) rfl)) (hw _ (List.mem_of_getElem? (i := 2) rfl)) (by decide) (by decide)) (g := (mkF m 211 #[.val (.int p0), .val (.int p1), .val (.long q2), .second, .val (.long q3), .second, .val (.long q4), .second, .val (.long q5), .second, .val (.int d1), .val (.int k1), .val (.int d2), .val (.int k2), .val (.long o2), .second, .val (.long s2), .second, .val (.ref a), .val (.int kd), .unset, .unset] [(.long s2), (.long o2), (.int k2), (.int d2), (.ref b), (.ref b)])) rfl (by rw [hml]; rfl) (Steps.refl _) (a := b) (argsL := [(.int d2), (.int k2), (.long o2), (.long s2)]) (rest := [(.ref b)]) (lenOf pd_0 rfl) rfl (by show 2 * 0 + _ ≤ _; exact Nat.le_of_eq rfl) (hb hby at_211) (fun _ _ => ⟨rfl, e31, (by decide : 2 + 0 ≤ _), (by decide : 8 + 0 ≤ _)⟩)
        dsimp only [Pt.U, Pt.locs, Pt.cells, Pt.slots] at X33 l33 y33 z33 st33 hQ33
        subst l33 y33 z33
        obtain ⟨rfl, Nq33, K33, E_b_i, F_dataBlockSize_b_i, F_hashBlockSize_b_i, F_treeOffset_b_i, F_treeSize_b_i⟩ := hQ33
        have N33 := Fr.app N13 Nq33
        have Od_33 := Od_31.keep K33 (allS g_b (all0))
        have E_a_i_33 := E_a_i_31.keep K33
        have F_dataBlockSize_a_i_33 := F_dataBlockSize_a_i_31.keep K33 (ninS ne_a_b nin0)
        have F_hashBlockSize_a_i_33 := F_hashBlockSize_a_i_31.keep K33 (ninS ne_a_b nin0)
        have F_treeOffset_a_i_33 := F_treeOffset_a_i_31.keep K33 (ninS ne_a_b nin0)
        have F_treeSize_a_i_33 := F_treeSize_a_i_31.keep K33 (ninS ne_a_b nin0)
        have E_b_33 := E_b.keep K33
        have Z_33 : n0 ≤ T33.heap.size := Nat.le_trans Z_31 K33.1
        have st34 : ∀ target, Steps p.tables e below (T33.setTop (mkF m 216 #[.val (.int p0), .val (.int p1), .val (.long q2), .second, .val (.long q3), .second, .val (.long q4), .second, .val (.long q5), .second, .val (.int d1), .val (.int k1), .val (.int d2), .val (.int k2), .val (.long o2), .second, .val (.long s2), .second, .val (.ref a), .val (.int kd), .val (.ref b), .unset] [])) target → Steps p.tables e below (T33.setTop (mkF m 214 #[.val (.int p0), .val (.int p1), .val (.long q2), .second, .val (.long q3), .second, .val (.long q4), .second, .val (.long q5), .second, .val (.int d1), .val (.int k1), .val (.int d2), .val (.int k2), .val (.long o2), .second, .val (.long s2), .second, .val (.ref a), .val (.int kd), .unset, .unset] [(.ref b)])) target := by
          intro target kt
          show Steps p.tables e below (T33.setTop (mkF m 214 #[.val (.int p0), .val (.int p1), .val (.long q2), .second, .val (.long q3), .second, .val (.long q4), .second, .val (.long q5), .second, .val (.int d1), .val (.int k1), .val (.int d2), .val (.int k2), .val (.long o2), .second, .val (.long s2), .second, .val (.ref a), .val (.int kd), .unset, .unset] [(.ref b)])) _
          refine XS.astore X33.here hx rfl (hb hby at_214) rfl rfl (l' := #[.val (.int p0), .val (.int p1), .val (.long q2), .second, .val (.long q3), .second, .val (.long q4), .second, .val (.long q5), .second, .val (.int d1), .val (.int k1), .val (.int d2), .val (.int k2), .val (.long o2), .second, .val (.long s2), .second, .val (.ref a), .val (.int kd), .val (.ref b), .unset]) rfl ?_
          exact kt
        obtain ⟨ex, hex, st35⟩ : ∃ (ex : Int32), ex = (if d1 = d2 then (if k1 = k2 then (if q2 = o2 then (if q3 = s2 then (1 : Int32) else (0 : Int32)) else (0 : Int32)) else (0 : Int32)) else (0 : Int32)) ∧ ∀ target, Steps p.tables e below (T33.setTop (mkF m 250 #[.val (.int p0), .val (.int p1), .val (.long q2), .second, .val (.long q3), .second, .val (.long q4), .second, .val (.long q5), .second, .val (.int d1), .val (.int k1), .val (.int d2), .val (.int k2), .val (.long o2), .second, .val (.long s2), .second, .val (.ref a), .val (.int kd), .val (.ref b), .unset] [(.int ex)])) target → Steps p.tables e below (T33.setTop (mkF m 216 #[.val (.int p0), .val (.int p1), .val (.long q2), .second, .val (.long q3), .second, .val (.long q4), .second, .val (.long q5), .second, .val (.int d1), .val (.int k1), .val (.int d2), .val (.int k2), .val (.long o2), .second, .val (.long s2), .second, .val (.ref a), .val (.int kd), .val (.ref b), .unset] [])) target := by
          refine ⟨_, rfl, fun target kt => ?_⟩
          show Steps p.tables e below (T33.setTop (mkF m 216 #[.val (.int p0), .val (.int p1), .val (.long q2), .second, .val (.long q3), .second, .val (.long q4), .second, .val (.long q5), .second, .val (.int d1), .val (.int k1), .val (.int d2), .val (.int k2), .val (.long o2), .second, .val (.long s2), .second, .val (.ref a), .val (.int kd), .val (.ref b), .unset] [])) _
          refine XS.iload X33.here hx rfl (hb hby at_216) rfl ?_
          show Steps p.tables e below (T33.setTop (mkF m 218 #[.val (.int p0), .val (.int p1), .val (.long q2), .second, .val (.long q3), .second, .val (.long q4), .second, .val (.long q5), .second, .val (.int d1), .val (.int k1), .val (.int d2), .val (.int k2), .val (.long o2), .second, .val (.long s2), .second, .val (.ref a), .val (.int kd), .val (.ref b), .unset] [(.int d1)])) _
          refine XS.iload X33.here hx rfl (hb hby at_218) rfl ?_
          by_cases hc220 : d1 = d2
          · rw [if_pos hc220] at kt
            show Steps p.tables e below (T33.setTop (mkF m 220 #[.val (.int p0), .val (.int p1), .val (.long q2), .second, .val (.long q3), .second, .val (.long q4), .second, .val (.long q5), .second, .val (.int d1), .val (.int k1), .val (.int d2), .val (.int k2), .val (.long o2), .second, .val (.long s2), .second, .val (.ref a), .val (.int kd), .val (.ref b), .unset] [(.int d2), (.int d1)])) _
            refine XS.icmpNo X33.here hx rfl (hb hby at_220) rfl (teq hc220).2 ?_
            show Steps p.tables e below (T33.setTop (mkF m 223 #[.val (.int p0), .val (.int p1), .val (.long q2), .second, .val (.long q3), .second, .val (.long q4), .second, .val (.long q5), .second, .val (.int d1), .val (.int k1), .val (.int d2), .val (.int k2), .val (.long o2), .second, .val (.long s2), .second, .val (.ref a), .val (.int kd), .val (.ref b), .unset] [])) _
            refine XS.iload X33.here hx rfl (hb hby at_223) rfl ?_
            show Steps p.tables e below (T33.setTop (mkF m 225 #[.val (.int p0), .val (.int p1), .val (.long q2), .second, .val (.long q3), .second, .val (.long q4), .second, .val (.long q5), .second, .val (.int d1), .val (.int k1), .val (.int d2), .val (.int k2), .val (.long o2), .second, .val (.long s2), .second, .val (.ref a), .val (.int kd), .val (.ref b), .unset] [(.int k1)])) _
            refine XS.iload X33.here hx rfl (hb hby at_225) rfl ?_
            by_cases hc227 : k1 = k2
            · rw [if_pos hc227] at kt
              show Steps p.tables e below (T33.setTop (mkF m 227 #[.val (.int p0), .val (.int p1), .val (.long q2), .second, .val (.long q3), .second, .val (.long q4), .second, .val (.long q5), .second, .val (.int d1), .val (.int k1), .val (.int d2), .val (.int k2), .val (.long o2), .second, .val (.long s2), .second, .val (.ref a), .val (.int kd), .val (.ref b), .unset] [(.int k2), (.int k1)])) _
              refine XS.icmpNo X33.here hx rfl (hb hby at_227) rfl (teq hc227).2 ?_
              show Steps p.tables e below (T33.setTop (mkF m 230 #[.val (.int p0), .val (.int p1), .val (.long q2), .second, .val (.long q3), .second, .val (.long q4), .second, .val (.long q5), .second, .val (.int d1), .val (.int k1), .val (.int d2), .val (.int k2), .val (.long o2), .second, .val (.long s2), .second, .val (.ref a), .val (.int kd), .val (.ref b), .unset] [])) _
              refine XS.lloadN X33.here hx rfl (hb hby at_230) rfl ?_
              show Steps p.tables e below (T33.setTop (mkF m 231 #[.val (.int p0), .val (.int p1), .val (.long q2), .second, .val (.long q3), .second, .val (.long q4), .second, .val (.long q5), .second, .val (.int d1), .val (.int k1), .val (.int d2), .val (.int k2), .val (.long o2), .second, .val (.long s2), .second, .val (.ref a), .val (.int kd), .val (.ref b), .unset] [(.long q2)])) _
              refine XS.lload X33.here hx rfl (hb hby at_231) rfl ?_
              show Steps p.tables e below (T33.setTop (mkF m 233 #[.val (.int p0), .val (.int p1), .val (.long q2), .second, .val (.long q3), .second, .val (.long q4), .second, .val (.long q5), .second, .val (.int d1), .val (.int k1), .val (.int d2), .val (.int k2), .val (.long o2), .second, .val (.long s2), .second, .val (.ref a), .val (.int kd), .val (.ref b), .unset] [(.long o2), (.long q2)])) _
              refine XS.lcmp X33.here hx rfl (hb hby at_233) rfl ?_
              by_cases hc234 : q2 = o2
              · rw [if_pos hc234] at kt
                show Steps p.tables e below (T33.setTop (mkF m 234 #[.val (.int p0), .val (.int p1), .val (.long q2), .second, .val (.long q3), .second, .val (.long q4), .second, .val (.long q5), .second, .val (.int d1), .val (.int k1), .val (.int d2), .val (.int k2), .val (.long o2), .second, .val (.long s2), .second, .val (.ref a), .val (.int kd), .val (.ref b), .unset] [(.int (lcmpW q2 o2))])) _
                refine XS.ifNo X33.here hx rfl (hb hby at_234) rfl ((if0 _ _).trans (teq ((own_lc_eq _ _).mpr hc234)).2) ?_
                show Steps p.tables e below (T33.setTop (mkF m 237 #[.val (.int p0), .val (.int p1), .val (.long q2), .second, .val (.long q3), .second, .val (.long q4), .second, .val (.long q5), .second, .val (.int d1), .val (.int k1), .val (.int d2), .val (.int k2), .val (.long o2), .second, .val (.long s2), .second, .val (.ref a), .val (.int kd), .val (.ref b), .unset] [])) _
                refine XS.lload X33.here hx rfl (hb hby at_237) rfl ?_
                show Steps p.tables e below (T33.setTop (mkF m 239 #[.val (.int p0), .val (.int p1), .val (.long q2), .second, .val (.long q3), .second, .val (.long q4), .second, .val (.long q5), .second, .val (.int d1), .val (.int k1), .val (.int d2), .val (.int k2), .val (.long o2), .second, .val (.long s2), .second, .val (.ref a), .val (.int kd), .val (.ref b), .unset] [(.long q3)])) _
                refine XS.lload X33.here hx rfl (hb hby at_239) rfl ?_
                show Steps p.tables e below (T33.setTop (mkF m 241 #[.val (.int p0), .val (.int p1), .val (.long q2), .second, .val (.long q3), .second, .val (.long q4), .second, .val (.long q5), .second, .val (.int d1), .val (.int k1), .val (.int d2), .val (.int k2), .val (.long o2), .second, .val (.long s2), .second, .val (.ref a), .val (.int kd), .val (.ref b), .unset] [(.long s2), (.long q3)])) _
                refine XS.lcmp X33.here hx rfl (hb hby at_241) rfl ?_
                by_cases hc242 : q3 = s2
                · rw [if_pos hc242] at kt
                  show Steps p.tables e below (T33.setTop (mkF m 242 #[.val (.int p0), .val (.int p1), .val (.long q2), .second, .val (.long q3), .second, .val (.long q4), .second, .val (.long q5), .second, .val (.int d1), .val (.int k1), .val (.int d2), .val (.int k2), .val (.long o2), .second, .val (.long s2), .second, .val (.ref a), .val (.int kd), .val (.ref b), .unset] [(.int (lcmpW q3 s2))])) _
                  refine XS.ifNo X33.here hx rfl (hb hby at_242) rfl ((if0 _ _).trans (teq ((own_lc_eq _ _).mpr hc242)).2) ?_
                  show Steps p.tables e below (T33.setTop (mkF m 245 #[.val (.int p0), .val (.int p1), .val (.long q2), .second, .val (.long q3), .second, .val (.long q4), .second, .val (.long q5), .second, .val (.int d1), .val (.int k1), .val (.int d2), .val (.int k2), .val (.long o2), .second, .val (.long s2), .second, .val (.ref a), .val (.int kd), .val (.ref b), .unset] [])) _
                  refine XS.iconst X33.here hx rfl (hb hby at_245) ?_
                  show Steps p.tables e below (T33.setTop (mkF m 246 #[.val (.int p0), .val (.int p1), .val (.long q2), .second, .val (.long q3), .second, .val (.long q4), .second, .val (.long q5), .second, .val (.int d1), .val (.int k1), .val (.int d2), .val (.int k2), .val (.long o2), .second, .val (.long s2), .second, .val (.ref a), .val (.int kd), .val (.ref b), .unset] [(.int (1 : Int32))])) _
                  refine XS.goto X33.here hx rfl (pc0 := 246) (pc' := 250) rfl (hb hby at_246) (by decide) (by decide) ?_
                  exact kt
                · rw [if_neg hc242] at kt
                  show Steps p.tables e below (T33.setTop (mkF m 242 #[.val (.int p0), .val (.int p1), .val (.long q2), .second, .val (.long q3), .second, .val (.long q4), .second, .val (.long q5), .second, .val (.int d1), .val (.int k1), .val (.int d2), .val (.int k2), .val (.long o2), .second, .val (.long s2), .second, .val (.ref a), .val (.int kd), .val (.ref b), .unset] [(.int (lcmpW q3 s2))])) _
                  refine XS.ifYes X33.here hx rfl (pc0 := 242) (pc' := 249) rfl (hb hby at_242) rfl ((if0 _ _).trans (feq (mt (own_lc_eq _ _).mp hc242)).2) (by decide) (by decide) ?_
                  show Steps p.tables e below (T33.setTop (mkF m 249 #[.val (.int p0), .val (.int p1), .val (.long q2), .second, .val (.long q3), .second, .val (.long q4), .second, .val (.long q5), .second, .val (.int d1), .val (.int k1), .val (.int d2), .val (.int k2), .val (.long o2), .second, .val (.long s2), .second, .val (.ref a), .val (.int kd), .val (.ref b), .unset] [])) _
                  refine XS.iconst X33.here hx rfl (hb hby at_249) ?_
                  exact kt
              · rw [if_neg hc234] at kt
                show Steps p.tables e below (T33.setTop (mkF m 234 #[.val (.int p0), .val (.int p1), .val (.long q2), .second, .val (.long q3), .second, .val (.long q4), .second, .val (.long q5), .second, .val (.int d1), .val (.int k1), .val (.int d2), .val (.int k2), .val (.long o2), .second, .val (.long s2), .second, .val (.ref a), .val (.int kd), .val (.ref b), .unset] [(.int (lcmpW q2 o2))])) _
                refine XS.ifYes X33.here hx rfl (pc0 := 234) (pc' := 249) rfl (hb hby at_234) rfl ((if0 _ _).trans (feq (mt (own_lc_eq _ _).mp hc234)).2) (by decide) (by decide) ?_
                show Steps p.tables e below (T33.setTop (mkF m 249 #[.val (.int p0), .val (.int p1), .val (.long q2), .second, .val (.long q3), .second, .val (.long q4), .second, .val (.long q5), .second, .val (.int d1), .val (.int k1), .val (.int d2), .val (.int k2), .val (.long o2), .second, .val (.long s2), .second, .val (.ref a), .val (.int kd), .val (.ref b), .unset] [])) _
                refine XS.iconst X33.here hx rfl (hb hby at_249) ?_
                exact kt
            · rw [if_neg hc227] at kt
              show Steps p.tables e below (T33.setTop (mkF m 227 #[.val (.int p0), .val (.int p1), .val (.long q2), .second, .val (.long q3), .second, .val (.long q4), .second, .val (.long q5), .second, .val (.int d1), .val (.int k1), .val (.int d2), .val (.int k2), .val (.long o2), .second, .val (.long s2), .second, .val (.ref a), .val (.int kd), .val (.ref b), .unset] [(.int k2), (.int k1)])) _
              refine XS.icmpYes X33.here hx rfl (pc0 := 227) (pc' := 249) rfl (hb hby at_227) rfl (feq hc227).2 (by decide) (by decide) ?_
              show Steps p.tables e below (T33.setTop (mkF m 249 #[.val (.int p0), .val (.int p1), .val (.long q2), .second, .val (.long q3), .second, .val (.long q4), .second, .val (.long q5), .second, .val (.int d1), .val (.int k1), .val (.int d2), .val (.int k2), .val (.long o2), .second, .val (.long s2), .second, .val (.ref a), .val (.int kd), .val (.ref b), .unset] [])) _
              refine XS.iconst X33.here hx rfl (hb hby at_249) ?_
              exact kt
          · rw [if_neg hc220] at kt
            show Steps p.tables e below (T33.setTop (mkF m 220 #[.val (.int p0), .val (.int p1), .val (.long q2), .second, .val (.long q3), .second, .val (.long q4), .second, .val (.long q5), .second, .val (.int d1), .val (.int k1), .val (.int d2), .val (.int k2), .val (.long o2), .second, .val (.long s2), .second, .val (.ref a), .val (.int kd), .val (.ref b), .unset] [(.int d2), (.int d1)])) _
            refine XS.icmpYes X33.here hx rfl (pc0 := 220) (pc' := 249) rfl (hb hby at_220) rfl (feq hc220).2 (by decide) (by decide) ?_
            show Steps p.tables e below (T33.setTop (mkF m 249 #[.val (.int p0), .val (.int p1), .val (.long q2), .second, .val (.long q3), .second, .val (.long q4), .second, .val (.long q5), .second, .val (.int d1), .val (.int k1), .val (.int d2), .val (.int k2), .val (.long o2), .second, .val (.long s2), .second, .val (.ref a), .val (.int kd), .val (.ref b), .unset] [])) _
            refine XS.iconst X33.here hx rfl (hb hby at_249) ?_
            exact kt
        have st36 : ∀ target, Steps p.tables e below (T33.setTop (mkF m 252 #[.val (.int p0), .val (.int p1), .val (.long q2), .second, .val (.long q3), .second, .val (.long q4), .second, .val (.long q5), .second, .val (.int d1), .val (.int k1), .val (.int d2), .val (.int k2), .val (.long o2), .second, .val (.long s2), .second, .val (.ref a), .val (.int kd), .val (.ref b), .val (.int ex)] [])) target → Steps p.tables e below (T33.setTop (mkF m 250 #[.val (.int p0), .val (.int p1), .val (.long q2), .second, .val (.long q3), .second, .val (.long q4), .second, .val (.long q5), .second, .val (.int d1), .val (.int k1), .val (.int d2), .val (.int k2), .val (.long o2), .second, .val (.long s2), .second, .val (.ref a), .val (.int kd), .val (.ref b), .unset] [(.int ex)])) target := by
          intro target kt
          show Steps p.tables e below (T33.setTop (mkF m 250 #[.val (.int p0), .val (.int p1), .val (.long q2), .second, .val (.long q3), .second, .val (.long q4), .second, .val (.long q5), .second, .val (.int d1), .val (.int k1), .val (.int d2), .val (.int k2), .val (.long o2), .second, .val (.long s2), .second, .val (.ref a), .val (.int kd), .val (.ref b), .unset] [(.int ex)])) _
          refine XS.istore X33.here hx rfl (hb hby at_250) rfl (l' := #[.val (.int p0), .val (.int p1), .val (.long q2), .second, .val (.long q3), .second, .val (.long q4), .second, .val (.long q5), .second, .val (.int d1), .val (.int k1), .val (.int d2), .val (.int k2), .val (.long o2), .second, .val (.long s2), .second, .val (.ref a), .val (.int kd), .val (.ref b), .val (.int ex)]) rfl ?_
          exact kt
        have st37 : ∀ target, Steps p.tables e below (T33.setTop (mkF m 256 #[.val (.int p0), .val (.int p1), .val (.long q2), .second, .val (.long q3), .second, .val (.long q4), .second, .val (.long q5), .second, .val (.int d1), .val (.int k1), .val (.int d2), .val (.int k2), .val (.long o2), .second, .val (.long s2), .second, .val (.ref a), .val (.int kd), .val (.ref b), .val (.int ex)] [(.ref b), (.ref a)])) target → Steps p.tables e below (T33.setTop (mkF m 252 #[.val (.int p0), .val (.int p1), .val (.long q2), .second, .val (.long q3), .second, .val (.long q4), .second, .val (.long q5), .second, .val (.int d1), .val (.int k1), .val (.int d2), .val (.int k2), .val (.long o2), .second, .val (.long s2), .second, .val (.ref a), .val (.int kd), .val (.ref b), .val (.int ex)] [])) target := by
          intro target kt
          show Steps p.tables e below (T33.setTop (mkF m 252 #[.val (.int p0), .val (.int p1), .val (.long q2), .second, .val (.long q3), .second, .val (.long q4), .second, .val (.long q5), .second, .val (.int d1), .val (.int k1), .val (.int d2), .val (.int k2), .val (.long o2), .second, .val (.long s2), .second, .val (.ref a), .val (.int kd), .val (.ref b), .val (.int ex)] [])) _
          refine XS.aload X33.here hx rfl (hb hby at_252) rfl rfl ?_
          show Steps p.tables e below (T33.setTop (mkF m 254 #[.val (.int p0), .val (.int p1), .val (.long q2), .second, .val (.long q3), .second, .val (.long q4), .second, .val (.long q5), .second, .val (.int d1), .val (.int k1), .val (.int d2), .val (.int k2), .val (.long o2), .second, .val (.long s2), .second, .val (.ref a), .val (.int kd), .val (.ref b), .val (.int ex)] [(.ref a)])) _
          refine XS.aload X33.here hx rfl (hb hby at_254) rfl rfl ?_
          exact kt
        have x1 : own_eq d1 k1 q2 q3 d2 k2 o2 s2 = ex := by rw [hex]; rfl
        have x2 : own_eq d2 k2 o2 s2 d1 k1 q2 q3 = ex := by
          rw [hex]; unfold own_eq
          by_cases u1 : d1 = d2 <;> by_cases u2 : k1 = k2 <;> by_cases u3 : q2 = o2 <;> by_cases u4 : q3 = s2 <;> simp only [u1, u2, u3, u4, if_true, if_false, Ne.symm, eq_comm] <;> simp_all [eq_comm]
        obtain ⟨cq38, kq38, qv38a, qv38b, qv38c⟩ := isOf hZ rfl E_a_i_33
        obtain ⟨_, _, ⟨T38, L38, k38, n38⟩, -, X38, ⟨Lc38, hQ38, l38, y38, z38⟩, st38⟩ := X33.virtualBack hx (y := (⟨"com/example/imprimatur/imprimatur/verify/HashTree", "equals", "(Ljava/lang/Object;)Z"⟩ : MethodName)) (z := (⟨"com/example/imprimatur/imprimatur/verify/HashTree", "equals", "(Ljava/lang/Object;)Z"⟩ : MethodName)) hown (mvT hZ (hw _ (List.mem_of_getElem? (i := 28) rfl))) (mvT hZ (hw _ (List.mem_of_getElem? (i := 29) rfl))) (notFace_of_selects (args := #[]) (mvT hZ (hw _ (List.mem_of_getElem? (i := 31) rfl)))) (mvT hZ (hw _ (List.mem_of_getElem? (i := 31) rfl))) (mvT hZ (hw _ (List.mem_of_getElem? (i := 30) rfl))) (by decide) (backOf (W := 0) (rmEq l Z a0 hw [] a b d1 k1 q2 q3 d2 k2 o2 s2 T33.heap n0 Z_33 E_b_i F_dataBlockSize_a_i_33 F_hashBlockSize_a_i_33 F_treeOffset_a_i_33 F_treeSize_a_i_33 F_dataBlockSize_b_i F_hashBlockSize_b_i F_treeOffset_b_i F_treeSize_b_i) hZ (hw _ (List.mem_of_getElem? (i := 32) rfl)) (hw _ (List.mem_of_getElem? (i := 2) rfl)) (by decide) (by decide)) qv38a qv38c (g := (mkF m 256 #[.val (.int p0), .val (.int p1), .val (.long q2), .second, .val (.long q3), .second, .val (.long q4), .second, .val (.long q5), .second, .val (.int d1), .val (.int k1), .val (.int d2), .val (.int k2), .val (.long o2), .second, .val (.long s2), .second, .val (.ref a), .val (.int kd), .val (.ref b), .val (.int ex)] [(.ref b), (.ref a)])) rfl (by rw [hml]; rfl) (Steps.refl _) (argsL := [(.ref b)]) (rest := []) (lenOf pd_3 rfl) rfl (by show 2 * 0 + _ ≤ _; exact Nat.le_of_eq rfl) (hb hby at_256) (fun _ _ => ⟨rfl, rfl, (by decide : 2 + 0 ≤ _), (by decide : 8 + 0 ≤ _)⟩)
        dsimp only [Pt.U, Pt.locs, Pt.cells, Pt.slots] at X38 l38 y38 z38 st38 hQ38
        subst l38 y38 z38
        obtain ⟨rfl, Nq38, e38⟩ := hQ38
        have N38 := Fr.app N33 Nq38
        have st39 : ∀ target, Steps p.tables e below (T38.setTop (mkF m 268 #[.val (.int p0), .val (.int p1), .val (.long q2), .second, .val (.long q3), .second, .val (.long q4), .second, .val (.long q5), .second, .val (.int d1), .val (.int k1), .val (.int d2), .val (.int k2), .val (.long o2), .second, .val (.long s2), .second, .val (.ref a), .val (.int kd), .val (.ref b), .val (.int ex)] [(.ref a), (.ref b)])) target → Steps p.tables e below (T38.setTop (mkF m 259 #[.val (.int p0), .val (.int p1), .val (.long q2), .second, .val (.long q3), .second, .val (.long q4), .second, .val (.long q5), .second, .val (.int d1), .val (.int k1), .val (.int d2), .val (.int k2), .val (.long o2), .second, .val (.long s2), .second, .val (.ref a), .val (.int kd), .val (.ref b), .val (.int ex)] [(.int (own_eq d1 k1 q2 q3 d2 k2 o2 s2))])) target := by
          intro target kt
          show Steps p.tables e below (T38.setTop (mkF m 259 #[.val (.int p0), .val (.int p1), .val (.long q2), .second, .val (.long q3), .second, .val (.long q4), .second, .val (.long q5), .second, .val (.int d1), .val (.int k1), .val (.int d2), .val (.int k2), .val (.long o2), .second, .val (.long s2), .second, .val (.ref a), .val (.int kd), .val (.ref b), .val (.int ex)] [(.int (own_eq d1 k1 q2 q3 d2 k2 o2 s2))])) _
          refine XS.iload X38.here hx rfl (hb hby at_259) rfl ?_
          show Steps p.tables e below (T38.setTop (mkF m 261 #[.val (.int p0), .val (.int p1), .val (.long q2), .second, .val (.long q3), .second, .val (.long q4), .second, .val (.long q5), .second, .val (.int d1), .val (.int k1), .val (.int d2), .val (.int k2), .val (.long o2), .second, .val (.long s2), .second, .val (.ref a), .val (.int kd), .val (.ref b), .val (.int ex)] [(.int ex), (.int (own_eq d1 k1 q2 q3 d2 k2 o2 s2))])) _
          refine XS.icmpNo X38.here hx rfl (hb hby at_261) rfl (teq x1).2 ?_
          show Steps p.tables e below (T38.setTop (mkF m 264 #[.val (.int p0), .val (.int p1), .val (.long q2), .second, .val (.long q3), .second, .val (.long q4), .second, .val (.long q5), .second, .val (.int d1), .val (.int k1), .val (.int d2), .val (.int k2), .val (.long o2), .second, .val (.long s2), .second, .val (.ref a), .val (.int kd), .val (.ref b), .val (.int ex)] [])) _
          refine XS.aload X38.here hx rfl (hb hby at_264) rfl rfl ?_
          show Steps p.tables e below (T38.setTop (mkF m 266 #[.val (.int p0), .val (.int p1), .val (.long q2), .second, .val (.long q3), .second, .val (.long q4), .second, .val (.long q5), .second, .val (.int d1), .val (.int k1), .val (.int d2), .val (.int k2), .val (.long o2), .second, .val (.long s2), .second, .val (.ref a), .val (.int kd), .val (.ref b), .val (.int ex)] [(.ref b)])) _
          refine XS.aload X38.here hx rfl (hb hby at_266) rfl rfl ?_
          exact kt
        obtain ⟨cq40, kq40, qv40a, qv40b, qv40c⟩ := isOf hZ e38 E_b_i
        obtain ⟨_, _, ⟨T40, L40, k40, n40⟩, -, X40, ⟨Lc40, hQ40, l40, y40, z40⟩, st40⟩ := X38.virtualBack hx (y := (⟨"com/example/imprimatur/imprimatur/verify/HashTree", "equals", "(Ljava/lang/Object;)Z"⟩ : MethodName)) (z := (⟨"com/example/imprimatur/imprimatur/verify/HashTree", "equals", "(Ljava/lang/Object;)Z"⟩ : MethodName)) hown (mvT hZ (hw _ (List.mem_of_getElem? (i := 28) rfl))) (mvT hZ (hw _ (List.mem_of_getElem? (i := 29) rfl))) (notFace_of_selects (args := #[]) (mvT hZ (hw _ (List.mem_of_getElem? (i := 31) rfl)))) (mvT hZ (hw _ (List.mem_of_getElem? (i := 31) rfl))) (mvT hZ (hw _ (List.mem_of_getElem? (i := 30) rfl))) (by decide) (backOf (W := 0) (rmEq l Z a0 hw [] b a d2 k2 o2 s2 d1 k1 q2 q3 T33.heap n0 Z_33 E_a_i_33 F_dataBlockSize_b_i F_hashBlockSize_b_i F_treeOffset_b_i F_treeSize_b_i F_dataBlockSize_a_i_33 F_hashBlockSize_a_i_33 F_treeOffset_a_i_33 F_treeSize_a_i_33) hZ (hw _ (List.mem_of_getElem? (i := 32) rfl)) (hw _ (List.mem_of_getElem? (i := 2) rfl)) (by decide) (by decide)) qv40a qv40c (g := (mkF m 268 #[.val (.int p0), .val (.int p1), .val (.long q2), .second, .val (.long q3), .second, .val (.long q4), .second, .val (.long q5), .second, .val (.int d1), .val (.int k1), .val (.int d2), .val (.int k2), .val (.long o2), .second, .val (.long s2), .second, .val (.ref a), .val (.int kd), .val (.ref b), .val (.int ex)] [(.ref a), (.ref b)])) rfl (by rw [hml]; rfl) (Steps.refl _) (argsL := [(.ref a)]) (rest := []) (lenOf pd_3 rfl) rfl (by show 2 * 0 + _ ≤ _; exact Nat.le_of_eq rfl) (hb hby at_268) (fun _ _ => ⟨rfl, e38, (by decide : 2 + 0 ≤ _), (by decide : 8 + 0 ≤ _)⟩)
        dsimp only [Pt.U, Pt.locs, Pt.cells, Pt.slots] at X40 l40 y40 z40 st40 hQ40
        subst l40 y40 z40
        obtain ⟨rfl, Nq40, e40⟩ := hQ40
        have N40 := Fr.app N38 Nq40
        obtain ⟨fs, hr, hrun, hended, hW, hsame⟩ := X40.leave (v := some (.int (1 : Int32))) (fun h => by rw [Bd.returns] at h; cases h)
        refine ⟨_, _, pre0 _ (st1 _ (st2 _ (st3 _ (st4 _ (st5 _ (st6 _ (st7 _ (st8 _ (st9 _ (st10 _ (st11 _ (st12 _ (st13.trans (st14 _ (st15 _ (st19 _ (st20 _ (st24 _ (st25 _ (st30 _ (st31 _ (st32 _ (st33.trans (st34 _ (st35 _ (st36 _ (st37 _ (st38.trans (st39 _ (st40.trans ?_)))))))))))))))))))))))))))))), hrun, hended, _, _, rfl, ?_, ⟨_, rfl⟩, hW, hsame.mono (by decide) (by decide)⟩
        · show Steps p.tables e below (T40.setTop (mkF m 271 #[.val (.int p0), .val (.int p1), .val (.long q2), .second, .val (.long q3), .second, .val (.long q4), .second, .val (.long q5), .second, .val (.int d1), .val (.int k1), .val (.int d2), .val (.int k2), .val (.long o2), .second, .val (.long s2), .second, .val (.ref a), .val (.int kd), .val (.ref b), .val (.int ex)] [(.int (own_eq d2 k2 o2 s2 d1 k1 q2 q3))])) _
          refine XS.iload X40.here hx rfl (hb hby at_271) rfl ?_
          show Steps p.tables e below (T40.setTop (mkF m 273 #[.val (.int p0), .val (.int p1), .val (.long q2), .second, .val (.long q3), .second, .val (.long q4), .second, .val (.long q5), .second, .val (.int d1), .val (.int k1), .val (.int d2), .val (.int k2), .val (.long o2), .second, .val (.long s2), .second, .val (.ref a), .val (.int kd), .val (.ref b), .val (.int ex)] [(.int ex), (.int (own_eq d2 k2 o2 s2 d1 k1 q2 q3))])) _
          refine XS.icmpNo X40.here hx rfl (hb hby at_273) rfl (teq x2).2 ?_
          show Steps p.tables e below (T40.setTop (mkF m 276 #[.val (.int p0), .val (.int p1), .val (.long q2), .second, .val (.long q3), .second, .val (.long q4), .second, .val (.long q5), .second, .val (.int d1), .val (.int k1), .val (.int d2), .val (.int k2), .val (.long o2), .second, .val (.long s2), .second, .val (.ref a), .val (.int kd), .val (.ref b), .val (.int ex)] [])) _
          refine XS.iconst X40.here hx rfl (hb hby at_276) ?_
          show Steps p.tables e below (T40.setTop (mkF m 277 #[.val (.int p0), .val (.int p1), .val (.long q2), .second, .val (.long q3), .second, .val (.long q4), .second, .val (.long q5), .second, .val (.int d1), .val (.int k1), .val (.int d2), .val (.int k2), .val (.long o2), .second, .val (.long s2), .second, .val (.ref a), .val (.int kd), .val (.ref b), .val (.int ex)] [(.int (1 : Int32))])) _
          refine XS.goto X40.here hx rfl (pc0 := 277) (pc' := 281) rfl (hb hby at_277) (by decide) (by decide) ?_
          show Steps p.tables e below (T40.setTop (mkF m 281 #[.val (.int p0), .val (.int p1), .val (.long q2), .second, .val (.long q3), .second, .val (.long q4), .second, .val (.long q5), .second, .val (.int d1), .val (.int k1), .val (.int d2), .val (.int k2), .val (.long o2), .second, .val (.long s2), .second, .val (.ref a), .val (.int kd), .val (.ref b), .val (.int ex)] [(.int (1 : Int32))])) _
          exact retN X40 hx (t := .boolean) Bd.returns (by simp) (hb hby at_281) hr
        · show Q_rm0 Z p0 p1 q2 q3 q4 q5 ca cc val h0 n0 _ T40.heap _
          rw [e40]
          exact ⟨rfl, N40⟩
set_option maxRecDepth 65536 in
set_option maxHeartbeats 40000000 in
theorem comes_1 {Post : Tables → Env → Array Value → State → Outcome → State → Prop} (hpost : ∀ tb e args s v u, (limb_1_1.after args s (.returned v) u = true ∧ limb_1_2.after args s (.returned v) u = true ∧ True) → FrameEnd s (.returned v) u (Jvm.fieldLocs frame_1_writes args s ++ Jvm.arrayLocs frame_1_arrays args s ++ Jvm.staticLocs frame_1_statics s) 16 128 → Post tb e args s (.returned v) u) :
    ArmFor flags0 classFile x code maxLocals ret World_1 tables_1 room_1 Calls_1 rest_1 Pre_1 Post := by
  intro l hfl _ _ p e ha hc hk s m args below hf hA hF happ hP
  obtain ⟨hcalls, hrest, hpre⟩ := hP
  obtain ⟨-, -, -, hnamed, -, -, -, hat⟩ := (Spec.applies_iff hf).mp happ
  obtain ⟨hg, hn⟩ := and_e (Cond.before_iff.mp (show (Jvm.Cond.and given_1 narrow_1).before args s = true from hpre))
  obtain ⟨gg1, gg2⟩ := and_e hg
  obtain ⟨gg3, gg4⟩ := and_e gg2
  obtain ⟨gg5, gg6⟩ := and_e gg4
  obtain ⟨gg7, gg8⟩ := and_e gg6
  obtain ⟨gg9, gg10⟩ := and_e gg8
  obtain ⟨gg11, gg12⟩ := and_e gg10
  obtain ⟨w0, w1, w2, w3, w4, w5, rfl⟩ : ∃ w0 w1 w2 w3 w4 w5 : Value, args = #[w0, w1, w2, w3, w4, w5] := by
    have hs : args.size = 6 := by simpa [Cond.value, given_1] using gg1
    obtain ⟨L⟩ := args
    match L, hs with
    | [w0, w1, w2, w3, w4, w5], _ => exact ⟨w0, w1, w2, w3, w4, w5, rfl⟩
  have hw := fun d (hd : d ∈ tables_1) => atoms_spec (ws := Jvm.Cond.code x code maxLocals ret :: tables_1) hat d (List.mem_cons_of_mem _ hd)
  have hfit : Fit s := fun {y c} hc i hi => by
    obtain ⟨ha, rfl⟩ := Array.getElem?_eq_some_iff.mp hc
    have q := List.all_eq_true.mp ((Array.all_eq_true_iff_forall_mem.mp hF) _ (Array.getElem_mem ha)) i (List.mem_range.mpr hi)
    simpa [Array.getElem?_eq_getElem hi] using q
  obtain ⟨hsets, hown0⟩ := atoms_of _ (rest_1_c_eq ▸ (show rest_1_c.before _ s = true from hrest))
  have hr0 := Cond.before_iff.mp hown0
  obtain ⟨i0, ei0⟩ := is_v gg3
  obtain rfl : w0 = (.int i0) := Option.some.inj ei0
  obtain ⟨i1, ei1⟩ := is_v gg5
  obtain rfl : w1 = (.int i1) := Option.some.inj ei1
  obtain ⟨i2, ei2⟩ := isL_v gg7
  obtain rfl : w2 = (.long i2) := Option.some.inj ei2
  obtain ⟨i3, ei3⟩ := isL_v gg9
  obtain rfl : w3 = (.long i3) := Option.some.inj ei3
  obtain ⟨i4, ei4⟩ := isL_v gg11
  obtain rfl : w4 = (.long i4) := Option.some.inj ei4
  obtain ⟨i5, ei5⟩ := isL_v gg12
  obtain rfl : w5 = (.long i5) := Option.some.inj ei5
  obtain ⟨ca, ev_c⟩ := exa_v (Cond.before_iff.mp (hsets _ (List.mem_of_getElem? (i := 3) rfl)))
  have S_c : Sta s s.heap "java/lang/Long$LongCache" "cache" "[Ljava/lang/Long;" (.ref ca) := Sta.start ev_c (Or.inl (hsets _ (List.mem_of_getElem? (i := 1) rfl)))
  obtain ⟨cc, Ac⟩ := Arr.start ev_c (Cond.before_iff.mp (hsets _ (List.mem_of_getElem? (i := 2) rfl)))
  have el := eqv_i (Term.int_eval (256 : Int32)) (Cond.before_iff.mp (hsets _ (List.mem_of_getElem? (i := 4) rfl)))
  have q31 := own_len ev_c (Ac.fin (Vm.Alike.refl _)) el
  obtain ⟨ca', cc', u1, u2, u3⟩ := Term.length_spec el
  cases ev_c.symm.trans u1
  cases (Ac.fin (Vm.Alike.refl _)).symm.trans u2
  have e256 : cc.slots.size.toInt32 = 256 := (Value.int.inj u3).symm
  have Bx : Bxs s ca cc "java/lang/Long" "J" (256 : Int32) (fun j => .long (j - (128 : Int32)).toInt64) := Bxs.start (fun _ => ev_c) Ac q31 e256 (by decide) (Cond.before_iff.mp (hsets _ (List.mem_of_getElem? (i := 5) rfl))) (fun X j nn hh => eqv_l (i2l_at (Term.sub_int (idx_at nn) (Term.int_eval _))) hh)
  obtain ⟨n, o, h1, h2, h3, _, L, rfl, ⟨rfl, N⟩, hq⟩ := rm0 l s _ hw tables_1 i0 i1 i2 i3 i4 i5 ca cc _ s.heap s.heap.size (Nat.le_refl _) Bx (Old.start s) S_c p e ha hc hk s m _ below hf ((Spec.applies_iff_loose hf).mp happ).1 ⟨rfl, State.Warmed39.refl s, rfl⟩ trivial
  refine ⟨n, _, h1, h2, h3, hpost _ _ _ _ _ _ ⟨Cond.after_iff.mpr rfl, Cond.after_iff.mpr (eq_i res_at (Term.int_eval (1)) rfl), trivial⟩ ⟨hq.1, hq.2.1, (hq.2.2.sift fun y hy => Or.inr (N y hy)).mono (by decide) (by decide)⟩⟩
theorem main_1_1 : Claimed_1_1 := comes_1 fun _ _ _ _ _ _ h hF => ⟨h.1, hF⟩
theorem main_1_2 : Claimed_1_2 := comes_1 fun _ _ _ _ _ _ h hF => ⟨h.2.1, hF⟩
end Jvm.Pilot.@@N@@
namespace Jvm.Pilot.@@N@@
open Jvm Jvm.ClassFile Sem Op Lib Jvm.Free Jvm.Stand Jvm.Pilot.@@N@@.Jvm.D
/-! MADE BY PROGRAM (witnessworld.py) out of the Statement's table words and the real class files: 17 classes; the members and pool entries that the words name. The judged class is class 1, her method 1. -/
namespace start1
open Jvm.ClassFile
def u (s : String) : CpInfo := .utf8 (stringToUtf16 s)
/-- a pool by its gaps: so many unusable entries, then the entry; so many at the end -/
def gap : Nat → List CpInfo → List CpInfo
  | 0, r => r
  | n + 1, r => .unusable :: gap n r
def poolList (es : List (Nat × CpInfo)) (last : Nat) : List CpInfo := es.foldr (fun e r => gap e.1 (e.2 :: r)) (gap last [])
def pool (es : List (Nat × CpInfo)) (last : Nat) : Array CpInfo := ⟨poolList es last⟩
def fileOf (pool : Array CpInfo) (this : Nat) (attrs : Array Attribute := #[]) (ms : Array MethodInfo := #[]) (fl : Nat := 33) (sup : Nat := 0) (ifs : Array Nat := #[]) (fds : Array FieldInfo := #[]) : ClassFile where
  minorVersion := 0
  majorVersion := 65
  constantPool := pool
  accessFlags := fl
  thisClass := this
  superClass := sup
  interfaces := ifs
  fields := fds
  methods := ms
  attributes := attrs
def plain (name : String) (sup : Option ClassId) : Class where
  name := name
  kind := .ordinary
  loader := none
  accessFlags := 33
  super := sup
  interfaces := #[]
  cf := none
  fields := #[]
  methods := #[]
  instanceTypes := #[]
  staticTypes := #[]
  resolved := #[]
  callSites := []
  init := .initialized
  statics := none
  mirror := none

def pool0 : Array CpInfo := pool [(5, u "<init>"), (0, u "()V"), (1, .class_ 10), (1, u "java/lang/Object")] 113

def k0c0 : Code := { maxStack := 0, maxLocals := 1, code := object_method_1_code, exceptionTable := #[], attributes := #[] }
def k0m0 : Method := { name := "<init>", desc := "()V", sig := { parameters := [], returnType := none }, accessFlags := 1, code := some k0c0 }
/-- java/lang/Object -/
def k0 : Class := { plain "java/lang/Object" none with
  accessFlags := 33
  interfaces := #[]
  cf := some (fileOf pool0 8 #[] #[{ accessFlags := 1, nameIndex := 5, descriptorIndex := 6, attributes := #[] }] 33 0 #[] #[])
  fields := #[]
  methods := #[k0m0]
  instanceTypes := #[]
  staticTypes := #[]
  resolved := Array.replicate 124 none
  statics := none }

def pool1 : Array CpInfo := pool [(2, .class_ 4), (1, u "java/lang/Object"), (0, u "<init>"), (0, u "()V"), (0, .class_ 8), (0, u "com/example/imprimatur/imprimatur/verify/HashTree"), (0, .methodref 7 10), (0, .nameAndType 5 11), (0, u "(IIJJ)V"), (0, .methodref 7 13), (0, .nameAndType 14 15), (0, u "equals"), (0, u "(Ljava/lang/Object;)Z"), (0, .methodref 17 18), (0, .class_ 19), (0, .nameAndType 20 21), (0, u "java/lang/Long"), (0, u "valueOf"), (0, u "(J)Ljava/lang/Long;"), (0, .class_ 23), (0, u "com/example/imprimatur/imprimatur/verify/HashTreeEqualsPinLaw"), (2, u "law"), (0, u "(IIJJJJ)Z")] 3

def k1m0 : Method := { name := "<init>", desc := "()V", sig := { parameters := [], returnType := none }, accessFlags := 1, code := none }
def k1c1 : Code := { maxStack := 8, maxLocals := 22, code := code, exceptionTable := #[], attributes := #[] }
def k1m1 : Method := { name := "law", desc := "(IIJJJJ)Z", sig := { parameters := [.int, .int, .long, .long, .long, .long], returnType := some .boolean }, accessFlags := 9, code := some k1c1 }
/-- com/example/imprimatur/imprimatur/verify/HashTreeEqualsPinLaw -/
def k1 : Class := { plain "com/example/imprimatur/imprimatur/verify/HashTreeEqualsPinLaw" (some 0) with
  accessFlags := 49
  interfaces := #[]
  cf := some (fileOf pool1 22 #[] #[{ accessFlags := 1, nameIndex := 5, descriptorIndex := 6, attributes := #[] }, { accessFlags := 9, nameIndex := 26, descriptorIndex := 27, attributes := #[] }] 49 2 #[] #[])
  fields := #[]
  methods := #[k1m0, k1m1]
  instanceTypes := #[]
  staticTypes := #[]
  resolved := Array.replicate 31 none
  statics := none }

def pool2 : Array CpInfo := pool [(1, .methodref 2 3), (0, .class_ 4), (0, .nameAndType 5 6), (0, u "java/lang/Object"), (0, u "<init>"), (0, u "()V"), (0, .methodref 8 9), (0, .class_ 10), (0, .nameAndType 11 12), (0, u "com/example/imprimatur/imprimatur/verify/HashTree"), (0, u "checkedBlockSize"), (0, u "(I)I"), (0, .fieldref 8 14), (0, .nameAndType 15 16), (0, u "dataBlockSize"), (0, u "I"), (0, .fieldref 8 18), (0, .nameAndType 19 16), (0, u "hashBlockSize"), (0, .fieldref 8 21), (0, .nameAndType 22 23), (0, u "treeOffset"), (0, u "J"), (0, .fieldref 8 25), (0, .nameAndType 26 23), (0, u "treeSize"), (0, .methodref 28 29), (0, .class_ 30), (0, .nameAndType 31 12), (0, u "java/lang/Integer"), (0, u "bitCount"), (0, .integer 1048576), (105, .class_ 139), (0, u "com/example/imprimatur/imprimatur/verify/HashTree$Rebuild"), (65, u "(Ljava/lang/Object;)Z"), (45, u "DATA_PIECE"), (1, u "MIN_BLOCK_SIZE"), (1, u "(IIJJ)V"), (8, u "equals")] 29

def k2c0 : Code := { maxStack := 3, maxLocals := 7, code := prog_51_method_1_code, exceptionTable := #[], attributes := #[] }
def k2m0 : Method := { name := "<init>", desc := "(IIJJ)V", sig := { parameters := [.int, .int, .long, .long], returnType := none }, accessFlags := 1, code := some k2c0 }
def k2c1 : Code := { maxStack := 3, maxLocals := 1, code := prog_51_method_2_code, exceptionTable := #[], attributes := #[] }
def k2m1 : Method := { name := "checkedBlockSize", desc := "(I)I", sig := { parameters := [.int], returnType := some .int }, accessFlags := 10, code := some k2c1 }
def k2c2 : Code := { maxStack := 4, maxLocals := 3, code := prog_51_method_4_code, exceptionTable := #[], attributes := #[] }
def k2m2 : Method := { name := "equals", desc := "(Ljava/lang/Object;)Z", sig := { parameters := [(.object "java/lang/Object")], returnType := some .boolean }, accessFlags := 1, code := some k2c2 }
/-- com/example/imprimatur/imprimatur/verify/HashTree -/
def k2 : Class := { plain "com/example/imprimatur/imprimatur/verify/HashTree" (some 0) with
  accessFlags := 49
  interfaces := #[]
  cf := some (fileOf pool2 8 #[.nestMembers #[138]] #[{ accessFlags := 1, nameIndex := 5, descriptorIndex := 255, attributes := #[] }, { accessFlags := 10, nameIndex := 11, descriptorIndex := 12, attributes := #[] }, { accessFlags := 1, nameIndex := 264, descriptorIndex := 205, attributes := #[] }] 49 2 #[] #[{ accessFlags := 26, nameIndex := 251, descriptorIndex := 16, attributes := #[] }, { accessFlags := 26, nameIndex := 253, descriptorIndex := 16, attributes := #[] }, { accessFlags := 18, nameIndex := 15, descriptorIndex := 16, attributes := #[] }, { accessFlags := 18, nameIndex := 19, descriptorIndex := 16, attributes := #[] }, { accessFlags := 18, nameIndex := 22, descriptorIndex := 23, attributes := #[] }, { accessFlags := 18, nameIndex := 26, descriptorIndex := 23, attributes := #[] }])
  fields := #[{ name := "DATA_PIECE", type := .int, accessFlags := 26, slot := 0, constantValue := 0 }, { name := "MIN_BLOCK_SIZE", type := .int, accessFlags := 26, slot := 1, constantValue := 0 }, { name := "dataBlockSize", type := .int, accessFlags := 18, slot := 0, constantValue := 0 }, { name := "hashBlockSize", type := .int, accessFlags := 18, slot := 1, constantValue := 0 }, { name := "treeOffset", type := .long, accessFlags := 18, slot := 2, constantValue := 0 }, { name := "treeSize", type := .long, accessFlags := 18, slot := 3, constantValue := 0 }]
  methods := #[k2m0, k2m1, k2m2]
  instanceTypes := #[.int, .int, .long, .long]
  staticTypes := #[.int, .int]
  resolved := Array.replicate 294 none
  statics := none }

def pool3 : Array CpInfo := pool [(1, .class_ 2), (0, u "java/io/Serializable"), (0, .class_ 4), (0, u "java/lang/Object")] 2

/-- java/io/Serializable -/
def k3 : Class := { plain "java/io/Serializable" (some 0) with
  accessFlags := 1537
  interfaces := #[]
  cf := some (fileOf pool3 1 #[] #[] 1537 3 #[] #[])
  fields := #[]
  methods := #[]
  instanceTypes := #[]
  staticTypes := #[]
  resolved := Array.replicate 7 none
  statics := none }

def pool4 : Array CpInfo := pool [(1, .methodref 2 3), (0, .class_ 4), (0, .nameAndType 5 6), (0, u "java/lang/Object"), (0, u "<init>"), (0, u "()V"), (1, .class_ 10), (1, u "java/lang/Number"), (2, .class_ 14), (0, u "java/io/Serializable"), (0, u "serialVersionUID"), (0, u "J")] 20

def k4c0 : Code := { maxStack := 1, maxLocals := 1, code := jdk_18_method_1_code, exceptionTable := #[], attributes := #[] }
def k4m0 : Method := { name := "<init>", desc := "()V", sig := { parameters := [], returnType := none }, accessFlags := 1, code := some k4c0 }
/-- java/lang/Number -/
def k4 : Class := { plain "java/lang/Number" (some 0) with
  accessFlags := 1057
  interfaces := #[3]
  cf := some (fileOf pool4 8 #[] #[{ accessFlags := 1, nameIndex := 5, descriptorIndex := 6, attributes := #[] }] 1057 2 #[13] #[{ accessFlags := 26, nameIndex := 15, descriptorIndex := 16, attributes := #[] }])
  fields := #[{ name := "serialVersionUID", type := .long, accessFlags := 26, slot := 0, constantValue := 0 }]
  methods := #[k4m0]
  instanceTypes := #[]
  staticTypes := #[.long]
  resolved := Array.replicate 37 none
  statics := none }

def pool5 : Array CpInfo := pool [(1, .class_ 2), (0, u "java/lang/Comparable"), (0, .class_ 4), (0, u "java/lang/Object")] 7

/-- java/lang/Comparable -/
def k5 : Class := { plain "java/lang/Comparable" (some 0) with
  accessFlags := 1537
  interfaces := #[]
  cf := some (fileOf pool5 1 #[] #[] 1537 3 #[] #[])
  fields := #[]
  methods := #[]
  instanceTypes := #[]
  staticTypes := #[]
  resolved := Array.replicate 12 none
  statics := none }

def pool6 : Array CpInfo := pool [(1, .class_ 2), (0, u "java/lang/constant/Constable"), (0, .class_ 4), (0, u "java/lang/Object")] 6

/-- java/lang/constant/Constable -/
def k6 : Class := { plain "java/lang/constant/Constable" (some 0) with
  accessFlags := 1537
  interfaces := #[]
  cf := some (fileOf pool6 1 #[] #[] 1537 3 #[] #[])
  fields := #[]
  methods := #[]
  instanceTypes := #[]
  staticTypes := #[]
  resolved := Array.replicate 11 none
  statics := none }

def pool7 : Array CpInfo := pool [(1, .class_ 2), (0, u "java/lang/constant/ConstantDesc"), (0, .class_ 4), (0, u "java/lang/Object")] 32

/-- java/lang/constant/ConstantDesc -/
def k7 : Class := { plain "java/lang/constant/ConstantDesc" (some 0) with
  accessFlags := 1537
  interfaces := #[]
  cf := some (fileOf pool7 1 #[] #[] 1537 3 #[] #[])
  fields := #[]
  methods := #[]
  instanceTypes := #[]
  staticTypes := #[]
  resolved := Array.replicate 37 none
  statics := none }

def pool8 : Array CpInfo := pool [(1, .class_ 2), (0, u "java/lang/Integer"), (16, u "digits"), (0, u "[C"), (33, u "(I)I"), (30, u "DigitOnes"), (0, u "[B"), (2, u "DigitTens"), (99, .class_ 190), (0, u "java/lang/Integer$IntegerCache"), (3, u "I"), (8, .class_ 204), (0, u "java/lang/Number"), (2, u "value"), (57, .integer 1431655765), (0, .integer 858993459), (0, .integer 252645135), (34, u "TYPE"), (0, u "Ljava/lang/Class;"), (0, .class_ 305), (0, u "java/lang/Comparable"), (0, .class_ 307), (0, u "java/lang/constant/Constable"), (0, .class_ 309), (0, u "java/lang/constant/ConstantDesc"), (0, u "MIN_VALUE"), (1, u "MAX_VALUE"), (3, u "SIZE"), (1, u "BYTES"), (1, u "serialVersionUID"), (0, u "J"), (85, u "bitCount")] 45

def k8c0 : Code := { maxStack := 3, maxLocals := 1, code := jdk_33_method_49_code, exceptionTable := #[], attributes := #[] }
def k8m0 : Method := { name := "bitCount", desc := "(I)I", sig := { parameters := [.int], returnType := some .int }, accessFlags := 9, code := some k8c0 }
/-- java/lang/Integer -/
def k8 : Class := { plain "java/lang/Integer" (some 4) with
  accessFlags := 49
  interfaces := #[5, 6, 7]
  cf := some (fileOf pool8 1 #[.nestMembers #[189]] #[{ accessFlags := 9, nameIndex := 407, descriptorIndex := 54, attributes := #[] }] 49 203 #[304, 306, 308] #[{ accessFlags := 25, nameIndex := 310, descriptorIndex := 194, attributes := #[] }, { accessFlags := 25, nameIndex := 312, descriptorIndex := 194, attributes := #[] }, { accessFlags := 25, nameIndex := 302, descriptorIndex := 303, attributes := #[] }, { accessFlags := 24, nameIndex := 19, descriptorIndex := 20, attributes := #[] }, { accessFlags := 24, nameIndex := 89, descriptorIndex := 86, attributes := #[] }, { accessFlags := 24, nameIndex := 85, descriptorIndex := 86, attributes := #[] }, { accessFlags := 18, nameIndex := 207, descriptorIndex := 194, attributes := #[] }, { accessFlags := 25, nameIndex := 316, descriptorIndex := 194, attributes := #[] }, { accessFlags := 25, nameIndex := 318, descriptorIndex := 194, attributes := #[] }, { accessFlags := 26, nameIndex := 320, descriptorIndex := 321, attributes := #[] }])
  fields := #[{ name := "MIN_VALUE", type := .int, accessFlags := 25, slot := 0, constantValue := 0 }, { name := "MAX_VALUE", type := .int, accessFlags := 25, slot := 1, constantValue := 0 }, { name := "TYPE", type := (.object "java/lang/Class"), accessFlags := 25, slot := 2, constantValue := 0 }, { name := "digits", type := (.array .char), accessFlags := 24, slot := 3, constantValue := 0 }, { name := "DigitTens", type := (.array .byte), accessFlags := 24, slot := 4, constantValue := 0 }, { name := "DigitOnes", type := (.array .byte), accessFlags := 24, slot := 5, constantValue := 0 }, { name := "value", type := .int, accessFlags := 18, slot := 0, constantValue := 0 }, { name := "SIZE", type := .int, accessFlags := 25, slot := 6, constantValue := 0 }, { name := "BYTES", type := .int, accessFlags := 25, slot := 7, constantValue := 0 }, { name := "serialVersionUID", type := .long, accessFlags := 26, slot := 8, constantValue := 0 }]
  methods := #[k8m0]
  instanceTypes := #[.int]
  staticTypes := #[.int, .int, (.object "java/lang/Class"), (.array .char), (.array .byte), (.array .byte), .int, .int, .long]
  resolved := Array.replicate 453 none
  statics := none }

def pool9 : Array CpInfo := pool [(1, .class_ 2), (0, u "java/lang/Long"), (55, .nameAndType 59 60), (0, u "<init>"), (0, u "()V"), (24, u "valueOf"), (143, u "(J)Ljava/lang/Long;"), (0, .long 18446744073709551488), (1, .long 127), (1, .fieldref 235 236), (0, .class_ 237), (0, .nameAndType 238 239), (0, u "java/lang/Long$LongCache"), (0, u "cache"), (0, u "[Ljava/lang/Long;"), (0, .methodref 1 241), (0, .nameAndType 59 242), (0, u "(J)V"), (27, .methodref 271 58), (0, .class_ 272), (0, u "java/lang/Number"), (0, .fieldref 1 274), (0, .nameAndType 275 276), (0, u "value"), (0, u "J"), (84, u "TYPE"), (0, u "Ljava/lang/Class;"), (0, .class_ 364), (0, u "java/lang/Comparable"), (0, .class_ 366), (0, u "java/lang/constant/Constable"), (0, .class_ 368), (0, u "java/lang/constant/ConstantDesc"), (0, u "MIN_VALUE"), (1, u "MAX_VALUE"), (4, u "SIZE"), (0, u "I"), (1, u "BYTES"), (1, u "serialVersionUID")] 142

def k9c0 : Code := { maxStack := 4, maxLocals := 3, code := jdk_35_method_24_code, exceptionTable := #[], attributes := #[] }
def k9m0 : Method := { name := "valueOf", desc := "(J)Ljava/lang/Long;", sig := { parameters := [.long], returnType := some (.object "java/lang/Long") }, accessFlags := 9, code := some k9c0 }
def k9c1 : Code := { maxStack := 3, maxLocals := 3, code := jdk_35_method_26_code, exceptionTable := #[], attributes := #[] }
def k9m1 : Method := { name := "<init>", desc := "(J)V", sig := { parameters := [.long], returnType := none }, accessFlags := 1, code := some k9c1 }
/-- java/lang/Long -/
def k9 : Class := { plain "java/lang/Long" (some 4) with
  accessFlags := 49
  interfaces := #[5, 6, 7]
  cf := some (fileOf pool9 1 #[.nestMembers #[235]] #[{ accessFlags := 9, nameIndex := 85, descriptorIndex := 229, attributes := #[] }, { accessFlags := 1, nameIndex := 59, descriptorIndex := 242, attributes := #[] }] 49 271 #[363, 365, 367] #[{ accessFlags := 25, nameIndex := 369, descriptorIndex := 276, attributes := #[] }, { accessFlags := 25, nameIndex := 371, descriptorIndex := 276, attributes := #[] }, { accessFlags := 25, nameIndex := 361, descriptorIndex := 362, attributes := #[] }, { accessFlags := 18, nameIndex := 275, descriptorIndex := 276, attributes := #[] }, { accessFlags := 25, nameIndex := 376, descriptorIndex := 377, attributes := #[] }, { accessFlags := 25, nameIndex := 379, descriptorIndex := 377, attributes := #[] }, { accessFlags := 26, nameIndex := 381, descriptorIndex := 276, attributes := #[] }])
  fields := #[{ name := "MIN_VALUE", type := .long, accessFlags := 25, slot := 0, constantValue := 0 }, { name := "MAX_VALUE", type := .long, accessFlags := 25, slot := 1, constantValue := 0 }, { name := "TYPE", type := (.object "java/lang/Class"), accessFlags := 25, slot := 2, constantValue := 0 }, { name := "value", type := .long, accessFlags := 18, slot := 0, constantValue := 0 }, { name := "SIZE", type := .int, accessFlags := 25, slot := 3, constantValue := 0 }, { name := "BYTES", type := .int, accessFlags := 25, slot := 4, constantValue := 0 }, { name := "serialVersionUID", type := .long, accessFlags := 26, slot := 5, constantValue := 0 }]
  methods := #[k9m0, k9m1]
  instanceTypes := #[.long]
  staticTypes := #[.long, .long, (.object "java/lang/Class"), .int, .int, .long]
  resolved := Array.replicate 524 none
  statics := none }

def pool10 : Array CpInfo := pool [(2, .class_ 4), (1, u "java/lang/Object"), (0, u "<init>"), (0, u "()V"), (0, .class_ 8), (0, u "java/lang/Long"), (7, .class_ 18), (1, u "java/lang/Long$LongCache"), (0, u "$assertionsDisabled"), (0, u "Z"), (8, u "archivedCache"), (0, u "[Ljava/lang/Long;"), (7, u "cache")] 24

def k10m0 : Method := { name := "<init>", desc := "()V", sig := { parameters := [], returnType := none }, accessFlags := 2, code := none }
/-- java/lang/Long$LongCache -/
def k10 : Class := { plain "java/lang/Long$LongCache" (some 0) with
  accessFlags := 48
  interfaces := #[]
  cf := some (fileOf pool10 16 #[.nestHost 7] #[{ accessFlags := 2, nameIndex := 5, descriptorIndex := 6, attributes := #[] }] 48 2 #[] #[{ accessFlags := 24, nameIndex := 38, descriptorIndex := 30, attributes := #[] }, { accessFlags := 8, nameIndex := 29, descriptorIndex := 30, attributes := #[] }, { accessFlags := 4120, nameIndex := 19, descriptorIndex := 20, attributes := #[] }])
  fields := #[{ name := "cache", type := (.array (.object "java/lang/Long")), accessFlags := 24, slot := 0, constantValue := 0 }, { name := "archivedCache", type := (.array (.object "java/lang/Long")), accessFlags := 8, slot := 1, constantValue := 0 }, { name := "$assertionsDisabled", type := .boolean, accessFlags := 4120, slot := 2, constantValue := 0 }]
  methods := #[k10m0]
  instanceTypes := #[]
  staticTypes := #[(.array (.object "java/lang/Long")), (.array (.object "java/lang/Long")), .boolean]
  resolved := Array.replicate 63 none
  statics := some 0 }

def pool11 : Array CpInfo := pool [(1, u "java/lang/Cloneable"), (0, .class_ 1), (0, u "java/lang/Object"), (0, .class_ 3)] 3

/-- java/lang/Cloneable -/
def k11 : Class := { plain "java/lang/Cloneable" (some 0) with
  accessFlags := 1537
  interfaces := #[]
  cf := some (fileOf pool11 2 #[] #[] 1537 4 #[] #[])
  fields := #[]
  methods := #[]
  instanceTypes := #[]
  staticTypes := #[]
  resolved := Array.replicate 8 none
  statics := none }

/-- the primitive byte -/
def k12 : Class := { plain "byte" none with kind := .primitive 'B', accessFlags := 0x411 }
/-- [B -/
def k13 : Class := { plain "[B" (some 0) with kind := .array 12 .byte, interfaces := #[11, 3], accessFlags := 1041 }

/-- the primitive int -/
def k14 : Class := { plain "int" none with kind := .primitive 'I', accessFlags := 0x411 }
/-- [I -/
def k15 : Class := { plain "[I" (some 0) with kind := .array 14 .int, interfaces := #[11, 3], accessFlags := 1041 }

/-- [Ljava/lang/Long; -/
def k16 : Class := { plain "[Ljava/lang/Long;" (some 0) with kind := .array 9 (.object "java/lang/Long"), interfaces := #[11, 3], accessFlags := 1041 }

def heap : Heap := #[{ cls := 10, slots := #[.ref 1, .null, .int 0], vm := .statics 10 },
  { cls := 16, slots := #[.ref 2, .ref 3, .ref 4, .ref 5, .ref 6, .ref 7, .ref 8, .ref 9, .ref 10, .ref 11, .ref 12, .ref 13, .ref 14, .ref 15, .ref 16, .ref 17, .ref 18, .ref 19, .ref 20, .ref 21, .ref 22, .ref 23, .ref 24, .ref 25, .ref 26, .ref 27, .ref 28, .ref 29, .ref 30, .ref 31, .ref 32, .ref 33, .ref 34, .ref 35, .ref 36, .ref 37, .ref 38, .ref 39, .ref 40, .ref 41, .ref 42, .ref 43, .ref 44, .ref 45, .ref 46, .ref 47, .ref 48, .ref 49, .ref 50, .ref 51, .ref 52, .ref 53, .ref 54, .ref 55, .ref 56, .ref 57, .ref 58, .ref 59, .ref 60, .ref 61, .ref 62, .ref 63, .ref 64, .ref 65, .ref 66, .ref 67, .ref 68, .ref 69, .ref 70, .ref 71, .ref 72, .ref 73, .ref 74, .ref 75, .ref 76, .ref 77, .ref 78, .ref 79, .ref 80, .ref 81, .ref 82, .ref 83, .ref 84, .ref 85, .ref 86, .ref 87, .ref 88, .ref 89, .ref 90, .ref 91, .ref 92, .ref 93, .ref 94, .ref 95, .ref 96, .ref 97, .ref 98, .ref 99, .ref 100, .ref 101, .ref 102, .ref 103, .ref 104, .ref 105, .ref 106, .ref 107, .ref 108, .ref 109, .ref 110, .ref 111, .ref 112, .ref 113, .ref 114, .ref 115, .ref 116, .ref 117, .ref 118, .ref 119, .ref 120, .ref 121, .ref 122, .ref 123, .ref 124, .ref 125, .ref 126, .ref 127, .ref 128, .ref 129, .ref 130, .ref 131, .ref 132, .ref 133, .ref 134, .ref 135, .ref 136, .ref 137, .ref 138, .ref 139, .ref 140, .ref 141, .ref 142, .ref 143, .ref 144, .ref 145, .ref 146, .ref 147, .ref 148, .ref 149, .ref 150, .ref 151, .ref 152, .ref 153, .ref 154, .ref 155, .ref 156, .ref 157, .ref 158, .ref 159, .ref 160, .ref 161, .ref 162, .ref 163, .ref 164, .ref 165, .ref 166, .ref 167, .ref 168, .ref 169, .ref 170, .ref 171, .ref 172, .ref 173, .ref 174, .ref 175, .ref 176, .ref 177, .ref 178, .ref 179, .ref 180, .ref 181, .ref 182, .ref 183, .ref 184, .ref 185, .ref 186, .ref 187, .ref 188, .ref 189, .ref 190, .ref 191, .ref 192, .ref 193, .ref 194, .ref 195, .ref 196, .ref 197, .ref 198, .ref 199, .ref 200, .ref 201, .ref 202, .ref 203, .ref 204, .ref 205, .ref 206, .ref 207, .ref 208, .ref 209, .ref 210, .ref 211, .ref 212, .ref 213, .ref 214, .ref 215, .ref 216, .ref 217, .ref 218, .ref 219, .ref 220, .ref 221, .ref 222, .ref 223, .ref 224, .ref 225, .ref 226, .ref 227, .ref 228, .ref 229, .ref 230, .ref 231, .ref 232, .ref 233, .ref 234, .ref 235, .ref 236, .ref 237, .ref 238, .ref 239, .ref 240, .ref 241, .ref 242, .ref 243, .ref 244, .ref 245, .ref 246, .ref 247, .ref 248, .ref 249, .ref 250, .ref 251, .ref 252, .ref 253, .ref 254, .ref 255, .ref 256, .ref 257], vm := .none },
  { cls := 9, slots := #[.long (-128)], vm := .none },
  { cls := 9, slots := #[.long (-127)], vm := .none },
  { cls := 9, slots := #[.long (-126)], vm := .none },
  { cls := 9, slots := #[.long (-125)], vm := .none },
  { cls := 9, slots := #[.long (-124)], vm := .none },
  { cls := 9, slots := #[.long (-123)], vm := .none },
  { cls := 9, slots := #[.long (-122)], vm := .none },
  { cls := 9, slots := #[.long (-121)], vm := .none },
  { cls := 9, slots := #[.long (-120)], vm := .none },
  { cls := 9, slots := #[.long (-119)], vm := .none },
  { cls := 9, slots := #[.long (-118)], vm := .none },
  { cls := 9, slots := #[.long (-117)], vm := .none },
  { cls := 9, slots := #[.long (-116)], vm := .none },
  { cls := 9, slots := #[.long (-115)], vm := .none },
  { cls := 9, slots := #[.long (-114)], vm := .none },
  { cls := 9, slots := #[.long (-113)], vm := .none },
  { cls := 9, slots := #[.long (-112)], vm := .none },
  { cls := 9, slots := #[.long (-111)], vm := .none },
  { cls := 9, slots := #[.long (-110)], vm := .none },
  { cls := 9, slots := #[.long (-109)], vm := .none },
  { cls := 9, slots := #[.long (-108)], vm := .none },
  { cls := 9, slots := #[.long (-107)], vm := .none },
  { cls := 9, slots := #[.long (-106)], vm := .none },
  { cls := 9, slots := #[.long (-105)], vm := .none },
  { cls := 9, slots := #[.long (-104)], vm := .none },
  { cls := 9, slots := #[.long (-103)], vm := .none },
  { cls := 9, slots := #[.long (-102)], vm := .none },
  { cls := 9, slots := #[.long (-101)], vm := .none },
  { cls := 9, slots := #[.long (-100)], vm := .none },
  { cls := 9, slots := #[.long (-99)], vm := .none },
  { cls := 9, slots := #[.long (-98)], vm := .none },
  { cls := 9, slots := #[.long (-97)], vm := .none },
  { cls := 9, slots := #[.long (-96)], vm := .none },
  { cls := 9, slots := #[.long (-95)], vm := .none },
  { cls := 9, slots := #[.long (-94)], vm := .none },
  { cls := 9, slots := #[.long (-93)], vm := .none },
  { cls := 9, slots := #[.long (-92)], vm := .none },
  { cls := 9, slots := #[.long (-91)], vm := .none },
  { cls := 9, slots := #[.long (-90)], vm := .none },
  { cls := 9, slots := #[.long (-89)], vm := .none },
  { cls := 9, slots := #[.long (-88)], vm := .none },
  { cls := 9, slots := #[.long (-87)], vm := .none },
  { cls := 9, slots := #[.long (-86)], vm := .none },
  { cls := 9, slots := #[.long (-85)], vm := .none },
  { cls := 9, slots := #[.long (-84)], vm := .none },
  { cls := 9, slots := #[.long (-83)], vm := .none },
  { cls := 9, slots := #[.long (-82)], vm := .none },
  { cls := 9, slots := #[.long (-81)], vm := .none },
  { cls := 9, slots := #[.long (-80)], vm := .none },
  { cls := 9, slots := #[.long (-79)], vm := .none },
  { cls := 9, slots := #[.long (-78)], vm := .none },
  { cls := 9, slots := #[.long (-77)], vm := .none },
  { cls := 9, slots := #[.long (-76)], vm := .none },
  { cls := 9, slots := #[.long (-75)], vm := .none },
  { cls := 9, slots := #[.long (-74)], vm := .none },
  { cls := 9, slots := #[.long (-73)], vm := .none },
  { cls := 9, slots := #[.long (-72)], vm := .none },
  { cls := 9, slots := #[.long (-71)], vm := .none },
  { cls := 9, slots := #[.long (-70)], vm := .none },
  { cls := 9, slots := #[.long (-69)], vm := .none },
  { cls := 9, slots := #[.long (-68)], vm := .none },
  { cls := 9, slots := #[.long (-67)], vm := .none },
  { cls := 9, slots := #[.long (-66)], vm := .none },
  { cls := 9, slots := #[.long (-65)], vm := .none },
  { cls := 9, slots := #[.long (-64)], vm := .none },
  { cls := 9, slots := #[.long (-63)], vm := .none },
  { cls := 9, slots := #[.long (-62)], vm := .none },
  { cls := 9, slots := #[.long (-61)], vm := .none },
  { cls := 9, slots := #[.long (-60)], vm := .none },
  { cls := 9, slots := #[.long (-59)], vm := .none },
  { cls := 9, slots := #[.long (-58)], vm := .none },
  { cls := 9, slots := #[.long (-57)], vm := .none },
  { cls := 9, slots := #[.long (-56)], vm := .none },
  { cls := 9, slots := #[.long (-55)], vm := .none },
  { cls := 9, slots := #[.long (-54)], vm := .none },
  { cls := 9, slots := #[.long (-53)], vm := .none },
  { cls := 9, slots := #[.long (-52)], vm := .none },
  { cls := 9, slots := #[.long (-51)], vm := .none },
  { cls := 9, slots := #[.long (-50)], vm := .none },
  { cls := 9, slots := #[.long (-49)], vm := .none },
  { cls := 9, slots := #[.long (-48)], vm := .none },
  { cls := 9, slots := #[.long (-47)], vm := .none },
  { cls := 9, slots := #[.long (-46)], vm := .none },
  { cls := 9, slots := #[.long (-45)], vm := .none },
  { cls := 9, slots := #[.long (-44)], vm := .none },
  { cls := 9, slots := #[.long (-43)], vm := .none },
  { cls := 9, slots := #[.long (-42)], vm := .none },
  { cls := 9, slots := #[.long (-41)], vm := .none },
  { cls := 9, slots := #[.long (-40)], vm := .none },
  { cls := 9, slots := #[.long (-39)], vm := .none },
  { cls := 9, slots := #[.long (-38)], vm := .none },
  { cls := 9, slots := #[.long (-37)], vm := .none },
  { cls := 9, slots := #[.long (-36)], vm := .none },
  { cls := 9, slots := #[.long (-35)], vm := .none },
  { cls := 9, slots := #[.long (-34)], vm := .none },
  { cls := 9, slots := #[.long (-33)], vm := .none },
  { cls := 9, slots := #[.long (-32)], vm := .none },
  { cls := 9, slots := #[.long (-31)], vm := .none },
  { cls := 9, slots := #[.long (-30)], vm := .none },
  { cls := 9, slots := #[.long (-29)], vm := .none },
  { cls := 9, slots := #[.long (-28)], vm := .none },
  { cls := 9, slots := #[.long (-27)], vm := .none },
  { cls := 9, slots := #[.long (-26)], vm := .none },
  { cls := 9, slots := #[.long (-25)], vm := .none },
  { cls := 9, slots := #[.long (-24)], vm := .none },
  { cls := 9, slots := #[.long (-23)], vm := .none },
  { cls := 9, slots := #[.long (-22)], vm := .none },
  { cls := 9, slots := #[.long (-21)], vm := .none },
  { cls := 9, slots := #[.long (-20)], vm := .none },
  { cls := 9, slots := #[.long (-19)], vm := .none },
  { cls := 9, slots := #[.long (-18)], vm := .none },
  { cls := 9, slots := #[.long (-17)], vm := .none },
  { cls := 9, slots := #[.long (-16)], vm := .none },
  { cls := 9, slots := #[.long (-15)], vm := .none },
  { cls := 9, slots := #[.long (-14)], vm := .none },
  { cls := 9, slots := #[.long (-13)], vm := .none },
  { cls := 9, slots := #[.long (-12)], vm := .none },
  { cls := 9, slots := #[.long (-11)], vm := .none },
  { cls := 9, slots := #[.long (-10)], vm := .none },
  { cls := 9, slots := #[.long (-9)], vm := .none },
  { cls := 9, slots := #[.long (-8)], vm := .none },
  { cls := 9, slots := #[.long (-7)], vm := .none },
  { cls := 9, slots := #[.long (-6)], vm := .none },
  { cls := 9, slots := #[.long (-5)], vm := .none },
  { cls := 9, slots := #[.long (-4)], vm := .none },
  { cls := 9, slots := #[.long (-3)], vm := .none },
  { cls := 9, slots := #[.long (-2)], vm := .none },
  { cls := 9, slots := #[.long (-1)], vm := .none },
  { cls := 9, slots := #[.long (0)], vm := .none },
  { cls := 9, slots := #[.long (1)], vm := .none },
  { cls := 9, slots := #[.long (2)], vm := .none },
  { cls := 9, slots := #[.long (3)], vm := .none },
  { cls := 9, slots := #[.long (4)], vm := .none },
  { cls := 9, slots := #[.long (5)], vm := .none },
  { cls := 9, slots := #[.long (6)], vm := .none },
  { cls := 9, slots := #[.long (7)], vm := .none },
  { cls := 9, slots := #[.long (8)], vm := .none },
  { cls := 9, slots := #[.long (9)], vm := .none },
  { cls := 9, slots := #[.long (10)], vm := .none },
  { cls := 9, slots := #[.long (11)], vm := .none },
  { cls := 9, slots := #[.long (12)], vm := .none },
  { cls := 9, slots := #[.long (13)], vm := .none },
  { cls := 9, slots := #[.long (14)], vm := .none },
  { cls := 9, slots := #[.long (15)], vm := .none },
  { cls := 9, slots := #[.long (16)], vm := .none },
  { cls := 9, slots := #[.long (17)], vm := .none },
  { cls := 9, slots := #[.long (18)], vm := .none },
  { cls := 9, slots := #[.long (19)], vm := .none },
  { cls := 9, slots := #[.long (20)], vm := .none },
  { cls := 9, slots := #[.long (21)], vm := .none },
  { cls := 9, slots := #[.long (22)], vm := .none },
  { cls := 9, slots := #[.long (23)], vm := .none },
  { cls := 9, slots := #[.long (24)], vm := .none },
  { cls := 9, slots := #[.long (25)], vm := .none },
  { cls := 9, slots := #[.long (26)], vm := .none },
  { cls := 9, slots := #[.long (27)], vm := .none },
  { cls := 9, slots := #[.long (28)], vm := .none },
  { cls := 9, slots := #[.long (29)], vm := .none },
  { cls := 9, slots := #[.long (30)], vm := .none },
  { cls := 9, slots := #[.long (31)], vm := .none },
  { cls := 9, slots := #[.long (32)], vm := .none },
  { cls := 9, slots := #[.long (33)], vm := .none },
  { cls := 9, slots := #[.long (34)], vm := .none },
  { cls := 9, slots := #[.long (35)], vm := .none },
  { cls := 9, slots := #[.long (36)], vm := .none },
  { cls := 9, slots := #[.long (37)], vm := .none },
  { cls := 9, slots := #[.long (38)], vm := .none },
  { cls := 9, slots := #[.long (39)], vm := .none },
  { cls := 9, slots := #[.long (40)], vm := .none },
  { cls := 9, slots := #[.long (41)], vm := .none },
  { cls := 9, slots := #[.long (42)], vm := .none },
  { cls := 9, slots := #[.long (43)], vm := .none },
  { cls := 9, slots := #[.long (44)], vm := .none },
  { cls := 9, slots := #[.long (45)], vm := .none },
  { cls := 9, slots := #[.long (46)], vm := .none },
  { cls := 9, slots := #[.long (47)], vm := .none },
  { cls := 9, slots := #[.long (48)], vm := .none },
  { cls := 9, slots := #[.long (49)], vm := .none },
  { cls := 9, slots := #[.long (50)], vm := .none },
  { cls := 9, slots := #[.long (51)], vm := .none },
  { cls := 9, slots := #[.long (52)], vm := .none },
  { cls := 9, slots := #[.long (53)], vm := .none },
  { cls := 9, slots := #[.long (54)], vm := .none },
  { cls := 9, slots := #[.long (55)], vm := .none },
  { cls := 9, slots := #[.long (56)], vm := .none },
  { cls := 9, slots := #[.long (57)], vm := .none },
  { cls := 9, slots := #[.long (58)], vm := .none },
  { cls := 9, slots := #[.long (59)], vm := .none },
  { cls := 9, slots := #[.long (60)], vm := .none },
  { cls := 9, slots := #[.long (61)], vm := .none },
  { cls := 9, slots := #[.long (62)], vm := .none },
  { cls := 9, slots := #[.long (63)], vm := .none },
  { cls := 9, slots := #[.long (64)], vm := .none },
  { cls := 9, slots := #[.long (65)], vm := .none },
  { cls := 9, slots := #[.long (66)], vm := .none },
  { cls := 9, slots := #[.long (67)], vm := .none },
  { cls := 9, slots := #[.long (68)], vm := .none },
  { cls := 9, slots := #[.long (69)], vm := .none },
  { cls := 9, slots := #[.long (70)], vm := .none },
  { cls := 9, slots := #[.long (71)], vm := .none },
  { cls := 9, slots := #[.long (72)], vm := .none },
  { cls := 9, slots := #[.long (73)], vm := .none },
  { cls := 9, slots := #[.long (74)], vm := .none },
  { cls := 9, slots := #[.long (75)], vm := .none },
  { cls := 9, slots := #[.long (76)], vm := .none },
  { cls := 9, slots := #[.long (77)], vm := .none },
  { cls := 9, slots := #[.long (78)], vm := .none },
  { cls := 9, slots := #[.long (79)], vm := .none },
  { cls := 9, slots := #[.long (80)], vm := .none },
  { cls := 9, slots := #[.long (81)], vm := .none },
  { cls := 9, slots := #[.long (82)], vm := .none },
  { cls := 9, slots := #[.long (83)], vm := .none },
  { cls := 9, slots := #[.long (84)], vm := .none },
  { cls := 9, slots := #[.long (85)], vm := .none },
  { cls := 9, slots := #[.long (86)], vm := .none },
  { cls := 9, slots := #[.long (87)], vm := .none },
  { cls := 9, slots := #[.long (88)], vm := .none },
  { cls := 9, slots := #[.long (89)], vm := .none },
  { cls := 9, slots := #[.long (90)], vm := .none },
  { cls := 9, slots := #[.long (91)], vm := .none },
  { cls := 9, slots := #[.long (92)], vm := .none },
  { cls := 9, slots := #[.long (93)], vm := .none },
  { cls := 9, slots := #[.long (94)], vm := .none },
  { cls := 9, slots := #[.long (95)], vm := .none },
  { cls := 9, slots := #[.long (96)], vm := .none },
  { cls := 9, slots := #[.long (97)], vm := .none },
  { cls := 9, slots := #[.long (98)], vm := .none },
  { cls := 9, slots := #[.long (99)], vm := .none },
  { cls := 9, slots := #[.long (100)], vm := .none },
  { cls := 9, slots := #[.long (101)], vm := .none },
  { cls := 9, slots := #[.long (102)], vm := .none },
  { cls := 9, slots := #[.long (103)], vm := .none },
  { cls := 9, slots := #[.long (104)], vm := .none },
  { cls := 9, slots := #[.long (105)], vm := .none },
  { cls := 9, slots := #[.long (106)], vm := .none },
  { cls := 9, slots := #[.long (107)], vm := .none },
  { cls := 9, slots := #[.long (108)], vm := .none },
  { cls := 9, slots := #[.long (109)], vm := .none },
  { cls := 9, slots := #[.long (110)], vm := .none },
  { cls := 9, slots := #[.long (111)], vm := .none },
  { cls := 9, slots := #[.long (112)], vm := .none },
  { cls := 9, slots := #[.long (113)], vm := .none },
  { cls := 9, slots := #[.long (114)], vm := .none },
  { cls := 9, slots := #[.long (115)], vm := .none },
  { cls := 9, slots := #[.long (116)], vm := .none },
  { cls := 9, slots := #[.long (117)], vm := .none },
  { cls := 9, slots := #[.long (118)], vm := .none },
  { cls := 9, slots := #[.long (119)], vm := .none },
  { cls := 9, slots := #[.long (120)], vm := .none },
  { cls := 9, slots := #[.long (121)], vm := .none },
  { cls := 9, slots := #[.long (122)], vm := .none },
  { cls := 9, slots := #[.long (123)], vm := .none },
  { cls := 9, slots := #[.long (124)], vm := .none },
  { cls := 9, slots := #[.long (125)], vm := .none },
  { cls := 9, slots := #[.long (126)], vm := .none },
  { cls := 9, slots := #[.long (127)], vm := .none }]
def classes : Array Class := #[k0, k1, k2, k3, k4, k5, k6, k7, k8, k9, k10, k11, k12, k13, k14, k15, k16]
def interned : List (Array UInt16 × Addr) := []
def slotsUsed : Nat := 515
def theMethod : MethodId := ⟨1, 1⟩
def args0 : Array Value := #[.int 5, .int 5, .long 5, .long 5, .long 5, .long 5]
def aboutOver (below : List Frame) : State where
  vm := { classes := classes, interned := interned.toArray }
  heap := heap
  slotsUsed := slotsUsed
  threads := #[{ frames := .invoking theMethod args0 :: below }]
def below0 : List Frame := [.native { method := ⟨0, 0⟩, args := #[] }]
def about1 : State := aboutOver below0
def p0 : Program := .bare "" "" ""
def e0 : Env := launch0.env 0 0 0
theorem w_frames : about1.frames = Frame.invoking theMethod args0 :: below0 := rfl
set_option maxRecDepth 65536 in
theorem w_args : argsFit about1.vm theMethod args0 = true := by decide +kernel
set_option maxRecDepth 65536 in
theorem w_heap : heapFits about1 = true := by decide +kernel
set_option maxRecDepth 65536 in
theorem w_runnable : about1.curStatus? = some .runnable := by decide +kernel
set_option maxRecDepth 65536 in
theorem w_alone : about1.alone = true := by decide +kernel
set_option maxRecDepth 65536 in
theorem w_named : about1.methodNamed? x = some theMethod := by decide +kernel
set_option maxRecDepth 65536 in
theorem w_hears : about1.hears theMethod below0 = true := by decide +kernel
set_option maxRecDepth 65536 in
theorem w_ripe : about1.ripe theMethod args0 below0 = true := by decide +kernel
theorem w_running : about1.status = .running := rfl
set_option maxRecDepth 65536 in
theorem w_room : about1.hasRoom e0.platform room_1 = true :=
  launch0.hasRoom_least _ room_1 (by decide +kernel) (by decide +kernel) (by decide +kernel) (by decide +kernel) (by decide +kernel) (by decide +kernel)
theorem allAtoms_all (ts : List Jvm.Cond) (a : Array Jvm.Value) (st : Jvm.State) : (allAtoms ts).before a st = ts.all (fun c => c.before a st) := by
  induction ts with
  | nil => rfl
  | cons c t ih =>
    show (Jvm.Cond.and c (allAtoms t)).before a st = _
    rw [Jvm.Cond.before_and, ih, List.all_cons]
def words1 : List Jvm.Cond := Jvm.Cond.code x code maxLocals ret :: tables_1
/-- a 'code' word, met by the world's own term for the bytes: nothing is compared byte by byte -/
theorem code_word {y : MethodName} {bytes : ByteArray} {mx : Nat} {rt : Option FieldType} {a : Array Value} {s : State} {m : MethodId} {meth : Method} {c : Code} (h1 : s.methodNamed? y = some m) (h2 : s.vm.method? m = some meth) (h3 : meth.code = some c) (h4 : c.code = bytes)
    (h5 : (c.maxLocals == mx && c.exceptionTable.isEmpty && decide (c.maxStack ≤ mostOperands) && decide (meth.sig.returnType = rt) && !meth.locks && decide (parseMethodDescriptor y.desc = some meth.sig)) = true) : (Jvm.Cond.code y bytes mx rt).before a s = true := by
  simp only [Bool.and_eq_true, beq_iff_eq, Bool.not_eq_true', decide_eq_true_eq] at h5
  obtain ⟨⟨⟨⟨⟨g1, g2⟩, g3⟩, g4⟩, g5⟩, g6⟩ := h5
  simp [Cond.before, Cond.holds, Cond.value, h1, h2, h3, h4, g1, g2, g3, g4, g5, g6]
def isCode : Jvm.Cond → Bool
  | .code _ _ _ _ => true
  | _ => false
theorem all_split {L : List Jvm.Cond} {P : Jvm.Cond → Bool} (h1 : L.all (fun c => isCode c || P c) = true) (h2 : ∀ c ∈ L.filter isCode, P c = true) : L.all P = true := by
  refine List.all_eq_true.mpr fun c hc => ?_
  have h := List.all_eq_true.mp h1 c hc
  rcases Bool.eq_false_or_eq_true (isCode c) with hi | hi
  · exact h2 c (List.mem_filter.mpr ⟨hc, hi⟩)
  · simpa [hi] using h
set_option maxRecDepth 65536 in
theorem w_c0 : (Jvm.Cond.code x code maxLocals ret).before args0 about1 = true := code_word (m := ⟨1, 1⟩) (meth := k1m1) (c := k1c1) (by decide +kernel) rfl rfl rfl (by decide +kernel)
set_option maxRecDepth 65536 in
theorem w_c1 : (Jvm.Cond.code ({ cls := "com/example/imprimatur/imprimatur/verify/HashTree", name := "<init>", desc := "(IIJJ)V" } : Jvm.MethodName) prog_51_method_1_code (7 : Nat) (Option.none : Option Jvm.ClassFile.FieldType)).before args0 about1 = true := code_word (m := ⟨2, 0⟩) (meth := k2m0) (c := k2c0) (by decide +kernel) rfl rfl rfl (by decide +kernel)
set_option maxRecDepth 65536 in
theorem w_c2 : (Jvm.Cond.code ({ cls := "java/lang/Object", name := "<init>", desc := "()V" } : Jvm.MethodName) object_method_1_code (1 : Nat) (Option.none : Option Jvm.ClassFile.FieldType)).before args0 about1 = true := code_word (m := ⟨0, 0⟩) (meth := k0m0) (c := k0c0) (by decide +kernel) rfl rfl rfl (by decide +kernel)
set_option maxRecDepth 65536 in
theorem w_c3 : (Jvm.Cond.code ({ cls := "com/example/imprimatur/imprimatur/verify/HashTree", name := "checkedBlockSize", desc := "(I)I" } : Jvm.MethodName) prog_51_method_2_code (1 : Nat) (Option.some Jvm.ClassFile.FieldType.int)).before args0 about1 = true := code_word (m := ⟨2, 1⟩) (meth := k2m1) (c := k2c1) (by decide +kernel) rfl rfl rfl (by decide +kernel)
set_option maxRecDepth 65536 in
theorem w_c4 : (Jvm.Cond.code ({ cls := "java/lang/Integer", name := "bitCount", desc := "(I)I" } : Jvm.MethodName) jdk_33_method_49_code (1 : Nat) (Option.some Jvm.ClassFile.FieldType.int)).before args0 about1 = true := code_word (m := ⟨8, 0⟩) (meth := k8m0) (c := k8c0) (by decide +kernel) rfl rfl rfl (by decide +kernel)
set_option maxRecDepth 65536 in
theorem w_c5 : (Jvm.Cond.code ({ cls := "com/example/imprimatur/imprimatur/verify/HashTree", name := "equals", desc := "(Ljava/lang/Object;)Z" } : Jvm.MethodName) prog_51_method_4_code (3 : Nat) (Option.some Jvm.ClassFile.FieldType.boolean)).before args0 about1 = true := code_word (m := ⟨2, 2⟩) (meth := k2m2) (c := k2c2) (by decide +kernel) rfl rfl rfl (by decide +kernel)
set_option maxRecDepth 65536 in
theorem w_c6 : (Jvm.Cond.code ({ cls := "java/lang/Long", name := "valueOf", desc := "(J)Ljava/lang/Long;" } : Jvm.MethodName) jdk_35_method_24_code (3 : Nat) (Option.some (Jvm.ClassFile.FieldType.object "java/lang/Long"))).before args0 about1 = true := code_word (m := ⟨9, 0⟩) (meth := k9m0) (c := k9c0) (by decide +kernel) rfl rfl rfl (by decide +kernel)
set_option maxRecDepth 65536 in
theorem w_c7 : (Jvm.Cond.code ({ cls := "java/lang/Long", name := "<init>", desc := "(J)V" } : Jvm.MethodName) jdk_35_method_26_code (3 : Nat) (Option.none : Option Jvm.ClassFile.FieldType)).before args0 about1 = true := code_word (m := ⟨9, 1⟩) (meth := k9m1) (c := k9c1) (by decide +kernel) rfl rfl rfl (by decide +kernel)
set_option maxRecDepth 65536 in
theorem w_c8 : (Jvm.Cond.code ({ cls := "java/lang/Number", name := "<init>", desc := "()V" } : Jvm.MethodName) jdk_18_method_1_code (1 : Nat) (Option.none : Option Jvm.ClassFile.FieldType)).before args0 about1 = true := code_word (m := ⟨4, 0⟩) (meth := k4m0) (c := k4c0) (by decide +kernel) rfl rfl rfl (by decide +kernel)
def codes1 : List Jvm.Cond := [Jvm.Cond.code x code maxLocals ret, Jvm.Cond.code ({ cls := "com/example/imprimatur/imprimatur/verify/HashTree", name := "<init>", desc := "(IIJJ)V" } : Jvm.MethodName) prog_51_method_1_code (7 : Nat) (Option.none : Option Jvm.ClassFile.FieldType), Jvm.Cond.code ({ cls := "java/lang/Object", name := "<init>", desc := "()V" } : Jvm.MethodName) object_method_1_code (1 : Nat) (Option.none : Option Jvm.ClassFile.FieldType), Jvm.Cond.code ({ cls := "com/example/imprimatur/imprimatur/verify/HashTree", name := "checkedBlockSize", desc := "(I)I" } : Jvm.MethodName) prog_51_method_2_code (1 : Nat) (Option.some Jvm.ClassFile.FieldType.int), Jvm.Cond.code ({ cls := "java/lang/Integer", name := "bitCount", desc := "(I)I" } : Jvm.MethodName) jdk_33_method_49_code (1 : Nat) (Option.some Jvm.ClassFile.FieldType.int), Jvm.Cond.code ({ cls := "com/example/imprimatur/imprimatur/verify/HashTree", name := "equals", desc := "(Ljava/lang/Object;)Z" } : Jvm.MethodName) prog_51_method_4_code (3 : Nat) (Option.some Jvm.ClassFile.FieldType.boolean), Jvm.Cond.code ({ cls := "java/lang/Long", name := "valueOf", desc := "(J)Ljava/lang/Long;" } : Jvm.MethodName) jdk_35_method_24_code (3 : Nat) (Option.some (Jvm.ClassFile.FieldType.object "java/lang/Long")), Jvm.Cond.code ({ cls := "java/lang/Long", name := "<init>", desc := "(J)V" } : Jvm.MethodName) jdk_35_method_26_code (3 : Nat) (Option.none : Option Jvm.ClassFile.FieldType), Jvm.Cond.code ({ cls := "java/lang/Number", name := "<init>", desc := "()V" } : Jvm.MethodName) jdk_18_method_1_code (1 : Nat) (Option.none : Option Jvm.ClassFile.FieldType)]
set_option maxRecDepth 65536 in
theorem codes_eq : words1.filter isCode = codes1 := rfl
theorem w_codes : ∀ c ∈ words1.filter isCode, c.before args0 about1 = true := by
  rw [codes_eq]
  intro c hc
  simp only [codes1, List.mem_cons, List.not_mem_nil, or_false] at hc
  rcases hc with rfl | rfl | rfl | rfl | rfl | rfl | rfl | rfl | rfl
  · exact w_c0
  · exact w_c1
  · exact w_c2
  · exact w_c3
  · exact w_c4
  · exact w_c5
  · exact w_c6
  · exact w_c7
  · exact w_c8
set_option maxRecDepth 65536 in
theorem w_t1 : (words1.take 24).all (fun c => isCode c || c.before args0 about1) = true := by decide +kernel
set_option maxRecDepth 65536 in
theorem w_t2 : ((words1.drop 24).take 24).all (fun c => isCode c || c.before args0 about1) = true := by decide +kernel
set_option maxRecDepth 65536 in
theorem w_t3 : ((words1.drop 24).drop 24).all (fun c => isCode c || c.before args0 about1) = true := by decide +kernel
theorem w_tables : (allAtoms (Jvm.Cond.code x code maxLocals ret :: tables_1)).before args0 about1 = true := by
  rw [allAtoms_all]
  show words1.all (fun c => c.before args0 about1) = true
  refine all_split ?_ w_codes
  rw [← List.take_append_drop 24 words1, List.all_append, w_t1, ← List.take_append_drop 24 (words1.drop 24), List.all_append, w_t2, w_t3]
  rfl
set_option maxRecDepth 65536 in
theorem w_rest : rest_1_c.before args0 about1 = true := by decide +kernel
set_option maxRecDepth 65536 in
theorem w_case : (Jvm.Cond.and given_1 narrow_1).before args0 about1 = true := by decide +kernel
theorem w_applies : (headSpec (Jvm.Cond.code x code maxLocals ret :: tables_1) room_1).applies x e0.platform about1 = true :=
  (Spec.applies_iff w_frames).mpr ⟨w_running, w_runnable, w_alone, w_named, w_hears, w_ripe, w_room, w_tables⟩
theorem atStart : AtStart classFile x code maxLocals ret World_1 tables_1 room_1 Calls_1 rest_1 Pre_1 launch0 p0 e0 about1 theMethod args0 below0 :=
  ⟨lists_1, trivial, launch0.admits_env _ _ _, launch0.least_env, fairChoices_fair.cas, fairChoices_fair.clock, w_frames, w_args, w_heap, w_applies, trivial, w_rest, w_case⟩
end start1
theorem witness_1 : WitnessClaimed_1 := ⟨start1.p0, start1.e0, start1.about1, start1.theMethod, start1.args0, start1.below0, start1.atStart⟩
end Jvm.Pilot.@@N@@
