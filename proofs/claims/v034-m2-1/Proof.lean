import JvmDerived
import JvmDerived.Pilot.@@N@@Statement
import JvmDerived.Pilot.@@N@@Code
set_option linter.unusedVariables false
set_option linter.unusedSimpArgs false
namespace Jvm.RoadKit
open Sem ClassFile Op Lib Jvm.Stand Jvm.Free Jvm.LawKit
section New
variable {p : Program} {l : Launch} {e : Env} {R : Room} {s : State} {m : MethodId} {args : Array Value} {below : List Frame} {meth : Method} {c : Code} {T : State} {locs : List Loc} {cells slots : Nat}
theorem retI (X : Stand p l e R s m args below meth c T locs cells slots) (hx : p.tables.exec = Jvm.exec) {pc : Nat} {Ls : Array Slot} {z : Int32} {rest : List Value} (hret : meth.sig.returnType = some .int) (hd : decode c.code pc = .ok (.ireturn, 1)) {fs : List Frame}
    (hl : ∀ (f : JFrame) (acts : List Action), f.method = m → f.locked = none → f.entered = [] → (doReturn e (T.setTop f) acts (some (.int z))).1 = T.setFrames fs) : Steps p.tables e below (T.setTop (mkF m pc Ls (.int z :: rest))) (T.setFrames fs) := by
  have hm' : T.vm.method? m = some meth := X.method'
  have hn : narrow .int (.int z) = .int z := rfl
  show Steps p.tables e below (T.setTop { method := m, pc := pc, locals := Ls, stack := _ :: rest, locked := none }) _
  jvm_step X.here [X.here.top, hx, hd, hm', hret, hn]
  first | (intro acts; rw [hl _ acts rfl rfl rfl]) | rw [hl _ _ rfl rfl rfl]
  exact Steps.refl _
end New
end Jvm.RoadKit
namespace Jvm.Pilot.@@N@@
open Jvm Jvm.ClassFile Sem Op Lib Jvm.Free Jvm.Stand Jvm.LawKit Jvm.RoadKit Bundle Jvm.Pilot.@@N@@.Jvm.D
theorem own_lc_lt (x y : Int64) : lcmpW x y < 0 ↔ x < y := by rw [lcW]; exact lc_lt x y
theorem own_lc_gt (x y : Int64) : 0 < lcmpW x y ↔ y < x := by rw [lcW]; exact lc_gt x y
theorem own_lc_eq (x y : Int64) : lcmpW x y = 0 ↔ x = y := by rw [lcW]; exact lc_eq x y
theorem own_ri {P : Prop} [Decidable P] {a b : Value} (h1 : a.isRef = true) (h2 : b.isRef = true) : (if P then a else b).isRef = true := by
  by_cases h : P
  · rw [if_pos h]; exact h1
  · rw [if_neg h]; exact h2
theorem own_sta_keep {Z : State} {h h' : Heap} {C n d : String} {w : Value} {ws : List Addr} (F : Sta Z h C n d w) (K : Keep h h' ws) (q : ∀ x ∈ ws, ∀ cell : Cell, h[x]? = some cell → cell.vm.isStatics = false) : Sta Z h' C n d w := by
  obtain ⟨cf, i, k, f, st, cell, h1, h2, h3, h4, h5, h6, h7⟩ := F
  exact ⟨cf, i, k, f, st, cell, h1, h2, h3, h4, K.2.1 st cell h5 (fun z => by rw [q st z cell h5] at h6; cases h6), h6, h7⟩
theorem pd_0 : parseMethodDescriptor "([BII)I" = some ⟨[(.array .byte), .int, .int], some .int⟩ := by decide +kernel
/-- a small int by its number -/
theorem own_small {x : Int32} {n : Nat} (hn : n ≤ 4096) (h0 : 0 ≤ x.toInt) (h1 : x.toInt < n) : ∃ k : Fin n, x = Int32.ofNat k.val := by
  refine ⟨⟨x.toInt.toNat, by omega⟩, ?_⟩
  apply Int32.toInt_inj.mp
  rw [Int32.toInt_ofNat_of_lt (by show x.toInt.toNat < 2 ^ 31; omega)]
  show x.toInt = ((x.toInt.toNat : Nat) : Int)
  omega
theorem own_contK : ∀ k : Fin 64, ((nar .byte ((128 ||| Int32.ofNat k.val).toInt8.toInt32)) &&& (63 : Int32)) = Int32.ofNat k.val := by decide +kernel
theorem own_lead2K : ∀ k : Fin 32, (((nar .byte ((192 ||| Int32.ofNat k.val).toInt8.toInt32)) &&& (255 : Int32)) &&& ((127 : Int32) >>> ((2 : Int32) &&& 31))) = Int32.ofNat k.val := by decide +kernel
theorem own_lead3K : ∀ k : Fin 16, (((nar .byte ((224 ||| Int32.ofNat k.val).toInt8.toInt32)) &&& (255 : Int32)) &&& ((127 : Int32) >>> ((3 : Int32) &&& 31))) = Int32.ofNat k.val := by decide +kernel
theorem own_lead4K : ∀ k : Fin 8, (((nar .byte ((240 ||| Int32.ofNat k.val).toInt8.toInt32)) &&& (255 : Int32)) &&& ((127 : Int32) >>> ((4 : Int32) &&& 31))) = Int32.ofNat k.val := by decide +kernel
theorem own_lead1K : ∀ k : Fin 128, ((nar .byte ((Int32.ofNat k.val).toInt8.toInt32)) &&& (255 : Int32)) = Int32.ofNat k.val := by decide +kernel
theorem own_cont {x : Int32} (h0 : 0 ≤ x.toInt) (h1 : x.toInt < 64) : ((nar .byte ((128 ||| x).toInt8.toInt32)) &&& (63 : Int32)) = x := by
  obtain ⟨k, rfl⟩ := own_small (n := 64) (by decide) h0 h1; exact own_contK k
theorem own_lead1 {x : Int32} (h0 : 0 ≤ x.toInt) (h1 : x.toInt < 128) : ((nar .byte (x.toInt8.toInt32)) &&& (255 : Int32)) = x := by
  obtain ⟨k, rfl⟩ := own_small (n := 128) (by decide) h0 h1; exact own_lead1K k
theorem own_lead2 {x : Int32} (h0 : 0 ≤ x.toInt) (h1 : x.toInt < 32) : (((nar .byte ((192 ||| x).toInt8.toInt32)) &&& (255 : Int32)) &&& ((127 : Int32) >>> ((2 : Int32) &&& 31))) = x := by
  obtain ⟨k, rfl⟩ := own_small (n := 32) (by decide) h0 h1; exact own_lead2K k
theorem own_lead3 {x : Int32} (h0 : 0 ≤ x.toInt) (h1 : x.toInt < 16) : (((nar .byte ((224 ||| x).toInt8.toInt32)) &&& (255 : Int32)) &&& ((127 : Int32) >>> ((3 : Int32) &&& 31))) = x := by
  obtain ⟨k, rfl⟩ := own_small (n := 16) (by decide) h0 h1; exact own_lead3K k
theorem own_lead4 {x : Int32} (h0 : 0 ≤ x.toInt) (h1 : x.toInt < 8) : (((nar .byte ((240 ||| x).toInt8.toInt32)) &&& (255 : Int32)) &&& ((127 : Int32) >>> ((4 : Int32) &&& 31))) = x := by
  obtain ⟨k, rfl⟩ := own_small (n := 8) (by decide) h0 h1; exact own_lead4K k
theorem own_join {y z : Int32} (y0 : 0 ≤ y.toInt) (y1 : y.toInt < 1048576) (z0 : 0 ≤ z.toInt) (z1 : z.toInt < 64) : ((y <<< ((6 : Int32) &&& 31)) ||| z).toInt = y.toInt * 64 + z.toInt := by
  have e1 := c_ishl y (6 : Int32) 6 rfl
  have b1 := Int32.le_toInt (y <<< ((6 : Int32) &&& 31))
  have b2 := Int32.toInt_lt (y <<< ((6 : Int32) &&& 31))
  have e2 := c_or (y <<< ((6 : Int32) &&& 31)) z 6 (by decide) 64 rfl
  have b3 := Int32.le_toInt ((y <<< ((6 : Int32) &&& 31)) ||| z)
  have b4 := Int32.toInt_lt ((y <<< ((6 : Int32) &&& 31)) ||| z)
  rw [show ((2 ^ 6 : Nat) : Int) = 64 from rfl] at e1
  have e3 : (y <<< ((6 : Int32) &&& 31)).toInt = y.toInt * 64 := by omega
  have e4 := e2 (by omega) z0 z1
  omega
theorem own_and63 (v : Int32) : (v &&& (63 : Int32)).toInt = v.toInt % 64 := c_mask v 63 6 (by decide) rfl
theorem own_shr6 (v : Int32) : (v >>> ((6 : Int32) &&& 31)).toInt = v.toInt / 64 := c_ishr v 6 6 rfl
theorem own_shr12 (v : Int32) : (v >>> ((12 : Int32) &&& 31)).toInt = v.toInt / 4096 := c_ishr v 12 12 rfl
theorem own_shr18 (v : Int32) : (v >>> ((18 : Int32) &&& 31)).toInt = v.toInt / 262144 := c_ishr v 18 18 rfl
def own_cp1 (w0 : Int32) : Int32 := (w0 &&& (255 : Int32))
theorem d1_0 : decode prog_39_method_13_code 0 = .ok (.aload_n 0, 1) := by decide +kernel
theorem d1_1 : decode prog_39_method_13_code 1 = .ok (.iload_n 1, 1) := by decide +kernel
theorem d1_2 : decode prog_39_method_13_code 2 = .ok (.baload, 1) := by decide +kernel
theorem d1_3 : decode prog_39_method_13_code 3 = .ok (.sipush 255, 3) := by decide +kernel
theorem d1_6 : decode prog_39_method_13_code 6 = .ok (.iand, 1) := by decide +kernel
theorem d1_7 : decode prog_39_method_13_code 7 = .ok (.istore_n 3, 1) := by decide +kernel
theorem d1_8 : decode prog_39_method_13_code 8 = .ok (.iload_n 2, 1) := by decide +kernel
theorem d1_9 : decode prog_39_method_13_code 9 = .ok (.iconst 1, 1) := by decide +kernel
theorem d1_10 : decode prog_39_method_13_code 10 = .ok (.if_icmp .ne 5, 3) := by decide +kernel
theorem d1_13 : decode prog_39_method_13_code 13 = .ok (.iload_n 3, 1) := by decide +kernel
theorem d1_14 : decode prog_39_method_13_code 14 = .ok (.ireturn, 1) := by decide +kernel
theorem d1_15 : decode prog_39_method_13_code 15 = .ok (.iload_n 3, 1) := by decide +kernel
theorem d1_16 : decode prog_39_method_13_code 16 = .ok (.bipush 127, 2) := by decide +kernel
theorem d1_18 : decode prog_39_method_13_code 18 = .ok (.iload_n 2, 1) := by decide +kernel
theorem d1_19 : decode prog_39_method_13_code 19 = .ok (.ishr, 1) := by decide +kernel
theorem d1_20 : decode prog_39_method_13_code 20 = .ok (.iand, 1) := by decide +kernel
theorem d1_21 : decode prog_39_method_13_code 21 = .ok (.istore 4, 2) := by decide +kernel
theorem d1_23 : decode prog_39_method_13_code 23 = .ok (.iconst 1, 1) := by decide +kernel
theorem d1_24 : decode prog_39_method_13_code 24 = .ok (.istore 5, 2) := by decide +kernel
theorem d1_26 : decode prog_39_method_13_code 26 = .ok (.iload 5, 2) := by decide +kernel
theorem d1_28 : decode prog_39_method_13_code 28 = .ok (.iload_n 2, 1) := by decide +kernel
theorem d1_29 : decode prog_39_method_13_code 29 = .ok (.if_icmp .ge 26, 3) := by decide +kernel
theorem d1_32 : decode prog_39_method_13_code 32 = .ok (.iload 4, 2) := by decide +kernel
theorem d1_34 : decode prog_39_method_13_code 34 = .ok (.bipush 6, 2) := by decide +kernel
theorem d1_36 : decode prog_39_method_13_code 36 = .ok (.ishl, 1) := by decide +kernel
theorem d1_37 : decode prog_39_method_13_code 37 = .ok (.aload_n 0, 1) := by decide +kernel
theorem d1_38 : decode prog_39_method_13_code 38 = .ok (.iload_n 1, 1) := by decide +kernel
theorem d1_39 : decode prog_39_method_13_code 39 = .ok (.iload 5, 2) := by decide +kernel
theorem d1_41 : decode prog_39_method_13_code 41 = .ok (.iadd, 1) := by decide +kernel
theorem d1_42 : decode prog_39_method_13_code 42 = .ok (.baload, 1) := by decide +kernel
theorem d1_43 : decode prog_39_method_13_code 43 = .ok (.bipush 63, 2) := by decide +kernel
theorem d1_45 : decode prog_39_method_13_code 45 = .ok (.iand, 1) := by decide +kernel
theorem d1_46 : decode prog_39_method_13_code 46 = .ok (.ior, 1) := by decide +kernel
theorem d1_47 : decode prog_39_method_13_code 47 = .ok (.istore 4, 2) := by decide +kernel
theorem d1_49 : decode prog_39_method_13_code 49 = .ok (.iinc 5 1, 3) := by decide +kernel
theorem d1_52 : decode prog_39_method_13_code 52 = .ok (.goto (-26), 3) := by decide +kernel
theorem d1_55 : decode prog_39_method_13_code 55 = .ok (.iload 4, 2) := by decide +kernel
theorem d1_57 : decode prog_39_method_13_code 57 = .ok (.ireturn, 1) := by decide +kernel
theorem pn_0 : plainName "com/example/murray_hill/murrayhill/WellFormed" = true := by first | (simp [plainName, overriddenIn]; done) | decide +kernel
theorem ef_rmCP1 (m : MethodId) (x0 : Addr) (x1 : Int32) (x2 : Int32) : entryFrame m #[(.ref x0), (.int x1), (.int x2)] 6 = mkF m 0 #[.val (.ref x0), .val (.int x1), .val (.int x2), .unset, .unset, .unset] [] := by first | (simp [entryFrame, mkF, argsToLocals, Value.category]; done) | rfl
def Q_rmCP1 (Z : State) (r0 : Addr) (p1 : Int32) (cl : Cell) (w0 : Int32) (h0 : Heap) (n0 : Nat) (v : Option Value) (h : Heap) (L : List Loc) : Prop := v = some (.int (own_cp1 w0)) ∧ Fr n0 L ∧ h = h0
set_option maxRecDepth 65536 in
set_option maxHeartbeats 40000000 in
theorem rmCP1 (l : Launch) (Z : State) (a0 : Array Value) (hw : ∀ d ∈ tables_1, d.before a0 Z = true) (ws : List Jvm.Cond) (r0 : Addr) (p1 : Int32) (cl : Cell) (w0 : Int32) (h0 : Heap) (n0 : Nat) (Z0 : n0 ≤ h0.size) (Ar : Arr Z h0 r0 cl .byte) (hin0 : ¬ (p1 < 0 ∨ cl.slots.size ≤ (p1).toNatClampNeg)) (hat0 : cl.slots[(p1).toNatClampNeg]? = some (.int w0)) :
    MetFree l (⟨"com/example/murray_hill/murrayhill/WellFormed", "codePoint", "([BII)I"⟩ : MethodName) (head1 (Jvm.Cond.code (⟨"com/example/murray_hill/murrayhill/WellFormed", "codePoint", "([BII)I"⟩ : MethodName) prog_39_method_13_code 6 (some .int) :: ws) ({ frames := 0, cells := 0, slots := 0, locals := 0 } : Room)) (fun a U => a = #[(.ref r0), (.int p1), (.int (1 : Int32))] ∧ Z.Warmed39 U.vm ∧ U.heap = h0) (fun _ _ _ _ _ => True) (fun _ U o U' => ∃ v L, o = .returned v ∧ Q_rmCP1 Z r0 p1 cl w0 h0 n0 v U'.heap L ∧ FrameEnd U o U' L ({ frames := 0, cells := 0, slots := 0, locals := 0 } : Room).cells ({ frames := 0, cells := 0, slots := 0, locals := 0 } : Room).slots) := by
  refine MetFree.of_bodySF (plainFor_of_name pn_0) hisR ?_
  intro p e s m args below meth c s₁ Bd hml0 hP hK
  obtain ⟨rfl, hZ, hh⟩ := hP
  have hx := Bd.exec
  have hby := Bd.bytes
  have hml : c.maxLocals = 6 := hml0
  have hown : s.vm.findClass "com/example/murray_hill/murrayhill/WellFormed" = some m.cls := findClass_of_methodNamed Bd.named
  have hnm := (name_of_methodNamed Bd.named Bd.method).1
  have X0 : Stand p l e ({ frames := 0, cells := 0, slots := 0, locals := 0 } : Room) s m #[(.ref r0), (.int p1), (.int (1 : Int32))] below meth c s₁ [] 0 0 := Stand.of_body Bd
  have e0 : s₁.heap = h0 := by rw [← hh, Bd.state]; rfl
  have N0 := Fr.nil n0
  have pre0 : ∀ t, Steps p.tables e below (s₁.setTop (mkF m 0 #[.val (.ref r0), .val (.int p1), .val (.int (1 : Int32)), .unset, .unset, .unset] [])) t → Steps p.tables e below (s₁.setTop (entryFrame m #[(.ref r0), (.int p1), (.int (1 : Int32))] 6)) t := fun t k => castTop (ef_rmCP1 m r0 p1 (1 : Int32)) k
  have st1 : ∀ target, Steps p.tables e below (s₁.setTop (mkF m 2 #[.val (.ref r0), .val (.int p1), .val (.int (1 : Int32)), .unset, .unset, .unset] [(.int p1), (.ref r0)])) target → Steps p.tables e below (s₁.setTop (mkF m 0 #[.val (.ref r0), .val (.int p1), .val (.int (1 : Int32)), .unset, .unset, .unset] [])) target := by
    intro target kt
    show Steps p.tables e below (s₁.setTop (mkF m 0 #[.val (.ref r0), .val (.int p1), .val (.int (1 : Int32)), .unset, .unset, .unset] [])) _
    refine XS.aloadN X0.here hx rfl (hb hby d1_0) rfl rfl ?_
    show Steps p.tables e below (s₁.setTop (mkF m 1 #[.val (.ref r0), .val (.int p1), .val (.int (1 : Int32)), .unset, .unset, .unset] [(.ref r0)])) _
    refine XS.iloadN X0.here hx rfl (hb hby d1_1) rfl ?_
    exact kt
  have st2 : ∀ target, Steps p.tables e below (s₁.setTop (mkF m 3 #[.val (.ref r0), .val (.int p1), .val (.int (1 : Int32)), .unset, .unset, .unset] [(.int w0)])) target → Steps p.tables e below (s₁.setTop (mkF m 2 #[.val (.ref r0), .val (.int p1), .val (.int (1 : Int32)), .unset, .unset, .unset] [(.int p1), (.ref r0)])) target := fun target kt => X0.baloadBytes hx (j := p1) (v := (.int w0)) (by rw [e0]; exact Ar.1) (State.isArrayOf_alike hZ.alike Ar.2.1) Ar.2.2 hin0 hat0 (g := (mkF m 2 #[.val (.ref r0), .val (.int p1), .val (.int (1 : Int32)), .unset, .unset, .unset] [(.int p1), (.ref r0)])) rfl rfl (hb hby d1_2) _ kt
  obtain ⟨fs, hr, hrun, hended, hW, hsame⟩ := X0.leave (v := some (.int (w0 &&& (255 : Int32)))) (fun h => by rw [Bd.returns] at h; cases h)
  refine ⟨_, _, pre0 _ (st1 _ (st2 _ ?_)), hrun, hended, _, _, rfl, ?_, ⟨_, rfl⟩, hW, hsame.mono (by decide) (by decide)⟩
  · show Steps p.tables e below (s₁.setTop (mkF m 3 #[.val (.ref r0), .val (.int p1), .val (.int (1 : Int32)), .unset, .unset, .unset] [(.int w0)])) _
    refine XS.sipush X0.here hx rfl (hb hby d1_3) ?_
    show Steps p.tables e below (s₁.setTop (mkF m 6 #[.val (.ref r0), .val (.int p1), .val (.int (1 : Int32)), .unset, .unset, .unset] [(.int (255 : Int32)), (.int w0)])) _
    refine XS.iand X0.here hx rfl (hb hby d1_6) rfl ?_
    show Steps p.tables e below (s₁.setTop (mkF m 7 #[.val (.ref r0), .val (.int p1), .val (.int (1 : Int32)), .unset, .unset, .unset] [(.int (w0 &&& (255 : Int32)))])) _
    refine XS.istoreN X0.here hx rfl (hb hby d1_7) rfl (l' := #[.val (.ref r0), .val (.int p1), .val (.int (1 : Int32)), .val (.int (w0 &&& (255 : Int32))), .unset, .unset]) rfl ?_
    show Steps p.tables e below (s₁.setTop (mkF m 8 #[.val (.ref r0), .val (.int p1), .val (.int (1 : Int32)), .val (.int (w0 &&& (255 : Int32))), .unset, .unset] [])) _
    refine XS.iloadN X0.here hx rfl (hb hby d1_8) rfl ?_
    show Steps p.tables e below (s₁.setTop (mkF m 9 #[.val (.ref r0), .val (.int p1), .val (.int (1 : Int32)), .val (.int (w0 &&& (255 : Int32))), .unset, .unset] [(.int (1 : Int32))])) _
    refine XS.iconst X0.here hx rfl (hb hby d1_9) ?_
    show Steps p.tables e below (s₁.setTop (mkF m 10 #[.val (.ref r0), .val (.int p1), .val (.int (1 : Int32)), .val (.int (w0 &&& (255 : Int32))), .unset, .unset] [(.int (1 : Int32)), (.int (1 : Int32))])) _
    refine XS.icmpNo X0.here hx rfl (hb hby d1_10) rfl (teq (rfl : (1 : Int32) = (1 : Int32))).2 ?_
    show Steps p.tables e below (s₁.setTop (mkF m 13 #[.val (.ref r0), .val (.int p1), .val (.int (1 : Int32)), .val (.int (w0 &&& (255 : Int32))), .unset, .unset] [])) _
    refine XS.iloadN X0.here hx rfl (hb hby d1_13) rfl ?_
    show Steps p.tables e below (s₁.setTop (mkF m 14 #[.val (.ref r0), .val (.int p1), .val (.int (1 : Int32)), .val (.int (w0 &&& (255 : Int32))), .unset, .unset] [(.int (w0 &&& (255 : Int32)))])) _
    exact retI X0 hx Bd.returns (hb hby d1_14) hr
  · show Q_rmCP1 Z r0 p1 cl w0 h0 n0 _ s₁.heap _
    rw [e0]
    exact ⟨rfl, N0, rfl⟩
def own_cp2 (w0 w1 : Int32) : Int32 := ((((w0 &&& (255 : Int32)) &&& ((127 : Int32) >>> ((2 : Int32) &&& 31))) <<< ((6 : Int32) &&& 31)) ||| (w1 &&& (63 : Int32)))
theorem ef_rmCP2 (m : MethodId) (x0 : Addr) (x1 : Int32) (x2 : Int32) : entryFrame m #[(.ref x0), (.int x1), (.int x2)] 6 = mkF m 0 #[.val (.ref x0), .val (.int x1), .val (.int x2), .unset, .unset, .unset] [] := by first | (simp [entryFrame, mkF, argsToLocals, Value.category]; done) | rfl
def Q_rmCP2 (Z : State) (r0 : Addr) (p1 : Int32) (cl : Cell) (w0 : Int32) (w1 : Int32) (h0 : Heap) (n0 : Nat) (v : Option Value) (h : Heap) (L : List Loc) : Prop := v = some (.int (own_cp2 w0 w1)) ∧ Fr n0 L ∧ h = h0
set_option maxRecDepth 65536 in
set_option maxHeartbeats 40000000 in
theorem rmCP2 (l : Launch) (Z : State) (a0 : Array Value) (hw : ∀ d ∈ tables_1, d.before a0 Z = true) (ws : List Jvm.Cond) (r0 : Addr) (p1 : Int32) (cl : Cell) (w0 : Int32) (w1 : Int32) (h0 : Heap) (n0 : Nat) (Z0 : n0 ≤ h0.size) (Ar : Arr Z h0 r0 cl .byte) (hin0 : ¬ (p1 < 0 ∨ cl.slots.size ≤ (p1).toNatClampNeg)) (hin1 : ¬ ((p1 + (1 : Int32)) < 0 ∨ cl.slots.size ≤ ((p1 + (1 : Int32))).toNatClampNeg)) (hat0 : cl.slots[(p1).toNatClampNeg]? = some (.int w0)) (hat1 : cl.slots[((p1 + (1 : Int32))).toNatClampNeg]? = some (.int w1)) :
    MetFree l (⟨"com/example/murray_hill/murrayhill/WellFormed", "codePoint", "([BII)I"⟩ : MethodName) (head1 (Jvm.Cond.code (⟨"com/example/murray_hill/murrayhill/WellFormed", "codePoint", "([BII)I"⟩ : MethodName) prog_39_method_13_code 6 (some .int) :: ws) ({ frames := 0, cells := 0, slots := 0, locals := 0 } : Room)) (fun a U => a = #[(.ref r0), (.int p1), (.int (2 : Int32))] ∧ Z.Warmed39 U.vm ∧ U.heap = h0) (fun _ _ _ _ _ => True) (fun _ U o U' => ∃ v L, o = .returned v ∧ Q_rmCP2 Z r0 p1 cl w0 w1 h0 n0 v U'.heap L ∧ FrameEnd U o U' L ({ frames := 0, cells := 0, slots := 0, locals := 0 } : Room).cells ({ frames := 0, cells := 0, slots := 0, locals := 0 } : Room).slots) := by
  refine MetFree.of_bodySF (plainFor_of_name pn_0) hisR ?_
  intro p e s m args below meth c s₁ Bd hml0 hP hK
  obtain ⟨rfl, hZ, hh⟩ := hP
  have hx := Bd.exec
  have hby := Bd.bytes
  have hml : c.maxLocals = 6 := hml0
  have hown : s.vm.findClass "com/example/murray_hill/murrayhill/WellFormed" = some m.cls := findClass_of_methodNamed Bd.named
  have hnm := (name_of_methodNamed Bd.named Bd.method).1
  have X0 : Stand p l e ({ frames := 0, cells := 0, slots := 0, locals := 0 } : Room) s m #[(.ref r0), (.int p1), (.int (2 : Int32))] below meth c s₁ [] 0 0 := Stand.of_body Bd
  have e0 : s₁.heap = h0 := by rw [← hh, Bd.state]; rfl
  have N0 := Fr.nil n0
  have pre0 : ∀ t, Steps p.tables e below (s₁.setTop (mkF m 0 #[.val (.ref r0), .val (.int p1), .val (.int (2 : Int32)), .unset, .unset, .unset] [])) t → Steps p.tables e below (s₁.setTop (entryFrame m #[(.ref r0), (.int p1), (.int (2 : Int32))] 6)) t := fun t k => castTop (ef_rmCP2 m r0 p1 (2 : Int32)) k
  have st1 : ∀ target, Steps p.tables e below (s₁.setTop (mkF m 2 #[.val (.ref r0), .val (.int p1), .val (.int (2 : Int32)), .unset, .unset, .unset] [(.int p1), (.ref r0)])) target → Steps p.tables e below (s₁.setTop (mkF m 0 #[.val (.ref r0), .val (.int p1), .val (.int (2 : Int32)), .unset, .unset, .unset] [])) target := by
    intro target kt
    show Steps p.tables e below (s₁.setTop (mkF m 0 #[.val (.ref r0), .val (.int p1), .val (.int (2 : Int32)), .unset, .unset, .unset] [])) _
    refine XS.aloadN X0.here hx rfl (hb hby d1_0) rfl rfl ?_
    show Steps p.tables e below (s₁.setTop (mkF m 1 #[.val (.ref r0), .val (.int p1), .val (.int (2 : Int32)), .unset, .unset, .unset] [(.ref r0)])) _
    refine XS.iloadN X0.here hx rfl (hb hby d1_1) rfl ?_
    exact kt
  have st2 : ∀ target, Steps p.tables e below (s₁.setTop (mkF m 3 #[.val (.ref r0), .val (.int p1), .val (.int (2 : Int32)), .unset, .unset, .unset] [(.int w0)])) target → Steps p.tables e below (s₁.setTop (mkF m 2 #[.val (.ref r0), .val (.int p1), .val (.int (2 : Int32)), .unset, .unset, .unset] [(.int p1), (.ref r0)])) target := fun target kt => X0.baloadBytes hx (j := p1) (v := (.int w0)) (by rw [e0]; exact Ar.1) (State.isArrayOf_alike hZ.alike Ar.2.1) Ar.2.2 hin0 hat0 (g := (mkF m 2 #[.val (.ref r0), .val (.int p1), .val (.int (2 : Int32)), .unset, .unset, .unset] [(.int p1), (.ref r0)])) rfl rfl (hb hby d1_2) _ kt
  have st3 : ∀ target, Steps p.tables e below (s₁.setTop (mkF m 42 #[.val (.ref r0), .val (.int p1), .val (.int (2 : Int32)), .val (.int (w0 &&& (255 : Int32))), .val (.int ((w0 &&& (255 : Int32)) &&& ((127 : Int32) >>> ((2 : Int32) &&& 31)))), .val (.int (1 : Int32))] [(.int (p1 + (1 : Int32))), (.ref r0), (.int (((w0 &&& (255 : Int32)) &&& ((127 : Int32) >>> ((2 : Int32) &&& 31))) <<< ((6 : Int32) &&& 31)))])) target → Steps p.tables e below (s₁.setTop (mkF m 3 #[.val (.ref r0), .val (.int p1), .val (.int (2 : Int32)), .unset, .unset, .unset] [(.int w0)])) target := by
    intro target kt
    show Steps p.tables e below (s₁.setTop (mkF m 3 #[.val (.ref r0), .val (.int p1), .val (.int (2 : Int32)), .unset, .unset, .unset] [(.int w0)])) _
    refine XS.sipush X0.here hx rfl (hb hby d1_3) ?_
    show Steps p.tables e below (s₁.setTop (mkF m 6 #[.val (.ref r0), .val (.int p1), .val (.int (2 : Int32)), .unset, .unset, .unset] [(.int (255 : Int32)), (.int w0)])) _
    refine XS.iand X0.here hx rfl (hb hby d1_6) rfl ?_
    show Steps p.tables e below (s₁.setTop (mkF m 7 #[.val (.ref r0), .val (.int p1), .val (.int (2 : Int32)), .unset, .unset, .unset] [(.int (w0 &&& (255 : Int32)))])) _
    refine XS.istoreN X0.here hx rfl (hb hby d1_7) rfl (l' := #[.val (.ref r0), .val (.int p1), .val (.int (2 : Int32)), .val (.int (w0 &&& (255 : Int32))), .unset, .unset]) rfl ?_
    show Steps p.tables e below (s₁.setTop (mkF m 8 #[.val (.ref r0), .val (.int p1), .val (.int (2 : Int32)), .val (.int (w0 &&& (255 : Int32))), .unset, .unset] [])) _
    refine XS.iloadN X0.here hx rfl (hb hby d1_8) rfl ?_
    show Steps p.tables e below (s₁.setTop (mkF m 9 #[.val (.ref r0), .val (.int p1), .val (.int (2 : Int32)), .val (.int (w0 &&& (255 : Int32))), .unset, .unset] [(.int (2 : Int32))])) _
    refine XS.iconst X0.here hx rfl (hb hby d1_9) ?_
    show Steps p.tables e below (s₁.setTop (mkF m 10 #[.val (.ref r0), .val (.int p1), .val (.int (2 : Int32)), .val (.int (w0 &&& (255 : Int32))), .unset, .unset] [(.int (1 : Int32)), (.int (2 : Int32))])) _
    refine XS.icmpYes X0.here hx rfl (pc0 := 10) (pc' := 15) rfl (hb hby d1_10) rfl (feq (by decide : ¬ ((2 : Int32) = (1 : Int32)))).2 (by decide) (by decide) ?_
    show Steps p.tables e below (s₁.setTop (mkF m 15 #[.val (.ref r0), .val (.int p1), .val (.int (2 : Int32)), .val (.int (w0 &&& (255 : Int32))), .unset, .unset] [])) _
    refine XS.iloadN X0.here hx rfl (hb hby d1_15) rfl ?_
    show Steps p.tables e below (s₁.setTop (mkF m 16 #[.val (.ref r0), .val (.int p1), .val (.int (2 : Int32)), .val (.int (w0 &&& (255 : Int32))), .unset, .unset] [(.int (w0 &&& (255 : Int32)))])) _
    refine XS.bipush X0.here hx rfl (hb hby d1_16) ?_
    show Steps p.tables e below (s₁.setTop (mkF m 18 #[.val (.ref r0), .val (.int p1), .val (.int (2 : Int32)), .val (.int (w0 &&& (255 : Int32))), .unset, .unset] [(.int (127 : Int32)), (.int (w0 &&& (255 : Int32)))])) _
    refine XS.iloadN X0.here hx rfl (hb hby d1_18) rfl ?_
    show Steps p.tables e below (s₁.setTop (mkF m 19 #[.val (.ref r0), .val (.int p1), .val (.int (2 : Int32)), .val (.int (w0 &&& (255 : Int32))), .unset, .unset] [(.int (2 : Int32)), (.int (127 : Int32)), (.int (w0 &&& (255 : Int32)))])) _
    refine XS.ishr X0.here hx rfl (hb hby d1_19) rfl ?_
    show Steps p.tables e below (s₁.setTop (mkF m 20 #[.val (.ref r0), .val (.int p1), .val (.int (2 : Int32)), .val (.int (w0 &&& (255 : Int32))), .unset, .unset] [(.int ((127 : Int32) >>> ((2 : Int32) &&& 31))), (.int (w0 &&& (255 : Int32)))])) _
    refine XS.iand X0.here hx rfl (hb hby d1_20) rfl ?_
    show Steps p.tables e below (s₁.setTop (mkF m 21 #[.val (.ref r0), .val (.int p1), .val (.int (2 : Int32)), .val (.int (w0 &&& (255 : Int32))), .unset, .unset] [(.int ((w0 &&& (255 : Int32)) &&& ((127 : Int32) >>> ((2 : Int32) &&& 31))))])) _
    refine XS.istore X0.here hx rfl (hb hby d1_21) rfl (l' := #[.val (.ref r0), .val (.int p1), .val (.int (2 : Int32)), .val (.int (w0 &&& (255 : Int32))), .val (.int ((w0 &&& (255 : Int32)) &&& ((127 : Int32) >>> ((2 : Int32) &&& 31)))), .unset]) rfl ?_
    show Steps p.tables e below (s₁.setTop (mkF m 23 #[.val (.ref r0), .val (.int p1), .val (.int (2 : Int32)), .val (.int (w0 &&& (255 : Int32))), .val (.int ((w0 &&& (255 : Int32)) &&& ((127 : Int32) >>> ((2 : Int32) &&& 31)))), .unset] [])) _
    refine XS.iconst X0.here hx rfl (hb hby d1_23) ?_
    show Steps p.tables e below (s₁.setTop (mkF m 24 #[.val (.ref r0), .val (.int p1), .val (.int (2 : Int32)), .val (.int (w0 &&& (255 : Int32))), .val (.int ((w0 &&& (255 : Int32)) &&& ((127 : Int32) >>> ((2 : Int32) &&& 31)))), .unset] [(.int (1 : Int32))])) _
    refine XS.istore X0.here hx rfl (hb hby d1_24) rfl (l' := #[.val (.ref r0), .val (.int p1), .val (.int (2 : Int32)), .val (.int (w0 &&& (255 : Int32))), .val (.int ((w0 &&& (255 : Int32)) &&& ((127 : Int32) >>> ((2 : Int32) &&& 31)))), .val (.int (1 : Int32))]) rfl ?_
    show Steps p.tables e below (s₁.setTop (mkF m 26 #[.val (.ref r0), .val (.int p1), .val (.int (2 : Int32)), .val (.int (w0 &&& (255 : Int32))), .val (.int ((w0 &&& (255 : Int32)) &&& ((127 : Int32) >>> ((2 : Int32) &&& 31)))), .val (.int (1 : Int32))] [])) _
    refine XS.iload X0.here hx rfl (hb hby d1_26) rfl ?_
    show Steps p.tables e below (s₁.setTop (mkF m 28 #[.val (.ref r0), .val (.int p1), .val (.int (2 : Int32)), .val (.int (w0 &&& (255 : Int32))), .val (.int ((w0 &&& (255 : Int32)) &&& ((127 : Int32) >>> ((2 : Int32) &&& 31)))), .val (.int (1 : Int32))] [(.int (1 : Int32))])) _
    refine XS.iloadN X0.here hx rfl (hb hby d1_28) rfl ?_
    show Steps p.tables e below (s₁.setTop (mkF m 29 #[.val (.ref r0), .val (.int p1), .val (.int (2 : Int32)), .val (.int (w0 &&& (255 : Int32))), .val (.int ((w0 &&& (255 : Int32)) &&& ((127 : Int32) >>> ((2 : Int32) &&& 31)))), .val (.int (1 : Int32))] [(.int (2 : Int32)), (.int (1 : Int32))])) _
    refine XS.icmpNo X0.here hx rfl (hb hby d1_29) rfl (tlt (by decide : ((1 : Int32) < (2 : Int32)))).2.1 ?_
    show Steps p.tables e below (s₁.setTop (mkF m 32 #[.val (.ref r0), .val (.int p1), .val (.int (2 : Int32)), .val (.int (w0 &&& (255 : Int32))), .val (.int ((w0 &&& (255 : Int32)) &&& ((127 : Int32) >>> ((2 : Int32) &&& 31)))), .val (.int (1 : Int32))] [])) _
    refine XS.iload X0.here hx rfl (hb hby d1_32) rfl ?_
    show Steps p.tables e below (s₁.setTop (mkF m 34 #[.val (.ref r0), .val (.int p1), .val (.int (2 : Int32)), .val (.int (w0 &&& (255 : Int32))), .val (.int ((w0 &&& (255 : Int32)) &&& ((127 : Int32) >>> ((2 : Int32) &&& 31)))), .val (.int (1 : Int32))] [(.int ((w0 &&& (255 : Int32)) &&& ((127 : Int32) >>> ((2 : Int32) &&& 31))))])) _
    refine XS.bipush X0.here hx rfl (hb hby d1_34) ?_
    show Steps p.tables e below (s₁.setTop (mkF m 36 #[.val (.ref r0), .val (.int p1), .val (.int (2 : Int32)), .val (.int (w0 &&& (255 : Int32))), .val (.int ((w0 &&& (255 : Int32)) &&& ((127 : Int32) >>> ((2 : Int32) &&& 31)))), .val (.int (1 : Int32))] [(.int (6 : Int32)), (.int ((w0 &&& (255 : Int32)) &&& ((127 : Int32) >>> ((2 : Int32) &&& 31))))])) _
    refine XS.ishl X0.here hx rfl (hb hby d1_36) rfl ?_
    show Steps p.tables e below (s₁.setTop (mkF m 37 #[.val (.ref r0), .val (.int p1), .val (.int (2 : Int32)), .val (.int (w0 &&& (255 : Int32))), .val (.int ((w0 &&& (255 : Int32)) &&& ((127 : Int32) >>> ((2 : Int32) &&& 31)))), .val (.int (1 : Int32))] [(.int (((w0 &&& (255 : Int32)) &&& ((127 : Int32) >>> ((2 : Int32) &&& 31))) <<< ((6 : Int32) &&& 31)))])) _
    refine XS.aloadN X0.here hx rfl (hb hby d1_37) rfl rfl ?_
    show Steps p.tables e below (s₁.setTop (mkF m 38 #[.val (.ref r0), .val (.int p1), .val (.int (2 : Int32)), .val (.int (w0 &&& (255 : Int32))), .val (.int ((w0 &&& (255 : Int32)) &&& ((127 : Int32) >>> ((2 : Int32) &&& 31)))), .val (.int (1 : Int32))] [(.ref r0), (.int (((w0 &&& (255 : Int32)) &&& ((127 : Int32) >>> ((2 : Int32) &&& 31))) <<< ((6 : Int32) &&& 31)))])) _
    refine XS.iloadN X0.here hx rfl (hb hby d1_38) rfl ?_
    show Steps p.tables e below (s₁.setTop (mkF m 39 #[.val (.ref r0), .val (.int p1), .val (.int (2 : Int32)), .val (.int (w0 &&& (255 : Int32))), .val (.int ((w0 &&& (255 : Int32)) &&& ((127 : Int32) >>> ((2 : Int32) &&& 31)))), .val (.int (1 : Int32))] [(.int p1), (.ref r0), (.int (((w0 &&& (255 : Int32)) &&& ((127 : Int32) >>> ((2 : Int32) &&& 31))) <<< ((6 : Int32) &&& 31)))])) _
    refine XS.iload X0.here hx rfl (hb hby d1_39) rfl ?_
    show Steps p.tables e below (s₁.setTop (mkF m 41 #[.val (.ref r0), .val (.int p1), .val (.int (2 : Int32)), .val (.int (w0 &&& (255 : Int32))), .val (.int ((w0 &&& (255 : Int32)) &&& ((127 : Int32) >>> ((2 : Int32) &&& 31)))), .val (.int (1 : Int32))] [(.int (1 : Int32)), (.int p1), (.ref r0), (.int (((w0 &&& (255 : Int32)) &&& ((127 : Int32) >>> ((2 : Int32) &&& 31))) <<< ((6 : Int32) &&& 31)))])) _
    refine XS.iadd X0.here hx rfl (hb hby d1_41) rfl ?_
    exact kt
  have st4 : ∀ target, Steps p.tables e below (s₁.setTop (mkF m 43 #[.val (.ref r0), .val (.int p1), .val (.int (2 : Int32)), .val (.int (w0 &&& (255 : Int32))), .val (.int ((w0 &&& (255 : Int32)) &&& ((127 : Int32) >>> ((2 : Int32) &&& 31)))), .val (.int (1 : Int32))] [(.int w1), (.int (((w0 &&& (255 : Int32)) &&& ((127 : Int32) >>> ((2 : Int32) &&& 31))) <<< ((6 : Int32) &&& 31)))])) target → Steps p.tables e below (s₁.setTop (mkF m 42 #[.val (.ref r0), .val (.int p1), .val (.int (2 : Int32)), .val (.int (w0 &&& (255 : Int32))), .val (.int ((w0 &&& (255 : Int32)) &&& ((127 : Int32) >>> ((2 : Int32) &&& 31)))), .val (.int (1 : Int32))] [(.int (p1 + (1 : Int32))), (.ref r0), (.int (((w0 &&& (255 : Int32)) &&& ((127 : Int32) >>> ((2 : Int32) &&& 31))) <<< ((6 : Int32) &&& 31)))])) target := fun target kt => X0.baloadBytes hx (j := (p1 + (1 : Int32))) (v := (.int w1)) (by rw [e0]; exact Ar.1) (State.isArrayOf_alike hZ.alike Ar.2.1) Ar.2.2 hin1 hat1 (g := (mkF m 42 #[.val (.ref r0), .val (.int p1), .val (.int (2 : Int32)), .val (.int (w0 &&& (255 : Int32))), .val (.int ((w0 &&& (255 : Int32)) &&& ((127 : Int32) >>> ((2 : Int32) &&& 31)))), .val (.int (1 : Int32))] [(.int (p1 + (1 : Int32))), (.ref r0), (.int (((w0 &&& (255 : Int32)) &&& ((127 : Int32) >>> ((2 : Int32) &&& 31))) <<< ((6 : Int32) &&& 31)))])) rfl rfl (hb hby d1_42) _ kt
  obtain ⟨fs, hr, hrun, hended, hW, hsame⟩ := X0.leave (v := some (.int ((((w0 &&& (255 : Int32)) &&& ((127 : Int32) >>> ((2 : Int32) &&& 31))) <<< ((6 : Int32) &&& 31)) ||| (w1 &&& (63 : Int32))))) (fun h => by rw [Bd.returns] at h; cases h)
  refine ⟨_, _, pre0 _ (st1 _ (st2 _ (st3 _ (st4 _ ?_)))), hrun, hended, _, _, rfl, ?_, ⟨_, rfl⟩, hW, hsame.mono (by decide) (by decide)⟩
  · show Steps p.tables e below (s₁.setTop (mkF m 43 #[.val (.ref r0), .val (.int p1), .val (.int (2 : Int32)), .val (.int (w0 &&& (255 : Int32))), .val (.int ((w0 &&& (255 : Int32)) &&& ((127 : Int32) >>> ((2 : Int32) &&& 31)))), .val (.int (1 : Int32))] [(.int w1), (.int (((w0 &&& (255 : Int32)) &&& ((127 : Int32) >>> ((2 : Int32) &&& 31))) <<< ((6 : Int32) &&& 31)))])) _
    refine XS.bipush X0.here hx rfl (hb hby d1_43) ?_
    show Steps p.tables e below (s₁.setTop (mkF m 45 #[.val (.ref r0), .val (.int p1), .val (.int (2 : Int32)), .val (.int (w0 &&& (255 : Int32))), .val (.int ((w0 &&& (255 : Int32)) &&& ((127 : Int32) >>> ((2 : Int32) &&& 31)))), .val (.int (1 : Int32))] [(.int (63 : Int32)), (.int w1), (.int (((w0 &&& (255 : Int32)) &&& ((127 : Int32) >>> ((2 : Int32) &&& 31))) <<< ((6 : Int32) &&& 31)))])) _
    refine XS.iand X0.here hx rfl (hb hby d1_45) rfl ?_
    show Steps p.tables e below (s₁.setTop (mkF m 46 #[.val (.ref r0), .val (.int p1), .val (.int (2 : Int32)), .val (.int (w0 &&& (255 : Int32))), .val (.int ((w0 &&& (255 : Int32)) &&& ((127 : Int32) >>> ((2 : Int32) &&& 31)))), .val (.int (1 : Int32))] [(.int (w1 &&& (63 : Int32))), (.int (((w0 &&& (255 : Int32)) &&& ((127 : Int32) >>> ((2 : Int32) &&& 31))) <<< ((6 : Int32) &&& 31)))])) _
    refine XS.ior X0.here hx rfl (hb hby d1_46) rfl ?_
    show Steps p.tables e below (s₁.setTop (mkF m 47 #[.val (.ref r0), .val (.int p1), .val (.int (2 : Int32)), .val (.int (w0 &&& (255 : Int32))), .val (.int ((w0 &&& (255 : Int32)) &&& ((127 : Int32) >>> ((2 : Int32) &&& 31)))), .val (.int (1 : Int32))] [(.int ((((w0 &&& (255 : Int32)) &&& ((127 : Int32) >>> ((2 : Int32) &&& 31))) <<< ((6 : Int32) &&& 31)) ||| (w1 &&& (63 : Int32))))])) _
    refine XS.istore X0.here hx rfl (hb hby d1_47) rfl (l' := #[.val (.ref r0), .val (.int p1), .val (.int (2 : Int32)), .val (.int (w0 &&& (255 : Int32))), .val (.int ((((w0 &&& (255 : Int32)) &&& ((127 : Int32) >>> ((2 : Int32) &&& 31))) <<< ((6 : Int32) &&& 31)) ||| (w1 &&& (63 : Int32)))), .val (.int (1 : Int32))]) rfl ?_
    show Steps p.tables e below (s₁.setTop (mkF m 49 #[.val (.ref r0), .val (.int p1), .val (.int (2 : Int32)), .val (.int (w0 &&& (255 : Int32))), .val (.int ((((w0 &&& (255 : Int32)) &&& ((127 : Int32) >>> ((2 : Int32) &&& 31))) <<< ((6 : Int32) &&& 31)) ||| (w1 &&& (63 : Int32)))), .val (.int (1 : Int32))] [])) _
    refine XS.iinc X0.here hx rfl (hb hby d1_49) rfl (l' := #[.val (.ref r0), .val (.int p1), .val (.int (2 : Int32)), .val (.int (w0 &&& (255 : Int32))), .val (.int ((((w0 &&& (255 : Int32)) &&& ((127 : Int32) >>> ((2 : Int32) &&& 31))) <<< ((6 : Int32) &&& 31)) ||| (w1 &&& (63 : Int32)))), .val (.int (2 : Int32))]) rfl ?_
    show Steps p.tables e below (s₁.setTop (mkF m 52 #[.val (.ref r0), .val (.int p1), .val (.int (2 : Int32)), .val (.int (w0 &&& (255 : Int32))), .val (.int ((((w0 &&& (255 : Int32)) &&& ((127 : Int32) >>> ((2 : Int32) &&& 31))) <<< ((6 : Int32) &&& 31)) ||| (w1 &&& (63 : Int32)))), .val (.int (2 : Int32))] [])) _
    refine XS.goto X0.here hx rfl (pc0 := 52) (pc' := 26) rfl (hb hby d1_52) (by decide) (by decide) ?_
    show Steps p.tables e below (s₁.setTop (mkF m 26 #[.val (.ref r0), .val (.int p1), .val (.int (2 : Int32)), .val (.int (w0 &&& (255 : Int32))), .val (.int ((((w0 &&& (255 : Int32)) &&& ((127 : Int32) >>> ((2 : Int32) &&& 31))) <<< ((6 : Int32) &&& 31)) ||| (w1 &&& (63 : Int32)))), .val (.int (2 : Int32))] [])) _
    refine XS.iload X0.here hx rfl (hb hby d1_26) rfl ?_
    show Steps p.tables e below (s₁.setTop (mkF m 28 #[.val (.ref r0), .val (.int p1), .val (.int (2 : Int32)), .val (.int (w0 &&& (255 : Int32))), .val (.int ((((w0 &&& (255 : Int32)) &&& ((127 : Int32) >>> ((2 : Int32) &&& 31))) <<< ((6 : Int32) &&& 31)) ||| (w1 &&& (63 : Int32)))), .val (.int (2 : Int32))] [(.int (2 : Int32))])) _
    refine XS.iloadN X0.here hx rfl (hb hby d1_28) rfl ?_
    show Steps p.tables e below (s₁.setTop (mkF m 29 #[.val (.ref r0), .val (.int p1), .val (.int (2 : Int32)), .val (.int (w0 &&& (255 : Int32))), .val (.int ((((w0 &&& (255 : Int32)) &&& ((127 : Int32) >>> ((2 : Int32) &&& 31))) <<< ((6 : Int32) &&& 31)) ||| (w1 &&& (63 : Int32)))), .val (.int (2 : Int32))] [(.int (2 : Int32)), (.int (2 : Int32))])) _
    refine XS.icmpYes X0.here hx rfl (pc0 := 29) (pc' := 55) rfl (hb hby d1_29) rfl (flt (by decide : ¬ ((2 : Int32) < (2 : Int32)))).2.1 (by decide) (by decide) ?_
    show Steps p.tables e below (s₁.setTop (mkF m 55 #[.val (.ref r0), .val (.int p1), .val (.int (2 : Int32)), .val (.int (w0 &&& (255 : Int32))), .val (.int ((((w0 &&& (255 : Int32)) &&& ((127 : Int32) >>> ((2 : Int32) &&& 31))) <<< ((6 : Int32) &&& 31)) ||| (w1 &&& (63 : Int32)))), .val (.int (2 : Int32))] [])) _
    refine XS.iload X0.here hx rfl (hb hby d1_55) rfl ?_
    show Steps p.tables e below (s₁.setTop (mkF m 57 #[.val (.ref r0), .val (.int p1), .val (.int (2 : Int32)), .val (.int (w0 &&& (255 : Int32))), .val (.int ((((w0 &&& (255 : Int32)) &&& ((127 : Int32) >>> ((2 : Int32) &&& 31))) <<< ((6 : Int32) &&& 31)) ||| (w1 &&& (63 : Int32)))), .val (.int (2 : Int32))] [(.int ((((w0 &&& (255 : Int32)) &&& ((127 : Int32) >>> ((2 : Int32) &&& 31))) <<< ((6 : Int32) &&& 31)) ||| (w1 &&& (63 : Int32))))])) _
    exact retI X0 hx Bd.returns (hb hby d1_57) hr
  · show Q_rmCP2 Z r0 p1 cl w0 w1 h0 n0 _ s₁.heap _
    rw [e0]
    exact ⟨rfl, N0, rfl⟩
def own_cp3 (w0 w1 w2 : Int32) : Int32 := ((((((w0 &&& (255 : Int32)) &&& ((127 : Int32) >>> ((3 : Int32) &&& 31))) <<< ((6 : Int32) &&& 31)) ||| (w1 &&& (63 : Int32))) <<< ((6 : Int32) &&& 31)) ||| (w2 &&& (63 : Int32)))
theorem ef_rmCP3 (m : MethodId) (x0 : Addr) (x1 : Int32) (x2 : Int32) : entryFrame m #[(.ref x0), (.int x1), (.int x2)] 6 = mkF m 0 #[.val (.ref x0), .val (.int x1), .val (.int x2), .unset, .unset, .unset] [] := by first | (simp [entryFrame, mkF, argsToLocals, Value.category]; done) | rfl
def Q_rmCP3 (Z : State) (r0 : Addr) (p1 : Int32) (cl : Cell) (w0 : Int32) (w1 : Int32) (w2 : Int32) (h0 : Heap) (n0 : Nat) (v : Option Value) (h : Heap) (L : List Loc) : Prop := v = some (.int (own_cp3 w0 w1 w2)) ∧ Fr n0 L ∧ h = h0
set_option maxRecDepth 65536 in
set_option maxHeartbeats 40000000 in
theorem rmCP3 (l : Launch) (Z : State) (a0 : Array Value) (hw : ∀ d ∈ tables_1, d.before a0 Z = true) (ws : List Jvm.Cond) (r0 : Addr) (p1 : Int32) (cl : Cell) (w0 : Int32) (w1 : Int32) (w2 : Int32) (h0 : Heap) (n0 : Nat) (Z0 : n0 ≤ h0.size) (Ar : Arr Z h0 r0 cl .byte) (hin0 : ¬ (p1 < 0 ∨ cl.slots.size ≤ (p1).toNatClampNeg)) (hin1 : ¬ ((p1 + (1 : Int32)) < 0 ∨ cl.slots.size ≤ ((p1 + (1 : Int32))).toNatClampNeg)) (hin2 : ¬ ((p1 + (2 : Int32)) < 0 ∨ cl.slots.size ≤ ((p1 + (2 : Int32))).toNatClampNeg)) (hat0 : cl.slots[(p1).toNatClampNeg]? = some (.int w0)) (hat1 : cl.slots[((p1 + (1 : Int32))).toNatClampNeg]? = some (.int w1)) (hat2 : cl.slots[((p1 + (2 : Int32))).toNatClampNeg]? = some (.int w2)) :
    MetFree l (⟨"com/example/murray_hill/murrayhill/WellFormed", "codePoint", "([BII)I"⟩ : MethodName) (head1 (Jvm.Cond.code (⟨"com/example/murray_hill/murrayhill/WellFormed", "codePoint", "([BII)I"⟩ : MethodName) prog_39_method_13_code 6 (some .int) :: ws) ({ frames := 0, cells := 0, slots := 0, locals := 0 } : Room)) (fun a U => a = #[(.ref r0), (.int p1), (.int (3 : Int32))] ∧ Z.Warmed39 U.vm ∧ U.heap = h0) (fun _ _ _ _ _ => True) (fun _ U o U' => ∃ v L, o = .returned v ∧ Q_rmCP3 Z r0 p1 cl w0 w1 w2 h0 n0 v U'.heap L ∧ FrameEnd U o U' L ({ frames := 0, cells := 0, slots := 0, locals := 0 } : Room).cells ({ frames := 0, cells := 0, slots := 0, locals := 0 } : Room).slots) := by
  refine MetFree.of_bodySF (plainFor_of_name pn_0) hisR ?_
  intro p e s m args below meth c s₁ Bd hml0 hP hK
  obtain ⟨rfl, hZ, hh⟩ := hP
  have hx := Bd.exec
  have hby := Bd.bytes
  have hml : c.maxLocals = 6 := hml0
  have hown : s.vm.findClass "com/example/murray_hill/murrayhill/WellFormed" = some m.cls := findClass_of_methodNamed Bd.named
  have hnm := (name_of_methodNamed Bd.named Bd.method).1
  have X0 : Stand p l e ({ frames := 0, cells := 0, slots := 0, locals := 0 } : Room) s m #[(.ref r0), (.int p1), (.int (3 : Int32))] below meth c s₁ [] 0 0 := Stand.of_body Bd
  have e0 : s₁.heap = h0 := by rw [← hh, Bd.state]; rfl
  have N0 := Fr.nil n0
  have pre0 : ∀ t, Steps p.tables e below (s₁.setTop (mkF m 0 #[.val (.ref r0), .val (.int p1), .val (.int (3 : Int32)), .unset, .unset, .unset] [])) t → Steps p.tables e below (s₁.setTop (entryFrame m #[(.ref r0), (.int p1), (.int (3 : Int32))] 6)) t := fun t k => castTop (ef_rmCP3 m r0 p1 (3 : Int32)) k
  have st1 : ∀ target, Steps p.tables e below (s₁.setTop (mkF m 2 #[.val (.ref r0), .val (.int p1), .val (.int (3 : Int32)), .unset, .unset, .unset] [(.int p1), (.ref r0)])) target → Steps p.tables e below (s₁.setTop (mkF m 0 #[.val (.ref r0), .val (.int p1), .val (.int (3 : Int32)), .unset, .unset, .unset] [])) target := by
    intro target kt
    show Steps p.tables e below (s₁.setTop (mkF m 0 #[.val (.ref r0), .val (.int p1), .val (.int (3 : Int32)), .unset, .unset, .unset] [])) _
    refine XS.aloadN X0.here hx rfl (hb hby d1_0) rfl rfl ?_
    show Steps p.tables e below (s₁.setTop (mkF m 1 #[.val (.ref r0), .val (.int p1), .val (.int (3 : Int32)), .unset, .unset, .unset] [(.ref r0)])) _
    refine XS.iloadN X0.here hx rfl (hb hby d1_1) rfl ?_
    exact kt
  have st2 : ∀ target, Steps p.tables e below (s₁.setTop (mkF m 3 #[.val (.ref r0), .val (.int p1), .val (.int (3 : Int32)), .unset, .unset, .unset] [(.int w0)])) target → Steps p.tables e below (s₁.setTop (mkF m 2 #[.val (.ref r0), .val (.int p1), .val (.int (3 : Int32)), .unset, .unset, .unset] [(.int p1), (.ref r0)])) target := fun target kt => X0.baloadBytes hx (j := p1) (v := (.int w0)) (by rw [e0]; exact Ar.1) (State.isArrayOf_alike hZ.alike Ar.2.1) Ar.2.2 hin0 hat0 (g := (mkF m 2 #[.val (.ref r0), .val (.int p1), .val (.int (3 : Int32)), .unset, .unset, .unset] [(.int p1), (.ref r0)])) rfl rfl (hb hby d1_2) _ kt
  have st3 : ∀ target, Steps p.tables e below (s₁.setTop (mkF m 42 #[.val (.ref r0), .val (.int p1), .val (.int (3 : Int32)), .val (.int (w0 &&& (255 : Int32))), .val (.int ((w0 &&& (255 : Int32)) &&& ((127 : Int32) >>> ((3 : Int32) &&& 31)))), .val (.int (1 : Int32))] [(.int (p1 + (1 : Int32))), (.ref r0), (.int (((w0 &&& (255 : Int32)) &&& ((127 : Int32) >>> ((3 : Int32) &&& 31))) <<< ((6 : Int32) &&& 31)))])) target → Steps p.tables e below (s₁.setTop (mkF m 3 #[.val (.ref r0), .val (.int p1), .val (.int (3 : Int32)), .unset, .unset, .unset] [(.int w0)])) target := by
    intro target kt
    show Steps p.tables e below (s₁.setTop (mkF m 3 #[.val (.ref r0), .val (.int p1), .val (.int (3 : Int32)), .unset, .unset, .unset] [(.int w0)])) _
    refine XS.sipush X0.here hx rfl (hb hby d1_3) ?_
    show Steps p.tables e below (s₁.setTop (mkF m 6 #[.val (.ref r0), .val (.int p1), .val (.int (3 : Int32)), .unset, .unset, .unset] [(.int (255 : Int32)), (.int w0)])) _
    refine XS.iand X0.here hx rfl (hb hby d1_6) rfl ?_
    show Steps p.tables e below (s₁.setTop (mkF m 7 #[.val (.ref r0), .val (.int p1), .val (.int (3 : Int32)), .unset, .unset, .unset] [(.int (w0 &&& (255 : Int32)))])) _
    refine XS.istoreN X0.here hx rfl (hb hby d1_7) rfl (l' := #[.val (.ref r0), .val (.int p1), .val (.int (3 : Int32)), .val (.int (w0 &&& (255 : Int32))), .unset, .unset]) rfl ?_
    show Steps p.tables e below (s₁.setTop (mkF m 8 #[.val (.ref r0), .val (.int p1), .val (.int (3 : Int32)), .val (.int (w0 &&& (255 : Int32))), .unset, .unset] [])) _
    refine XS.iloadN X0.here hx rfl (hb hby d1_8) rfl ?_
    show Steps p.tables e below (s₁.setTop (mkF m 9 #[.val (.ref r0), .val (.int p1), .val (.int (3 : Int32)), .val (.int (w0 &&& (255 : Int32))), .unset, .unset] [(.int (3 : Int32))])) _
    refine XS.iconst X0.here hx rfl (hb hby d1_9) ?_
    show Steps p.tables e below (s₁.setTop (mkF m 10 #[.val (.ref r0), .val (.int p1), .val (.int (3 : Int32)), .val (.int (w0 &&& (255 : Int32))), .unset, .unset] [(.int (1 : Int32)), (.int (3 : Int32))])) _
    refine XS.icmpYes X0.here hx rfl (pc0 := 10) (pc' := 15) rfl (hb hby d1_10) rfl (feq (by decide : ¬ ((3 : Int32) = (1 : Int32)))).2 (by decide) (by decide) ?_
    show Steps p.tables e below (s₁.setTop (mkF m 15 #[.val (.ref r0), .val (.int p1), .val (.int (3 : Int32)), .val (.int (w0 &&& (255 : Int32))), .unset, .unset] [])) _
    refine XS.iloadN X0.here hx rfl (hb hby d1_15) rfl ?_
    show Steps p.tables e below (s₁.setTop (mkF m 16 #[.val (.ref r0), .val (.int p1), .val (.int (3 : Int32)), .val (.int (w0 &&& (255 : Int32))), .unset, .unset] [(.int (w0 &&& (255 : Int32)))])) _
    refine XS.bipush X0.here hx rfl (hb hby d1_16) ?_
    show Steps p.tables e below (s₁.setTop (mkF m 18 #[.val (.ref r0), .val (.int p1), .val (.int (3 : Int32)), .val (.int (w0 &&& (255 : Int32))), .unset, .unset] [(.int (127 : Int32)), (.int (w0 &&& (255 : Int32)))])) _
    refine XS.iloadN X0.here hx rfl (hb hby d1_18) rfl ?_
    show Steps p.tables e below (s₁.setTop (mkF m 19 #[.val (.ref r0), .val (.int p1), .val (.int (3 : Int32)), .val (.int (w0 &&& (255 : Int32))), .unset, .unset] [(.int (3 : Int32)), (.int (127 : Int32)), (.int (w0 &&& (255 : Int32)))])) _
    refine XS.ishr X0.here hx rfl (hb hby d1_19) rfl ?_
    show Steps p.tables e below (s₁.setTop (mkF m 20 #[.val (.ref r0), .val (.int p1), .val (.int (3 : Int32)), .val (.int (w0 &&& (255 : Int32))), .unset, .unset] [(.int ((127 : Int32) >>> ((3 : Int32) &&& 31))), (.int (w0 &&& (255 : Int32)))])) _
    refine XS.iand X0.here hx rfl (hb hby d1_20) rfl ?_
    show Steps p.tables e below (s₁.setTop (mkF m 21 #[.val (.ref r0), .val (.int p1), .val (.int (3 : Int32)), .val (.int (w0 &&& (255 : Int32))), .unset, .unset] [(.int ((w0 &&& (255 : Int32)) &&& ((127 : Int32) >>> ((3 : Int32) &&& 31))))])) _
    refine XS.istore X0.here hx rfl (hb hby d1_21) rfl (l' := #[.val (.ref r0), .val (.int p1), .val (.int (3 : Int32)), .val (.int (w0 &&& (255 : Int32))), .val (.int ((w0 &&& (255 : Int32)) &&& ((127 : Int32) >>> ((3 : Int32) &&& 31)))), .unset]) rfl ?_
    show Steps p.tables e below (s₁.setTop (mkF m 23 #[.val (.ref r0), .val (.int p1), .val (.int (3 : Int32)), .val (.int (w0 &&& (255 : Int32))), .val (.int ((w0 &&& (255 : Int32)) &&& ((127 : Int32) >>> ((3 : Int32) &&& 31)))), .unset] [])) _
    refine XS.iconst X0.here hx rfl (hb hby d1_23) ?_
    show Steps p.tables e below (s₁.setTop (mkF m 24 #[.val (.ref r0), .val (.int p1), .val (.int (3 : Int32)), .val (.int (w0 &&& (255 : Int32))), .val (.int ((w0 &&& (255 : Int32)) &&& ((127 : Int32) >>> ((3 : Int32) &&& 31)))), .unset] [(.int (1 : Int32))])) _
    refine XS.istore X0.here hx rfl (hb hby d1_24) rfl (l' := #[.val (.ref r0), .val (.int p1), .val (.int (3 : Int32)), .val (.int (w0 &&& (255 : Int32))), .val (.int ((w0 &&& (255 : Int32)) &&& ((127 : Int32) >>> ((3 : Int32) &&& 31)))), .val (.int (1 : Int32))]) rfl ?_
    show Steps p.tables e below (s₁.setTop (mkF m 26 #[.val (.ref r0), .val (.int p1), .val (.int (3 : Int32)), .val (.int (w0 &&& (255 : Int32))), .val (.int ((w0 &&& (255 : Int32)) &&& ((127 : Int32) >>> ((3 : Int32) &&& 31)))), .val (.int (1 : Int32))] [])) _
    refine XS.iload X0.here hx rfl (hb hby d1_26) rfl ?_
    show Steps p.tables e below (s₁.setTop (mkF m 28 #[.val (.ref r0), .val (.int p1), .val (.int (3 : Int32)), .val (.int (w0 &&& (255 : Int32))), .val (.int ((w0 &&& (255 : Int32)) &&& ((127 : Int32) >>> ((3 : Int32) &&& 31)))), .val (.int (1 : Int32))] [(.int (1 : Int32))])) _
    refine XS.iloadN X0.here hx rfl (hb hby d1_28) rfl ?_
    show Steps p.tables e below (s₁.setTop (mkF m 29 #[.val (.ref r0), .val (.int p1), .val (.int (3 : Int32)), .val (.int (w0 &&& (255 : Int32))), .val (.int ((w0 &&& (255 : Int32)) &&& ((127 : Int32) >>> ((3 : Int32) &&& 31)))), .val (.int (1 : Int32))] [(.int (3 : Int32)), (.int (1 : Int32))])) _
    refine XS.icmpNo X0.here hx rfl (hb hby d1_29) rfl (tlt (by decide : ((1 : Int32) < (3 : Int32)))).2.1 ?_
    show Steps p.tables e below (s₁.setTop (mkF m 32 #[.val (.ref r0), .val (.int p1), .val (.int (3 : Int32)), .val (.int (w0 &&& (255 : Int32))), .val (.int ((w0 &&& (255 : Int32)) &&& ((127 : Int32) >>> ((3 : Int32) &&& 31)))), .val (.int (1 : Int32))] [])) _
    refine XS.iload X0.here hx rfl (hb hby d1_32) rfl ?_
    show Steps p.tables e below (s₁.setTop (mkF m 34 #[.val (.ref r0), .val (.int p1), .val (.int (3 : Int32)), .val (.int (w0 &&& (255 : Int32))), .val (.int ((w0 &&& (255 : Int32)) &&& ((127 : Int32) >>> ((3 : Int32) &&& 31)))), .val (.int (1 : Int32))] [(.int ((w0 &&& (255 : Int32)) &&& ((127 : Int32) >>> ((3 : Int32) &&& 31))))])) _
    refine XS.bipush X0.here hx rfl (hb hby d1_34) ?_
    show Steps p.tables e below (s₁.setTop (mkF m 36 #[.val (.ref r0), .val (.int p1), .val (.int (3 : Int32)), .val (.int (w0 &&& (255 : Int32))), .val (.int ((w0 &&& (255 : Int32)) &&& ((127 : Int32) >>> ((3 : Int32) &&& 31)))), .val (.int (1 : Int32))] [(.int (6 : Int32)), (.int ((w0 &&& (255 : Int32)) &&& ((127 : Int32) >>> ((3 : Int32) &&& 31))))])) _
    refine XS.ishl X0.here hx rfl (hb hby d1_36) rfl ?_
    show Steps p.tables e below (s₁.setTop (mkF m 37 #[.val (.ref r0), .val (.int p1), .val (.int (3 : Int32)), .val (.int (w0 &&& (255 : Int32))), .val (.int ((w0 &&& (255 : Int32)) &&& ((127 : Int32) >>> ((3 : Int32) &&& 31)))), .val (.int (1 : Int32))] [(.int (((w0 &&& (255 : Int32)) &&& ((127 : Int32) >>> ((3 : Int32) &&& 31))) <<< ((6 : Int32) &&& 31)))])) _
    refine XS.aloadN X0.here hx rfl (hb hby d1_37) rfl rfl ?_
    show Steps p.tables e below (s₁.setTop (mkF m 38 #[.val (.ref r0), .val (.int p1), .val (.int (3 : Int32)), .val (.int (w0 &&& (255 : Int32))), .val (.int ((w0 &&& (255 : Int32)) &&& ((127 : Int32) >>> ((3 : Int32) &&& 31)))), .val (.int (1 : Int32))] [(.ref r0), (.int (((w0 &&& (255 : Int32)) &&& ((127 : Int32) >>> ((3 : Int32) &&& 31))) <<< ((6 : Int32) &&& 31)))])) _
    refine XS.iloadN X0.here hx rfl (hb hby d1_38) rfl ?_
    show Steps p.tables e below (s₁.setTop (mkF m 39 #[.val (.ref r0), .val (.int p1), .val (.int (3 : Int32)), .val (.int (w0 &&& (255 : Int32))), .val (.int ((w0 &&& (255 : Int32)) &&& ((127 : Int32) >>> ((3 : Int32) &&& 31)))), .val (.int (1 : Int32))] [(.int p1), (.ref r0), (.int (((w0 &&& (255 : Int32)) &&& ((127 : Int32) >>> ((3 : Int32) &&& 31))) <<< ((6 : Int32) &&& 31)))])) _
    refine XS.iload X0.here hx rfl (hb hby d1_39) rfl ?_
    show Steps p.tables e below (s₁.setTop (mkF m 41 #[.val (.ref r0), .val (.int p1), .val (.int (3 : Int32)), .val (.int (w0 &&& (255 : Int32))), .val (.int ((w0 &&& (255 : Int32)) &&& ((127 : Int32) >>> ((3 : Int32) &&& 31)))), .val (.int (1 : Int32))] [(.int (1 : Int32)), (.int p1), (.ref r0), (.int (((w0 &&& (255 : Int32)) &&& ((127 : Int32) >>> ((3 : Int32) &&& 31))) <<< ((6 : Int32) &&& 31)))])) _
    refine XS.iadd X0.here hx rfl (hb hby d1_41) rfl ?_
    exact kt
  have st4 : ∀ target, Steps p.tables e below (s₁.setTop (mkF m 43 #[.val (.ref r0), .val (.int p1), .val (.int (3 : Int32)), .val (.int (w0 &&& (255 : Int32))), .val (.int ((w0 &&& (255 : Int32)) &&& ((127 : Int32) >>> ((3 : Int32) &&& 31)))), .val (.int (1 : Int32))] [(.int w1), (.int (((w0 &&& (255 : Int32)) &&& ((127 : Int32) >>> ((3 : Int32) &&& 31))) <<< ((6 : Int32) &&& 31)))])) target → Steps p.tables e below (s₁.setTop (mkF m 42 #[.val (.ref r0), .val (.int p1), .val (.int (3 : Int32)), .val (.int (w0 &&& (255 : Int32))), .val (.int ((w0 &&& (255 : Int32)) &&& ((127 : Int32) >>> ((3 : Int32) &&& 31)))), .val (.int (1 : Int32))] [(.int (p1 + (1 : Int32))), (.ref r0), (.int (((w0 &&& (255 : Int32)) &&& ((127 : Int32) >>> ((3 : Int32) &&& 31))) <<< ((6 : Int32) &&& 31)))])) target := fun target kt => X0.baloadBytes hx (j := (p1 + (1 : Int32))) (v := (.int w1)) (by rw [e0]; exact Ar.1) (State.isArrayOf_alike hZ.alike Ar.2.1) Ar.2.2 hin1 hat1 (g := (mkF m 42 #[.val (.ref r0), .val (.int p1), .val (.int (3 : Int32)), .val (.int (w0 &&& (255 : Int32))), .val (.int ((w0 &&& (255 : Int32)) &&& ((127 : Int32) >>> ((3 : Int32) &&& 31)))), .val (.int (1 : Int32))] [(.int (p1 + (1 : Int32))), (.ref r0), (.int (((w0 &&& (255 : Int32)) &&& ((127 : Int32) >>> ((3 : Int32) &&& 31))) <<< ((6 : Int32) &&& 31)))])) rfl rfl (hb hby d1_42) _ kt
  have st5 : ∀ target, Steps p.tables e below (s₁.setTop (mkF m 42 #[.val (.ref r0), .val (.int p1), .val (.int (3 : Int32)), .val (.int (w0 &&& (255 : Int32))), .val (.int ((((w0 &&& (255 : Int32)) &&& ((127 : Int32) >>> ((3 : Int32) &&& 31))) <<< ((6 : Int32) &&& 31)) ||| (w1 &&& (63 : Int32)))), .val (.int (2 : Int32))] [(.int (p1 + (2 : Int32))), (.ref r0), (.int (((((w0 &&& (255 : Int32)) &&& ((127 : Int32) >>> ((3 : Int32) &&& 31))) <<< ((6 : Int32) &&& 31)) ||| (w1 &&& (63 : Int32))) <<< ((6 : Int32) &&& 31)))])) target → Steps p.tables e below (s₁.setTop (mkF m 43 #[.val (.ref r0), .val (.int p1), .val (.int (3 : Int32)), .val (.int (w0 &&& (255 : Int32))), .val (.int ((w0 &&& (255 : Int32)) &&& ((127 : Int32) >>> ((3 : Int32) &&& 31)))), .val (.int (1 : Int32))] [(.int w1), (.int (((w0 &&& (255 : Int32)) &&& ((127 : Int32) >>> ((3 : Int32) &&& 31))) <<< ((6 : Int32) &&& 31)))])) target := by
    intro target kt
    show Steps p.tables e below (s₁.setTop (mkF m 43 #[.val (.ref r0), .val (.int p1), .val (.int (3 : Int32)), .val (.int (w0 &&& (255 : Int32))), .val (.int ((w0 &&& (255 : Int32)) &&& ((127 : Int32) >>> ((3 : Int32) &&& 31)))), .val (.int (1 : Int32))] [(.int w1), (.int (((w0 &&& (255 : Int32)) &&& ((127 : Int32) >>> ((3 : Int32) &&& 31))) <<< ((6 : Int32) &&& 31)))])) _
    refine XS.bipush X0.here hx rfl (hb hby d1_43) ?_
    show Steps p.tables e below (s₁.setTop (mkF m 45 #[.val (.ref r0), .val (.int p1), .val (.int (3 : Int32)), .val (.int (w0 &&& (255 : Int32))), .val (.int ((w0 &&& (255 : Int32)) &&& ((127 : Int32) >>> ((3 : Int32) &&& 31)))), .val (.int (1 : Int32))] [(.int (63 : Int32)), (.int w1), (.int (((w0 &&& (255 : Int32)) &&& ((127 : Int32) >>> ((3 : Int32) &&& 31))) <<< ((6 : Int32) &&& 31)))])) _
    refine XS.iand X0.here hx rfl (hb hby d1_45) rfl ?_
    show Steps p.tables e below (s₁.setTop (mkF m 46 #[.val (.ref r0), .val (.int p1), .val (.int (3 : Int32)), .val (.int (w0 &&& (255 : Int32))), .val (.int ((w0 &&& (255 : Int32)) &&& ((127 : Int32) >>> ((3 : Int32) &&& 31)))), .val (.int (1 : Int32))] [(.int (w1 &&& (63 : Int32))), (.int (((w0 &&& (255 : Int32)) &&& ((127 : Int32) >>> ((3 : Int32) &&& 31))) <<< ((6 : Int32) &&& 31)))])) _
    refine XS.ior X0.here hx rfl (hb hby d1_46) rfl ?_
    show Steps p.tables e below (s₁.setTop (mkF m 47 #[.val (.ref r0), .val (.int p1), .val (.int (3 : Int32)), .val (.int (w0 &&& (255 : Int32))), .val (.int ((w0 &&& (255 : Int32)) &&& ((127 : Int32) >>> ((3 : Int32) &&& 31)))), .val (.int (1 : Int32))] [(.int ((((w0 &&& (255 : Int32)) &&& ((127 : Int32) >>> ((3 : Int32) &&& 31))) <<< ((6 : Int32) &&& 31)) ||| (w1 &&& (63 : Int32))))])) _
    refine XS.istore X0.here hx rfl (hb hby d1_47) rfl (l' := #[.val (.ref r0), .val (.int p1), .val (.int (3 : Int32)), .val (.int (w0 &&& (255 : Int32))), .val (.int ((((w0 &&& (255 : Int32)) &&& ((127 : Int32) >>> ((3 : Int32) &&& 31))) <<< ((6 : Int32) &&& 31)) ||| (w1 &&& (63 : Int32)))), .val (.int (1 : Int32))]) rfl ?_
    show Steps p.tables e below (s₁.setTop (mkF m 49 #[.val (.ref r0), .val (.int p1), .val (.int (3 : Int32)), .val (.int (w0 &&& (255 : Int32))), .val (.int ((((w0 &&& (255 : Int32)) &&& ((127 : Int32) >>> ((3 : Int32) &&& 31))) <<< ((6 : Int32) &&& 31)) ||| (w1 &&& (63 : Int32)))), .val (.int (1 : Int32))] [])) _
    refine XS.iinc X0.here hx rfl (hb hby d1_49) rfl (l' := #[.val (.ref r0), .val (.int p1), .val (.int (3 : Int32)), .val (.int (w0 &&& (255 : Int32))), .val (.int ((((w0 &&& (255 : Int32)) &&& ((127 : Int32) >>> ((3 : Int32) &&& 31))) <<< ((6 : Int32) &&& 31)) ||| (w1 &&& (63 : Int32)))), .val (.int (2 : Int32))]) rfl ?_
    show Steps p.tables e below (s₁.setTop (mkF m 52 #[.val (.ref r0), .val (.int p1), .val (.int (3 : Int32)), .val (.int (w0 &&& (255 : Int32))), .val (.int ((((w0 &&& (255 : Int32)) &&& ((127 : Int32) >>> ((3 : Int32) &&& 31))) <<< ((6 : Int32) &&& 31)) ||| (w1 &&& (63 : Int32)))), .val (.int (2 : Int32))] [])) _
    refine XS.goto X0.here hx rfl (pc0 := 52) (pc' := 26) rfl (hb hby d1_52) (by decide) (by decide) ?_
    show Steps p.tables e below (s₁.setTop (mkF m 26 #[.val (.ref r0), .val (.int p1), .val (.int (3 : Int32)), .val (.int (w0 &&& (255 : Int32))), .val (.int ((((w0 &&& (255 : Int32)) &&& ((127 : Int32) >>> ((3 : Int32) &&& 31))) <<< ((6 : Int32) &&& 31)) ||| (w1 &&& (63 : Int32)))), .val (.int (2 : Int32))] [])) _
    refine XS.iload X0.here hx rfl (hb hby d1_26) rfl ?_
    show Steps p.tables e below (s₁.setTop (mkF m 28 #[.val (.ref r0), .val (.int p1), .val (.int (3 : Int32)), .val (.int (w0 &&& (255 : Int32))), .val (.int ((((w0 &&& (255 : Int32)) &&& ((127 : Int32) >>> ((3 : Int32) &&& 31))) <<< ((6 : Int32) &&& 31)) ||| (w1 &&& (63 : Int32)))), .val (.int (2 : Int32))] [(.int (2 : Int32))])) _
    refine XS.iloadN X0.here hx rfl (hb hby d1_28) rfl ?_
    show Steps p.tables e below (s₁.setTop (mkF m 29 #[.val (.ref r0), .val (.int p1), .val (.int (3 : Int32)), .val (.int (w0 &&& (255 : Int32))), .val (.int ((((w0 &&& (255 : Int32)) &&& ((127 : Int32) >>> ((3 : Int32) &&& 31))) <<< ((6 : Int32) &&& 31)) ||| (w1 &&& (63 : Int32)))), .val (.int (2 : Int32))] [(.int (3 : Int32)), (.int (2 : Int32))])) _
    refine XS.icmpNo X0.here hx rfl (hb hby d1_29) rfl (tlt (by decide : ((2 : Int32) < (3 : Int32)))).2.1 ?_
    show Steps p.tables e below (s₁.setTop (mkF m 32 #[.val (.ref r0), .val (.int p1), .val (.int (3 : Int32)), .val (.int (w0 &&& (255 : Int32))), .val (.int ((((w0 &&& (255 : Int32)) &&& ((127 : Int32) >>> ((3 : Int32) &&& 31))) <<< ((6 : Int32) &&& 31)) ||| (w1 &&& (63 : Int32)))), .val (.int (2 : Int32))] [])) _
    refine XS.iload X0.here hx rfl (hb hby d1_32) rfl ?_
    show Steps p.tables e below (s₁.setTop (mkF m 34 #[.val (.ref r0), .val (.int p1), .val (.int (3 : Int32)), .val (.int (w0 &&& (255 : Int32))), .val (.int ((((w0 &&& (255 : Int32)) &&& ((127 : Int32) >>> ((3 : Int32) &&& 31))) <<< ((6 : Int32) &&& 31)) ||| (w1 &&& (63 : Int32)))), .val (.int (2 : Int32))] [(.int ((((w0 &&& (255 : Int32)) &&& ((127 : Int32) >>> ((3 : Int32) &&& 31))) <<< ((6 : Int32) &&& 31)) ||| (w1 &&& (63 : Int32))))])) _
    refine XS.bipush X0.here hx rfl (hb hby d1_34) ?_
    show Steps p.tables e below (s₁.setTop (mkF m 36 #[.val (.ref r0), .val (.int p1), .val (.int (3 : Int32)), .val (.int (w0 &&& (255 : Int32))), .val (.int ((((w0 &&& (255 : Int32)) &&& ((127 : Int32) >>> ((3 : Int32) &&& 31))) <<< ((6 : Int32) &&& 31)) ||| (w1 &&& (63 : Int32)))), .val (.int (2 : Int32))] [(.int (6 : Int32)), (.int ((((w0 &&& (255 : Int32)) &&& ((127 : Int32) >>> ((3 : Int32) &&& 31))) <<< ((6 : Int32) &&& 31)) ||| (w1 &&& (63 : Int32))))])) _
    refine XS.ishl X0.here hx rfl (hb hby d1_36) rfl ?_
    show Steps p.tables e below (s₁.setTop (mkF m 37 #[.val (.ref r0), .val (.int p1), .val (.int (3 : Int32)), .val (.int (w0 &&& (255 : Int32))), .val (.int ((((w0 &&& (255 : Int32)) &&& ((127 : Int32) >>> ((3 : Int32) &&& 31))) <<< ((6 : Int32) &&& 31)) ||| (w1 &&& (63 : Int32)))), .val (.int (2 : Int32))] [(.int (((((w0 &&& (255 : Int32)) &&& ((127 : Int32) >>> ((3 : Int32) &&& 31))) <<< ((6 : Int32) &&& 31)) ||| (w1 &&& (63 : Int32))) <<< ((6 : Int32) &&& 31)))])) _
    refine XS.aloadN X0.here hx rfl (hb hby d1_37) rfl rfl ?_
    show Steps p.tables e below (s₁.setTop (mkF m 38 #[.val (.ref r0), .val (.int p1), .val (.int (3 : Int32)), .val (.int (w0 &&& (255 : Int32))), .val (.int ((((w0 &&& (255 : Int32)) &&& ((127 : Int32) >>> ((3 : Int32) &&& 31))) <<< ((6 : Int32) &&& 31)) ||| (w1 &&& (63 : Int32)))), .val (.int (2 : Int32))] [(.ref r0), (.int (((((w0 &&& (255 : Int32)) &&& ((127 : Int32) >>> ((3 : Int32) &&& 31))) <<< ((6 : Int32) &&& 31)) ||| (w1 &&& (63 : Int32))) <<< ((6 : Int32) &&& 31)))])) _
    refine XS.iloadN X0.here hx rfl (hb hby d1_38) rfl ?_
    show Steps p.tables e below (s₁.setTop (mkF m 39 #[.val (.ref r0), .val (.int p1), .val (.int (3 : Int32)), .val (.int (w0 &&& (255 : Int32))), .val (.int ((((w0 &&& (255 : Int32)) &&& ((127 : Int32) >>> ((3 : Int32) &&& 31))) <<< ((6 : Int32) &&& 31)) ||| (w1 &&& (63 : Int32)))), .val (.int (2 : Int32))] [(.int p1), (.ref r0), (.int (((((w0 &&& (255 : Int32)) &&& ((127 : Int32) >>> ((3 : Int32) &&& 31))) <<< ((6 : Int32) &&& 31)) ||| (w1 &&& (63 : Int32))) <<< ((6 : Int32) &&& 31)))])) _
    refine XS.iload X0.here hx rfl (hb hby d1_39) rfl ?_
    show Steps p.tables e below (s₁.setTop (mkF m 41 #[.val (.ref r0), .val (.int p1), .val (.int (3 : Int32)), .val (.int (w0 &&& (255 : Int32))), .val (.int ((((w0 &&& (255 : Int32)) &&& ((127 : Int32) >>> ((3 : Int32) &&& 31))) <<< ((6 : Int32) &&& 31)) ||| (w1 &&& (63 : Int32)))), .val (.int (2 : Int32))] [(.int (2 : Int32)), (.int p1), (.ref r0), (.int (((((w0 &&& (255 : Int32)) &&& ((127 : Int32) >>> ((3 : Int32) &&& 31))) <<< ((6 : Int32) &&& 31)) ||| (w1 &&& (63 : Int32))) <<< ((6 : Int32) &&& 31)))])) _
    refine XS.iadd X0.here hx rfl (hb hby d1_41) rfl ?_
    exact kt
  have st6 : ∀ target, Steps p.tables e below (s₁.setTop (mkF m 43 #[.val (.ref r0), .val (.int p1), .val (.int (3 : Int32)), .val (.int (w0 &&& (255 : Int32))), .val (.int ((((w0 &&& (255 : Int32)) &&& ((127 : Int32) >>> ((3 : Int32) &&& 31))) <<< ((6 : Int32) &&& 31)) ||| (w1 &&& (63 : Int32)))), .val (.int (2 : Int32))] [(.int w2), (.int (((((w0 &&& (255 : Int32)) &&& ((127 : Int32) >>> ((3 : Int32) &&& 31))) <<< ((6 : Int32) &&& 31)) ||| (w1 &&& (63 : Int32))) <<< ((6 : Int32) &&& 31)))])) target → Steps p.tables e below (s₁.setTop (mkF m 42 #[.val (.ref r0), .val (.int p1), .val (.int (3 : Int32)), .val (.int (w0 &&& (255 : Int32))), .val (.int ((((w0 &&& (255 : Int32)) &&& ((127 : Int32) >>> ((3 : Int32) &&& 31))) <<< ((6 : Int32) &&& 31)) ||| (w1 &&& (63 : Int32)))), .val (.int (2 : Int32))] [(.int (p1 + (2 : Int32))), (.ref r0), (.int (((((w0 &&& (255 : Int32)) &&& ((127 : Int32) >>> ((3 : Int32) &&& 31))) <<< ((6 : Int32) &&& 31)) ||| (w1 &&& (63 : Int32))) <<< ((6 : Int32) &&& 31)))])) target := fun target kt => X0.baloadBytes hx (j := (p1 + (2 : Int32))) (v := (.int w2)) (by rw [e0]; exact Ar.1) (State.isArrayOf_alike hZ.alike Ar.2.1) Ar.2.2 hin2 hat2 (g := (mkF m 42 #[.val (.ref r0), .val (.int p1), .val (.int (3 : Int32)), .val (.int (w0 &&& (255 : Int32))), .val (.int ((((w0 &&& (255 : Int32)) &&& ((127 : Int32) >>> ((3 : Int32) &&& 31))) <<< ((6 : Int32) &&& 31)) ||| (w1 &&& (63 : Int32)))), .val (.int (2 : Int32))] [(.int (p1 + (2 : Int32))), (.ref r0), (.int (((((w0 &&& (255 : Int32)) &&& ((127 : Int32) >>> ((3 : Int32) &&& 31))) <<< ((6 : Int32) &&& 31)) ||| (w1 &&& (63 : Int32))) <<< ((6 : Int32) &&& 31)))])) rfl rfl (hb hby d1_42) _ kt
  obtain ⟨fs, hr, hrun, hended, hW, hsame⟩ := X0.leave (v := some (.int ((((((w0 &&& (255 : Int32)) &&& ((127 : Int32) >>> ((3 : Int32) &&& 31))) <<< ((6 : Int32) &&& 31)) ||| (w1 &&& (63 : Int32))) <<< ((6 : Int32) &&& 31)) ||| (w2 &&& (63 : Int32))))) (fun h => by rw [Bd.returns] at h; cases h)
  refine ⟨_, _, pre0 _ (st1 _ (st2 _ (st3 _ (st4 _ (st5 _ (st6 _ ?_)))))), hrun, hended, _, _, rfl, ?_, ⟨_, rfl⟩, hW, hsame.mono (by decide) (by decide)⟩
  · show Steps p.tables e below (s₁.setTop (mkF m 43 #[.val (.ref r0), .val (.int p1), .val (.int (3 : Int32)), .val (.int (w0 &&& (255 : Int32))), .val (.int ((((w0 &&& (255 : Int32)) &&& ((127 : Int32) >>> ((3 : Int32) &&& 31))) <<< ((6 : Int32) &&& 31)) ||| (w1 &&& (63 : Int32)))), .val (.int (2 : Int32))] [(.int w2), (.int (((((w0 &&& (255 : Int32)) &&& ((127 : Int32) >>> ((3 : Int32) &&& 31))) <<< ((6 : Int32) &&& 31)) ||| (w1 &&& (63 : Int32))) <<< ((6 : Int32) &&& 31)))])) _
    refine XS.bipush X0.here hx rfl (hb hby d1_43) ?_
    show Steps p.tables e below (s₁.setTop (mkF m 45 #[.val (.ref r0), .val (.int p1), .val (.int (3 : Int32)), .val (.int (w0 &&& (255 : Int32))), .val (.int ((((w0 &&& (255 : Int32)) &&& ((127 : Int32) >>> ((3 : Int32) &&& 31))) <<< ((6 : Int32) &&& 31)) ||| (w1 &&& (63 : Int32)))), .val (.int (2 : Int32))] [(.int (63 : Int32)), (.int w2), (.int (((((w0 &&& (255 : Int32)) &&& ((127 : Int32) >>> ((3 : Int32) &&& 31))) <<< ((6 : Int32) &&& 31)) ||| (w1 &&& (63 : Int32))) <<< ((6 : Int32) &&& 31)))])) _
    refine XS.iand X0.here hx rfl (hb hby d1_45) rfl ?_
    show Steps p.tables e below (s₁.setTop (mkF m 46 #[.val (.ref r0), .val (.int p1), .val (.int (3 : Int32)), .val (.int (w0 &&& (255 : Int32))), .val (.int ((((w0 &&& (255 : Int32)) &&& ((127 : Int32) >>> ((3 : Int32) &&& 31))) <<< ((6 : Int32) &&& 31)) ||| (w1 &&& (63 : Int32)))), .val (.int (2 : Int32))] [(.int (w2 &&& (63 : Int32))), (.int (((((w0 &&& (255 : Int32)) &&& ((127 : Int32) >>> ((3 : Int32) &&& 31))) <<< ((6 : Int32) &&& 31)) ||| (w1 &&& (63 : Int32))) <<< ((6 : Int32) &&& 31)))])) _
    refine XS.ior X0.here hx rfl (hb hby d1_46) rfl ?_
    show Steps p.tables e below (s₁.setTop (mkF m 47 #[.val (.ref r0), .val (.int p1), .val (.int (3 : Int32)), .val (.int (w0 &&& (255 : Int32))), .val (.int ((((w0 &&& (255 : Int32)) &&& ((127 : Int32) >>> ((3 : Int32) &&& 31))) <<< ((6 : Int32) &&& 31)) ||| (w1 &&& (63 : Int32)))), .val (.int (2 : Int32))] [(.int ((((((w0 &&& (255 : Int32)) &&& ((127 : Int32) >>> ((3 : Int32) &&& 31))) <<< ((6 : Int32) &&& 31)) ||| (w1 &&& (63 : Int32))) <<< ((6 : Int32) &&& 31)) ||| (w2 &&& (63 : Int32))))])) _
    refine XS.istore X0.here hx rfl (hb hby d1_47) rfl (l' := #[.val (.ref r0), .val (.int p1), .val (.int (3 : Int32)), .val (.int (w0 &&& (255 : Int32))), .val (.int ((((((w0 &&& (255 : Int32)) &&& ((127 : Int32) >>> ((3 : Int32) &&& 31))) <<< ((6 : Int32) &&& 31)) ||| (w1 &&& (63 : Int32))) <<< ((6 : Int32) &&& 31)) ||| (w2 &&& (63 : Int32)))), .val (.int (2 : Int32))]) rfl ?_
    show Steps p.tables e below (s₁.setTop (mkF m 49 #[.val (.ref r0), .val (.int p1), .val (.int (3 : Int32)), .val (.int (w0 &&& (255 : Int32))), .val (.int ((((((w0 &&& (255 : Int32)) &&& ((127 : Int32) >>> ((3 : Int32) &&& 31))) <<< ((6 : Int32) &&& 31)) ||| (w1 &&& (63 : Int32))) <<< ((6 : Int32) &&& 31)) ||| (w2 &&& (63 : Int32)))), .val (.int (2 : Int32))] [])) _
    refine XS.iinc X0.here hx rfl (hb hby d1_49) rfl (l' := #[.val (.ref r0), .val (.int p1), .val (.int (3 : Int32)), .val (.int (w0 &&& (255 : Int32))), .val (.int ((((((w0 &&& (255 : Int32)) &&& ((127 : Int32) >>> ((3 : Int32) &&& 31))) <<< ((6 : Int32) &&& 31)) ||| (w1 &&& (63 : Int32))) <<< ((6 : Int32) &&& 31)) ||| (w2 &&& (63 : Int32)))), .val (.int (3 : Int32))]) rfl ?_
    show Steps p.tables e below (s₁.setTop (mkF m 52 #[.val (.ref r0), .val (.int p1), .val (.int (3 : Int32)), .val (.int (w0 &&& (255 : Int32))), .val (.int ((((((w0 &&& (255 : Int32)) &&& ((127 : Int32) >>> ((3 : Int32) &&& 31))) <<< ((6 : Int32) &&& 31)) ||| (w1 &&& (63 : Int32))) <<< ((6 : Int32) &&& 31)) ||| (w2 &&& (63 : Int32)))), .val (.int (3 : Int32))] [])) _
    refine XS.goto X0.here hx rfl (pc0 := 52) (pc' := 26) rfl (hb hby d1_52) (by decide) (by decide) ?_
    show Steps p.tables e below (s₁.setTop (mkF m 26 #[.val (.ref r0), .val (.int p1), .val (.int (3 : Int32)), .val (.int (w0 &&& (255 : Int32))), .val (.int ((((((w0 &&& (255 : Int32)) &&& ((127 : Int32) >>> ((3 : Int32) &&& 31))) <<< ((6 : Int32) &&& 31)) ||| (w1 &&& (63 : Int32))) <<< ((6 : Int32) &&& 31)) ||| (w2 &&& (63 : Int32)))), .val (.int (3 : Int32))] [])) _
    refine XS.iload X0.here hx rfl (hb hby d1_26) rfl ?_
    show Steps p.tables e below (s₁.setTop (mkF m 28 #[.val (.ref r0), .val (.int p1), .val (.int (3 : Int32)), .val (.int (w0 &&& (255 : Int32))), .val (.int ((((((w0 &&& (255 : Int32)) &&& ((127 : Int32) >>> ((3 : Int32) &&& 31))) <<< ((6 : Int32) &&& 31)) ||| (w1 &&& (63 : Int32))) <<< ((6 : Int32) &&& 31)) ||| (w2 &&& (63 : Int32)))), .val (.int (3 : Int32))] [(.int (3 : Int32))])) _
    refine XS.iloadN X0.here hx rfl (hb hby d1_28) rfl ?_
    show Steps p.tables e below (s₁.setTop (mkF m 29 #[.val (.ref r0), .val (.int p1), .val (.int (3 : Int32)), .val (.int (w0 &&& (255 : Int32))), .val (.int ((((((w0 &&& (255 : Int32)) &&& ((127 : Int32) >>> ((3 : Int32) &&& 31))) <<< ((6 : Int32) &&& 31)) ||| (w1 &&& (63 : Int32))) <<< ((6 : Int32) &&& 31)) ||| (w2 &&& (63 : Int32)))), .val (.int (3 : Int32))] [(.int (3 : Int32)), (.int (3 : Int32))])) _
    refine XS.icmpYes X0.here hx rfl (pc0 := 29) (pc' := 55) rfl (hb hby d1_29) rfl (flt (by decide : ¬ ((3 : Int32) < (3 : Int32)))).2.1 (by decide) (by decide) ?_
    show Steps p.tables e below (s₁.setTop (mkF m 55 #[.val (.ref r0), .val (.int p1), .val (.int (3 : Int32)), .val (.int (w0 &&& (255 : Int32))), .val (.int ((((((w0 &&& (255 : Int32)) &&& ((127 : Int32) >>> ((3 : Int32) &&& 31))) <<< ((6 : Int32) &&& 31)) ||| (w1 &&& (63 : Int32))) <<< ((6 : Int32) &&& 31)) ||| (w2 &&& (63 : Int32)))), .val (.int (3 : Int32))] [])) _
    refine XS.iload X0.here hx rfl (hb hby d1_55) rfl ?_
    show Steps p.tables e below (s₁.setTop (mkF m 57 #[.val (.ref r0), .val (.int p1), .val (.int (3 : Int32)), .val (.int (w0 &&& (255 : Int32))), .val (.int ((((((w0 &&& (255 : Int32)) &&& ((127 : Int32) >>> ((3 : Int32) &&& 31))) <<< ((6 : Int32) &&& 31)) ||| (w1 &&& (63 : Int32))) <<< ((6 : Int32) &&& 31)) ||| (w2 &&& (63 : Int32)))), .val (.int (3 : Int32))] [(.int ((((((w0 &&& (255 : Int32)) &&& ((127 : Int32) >>> ((3 : Int32) &&& 31))) <<< ((6 : Int32) &&& 31)) ||| (w1 &&& (63 : Int32))) <<< ((6 : Int32) &&& 31)) ||| (w2 &&& (63 : Int32))))])) _
    exact retI X0 hx Bd.returns (hb hby d1_57) hr
  · show Q_rmCP3 Z r0 p1 cl w0 w1 w2 h0 n0 _ s₁.heap _
    rw [e0]
    exact ⟨rfl, N0, rfl⟩
def own_cp4 (w0 w1 w2 w3 : Int32) : Int32 := ((((((((w0 &&& (255 : Int32)) &&& ((127 : Int32) >>> ((4 : Int32) &&& 31))) <<< ((6 : Int32) &&& 31)) ||| (w1 &&& (63 : Int32))) <<< ((6 : Int32) &&& 31)) ||| (w2 &&& (63 : Int32))) <<< ((6 : Int32) &&& 31)) ||| (w3 &&& (63 : Int32)))
theorem ef_rmCP4 (m : MethodId) (x0 : Addr) (x1 : Int32) (x2 : Int32) : entryFrame m #[(.ref x0), (.int x1), (.int x2)] 6 = mkF m 0 #[.val (.ref x0), .val (.int x1), .val (.int x2), .unset, .unset, .unset] [] := by first | (simp [entryFrame, mkF, argsToLocals, Value.category]; done) | rfl
def Q_rmCP4 (Z : State) (r0 : Addr) (p1 : Int32) (cl : Cell) (w0 : Int32) (w1 : Int32) (w2 : Int32) (w3 : Int32) (h0 : Heap) (n0 : Nat) (v : Option Value) (h : Heap) (L : List Loc) : Prop := v = some (.int (own_cp4 w0 w1 w2 w3)) ∧ Fr n0 L ∧ h = h0
set_option maxRecDepth 65536 in
set_option maxHeartbeats 40000000 in
theorem rmCP4 (l : Launch) (Z : State) (a0 : Array Value) (hw : ∀ d ∈ tables_1, d.before a0 Z = true) (ws : List Jvm.Cond) (r0 : Addr) (p1 : Int32) (cl : Cell) (w0 : Int32) (w1 : Int32) (w2 : Int32) (w3 : Int32) (h0 : Heap) (n0 : Nat) (Z0 : n0 ≤ h0.size) (Ar : Arr Z h0 r0 cl .byte) (hin0 : ¬ (p1 < 0 ∨ cl.slots.size ≤ (p1).toNatClampNeg)) (hin1 : ¬ ((p1 + (1 : Int32)) < 0 ∨ cl.slots.size ≤ ((p1 + (1 : Int32))).toNatClampNeg)) (hin2 : ¬ ((p1 + (2 : Int32)) < 0 ∨ cl.slots.size ≤ ((p1 + (2 : Int32))).toNatClampNeg)) (hin3 : ¬ ((p1 + (3 : Int32)) < 0 ∨ cl.slots.size ≤ ((p1 + (3 : Int32))).toNatClampNeg)) (hat0 : cl.slots[(p1).toNatClampNeg]? = some (.int w0)) (hat1 : cl.slots[((p1 + (1 : Int32))).toNatClampNeg]? = some (.int w1)) (hat2 : cl.slots[((p1 + (2 : Int32))).toNatClampNeg]? = some (.int w2)) (hat3 : cl.slots[((p1 + (3 : Int32))).toNatClampNeg]? = some (.int w3)) :
    MetFree l (⟨"com/example/murray_hill/murrayhill/WellFormed", "codePoint", "([BII)I"⟩ : MethodName) (head1 (Jvm.Cond.code (⟨"com/example/murray_hill/murrayhill/WellFormed", "codePoint", "([BII)I"⟩ : MethodName) prog_39_method_13_code 6 (some .int) :: ws) ({ frames := 0, cells := 0, slots := 0, locals := 0 } : Room)) (fun a U => a = #[(.ref r0), (.int p1), (.int (4 : Int32))] ∧ Z.Warmed39 U.vm ∧ U.heap = h0) (fun _ _ _ _ _ => True) (fun _ U o U' => ∃ v L, o = .returned v ∧ Q_rmCP4 Z r0 p1 cl w0 w1 w2 w3 h0 n0 v U'.heap L ∧ FrameEnd U o U' L ({ frames := 0, cells := 0, slots := 0, locals := 0 } : Room).cells ({ frames := 0, cells := 0, slots := 0, locals := 0 } : Room).slots) := by
  refine MetFree.of_bodySF (plainFor_of_name pn_0) hisR ?_
  intro p e s m args below meth c s₁ Bd hml0 hP hK
  obtain ⟨rfl, hZ, hh⟩ := hP
  have hx := Bd.exec
  have hby := Bd.bytes
  have hml : c.maxLocals = 6 := hml0
  have hown : s.vm.findClass "com/example/murray_hill/murrayhill/WellFormed" = some m.cls := findClass_of_methodNamed Bd.named
  have hnm := (name_of_methodNamed Bd.named Bd.method).1
  have X0 : Stand p l e ({ frames := 0, cells := 0, slots := 0, locals := 0 } : Room) s m #[(.ref r0), (.int p1), (.int (4 : Int32))] below meth c s₁ [] 0 0 := Stand.of_body Bd
  have e0 : s₁.heap = h0 := by rw [← hh, Bd.state]; rfl
  have N0 := Fr.nil n0
  have pre0 : ∀ t, Steps p.tables e below (s₁.setTop (mkF m 0 #[.val (.ref r0), .val (.int p1), .val (.int (4 : Int32)), .unset, .unset, .unset] [])) t → Steps p.tables e below (s₁.setTop (entryFrame m #[(.ref r0), (.int p1), (.int (4 : Int32))] 6)) t := fun t k => castTop (ef_rmCP4 m r0 p1 (4 : Int32)) k
  have st1 : ∀ target, Steps p.tables e below (s₁.setTop (mkF m 2 #[.val (.ref r0), .val (.int p1), .val (.int (4 : Int32)), .unset, .unset, .unset] [(.int p1), (.ref r0)])) target → Steps p.tables e below (s₁.setTop (mkF m 0 #[.val (.ref r0), .val (.int p1), .val (.int (4 : Int32)), .unset, .unset, .unset] [])) target := by
    intro target kt
    show Steps p.tables e below (s₁.setTop (mkF m 0 #[.val (.ref r0), .val (.int p1), .val (.int (4 : Int32)), .unset, .unset, .unset] [])) _
    refine XS.aloadN X0.here hx rfl (hb hby d1_0) rfl rfl ?_
    show Steps p.tables e below (s₁.setTop (mkF m 1 #[.val (.ref r0), .val (.int p1), .val (.int (4 : Int32)), .unset, .unset, .unset] [(.ref r0)])) _
    refine XS.iloadN X0.here hx rfl (hb hby d1_1) rfl ?_
    exact kt
  have st2 : ∀ target, Steps p.tables e below (s₁.setTop (mkF m 3 #[.val (.ref r0), .val (.int p1), .val (.int (4 : Int32)), .unset, .unset, .unset] [(.int w0)])) target → Steps p.tables e below (s₁.setTop (mkF m 2 #[.val (.ref r0), .val (.int p1), .val (.int (4 : Int32)), .unset, .unset, .unset] [(.int p1), (.ref r0)])) target := fun target kt => X0.baloadBytes hx (j := p1) (v := (.int w0)) (by rw [e0]; exact Ar.1) (State.isArrayOf_alike hZ.alike Ar.2.1) Ar.2.2 hin0 hat0 (g := (mkF m 2 #[.val (.ref r0), .val (.int p1), .val (.int (4 : Int32)), .unset, .unset, .unset] [(.int p1), (.ref r0)])) rfl rfl (hb hby d1_2) _ kt
  have st3 : ∀ target, Steps p.tables e below (s₁.setTop (mkF m 42 #[.val (.ref r0), .val (.int p1), .val (.int (4 : Int32)), .val (.int (w0 &&& (255 : Int32))), .val (.int ((w0 &&& (255 : Int32)) &&& ((127 : Int32) >>> ((4 : Int32) &&& 31)))), .val (.int (1 : Int32))] [(.int (p1 + (1 : Int32))), (.ref r0), (.int (((w0 &&& (255 : Int32)) &&& ((127 : Int32) >>> ((4 : Int32) &&& 31))) <<< ((6 : Int32) &&& 31)))])) target → Steps p.tables e below (s₁.setTop (mkF m 3 #[.val (.ref r0), .val (.int p1), .val (.int (4 : Int32)), .unset, .unset, .unset] [(.int w0)])) target := by
    intro target kt
    show Steps p.tables e below (s₁.setTop (mkF m 3 #[.val (.ref r0), .val (.int p1), .val (.int (4 : Int32)), .unset, .unset, .unset] [(.int w0)])) _
    refine XS.sipush X0.here hx rfl (hb hby d1_3) ?_
    show Steps p.tables e below (s₁.setTop (mkF m 6 #[.val (.ref r0), .val (.int p1), .val (.int (4 : Int32)), .unset, .unset, .unset] [(.int (255 : Int32)), (.int w0)])) _
    refine XS.iand X0.here hx rfl (hb hby d1_6) rfl ?_
    show Steps p.tables e below (s₁.setTop (mkF m 7 #[.val (.ref r0), .val (.int p1), .val (.int (4 : Int32)), .unset, .unset, .unset] [(.int (w0 &&& (255 : Int32)))])) _
    refine XS.istoreN X0.here hx rfl (hb hby d1_7) rfl (l' := #[.val (.ref r0), .val (.int p1), .val (.int (4 : Int32)), .val (.int (w0 &&& (255 : Int32))), .unset, .unset]) rfl ?_
    show Steps p.tables e below (s₁.setTop (mkF m 8 #[.val (.ref r0), .val (.int p1), .val (.int (4 : Int32)), .val (.int (w0 &&& (255 : Int32))), .unset, .unset] [])) _
    refine XS.iloadN X0.here hx rfl (hb hby d1_8) rfl ?_
    show Steps p.tables e below (s₁.setTop (mkF m 9 #[.val (.ref r0), .val (.int p1), .val (.int (4 : Int32)), .val (.int (w0 &&& (255 : Int32))), .unset, .unset] [(.int (4 : Int32))])) _
    refine XS.iconst X0.here hx rfl (hb hby d1_9) ?_
    show Steps p.tables e below (s₁.setTop (mkF m 10 #[.val (.ref r0), .val (.int p1), .val (.int (4 : Int32)), .val (.int (w0 &&& (255 : Int32))), .unset, .unset] [(.int (1 : Int32)), (.int (4 : Int32))])) _
    refine XS.icmpYes X0.here hx rfl (pc0 := 10) (pc' := 15) rfl (hb hby d1_10) rfl (feq (by decide : ¬ ((4 : Int32) = (1 : Int32)))).2 (by decide) (by decide) ?_
    show Steps p.tables e below (s₁.setTop (mkF m 15 #[.val (.ref r0), .val (.int p1), .val (.int (4 : Int32)), .val (.int (w0 &&& (255 : Int32))), .unset, .unset] [])) _
    refine XS.iloadN X0.here hx rfl (hb hby d1_15) rfl ?_
    show Steps p.tables e below (s₁.setTop (mkF m 16 #[.val (.ref r0), .val (.int p1), .val (.int (4 : Int32)), .val (.int (w0 &&& (255 : Int32))), .unset, .unset] [(.int (w0 &&& (255 : Int32)))])) _
    refine XS.bipush X0.here hx rfl (hb hby d1_16) ?_
    show Steps p.tables e below (s₁.setTop (mkF m 18 #[.val (.ref r0), .val (.int p1), .val (.int (4 : Int32)), .val (.int (w0 &&& (255 : Int32))), .unset, .unset] [(.int (127 : Int32)), (.int (w0 &&& (255 : Int32)))])) _
    refine XS.iloadN X0.here hx rfl (hb hby d1_18) rfl ?_
    show Steps p.tables e below (s₁.setTop (mkF m 19 #[.val (.ref r0), .val (.int p1), .val (.int (4 : Int32)), .val (.int (w0 &&& (255 : Int32))), .unset, .unset] [(.int (4 : Int32)), (.int (127 : Int32)), (.int (w0 &&& (255 : Int32)))])) _
    refine XS.ishr X0.here hx rfl (hb hby d1_19) rfl ?_
    show Steps p.tables e below (s₁.setTop (mkF m 20 #[.val (.ref r0), .val (.int p1), .val (.int (4 : Int32)), .val (.int (w0 &&& (255 : Int32))), .unset, .unset] [(.int ((127 : Int32) >>> ((4 : Int32) &&& 31))), (.int (w0 &&& (255 : Int32)))])) _
    refine XS.iand X0.here hx rfl (hb hby d1_20) rfl ?_
    show Steps p.tables e below (s₁.setTop (mkF m 21 #[.val (.ref r0), .val (.int p1), .val (.int (4 : Int32)), .val (.int (w0 &&& (255 : Int32))), .unset, .unset] [(.int ((w0 &&& (255 : Int32)) &&& ((127 : Int32) >>> ((4 : Int32) &&& 31))))])) _
    refine XS.istore X0.here hx rfl (hb hby d1_21) rfl (l' := #[.val (.ref r0), .val (.int p1), .val (.int (4 : Int32)), .val (.int (w0 &&& (255 : Int32))), .val (.int ((w0 &&& (255 : Int32)) &&& ((127 : Int32) >>> ((4 : Int32) &&& 31)))), .unset]) rfl ?_
    show Steps p.tables e below (s₁.setTop (mkF m 23 #[.val (.ref r0), .val (.int p1), .val (.int (4 : Int32)), .val (.int (w0 &&& (255 : Int32))), .val (.int ((w0 &&& (255 : Int32)) &&& ((127 : Int32) >>> ((4 : Int32) &&& 31)))), .unset] [])) _
    refine XS.iconst X0.here hx rfl (hb hby d1_23) ?_
    show Steps p.tables e below (s₁.setTop (mkF m 24 #[.val (.ref r0), .val (.int p1), .val (.int (4 : Int32)), .val (.int (w0 &&& (255 : Int32))), .val (.int ((w0 &&& (255 : Int32)) &&& ((127 : Int32) >>> ((4 : Int32) &&& 31)))), .unset] [(.int (1 : Int32))])) _
    refine XS.istore X0.here hx rfl (hb hby d1_24) rfl (l' := #[.val (.ref r0), .val (.int p1), .val (.int (4 : Int32)), .val (.int (w0 &&& (255 : Int32))), .val (.int ((w0 &&& (255 : Int32)) &&& ((127 : Int32) >>> ((4 : Int32) &&& 31)))), .val (.int (1 : Int32))]) rfl ?_
    show Steps p.tables e below (s₁.setTop (mkF m 26 #[.val (.ref r0), .val (.int p1), .val (.int (4 : Int32)), .val (.int (w0 &&& (255 : Int32))), .val (.int ((w0 &&& (255 : Int32)) &&& ((127 : Int32) >>> ((4 : Int32) &&& 31)))), .val (.int (1 : Int32))] [])) _
    refine XS.iload X0.here hx rfl (hb hby d1_26) rfl ?_
    show Steps p.tables e below (s₁.setTop (mkF m 28 #[.val (.ref r0), .val (.int p1), .val (.int (4 : Int32)), .val (.int (w0 &&& (255 : Int32))), .val (.int ((w0 &&& (255 : Int32)) &&& ((127 : Int32) >>> ((4 : Int32) &&& 31)))), .val (.int (1 : Int32))] [(.int (1 : Int32))])) _
    refine XS.iloadN X0.here hx rfl (hb hby d1_28) rfl ?_
    show Steps p.tables e below (s₁.setTop (mkF m 29 #[.val (.ref r0), .val (.int p1), .val (.int (4 : Int32)), .val (.int (w0 &&& (255 : Int32))), .val (.int ((w0 &&& (255 : Int32)) &&& ((127 : Int32) >>> ((4 : Int32) &&& 31)))), .val (.int (1 : Int32))] [(.int (4 : Int32)), (.int (1 : Int32))])) _
    refine XS.icmpNo X0.here hx rfl (hb hby d1_29) rfl (tlt (by decide : ((1 : Int32) < (4 : Int32)))).2.1 ?_
    show Steps p.tables e below (s₁.setTop (mkF m 32 #[.val (.ref r0), .val (.int p1), .val (.int (4 : Int32)), .val (.int (w0 &&& (255 : Int32))), .val (.int ((w0 &&& (255 : Int32)) &&& ((127 : Int32) >>> ((4 : Int32) &&& 31)))), .val (.int (1 : Int32))] [])) _
    refine XS.iload X0.here hx rfl (hb hby d1_32) rfl ?_
    show Steps p.tables e below (s₁.setTop (mkF m 34 #[.val (.ref r0), .val (.int p1), .val (.int (4 : Int32)), .val (.int (w0 &&& (255 : Int32))), .val (.int ((w0 &&& (255 : Int32)) &&& ((127 : Int32) >>> ((4 : Int32) &&& 31)))), .val (.int (1 : Int32))] [(.int ((w0 &&& (255 : Int32)) &&& ((127 : Int32) >>> ((4 : Int32) &&& 31))))])) _
    refine XS.bipush X0.here hx rfl (hb hby d1_34) ?_
    show Steps p.tables e below (s₁.setTop (mkF m 36 #[.val (.ref r0), .val (.int p1), .val (.int (4 : Int32)), .val (.int (w0 &&& (255 : Int32))), .val (.int ((w0 &&& (255 : Int32)) &&& ((127 : Int32) >>> ((4 : Int32) &&& 31)))), .val (.int (1 : Int32))] [(.int (6 : Int32)), (.int ((w0 &&& (255 : Int32)) &&& ((127 : Int32) >>> ((4 : Int32) &&& 31))))])) _
    refine XS.ishl X0.here hx rfl (hb hby d1_36) rfl ?_
    show Steps p.tables e below (s₁.setTop (mkF m 37 #[.val (.ref r0), .val (.int p1), .val (.int (4 : Int32)), .val (.int (w0 &&& (255 : Int32))), .val (.int ((w0 &&& (255 : Int32)) &&& ((127 : Int32) >>> ((4 : Int32) &&& 31)))), .val (.int (1 : Int32))] [(.int (((w0 &&& (255 : Int32)) &&& ((127 : Int32) >>> ((4 : Int32) &&& 31))) <<< ((6 : Int32) &&& 31)))])) _
    refine XS.aloadN X0.here hx rfl (hb hby d1_37) rfl rfl ?_
    show Steps p.tables e below (s₁.setTop (mkF m 38 #[.val (.ref r0), .val (.int p1), .val (.int (4 : Int32)), .val (.int (w0 &&& (255 : Int32))), .val (.int ((w0 &&& (255 : Int32)) &&& ((127 : Int32) >>> ((4 : Int32) &&& 31)))), .val (.int (1 : Int32))] [(.ref r0), (.int (((w0 &&& (255 : Int32)) &&& ((127 : Int32) >>> ((4 : Int32) &&& 31))) <<< ((6 : Int32) &&& 31)))])) _
    refine XS.iloadN X0.here hx rfl (hb hby d1_38) rfl ?_
    show Steps p.tables e below (s₁.setTop (mkF m 39 #[.val (.ref r0), .val (.int p1), .val (.int (4 : Int32)), .val (.int (w0 &&& (255 : Int32))), .val (.int ((w0 &&& (255 : Int32)) &&& ((127 : Int32) >>> ((4 : Int32) &&& 31)))), .val (.int (1 : Int32))] [(.int p1), (.ref r0), (.int (((w0 &&& (255 : Int32)) &&& ((127 : Int32) >>> ((4 : Int32) &&& 31))) <<< ((6 : Int32) &&& 31)))])) _
    refine XS.iload X0.here hx rfl (hb hby d1_39) rfl ?_
    show Steps p.tables e below (s₁.setTop (mkF m 41 #[.val (.ref r0), .val (.int p1), .val (.int (4 : Int32)), .val (.int (w0 &&& (255 : Int32))), .val (.int ((w0 &&& (255 : Int32)) &&& ((127 : Int32) >>> ((4 : Int32) &&& 31)))), .val (.int (1 : Int32))] [(.int (1 : Int32)), (.int p1), (.ref r0), (.int (((w0 &&& (255 : Int32)) &&& ((127 : Int32) >>> ((4 : Int32) &&& 31))) <<< ((6 : Int32) &&& 31)))])) _
    refine XS.iadd X0.here hx rfl (hb hby d1_41) rfl ?_
    exact kt
  have st4 : ∀ target, Steps p.tables e below (s₁.setTop (mkF m 43 #[.val (.ref r0), .val (.int p1), .val (.int (4 : Int32)), .val (.int (w0 &&& (255 : Int32))), .val (.int ((w0 &&& (255 : Int32)) &&& ((127 : Int32) >>> ((4 : Int32) &&& 31)))), .val (.int (1 : Int32))] [(.int w1), (.int (((w0 &&& (255 : Int32)) &&& ((127 : Int32) >>> ((4 : Int32) &&& 31))) <<< ((6 : Int32) &&& 31)))])) target → Steps p.tables e below (s₁.setTop (mkF m 42 #[.val (.ref r0), .val (.int p1), .val (.int (4 : Int32)), .val (.int (w0 &&& (255 : Int32))), .val (.int ((w0 &&& (255 : Int32)) &&& ((127 : Int32) >>> ((4 : Int32) &&& 31)))), .val (.int (1 : Int32))] [(.int (p1 + (1 : Int32))), (.ref r0), (.int (((w0 &&& (255 : Int32)) &&& ((127 : Int32) >>> ((4 : Int32) &&& 31))) <<< ((6 : Int32) &&& 31)))])) target := fun target kt => X0.baloadBytes hx (j := (p1 + (1 : Int32))) (v := (.int w1)) (by rw [e0]; exact Ar.1) (State.isArrayOf_alike hZ.alike Ar.2.1) Ar.2.2 hin1 hat1 (g := (mkF m 42 #[.val (.ref r0), .val (.int p1), .val (.int (4 : Int32)), .val (.int (w0 &&& (255 : Int32))), .val (.int ((w0 &&& (255 : Int32)) &&& ((127 : Int32) >>> ((4 : Int32) &&& 31)))), .val (.int (1 : Int32))] [(.int (p1 + (1 : Int32))), (.ref r0), (.int (((w0 &&& (255 : Int32)) &&& ((127 : Int32) >>> ((4 : Int32) &&& 31))) <<< ((6 : Int32) &&& 31)))])) rfl rfl (hb hby d1_42) _ kt
  have st5 : ∀ target, Steps p.tables e below (s₁.setTop (mkF m 42 #[.val (.ref r0), .val (.int p1), .val (.int (4 : Int32)), .val (.int (w0 &&& (255 : Int32))), .val (.int ((((w0 &&& (255 : Int32)) &&& ((127 : Int32) >>> ((4 : Int32) &&& 31))) <<< ((6 : Int32) &&& 31)) ||| (w1 &&& (63 : Int32)))), .val (.int (2 : Int32))] [(.int (p1 + (2 : Int32))), (.ref r0), (.int (((((w0 &&& (255 : Int32)) &&& ((127 : Int32) >>> ((4 : Int32) &&& 31))) <<< ((6 : Int32) &&& 31)) ||| (w1 &&& (63 : Int32))) <<< ((6 : Int32) &&& 31)))])) target → Steps p.tables e below (s₁.setTop (mkF m 43 #[.val (.ref r0), .val (.int p1), .val (.int (4 : Int32)), .val (.int (w0 &&& (255 : Int32))), .val (.int ((w0 &&& (255 : Int32)) &&& ((127 : Int32) >>> ((4 : Int32) &&& 31)))), .val (.int (1 : Int32))] [(.int w1), (.int (((w0 &&& (255 : Int32)) &&& ((127 : Int32) >>> ((4 : Int32) &&& 31))) <<< ((6 : Int32) &&& 31)))])) target := by
    intro target kt
    show Steps p.tables e below (s₁.setTop (mkF m 43 #[.val (.ref r0), .val (.int p1), .val (.int (4 : Int32)), .val (.int (w0 &&& (255 : Int32))), .val (.int ((w0 &&& (255 : Int32)) &&& ((127 : Int32) >>> ((4 : Int32) &&& 31)))), .val (.int (1 : Int32))] [(.int w1), (.int (((w0 &&& (255 : Int32)) &&& ((127 : Int32) >>> ((4 : Int32) &&& 31))) <<< ((6 : Int32) &&& 31)))])) _
    refine XS.bipush X0.here hx rfl (hb hby d1_43) ?_
    show Steps p.tables e below (s₁.setTop (mkF m 45 #[.val (.ref r0), .val (.int p1), .val (.int (4 : Int32)), .val (.int (w0 &&& (255 : Int32))), .val (.int ((w0 &&& (255 : Int32)) &&& ((127 : Int32) >>> ((4 : Int32) &&& 31)))), .val (.int (1 : Int32))] [(.int (63 : Int32)), (.int w1), (.int (((w0 &&& (255 : Int32)) &&& ((127 : Int32) >>> ((4 : Int32) &&& 31))) <<< ((6 : Int32) &&& 31)))])) _
    refine XS.iand X0.here hx rfl (hb hby d1_45) rfl ?_
    show Steps p.tables e below (s₁.setTop (mkF m 46 #[.val (.ref r0), .val (.int p1), .val (.int (4 : Int32)), .val (.int (w0 &&& (255 : Int32))), .val (.int ((w0 &&& (255 : Int32)) &&& ((127 : Int32) >>> ((4 : Int32) &&& 31)))), .val (.int (1 : Int32))] [(.int (w1 &&& (63 : Int32))), (.int (((w0 &&& (255 : Int32)) &&& ((127 : Int32) >>> ((4 : Int32) &&& 31))) <<< ((6 : Int32) &&& 31)))])) _
    refine XS.ior X0.here hx rfl (hb hby d1_46) rfl ?_
    show Steps p.tables e below (s₁.setTop (mkF m 47 #[.val (.ref r0), .val (.int p1), .val (.int (4 : Int32)), .val (.int (w0 &&& (255 : Int32))), .val (.int ((w0 &&& (255 : Int32)) &&& ((127 : Int32) >>> ((4 : Int32) &&& 31)))), .val (.int (1 : Int32))] [(.int ((((w0 &&& (255 : Int32)) &&& ((127 : Int32) >>> ((4 : Int32) &&& 31))) <<< ((6 : Int32) &&& 31)) ||| (w1 &&& (63 : Int32))))])) _
    refine XS.istore X0.here hx rfl (hb hby d1_47) rfl (l' := #[.val (.ref r0), .val (.int p1), .val (.int (4 : Int32)), .val (.int (w0 &&& (255 : Int32))), .val (.int ((((w0 &&& (255 : Int32)) &&& ((127 : Int32) >>> ((4 : Int32) &&& 31))) <<< ((6 : Int32) &&& 31)) ||| (w1 &&& (63 : Int32)))), .val (.int (1 : Int32))]) rfl ?_
    show Steps p.tables e below (s₁.setTop (mkF m 49 #[.val (.ref r0), .val (.int p1), .val (.int (4 : Int32)), .val (.int (w0 &&& (255 : Int32))), .val (.int ((((w0 &&& (255 : Int32)) &&& ((127 : Int32) >>> ((4 : Int32) &&& 31))) <<< ((6 : Int32) &&& 31)) ||| (w1 &&& (63 : Int32)))), .val (.int (1 : Int32))] [])) _
    refine XS.iinc X0.here hx rfl (hb hby d1_49) rfl (l' := #[.val (.ref r0), .val (.int p1), .val (.int (4 : Int32)), .val (.int (w0 &&& (255 : Int32))), .val (.int ((((w0 &&& (255 : Int32)) &&& ((127 : Int32) >>> ((4 : Int32) &&& 31))) <<< ((6 : Int32) &&& 31)) ||| (w1 &&& (63 : Int32)))), .val (.int (2 : Int32))]) rfl ?_
    show Steps p.tables e below (s₁.setTop (mkF m 52 #[.val (.ref r0), .val (.int p1), .val (.int (4 : Int32)), .val (.int (w0 &&& (255 : Int32))), .val (.int ((((w0 &&& (255 : Int32)) &&& ((127 : Int32) >>> ((4 : Int32) &&& 31))) <<< ((6 : Int32) &&& 31)) ||| (w1 &&& (63 : Int32)))), .val (.int (2 : Int32))] [])) _
    refine XS.goto X0.here hx rfl (pc0 := 52) (pc' := 26) rfl (hb hby d1_52) (by decide) (by decide) ?_
    show Steps p.tables e below (s₁.setTop (mkF m 26 #[.val (.ref r0), .val (.int p1), .val (.int (4 : Int32)), .val (.int (w0 &&& (255 : Int32))), .val (.int ((((w0 &&& (255 : Int32)) &&& ((127 : Int32) >>> ((4 : Int32) &&& 31))) <<< ((6 : Int32) &&& 31)) ||| (w1 &&& (63 : Int32)))), .val (.int (2 : Int32))] [])) _
    refine XS.iload X0.here hx rfl (hb hby d1_26) rfl ?_
    show Steps p.tables e below (s₁.setTop (mkF m 28 #[.val (.ref r0), .val (.int p1), .val (.int (4 : Int32)), .val (.int (w0 &&& (255 : Int32))), .val (.int ((((w0 &&& (255 : Int32)) &&& ((127 : Int32) >>> ((4 : Int32) &&& 31))) <<< ((6 : Int32) &&& 31)) ||| (w1 &&& (63 : Int32)))), .val (.int (2 : Int32))] [(.int (2 : Int32))])) _
    refine XS.iloadN X0.here hx rfl (hb hby d1_28) rfl ?_
    show Steps p.tables e below (s₁.setTop (mkF m 29 #[.val (.ref r0), .val (.int p1), .val (.int (4 : Int32)), .val (.int (w0 &&& (255 : Int32))), .val (.int ((((w0 &&& (255 : Int32)) &&& ((127 : Int32) >>> ((4 : Int32) &&& 31))) <<< ((6 : Int32) &&& 31)) ||| (w1 &&& (63 : Int32)))), .val (.int (2 : Int32))] [(.int (4 : Int32)), (.int (2 : Int32))])) _
    refine XS.icmpNo X0.here hx rfl (hb hby d1_29) rfl (tlt (by decide : ((2 : Int32) < (4 : Int32)))).2.1 ?_
    show Steps p.tables e below (s₁.setTop (mkF m 32 #[.val (.ref r0), .val (.int p1), .val (.int (4 : Int32)), .val (.int (w0 &&& (255 : Int32))), .val (.int ((((w0 &&& (255 : Int32)) &&& ((127 : Int32) >>> ((4 : Int32) &&& 31))) <<< ((6 : Int32) &&& 31)) ||| (w1 &&& (63 : Int32)))), .val (.int (2 : Int32))] [])) _
    refine XS.iload X0.here hx rfl (hb hby d1_32) rfl ?_
    show Steps p.tables e below (s₁.setTop (mkF m 34 #[.val (.ref r0), .val (.int p1), .val (.int (4 : Int32)), .val (.int (w0 &&& (255 : Int32))), .val (.int ((((w0 &&& (255 : Int32)) &&& ((127 : Int32) >>> ((4 : Int32) &&& 31))) <<< ((6 : Int32) &&& 31)) ||| (w1 &&& (63 : Int32)))), .val (.int (2 : Int32))] [(.int ((((w0 &&& (255 : Int32)) &&& ((127 : Int32) >>> ((4 : Int32) &&& 31))) <<< ((6 : Int32) &&& 31)) ||| (w1 &&& (63 : Int32))))])) _
    refine XS.bipush X0.here hx rfl (hb hby d1_34) ?_
    show Steps p.tables e below (s₁.setTop (mkF m 36 #[.val (.ref r0), .val (.int p1), .val (.int (4 : Int32)), .val (.int (w0 &&& (255 : Int32))), .val (.int ((((w0 &&& (255 : Int32)) &&& ((127 : Int32) >>> ((4 : Int32) &&& 31))) <<< ((6 : Int32) &&& 31)) ||| (w1 &&& (63 : Int32)))), .val (.int (2 : Int32))] [(.int (6 : Int32)), (.int ((((w0 &&& (255 : Int32)) &&& ((127 : Int32) >>> ((4 : Int32) &&& 31))) <<< ((6 : Int32) &&& 31)) ||| (w1 &&& (63 : Int32))))])) _
    refine XS.ishl X0.here hx rfl (hb hby d1_36) rfl ?_
    show Steps p.tables e below (s₁.setTop (mkF m 37 #[.val (.ref r0), .val (.int p1), .val (.int (4 : Int32)), .val (.int (w0 &&& (255 : Int32))), .val (.int ((((w0 &&& (255 : Int32)) &&& ((127 : Int32) >>> ((4 : Int32) &&& 31))) <<< ((6 : Int32) &&& 31)) ||| (w1 &&& (63 : Int32)))), .val (.int (2 : Int32))] [(.int (((((w0 &&& (255 : Int32)) &&& ((127 : Int32) >>> ((4 : Int32) &&& 31))) <<< ((6 : Int32) &&& 31)) ||| (w1 &&& (63 : Int32))) <<< ((6 : Int32) &&& 31)))])) _
    refine XS.aloadN X0.here hx rfl (hb hby d1_37) rfl rfl ?_
    show Steps p.tables e below (s₁.setTop (mkF m 38 #[.val (.ref r0), .val (.int p1), .val (.int (4 : Int32)), .val (.int (w0 &&& (255 : Int32))), .val (.int ((((w0 &&& (255 : Int32)) &&& ((127 : Int32) >>> ((4 : Int32) &&& 31))) <<< ((6 : Int32) &&& 31)) ||| (w1 &&& (63 : Int32)))), .val (.int (2 : Int32))] [(.ref r0), (.int (((((w0 &&& (255 : Int32)) &&& ((127 : Int32) >>> ((4 : Int32) &&& 31))) <<< ((6 : Int32) &&& 31)) ||| (w1 &&& (63 : Int32))) <<< ((6 : Int32) &&& 31)))])) _
    refine XS.iloadN X0.here hx rfl (hb hby d1_38) rfl ?_
    show Steps p.tables e below (s₁.setTop (mkF m 39 #[.val (.ref r0), .val (.int p1), .val (.int (4 : Int32)), .val (.int (w0 &&& (255 : Int32))), .val (.int ((((w0 &&& (255 : Int32)) &&& ((127 : Int32) >>> ((4 : Int32) &&& 31))) <<< ((6 : Int32) &&& 31)) ||| (w1 &&& (63 : Int32)))), .val (.int (2 : Int32))] [(.int p1), (.ref r0), (.int (((((w0 &&& (255 : Int32)) &&& ((127 : Int32) >>> ((4 : Int32) &&& 31))) <<< ((6 : Int32) &&& 31)) ||| (w1 &&& (63 : Int32))) <<< ((6 : Int32) &&& 31)))])) _
    refine XS.iload X0.here hx rfl (hb hby d1_39) rfl ?_
    show Steps p.tables e below (s₁.setTop (mkF m 41 #[.val (.ref r0), .val (.int p1), .val (.int (4 : Int32)), .val (.int (w0 &&& (255 : Int32))), .val (.int ((((w0 &&& (255 : Int32)) &&& ((127 : Int32) >>> ((4 : Int32) &&& 31))) <<< ((6 : Int32) &&& 31)) ||| (w1 &&& (63 : Int32)))), .val (.int (2 : Int32))] [(.int (2 : Int32)), (.int p1), (.ref r0), (.int (((((w0 &&& (255 : Int32)) &&& ((127 : Int32) >>> ((4 : Int32) &&& 31))) <<< ((6 : Int32) &&& 31)) ||| (w1 &&& (63 : Int32))) <<< ((6 : Int32) &&& 31)))])) _
    refine XS.iadd X0.here hx rfl (hb hby d1_41) rfl ?_
    exact kt
  have st6 : ∀ target, Steps p.tables e below (s₁.setTop (mkF m 43 #[.val (.ref r0), .val (.int p1), .val (.int (4 : Int32)), .val (.int (w0 &&& (255 : Int32))), .val (.int ((((w0 &&& (255 : Int32)) &&& ((127 : Int32) >>> ((4 : Int32) &&& 31))) <<< ((6 : Int32) &&& 31)) ||| (w1 &&& (63 : Int32)))), .val (.int (2 : Int32))] [(.int w2), (.int (((((w0 &&& (255 : Int32)) &&& ((127 : Int32) >>> ((4 : Int32) &&& 31))) <<< ((6 : Int32) &&& 31)) ||| (w1 &&& (63 : Int32))) <<< ((6 : Int32) &&& 31)))])) target → Steps p.tables e below (s₁.setTop (mkF m 42 #[.val (.ref r0), .val (.int p1), .val (.int (4 : Int32)), .val (.int (w0 &&& (255 : Int32))), .val (.int ((((w0 &&& (255 : Int32)) &&& ((127 : Int32) >>> ((4 : Int32) &&& 31))) <<< ((6 : Int32) &&& 31)) ||| (w1 &&& (63 : Int32)))), .val (.int (2 : Int32))] [(.int (p1 + (2 : Int32))), (.ref r0), (.int (((((w0 &&& (255 : Int32)) &&& ((127 : Int32) >>> ((4 : Int32) &&& 31))) <<< ((6 : Int32) &&& 31)) ||| (w1 &&& (63 : Int32))) <<< ((6 : Int32) &&& 31)))])) target := fun target kt => X0.baloadBytes hx (j := (p1 + (2 : Int32))) (v := (.int w2)) (by rw [e0]; exact Ar.1) (State.isArrayOf_alike hZ.alike Ar.2.1) Ar.2.2 hin2 hat2 (g := (mkF m 42 #[.val (.ref r0), .val (.int p1), .val (.int (4 : Int32)), .val (.int (w0 &&& (255 : Int32))), .val (.int ((((w0 &&& (255 : Int32)) &&& ((127 : Int32) >>> ((4 : Int32) &&& 31))) <<< ((6 : Int32) &&& 31)) ||| (w1 &&& (63 : Int32)))), .val (.int (2 : Int32))] [(.int (p1 + (2 : Int32))), (.ref r0), (.int (((((w0 &&& (255 : Int32)) &&& ((127 : Int32) >>> ((4 : Int32) &&& 31))) <<< ((6 : Int32) &&& 31)) ||| (w1 &&& (63 : Int32))) <<< ((6 : Int32) &&& 31)))])) rfl rfl (hb hby d1_42) _ kt
  have st7 : ∀ target, Steps p.tables e below (s₁.setTop (mkF m 42 #[.val (.ref r0), .val (.int p1), .val (.int (4 : Int32)), .val (.int (w0 &&& (255 : Int32))), .val (.int ((((((w0 &&& (255 : Int32)) &&& ((127 : Int32) >>> ((4 : Int32) &&& 31))) <<< ((6 : Int32) &&& 31)) ||| (w1 &&& (63 : Int32))) <<< ((6 : Int32) &&& 31)) ||| (w2 &&& (63 : Int32)))), .val (.int (3 : Int32))] [(.int (p1 + (3 : Int32))), (.ref r0), (.int (((((((w0 &&& (255 : Int32)) &&& ((127 : Int32) >>> ((4 : Int32) &&& 31))) <<< ((6 : Int32) &&& 31)) ||| (w1 &&& (63 : Int32))) <<< ((6 : Int32) &&& 31)) ||| (w2 &&& (63 : Int32))) <<< ((6 : Int32) &&& 31)))])) target → Steps p.tables e below (s₁.setTop (mkF m 43 #[.val (.ref r0), .val (.int p1), .val (.int (4 : Int32)), .val (.int (w0 &&& (255 : Int32))), .val (.int ((((w0 &&& (255 : Int32)) &&& ((127 : Int32) >>> ((4 : Int32) &&& 31))) <<< ((6 : Int32) &&& 31)) ||| (w1 &&& (63 : Int32)))), .val (.int (2 : Int32))] [(.int w2), (.int (((((w0 &&& (255 : Int32)) &&& ((127 : Int32) >>> ((4 : Int32) &&& 31))) <<< ((6 : Int32) &&& 31)) ||| (w1 &&& (63 : Int32))) <<< ((6 : Int32) &&& 31)))])) target := by
    intro target kt
    show Steps p.tables e below (s₁.setTop (mkF m 43 #[.val (.ref r0), .val (.int p1), .val (.int (4 : Int32)), .val (.int (w0 &&& (255 : Int32))), .val (.int ((((w0 &&& (255 : Int32)) &&& ((127 : Int32) >>> ((4 : Int32) &&& 31))) <<< ((6 : Int32) &&& 31)) ||| (w1 &&& (63 : Int32)))), .val (.int (2 : Int32))] [(.int w2), (.int (((((w0 &&& (255 : Int32)) &&& ((127 : Int32) >>> ((4 : Int32) &&& 31))) <<< ((6 : Int32) &&& 31)) ||| (w1 &&& (63 : Int32))) <<< ((6 : Int32) &&& 31)))])) _
    refine XS.bipush X0.here hx rfl (hb hby d1_43) ?_
    show Steps p.tables e below (s₁.setTop (mkF m 45 #[.val (.ref r0), .val (.int p1), .val (.int (4 : Int32)), .val (.int (w0 &&& (255 : Int32))), .val (.int ((((w0 &&& (255 : Int32)) &&& ((127 : Int32) >>> ((4 : Int32) &&& 31))) <<< ((6 : Int32) &&& 31)) ||| (w1 &&& (63 : Int32)))), .val (.int (2 : Int32))] [(.int (63 : Int32)), (.int w2), (.int (((((w0 &&& (255 : Int32)) &&& ((127 : Int32) >>> ((4 : Int32) &&& 31))) <<< ((6 : Int32) &&& 31)) ||| (w1 &&& (63 : Int32))) <<< ((6 : Int32) &&& 31)))])) _
    refine XS.iand X0.here hx rfl (hb hby d1_45) rfl ?_
    show Steps p.tables e below (s₁.setTop (mkF m 46 #[.val (.ref r0), .val (.int p1), .val (.int (4 : Int32)), .val (.int (w0 &&& (255 : Int32))), .val (.int ((((w0 &&& (255 : Int32)) &&& ((127 : Int32) >>> ((4 : Int32) &&& 31))) <<< ((6 : Int32) &&& 31)) ||| (w1 &&& (63 : Int32)))), .val (.int (2 : Int32))] [(.int (w2 &&& (63 : Int32))), (.int (((((w0 &&& (255 : Int32)) &&& ((127 : Int32) >>> ((4 : Int32) &&& 31))) <<< ((6 : Int32) &&& 31)) ||| (w1 &&& (63 : Int32))) <<< ((6 : Int32) &&& 31)))])) _
    refine XS.ior X0.here hx rfl (hb hby d1_46) rfl ?_
    show Steps p.tables e below (s₁.setTop (mkF m 47 #[.val (.ref r0), .val (.int p1), .val (.int (4 : Int32)), .val (.int (w0 &&& (255 : Int32))), .val (.int ((((w0 &&& (255 : Int32)) &&& ((127 : Int32) >>> ((4 : Int32) &&& 31))) <<< ((6 : Int32) &&& 31)) ||| (w1 &&& (63 : Int32)))), .val (.int (2 : Int32))] [(.int ((((((w0 &&& (255 : Int32)) &&& ((127 : Int32) >>> ((4 : Int32) &&& 31))) <<< ((6 : Int32) &&& 31)) ||| (w1 &&& (63 : Int32))) <<< ((6 : Int32) &&& 31)) ||| (w2 &&& (63 : Int32))))])) _
    refine XS.istore X0.here hx rfl (hb hby d1_47) rfl (l' := #[.val (.ref r0), .val (.int p1), .val (.int (4 : Int32)), .val (.int (w0 &&& (255 : Int32))), .val (.int ((((((w0 &&& (255 : Int32)) &&& ((127 : Int32) >>> ((4 : Int32) &&& 31))) <<< ((6 : Int32) &&& 31)) ||| (w1 &&& (63 : Int32))) <<< ((6 : Int32) &&& 31)) ||| (w2 &&& (63 : Int32)))), .val (.int (2 : Int32))]) rfl ?_
    show Steps p.tables e below (s₁.setTop (mkF m 49 #[.val (.ref r0), .val (.int p1), .val (.int (4 : Int32)), .val (.int (w0 &&& (255 : Int32))), .val (.int ((((((w0 &&& (255 : Int32)) &&& ((127 : Int32) >>> ((4 : Int32) &&& 31))) <<< ((6 : Int32) &&& 31)) ||| (w1 &&& (63 : Int32))) <<< ((6 : Int32) &&& 31)) ||| (w2 &&& (63 : Int32)))), .val (.int (2 : Int32))] [])) _
    refine XS.iinc X0.here hx rfl (hb hby d1_49) rfl (l' := #[.val (.ref r0), .val (.int p1), .val (.int (4 : Int32)), .val (.int (w0 &&& (255 : Int32))), .val (.int ((((((w0 &&& (255 : Int32)) &&& ((127 : Int32) >>> ((4 : Int32) &&& 31))) <<< ((6 : Int32) &&& 31)) ||| (w1 &&& (63 : Int32))) <<< ((6 : Int32) &&& 31)) ||| (w2 &&& (63 : Int32)))), .val (.int (3 : Int32))]) rfl ?_
    show Steps p.tables e below (s₁.setTop (mkF m 52 #[.val (.ref r0), .val (.int p1), .val (.int (4 : Int32)), .val (.int (w0 &&& (255 : Int32))), .val (.int ((((((w0 &&& (255 : Int32)) &&& ((127 : Int32) >>> ((4 : Int32) &&& 31))) <<< ((6 : Int32) &&& 31)) ||| (w1 &&& (63 : Int32))) <<< ((6 : Int32) &&& 31)) ||| (w2 &&& (63 : Int32)))), .val (.int (3 : Int32))] [])) _
    refine XS.goto X0.here hx rfl (pc0 := 52) (pc' := 26) rfl (hb hby d1_52) (by decide) (by decide) ?_
    show Steps p.tables e below (s₁.setTop (mkF m 26 #[.val (.ref r0), .val (.int p1), .val (.int (4 : Int32)), .val (.int (w0 &&& (255 : Int32))), .val (.int ((((((w0 &&& (255 : Int32)) &&& ((127 : Int32) >>> ((4 : Int32) &&& 31))) <<< ((6 : Int32) &&& 31)) ||| (w1 &&& (63 : Int32))) <<< ((6 : Int32) &&& 31)) ||| (w2 &&& (63 : Int32)))), .val (.int (3 : Int32))] [])) _
    refine XS.iload X0.here hx rfl (hb hby d1_26) rfl ?_
    show Steps p.tables e below (s₁.setTop (mkF m 28 #[.val (.ref r0), .val (.int p1), .val (.int (4 : Int32)), .val (.int (w0 &&& (255 : Int32))), .val (.int ((((((w0 &&& (255 : Int32)) &&& ((127 : Int32) >>> ((4 : Int32) &&& 31))) <<< ((6 : Int32) &&& 31)) ||| (w1 &&& (63 : Int32))) <<< ((6 : Int32) &&& 31)) ||| (w2 &&& (63 : Int32)))), .val (.int (3 : Int32))] [(.int (3 : Int32))])) _
    refine XS.iloadN X0.here hx rfl (hb hby d1_28) rfl ?_
    show Steps p.tables e below (s₁.setTop (mkF m 29 #[.val (.ref r0), .val (.int p1), .val (.int (4 : Int32)), .val (.int (w0 &&& (255 : Int32))), .val (.int ((((((w0 &&& (255 : Int32)) &&& ((127 : Int32) >>> ((4 : Int32) &&& 31))) <<< ((6 : Int32) &&& 31)) ||| (w1 &&& (63 : Int32))) <<< ((6 : Int32) &&& 31)) ||| (w2 &&& (63 : Int32)))), .val (.int (3 : Int32))] [(.int (4 : Int32)), (.int (3 : Int32))])) _
    refine XS.icmpNo X0.here hx rfl (hb hby d1_29) rfl (tlt (by decide : ((3 : Int32) < (4 : Int32)))).2.1 ?_
    show Steps p.tables e below (s₁.setTop (mkF m 32 #[.val (.ref r0), .val (.int p1), .val (.int (4 : Int32)), .val (.int (w0 &&& (255 : Int32))), .val (.int ((((((w0 &&& (255 : Int32)) &&& ((127 : Int32) >>> ((4 : Int32) &&& 31))) <<< ((6 : Int32) &&& 31)) ||| (w1 &&& (63 : Int32))) <<< ((6 : Int32) &&& 31)) ||| (w2 &&& (63 : Int32)))), .val (.int (3 : Int32))] [])) _
    refine XS.iload X0.here hx rfl (hb hby d1_32) rfl ?_
    show Steps p.tables e below (s₁.setTop (mkF m 34 #[.val (.ref r0), .val (.int p1), .val (.int (4 : Int32)), .val (.int (w0 &&& (255 : Int32))), .val (.int ((((((w0 &&& (255 : Int32)) &&& ((127 : Int32) >>> ((4 : Int32) &&& 31))) <<< ((6 : Int32) &&& 31)) ||| (w1 &&& (63 : Int32))) <<< ((6 : Int32) &&& 31)) ||| (w2 &&& (63 : Int32)))), .val (.int (3 : Int32))] [(.int ((((((w0 &&& (255 : Int32)) &&& ((127 : Int32) >>> ((4 : Int32) &&& 31))) <<< ((6 : Int32) &&& 31)) ||| (w1 &&& (63 : Int32))) <<< ((6 : Int32) &&& 31)) ||| (w2 &&& (63 : Int32))))])) _
    refine XS.bipush X0.here hx rfl (hb hby d1_34) ?_
    show Steps p.tables e below (s₁.setTop (mkF m 36 #[.val (.ref r0), .val (.int p1), .val (.int (4 : Int32)), .val (.int (w0 &&& (255 : Int32))), .val (.int ((((((w0 &&& (255 : Int32)) &&& ((127 : Int32) >>> ((4 : Int32) &&& 31))) <<< ((6 : Int32) &&& 31)) ||| (w1 &&& (63 : Int32))) <<< ((6 : Int32) &&& 31)) ||| (w2 &&& (63 : Int32)))), .val (.int (3 : Int32))] [(.int (6 : Int32)), (.int ((((((w0 &&& (255 : Int32)) &&& ((127 : Int32) >>> ((4 : Int32) &&& 31))) <<< ((6 : Int32) &&& 31)) ||| (w1 &&& (63 : Int32))) <<< ((6 : Int32) &&& 31)) ||| (w2 &&& (63 : Int32))))])) _
    refine XS.ishl X0.here hx rfl (hb hby d1_36) rfl ?_
    show Steps p.tables e below (s₁.setTop (mkF m 37 #[.val (.ref r0), .val (.int p1), .val (.int (4 : Int32)), .val (.int (w0 &&& (255 : Int32))), .val (.int ((((((w0 &&& (255 : Int32)) &&& ((127 : Int32) >>> ((4 : Int32) &&& 31))) <<< ((6 : Int32) &&& 31)) ||| (w1 &&& (63 : Int32))) <<< ((6 : Int32) &&& 31)) ||| (w2 &&& (63 : Int32)))), .val (.int (3 : Int32))] [(.int (((((((w0 &&& (255 : Int32)) &&& ((127 : Int32) >>> ((4 : Int32) &&& 31))) <<< ((6 : Int32) &&& 31)) ||| (w1 &&& (63 : Int32))) <<< ((6 : Int32) &&& 31)) ||| (w2 &&& (63 : Int32))) <<< ((6 : Int32) &&& 31)))])) _
    refine XS.aloadN X0.here hx rfl (hb hby d1_37) rfl rfl ?_
    show Steps p.tables e below (s₁.setTop (mkF m 38 #[.val (.ref r0), .val (.int p1), .val (.int (4 : Int32)), .val (.int (w0 &&& (255 : Int32))), .val (.int ((((((w0 &&& (255 : Int32)) &&& ((127 : Int32) >>> ((4 : Int32) &&& 31))) <<< ((6 : Int32) &&& 31)) ||| (w1 &&& (63 : Int32))) <<< ((6 : Int32) &&& 31)) ||| (w2 &&& (63 : Int32)))), .val (.int (3 : Int32))] [(.ref r0), (.int (((((((w0 &&& (255 : Int32)) &&& ((127 : Int32) >>> ((4 : Int32) &&& 31))) <<< ((6 : Int32) &&& 31)) ||| (w1 &&& (63 : Int32))) <<< ((6 : Int32) &&& 31)) ||| (w2 &&& (63 : Int32))) <<< ((6 : Int32) &&& 31)))])) _
    refine XS.iloadN X0.here hx rfl (hb hby d1_38) rfl ?_
    show Steps p.tables e below (s₁.setTop (mkF m 39 #[.val (.ref r0), .val (.int p1), .val (.int (4 : Int32)), .val (.int (w0 &&& (255 : Int32))), .val (.int ((((((w0 &&& (255 : Int32)) &&& ((127 : Int32) >>> ((4 : Int32) &&& 31))) <<< ((6 : Int32) &&& 31)) ||| (w1 &&& (63 : Int32))) <<< ((6 : Int32) &&& 31)) ||| (w2 &&& (63 : Int32)))), .val (.int (3 : Int32))] [(.int p1), (.ref r0), (.int (((((((w0 &&& (255 : Int32)) &&& ((127 : Int32) >>> ((4 : Int32) &&& 31))) <<< ((6 : Int32) &&& 31)) ||| (w1 &&& (63 : Int32))) <<< ((6 : Int32) &&& 31)) ||| (w2 &&& (63 : Int32))) <<< ((6 : Int32) &&& 31)))])) _
    refine XS.iload X0.here hx rfl (hb hby d1_39) rfl ?_
    show Steps p.tables e below (s₁.setTop (mkF m 41 #[.val (.ref r0), .val (.int p1), .val (.int (4 : Int32)), .val (.int (w0 &&& (255 : Int32))), .val (.int ((((((w0 &&& (255 : Int32)) &&& ((127 : Int32) >>> ((4 : Int32) &&& 31))) <<< ((6 : Int32) &&& 31)) ||| (w1 &&& (63 : Int32))) <<< ((6 : Int32) &&& 31)) ||| (w2 &&& (63 : Int32)))), .val (.int (3 : Int32))] [(.int (3 : Int32)), (.int p1), (.ref r0), (.int (((((((w0 &&& (255 : Int32)) &&& ((127 : Int32) >>> ((4 : Int32) &&& 31))) <<< ((6 : Int32) &&& 31)) ||| (w1 &&& (63 : Int32))) <<< ((6 : Int32) &&& 31)) ||| (w2 &&& (63 : Int32))) <<< ((6 : Int32) &&& 31)))])) _
    refine XS.iadd X0.here hx rfl (hb hby d1_41) rfl ?_
    exact kt
  have st8 : ∀ target, Steps p.tables e below (s₁.setTop (mkF m 43 #[.val (.ref r0), .val (.int p1), .val (.int (4 : Int32)), .val (.int (w0 &&& (255 : Int32))), .val (.int ((((((w0 &&& (255 : Int32)) &&& ((127 : Int32) >>> ((4 : Int32) &&& 31))) <<< ((6 : Int32) &&& 31)) ||| (w1 &&& (63 : Int32))) <<< ((6 : Int32) &&& 31)) ||| (w2 &&& (63 : Int32)))), .val (.int (3 : Int32))] [(.int w3), (.int (((((((w0 &&& (255 : Int32)) &&& ((127 : Int32) >>> ((4 : Int32) &&& 31))) <<< ((6 : Int32) &&& 31)) ||| (w1 &&& (63 : Int32))) <<< ((6 : Int32) &&& 31)) ||| (w2 &&& (63 : Int32))) <<< ((6 : Int32) &&& 31)))])) target → Steps p.tables e below (s₁.setTop (mkF m 42 #[.val (.ref r0), .val (.int p1), .val (.int (4 : Int32)), .val (.int (w0 &&& (255 : Int32))), .val (.int ((((((w0 &&& (255 : Int32)) &&& ((127 : Int32) >>> ((4 : Int32) &&& 31))) <<< ((6 : Int32) &&& 31)) ||| (w1 &&& (63 : Int32))) <<< ((6 : Int32) &&& 31)) ||| (w2 &&& (63 : Int32)))), .val (.int (3 : Int32))] [(.int (p1 + (3 : Int32))), (.ref r0), (.int (((((((w0 &&& (255 : Int32)) &&& ((127 : Int32) >>> ((4 : Int32) &&& 31))) <<< ((6 : Int32) &&& 31)) ||| (w1 &&& (63 : Int32))) <<< ((6 : Int32) &&& 31)) ||| (w2 &&& (63 : Int32))) <<< ((6 : Int32) &&& 31)))])) target := fun target kt => X0.baloadBytes hx (j := (p1 + (3 : Int32))) (v := (.int w3)) (by rw [e0]; exact Ar.1) (State.isArrayOf_alike hZ.alike Ar.2.1) Ar.2.2 hin3 hat3 (g := (mkF m 42 #[.val (.ref r0), .val (.int p1), .val (.int (4 : Int32)), .val (.int (w0 &&& (255 : Int32))), .val (.int ((((((w0 &&& (255 : Int32)) &&& ((127 : Int32) >>> ((4 : Int32) &&& 31))) <<< ((6 : Int32) &&& 31)) ||| (w1 &&& (63 : Int32))) <<< ((6 : Int32) &&& 31)) ||| (w2 &&& (63 : Int32)))), .val (.int (3 : Int32))] [(.int (p1 + (3 : Int32))), (.ref r0), (.int (((((((w0 &&& (255 : Int32)) &&& ((127 : Int32) >>> ((4 : Int32) &&& 31))) <<< ((6 : Int32) &&& 31)) ||| (w1 &&& (63 : Int32))) <<< ((6 : Int32) &&& 31)) ||| (w2 &&& (63 : Int32))) <<< ((6 : Int32) &&& 31)))])) rfl rfl (hb hby d1_42) _ kt
  obtain ⟨fs, hr, hrun, hended, hW, hsame⟩ := X0.leave (v := some (.int ((((((((w0 &&& (255 : Int32)) &&& ((127 : Int32) >>> ((4 : Int32) &&& 31))) <<< ((6 : Int32) &&& 31)) ||| (w1 &&& (63 : Int32))) <<< ((6 : Int32) &&& 31)) ||| (w2 &&& (63 : Int32))) <<< ((6 : Int32) &&& 31)) ||| (w3 &&& (63 : Int32))))) (fun h => by rw [Bd.returns] at h; cases h)
  refine ⟨_, _, pre0 _ (st1 _ (st2 _ (st3 _ (st4 _ (st5 _ (st6 _ (st7 _ (st8 _ ?_)))))))), hrun, hended, _, _, rfl, ?_, ⟨_, rfl⟩, hW, hsame.mono (by decide) (by decide)⟩
  · show Steps p.tables e below (s₁.setTop (mkF m 43 #[.val (.ref r0), .val (.int p1), .val (.int (4 : Int32)), .val (.int (w0 &&& (255 : Int32))), .val (.int ((((((w0 &&& (255 : Int32)) &&& ((127 : Int32) >>> ((4 : Int32) &&& 31))) <<< ((6 : Int32) &&& 31)) ||| (w1 &&& (63 : Int32))) <<< ((6 : Int32) &&& 31)) ||| (w2 &&& (63 : Int32)))), .val (.int (3 : Int32))] [(.int w3), (.int (((((((w0 &&& (255 : Int32)) &&& ((127 : Int32) >>> ((4 : Int32) &&& 31))) <<< ((6 : Int32) &&& 31)) ||| (w1 &&& (63 : Int32))) <<< ((6 : Int32) &&& 31)) ||| (w2 &&& (63 : Int32))) <<< ((6 : Int32) &&& 31)))])) _
    refine XS.bipush X0.here hx rfl (hb hby d1_43) ?_
    show Steps p.tables e below (s₁.setTop (mkF m 45 #[.val (.ref r0), .val (.int p1), .val (.int (4 : Int32)), .val (.int (w0 &&& (255 : Int32))), .val (.int ((((((w0 &&& (255 : Int32)) &&& ((127 : Int32) >>> ((4 : Int32) &&& 31))) <<< ((6 : Int32) &&& 31)) ||| (w1 &&& (63 : Int32))) <<< ((6 : Int32) &&& 31)) ||| (w2 &&& (63 : Int32)))), .val (.int (3 : Int32))] [(.int (63 : Int32)), (.int w3), (.int (((((((w0 &&& (255 : Int32)) &&& ((127 : Int32) >>> ((4 : Int32) &&& 31))) <<< ((6 : Int32) &&& 31)) ||| (w1 &&& (63 : Int32))) <<< ((6 : Int32) &&& 31)) ||| (w2 &&& (63 : Int32))) <<< ((6 : Int32) &&& 31)))])) _
    refine XS.iand X0.here hx rfl (hb hby d1_45) rfl ?_
    show Steps p.tables e below (s₁.setTop (mkF m 46 #[.val (.ref r0), .val (.int p1), .val (.int (4 : Int32)), .val (.int (w0 &&& (255 : Int32))), .val (.int ((((((w0 &&& (255 : Int32)) &&& ((127 : Int32) >>> ((4 : Int32) &&& 31))) <<< ((6 : Int32) &&& 31)) ||| (w1 &&& (63 : Int32))) <<< ((6 : Int32) &&& 31)) ||| (w2 &&& (63 : Int32)))), .val (.int (3 : Int32))] [(.int (w3 &&& (63 : Int32))), (.int (((((((w0 &&& (255 : Int32)) &&& ((127 : Int32) >>> ((4 : Int32) &&& 31))) <<< ((6 : Int32) &&& 31)) ||| (w1 &&& (63 : Int32))) <<< ((6 : Int32) &&& 31)) ||| (w2 &&& (63 : Int32))) <<< ((6 : Int32) &&& 31)))])) _
    refine XS.ior X0.here hx rfl (hb hby d1_46) rfl ?_
    show Steps p.tables e below (s₁.setTop (mkF m 47 #[.val (.ref r0), .val (.int p1), .val (.int (4 : Int32)), .val (.int (w0 &&& (255 : Int32))), .val (.int ((((((w0 &&& (255 : Int32)) &&& ((127 : Int32) >>> ((4 : Int32) &&& 31))) <<< ((6 : Int32) &&& 31)) ||| (w1 &&& (63 : Int32))) <<< ((6 : Int32) &&& 31)) ||| (w2 &&& (63 : Int32)))), .val (.int (3 : Int32))] [(.int ((((((((w0 &&& (255 : Int32)) &&& ((127 : Int32) >>> ((4 : Int32) &&& 31))) <<< ((6 : Int32) &&& 31)) ||| (w1 &&& (63 : Int32))) <<< ((6 : Int32) &&& 31)) ||| (w2 &&& (63 : Int32))) <<< ((6 : Int32) &&& 31)) ||| (w3 &&& (63 : Int32))))])) _
    refine XS.istore X0.here hx rfl (hb hby d1_47) rfl (l' := #[.val (.ref r0), .val (.int p1), .val (.int (4 : Int32)), .val (.int (w0 &&& (255 : Int32))), .val (.int ((((((((w0 &&& (255 : Int32)) &&& ((127 : Int32) >>> ((4 : Int32) &&& 31))) <<< ((6 : Int32) &&& 31)) ||| (w1 &&& (63 : Int32))) <<< ((6 : Int32) &&& 31)) ||| (w2 &&& (63 : Int32))) <<< ((6 : Int32) &&& 31)) ||| (w3 &&& (63 : Int32)))), .val (.int (3 : Int32))]) rfl ?_
    show Steps p.tables e below (s₁.setTop (mkF m 49 #[.val (.ref r0), .val (.int p1), .val (.int (4 : Int32)), .val (.int (w0 &&& (255 : Int32))), .val (.int ((((((((w0 &&& (255 : Int32)) &&& ((127 : Int32) >>> ((4 : Int32) &&& 31))) <<< ((6 : Int32) &&& 31)) ||| (w1 &&& (63 : Int32))) <<< ((6 : Int32) &&& 31)) ||| (w2 &&& (63 : Int32))) <<< ((6 : Int32) &&& 31)) ||| (w3 &&& (63 : Int32)))), .val (.int (3 : Int32))] [])) _
    refine XS.iinc X0.here hx rfl (hb hby d1_49) rfl (l' := #[.val (.ref r0), .val (.int p1), .val (.int (4 : Int32)), .val (.int (w0 &&& (255 : Int32))), .val (.int ((((((((w0 &&& (255 : Int32)) &&& ((127 : Int32) >>> ((4 : Int32) &&& 31))) <<< ((6 : Int32) &&& 31)) ||| (w1 &&& (63 : Int32))) <<< ((6 : Int32) &&& 31)) ||| (w2 &&& (63 : Int32))) <<< ((6 : Int32) &&& 31)) ||| (w3 &&& (63 : Int32)))), .val (.int (4 : Int32))]) rfl ?_
    show Steps p.tables e below (s₁.setTop (mkF m 52 #[.val (.ref r0), .val (.int p1), .val (.int (4 : Int32)), .val (.int (w0 &&& (255 : Int32))), .val (.int ((((((((w0 &&& (255 : Int32)) &&& ((127 : Int32) >>> ((4 : Int32) &&& 31))) <<< ((6 : Int32) &&& 31)) ||| (w1 &&& (63 : Int32))) <<< ((6 : Int32) &&& 31)) ||| (w2 &&& (63 : Int32))) <<< ((6 : Int32) &&& 31)) ||| (w3 &&& (63 : Int32)))), .val (.int (4 : Int32))] [])) _
    refine XS.goto X0.here hx rfl (pc0 := 52) (pc' := 26) rfl (hb hby d1_52) (by decide) (by decide) ?_
    show Steps p.tables e below (s₁.setTop (mkF m 26 #[.val (.ref r0), .val (.int p1), .val (.int (4 : Int32)), .val (.int (w0 &&& (255 : Int32))), .val (.int ((((((((w0 &&& (255 : Int32)) &&& ((127 : Int32) >>> ((4 : Int32) &&& 31))) <<< ((6 : Int32) &&& 31)) ||| (w1 &&& (63 : Int32))) <<< ((6 : Int32) &&& 31)) ||| (w2 &&& (63 : Int32))) <<< ((6 : Int32) &&& 31)) ||| (w3 &&& (63 : Int32)))), .val (.int (4 : Int32))] [])) _
    refine XS.iload X0.here hx rfl (hb hby d1_26) rfl ?_
    show Steps p.tables e below (s₁.setTop (mkF m 28 #[.val (.ref r0), .val (.int p1), .val (.int (4 : Int32)), .val (.int (w0 &&& (255 : Int32))), .val (.int ((((((((w0 &&& (255 : Int32)) &&& ((127 : Int32) >>> ((4 : Int32) &&& 31))) <<< ((6 : Int32) &&& 31)) ||| (w1 &&& (63 : Int32))) <<< ((6 : Int32) &&& 31)) ||| (w2 &&& (63 : Int32))) <<< ((6 : Int32) &&& 31)) ||| (w3 &&& (63 : Int32)))), .val (.int (4 : Int32))] [(.int (4 : Int32))])) _
    refine XS.iloadN X0.here hx rfl (hb hby d1_28) rfl ?_
    show Steps p.tables e below (s₁.setTop (mkF m 29 #[.val (.ref r0), .val (.int p1), .val (.int (4 : Int32)), .val (.int (w0 &&& (255 : Int32))), .val (.int ((((((((w0 &&& (255 : Int32)) &&& ((127 : Int32) >>> ((4 : Int32) &&& 31))) <<< ((6 : Int32) &&& 31)) ||| (w1 &&& (63 : Int32))) <<< ((6 : Int32) &&& 31)) ||| (w2 &&& (63 : Int32))) <<< ((6 : Int32) &&& 31)) ||| (w3 &&& (63 : Int32)))), .val (.int (4 : Int32))] [(.int (4 : Int32)), (.int (4 : Int32))])) _
    refine XS.icmpYes X0.here hx rfl (pc0 := 29) (pc' := 55) rfl (hb hby d1_29) rfl (flt (by decide : ¬ ((4 : Int32) < (4 : Int32)))).2.1 (by decide) (by decide) ?_
    show Steps p.tables e below (s₁.setTop (mkF m 55 #[.val (.ref r0), .val (.int p1), .val (.int (4 : Int32)), .val (.int (w0 &&& (255 : Int32))), .val (.int ((((((((w0 &&& (255 : Int32)) &&& ((127 : Int32) >>> ((4 : Int32) &&& 31))) <<< ((6 : Int32) &&& 31)) ||| (w1 &&& (63 : Int32))) <<< ((6 : Int32) &&& 31)) ||| (w2 &&& (63 : Int32))) <<< ((6 : Int32) &&& 31)) ||| (w3 &&& (63 : Int32)))), .val (.int (4 : Int32))] [])) _
    refine XS.iload X0.here hx rfl (hb hby d1_55) rfl ?_
    show Steps p.tables e below (s₁.setTop (mkF m 57 #[.val (.ref r0), .val (.int p1), .val (.int (4 : Int32)), .val (.int (w0 &&& (255 : Int32))), .val (.int ((((((((w0 &&& (255 : Int32)) &&& ((127 : Int32) >>> ((4 : Int32) &&& 31))) <<< ((6 : Int32) &&& 31)) ||| (w1 &&& (63 : Int32))) <<< ((6 : Int32) &&& 31)) ||| (w2 &&& (63 : Int32))) <<< ((6 : Int32) &&& 31)) ||| (w3 &&& (63 : Int32)))), .val (.int (4 : Int32))] [(.int ((((((((w0 &&& (255 : Int32)) &&& ((127 : Int32) >>> ((4 : Int32) &&& 31))) <<< ((6 : Int32) &&& 31)) ||| (w1 &&& (63 : Int32))) <<< ((6 : Int32) &&& 31)) ||| (w2 &&& (63 : Int32))) <<< ((6 : Int32) &&& 31)) ||| (w3 &&& (63 : Int32))))])) _
    exact retI X0 hx Bd.returns (hb hby d1_57) hr
  · show Q_rmCP4 Z r0 p1 cl w0 w1 w2 w3 h0 n0 _ s₁.heap _
    rw [e0]
    exact ⟨rfl, N0, rfl⟩
theorem own_v1 {v : Int32} (h0 : 0 ≤ v.toInt) (h1 : v.toInt < 128) : own_cp1 (nar .byte (v.toInt8.toInt32)) = v := own_lead1 h0 h1
theorem own_v2 {v : Int32} (h0 : 128 ≤ v.toInt) (h1 : v.toInt < 2048) : own_cp2 (nar .byte ((192 ||| (v >>> ((6 : Int32) &&& 31))).toInt8.toInt32)) (nar .byte ((128 ||| (v &&& (63 : Int32))).toInt8.toInt32)) = v := by
  have a1 := own_and63 v; have a2 := own_shr6 v
  unfold own_cp2
  rw [own_lead2 (by omega) (by omega), own_cont (by omega) (by omega)]
  apply Int32.toInt_inj.mp
  rw [own_join (by omega) (by omega) (by omega) (by omega)]
  omega
theorem own_v3 {v : Int32} (h0 : 2048 ≤ v.toInt) (h1 : v.toInt < 65536) : own_cp3 (nar .byte ((224 ||| (v >>> ((12 : Int32) &&& 31))).toInt8.toInt32)) (nar .byte ((128 ||| ((v >>> ((6 : Int32) &&& 31)) &&& (63 : Int32))).toInt8.toInt32)) (nar .byte ((128 ||| (v &&& (63 : Int32))).toInt8.toInt32)) = v := by
  have a1 := own_and63 v; have a2 := own_shr6 v; have a3 := own_shr12 v; have a4 := own_and63 (v >>> ((6 : Int32) &&& 31))
  unfold own_cp3
  rw [own_lead3 (by omega) (by omega), own_cont (by omega) (by omega), own_cont (by omega) (by omega)]
  have b1 := own_join (y := v >>> ((12 : Int32) &&& 31)) (z := (v >>> ((6 : Int32) &&& 31)) &&& (63 : Int32)) (by omega) (by omega) (by omega) (by omega)
  apply Int32.toInt_inj.mp
  rw [own_join (by omega) (by omega) (by omega) (by omega)]
  omega
theorem own_v4 {v : Int32} (h0 : 65536 ≤ v.toInt) (h1 : v.toInt < 1114112) : own_cp4 (nar .byte ((240 ||| (v >>> ((18 : Int32) &&& 31))).toInt8.toInt32)) (nar .byte ((128 ||| ((v >>> ((12 : Int32) &&& 31)) &&& (63 : Int32))).toInt8.toInt32)) (nar .byte ((128 ||| ((v >>> ((6 : Int32) &&& 31)) &&& (63 : Int32))).toInt8.toInt32)) (nar .byte ((128 ||| (v &&& (63 : Int32))).toInt8.toInt32)) = v := by
  have a1 := own_and63 v; have a2 := own_shr6 v; have a3 := own_shr12 v; have a4 := own_shr18 v; have a5 := own_and63 (v >>> ((6 : Int32) &&& 31)); have a6 := own_and63 (v >>> ((12 : Int32) &&& 31))
  unfold own_cp4
  rw [own_lead4 (by omega) (by omega), own_cont (by omega) (by omega), own_cont (by omega) (by omega), own_cont (by omega) (by omega)]
  have b1 := own_join (y := v >>> ((18 : Int32) &&& 31)) (z := (v >>> ((12 : Int32) &&& 31)) &&& (63 : Int32)) (by omega) (by omega) (by omega) (by omega)
  have b2 := own_join (y := (v >>> ((18 : Int32) &&& 31)) <<< ((6 : Int32) &&& 31) ||| ((v >>> ((12 : Int32) &&& 31)) &&& (63 : Int32))) (z := (v >>> ((6 : Int32) &&& 31)) &&& (63 : Int32)) (by omega) (by omega) (by omega) (by omega)
  apply Int32.toInt_inj.mp
  rw [own_join (by omega) (by omega) (by omega) (by omega)]
  omega
theorem own_at {a : Int32} (h : 0 ≤ a.toInt ∧ a.toInt < 4) (k : Int32) (hk : 0 ≤ k.toInt ∧ k.toInt < 4) : (a + k).toInt = a.toInt + k.toInt := by
  have e := c_iadd a k
  have b1 := Int32.le_toInt (a + k); have b2 := Int32.toInt_lt (a + k)
  omega
theorem own_in {c : Cell} (S : c.slots.size = (8 : Int32).toNatClampNeg) {j : Int32} (h : 0 ≤ j.toInt ∧ j.toInt < 8) : ¬ (j < 0 ∨ c.slots.size ≤ j.toNatClampNeg) := by
  refine inb_of S ⟨?_, ?_⟩
  · rw [Int32.lt_iff_toInt_lt, show (0 : Int32).toInt = 0 from rfl]; omega
  · rw [Int32.lt_iff_toInt_lt, show (8 : Int32).toInt = 8 from rfl]; omega
theorem own_nn {j : Int32} (h : 0 ≤ j.toInt) : ¬ j < 0 := by rw [Int32.lt_iff_toInt_lt, show (0 : Int32).toInt = 0 from rfl]; omega
theorem own_ne {i j : Int32} (h : i.toInt ≠ j.toInt) : ¬ i = j := fun q => h (by rw [q])
theorem own_pos (x : Int32) : 0 ≤ (x &&& (2147483647 : Int32)).toInt := (c_and x 2147483647 (by decide)).1
theorem own_add {c x : Int32} {n m : Int} (hc : c.toInt = n) (h0 : 0 ≤ n) (hx : 0 ≤ x.toInt) (hm : x.toInt < m) (hs : n + m ≤ 2147483648) : (c + x).toInt = n + x.toInt := by
  have e := c_iadd c x
  have b1 := Int32.le_toInt (c + x); have b2 := Int32.toInt_lt (c + x)
  omega
theorem own_case (kind x r v len : Int32) (hr : 0 ≤ r.toInt)
    (hv : v = (if kind = (0 : Int32) then (x &&& (127 : Int32)) else (if kind = (1 : Int32) then ((128 : Int32) + (r % (1920 : Int32))) else (if kind = (2 : Int32) then (if ((2048 : Int32) + (r % (63488 : Int32))) < (55296 : Int32) then ((2048 : Int32) + (r % (63488 : Int32))) else (if (57343 : Int32) < ((2048 : Int32) + (r % (63488 : Int32))) then ((2048 : Int32) + (r % (63488 : Int32))) else (((2048 : Int32) + (r % (63488 : Int32))) + (2048 : Int32)))) else ((65536 : Int32) + (r % (1048576 : Int32)))))))
    (hlen : len = (if kind = (0 : Int32) then (1 : Int32) else (if kind = (1 : Int32) then (2 : Int32) else (if kind = (2 : Int32) then (if ((2048 : Int32) + (r % (63488 : Int32))) < (55296 : Int32) then (3 : Int32) else (if (57343 : Int32) < ((2048 : Int32) + (r % (63488 : Int32))) then (3 : Int32) else (3 : Int32))) else (4 : Int32))))) :
    (len = 1 ∧ 0 ≤ v.toInt ∧ v.toInt < 128) ∨ (len = 2 ∧ 128 ≤ v.toInt ∧ v.toInt < 2048) ∨ (len = 3 ∧ 2048 ≤ v.toInt ∧ v.toInt < 65536) ∨ (len = 4 ∧ 65536 ≤ v.toInt ∧ v.toInt < 1114112) := by
  by_cases u0 : kind = 0
  · rw [if_pos u0] at hv hlen
    have e : (x &&& (127 : Int32)).toInt = x.toInt % 128 := c_mask x 127 7 (by decide) rfl
    exact Or.inl ⟨hlen, by rw [hv]; omega⟩
  rw [if_neg u0] at hv hlen
  by_cases u1 : kind = 1
  · rw [if_pos u1] at hv hlen
    have e := (c_irem r (1920 : Int32) 1920 rfl).1 hr
    have e2 := own_add (c := (128 : Int32)) (x := r % (1920 : Int32)) (n := 128) (m := 1920) rfl (by decide) (by omega) (by omega) (by decide)
    exact Or.inr (Or.inl ⟨hlen, by rw [hv]; omega⟩)
  rw [if_neg u1] at hv hlen
  by_cases u2 : kind = 2
  · rw [if_pos u2] at hv hlen
    have e := (c_irem r (63488 : Int32) 63488 rfl).1 hr
    have e2 := own_add (c := (2048 : Int32)) (x := r % (63488 : Int32)) (n := 2048) (m := 63488) rfl (by decide) (by omega) (by omega) (by decide)
    refine Or.inr (Or.inr (Or.inl ⟨by rw [hlen]; split <;> (try split) <;> rfl, ?_⟩))
    rw [hv]
    simp only [Int32.lt_iff_toInt_lt, show (55296 : Int32).toInt = 55296 from rfl, show (57343 : Int32).toInt = 57343 from rfl]
    have e3 := c_iadd ((2048 : Int32) + (r % (63488 : Int32))) (2048 : Int32)
    have b1 := Int32.le_toInt (((2048 : Int32) + (r % (63488 : Int32))) + (2048 : Int32)); have b2 := Int32.toInt_lt (((2048 : Int32) + (r % (63488 : Int32))) + (2048 : Int32))
    rw [show (2048 : Int32).toInt = 2048 from rfl] at e3
    split
    · omega
    · split <;> omega
  · rw [if_neg u2] at hv hlen
    have e := (c_irem r (1048576 : Int32) 1048576 rfl).1 hr
    have e2 := own_add (c := (65536 : Int32)) (x := r % (1048576 : Int32)) (n := 65536) (m := 1048576) rfl (by decide) (by omega) (by omega) (by decide)
    exact Or.inr (Or.inr (Or.inr ⟨hlen, by rw [hv]; omega⟩))
theorem pn_1 : plainName "com/example/murray_hill/murrayhill/WellFormedCodePointPinLaw" = true := by first | (simp [plainName, overriddenIn]; done) | decide +kernel
theorem ef_rm0 (m : MethodId) (x0 : Int32) (x1 : Int32) (x2 : Int32) (x3 : Int64) : entryFrame m #[(.int x0), (.int x1), (.int x2), (.long x3)] maxLocals = mkF m 0 #[.val (.int x0), .val (.int x1), .val (.int x2), .val (.long x3), .second, .unset, .unset, .unset, .unset, .unset, .unset, .unset, .unset, .unset, .unset] [] := by first | (simp [entryFrame, mkF, argsToLocals, Value.category, maxLocals]; done) | rfl
def Q_rm0 (Z : State) (p0 : Int32) (p1 : Int32) (p2 : Int32) (q3 : Int64) (h0 : Heap) (n0 : Nat) (v : Option Value) (h : Heap) (L : List Loc) : Prop := v = some (.int 1) ∧ Fr n0 L
set_option maxRecDepth 65536 in
set_option maxHeartbeats 40000000 in
theorem rm0 (l : Launch) (Z : State) (a0 : Array Value) (hw : ∀ d ∈ tables_1, d.before a0 Z = true) (ws : List Jvm.Cond) (p0 : Int32) (p1 : Int32) (p2 : Int32) (q3 : Int64) (h0 : Heap) (n0 : Nat) (Z0 : n0 ≤ h0.size) :
    MetFree l x (head1 (Jvm.Cond.code x code maxLocals ret :: ws) room_1) (fun a U => a = #[(.int p0), (.int p1), (.int p2), (.long q3)] ∧ Z.Warmed39 U.vm ∧ U.heap = h0) (fun _ _ _ _ _ => True) (fun _ U o U' => ∃ v L, o = .returned v ∧ Q_rm0 Z p0 p1 p2 q3 h0 n0 v U'.heap L ∧ FrameEnd U o U' L room_1.cells room_1.slots) := by
  refine MetFree.of_bodySF (plainFor_of_name pn_1) hisR ?_
  intro p e s m args below meth c s₁ Bd hml0 hP hK
  obtain ⟨rfl, hZ, hh⟩ := hP
  have hx := Bd.exec
  have hby := Bd.bytes
  have hml : c.maxLocals = 15 := hml0
  have hown : s.vm.findClass "com/example/murray_hill/murrayhill/WellFormedCodePointPinLaw" = some m.cls := findClass_of_methodNamed Bd.named
  have hnm := (name_of_methodNamed Bd.named Bd.method).1
  have X0 : Stand p l e room_1 s m #[(.int p0), (.int p1), (.int p2), (.long q3)] below meth c s₁ [] 0 0 := Stand.of_body Bd
  have e0 : s₁.heap = h0 := by rw [← hh, Bd.state]; rfl
  have N0 := Fr.nil n0
  have pre0 : ∀ t, Steps p.tables e below (s₁.setTop (mkF m 0 #[.val (.int p0), .val (.int p1), .val (.int p2), .val (.long q3), .second, .unset, .unset, .unset, .unset, .unset, .unset, .unset, .unset, .unset, .unset] [])) t → Steps p.tables e below (s₁.setTop (entryFrame m #[(.int p0), (.int p1), (.int p2), (.long q3)] maxLocals)) t := fun t k => castTop (ef_rm0 m p0 p1 p2 q3) k
  have st1 : ∀ target, Steps p.tables e below (s₁.setTop (mkF m 16 #[.val (.int p0), .val (.int p1), .val (.int p2), .val (.long q3), .second, .val (.int (p0 &&& (3 : Int32))), .val (.int (p1 &&& (2147483647 : Int32))), .val (.int (p2 &&& (3 : Int32))), .unset, .unset, .unset, .unset, .unset, .unset, .unset] [])) target → Steps p.tables e below (s₁.setTop (mkF m 0 #[.val (.int p0), .val (.int p1), .val (.int p2), .val (.long q3), .second, .unset, .unset, .unset, .unset, .unset, .unset, .unset, .unset, .unset, .unset] [])) target := by
    intro target kt
    show Steps p.tables e below (s₁.setTop (mkF m 0 #[.val (.int p0), .val (.int p1), .val (.int p2), .val (.long q3), .second, .unset, .unset, .unset, .unset, .unset, .unset, .unset, .unset, .unset, .unset] [])) _
    refine XS.iloadN X0.here hx rfl (hb hby at_0) rfl ?_
    show Steps p.tables e below (s₁.setTop (mkF m 1 #[.val (.int p0), .val (.int p1), .val (.int p2), .val (.long q3), .second, .unset, .unset, .unset, .unset, .unset, .unset, .unset, .unset, .unset, .unset] [(.int p0)])) _
    refine XS.iconst X0.here hx rfl (hb hby at_1) ?_
    show Steps p.tables e below (s₁.setTop (mkF m 2 #[.val (.int p0), .val (.int p1), .val (.int p2), .val (.long q3), .second, .unset, .unset, .unset, .unset, .unset, .unset, .unset, .unset, .unset, .unset] [(.int (3 : Int32)), (.int p0)])) _
    refine XS.iand X0.here hx rfl (hb hby at_2) rfl ?_
    show Steps p.tables e below (s₁.setTop (mkF m 3 #[.val (.int p0), .val (.int p1), .val (.int p2), .val (.long q3), .second, .unset, .unset, .unset, .unset, .unset, .unset, .unset, .unset, .unset, .unset] [(.int (p0 &&& (3 : Int32)))])) _
    refine XS.istore X0.here hx rfl (hb hby at_3) rfl (l' := #[.val (.int p0), .val (.int p1), .val (.int p2), .val (.long q3), .second, .val (.int (p0 &&& (3 : Int32))), .unset, .unset, .unset, .unset, .unset, .unset, .unset, .unset, .unset]) rfl ?_
    show Steps p.tables e below (s₁.setTop (mkF m 5 #[.val (.int p0), .val (.int p1), .val (.int p2), .val (.long q3), .second, .val (.int (p0 &&& (3 : Int32))), .unset, .unset, .unset, .unset, .unset, .unset, .unset, .unset, .unset] [])) _
    refine XS.iloadN X0.here hx rfl (hb hby at_5) rfl ?_
    show Steps p.tables e below (s₁.setTop (mkF m 6 #[.val (.int p0), .val (.int p1), .val (.int p2), .val (.long q3), .second, .val (.int (p0 &&& (3 : Int32))), .unset, .unset, .unset, .unset, .unset, .unset, .unset, .unset, .unset] [(.int p1)])) _
    refine X0.ldcInt hx hown (mvT hZ (hw _ (List.mem_of_getElem? (i := 0) rfl))) (g := (mkF m 6 #[.val (.int p0), .val (.int p1), .val (.int p2), .val (.long q3), .second, .val (.int (p0 &&& (3 : Int32))), .unset, .unset, .unset, .unset, .unset, .unset, .unset, .unset, .unset] [(.int p1)])) rfl (hb hby at_6) _ ?_
    show Steps p.tables e below (s₁.setTop (mkF m 8 #[.val (.int p0), .val (.int p1), .val (.int p2), .val (.long q3), .second, .val (.int (p0 &&& (3 : Int32))), .unset, .unset, .unset, .unset, .unset, .unset, .unset, .unset, .unset] [(.int (2147483647 : Int32)), (.int p1)])) _
    refine XS.iand X0.here hx rfl (hb hby at_8) rfl ?_
    show Steps p.tables e below (s₁.setTop (mkF m 9 #[.val (.int p0), .val (.int p1), .val (.int p2), .val (.long q3), .second, .val (.int (p0 &&& (3 : Int32))), .unset, .unset, .unset, .unset, .unset, .unset, .unset, .unset, .unset] [(.int (p1 &&& (2147483647 : Int32)))])) _
    refine XS.istore X0.here hx rfl (hb hby at_9) rfl (l' := #[.val (.int p0), .val (.int p1), .val (.int p2), .val (.long q3), .second, .val (.int (p0 &&& (3 : Int32))), .val (.int (p1 &&& (2147483647 : Int32))), .unset, .unset, .unset, .unset, .unset, .unset, .unset, .unset]) rfl ?_
    show Steps p.tables e below (s₁.setTop (mkF m 11 #[.val (.int p0), .val (.int p1), .val (.int p2), .val (.long q3), .second, .val (.int (p0 &&& (3 : Int32))), .val (.int (p1 &&& (2147483647 : Int32))), .unset, .unset, .unset, .unset, .unset, .unset, .unset, .unset] [])) _
    refine XS.iloadN X0.here hx rfl (hb hby at_11) rfl ?_
    show Steps p.tables e below (s₁.setTop (mkF m 12 #[.val (.int p0), .val (.int p1), .val (.int p2), .val (.long q3), .second, .val (.int (p0 &&& (3 : Int32))), .val (.int (p1 &&& (2147483647 : Int32))), .unset, .unset, .unset, .unset, .unset, .unset, .unset, .unset] [(.int p2)])) _
    refine XS.iconst X0.here hx rfl (hb hby at_12) ?_
    show Steps p.tables e below (s₁.setTop (mkF m 13 #[.val (.int p0), .val (.int p1), .val (.int p2), .val (.long q3), .second, .val (.int (p0 &&& (3 : Int32))), .val (.int (p1 &&& (2147483647 : Int32))), .unset, .unset, .unset, .unset, .unset, .unset, .unset, .unset] [(.int (3 : Int32)), (.int p2)])) _
    refine XS.iand X0.here hx rfl (hb hby at_13) rfl ?_
    show Steps p.tables e below (s₁.setTop (mkF m 14 #[.val (.int p0), .val (.int p1), .val (.int p2), .val (.long q3), .second, .val (.int (p0 &&& (3 : Int32))), .val (.int (p1 &&& (2147483647 : Int32))), .unset, .unset, .unset, .unset, .unset, .unset, .unset, .unset] [(.int (p2 &&& (3 : Int32)))])) _
    refine XS.istore X0.here hx rfl (hb hby at_14) rfl (l' := #[.val (.int p0), .val (.int p1), .val (.int p2), .val (.long q3), .second, .val (.int (p0 &&& (3 : Int32))), .val (.int (p1 &&& (2147483647 : Int32))), .val (.int (p2 &&& (3 : Int32))), .unset, .unset, .unset, .unset, .unset, .unset, .unset]) rfl ?_
    exact kt
  obtain ⟨kind, hkind⟩ : ∃ z : Int32, z = (p0 &&& (3 : Int32)) := ⟨_, rfl⟩
  rw [← hkind] at st1
  obtain ⟨r, hr⟩ : ∃ z : Int32, z = (p1 &&& (2147483647 : Int32)) := ⟨_, rfl⟩
  rw [← hr] at st1
  obtain ⟨at_, hat_⟩ : ∃ z : Int32, z = (p2 &&& (3 : Int32)) := ⟨_, rfl⟩
  rw [← hat_] at st1
  have hr0 : 0 ≤ r.toInt := hr ▸ own_pos p1
  have ha : 0 ≤ at_.toInt ∧ at_.toInt < 4 := by
    have e : (p2 &&& (3 : Int32)).toInt = p2.toInt % 4 := c_mask p2 3 2 (by decide) rfl
    rw [hat_, e]; omega
  obtain ⟨v, len, hv, hlen, st2⟩ : ∃ (v : Int32) (len : Int32), v = (if kind = (0 : Int32) then (p1 &&& (127 : Int32)) else (if kind = (1 : Int32) then ((128 : Int32) + (r % (1920 : Int32))) else (if kind = (2 : Int32) then (if ((2048 : Int32) + (r % (63488 : Int32))) < (55296 : Int32) then ((2048 : Int32) + (r % (63488 : Int32))) else (if (57343 : Int32) < ((2048 : Int32) + (r % (63488 : Int32))) then ((2048 : Int32) + (r % (63488 : Int32))) else (((2048 : Int32) + (r % (63488 : Int32))) + (2048 : Int32)))) else ((65536 : Int32) + (r % (1048576 : Int32)))))) ∧ len = (if kind = (0 : Int32) then (1 : Int32) else (if kind = (1 : Int32) then (2 : Int32) else (if kind = (2 : Int32) then (if ((2048 : Int32) + (r % (63488 : Int32))) < (55296 : Int32) then (3 : Int32) else (if (57343 : Int32) < ((2048 : Int32) + (r % (63488 : Int32))) then (3 : Int32) else (3 : Int32))) else (4 : Int32)))) ∧ ∀ target, Steps p.tables e below (s₁.setTop (mkF m 115 #[.val (.int p0), .val (.int p1), .val (.int p2), .val (.long q3), .second, .val (.int kind), .val (.int r), .val (.int at_), .val (.int v), .val (.int len), .unset, .unset, .unset, .unset, .unset] [])) target → Steps p.tables e below (s₁.setTop (mkF m 16 #[.val (.int p0), .val (.int p1), .val (.int p2), .val (.long q3), .second, .val (.int kind), .val (.int r), .val (.int at_), .unset, .unset, .unset, .unset, .unset, .unset, .unset] [])) target := by
    refine ⟨_, _, rfl, rfl, fun target kt => ?_⟩
    show Steps p.tables e below (s₁.setTop (mkF m 16 #[.val (.int p0), .val (.int p1), .val (.int p2), .val (.long q3), .second, .val (.int kind), .val (.int r), .val (.int at_), .unset, .unset, .unset, .unset, .unset, .unset, .unset] [])) _
    refine XS.iload X0.here hx rfl (hb hby at_16) rfl ?_
    by_cases hc18 : kind = (0 : Int32)
    · simp only [if_pos hc18] at kt
      show Steps p.tables e below (s₁.setTop (mkF m 18 #[.val (.int p0), .val (.int p1), .val (.int p2), .val (.long q3), .second, .val (.int kind), .val (.int r), .val (.int at_), .unset, .unset, .unset, .unset, .unset, .unset, .unset] [(.int kind)])) _
      refine XS.ifNo X0.here hx rfl (hb hby at_18) rfl ((if0 _ _).trans (teq hc18).2) ?_
      show Steps p.tables e below (s₁.setTop (mkF m 21 #[.val (.int p0), .val (.int p1), .val (.int p2), .val (.long q3), .second, .val (.int kind), .val (.int r), .val (.int at_), .unset, .unset, .unset, .unset, .unset, .unset, .unset] [])) _
      refine XS.iconst X0.here hx rfl (hb hby at_21) ?_
      show Steps p.tables e below (s₁.setTop (mkF m 22 #[.val (.int p0), .val (.int p1), .val (.int p2), .val (.long q3), .second, .val (.int kind), .val (.int r), .val (.int at_), .unset, .unset, .unset, .unset, .unset, .unset, .unset] [(.int (1 : Int32))])) _
      refine XS.istore X0.here hx rfl (hb hby at_22) rfl (l' := #[.val (.int p0), .val (.int p1), .val (.int p2), .val (.long q3), .second, .val (.int kind), .val (.int r), .val (.int at_), .unset, .val (.int (1 : Int32)), .unset, .unset, .unset, .unset, .unset]) rfl ?_
      show Steps p.tables e below (s₁.setTop (mkF m 24 #[.val (.int p0), .val (.int p1), .val (.int p2), .val (.long q3), .second, .val (.int kind), .val (.int r), .val (.int at_), .unset, .val (.int (1 : Int32)), .unset, .unset, .unset, .unset, .unset] [])) _
      refine XS.iloadN X0.here hx rfl (hb hby at_24) rfl ?_
      show Steps p.tables e below (s₁.setTop (mkF m 25 #[.val (.int p0), .val (.int p1), .val (.int p2), .val (.long q3), .second, .val (.int kind), .val (.int r), .val (.int at_), .unset, .val (.int (1 : Int32)), .unset, .unset, .unset, .unset, .unset] [(.int p1)])) _
      refine XS.bipush X0.here hx rfl (hb hby at_25) ?_
      show Steps p.tables e below (s₁.setTop (mkF m 27 #[.val (.int p0), .val (.int p1), .val (.int p2), .val (.long q3), .second, .val (.int kind), .val (.int r), .val (.int at_), .unset, .val (.int (1 : Int32)), .unset, .unset, .unset, .unset, .unset] [(.int (127 : Int32)), (.int p1)])) _
      refine XS.iand X0.here hx rfl (hb hby at_27) rfl ?_
      show Steps p.tables e below (s₁.setTop (mkF m 28 #[.val (.int p0), .val (.int p1), .val (.int p2), .val (.long q3), .second, .val (.int kind), .val (.int r), .val (.int at_), .unset, .val (.int (1 : Int32)), .unset, .unset, .unset, .unset, .unset] [(.int (p1 &&& (127 : Int32)))])) _
      refine XS.istore X0.here hx rfl (hb hby at_28) rfl (l' := #[.val (.int p0), .val (.int p1), .val (.int p2), .val (.long q3), .second, .val (.int kind), .val (.int r), .val (.int at_), .val (.int (p1 &&& (127 : Int32))), .val (.int (1 : Int32)), .unset, .unset, .unset, .unset, .unset]) rfl ?_
      show Steps p.tables e below (s₁.setTop (mkF m 30 #[.val (.int p0), .val (.int p1), .val (.int p2), .val (.long q3), .second, .val (.int kind), .val (.int r), .val (.int at_), .val (.int (p1 &&& (127 : Int32))), .val (.int (1 : Int32)), .unset, .unset, .unset, .unset, .unset] [])) _
      refine XS.goto X0.here hx rfl (pc0 := 30) (pc' := 115) rfl (hb hby at_30) (by decide) (by decide) ?_
      exact kt
    · simp only [if_neg hc18] at kt
      show Steps p.tables e below (s₁.setTop (mkF m 18 #[.val (.int p0), .val (.int p1), .val (.int p2), .val (.long q3), .second, .val (.int kind), .val (.int r), .val (.int at_), .unset, .unset, .unset, .unset, .unset, .unset, .unset] [(.int kind)])) _
      refine XS.ifYes X0.here hx rfl (pc0 := 18) (pc' := 33) rfl (hb hby at_18) rfl ((if0 _ _).trans (feq hc18).2) (by decide) (by decide) ?_
      show Steps p.tables e below (s₁.setTop (mkF m 33 #[.val (.int p0), .val (.int p1), .val (.int p2), .val (.long q3), .second, .val (.int kind), .val (.int r), .val (.int at_), .unset, .unset, .unset, .unset, .unset, .unset, .unset] [])) _
      refine XS.iload X0.here hx rfl (hb hby at_33) rfl ?_
      show Steps p.tables e below (s₁.setTop (mkF m 35 #[.val (.int p0), .val (.int p1), .val (.int p2), .val (.long q3), .second, .val (.int kind), .val (.int r), .val (.int at_), .unset, .unset, .unset, .unset, .unset, .unset, .unset] [(.int kind)])) _
      refine XS.iconst X0.here hx rfl (hb hby at_35) ?_
      by_cases hc36 : kind = (1 : Int32)
      · simp only [if_pos hc36] at kt
        show Steps p.tables e below (s₁.setTop (mkF m 36 #[.val (.int p0), .val (.int p1), .val (.int p2), .val (.long q3), .second, .val (.int kind), .val (.int r), .val (.int at_), .unset, .unset, .unset, .unset, .unset, .unset, .unset] [(.int (1 : Int32)), (.int kind)])) _
        refine XS.icmpNo X0.here hx rfl (hb hby at_36) rfl (teq hc36).2 ?_
        show Steps p.tables e below (s₁.setTop (mkF m 39 #[.val (.int p0), .val (.int p1), .val (.int p2), .val (.long q3), .second, .val (.int kind), .val (.int r), .val (.int at_), .unset, .unset, .unset, .unset, .unset, .unset, .unset] [])) _
        refine XS.iconst X0.here hx rfl (hb hby at_39) ?_
        show Steps p.tables e below (s₁.setTop (mkF m 40 #[.val (.int p0), .val (.int p1), .val (.int p2), .val (.long q3), .second, .val (.int kind), .val (.int r), .val (.int at_), .unset, .unset, .unset, .unset, .unset, .unset, .unset] [(.int (2 : Int32))])) _
        refine XS.istore X0.here hx rfl (hb hby at_40) rfl (l' := #[.val (.int p0), .val (.int p1), .val (.int p2), .val (.long q3), .second, .val (.int kind), .val (.int r), .val (.int at_), .unset, .val (.int (2 : Int32)), .unset, .unset, .unset, .unset, .unset]) rfl ?_
        show Steps p.tables e below (s₁.setTop (mkF m 42 #[.val (.int p0), .val (.int p1), .val (.int p2), .val (.long q3), .second, .val (.int kind), .val (.int r), .val (.int at_), .unset, .val (.int (2 : Int32)), .unset, .unset, .unset, .unset, .unset] [])) _
        refine XS.sipush X0.here hx rfl (hb hby at_42) ?_
        show Steps p.tables e below (s₁.setTop (mkF m 45 #[.val (.int p0), .val (.int p1), .val (.int p2), .val (.long q3), .second, .val (.int kind), .val (.int r), .val (.int at_), .unset, .val (.int (2 : Int32)), .unset, .unset, .unset, .unset, .unset] [(.int (128 : Int32))])) _
        refine XS.iload X0.here hx rfl (hb hby at_45) rfl ?_
        show Steps p.tables e below (s₁.setTop (mkF m 47 #[.val (.int p0), .val (.int p1), .val (.int p2), .val (.long q3), .second, .val (.int kind), .val (.int r), .val (.int at_), .unset, .val (.int (2 : Int32)), .unset, .unset, .unset, .unset, .unset] [(.int r), (.int (128 : Int32))])) _
        refine XS.sipush X0.here hx rfl (hb hby at_47) ?_
        show Steps p.tables e below (s₁.setTop (mkF m 50 #[.val (.int p0), .val (.int p1), .val (.int p2), .val (.long q3), .second, .val (.int kind), .val (.int r), .val (.int at_), .unset, .val (.int (2 : Int32)), .unset, .unset, .unset, .unset, .unset] [(.int (1920 : Int32)), (.int r), (.int (128 : Int32))])) _
        refine iremM (g := (mkF m 50 #[.val (.int p0), .val (.int p1), .val (.int p2), .val (.long q3), .second, .val (.int kind), .val (.int r), .val (.int at_), .unset, .val (.int (2 : Int32)), .unset, .unset, .unset, .unset, .unset] [(.int (1920 : Int32)), (.int r), (.int (128 : Int32))])) X0 hx rfl (hb hby at_50) rfl (by decide) ?_
        show Steps p.tables e below (s₁.setTop (mkF m 51 #[.val (.int p0), .val (.int p1), .val (.int p2), .val (.long q3), .second, .val (.int kind), .val (.int r), .val (.int at_), .unset, .val (.int (2 : Int32)), .unset, .unset, .unset, .unset, .unset] [(.int (r % (1920 : Int32))), (.int (128 : Int32))])) _
        refine XS.iadd X0.here hx rfl (hb hby at_51) rfl ?_
        show Steps p.tables e below (s₁.setTop (mkF m 52 #[.val (.int p0), .val (.int p1), .val (.int p2), .val (.long q3), .second, .val (.int kind), .val (.int r), .val (.int at_), .unset, .val (.int (2 : Int32)), .unset, .unset, .unset, .unset, .unset] [(.int ((128 : Int32) + (r % (1920 : Int32))))])) _
        refine XS.istore X0.here hx rfl (hb hby at_52) rfl (l' := #[.val (.int p0), .val (.int p1), .val (.int p2), .val (.long q3), .second, .val (.int kind), .val (.int r), .val (.int at_), .val (.int ((128 : Int32) + (r % (1920 : Int32)))), .val (.int (2 : Int32)), .unset, .unset, .unset, .unset, .unset]) rfl ?_
        show Steps p.tables e below (s₁.setTop (mkF m 54 #[.val (.int p0), .val (.int p1), .val (.int p2), .val (.long q3), .second, .val (.int kind), .val (.int r), .val (.int at_), .val (.int ((128 : Int32) + (r % (1920 : Int32)))), .val (.int (2 : Int32)), .unset, .unset, .unset, .unset, .unset] [])) _
        refine XS.goto X0.here hx rfl (pc0 := 54) (pc' := 115) rfl (hb hby at_54) (by decide) (by decide) ?_
        exact kt
      · simp only [if_neg hc36] at kt
        show Steps p.tables e below (s₁.setTop (mkF m 36 #[.val (.int p0), .val (.int p1), .val (.int p2), .val (.long q3), .second, .val (.int kind), .val (.int r), .val (.int at_), .unset, .unset, .unset, .unset, .unset, .unset, .unset] [(.int (1 : Int32)), (.int kind)])) _
        refine XS.icmpYes X0.here hx rfl (pc0 := 36) (pc' := 57) rfl (hb hby at_36) rfl (feq hc36).2 (by decide) (by decide) ?_
        show Steps p.tables e below (s₁.setTop (mkF m 57 #[.val (.int p0), .val (.int p1), .val (.int p2), .val (.long q3), .second, .val (.int kind), .val (.int r), .val (.int at_), .unset, .unset, .unset, .unset, .unset, .unset, .unset] [])) _
        refine XS.iload X0.here hx rfl (hb hby at_57) rfl ?_
        show Steps p.tables e below (s₁.setTop (mkF m 59 #[.val (.int p0), .val (.int p1), .val (.int p2), .val (.long q3), .second, .val (.int kind), .val (.int r), .val (.int at_), .unset, .unset, .unset, .unset, .unset, .unset, .unset] [(.int kind)])) _
        refine XS.iconst X0.here hx rfl (hb hby at_59) ?_
        by_cases hc60 : kind = (2 : Int32)
        · simp only [if_pos hc60] at kt
          show Steps p.tables e below (s₁.setTop (mkF m 60 #[.val (.int p0), .val (.int p1), .val (.int p2), .val (.long q3), .second, .val (.int kind), .val (.int r), .val (.int at_), .unset, .unset, .unset, .unset, .unset, .unset, .unset] [(.int (2 : Int32)), (.int kind)])) _
          refine XS.icmpNo X0.here hx rfl (hb hby at_60) rfl (teq hc60).2 ?_
          show Steps p.tables e below (s₁.setTop (mkF m 63 #[.val (.int p0), .val (.int p1), .val (.int p2), .val (.long q3), .second, .val (.int kind), .val (.int r), .val (.int at_), .unset, .unset, .unset, .unset, .unset, .unset, .unset] [])) _
          refine XS.iconst X0.here hx rfl (hb hby at_63) ?_
          show Steps p.tables e below (s₁.setTop (mkF m 64 #[.val (.int p0), .val (.int p1), .val (.int p2), .val (.long q3), .second, .val (.int kind), .val (.int r), .val (.int at_), .unset, .unset, .unset, .unset, .unset, .unset, .unset] [(.int (3 : Int32))])) _
          refine XS.istore X0.here hx rfl (hb hby at_64) rfl (l' := #[.val (.int p0), .val (.int p1), .val (.int p2), .val (.long q3), .second, .val (.int kind), .val (.int r), .val (.int at_), .unset, .val (.int (3 : Int32)), .unset, .unset, .unset, .unset, .unset]) rfl ?_
          show Steps p.tables e below (s₁.setTop (mkF m 66 #[.val (.int p0), .val (.int p1), .val (.int p2), .val (.long q3), .second, .val (.int kind), .val (.int r), .val (.int at_), .unset, .val (.int (3 : Int32)), .unset, .unset, .unset, .unset, .unset] [])) _
          refine XS.sipush X0.here hx rfl (hb hby at_66) ?_
          show Steps p.tables e below (s₁.setTop (mkF m 69 #[.val (.int p0), .val (.int p1), .val (.int p2), .val (.long q3), .second, .val (.int kind), .val (.int r), .val (.int at_), .unset, .val (.int (3 : Int32)), .unset, .unset, .unset, .unset, .unset] [(.int (2048 : Int32))])) _
          refine XS.iload X0.here hx rfl (hb hby at_69) rfl ?_
          show Steps p.tables e below (s₁.setTop (mkF m 71 #[.val (.int p0), .val (.int p1), .val (.int p2), .val (.long q3), .second, .val (.int kind), .val (.int r), .val (.int at_), .unset, .val (.int (3 : Int32)), .unset, .unset, .unset, .unset, .unset] [(.int r), (.int (2048 : Int32))])) _
          refine X0.ldcInt hx hown (mvT hZ (hw _ (List.mem_of_getElem? (i := 6) rfl))) (g := (mkF m 71 #[.val (.int p0), .val (.int p1), .val (.int p2), .val (.long q3), .second, .val (.int kind), .val (.int r), .val (.int at_), .unset, .val (.int (3 : Int32)), .unset, .unset, .unset, .unset, .unset] [(.int r), (.int (2048 : Int32))])) rfl (hb hby at_71) _ ?_
          show Steps p.tables e below (s₁.setTop (mkF m 73 #[.val (.int p0), .val (.int p1), .val (.int p2), .val (.long q3), .second, .val (.int kind), .val (.int r), .val (.int at_), .unset, .val (.int (3 : Int32)), .unset, .unset, .unset, .unset, .unset] [(.int (63488 : Int32)), (.int r), (.int (2048 : Int32))])) _
          refine iremM (g := (mkF m 73 #[.val (.int p0), .val (.int p1), .val (.int p2), .val (.long q3), .second, .val (.int kind), .val (.int r), .val (.int at_), .unset, .val (.int (3 : Int32)), .unset, .unset, .unset, .unset, .unset] [(.int (63488 : Int32)), (.int r), (.int (2048 : Int32))])) X0 hx rfl (hb hby at_73) rfl (by decide) ?_
          show Steps p.tables e below (s₁.setTop (mkF m 74 #[.val (.int p0), .val (.int p1), .val (.int p2), .val (.long q3), .second, .val (.int kind), .val (.int r), .val (.int at_), .unset, .val (.int (3 : Int32)), .unset, .unset, .unset, .unset, .unset] [(.int (r % (63488 : Int32))), (.int (2048 : Int32))])) _
          refine XS.iadd X0.here hx rfl (hb hby at_74) rfl ?_
          show Steps p.tables e below (s₁.setTop (mkF m 75 #[.val (.int p0), .val (.int p1), .val (.int p2), .val (.long q3), .second, .val (.int kind), .val (.int r), .val (.int at_), .unset, .val (.int (3 : Int32)), .unset, .unset, .unset, .unset, .unset] [(.int ((2048 : Int32) + (r % (63488 : Int32))))])) _
          refine XS.istore X0.here hx rfl (hb hby at_75) rfl (l' := #[.val (.int p0), .val (.int p1), .val (.int p2), .val (.long q3), .second, .val (.int kind), .val (.int r), .val (.int at_), .val (.int ((2048 : Int32) + (r % (63488 : Int32)))), .val (.int (3 : Int32)), .unset, .unset, .unset, .unset, .unset]) rfl ?_
          show Steps p.tables e below (s₁.setTop (mkF m 77 #[.val (.int p0), .val (.int p1), .val (.int p2), .val (.long q3), .second, .val (.int kind), .val (.int r), .val (.int at_), .val (.int ((2048 : Int32) + (r % (63488 : Int32)))), .val (.int (3 : Int32)), .unset, .unset, .unset, .unset, .unset] [])) _
          refine XS.iload X0.here hx rfl (hb hby at_77) rfl ?_
          show Steps p.tables e below (s₁.setTop (mkF m 79 #[.val (.int p0), .val (.int p1), .val (.int p2), .val (.long q3), .second, .val (.int kind), .val (.int r), .val (.int at_), .val (.int ((2048 : Int32) + (r % (63488 : Int32)))), .val (.int (3 : Int32)), .unset, .unset, .unset, .unset, .unset] [(.int ((2048 : Int32) + (r % (63488 : Int32))))])) _
          refine X0.ldcInt hx hown (mvT hZ (hw _ (List.mem_of_getElem? (i := 7) rfl))) (g := (mkF m 79 #[.val (.int p0), .val (.int p1), .val (.int p2), .val (.long q3), .second, .val (.int kind), .val (.int r), .val (.int at_), .val (.int ((2048 : Int32) + (r % (63488 : Int32)))), .val (.int (3 : Int32)), .unset, .unset, .unset, .unset, .unset] [(.int ((2048 : Int32) + (r % (63488 : Int32))))])) rfl (hb hby at_79) _ ?_
          by_cases hc81 : ((2048 : Int32) + (r % (63488 : Int32))) < (55296 : Int32)
          · simp only [if_pos hc81] at kt
            show Steps p.tables e below (s₁.setTop (mkF m 81 #[.val (.int p0), .val (.int p1), .val (.int p2), .val (.long q3), .second, .val (.int kind), .val (.int r), .val (.int at_), .val (.int ((2048 : Int32) + (r % (63488 : Int32)))), .val (.int (3 : Int32)), .unset, .unset, .unset, .unset, .unset] [(.int (55296 : Int32)), (.int ((2048 : Int32) + (r % (63488 : Int32))))])) _
            refine XS.icmpYes X0.here hx rfl (pc0 := 81) (pc' := 115) rfl (hb hby at_81) rfl (tlt hc81).1 (by decide) (by decide) ?_
            exact kt
          · simp only [if_neg hc81] at kt
            show Steps p.tables e below (s₁.setTop (mkF m 81 #[.val (.int p0), .val (.int p1), .val (.int p2), .val (.long q3), .second, .val (.int kind), .val (.int r), .val (.int at_), .val (.int ((2048 : Int32) + (r % (63488 : Int32)))), .val (.int (3 : Int32)), .unset, .unset, .unset, .unset, .unset] [(.int (55296 : Int32)), (.int ((2048 : Int32) + (r % (63488 : Int32))))])) _
            refine XS.icmpNo X0.here hx rfl (hb hby at_81) rfl (flt hc81).1 ?_
            show Steps p.tables e below (s₁.setTop (mkF m 84 #[.val (.int p0), .val (.int p1), .val (.int p2), .val (.long q3), .second, .val (.int kind), .val (.int r), .val (.int at_), .val (.int ((2048 : Int32) + (r % (63488 : Int32)))), .val (.int (3 : Int32)), .unset, .unset, .unset, .unset, .unset] [])) _
            refine XS.iload X0.here hx rfl (hb hby at_84) rfl ?_
            show Steps p.tables e below (s₁.setTop (mkF m 86 #[.val (.int p0), .val (.int p1), .val (.int p2), .val (.long q3), .second, .val (.int kind), .val (.int r), .val (.int at_), .val (.int ((2048 : Int32) + (r % (63488 : Int32)))), .val (.int (3 : Int32)), .unset, .unset, .unset, .unset, .unset] [(.int ((2048 : Int32) + (r % (63488 : Int32))))])) _
            refine X0.ldcInt hx hown (mvT hZ (hw _ (List.mem_of_getElem? (i := 10) rfl))) (g := (mkF m 86 #[.val (.int p0), .val (.int p1), .val (.int p2), .val (.long q3), .second, .val (.int kind), .val (.int r), .val (.int at_), .val (.int ((2048 : Int32) + (r % (63488 : Int32)))), .val (.int (3 : Int32)), .unset, .unset, .unset, .unset, .unset] [(.int ((2048 : Int32) + (r % (63488 : Int32))))])) rfl (hb hby at_86) _ ?_
            by_cases hc88 : (57343 : Int32) < ((2048 : Int32) + (r % (63488 : Int32)))
            · simp only [if_pos hc88] at kt
              show Steps p.tables e below (s₁.setTop (mkF m 88 #[.val (.int p0), .val (.int p1), .val (.int p2), .val (.long q3), .second, .val (.int kind), .val (.int r), .val (.int at_), .val (.int ((2048 : Int32) + (r % (63488 : Int32)))), .val (.int (3 : Int32)), .unset, .unset, .unset, .unset, .unset] [(.int (57343 : Int32)), (.int ((2048 : Int32) + (r % (63488 : Int32))))])) _
              refine XS.icmpYes X0.here hx rfl (pc0 := 88) (pc' := 115) rfl (hb hby at_88) rfl (tlt hc88).2.2.1 (by decide) (by decide) ?_
              exact kt
            · simp only [if_neg hc88] at kt
              show Steps p.tables e below (s₁.setTop (mkF m 88 #[.val (.int p0), .val (.int p1), .val (.int p2), .val (.long q3), .second, .val (.int kind), .val (.int r), .val (.int at_), .val (.int ((2048 : Int32) + (r % (63488 : Int32)))), .val (.int (3 : Int32)), .unset, .unset, .unset, .unset, .unset] [(.int (57343 : Int32)), (.int ((2048 : Int32) + (r % (63488 : Int32))))])) _
              refine XS.icmpNo X0.here hx rfl (hb hby at_88) rfl (flt hc88).2.2.1 ?_
              show Steps p.tables e below (s₁.setTop (mkF m 91 #[.val (.int p0), .val (.int p1), .val (.int p2), .val (.long q3), .second, .val (.int kind), .val (.int r), .val (.int at_), .val (.int ((2048 : Int32) + (r % (63488 : Int32)))), .val (.int (3 : Int32)), .unset, .unset, .unset, .unset, .unset] [])) _
              refine XS.iload X0.here hx rfl (hb hby at_91) rfl ?_
              show Steps p.tables e below (s₁.setTop (mkF m 93 #[.val (.int p0), .val (.int p1), .val (.int p2), .val (.long q3), .second, .val (.int kind), .val (.int r), .val (.int at_), .val (.int ((2048 : Int32) + (r % (63488 : Int32)))), .val (.int (3 : Int32)), .unset, .unset, .unset, .unset, .unset] [(.int ((2048 : Int32) + (r % (63488 : Int32))))])) _
              refine XS.sipush X0.here hx rfl (hb hby at_93) ?_
              show Steps p.tables e below (s₁.setTop (mkF m 96 #[.val (.int p0), .val (.int p1), .val (.int p2), .val (.long q3), .second, .val (.int kind), .val (.int r), .val (.int at_), .val (.int ((2048 : Int32) + (r % (63488 : Int32)))), .val (.int (3 : Int32)), .unset, .unset, .unset, .unset, .unset] [(.int (2048 : Int32)), (.int ((2048 : Int32) + (r % (63488 : Int32))))])) _
              refine XS.iadd X0.here hx rfl (hb hby at_96) rfl ?_
              show Steps p.tables e below (s₁.setTop (mkF m 97 #[.val (.int p0), .val (.int p1), .val (.int p2), .val (.long q3), .second, .val (.int kind), .val (.int r), .val (.int at_), .val (.int ((2048 : Int32) + (r % (63488 : Int32)))), .val (.int (3 : Int32)), .unset, .unset, .unset, .unset, .unset] [(.int (((2048 : Int32) + (r % (63488 : Int32))) + (2048 : Int32)))])) _
              refine XS.istore X0.here hx rfl (hb hby at_97) rfl (l' := #[.val (.int p0), .val (.int p1), .val (.int p2), .val (.long q3), .second, .val (.int kind), .val (.int r), .val (.int at_), .val (.int (((2048 : Int32) + (r % (63488 : Int32))) + (2048 : Int32))), .val (.int (3 : Int32)), .unset, .unset, .unset, .unset, .unset]) rfl ?_
              show Steps p.tables e below (s₁.setTop (mkF m 99 #[.val (.int p0), .val (.int p1), .val (.int p2), .val (.long q3), .second, .val (.int kind), .val (.int r), .val (.int at_), .val (.int (((2048 : Int32) + (r % (63488 : Int32))) + (2048 : Int32))), .val (.int (3 : Int32)), .unset, .unset, .unset, .unset, .unset] [])) _
              refine XS.goto X0.here hx rfl (pc0 := 99) (pc' := 115) rfl (hb hby at_99) (by decide) (by decide) ?_
              exact kt
        · simp only [if_neg hc60] at kt
          show Steps p.tables e below (s₁.setTop (mkF m 60 #[.val (.int p0), .val (.int p1), .val (.int p2), .val (.long q3), .second, .val (.int kind), .val (.int r), .val (.int at_), .unset, .unset, .unset, .unset, .unset, .unset, .unset] [(.int (2 : Int32)), (.int kind)])) _
          refine XS.icmpYes X0.here hx rfl (pc0 := 60) (pc' := 102) rfl (hb hby at_60) rfl (feq hc60).2 (by decide) (by decide) ?_
          show Steps p.tables e below (s₁.setTop (mkF m 102 #[.val (.int p0), .val (.int p1), .val (.int p2), .val (.long q3), .second, .val (.int kind), .val (.int r), .val (.int at_), .unset, .unset, .unset, .unset, .unset, .unset, .unset] [])) _
          refine XS.iconst X0.here hx rfl (hb hby at_102) ?_
          show Steps p.tables e below (s₁.setTop (mkF m 103 #[.val (.int p0), .val (.int p1), .val (.int p2), .val (.long q3), .second, .val (.int kind), .val (.int r), .val (.int at_), .unset, .unset, .unset, .unset, .unset, .unset, .unset] [(.int (4 : Int32))])) _
          refine XS.istore X0.here hx rfl (hb hby at_103) rfl (l' := #[.val (.int p0), .val (.int p1), .val (.int p2), .val (.long q3), .second, .val (.int kind), .val (.int r), .val (.int at_), .unset, .val (.int (4 : Int32)), .unset, .unset, .unset, .unset, .unset]) rfl ?_
          show Steps p.tables e below (s₁.setTop (mkF m 105 #[.val (.int p0), .val (.int p1), .val (.int p2), .val (.long q3), .second, .val (.int kind), .val (.int r), .val (.int at_), .unset, .val (.int (4 : Int32)), .unset, .unset, .unset, .unset, .unset] [])) _
          refine X0.ldcInt hx hown (mvT hZ (hw _ (List.mem_of_getElem? (i := 8) rfl))) (g := (mkF m 105 #[.val (.int p0), .val (.int p1), .val (.int p2), .val (.long q3), .second, .val (.int kind), .val (.int r), .val (.int at_), .unset, .val (.int (4 : Int32)), .unset, .unset, .unset, .unset, .unset] [])) rfl (hb hby at_105) _ ?_
          show Steps p.tables e below (s₁.setTop (mkF m 107 #[.val (.int p0), .val (.int p1), .val (.int p2), .val (.long q3), .second, .val (.int kind), .val (.int r), .val (.int at_), .unset, .val (.int (4 : Int32)), .unset, .unset, .unset, .unset, .unset] [(.int (65536 : Int32))])) _
          refine XS.iload X0.here hx rfl (hb hby at_107) rfl ?_
          show Steps p.tables e below (s₁.setTop (mkF m 109 #[.val (.int p0), .val (.int p1), .val (.int p2), .val (.long q3), .second, .val (.int kind), .val (.int r), .val (.int at_), .unset, .val (.int (4 : Int32)), .unset, .unset, .unset, .unset, .unset] [(.int r), (.int (65536 : Int32))])) _
          refine X0.ldcInt hx hown (mvT hZ (hw _ (List.mem_of_getElem? (i := 9) rfl))) (g := (mkF m 109 #[.val (.int p0), .val (.int p1), .val (.int p2), .val (.long q3), .second, .val (.int kind), .val (.int r), .val (.int at_), .unset, .val (.int (4 : Int32)), .unset, .unset, .unset, .unset, .unset] [(.int r), (.int (65536 : Int32))])) rfl (hb hby at_109) _ ?_
          show Steps p.tables e below (s₁.setTop (mkF m 111 #[.val (.int p0), .val (.int p1), .val (.int p2), .val (.long q3), .second, .val (.int kind), .val (.int r), .val (.int at_), .unset, .val (.int (4 : Int32)), .unset, .unset, .unset, .unset, .unset] [(.int (1048576 : Int32)), (.int r), (.int (65536 : Int32))])) _
          refine iremM (g := (mkF m 111 #[.val (.int p0), .val (.int p1), .val (.int p2), .val (.long q3), .second, .val (.int kind), .val (.int r), .val (.int at_), .unset, .val (.int (4 : Int32)), .unset, .unset, .unset, .unset, .unset] [(.int (1048576 : Int32)), (.int r), (.int (65536 : Int32))])) X0 hx rfl (hb hby at_111) rfl (by decide) ?_
          show Steps p.tables e below (s₁.setTop (mkF m 112 #[.val (.int p0), .val (.int p1), .val (.int p2), .val (.long q3), .second, .val (.int kind), .val (.int r), .val (.int at_), .unset, .val (.int (4 : Int32)), .unset, .unset, .unset, .unset, .unset] [(.int (r % (1048576 : Int32))), (.int (65536 : Int32))])) _
          refine XS.iadd X0.here hx rfl (hb hby at_112) rfl ?_
          show Steps p.tables e below (s₁.setTop (mkF m 113 #[.val (.int p0), .val (.int p1), .val (.int p2), .val (.long q3), .second, .val (.int kind), .val (.int r), .val (.int at_), .unset, .val (.int (4 : Int32)), .unset, .unset, .unset, .unset, .unset] [(.int ((65536 : Int32) + (r % (1048576 : Int32))))])) _
          refine XS.istore X0.here hx rfl (hb hby at_113) rfl (l' := #[.val (.int p0), .val (.int p1), .val (.int p2), .val (.long q3), .second, .val (.int kind), .val (.int r), .val (.int at_), .val (.int ((65536 : Int32) + (r % (1048576 : Int32)))), .val (.int (4 : Int32)), .unset, .unset, .unset, .unset, .unset]) rfl ?_
          exact kt
  have hcase := own_case kind p1 r v len hr0 hv hlen
  clear hv hlen
  have st3 : ∀ target, Steps p.tables e below (s₁.setTop (mkF m 117 #[.val (.int p0), .val (.int p1), .val (.int p2), .val (.long q3), .second, .val (.int kind), .val (.int r), .val (.int at_), .val (.int v), .val (.int len), .unset, .unset, .unset, .unset, .unset] [(.int (8 : Int32))])) target → Steps p.tables e below (s₁.setTop (mkF m 115 #[.val (.int p0), .val (.int p1), .val (.int p2), .val (.long q3), .second, .val (.int kind), .val (.int r), .val (.int at_), .val (.int v), .val (.int len), .unset, .unset, .unset, .unset, .unset] [])) target := by
    intro target kt
    show Steps p.tables e below (s₁.setTop (mkF m 115 #[.val (.int p0), .val (.int p1), .val (.int p2), .val (.long q3), .second, .val (.int kind), .val (.int r), .val (.int at_), .val (.int v), .val (.int len), .unset, .unset, .unset, .unset, .unset] [])) _
    refine XS.bipush X0.here hx rfl (hb hby at_115) ?_
    exact kt
  obtain ⟨T4, h4, k4, X4, e4, E4, A4, st4⟩ := newP X0 hx hZ (hw _ (List.mem_of_getElem? (i := 1) rfl)) e0 (g := (mkF m 117 #[.val (.int p0), .val (.int p1), .val (.int p2), .val (.long q3), .second, .val (.int kind), .val (.int r), .val (.int at_), .val (.int v), .val (.int len), .unset, .unset, .unset, .unset, .unset] [(.int (8 : Int32))])) rfl (hb hby at_117) rfl (by decide) (cap := 8) (by decide) (by decide) (by decide) (by decide)
  obtain ⟨b, g4⟩ : ∃ z, z = h0.size := ⟨_, rfl⟩
  rw [← g4] at A4 st4
  have g_b : n0 ≤ b := Nat.le_trans Z0 (Nat.le_of_eq g4.symm)
  have Z_4 : n0 ≤ h4.size := Nat.le_trans Z0 E4.1
  have V_b : Arv Z h4 b k4 .byte (8 : Int32) [(.int (0 : Int32)), (.int (0 : Int32)), (.int (0 : Int32)), (.int (0 : Int32)), (.int (0 : Int32)), (.int (0 : Int32)), (.int (0 : Int32)), (.int (0 : Int32))] (.int (0 : Int32)) := (Arv.new A4 (by decide)).pad (pad_rep [] (.int (0 : Int32)) 8)
  have st5 : ∀ target, Steps p.tables e below (T4.setTop (mkF m 127 #[.val (.int p0), .val (.int p1), .val (.int p2), .val (.long q3), .second, .val (.int kind), .val (.int r), .val (.int at_), .val (.int v), .val (.int len), .val (.ref b), .unset, .unset, .unset, .unset] [(.int ((q3.toInt32).toInt8.toInt32)), (.int (0 : Int32)), (.ref b)])) target → Steps p.tables e below (T4.setTop (mkF m 119 #[.val (.int p0), .val (.int p1), .val (.int p2), .val (.long q3), .second, .val (.int kind), .val (.int r), .val (.int at_), .val (.int v), .val (.int len), .unset, .unset, .unset, .unset, .unset] [(.ref b)])) target := by
    intro target kt
    show Steps p.tables e below (T4.setTop (mkF m 119 #[.val (.int p0), .val (.int p1), .val (.int p2), .val (.long q3), .second, .val (.int kind), .val (.int r), .val (.int at_), .val (.int v), .val (.int len), .unset, .unset, .unset, .unset, .unset] [(.ref b)])) _
    refine XS.astore X4.here hx rfl (hb hby at_119) rfl rfl (l' := #[.val (.int p0), .val (.int p1), .val (.int p2), .val (.long q3), .second, .val (.int kind), .val (.int r), .val (.int at_), .val (.int v), .val (.int len), .val (.ref b), .unset, .unset, .unset, .unset]) rfl ?_
    show Steps p.tables e below (T4.setTop (mkF m 121 #[.val (.int p0), .val (.int p1), .val (.int p2), .val (.long q3), .second, .val (.int kind), .val (.int r), .val (.int at_), .val (.int v), .val (.int len), .val (.ref b), .unset, .unset, .unset, .unset] [])) _
    refine XS.aload X4.here hx rfl (hb hby at_121) rfl rfl ?_
    show Steps p.tables e below (T4.setTop (mkF m 123 #[.val (.int p0), .val (.int p1), .val (.int p2), .val (.long q3), .second, .val (.int kind), .val (.int r), .val (.int at_), .val (.int v), .val (.int len), .val (.ref b), .unset, .unset, .unset, .unset] [(.ref b)])) _
    refine XS.iconst X4.here hx rfl (hb hby at_123) ?_
    show Steps p.tables e below (T4.setTop (mkF m 124 #[.val (.int p0), .val (.int p1), .val (.int p2), .val (.long q3), .second, .val (.int kind), .val (.int r), .val (.int at_), .val (.int v), .val (.int len), .val (.ref b), .unset, .unset, .unset, .unset] [(.int (0 : Int32)), (.ref b)])) _
    refine XS.lloadN X4.here hx rfl (hb hby at_124) rfl ?_
    show Steps p.tables e below (T4.setTop (mkF m 125 #[.val (.int p0), .val (.int p1), .val (.int p2), .val (.long q3), .second, .val (.int kind), .val (.int r), .val (.int at_), .val (.int v), .val (.int len), .val (.ref b), .unset, .unset, .unset, .unset] [(.long q3), (.int (0 : Int32)), (.ref b)])) _
    refine XS.l2i X4.here hx rfl (hb hby at_125) rfl ?_
    show Steps p.tables e below (T4.setTop (mkF m 126 #[.val (.int p0), .val (.int p1), .val (.int p2), .val (.long q3), .second, .val (.int kind), .val (.int r), .val (.int at_), .val (.int v), .val (.int len), .val (.ref b), .unset, .unset, .unset, .unset] [(.int (q3.toInt32)), (.int (0 : Int32)), (.ref b)])) _
    refine XS.i2b X4.here hx rfl (hb hby at_126) rfl ?_
    exact kt
  obtain ⟨cl6, Ar6, qc6, Sz6, Mn6, Hs6, Gs6⟩ := id V_b
  have hin6 : ¬ ((0 : Int32) < 0 ∨ cl6.slots.size ≤ ((0 : Int32)).toNatClampNeg) := inb_of Sz6 ⟨by decide, by decide⟩
  obtain ⟨T6, h6, X6, e6, W6, st6⟩ := stB X4 hx hZ e4 Ar6 (j := (0 : Int32)) hin6 (g := (mkF m 127 #[.val (.int p0), .val (.int p1), .val (.int p2), .val (.long q3), .second, .val (.int kind), .val (.int r), .val (.int at_), .val (.int v), .val (.int len), .val (.ref b), .unset, .unset, .unset, .unset] [(.int ((q3.toInt32).toInt8.toInt32)), (.int (0 : Int32)), (.ref b)])) rfl rfl (hb hby at_127)
  have V_b_6 : Arv Z h6 b k4 .byte (8 : Int32) [(.int (nar .byte ((q3.toInt32).toInt8.toInt32))), (.int (0 : Int32)), (.int (0 : Int32)), (.int (0 : Int32)), (.int (0 : Int32)), (.int (0 : Int32)), (.int (0 : Int32)), (.int (0 : Int32))] (.int (0 : Int32)) := Arv.set Ar6 qc6 Sz6 Mn6 Hs6 Gs6 (fits_nar_byte _) W6 0 rfl (Nat.le_of_ble_eq_true rfl)
  have Z_6 : n0 ≤ h6.size := Nat.le_trans Z_4 (Keep.of_wr W6).1
  have N6 := Fr.snoc X6 N0 g_b
  have st7 : ∀ target, Steps p.tables e below (T6.setTop (mkF m 137 #[.val (.int p0), .val (.int p1), .val (.int p2), .val (.long q3), .second, .val (.int kind), .val (.int r), .val (.int at_), .val (.int v), .val (.int len), .val (.ref b), .unset, .unset, .unset, .unset] [(.int ((((q3.toUInt64 >>> ((8 : Int32) &&& 0x3f).toInt64.toUInt64).toInt64).toInt32).toInt8.toInt32)), (.int (1 : Int32)), (.ref b)])) target → Steps p.tables e below (T6.setTop (mkF m 128 #[.val (.int p0), .val (.int p1), .val (.int p2), .val (.long q3), .second, .val (.int kind), .val (.int r), .val (.int at_), .val (.int v), .val (.int len), .val (.ref b), .unset, .unset, .unset, .unset] [])) target := by
    intro target kt
    show Steps p.tables e below (T6.setTop (mkF m 128 #[.val (.int p0), .val (.int p1), .val (.int p2), .val (.long q3), .second, .val (.int kind), .val (.int r), .val (.int at_), .val (.int v), .val (.int len), .val (.ref b), .unset, .unset, .unset, .unset] [])) _
    refine XS.aload X6.here hx rfl (hb hby at_128) rfl rfl ?_
    show Steps p.tables e below (T6.setTop (mkF m 130 #[.val (.int p0), .val (.int p1), .val (.int p2), .val (.long q3), .second, .val (.int kind), .val (.int r), .val (.int at_), .val (.int v), .val (.int len), .val (.ref b), .unset, .unset, .unset, .unset] [(.ref b)])) _
    refine XS.iconst X6.here hx rfl (hb hby at_130) ?_
    show Steps p.tables e below (T6.setTop (mkF m 131 #[.val (.int p0), .val (.int p1), .val (.int p2), .val (.long q3), .second, .val (.int kind), .val (.int r), .val (.int at_), .val (.int v), .val (.int len), .val (.ref b), .unset, .unset, .unset, .unset] [(.int (1 : Int32)), (.ref b)])) _
    refine XS.lloadN X6.here hx rfl (hb hby at_131) rfl ?_
    show Steps p.tables e below (T6.setTop (mkF m 132 #[.val (.int p0), .val (.int p1), .val (.int p2), .val (.long q3), .second, .val (.int kind), .val (.int r), .val (.int at_), .val (.int v), .val (.int len), .val (.ref b), .unset, .unset, .unset, .unset] [(.long q3), (.int (1 : Int32)), (.ref b)])) _
    refine XS.bipush X6.here hx rfl (hb hby at_132) ?_
    show Steps p.tables e below (T6.setTop (mkF m 134 #[.val (.int p0), .val (.int p1), .val (.int p2), .val (.long q3), .second, .val (.int kind), .val (.int r), .val (.int at_), .val (.int v), .val (.int len), .val (.ref b), .unset, .unset, .unset, .unset] [(.int (8 : Int32)), (.long q3), (.int (1 : Int32)), (.ref b)])) _
    refine XS.lushr X6.here hx rfl (hb hby at_134) rfl ?_
    show Steps p.tables e below (T6.setTop (mkF m 135 #[.val (.int p0), .val (.int p1), .val (.int p2), .val (.long q3), .second, .val (.int kind), .val (.int r), .val (.int at_), .val (.int v), .val (.int len), .val (.ref b), .unset, .unset, .unset, .unset] [(.long ((q3.toUInt64 >>> ((8 : Int32) &&& 0x3f).toInt64.toUInt64).toInt64)), (.int (1 : Int32)), (.ref b)])) _
    refine XS.l2i X6.here hx rfl (hb hby at_135) rfl ?_
    show Steps p.tables e below (T6.setTop (mkF m 136 #[.val (.int p0), .val (.int p1), .val (.int p2), .val (.long q3), .second, .val (.int kind), .val (.int r), .val (.int at_), .val (.int v), .val (.int len), .val (.ref b), .unset, .unset, .unset, .unset] [(.int (((q3.toUInt64 >>> ((8 : Int32) &&& 0x3f).toInt64.toUInt64).toInt64).toInt32)), (.int (1 : Int32)), (.ref b)])) _
    refine XS.i2b X6.here hx rfl (hb hby at_136) rfl ?_
    exact kt
  obtain ⟨cl8, Ar8, qc8, Sz8, Mn8, Hs8, Gs8⟩ := id V_b_6
  have hin8 : ¬ ((1 : Int32) < 0 ∨ cl8.slots.size ≤ ((1 : Int32)).toNatClampNeg) := inb_of Sz8 ⟨by decide, by decide⟩
  obtain ⟨T8, h8, X8, e8, W8, st8⟩ := stB X6 hx hZ e6 Ar8 (j := (1 : Int32)) hin8 (g := (mkF m 137 #[.val (.int p0), .val (.int p1), .val (.int p2), .val (.long q3), .second, .val (.int kind), .val (.int r), .val (.int at_), .val (.int v), .val (.int len), .val (.ref b), .unset, .unset, .unset, .unset] [(.int ((((q3.toUInt64 >>> ((8 : Int32) &&& 0x3f).toInt64.toUInt64).toInt64).toInt32).toInt8.toInt32)), (.int (1 : Int32)), (.ref b)])) rfl rfl (hb hby at_137)
  have V_b_8 : Arv Z h8 b k4 .byte (8 : Int32) [(.int (nar .byte ((q3.toInt32).toInt8.toInt32))), (.int (nar .byte ((((q3.toUInt64 >>> ((8 : Int32) &&& 0x3f).toInt64.toUInt64).toInt64).toInt32).toInt8.toInt32))), (.int (0 : Int32)), (.int (0 : Int32)), (.int (0 : Int32)), (.int (0 : Int32)), (.int (0 : Int32)), (.int (0 : Int32))] (.int (0 : Int32)) := Arv.set Ar8 qc8 Sz8 Mn8 Hs8 Gs8 (fits_nar_byte _) W8 1 rfl (Nat.le_of_ble_eq_true rfl)
  have Z_8 : n0 ≤ h8.size := Nat.le_trans Z_6 (Keep.of_wr W8).1
  have N8 := Fr.snoc X8 N6 g_b
  have st9 : ∀ target, Steps p.tables e below (T8.setTop (mkF m 147 #[.val (.int p0), .val (.int p1), .val (.int p2), .val (.long q3), .second, .val (.int kind), .val (.int r), .val (.int at_), .val (.int v), .val (.int len), .val (.ref b), .unset, .unset, .unset, .unset] [(.int ((((q3.toUInt64 >>> ((16 : Int32) &&& 0x3f).toInt64.toUInt64).toInt64).toInt32).toInt8.toInt32)), (.int (2 : Int32)), (.ref b)])) target → Steps p.tables e below (T8.setTop (mkF m 138 #[.val (.int p0), .val (.int p1), .val (.int p2), .val (.long q3), .second, .val (.int kind), .val (.int r), .val (.int at_), .val (.int v), .val (.int len), .val (.ref b), .unset, .unset, .unset, .unset] [])) target := by
    intro target kt
    show Steps p.tables e below (T8.setTop (mkF m 138 #[.val (.int p0), .val (.int p1), .val (.int p2), .val (.long q3), .second, .val (.int kind), .val (.int r), .val (.int at_), .val (.int v), .val (.int len), .val (.ref b), .unset, .unset, .unset, .unset] [])) _
    refine XS.aload X8.here hx rfl (hb hby at_138) rfl rfl ?_
    show Steps p.tables e below (T8.setTop (mkF m 140 #[.val (.int p0), .val (.int p1), .val (.int p2), .val (.long q3), .second, .val (.int kind), .val (.int r), .val (.int at_), .val (.int v), .val (.int len), .val (.ref b), .unset, .unset, .unset, .unset] [(.ref b)])) _
    refine XS.iconst X8.here hx rfl (hb hby at_140) ?_
    show Steps p.tables e below (T8.setTop (mkF m 141 #[.val (.int p0), .val (.int p1), .val (.int p2), .val (.long q3), .second, .val (.int kind), .val (.int r), .val (.int at_), .val (.int v), .val (.int len), .val (.ref b), .unset, .unset, .unset, .unset] [(.int (2 : Int32)), (.ref b)])) _
    refine XS.lloadN X8.here hx rfl (hb hby at_141) rfl ?_
    show Steps p.tables e below (T8.setTop (mkF m 142 #[.val (.int p0), .val (.int p1), .val (.int p2), .val (.long q3), .second, .val (.int kind), .val (.int r), .val (.int at_), .val (.int v), .val (.int len), .val (.ref b), .unset, .unset, .unset, .unset] [(.long q3), (.int (2 : Int32)), (.ref b)])) _
    refine XS.bipush X8.here hx rfl (hb hby at_142) ?_
    show Steps p.tables e below (T8.setTop (mkF m 144 #[.val (.int p0), .val (.int p1), .val (.int p2), .val (.long q3), .second, .val (.int kind), .val (.int r), .val (.int at_), .val (.int v), .val (.int len), .val (.ref b), .unset, .unset, .unset, .unset] [(.int (16 : Int32)), (.long q3), (.int (2 : Int32)), (.ref b)])) _
    refine XS.lushr X8.here hx rfl (hb hby at_144) rfl ?_
    show Steps p.tables e below (T8.setTop (mkF m 145 #[.val (.int p0), .val (.int p1), .val (.int p2), .val (.long q3), .second, .val (.int kind), .val (.int r), .val (.int at_), .val (.int v), .val (.int len), .val (.ref b), .unset, .unset, .unset, .unset] [(.long ((q3.toUInt64 >>> ((16 : Int32) &&& 0x3f).toInt64.toUInt64).toInt64)), (.int (2 : Int32)), (.ref b)])) _
    refine XS.l2i X8.here hx rfl (hb hby at_145) rfl ?_
    show Steps p.tables e below (T8.setTop (mkF m 146 #[.val (.int p0), .val (.int p1), .val (.int p2), .val (.long q3), .second, .val (.int kind), .val (.int r), .val (.int at_), .val (.int v), .val (.int len), .val (.ref b), .unset, .unset, .unset, .unset] [(.int (((q3.toUInt64 >>> ((16 : Int32) &&& 0x3f).toInt64.toUInt64).toInt64).toInt32)), (.int (2 : Int32)), (.ref b)])) _
    refine XS.i2b X8.here hx rfl (hb hby at_146) rfl ?_
    exact kt
  obtain ⟨cl10, Ar10, qc10, Sz10, Mn10, Hs10, Gs10⟩ := id V_b_8
  have hin10 : ¬ ((2 : Int32) < 0 ∨ cl10.slots.size ≤ ((2 : Int32)).toNatClampNeg) := inb_of Sz10 ⟨by decide, by decide⟩
  obtain ⟨T10, h10, X10, e10, W10, st10⟩ := stB X8 hx hZ e8 Ar10 (j := (2 : Int32)) hin10 (g := (mkF m 147 #[.val (.int p0), .val (.int p1), .val (.int p2), .val (.long q3), .second, .val (.int kind), .val (.int r), .val (.int at_), .val (.int v), .val (.int len), .val (.ref b), .unset, .unset, .unset, .unset] [(.int ((((q3.toUInt64 >>> ((16 : Int32) &&& 0x3f).toInt64.toUInt64).toInt64).toInt32).toInt8.toInt32)), (.int (2 : Int32)), (.ref b)])) rfl rfl (hb hby at_147)
  have V_b_10 : Arv Z h10 b k4 .byte (8 : Int32) [(.int (nar .byte ((q3.toInt32).toInt8.toInt32))), (.int (nar .byte ((((q3.toUInt64 >>> ((8 : Int32) &&& 0x3f).toInt64.toUInt64).toInt64).toInt32).toInt8.toInt32))), (.int (nar .byte ((((q3.toUInt64 >>> ((16 : Int32) &&& 0x3f).toInt64.toUInt64).toInt64).toInt32).toInt8.toInt32))), (.int (0 : Int32)), (.int (0 : Int32)), (.int (0 : Int32)), (.int (0 : Int32)), (.int (0 : Int32))] (.int (0 : Int32)) := Arv.set Ar10 qc10 Sz10 Mn10 Hs10 Gs10 (fits_nar_byte _) W10 2 rfl (Nat.le_of_ble_eq_true rfl)
  have Z_10 : n0 ≤ h10.size := Nat.le_trans Z_8 (Keep.of_wr W10).1
  have N10 := Fr.snoc X10 N8 g_b
  have st11 : ∀ target, Steps p.tables e below (T10.setTop (mkF m 157 #[.val (.int p0), .val (.int p1), .val (.int p2), .val (.long q3), .second, .val (.int kind), .val (.int r), .val (.int at_), .val (.int v), .val (.int len), .val (.ref b), .unset, .unset, .unset, .unset] [(.int ((((q3.toUInt64 >>> ((24 : Int32) &&& 0x3f).toInt64.toUInt64).toInt64).toInt32).toInt8.toInt32)), (.int (3 : Int32)), (.ref b)])) target → Steps p.tables e below (T10.setTop (mkF m 148 #[.val (.int p0), .val (.int p1), .val (.int p2), .val (.long q3), .second, .val (.int kind), .val (.int r), .val (.int at_), .val (.int v), .val (.int len), .val (.ref b), .unset, .unset, .unset, .unset] [])) target := by
    intro target kt
    show Steps p.tables e below (T10.setTop (mkF m 148 #[.val (.int p0), .val (.int p1), .val (.int p2), .val (.long q3), .second, .val (.int kind), .val (.int r), .val (.int at_), .val (.int v), .val (.int len), .val (.ref b), .unset, .unset, .unset, .unset] [])) _
    refine XS.aload X10.here hx rfl (hb hby at_148) rfl rfl ?_
    show Steps p.tables e below (T10.setTop (mkF m 150 #[.val (.int p0), .val (.int p1), .val (.int p2), .val (.long q3), .second, .val (.int kind), .val (.int r), .val (.int at_), .val (.int v), .val (.int len), .val (.ref b), .unset, .unset, .unset, .unset] [(.ref b)])) _
    refine XS.iconst X10.here hx rfl (hb hby at_150) ?_
    show Steps p.tables e below (T10.setTop (mkF m 151 #[.val (.int p0), .val (.int p1), .val (.int p2), .val (.long q3), .second, .val (.int kind), .val (.int r), .val (.int at_), .val (.int v), .val (.int len), .val (.ref b), .unset, .unset, .unset, .unset] [(.int (3 : Int32)), (.ref b)])) _
    refine XS.lloadN X10.here hx rfl (hb hby at_151) rfl ?_
    show Steps p.tables e below (T10.setTop (mkF m 152 #[.val (.int p0), .val (.int p1), .val (.int p2), .val (.long q3), .second, .val (.int kind), .val (.int r), .val (.int at_), .val (.int v), .val (.int len), .val (.ref b), .unset, .unset, .unset, .unset] [(.long q3), (.int (3 : Int32)), (.ref b)])) _
    refine XS.bipush X10.here hx rfl (hb hby at_152) ?_
    show Steps p.tables e below (T10.setTop (mkF m 154 #[.val (.int p0), .val (.int p1), .val (.int p2), .val (.long q3), .second, .val (.int kind), .val (.int r), .val (.int at_), .val (.int v), .val (.int len), .val (.ref b), .unset, .unset, .unset, .unset] [(.int (24 : Int32)), (.long q3), (.int (3 : Int32)), (.ref b)])) _
    refine XS.lushr X10.here hx rfl (hb hby at_154) rfl ?_
    show Steps p.tables e below (T10.setTop (mkF m 155 #[.val (.int p0), .val (.int p1), .val (.int p2), .val (.long q3), .second, .val (.int kind), .val (.int r), .val (.int at_), .val (.int v), .val (.int len), .val (.ref b), .unset, .unset, .unset, .unset] [(.long ((q3.toUInt64 >>> ((24 : Int32) &&& 0x3f).toInt64.toUInt64).toInt64)), (.int (3 : Int32)), (.ref b)])) _
    refine XS.l2i X10.here hx rfl (hb hby at_155) rfl ?_
    show Steps p.tables e below (T10.setTop (mkF m 156 #[.val (.int p0), .val (.int p1), .val (.int p2), .val (.long q3), .second, .val (.int kind), .val (.int r), .val (.int at_), .val (.int v), .val (.int len), .val (.ref b), .unset, .unset, .unset, .unset] [(.int (((q3.toUInt64 >>> ((24 : Int32) &&& 0x3f).toInt64.toUInt64).toInt64).toInt32)), (.int (3 : Int32)), (.ref b)])) _
    refine XS.i2b X10.here hx rfl (hb hby at_156) rfl ?_
    exact kt
  obtain ⟨cl12, Ar12, qc12, Sz12, Mn12, Hs12, Gs12⟩ := id V_b_10
  have hin12 : ¬ ((3 : Int32) < 0 ∨ cl12.slots.size ≤ ((3 : Int32)).toNatClampNeg) := inb_of Sz12 ⟨by decide, by decide⟩
  obtain ⟨T12, h12, X12, e12, W12, st12⟩ := stB X10 hx hZ e10 Ar12 (j := (3 : Int32)) hin12 (g := (mkF m 157 #[.val (.int p0), .val (.int p1), .val (.int p2), .val (.long q3), .second, .val (.int kind), .val (.int r), .val (.int at_), .val (.int v), .val (.int len), .val (.ref b), .unset, .unset, .unset, .unset] [(.int ((((q3.toUInt64 >>> ((24 : Int32) &&& 0x3f).toInt64.toUInt64).toInt64).toInt32).toInt8.toInt32)), (.int (3 : Int32)), (.ref b)])) rfl rfl (hb hby at_157)
  have V_b_12 : Arv Z h12 b k4 .byte (8 : Int32) [(.int (nar .byte ((q3.toInt32).toInt8.toInt32))), (.int (nar .byte ((((q3.toUInt64 >>> ((8 : Int32) &&& 0x3f).toInt64.toUInt64).toInt64).toInt32).toInt8.toInt32))), (.int (nar .byte ((((q3.toUInt64 >>> ((16 : Int32) &&& 0x3f).toInt64.toUInt64).toInt64).toInt32).toInt8.toInt32))), (.int (nar .byte ((((q3.toUInt64 >>> ((24 : Int32) &&& 0x3f).toInt64.toUInt64).toInt64).toInt32).toInt8.toInt32))), (.int (0 : Int32)), (.int (0 : Int32)), (.int (0 : Int32)), (.int (0 : Int32))] (.int (0 : Int32)) := Arv.set Ar12 qc12 Sz12 Mn12 Hs12 Gs12 (fits_nar_byte _) W12 3 rfl (Nat.le_of_ble_eq_true rfl)
  have Z_12 : n0 ≤ h12.size := Nat.le_trans Z_10 (Keep.of_wr W12).1
  have N12 := Fr.snoc X12 N10 g_b
  have st13 : ∀ target, Steps p.tables e below (T12.setTop (mkF m 167 #[.val (.int p0), .val (.int p1), .val (.int p2), .val (.long q3), .second, .val (.int kind), .val (.int r), .val (.int at_), .val (.int v), .val (.int len), .val (.ref b), .unset, .unset, .unset, .unset] [(.int ((((q3.toUInt64 >>> ((32 : Int32) &&& 0x3f).toInt64.toUInt64).toInt64).toInt32).toInt8.toInt32)), (.int (4 : Int32)), (.ref b)])) target → Steps p.tables e below (T12.setTop (mkF m 158 #[.val (.int p0), .val (.int p1), .val (.int p2), .val (.long q3), .second, .val (.int kind), .val (.int r), .val (.int at_), .val (.int v), .val (.int len), .val (.ref b), .unset, .unset, .unset, .unset] [])) target := by
    intro target kt
    show Steps p.tables e below (T12.setTop (mkF m 158 #[.val (.int p0), .val (.int p1), .val (.int p2), .val (.long q3), .second, .val (.int kind), .val (.int r), .val (.int at_), .val (.int v), .val (.int len), .val (.ref b), .unset, .unset, .unset, .unset] [])) _
    refine XS.aload X12.here hx rfl (hb hby at_158) rfl rfl ?_
    show Steps p.tables e below (T12.setTop (mkF m 160 #[.val (.int p0), .val (.int p1), .val (.int p2), .val (.long q3), .second, .val (.int kind), .val (.int r), .val (.int at_), .val (.int v), .val (.int len), .val (.ref b), .unset, .unset, .unset, .unset] [(.ref b)])) _
    refine XS.iconst X12.here hx rfl (hb hby at_160) ?_
    show Steps p.tables e below (T12.setTop (mkF m 161 #[.val (.int p0), .val (.int p1), .val (.int p2), .val (.long q3), .second, .val (.int kind), .val (.int r), .val (.int at_), .val (.int v), .val (.int len), .val (.ref b), .unset, .unset, .unset, .unset] [(.int (4 : Int32)), (.ref b)])) _
    refine XS.lloadN X12.here hx rfl (hb hby at_161) rfl ?_
    show Steps p.tables e below (T12.setTop (mkF m 162 #[.val (.int p0), .val (.int p1), .val (.int p2), .val (.long q3), .second, .val (.int kind), .val (.int r), .val (.int at_), .val (.int v), .val (.int len), .val (.ref b), .unset, .unset, .unset, .unset] [(.long q3), (.int (4 : Int32)), (.ref b)])) _
    refine XS.bipush X12.here hx rfl (hb hby at_162) ?_
    show Steps p.tables e below (T12.setTop (mkF m 164 #[.val (.int p0), .val (.int p1), .val (.int p2), .val (.long q3), .second, .val (.int kind), .val (.int r), .val (.int at_), .val (.int v), .val (.int len), .val (.ref b), .unset, .unset, .unset, .unset] [(.int (32 : Int32)), (.long q3), (.int (4 : Int32)), (.ref b)])) _
    refine XS.lushr X12.here hx rfl (hb hby at_164) rfl ?_
    show Steps p.tables e below (T12.setTop (mkF m 165 #[.val (.int p0), .val (.int p1), .val (.int p2), .val (.long q3), .second, .val (.int kind), .val (.int r), .val (.int at_), .val (.int v), .val (.int len), .val (.ref b), .unset, .unset, .unset, .unset] [(.long ((q3.toUInt64 >>> ((32 : Int32) &&& 0x3f).toInt64.toUInt64).toInt64)), (.int (4 : Int32)), (.ref b)])) _
    refine XS.l2i X12.here hx rfl (hb hby at_165) rfl ?_
    show Steps p.tables e below (T12.setTop (mkF m 166 #[.val (.int p0), .val (.int p1), .val (.int p2), .val (.long q3), .second, .val (.int kind), .val (.int r), .val (.int at_), .val (.int v), .val (.int len), .val (.ref b), .unset, .unset, .unset, .unset] [(.int (((q3.toUInt64 >>> ((32 : Int32) &&& 0x3f).toInt64.toUInt64).toInt64).toInt32)), (.int (4 : Int32)), (.ref b)])) _
    refine XS.i2b X12.here hx rfl (hb hby at_166) rfl ?_
    exact kt
  obtain ⟨cl14, Ar14, qc14, Sz14, Mn14, Hs14, Gs14⟩ := id V_b_12
  have hin14 : ¬ ((4 : Int32) < 0 ∨ cl14.slots.size ≤ ((4 : Int32)).toNatClampNeg) := inb_of Sz14 ⟨by decide, by decide⟩
  obtain ⟨T14, h14, X14, e14, W14, st14⟩ := stB X12 hx hZ e12 Ar14 (j := (4 : Int32)) hin14 (g := (mkF m 167 #[.val (.int p0), .val (.int p1), .val (.int p2), .val (.long q3), .second, .val (.int kind), .val (.int r), .val (.int at_), .val (.int v), .val (.int len), .val (.ref b), .unset, .unset, .unset, .unset] [(.int ((((q3.toUInt64 >>> ((32 : Int32) &&& 0x3f).toInt64.toUInt64).toInt64).toInt32).toInt8.toInt32)), (.int (4 : Int32)), (.ref b)])) rfl rfl (hb hby at_167)
  have V_b_14 : Arv Z h14 b k4 .byte (8 : Int32) [(.int (nar .byte ((q3.toInt32).toInt8.toInt32))), (.int (nar .byte ((((q3.toUInt64 >>> ((8 : Int32) &&& 0x3f).toInt64.toUInt64).toInt64).toInt32).toInt8.toInt32))), (.int (nar .byte ((((q3.toUInt64 >>> ((16 : Int32) &&& 0x3f).toInt64.toUInt64).toInt64).toInt32).toInt8.toInt32))), (.int (nar .byte ((((q3.toUInt64 >>> ((24 : Int32) &&& 0x3f).toInt64.toUInt64).toInt64).toInt32).toInt8.toInt32))), (.int (nar .byte ((((q3.toUInt64 >>> ((32 : Int32) &&& 0x3f).toInt64.toUInt64).toInt64).toInt32).toInt8.toInt32))), (.int (0 : Int32)), (.int (0 : Int32)), (.int (0 : Int32))] (.int (0 : Int32)) := Arv.set Ar14 qc14 Sz14 Mn14 Hs14 Gs14 (fits_nar_byte _) W14 4 rfl (Nat.le_of_ble_eq_true rfl)
  have Z_14 : n0 ≤ h14.size := Nat.le_trans Z_12 (Keep.of_wr W14).1
  have N14 := Fr.snoc X14 N12 g_b
  have st15 : ∀ target, Steps p.tables e below (T14.setTop (mkF m 177 #[.val (.int p0), .val (.int p1), .val (.int p2), .val (.long q3), .second, .val (.int kind), .val (.int r), .val (.int at_), .val (.int v), .val (.int len), .val (.ref b), .unset, .unset, .unset, .unset] [(.int ((((q3.toUInt64 >>> ((40 : Int32) &&& 0x3f).toInt64.toUInt64).toInt64).toInt32).toInt8.toInt32)), (.int (5 : Int32)), (.ref b)])) target → Steps p.tables e below (T14.setTop (mkF m 168 #[.val (.int p0), .val (.int p1), .val (.int p2), .val (.long q3), .second, .val (.int kind), .val (.int r), .val (.int at_), .val (.int v), .val (.int len), .val (.ref b), .unset, .unset, .unset, .unset] [])) target := by
    intro target kt
    show Steps p.tables e below (T14.setTop (mkF m 168 #[.val (.int p0), .val (.int p1), .val (.int p2), .val (.long q3), .second, .val (.int kind), .val (.int r), .val (.int at_), .val (.int v), .val (.int len), .val (.ref b), .unset, .unset, .unset, .unset] [])) _
    refine XS.aload X14.here hx rfl (hb hby at_168) rfl rfl ?_
    show Steps p.tables e below (T14.setTop (mkF m 170 #[.val (.int p0), .val (.int p1), .val (.int p2), .val (.long q3), .second, .val (.int kind), .val (.int r), .val (.int at_), .val (.int v), .val (.int len), .val (.ref b), .unset, .unset, .unset, .unset] [(.ref b)])) _
    refine XS.iconst X14.here hx rfl (hb hby at_170) ?_
    show Steps p.tables e below (T14.setTop (mkF m 171 #[.val (.int p0), .val (.int p1), .val (.int p2), .val (.long q3), .second, .val (.int kind), .val (.int r), .val (.int at_), .val (.int v), .val (.int len), .val (.ref b), .unset, .unset, .unset, .unset] [(.int (5 : Int32)), (.ref b)])) _
    refine XS.lloadN X14.here hx rfl (hb hby at_171) rfl ?_
    show Steps p.tables e below (T14.setTop (mkF m 172 #[.val (.int p0), .val (.int p1), .val (.int p2), .val (.long q3), .second, .val (.int kind), .val (.int r), .val (.int at_), .val (.int v), .val (.int len), .val (.ref b), .unset, .unset, .unset, .unset] [(.long q3), (.int (5 : Int32)), (.ref b)])) _
    refine XS.bipush X14.here hx rfl (hb hby at_172) ?_
    show Steps p.tables e below (T14.setTop (mkF m 174 #[.val (.int p0), .val (.int p1), .val (.int p2), .val (.long q3), .second, .val (.int kind), .val (.int r), .val (.int at_), .val (.int v), .val (.int len), .val (.ref b), .unset, .unset, .unset, .unset] [(.int (40 : Int32)), (.long q3), (.int (5 : Int32)), (.ref b)])) _
    refine XS.lushr X14.here hx rfl (hb hby at_174) rfl ?_
    show Steps p.tables e below (T14.setTop (mkF m 175 #[.val (.int p0), .val (.int p1), .val (.int p2), .val (.long q3), .second, .val (.int kind), .val (.int r), .val (.int at_), .val (.int v), .val (.int len), .val (.ref b), .unset, .unset, .unset, .unset] [(.long ((q3.toUInt64 >>> ((40 : Int32) &&& 0x3f).toInt64.toUInt64).toInt64)), (.int (5 : Int32)), (.ref b)])) _
    refine XS.l2i X14.here hx rfl (hb hby at_175) rfl ?_
    show Steps p.tables e below (T14.setTop (mkF m 176 #[.val (.int p0), .val (.int p1), .val (.int p2), .val (.long q3), .second, .val (.int kind), .val (.int r), .val (.int at_), .val (.int v), .val (.int len), .val (.ref b), .unset, .unset, .unset, .unset] [(.int (((q3.toUInt64 >>> ((40 : Int32) &&& 0x3f).toInt64.toUInt64).toInt64).toInt32)), (.int (5 : Int32)), (.ref b)])) _
    refine XS.i2b X14.here hx rfl (hb hby at_176) rfl ?_
    exact kt
  obtain ⟨cl16, Ar16, qc16, Sz16, Mn16, Hs16, Gs16⟩ := id V_b_14
  have hin16 : ¬ ((5 : Int32) < 0 ∨ cl16.slots.size ≤ ((5 : Int32)).toNatClampNeg) := inb_of Sz16 ⟨by decide, by decide⟩
  obtain ⟨T16, h16, X16, e16, W16, st16⟩ := stB X14 hx hZ e14 Ar16 (j := (5 : Int32)) hin16 (g := (mkF m 177 #[.val (.int p0), .val (.int p1), .val (.int p2), .val (.long q3), .second, .val (.int kind), .val (.int r), .val (.int at_), .val (.int v), .val (.int len), .val (.ref b), .unset, .unset, .unset, .unset] [(.int ((((q3.toUInt64 >>> ((40 : Int32) &&& 0x3f).toInt64.toUInt64).toInt64).toInt32).toInt8.toInt32)), (.int (5 : Int32)), (.ref b)])) rfl rfl (hb hby at_177)
  have V_b_16 : Arv Z h16 b k4 .byte (8 : Int32) [(.int (nar .byte ((q3.toInt32).toInt8.toInt32))), (.int (nar .byte ((((q3.toUInt64 >>> ((8 : Int32) &&& 0x3f).toInt64.toUInt64).toInt64).toInt32).toInt8.toInt32))), (.int (nar .byte ((((q3.toUInt64 >>> ((16 : Int32) &&& 0x3f).toInt64.toUInt64).toInt64).toInt32).toInt8.toInt32))), (.int (nar .byte ((((q3.toUInt64 >>> ((24 : Int32) &&& 0x3f).toInt64.toUInt64).toInt64).toInt32).toInt8.toInt32))), (.int (nar .byte ((((q3.toUInt64 >>> ((32 : Int32) &&& 0x3f).toInt64.toUInt64).toInt64).toInt32).toInt8.toInt32))), (.int (nar .byte ((((q3.toUInt64 >>> ((40 : Int32) &&& 0x3f).toInt64.toUInt64).toInt64).toInt32).toInt8.toInt32))), (.int (0 : Int32)), (.int (0 : Int32))] (.int (0 : Int32)) := Arv.set Ar16 qc16 Sz16 Mn16 Hs16 Gs16 (fits_nar_byte _) W16 5 rfl (Nat.le_of_ble_eq_true rfl)
  have Z_16 : n0 ≤ h16.size := Nat.le_trans Z_14 (Keep.of_wr W16).1
  have N16 := Fr.snoc X16 N14 g_b
  have st17 : ∀ target, Steps p.tables e below (T16.setTop (mkF m 188 #[.val (.int p0), .val (.int p1), .val (.int p2), .val (.long q3), .second, .val (.int kind), .val (.int r), .val (.int at_), .val (.int v), .val (.int len), .val (.ref b), .unset, .unset, .unset, .unset] [(.int ((((q3.toUInt64 >>> ((48 : Int32) &&& 0x3f).toInt64.toUInt64).toInt64).toInt32).toInt8.toInt32)), (.int (6 : Int32)), (.ref b)])) target → Steps p.tables e below (T16.setTop (mkF m 178 #[.val (.int p0), .val (.int p1), .val (.int p2), .val (.long q3), .second, .val (.int kind), .val (.int r), .val (.int at_), .val (.int v), .val (.int len), .val (.ref b), .unset, .unset, .unset, .unset] [])) target := by
    intro target kt
    show Steps p.tables e below (T16.setTop (mkF m 178 #[.val (.int p0), .val (.int p1), .val (.int p2), .val (.long q3), .second, .val (.int kind), .val (.int r), .val (.int at_), .val (.int v), .val (.int len), .val (.ref b), .unset, .unset, .unset, .unset] [])) _
    refine XS.aload X16.here hx rfl (hb hby at_178) rfl rfl ?_
    show Steps p.tables e below (T16.setTop (mkF m 180 #[.val (.int p0), .val (.int p1), .val (.int p2), .val (.long q3), .second, .val (.int kind), .val (.int r), .val (.int at_), .val (.int v), .val (.int len), .val (.ref b), .unset, .unset, .unset, .unset] [(.ref b)])) _
    refine XS.bipush X16.here hx rfl (hb hby at_180) ?_
    show Steps p.tables e below (T16.setTop (mkF m 182 #[.val (.int p0), .val (.int p1), .val (.int p2), .val (.long q3), .second, .val (.int kind), .val (.int r), .val (.int at_), .val (.int v), .val (.int len), .val (.ref b), .unset, .unset, .unset, .unset] [(.int (6 : Int32)), (.ref b)])) _
    refine XS.lloadN X16.here hx rfl (hb hby at_182) rfl ?_
    show Steps p.tables e below (T16.setTop (mkF m 183 #[.val (.int p0), .val (.int p1), .val (.int p2), .val (.long q3), .second, .val (.int kind), .val (.int r), .val (.int at_), .val (.int v), .val (.int len), .val (.ref b), .unset, .unset, .unset, .unset] [(.long q3), (.int (6 : Int32)), (.ref b)])) _
    refine XS.bipush X16.here hx rfl (hb hby at_183) ?_
    show Steps p.tables e below (T16.setTop (mkF m 185 #[.val (.int p0), .val (.int p1), .val (.int p2), .val (.long q3), .second, .val (.int kind), .val (.int r), .val (.int at_), .val (.int v), .val (.int len), .val (.ref b), .unset, .unset, .unset, .unset] [(.int (48 : Int32)), (.long q3), (.int (6 : Int32)), (.ref b)])) _
    refine XS.lushr X16.here hx rfl (hb hby at_185) rfl ?_
    show Steps p.tables e below (T16.setTop (mkF m 186 #[.val (.int p0), .val (.int p1), .val (.int p2), .val (.long q3), .second, .val (.int kind), .val (.int r), .val (.int at_), .val (.int v), .val (.int len), .val (.ref b), .unset, .unset, .unset, .unset] [(.long ((q3.toUInt64 >>> ((48 : Int32) &&& 0x3f).toInt64.toUInt64).toInt64)), (.int (6 : Int32)), (.ref b)])) _
    refine XS.l2i X16.here hx rfl (hb hby at_186) rfl ?_
    show Steps p.tables e below (T16.setTop (mkF m 187 #[.val (.int p0), .val (.int p1), .val (.int p2), .val (.long q3), .second, .val (.int kind), .val (.int r), .val (.int at_), .val (.int v), .val (.int len), .val (.ref b), .unset, .unset, .unset, .unset] [(.int (((q3.toUInt64 >>> ((48 : Int32) &&& 0x3f).toInt64.toUInt64).toInt64).toInt32)), (.int (6 : Int32)), (.ref b)])) _
    refine XS.i2b X16.here hx rfl (hb hby at_187) rfl ?_
    exact kt
  obtain ⟨cl18, Ar18, qc18, Sz18, Mn18, Hs18, Gs18⟩ := id V_b_16
  have hin18 : ¬ ((6 : Int32) < 0 ∨ cl18.slots.size ≤ ((6 : Int32)).toNatClampNeg) := inb_of Sz18 ⟨by decide, by decide⟩
  obtain ⟨T18, h18, X18, e18, W18, st18⟩ := stB X16 hx hZ e16 Ar18 (j := (6 : Int32)) hin18 (g := (mkF m 188 #[.val (.int p0), .val (.int p1), .val (.int p2), .val (.long q3), .second, .val (.int kind), .val (.int r), .val (.int at_), .val (.int v), .val (.int len), .val (.ref b), .unset, .unset, .unset, .unset] [(.int ((((q3.toUInt64 >>> ((48 : Int32) &&& 0x3f).toInt64.toUInt64).toInt64).toInt32).toInt8.toInt32)), (.int (6 : Int32)), (.ref b)])) rfl rfl (hb hby at_188)
  have V_b_18 : Arv Z h18 b k4 .byte (8 : Int32) [(.int (nar .byte ((q3.toInt32).toInt8.toInt32))), (.int (nar .byte ((((q3.toUInt64 >>> ((8 : Int32) &&& 0x3f).toInt64.toUInt64).toInt64).toInt32).toInt8.toInt32))), (.int (nar .byte ((((q3.toUInt64 >>> ((16 : Int32) &&& 0x3f).toInt64.toUInt64).toInt64).toInt32).toInt8.toInt32))), (.int (nar .byte ((((q3.toUInt64 >>> ((24 : Int32) &&& 0x3f).toInt64.toUInt64).toInt64).toInt32).toInt8.toInt32))), (.int (nar .byte ((((q3.toUInt64 >>> ((32 : Int32) &&& 0x3f).toInt64.toUInt64).toInt64).toInt32).toInt8.toInt32))), (.int (nar .byte ((((q3.toUInt64 >>> ((40 : Int32) &&& 0x3f).toInt64.toUInt64).toInt64).toInt32).toInt8.toInt32))), (.int (nar .byte ((((q3.toUInt64 >>> ((48 : Int32) &&& 0x3f).toInt64.toUInt64).toInt64).toInt32).toInt8.toInt32))), (.int (0 : Int32))] (.int (0 : Int32)) := Arv.set Ar18 qc18 Sz18 Mn18 Hs18 Gs18 (fits_nar_byte _) W18 6 rfl (Nat.le_of_ble_eq_true rfl)
  have Z_18 : n0 ≤ h18.size := Nat.le_trans Z_16 (Keep.of_wr W18).1
  have N18 := Fr.snoc X18 N16 g_b
  have st19 : ∀ target, Steps p.tables e below (T18.setTop (mkF m 199 #[.val (.int p0), .val (.int p1), .val (.int p2), .val (.long q3), .second, .val (.int kind), .val (.int r), .val (.int at_), .val (.int v), .val (.int len), .val (.ref b), .unset, .unset, .unset, .unset] [(.int ((((q3.toUInt64 >>> ((56 : Int32) &&& 0x3f).toInt64.toUInt64).toInt64).toInt32).toInt8.toInt32)), (.int (7 : Int32)), (.ref b)])) target → Steps p.tables e below (T18.setTop (mkF m 189 #[.val (.int p0), .val (.int p1), .val (.int p2), .val (.long q3), .second, .val (.int kind), .val (.int r), .val (.int at_), .val (.int v), .val (.int len), .val (.ref b), .unset, .unset, .unset, .unset] [])) target := by
    intro target kt
    show Steps p.tables e below (T18.setTop (mkF m 189 #[.val (.int p0), .val (.int p1), .val (.int p2), .val (.long q3), .second, .val (.int kind), .val (.int r), .val (.int at_), .val (.int v), .val (.int len), .val (.ref b), .unset, .unset, .unset, .unset] [])) _
    refine XS.aload X18.here hx rfl (hb hby at_189) rfl rfl ?_
    show Steps p.tables e below (T18.setTop (mkF m 191 #[.val (.int p0), .val (.int p1), .val (.int p2), .val (.long q3), .second, .val (.int kind), .val (.int r), .val (.int at_), .val (.int v), .val (.int len), .val (.ref b), .unset, .unset, .unset, .unset] [(.ref b)])) _
    refine XS.bipush X18.here hx rfl (hb hby at_191) ?_
    show Steps p.tables e below (T18.setTop (mkF m 193 #[.val (.int p0), .val (.int p1), .val (.int p2), .val (.long q3), .second, .val (.int kind), .val (.int r), .val (.int at_), .val (.int v), .val (.int len), .val (.ref b), .unset, .unset, .unset, .unset] [(.int (7 : Int32)), (.ref b)])) _
    refine XS.lloadN X18.here hx rfl (hb hby at_193) rfl ?_
    show Steps p.tables e below (T18.setTop (mkF m 194 #[.val (.int p0), .val (.int p1), .val (.int p2), .val (.long q3), .second, .val (.int kind), .val (.int r), .val (.int at_), .val (.int v), .val (.int len), .val (.ref b), .unset, .unset, .unset, .unset] [(.long q3), (.int (7 : Int32)), (.ref b)])) _
    refine XS.bipush X18.here hx rfl (hb hby at_194) ?_
    show Steps p.tables e below (T18.setTop (mkF m 196 #[.val (.int p0), .val (.int p1), .val (.int p2), .val (.long q3), .second, .val (.int kind), .val (.int r), .val (.int at_), .val (.int v), .val (.int len), .val (.ref b), .unset, .unset, .unset, .unset] [(.int (56 : Int32)), (.long q3), (.int (7 : Int32)), (.ref b)])) _
    refine XS.lushr X18.here hx rfl (hb hby at_196) rfl ?_
    show Steps p.tables e below (T18.setTop (mkF m 197 #[.val (.int p0), .val (.int p1), .val (.int p2), .val (.long q3), .second, .val (.int kind), .val (.int r), .val (.int at_), .val (.int v), .val (.int len), .val (.ref b), .unset, .unset, .unset, .unset] [(.long ((q3.toUInt64 >>> ((56 : Int32) &&& 0x3f).toInt64.toUInt64).toInt64)), (.int (7 : Int32)), (.ref b)])) _
    refine XS.l2i X18.here hx rfl (hb hby at_197) rfl ?_
    show Steps p.tables e below (T18.setTop (mkF m 198 #[.val (.int p0), .val (.int p1), .val (.int p2), .val (.long q3), .second, .val (.int kind), .val (.int r), .val (.int at_), .val (.int v), .val (.int len), .val (.ref b), .unset, .unset, .unset, .unset] [(.int (((q3.toUInt64 >>> ((56 : Int32) &&& 0x3f).toInt64.toUInt64).toInt64).toInt32)), (.int (7 : Int32)), (.ref b)])) _
    refine XS.i2b X18.here hx rfl (hb hby at_198) rfl ?_
    exact kt
  obtain ⟨cl20, Ar20, qc20, Sz20, Mn20, Hs20, Gs20⟩ := id V_b_18
  have hin20 : ¬ ((7 : Int32) < 0 ∨ cl20.slots.size ≤ ((7 : Int32)).toNatClampNeg) := inb_of Sz20 ⟨by decide, by decide⟩
  obtain ⟨T20, h20, X20, e20, W20, st20⟩ := stB X18 hx hZ e18 Ar20 (j := (7 : Int32)) hin20 (g := (mkF m 199 #[.val (.int p0), .val (.int p1), .val (.int p2), .val (.long q3), .second, .val (.int kind), .val (.int r), .val (.int at_), .val (.int v), .val (.int len), .val (.ref b), .unset, .unset, .unset, .unset] [(.int ((((q3.toUInt64 >>> ((56 : Int32) &&& 0x3f).toInt64.toUInt64).toInt64).toInt32).toInt8.toInt32)), (.int (7 : Int32)), (.ref b)])) rfl rfl (hb hby at_199)
  have V_b_20 : Arv Z h20 b k4 .byte (8 : Int32) [(.int (nar .byte ((q3.toInt32).toInt8.toInt32))), (.int (nar .byte ((((q3.toUInt64 >>> ((8 : Int32) &&& 0x3f).toInt64.toUInt64).toInt64).toInt32).toInt8.toInt32))), (.int (nar .byte ((((q3.toUInt64 >>> ((16 : Int32) &&& 0x3f).toInt64.toUInt64).toInt64).toInt32).toInt8.toInt32))), (.int (nar .byte ((((q3.toUInt64 >>> ((24 : Int32) &&& 0x3f).toInt64.toUInt64).toInt64).toInt32).toInt8.toInt32))), (.int (nar .byte ((((q3.toUInt64 >>> ((32 : Int32) &&& 0x3f).toInt64.toUInt64).toInt64).toInt32).toInt8.toInt32))), (.int (nar .byte ((((q3.toUInt64 >>> ((40 : Int32) &&& 0x3f).toInt64.toUInt64).toInt64).toInt32).toInt8.toInt32))), (.int (nar .byte ((((q3.toUInt64 >>> ((48 : Int32) &&& 0x3f).toInt64.toUInt64).toInt64).toInt32).toInt8.toInt32))), (.int (nar .byte ((((q3.toUInt64 >>> ((56 : Int32) &&& 0x3f).toInt64.toUInt64).toInt64).toInt32).toInt8.toInt32)))] (.int (0 : Int32)) := Arv.set Ar20 qc20 Sz20 Mn20 Hs20 Gs20 (fits_nar_byte _) W20 7 rfl (Nat.le_of_ble_eq_true rfl)
  have Z_20 : n0 ≤ h20.size := Nat.le_trans Z_18 (Keep.of_wr W20).1
  have N20 := Fr.snoc X20 N18 g_b
  have st21 : ∀ target, Steps p.tables e below (T20.setTop (mkF m 212 #[.val (.int p0), .val (.int p1), .val (.int p2), .val (.long q3), .second, .val (.int kind), .val (.int r), .val (.int at_), .val (.int v), .val (.int len), .val (.ref b), .val (.int (0 : Int32)), .val (.int (0 : Int32)), .val (.int (0 : Int32)), .val (.int (0 : Int32))] [])) target → Steps p.tables e below (T20.setTop (mkF m 200 #[.val (.int p0), .val (.int p1), .val (.int p2), .val (.long q3), .second, .val (.int kind), .val (.int r), .val (.int at_), .val (.int v), .val (.int len), .val (.ref b), .unset, .unset, .unset, .unset] [])) target := by
    intro target kt
    show Steps p.tables e below (T20.setTop (mkF m 200 #[.val (.int p0), .val (.int p1), .val (.int p2), .val (.long q3), .second, .val (.int kind), .val (.int r), .val (.int at_), .val (.int v), .val (.int len), .val (.ref b), .unset, .unset, .unset, .unset] [])) _
    refine XS.iconst X20.here hx rfl (hb hby at_200) ?_
    show Steps p.tables e below (T20.setTop (mkF m 201 #[.val (.int p0), .val (.int p1), .val (.int p2), .val (.long q3), .second, .val (.int kind), .val (.int r), .val (.int at_), .val (.int v), .val (.int len), .val (.ref b), .unset, .unset, .unset, .unset] [(.int (0 : Int32))])) _
    refine XS.istore X20.here hx rfl (hb hby at_201) rfl (l' := #[.val (.int p0), .val (.int p1), .val (.int p2), .val (.long q3), .second, .val (.int kind), .val (.int r), .val (.int at_), .val (.int v), .val (.int len), .val (.ref b), .val (.int (0 : Int32)), .unset, .unset, .unset]) rfl ?_
    show Steps p.tables e below (T20.setTop (mkF m 203 #[.val (.int p0), .val (.int p1), .val (.int p2), .val (.long q3), .second, .val (.int kind), .val (.int r), .val (.int at_), .val (.int v), .val (.int len), .val (.ref b), .val (.int (0 : Int32)), .unset, .unset, .unset] [])) _
    refine XS.iconst X20.here hx rfl (hb hby at_203) ?_
    show Steps p.tables e below (T20.setTop (mkF m 204 #[.val (.int p0), .val (.int p1), .val (.int p2), .val (.long q3), .second, .val (.int kind), .val (.int r), .val (.int at_), .val (.int v), .val (.int len), .val (.ref b), .val (.int (0 : Int32)), .unset, .unset, .unset] [(.int (0 : Int32))])) _
    refine XS.istore X20.here hx rfl (hb hby at_204) rfl (l' := #[.val (.int p0), .val (.int p1), .val (.int p2), .val (.long q3), .second, .val (.int kind), .val (.int r), .val (.int at_), .val (.int v), .val (.int len), .val (.ref b), .val (.int (0 : Int32)), .val (.int (0 : Int32)), .unset, .unset]) rfl ?_
    show Steps p.tables e below (T20.setTop (mkF m 206 #[.val (.int p0), .val (.int p1), .val (.int p2), .val (.long q3), .second, .val (.int kind), .val (.int r), .val (.int at_), .val (.int v), .val (.int len), .val (.ref b), .val (.int (0 : Int32)), .val (.int (0 : Int32)), .unset, .unset] [])) _
    refine XS.iconst X20.here hx rfl (hb hby at_206) ?_
    show Steps p.tables e below (T20.setTop (mkF m 207 #[.val (.int p0), .val (.int p1), .val (.int p2), .val (.long q3), .second, .val (.int kind), .val (.int r), .val (.int at_), .val (.int v), .val (.int len), .val (.ref b), .val (.int (0 : Int32)), .val (.int (0 : Int32)), .unset, .unset] [(.int (0 : Int32))])) _
    refine XS.istore X20.here hx rfl (hb hby at_207) rfl (l' := #[.val (.int p0), .val (.int p1), .val (.int p2), .val (.long q3), .second, .val (.int kind), .val (.int r), .val (.int at_), .val (.int v), .val (.int len), .val (.ref b), .val (.int (0 : Int32)), .val (.int (0 : Int32)), .val (.int (0 : Int32)), .unset]) rfl ?_
    show Steps p.tables e below (T20.setTop (mkF m 209 #[.val (.int p0), .val (.int p1), .val (.int p2), .val (.long q3), .second, .val (.int kind), .val (.int r), .val (.int at_), .val (.int v), .val (.int len), .val (.ref b), .val (.int (0 : Int32)), .val (.int (0 : Int32)), .val (.int (0 : Int32)), .unset] [])) _
    refine XS.iconst X20.here hx rfl (hb hby at_209) ?_
    show Steps p.tables e below (T20.setTop (mkF m 210 #[.val (.int p0), .val (.int p1), .val (.int p2), .val (.long q3), .second, .val (.int kind), .val (.int r), .val (.int at_), .val (.int v), .val (.int len), .val (.ref b), .val (.int (0 : Int32)), .val (.int (0 : Int32)), .val (.int (0 : Int32)), .unset] [(.int (0 : Int32))])) _
    refine XS.istore X20.here hx rfl (hb hby at_210) rfl (l' := #[.val (.int p0), .val (.int p1), .val (.int p2), .val (.long q3), .second, .val (.int kind), .val (.int r), .val (.int at_), .val (.int v), .val (.int len), .val (.ref b), .val (.int (0 : Int32)), .val (.int (0 : Int32)), .val (.int (0 : Int32)), .val (.int (0 : Int32))]) rfl ?_
    exact kt
  obtain ⟨cl0, Ar0, qc0, Sz0, Mn0, Hs0, Gs0⟩ := id V_b_20
  have hp0 : 0 ≤ at_.toInt ∧ at_.toInt < 8 ∧ at_.toInt = at_.toInt + 0 := by
    omega
  have hp1 : 0 ≤ (at_ + (1 : Int32)).toInt ∧ (at_ + (1 : Int32)).toInt < 8 ∧ (at_ + (1 : Int32)).toInt = at_.toInt + 1 := by
    have e := own_at ha (1 : Int32) (by decide)
    rw [show (1 : Int32).toInt = 1 from rfl] at e
    omega
  have hp2 : 0 ≤ (at_ + (2 : Int32)).toInt ∧ (at_ + (2 : Int32)).toInt < 8 ∧ (at_ + (2 : Int32)).toInt = at_.toInt + 2 := by
    have e := own_at ha (2 : Int32) (by decide)
    rw [show (2 : Int32).toInt = 2 from rfl] at e
    omega
  have hp3 : 0 ≤ (at_ + (3 : Int32)).toInt ∧ (at_ + (3 : Int32)).toInt < 8 ∧ (at_ + (3 : Int32)).toInt = at_.toInt + 3 := by
    have e := own_at ha (3 : Int32) (by decide)
    rw [show (3 : Int32).toInt = 3 from rfl] at e
    omega
  rcases hcase with ⟨rfl, v0, v1⟩ | ⟨rfl, v0, v1⟩ | ⟨rfl, v0, v1⟩ | ⟨rfl, v0, v1⟩
  · have st22 : ∀ target, Steps p.tables e below (T20.setTop (mkF m 351 #[.val (.int p0), .val (.int p1), .val (.int p2), .val (.long q3), .second, .val (.int kind), .val (.int r), .val (.int at_), .val (.int v), .val (.int (1 : Int32)), .val (.ref b), .val (.int v), .val (.int (0 : Int32)), .val (.int (0 : Int32)), .val (.int (0 : Int32))] [])) target → Steps p.tables e below (T20.setTop (mkF m 212 #[.val (.int p0), .val (.int p1), .val (.int p2), .val (.long q3), .second, .val (.int kind), .val (.int r), .val (.int at_), .val (.int v), .val (.int (1 : Int32)), .val (.ref b), .val (.int (0 : Int32)), .val (.int (0 : Int32)), .val (.int (0 : Int32)), .val (.int (0 : Int32))] [])) target := by
      intro target kt
      show Steps p.tables e below (T20.setTop (mkF m 212 #[.val (.int p0), .val (.int p1), .val (.int p2), .val (.long q3), .second, .val (.int kind), .val (.int r), .val (.int at_), .val (.int v), .val (.int (1 : Int32)), .val (.ref b), .val (.int (0 : Int32)), .val (.int (0 : Int32)), .val (.int (0 : Int32)), .val (.int (0 : Int32))] [])) _
      refine XS.iload X20.here hx rfl (hb hby at_212) rfl ?_
      show Steps p.tables e below (T20.setTop (mkF m 214 #[.val (.int p0), .val (.int p1), .val (.int p2), .val (.long q3), .second, .val (.int kind), .val (.int r), .val (.int at_), .val (.int v), .val (.int (1 : Int32)), .val (.ref b), .val (.int (0 : Int32)), .val (.int (0 : Int32)), .val (.int (0 : Int32)), .val (.int (0 : Int32))] [(.int (1 : Int32))])) _
      refine XS.iconst X20.here hx rfl (hb hby at_214) ?_
      show Steps p.tables e below (T20.setTop (mkF m 215 #[.val (.int p0), .val (.int p1), .val (.int p2), .val (.long q3), .second, .val (.int kind), .val (.int r), .val (.int at_), .val (.int v), .val (.int (1 : Int32)), .val (.ref b), .val (.int (0 : Int32)), .val (.int (0 : Int32)), .val (.int (0 : Int32)), .val (.int (0 : Int32))] [(.int (1 : Int32)), (.int (1 : Int32))])) _
      refine XS.icmpNo X20.here hx rfl (hb hby at_215) rfl (teq (rfl : (1 : Int32) = (1 : Int32))).2 ?_
      show Steps p.tables e below (T20.setTop (mkF m 218 #[.val (.int p0), .val (.int p1), .val (.int p2), .val (.long q3), .second, .val (.int kind), .val (.int r), .val (.int at_), .val (.int v), .val (.int (1 : Int32)), .val (.ref b), .val (.int (0 : Int32)), .val (.int (0 : Int32)), .val (.int (0 : Int32)), .val (.int (0 : Int32))] [])) _
      refine XS.iload X20.here hx rfl (hb hby at_218) rfl ?_
      show Steps p.tables e below (T20.setTop (mkF m 220 #[.val (.int p0), .val (.int p1), .val (.int p2), .val (.long q3), .second, .val (.int kind), .val (.int r), .val (.int at_), .val (.int v), .val (.int (1 : Int32)), .val (.ref b), .val (.int (0 : Int32)), .val (.int (0 : Int32)), .val (.int (0 : Int32)), .val (.int (0 : Int32))] [(.int v)])) _
      refine XS.istore X20.here hx rfl (hb hby at_220) rfl (l' := #[.val (.int p0), .val (.int p1), .val (.int p2), .val (.long q3), .second, .val (.int kind), .val (.int r), .val (.int at_), .val (.int v), .val (.int (1 : Int32)), .val (.ref b), .val (.int v), .val (.int (0 : Int32)), .val (.int (0 : Int32)), .val (.int (0 : Int32))]) rfl ?_
      show Steps p.tables e below (T20.setTop (mkF m 222 #[.val (.int p0), .val (.int p1), .val (.int p2), .val (.long q3), .second, .val (.int kind), .val (.int r), .val (.int at_), .val (.int v), .val (.int (1 : Int32)), .val (.ref b), .val (.int v), .val (.int (0 : Int32)), .val (.int (0 : Int32)), .val (.int (0 : Int32))] [])) _
      refine XS.goto X20.here hx rfl (pc0 := 222) (pc' := 351) rfl (hb hby at_222) (by decide) (by decide) ?_
      exact kt
    have st23 : ∀ target, Steps p.tables e below (T20.setTop (mkF m 358 #[.val (.int p0), .val (.int p1), .val (.int p2), .val (.long q3), .second, .val (.int kind), .val (.int r), .val (.int at_), .val (.int v), .val (.int (1 : Int32)), .val (.ref b), .val (.int v), .val (.int (0 : Int32)), .val (.int (0 : Int32)), .val (.int (0 : Int32))] [(.int (v.toInt8.toInt32)), (.int at_), (.ref b)])) target → Steps p.tables e below (T20.setTop (mkF m 351 #[.val (.int p0), .val (.int p1), .val (.int p2), .val (.long q3), .second, .val (.int kind), .val (.int r), .val (.int at_), .val (.int v), .val (.int (1 : Int32)), .val (.ref b), .val (.int v), .val (.int (0 : Int32)), .val (.int (0 : Int32)), .val (.int (0 : Int32))] [])) target := by
      intro target kt
      show Steps p.tables e below (T20.setTop (mkF m 351 #[.val (.int p0), .val (.int p1), .val (.int p2), .val (.long q3), .second, .val (.int kind), .val (.int r), .val (.int at_), .val (.int v), .val (.int (1 : Int32)), .val (.ref b), .val (.int v), .val (.int (0 : Int32)), .val (.int (0 : Int32)), .val (.int (0 : Int32))] [])) _
      refine XS.aload X20.here hx rfl (hb hby at_351) rfl rfl ?_
      show Steps p.tables e below (T20.setTop (mkF m 353 #[.val (.int p0), .val (.int p1), .val (.int p2), .val (.long q3), .second, .val (.int kind), .val (.int r), .val (.int at_), .val (.int v), .val (.int (1 : Int32)), .val (.ref b), .val (.int v), .val (.int (0 : Int32)), .val (.int (0 : Int32)), .val (.int (0 : Int32))] [(.ref b)])) _
      refine XS.iload X20.here hx rfl (hb hby at_353) rfl ?_
      show Steps p.tables e below (T20.setTop (mkF m 355 #[.val (.int p0), .val (.int p1), .val (.int p2), .val (.long q3), .second, .val (.int kind), .val (.int r), .val (.int at_), .val (.int v), .val (.int (1 : Int32)), .val (.ref b), .val (.int v), .val (.int (0 : Int32)), .val (.int (0 : Int32)), .val (.int (0 : Int32))] [(.int at_), (.ref b)])) _
      refine XS.iload X20.here hx rfl (hb hby at_355) rfl ?_
      show Steps p.tables e below (T20.setTop (mkF m 357 #[.val (.int p0), .val (.int p1), .val (.int p2), .val (.long q3), .second, .val (.int kind), .val (.int r), .val (.int at_), .val (.int v), .val (.int (1 : Int32)), .val (.ref b), .val (.int v), .val (.int (0 : Int32)), .val (.int (0 : Int32)), .val (.int (0 : Int32))] [(.int v), (.int at_), (.ref b)])) _
      refine XS.i2b X20.here hx rfl (hb hby at_357) rfl ?_
      exact kt
    obtain ⟨T24, h24, X24, e24, W24, st24⟩ := stB X20 hx hZ e20 Ar0 (j := at_) (own_in Sz0 ⟨hp0.1, hp0.2.1⟩) (g := (mkF m 358 #[.val (.int p0), .val (.int p1), .val (.int p2), .val (.long q3), .second, .val (.int kind), .val (.int r), .val (.int at_), .val (.int v), .val (.int (1 : Int32)), .val (.ref b), .val (.int v), .val (.int (0 : Int32)), .val (.int (0 : Int32)), .val (.int (0 : Int32))] [(.int (v.toInt8.toInt32)), (.int at_), (.ref b)])) rfl rfl (hb hby at_358)
    have Z_24 : n0 ≤ h24.size := Nat.le_trans Z_20 (Keep.of_wr W24).1
    have N24 := Fr.snoc X24 N20 g_b
    obtain ⟨c24, hc24⟩ : ∃ z, z = (cl0.setSlot (at_).toNatClampNeg (.int (nar .byte (v.toInt8.toInt32)))) := ⟨_, rfl⟩
    have Aq24 : Arr Z h24 b c24 .byte := by rw [hc24]; exact Arr.same W24 Ar0
    have Sq24 : c24.slots.size = (8 : Int32).toNatClampNeg := by rw [hc24, sz_set]; exact Sz0
    have a0_24 : c24.slots[(at_).toNatClampNeg]? = some (.int (nar .byte (v.toInt8.toInt32))) := by rw [hc24]; exact get_hit (own_in Sz0 ⟨hp0.1, hp0.2.1⟩) rfl
    have st25 : ∀ target, Steps p.tables e below (T24.setTop (mkF m 413 #[.val (.int p0), .val (.int p1), .val (.int p2), .val (.long q3), .second, .val (.int kind), .val (.int r), .val (.int at_), .val (.int v), .val (.int (1 : Int32)), .val (.ref b), .val (.int v), .val (.int (0 : Int32)), .val (.int (0 : Int32)), .val (.int (0 : Int32))] [(.int (1 : Int32)), (.int at_), (.ref b)])) target → Steps p.tables e below (T24.setTop (mkF m 359 #[.val (.int p0), .val (.int p1), .val (.int p2), .val (.long q3), .second, .val (.int kind), .val (.int r), .val (.int at_), .val (.int v), .val (.int (1 : Int32)), .val (.ref b), .val (.int v), .val (.int (0 : Int32)), .val (.int (0 : Int32)), .val (.int (0 : Int32))] [])) target := by
      intro target kt
      show Steps p.tables e below (T24.setTop (mkF m 359 #[.val (.int p0), .val (.int p1), .val (.int p2), .val (.long q3), .second, .val (.int kind), .val (.int r), .val (.int at_), .val (.int v), .val (.int (1 : Int32)), .val (.ref b), .val (.int v), .val (.int (0 : Int32)), .val (.int (0 : Int32)), .val (.int (0 : Int32))] [])) _
      refine XS.iload X24.here hx rfl (hb hby at_359) rfl ?_
      show Steps p.tables e below (T24.setTop (mkF m 361 #[.val (.int p0), .val (.int p1), .val (.int p2), .val (.long q3), .second, .val (.int kind), .val (.int r), .val (.int at_), .val (.int v), .val (.int (1 : Int32)), .val (.ref b), .val (.int v), .val (.int (0 : Int32)), .val (.int (0 : Int32)), .val (.int (0 : Int32))] [(.int (1 : Int32))])) _
      refine XS.iconst X24.here hx rfl (hb hby at_361) ?_
      show Steps p.tables e below (T24.setTop (mkF m 362 #[.val (.int p0), .val (.int p1), .val (.int p2), .val (.long q3), .second, .val (.int kind), .val (.int r), .val (.int at_), .val (.int v), .val (.int (1 : Int32)), .val (.ref b), .val (.int v), .val (.int (0 : Int32)), .val (.int (0 : Int32)), .val (.int (0 : Int32))] [(.int (2 : Int32)), (.int (1 : Int32))])) _
      refine XS.icmpYes X24.here hx rfl (pc0 := 362) (pc' := 375) rfl (hb hby at_362) rfl (tlt (by decide : ((1 : Int32) < (2 : Int32)))).1 (by decide) (by decide) ?_
      show Steps p.tables e below (T24.setTop (mkF m 375 #[.val (.int p0), .val (.int p1), .val (.int p2), .val (.long q3), .second, .val (.int kind), .val (.int r), .val (.int at_), .val (.int v), .val (.int (1 : Int32)), .val (.ref b), .val (.int v), .val (.int (0 : Int32)), .val (.int (0 : Int32)), .val (.int (0 : Int32))] [])) _
      refine XS.iload X24.here hx rfl (hb hby at_375) rfl ?_
      show Steps p.tables e below (T24.setTop (mkF m 377 #[.val (.int p0), .val (.int p1), .val (.int p2), .val (.long q3), .second, .val (.int kind), .val (.int r), .val (.int at_), .val (.int v), .val (.int (1 : Int32)), .val (.ref b), .val (.int v), .val (.int (0 : Int32)), .val (.int (0 : Int32)), .val (.int (0 : Int32))] [(.int (1 : Int32))])) _
      refine XS.iconst X24.here hx rfl (hb hby at_377) ?_
      show Steps p.tables e below (T24.setTop (mkF m 378 #[.val (.int p0), .val (.int p1), .val (.int p2), .val (.long q3), .second, .val (.int kind), .val (.int r), .val (.int at_), .val (.int v), .val (.int (1 : Int32)), .val (.ref b), .val (.int v), .val (.int (0 : Int32)), .val (.int (0 : Int32)), .val (.int (0 : Int32))] [(.int (3 : Int32)), (.int (1 : Int32))])) _
      refine XS.icmpYes X24.here hx rfl (pc0 := 378) (pc' := 391) rfl (hb hby at_378) rfl (tlt (by decide : ((1 : Int32) < (3 : Int32)))).1 (by decide) (by decide) ?_
      show Steps p.tables e below (T24.setTop (mkF m 391 #[.val (.int p0), .val (.int p1), .val (.int p2), .val (.long q3), .second, .val (.int kind), .val (.int r), .val (.int at_), .val (.int v), .val (.int (1 : Int32)), .val (.ref b), .val (.int v), .val (.int (0 : Int32)), .val (.int (0 : Int32)), .val (.int (0 : Int32))] [])) _
      refine XS.iload X24.here hx rfl (hb hby at_391) rfl ?_
      show Steps p.tables e below (T24.setTop (mkF m 393 #[.val (.int p0), .val (.int p1), .val (.int p2), .val (.long q3), .second, .val (.int kind), .val (.int r), .val (.int at_), .val (.int v), .val (.int (1 : Int32)), .val (.ref b), .val (.int v), .val (.int (0 : Int32)), .val (.int (0 : Int32)), .val (.int (0 : Int32))] [(.int (1 : Int32))])) _
      refine XS.iconst X24.here hx rfl (hb hby at_393) ?_
      show Steps p.tables e below (T24.setTop (mkF m 394 #[.val (.int p0), .val (.int p1), .val (.int p2), .val (.long q3), .second, .val (.int kind), .val (.int r), .val (.int at_), .val (.int v), .val (.int (1 : Int32)), .val (.ref b), .val (.int v), .val (.int (0 : Int32)), .val (.int (0 : Int32)), .val (.int (0 : Int32))] [(.int (4 : Int32)), (.int (1 : Int32))])) _
      refine XS.icmpYes X24.here hx rfl (pc0 := 394) (pc' := 407) rfl (hb hby at_394) rfl (tlt (by decide : ((1 : Int32) < (4 : Int32)))).1 (by decide) (by decide) ?_
      show Steps p.tables e below (T24.setTop (mkF m 407 #[.val (.int p0), .val (.int p1), .val (.int p2), .val (.long q3), .second, .val (.int kind), .val (.int r), .val (.int at_), .val (.int v), .val (.int (1 : Int32)), .val (.ref b), .val (.int v), .val (.int (0 : Int32)), .val (.int (0 : Int32)), .val (.int (0 : Int32))] [])) _
      refine XS.aload X24.here hx rfl (hb hby at_407) rfl rfl ?_
      show Steps p.tables e below (T24.setTop (mkF m 409 #[.val (.int p0), .val (.int p1), .val (.int p2), .val (.long q3), .second, .val (.int kind), .val (.int r), .val (.int at_), .val (.int v), .val (.int (1 : Int32)), .val (.ref b), .val (.int v), .val (.int (0 : Int32)), .val (.int (0 : Int32)), .val (.int (0 : Int32))] [(.ref b)])) _
      refine XS.iload X24.here hx rfl (hb hby at_409) rfl ?_
      show Steps p.tables e below (T24.setTop (mkF m 411 #[.val (.int p0), .val (.int p1), .val (.int p2), .val (.long q3), .second, .val (.int kind), .val (.int r), .val (.int at_), .val (.int v), .val (.int (1 : Int32)), .val (.ref b), .val (.int v), .val (.int (0 : Int32)), .val (.int (0 : Int32)), .val (.int (0 : Int32))] [(.int at_), (.ref b)])) _
      refine XS.iload X24.here hx rfl (hb hby at_411) rfl ?_
      exact kt
    obtain ⟨_, _, ⟨T26, L26, k26, n26⟩, -, X26, ⟨Lc26, hQ26, l26, y26, z26⟩, st26⟩ := Jvm.LawKit.callS X24 hx (y := (⟨"com/example/murray_hill/murrayhill/WellFormed", "codePoint", "([BII)I"⟩ : MethodName)) hown (mvT hZ (hw _ (List.mem_of_getElem? (i := 2) rfl))) (mvT hZ (hw _ (List.mem_of_getElem? (i := 3) rfl))) (mvT hZ (hw _ (List.mem_of_getElem? (i := 4) rfl))) (mvT hZ (hw _ (List.mem_of_getElem? (i := 5) rfl))) (by decide) (backOf (W := 0) (rmCP1 l Z a0 hw [] b at_ c24 ((nar .byte (v.toInt8.toInt32))) h24 n0 Z_24 Aq24 (own_in Sq24 ⟨hp0.1, hp0.2.1⟩) a0_24) hZ (hw _ (List.mem_of_getElem? (i := 5) rfl)) (hw _ (List.mem_of_getElem? (i := 4) rfl)) (by decide) (by decide)) (g := (mkF m 413 #[.val (.int p0), .val (.int p1), .val (.int p2), .val (.long q3), .second, .val (.int kind), .val (.int r), .val (.int at_), .val (.int v), .val (.int (1 : Int32)), .val (.ref b), .val (.int v), .val (.int (0 : Int32)), .val (.int (0 : Int32)), .val (.int (0 : Int32))] [(.int (1 : Int32)), (.int at_), (.ref b)])) rfl (by rw [hml]; rfl) (argsL := [(.ref b), (.int at_), (.int (1 : Int32))]) (rest := []) (lenOf pd_0 rfl) rfl (by show 2 * 0 + _ ≤ _; exact Nat.le_of_eq rfl) (hb hby at_413) (fun _ _ => ⟨rfl, e24, (by decide : 1 + 0 ≤ _), (by decide : 8 + 0 ≤ _)⟩)
    dsimp only [Pt.U, Pt.locs, Pt.cells, Pt.slots] at X26 l26 y26 z26 st26 hQ26
    subst l26 y26 z26
    obtain ⟨rfl, Nq26, e26⟩ := hQ26
    have N26 := Fr.app N24 Nq26
    obtain ⟨fs, hr, hrun, hended, hW, hsame⟩ := X26.leave (v := some (.int (1 : Int32))) (fun h => by rw [Bd.returns] at h; cases h)
    refine ⟨_, _, pre0 _ (st1 _ (st2 _ (st3 _ (st4 _ (st5 _ (st6 _ (st7 _ (st8 _ (st9 _ (st10 _ (st11 _ (st12 _ (st13 _ (st14 _ (st15 _ (st16 _ (st17 _ (st18 _ (st19 _ (st20 _ (st21 _ (st22 _ (st23 _ (st24 _ (st25 _ (st26 _ ?_)))))))))))))))))))))))))), hrun, hended, _, _, rfl, ?_, ⟨_, rfl⟩, hW, hsame.mono (by decide) (by decide)⟩
    · show Steps p.tables e below (T26.setTop (mkF m 416 #[.val (.int p0), .val (.int p1), .val (.int p2), .val (.long q3), .second, .val (.int kind), .val (.int r), .val (.int at_), .val (.int v), .val (.int (1 : Int32)), .val (.ref b), .val (.int v), .val (.int (0 : Int32)), .val (.int (0 : Int32)), .val (.int (0 : Int32))] [(.int (own_cp1 (nar .byte (v.toInt8.toInt32))))])) _
      refine XS.iload X26.here hx rfl (hb hby at_416) rfl ?_
      show Steps p.tables e below (T26.setTop (mkF m 418 #[.val (.int p0), .val (.int p1), .val (.int p2), .val (.long q3), .second, .val (.int kind), .val (.int r), .val (.int at_), .val (.int v), .val (.int (1 : Int32)), .val (.ref b), .val (.int v), .val (.int (0 : Int32)), .val (.int (0 : Int32)), .val (.int (0 : Int32))] [(.int v), (.int (own_cp1 (nar .byte (v.toInt8.toInt32))))])) _
      refine XS.icmpNo X26.here hx rfl (hb hby at_418) rfl (teq (own_v1 v0 v1)).2 ?_
      show Steps p.tables e below (T26.setTop (mkF m 421 #[.val (.int p0), .val (.int p1), .val (.int p2), .val (.long q3), .second, .val (.int kind), .val (.int r), .val (.int at_), .val (.int v), .val (.int (1 : Int32)), .val (.ref b), .val (.int v), .val (.int (0 : Int32)), .val (.int (0 : Int32)), .val (.int (0 : Int32))] [])) _
      refine XS.iconst X26.here hx rfl (hb hby at_421) ?_
      show Steps p.tables e below (T26.setTop (mkF m 422 #[.val (.int p0), .val (.int p1), .val (.int p2), .val (.long q3), .second, .val (.int kind), .val (.int r), .val (.int at_), .val (.int v), .val (.int (1 : Int32)), .val (.ref b), .val (.int v), .val (.int (0 : Int32)), .val (.int (0 : Int32)), .val (.int (0 : Int32))] [(.int (1 : Int32))])) _
      refine XS.goto X26.here hx rfl (pc0 := 422) (pc' := 426) rfl (hb hby at_422) (by decide) (by decide) ?_
      show Steps p.tables e below (T26.setTop (mkF m 426 #[.val (.int p0), .val (.int p1), .val (.int p2), .val (.long q3), .second, .val (.int kind), .val (.int r), .val (.int at_), .val (.int v), .val (.int (1 : Int32)), .val (.ref b), .val (.int v), .val (.int (0 : Int32)), .val (.int (0 : Int32)), .val (.int (0 : Int32))] [(.int (1 : Int32))])) _
      exact retN X26 hx (t := .boolean) Bd.returns (by simp) (hb hby at_426) hr
    · show Q_rm0 Z p0 p1 p2 q3 h0 n0 _ T26.heap _
      rw [e26]
      exact ⟨rfl, N26⟩
  · have st27 : ∀ target, Steps p.tables e below (T20.setTop (mkF m 351 #[.val (.int p0), .val (.int p1), .val (.int p2), .val (.long q3), .second, .val (.int kind), .val (.int r), .val (.int at_), .val (.int v), .val (.int (2 : Int32)), .val (.ref b), .val (.int ((192 : Int32) ||| (v >>> ((6 : Int32) &&& 31)))), .val (.int ((128 : Int32) ||| (v &&& (63 : Int32)))), .val (.int (0 : Int32)), .val (.int (0 : Int32))] [])) target → Steps p.tables e below (T20.setTop (mkF m 212 #[.val (.int p0), .val (.int p1), .val (.int p2), .val (.long q3), .second, .val (.int kind), .val (.int r), .val (.int at_), .val (.int v), .val (.int (2 : Int32)), .val (.ref b), .val (.int (0 : Int32)), .val (.int (0 : Int32)), .val (.int (0 : Int32)), .val (.int (0 : Int32))] [])) target := by
      intro target kt
      show Steps p.tables e below (T20.setTop (mkF m 212 #[.val (.int p0), .val (.int p1), .val (.int p2), .val (.long q3), .second, .val (.int kind), .val (.int r), .val (.int at_), .val (.int v), .val (.int (2 : Int32)), .val (.ref b), .val (.int (0 : Int32)), .val (.int (0 : Int32)), .val (.int (0 : Int32)), .val (.int (0 : Int32))] [])) _
      refine XS.iload X20.here hx rfl (hb hby at_212) rfl ?_
      show Steps p.tables e below (T20.setTop (mkF m 214 #[.val (.int p0), .val (.int p1), .val (.int p2), .val (.long q3), .second, .val (.int kind), .val (.int r), .val (.int at_), .val (.int v), .val (.int (2 : Int32)), .val (.ref b), .val (.int (0 : Int32)), .val (.int (0 : Int32)), .val (.int (0 : Int32)), .val (.int (0 : Int32))] [(.int (2 : Int32))])) _
      refine XS.iconst X20.here hx rfl (hb hby at_214) ?_
      show Steps p.tables e below (T20.setTop (mkF m 215 #[.val (.int p0), .val (.int p1), .val (.int p2), .val (.long q3), .second, .val (.int kind), .val (.int r), .val (.int at_), .val (.int v), .val (.int (2 : Int32)), .val (.ref b), .val (.int (0 : Int32)), .val (.int (0 : Int32)), .val (.int (0 : Int32)), .val (.int (0 : Int32))] [(.int (1 : Int32)), (.int (2 : Int32))])) _
      refine XS.icmpYes X20.here hx rfl (pc0 := 215) (pc' := 225) rfl (hb hby at_215) rfl (feq (by decide : ¬ ((2 : Int32) = (1 : Int32)))).2 (by decide) (by decide) ?_
      show Steps p.tables e below (T20.setTop (mkF m 225 #[.val (.int p0), .val (.int p1), .val (.int p2), .val (.long q3), .second, .val (.int kind), .val (.int r), .val (.int at_), .val (.int v), .val (.int (2 : Int32)), .val (.ref b), .val (.int (0 : Int32)), .val (.int (0 : Int32)), .val (.int (0 : Int32)), .val (.int (0 : Int32))] [])) _
      refine XS.iload X20.here hx rfl (hb hby at_225) rfl ?_
      show Steps p.tables e below (T20.setTop (mkF m 227 #[.val (.int p0), .val (.int p1), .val (.int p2), .val (.long q3), .second, .val (.int kind), .val (.int r), .val (.int at_), .val (.int v), .val (.int (2 : Int32)), .val (.ref b), .val (.int (0 : Int32)), .val (.int (0 : Int32)), .val (.int (0 : Int32)), .val (.int (0 : Int32))] [(.int (2 : Int32))])) _
      refine XS.iconst X20.here hx rfl (hb hby at_227) ?_
      show Steps p.tables e below (T20.setTop (mkF m 228 #[.val (.int p0), .val (.int p1), .val (.int p2), .val (.long q3), .second, .val (.int kind), .val (.int r), .val (.int at_), .val (.int v), .val (.int (2 : Int32)), .val (.ref b), .val (.int (0 : Int32)), .val (.int (0 : Int32)), .val (.int (0 : Int32)), .val (.int (0 : Int32))] [(.int (2 : Int32)), (.int (2 : Int32))])) _
      refine XS.icmpNo X20.here hx rfl (hb hby at_228) rfl (teq (rfl : (2 : Int32) = (2 : Int32))).2 ?_
      show Steps p.tables e below (T20.setTop (mkF m 231 #[.val (.int p0), .val (.int p1), .val (.int p2), .val (.long q3), .second, .val (.int kind), .val (.int r), .val (.int at_), .val (.int v), .val (.int (2 : Int32)), .val (.ref b), .val (.int (0 : Int32)), .val (.int (0 : Int32)), .val (.int (0 : Int32)), .val (.int (0 : Int32))] [])) _
      refine XS.sipush X20.here hx rfl (hb hby at_231) ?_
      show Steps p.tables e below (T20.setTop (mkF m 234 #[.val (.int p0), .val (.int p1), .val (.int p2), .val (.long q3), .second, .val (.int kind), .val (.int r), .val (.int at_), .val (.int v), .val (.int (2 : Int32)), .val (.ref b), .val (.int (0 : Int32)), .val (.int (0 : Int32)), .val (.int (0 : Int32)), .val (.int (0 : Int32))] [(.int (192 : Int32))])) _
      refine XS.iload X20.here hx rfl (hb hby at_234) rfl ?_
      show Steps p.tables e below (T20.setTop (mkF m 236 #[.val (.int p0), .val (.int p1), .val (.int p2), .val (.long q3), .second, .val (.int kind), .val (.int r), .val (.int at_), .val (.int v), .val (.int (2 : Int32)), .val (.ref b), .val (.int (0 : Int32)), .val (.int (0 : Int32)), .val (.int (0 : Int32)), .val (.int (0 : Int32))] [(.int v), (.int (192 : Int32))])) _
      refine XS.bipush X20.here hx rfl (hb hby at_236) ?_
      show Steps p.tables e below (T20.setTop (mkF m 238 #[.val (.int p0), .val (.int p1), .val (.int p2), .val (.long q3), .second, .val (.int kind), .val (.int r), .val (.int at_), .val (.int v), .val (.int (2 : Int32)), .val (.ref b), .val (.int (0 : Int32)), .val (.int (0 : Int32)), .val (.int (0 : Int32)), .val (.int (0 : Int32))] [(.int (6 : Int32)), (.int v), (.int (192 : Int32))])) _
      refine XS.ishr X20.here hx rfl (hb hby at_238) rfl ?_
      show Steps p.tables e below (T20.setTop (mkF m 239 #[.val (.int p0), .val (.int p1), .val (.int p2), .val (.long q3), .second, .val (.int kind), .val (.int r), .val (.int at_), .val (.int v), .val (.int (2 : Int32)), .val (.ref b), .val (.int (0 : Int32)), .val (.int (0 : Int32)), .val (.int (0 : Int32)), .val (.int (0 : Int32))] [(.int (v >>> ((6 : Int32) &&& 31))), (.int (192 : Int32))])) _
      refine XS.ior X20.here hx rfl (hb hby at_239) rfl ?_
      show Steps p.tables e below (T20.setTop (mkF m 240 #[.val (.int p0), .val (.int p1), .val (.int p2), .val (.long q3), .second, .val (.int kind), .val (.int r), .val (.int at_), .val (.int v), .val (.int (2 : Int32)), .val (.ref b), .val (.int (0 : Int32)), .val (.int (0 : Int32)), .val (.int (0 : Int32)), .val (.int (0 : Int32))] [(.int ((192 : Int32) ||| (v >>> ((6 : Int32) &&& 31))))])) _
      refine XS.istore X20.here hx rfl (hb hby at_240) rfl (l' := #[.val (.int p0), .val (.int p1), .val (.int p2), .val (.long q3), .second, .val (.int kind), .val (.int r), .val (.int at_), .val (.int v), .val (.int (2 : Int32)), .val (.ref b), .val (.int ((192 : Int32) ||| (v >>> ((6 : Int32) &&& 31)))), .val (.int (0 : Int32)), .val (.int (0 : Int32)), .val (.int (0 : Int32))]) rfl ?_
      show Steps p.tables e below (T20.setTop (mkF m 242 #[.val (.int p0), .val (.int p1), .val (.int p2), .val (.long q3), .second, .val (.int kind), .val (.int r), .val (.int at_), .val (.int v), .val (.int (2 : Int32)), .val (.ref b), .val (.int ((192 : Int32) ||| (v >>> ((6 : Int32) &&& 31)))), .val (.int (0 : Int32)), .val (.int (0 : Int32)), .val (.int (0 : Int32))] [])) _
      refine XS.sipush X20.here hx rfl (hb hby at_242) ?_
      show Steps p.tables e below (T20.setTop (mkF m 245 #[.val (.int p0), .val (.int p1), .val (.int p2), .val (.long q3), .second, .val (.int kind), .val (.int r), .val (.int at_), .val (.int v), .val (.int (2 : Int32)), .val (.ref b), .val (.int ((192 : Int32) ||| (v >>> ((6 : Int32) &&& 31)))), .val (.int (0 : Int32)), .val (.int (0 : Int32)), .val (.int (0 : Int32))] [(.int (128 : Int32))])) _
      refine XS.iload X20.here hx rfl (hb hby at_245) rfl ?_
      show Steps p.tables e below (T20.setTop (mkF m 247 #[.val (.int p0), .val (.int p1), .val (.int p2), .val (.long q3), .second, .val (.int kind), .val (.int r), .val (.int at_), .val (.int v), .val (.int (2 : Int32)), .val (.ref b), .val (.int ((192 : Int32) ||| (v >>> ((6 : Int32) &&& 31)))), .val (.int (0 : Int32)), .val (.int (0 : Int32)), .val (.int (0 : Int32))] [(.int v), (.int (128 : Int32))])) _
      refine XS.bipush X20.here hx rfl (hb hby at_247) ?_
      show Steps p.tables e below (T20.setTop (mkF m 249 #[.val (.int p0), .val (.int p1), .val (.int p2), .val (.long q3), .second, .val (.int kind), .val (.int r), .val (.int at_), .val (.int v), .val (.int (2 : Int32)), .val (.ref b), .val (.int ((192 : Int32) ||| (v >>> ((6 : Int32) &&& 31)))), .val (.int (0 : Int32)), .val (.int (0 : Int32)), .val (.int (0 : Int32))] [(.int (63 : Int32)), (.int v), (.int (128 : Int32))])) _
      refine XS.iand X20.here hx rfl (hb hby at_249) rfl ?_
      show Steps p.tables e below (T20.setTop (mkF m 250 #[.val (.int p0), .val (.int p1), .val (.int p2), .val (.long q3), .second, .val (.int kind), .val (.int r), .val (.int at_), .val (.int v), .val (.int (2 : Int32)), .val (.ref b), .val (.int ((192 : Int32) ||| (v >>> ((6 : Int32) &&& 31)))), .val (.int (0 : Int32)), .val (.int (0 : Int32)), .val (.int (0 : Int32))] [(.int (v &&& (63 : Int32))), (.int (128 : Int32))])) _
      refine XS.ior X20.here hx rfl (hb hby at_250) rfl ?_
      show Steps p.tables e below (T20.setTop (mkF m 251 #[.val (.int p0), .val (.int p1), .val (.int p2), .val (.long q3), .second, .val (.int kind), .val (.int r), .val (.int at_), .val (.int v), .val (.int (2 : Int32)), .val (.ref b), .val (.int ((192 : Int32) ||| (v >>> ((6 : Int32) &&& 31)))), .val (.int (0 : Int32)), .val (.int (0 : Int32)), .val (.int (0 : Int32))] [(.int ((128 : Int32) ||| (v &&& (63 : Int32))))])) _
      refine XS.istore X20.here hx rfl (hb hby at_251) rfl (l' := #[.val (.int p0), .val (.int p1), .val (.int p2), .val (.long q3), .second, .val (.int kind), .val (.int r), .val (.int at_), .val (.int v), .val (.int (2 : Int32)), .val (.ref b), .val (.int ((192 : Int32) ||| (v >>> ((6 : Int32) &&& 31)))), .val (.int ((128 : Int32) ||| (v &&& (63 : Int32)))), .val (.int (0 : Int32)), .val (.int (0 : Int32))]) rfl ?_
      show Steps p.tables e below (T20.setTop (mkF m 253 #[.val (.int p0), .val (.int p1), .val (.int p2), .val (.long q3), .second, .val (.int kind), .val (.int r), .val (.int at_), .val (.int v), .val (.int (2 : Int32)), .val (.ref b), .val (.int ((192 : Int32) ||| (v >>> ((6 : Int32) &&& 31)))), .val (.int ((128 : Int32) ||| (v &&& (63 : Int32)))), .val (.int (0 : Int32)), .val (.int (0 : Int32))] [])) _
      refine XS.goto X20.here hx rfl (pc0 := 253) (pc' := 351) rfl (hb hby at_253) (by decide) (by decide) ?_
      exact kt
    have st28 : ∀ target, Steps p.tables e below (T20.setTop (mkF m 358 #[.val (.int p0), .val (.int p1), .val (.int p2), .val (.long q3), .second, .val (.int kind), .val (.int r), .val (.int at_), .val (.int v), .val (.int (2 : Int32)), .val (.ref b), .val (.int ((192 : Int32) ||| (v >>> ((6 : Int32) &&& 31)))), .val (.int ((128 : Int32) ||| (v &&& (63 : Int32)))), .val (.int (0 : Int32)), .val (.int (0 : Int32))] [(.int (((192 : Int32) ||| (v >>> ((6 : Int32) &&& 31))).toInt8.toInt32)), (.int at_), (.ref b)])) target → Steps p.tables e below (T20.setTop (mkF m 351 #[.val (.int p0), .val (.int p1), .val (.int p2), .val (.long q3), .second, .val (.int kind), .val (.int r), .val (.int at_), .val (.int v), .val (.int (2 : Int32)), .val (.ref b), .val (.int ((192 : Int32) ||| (v >>> ((6 : Int32) &&& 31)))), .val (.int ((128 : Int32) ||| (v &&& (63 : Int32)))), .val (.int (0 : Int32)), .val (.int (0 : Int32))] [])) target := by
      intro target kt
      show Steps p.tables e below (T20.setTop (mkF m 351 #[.val (.int p0), .val (.int p1), .val (.int p2), .val (.long q3), .second, .val (.int kind), .val (.int r), .val (.int at_), .val (.int v), .val (.int (2 : Int32)), .val (.ref b), .val (.int ((192 : Int32) ||| (v >>> ((6 : Int32) &&& 31)))), .val (.int ((128 : Int32) ||| (v &&& (63 : Int32)))), .val (.int (0 : Int32)), .val (.int (0 : Int32))] [])) _
      refine XS.aload X20.here hx rfl (hb hby at_351) rfl rfl ?_
      show Steps p.tables e below (T20.setTop (mkF m 353 #[.val (.int p0), .val (.int p1), .val (.int p2), .val (.long q3), .second, .val (.int kind), .val (.int r), .val (.int at_), .val (.int v), .val (.int (2 : Int32)), .val (.ref b), .val (.int ((192 : Int32) ||| (v >>> ((6 : Int32) &&& 31)))), .val (.int ((128 : Int32) ||| (v &&& (63 : Int32)))), .val (.int (0 : Int32)), .val (.int (0 : Int32))] [(.ref b)])) _
      refine XS.iload X20.here hx rfl (hb hby at_353) rfl ?_
      show Steps p.tables e below (T20.setTop (mkF m 355 #[.val (.int p0), .val (.int p1), .val (.int p2), .val (.long q3), .second, .val (.int kind), .val (.int r), .val (.int at_), .val (.int v), .val (.int (2 : Int32)), .val (.ref b), .val (.int ((192 : Int32) ||| (v >>> ((6 : Int32) &&& 31)))), .val (.int ((128 : Int32) ||| (v &&& (63 : Int32)))), .val (.int (0 : Int32)), .val (.int (0 : Int32))] [(.int at_), (.ref b)])) _
      refine XS.iload X20.here hx rfl (hb hby at_355) rfl ?_
      show Steps p.tables e below (T20.setTop (mkF m 357 #[.val (.int p0), .val (.int p1), .val (.int p2), .val (.long q3), .second, .val (.int kind), .val (.int r), .val (.int at_), .val (.int v), .val (.int (2 : Int32)), .val (.ref b), .val (.int ((192 : Int32) ||| (v >>> ((6 : Int32) &&& 31)))), .val (.int ((128 : Int32) ||| (v &&& (63 : Int32)))), .val (.int (0 : Int32)), .val (.int (0 : Int32))] [(.int ((192 : Int32) ||| (v >>> ((6 : Int32) &&& 31)))), (.int at_), (.ref b)])) _
      refine XS.i2b X20.here hx rfl (hb hby at_357) rfl ?_
      exact kt
    obtain ⟨T29, h29, X29, e29, W29, st29⟩ := stB X20 hx hZ e20 Ar0 (j := at_) (own_in Sz0 ⟨hp0.1, hp0.2.1⟩) (g := (mkF m 358 #[.val (.int p0), .val (.int p1), .val (.int p2), .val (.long q3), .second, .val (.int kind), .val (.int r), .val (.int at_), .val (.int v), .val (.int (2 : Int32)), .val (.ref b), .val (.int ((192 : Int32) ||| (v >>> ((6 : Int32) &&& 31)))), .val (.int ((128 : Int32) ||| (v &&& (63 : Int32)))), .val (.int (0 : Int32)), .val (.int (0 : Int32))] [(.int (((192 : Int32) ||| (v >>> ((6 : Int32) &&& 31))).toInt8.toInt32)), (.int at_), (.ref b)])) rfl rfl (hb hby at_358)
    have Z_29 : n0 ≤ h29.size := Nat.le_trans Z_20 (Keep.of_wr W29).1
    have N29 := Fr.snoc X29 N20 g_b
    obtain ⟨c29, hc29⟩ : ∃ z, z = (cl0.setSlot (at_).toNatClampNeg (.int (nar .byte (((192 : Int32) ||| (v >>> ((6 : Int32) &&& 31))).toInt8.toInt32)))) := ⟨_, rfl⟩
    have Aq29 : Arr Z h29 b c29 .byte := by rw [hc29]; exact Arr.same W29 Ar0
    have Sq29 : c29.slots.size = (8 : Int32).toNatClampNeg := by rw [hc29, sz_set]; exact Sz0
    have a0_29 : c29.slots[(at_).toNatClampNeg]? = some (.int (nar .byte (((192 : Int32) ||| (v >>> ((6 : Int32) &&& 31))).toInt8.toInt32))) := by rw [hc29]; exact get_hit (own_in Sz0 ⟨hp0.1, hp0.2.1⟩) rfl
    have st30 : ∀ target, Steps p.tables e below (T29.setTop (mkF m 374 #[.val (.int p0), .val (.int p1), .val (.int p2), .val (.long q3), .second, .val (.int kind), .val (.int r), .val (.int at_), .val (.int v), .val (.int (2 : Int32)), .val (.ref b), .val (.int ((192 : Int32) ||| (v >>> ((6 : Int32) &&& 31)))), .val (.int ((128 : Int32) ||| (v &&& (63 : Int32)))), .val (.int (0 : Int32)), .val (.int (0 : Int32))] [(.int (((128 : Int32) ||| (v &&& (63 : Int32))).toInt8.toInt32)), (.int (at_ + (1 : Int32))), (.ref b)])) target → Steps p.tables e below (T29.setTop (mkF m 359 #[.val (.int p0), .val (.int p1), .val (.int p2), .val (.long q3), .second, .val (.int kind), .val (.int r), .val (.int at_), .val (.int v), .val (.int (2 : Int32)), .val (.ref b), .val (.int ((192 : Int32) ||| (v >>> ((6 : Int32) &&& 31)))), .val (.int ((128 : Int32) ||| (v &&& (63 : Int32)))), .val (.int (0 : Int32)), .val (.int (0 : Int32))] [])) target := by
      intro target kt
      show Steps p.tables e below (T29.setTop (mkF m 359 #[.val (.int p0), .val (.int p1), .val (.int p2), .val (.long q3), .second, .val (.int kind), .val (.int r), .val (.int at_), .val (.int v), .val (.int (2 : Int32)), .val (.ref b), .val (.int ((192 : Int32) ||| (v >>> ((6 : Int32) &&& 31)))), .val (.int ((128 : Int32) ||| (v &&& (63 : Int32)))), .val (.int (0 : Int32)), .val (.int (0 : Int32))] [])) _
      refine XS.iload X29.here hx rfl (hb hby at_359) rfl ?_
      show Steps p.tables e below (T29.setTop (mkF m 361 #[.val (.int p0), .val (.int p1), .val (.int p2), .val (.long q3), .second, .val (.int kind), .val (.int r), .val (.int at_), .val (.int v), .val (.int (2 : Int32)), .val (.ref b), .val (.int ((192 : Int32) ||| (v >>> ((6 : Int32) &&& 31)))), .val (.int ((128 : Int32) ||| (v &&& (63 : Int32)))), .val (.int (0 : Int32)), .val (.int (0 : Int32))] [(.int (2 : Int32))])) _
      refine XS.iconst X29.here hx rfl (hb hby at_361) ?_
      show Steps p.tables e below (T29.setTop (mkF m 362 #[.val (.int p0), .val (.int p1), .val (.int p2), .val (.long q3), .second, .val (.int kind), .val (.int r), .val (.int at_), .val (.int v), .val (.int (2 : Int32)), .val (.ref b), .val (.int ((192 : Int32) ||| (v >>> ((6 : Int32) &&& 31)))), .val (.int ((128 : Int32) ||| (v &&& (63 : Int32)))), .val (.int (0 : Int32)), .val (.int (0 : Int32))] [(.int (2 : Int32)), (.int (2 : Int32))])) _
      refine XS.icmpNo X29.here hx rfl (hb hby at_362) rfl (flt (by decide : ¬ ((2 : Int32) < (2 : Int32)))).1 ?_
      show Steps p.tables e below (T29.setTop (mkF m 365 #[.val (.int p0), .val (.int p1), .val (.int p2), .val (.long q3), .second, .val (.int kind), .val (.int r), .val (.int at_), .val (.int v), .val (.int (2 : Int32)), .val (.ref b), .val (.int ((192 : Int32) ||| (v >>> ((6 : Int32) &&& 31)))), .val (.int ((128 : Int32) ||| (v &&& (63 : Int32)))), .val (.int (0 : Int32)), .val (.int (0 : Int32))] [])) _
      refine XS.aload X29.here hx rfl (hb hby at_365) rfl rfl ?_
      show Steps p.tables e below (T29.setTop (mkF m 367 #[.val (.int p0), .val (.int p1), .val (.int p2), .val (.long q3), .second, .val (.int kind), .val (.int r), .val (.int at_), .val (.int v), .val (.int (2 : Int32)), .val (.ref b), .val (.int ((192 : Int32) ||| (v >>> ((6 : Int32) &&& 31)))), .val (.int ((128 : Int32) ||| (v &&& (63 : Int32)))), .val (.int (0 : Int32)), .val (.int (0 : Int32))] [(.ref b)])) _
      refine XS.iload X29.here hx rfl (hb hby at_367) rfl ?_
      show Steps p.tables e below (T29.setTop (mkF m 369 #[.val (.int p0), .val (.int p1), .val (.int p2), .val (.long q3), .second, .val (.int kind), .val (.int r), .val (.int at_), .val (.int v), .val (.int (2 : Int32)), .val (.ref b), .val (.int ((192 : Int32) ||| (v >>> ((6 : Int32) &&& 31)))), .val (.int ((128 : Int32) ||| (v &&& (63 : Int32)))), .val (.int (0 : Int32)), .val (.int (0 : Int32))] [(.int at_), (.ref b)])) _
      refine XS.iconst X29.here hx rfl (hb hby at_369) ?_
      show Steps p.tables e below (T29.setTop (mkF m 370 #[.val (.int p0), .val (.int p1), .val (.int p2), .val (.long q3), .second, .val (.int kind), .val (.int r), .val (.int at_), .val (.int v), .val (.int (2 : Int32)), .val (.ref b), .val (.int ((192 : Int32) ||| (v >>> ((6 : Int32) &&& 31)))), .val (.int ((128 : Int32) ||| (v &&& (63 : Int32)))), .val (.int (0 : Int32)), .val (.int (0 : Int32))] [(.int (1 : Int32)), (.int at_), (.ref b)])) _
      refine XS.iadd X29.here hx rfl (hb hby at_370) rfl ?_
      show Steps p.tables e below (T29.setTop (mkF m 371 #[.val (.int p0), .val (.int p1), .val (.int p2), .val (.long q3), .second, .val (.int kind), .val (.int r), .val (.int at_), .val (.int v), .val (.int (2 : Int32)), .val (.ref b), .val (.int ((192 : Int32) ||| (v >>> ((6 : Int32) &&& 31)))), .val (.int ((128 : Int32) ||| (v &&& (63 : Int32)))), .val (.int (0 : Int32)), .val (.int (0 : Int32))] [(.int (at_ + (1 : Int32))), (.ref b)])) _
      refine XS.iload X29.here hx rfl (hb hby at_371) rfl ?_
      show Steps p.tables e below (T29.setTop (mkF m 373 #[.val (.int p0), .val (.int p1), .val (.int p2), .val (.long q3), .second, .val (.int kind), .val (.int r), .val (.int at_), .val (.int v), .val (.int (2 : Int32)), .val (.ref b), .val (.int ((192 : Int32) ||| (v >>> ((6 : Int32) &&& 31)))), .val (.int ((128 : Int32) ||| (v &&& (63 : Int32)))), .val (.int (0 : Int32)), .val (.int (0 : Int32))] [(.int ((128 : Int32) ||| (v &&& (63 : Int32)))), (.int (at_ + (1 : Int32))), (.ref b)])) _
      refine XS.i2b X29.here hx rfl (hb hby at_373) rfl ?_
      exact kt
    obtain ⟨T31, h31, X31, e31, W31, st31⟩ := stB X29 hx hZ e29 Aq29 (j := (at_ + (1 : Int32))) (own_in Sq29 ⟨hp1.1, hp1.2.1⟩) (g := (mkF m 374 #[.val (.int p0), .val (.int p1), .val (.int p2), .val (.long q3), .second, .val (.int kind), .val (.int r), .val (.int at_), .val (.int v), .val (.int (2 : Int32)), .val (.ref b), .val (.int ((192 : Int32) ||| (v >>> ((6 : Int32) &&& 31)))), .val (.int ((128 : Int32) ||| (v &&& (63 : Int32)))), .val (.int (0 : Int32)), .val (.int (0 : Int32))] [(.int (((128 : Int32) ||| (v &&& (63 : Int32))).toInt8.toInt32)), (.int (at_ + (1 : Int32))), (.ref b)])) rfl rfl (hb hby at_374)
    have Z_31 : n0 ≤ h31.size := Nat.le_trans Z_29 (Keep.of_wr W31).1
    have N31 := Fr.snoc X31 N29 g_b
    obtain ⟨c31, hc31⟩ : ∃ z, z = (c29.setSlot ((at_ + (1 : Int32))).toNatClampNeg (.int (nar .byte (((128 : Int32) ||| (v &&& (63 : Int32))).toInt8.toInt32)))) := ⟨_, rfl⟩
    have Aq31 : Arr Z h31 b c31 .byte := by rw [hc31]; exact Arr.same W31 Aq29
    have Sq31 : c31.slots.size = (8 : Int32).toNatClampNeg := by rw [hc31, sz_set]; exact Sq29
    have a0_31 : c31.slots[(at_).toNatClampNeg]? = some (.int (nar .byte (((192 : Int32) ||| (v >>> ((6 : Int32) &&& 31))).toInt8.toInt32))) := by rw [hc31]; exact (get_miss (own_nn hp1.1) (own_nn hp0.1) (own_ne (by omega))).trans a0_29
    have a1_31 : c31.slots[((at_ + (1 : Int32))).toNatClampNeg]? = some (.int (nar .byte (((128 : Int32) ||| (v &&& (63 : Int32))).toInt8.toInt32))) := by rw [hc31]; exact get_hit (own_in Sq29 ⟨hp1.1, hp1.2.1⟩) rfl
    have st32 : ∀ target, Steps p.tables e below (T31.setTop (mkF m 413 #[.val (.int p0), .val (.int p1), .val (.int p2), .val (.long q3), .second, .val (.int kind), .val (.int r), .val (.int at_), .val (.int v), .val (.int (2 : Int32)), .val (.ref b), .val (.int ((192 : Int32) ||| (v >>> ((6 : Int32) &&& 31)))), .val (.int ((128 : Int32) ||| (v &&& (63 : Int32)))), .val (.int (0 : Int32)), .val (.int (0 : Int32))] [(.int (2 : Int32)), (.int at_), (.ref b)])) target → Steps p.tables e below (T31.setTop (mkF m 375 #[.val (.int p0), .val (.int p1), .val (.int p2), .val (.long q3), .second, .val (.int kind), .val (.int r), .val (.int at_), .val (.int v), .val (.int (2 : Int32)), .val (.ref b), .val (.int ((192 : Int32) ||| (v >>> ((6 : Int32) &&& 31)))), .val (.int ((128 : Int32) ||| (v &&& (63 : Int32)))), .val (.int (0 : Int32)), .val (.int (0 : Int32))] [])) target := by
      intro target kt
      show Steps p.tables e below (T31.setTop (mkF m 375 #[.val (.int p0), .val (.int p1), .val (.int p2), .val (.long q3), .second, .val (.int kind), .val (.int r), .val (.int at_), .val (.int v), .val (.int (2 : Int32)), .val (.ref b), .val (.int ((192 : Int32) ||| (v >>> ((6 : Int32) &&& 31)))), .val (.int ((128 : Int32) ||| (v &&& (63 : Int32)))), .val (.int (0 : Int32)), .val (.int (0 : Int32))] [])) _
      refine XS.iload X31.here hx rfl (hb hby at_375) rfl ?_
      show Steps p.tables e below (T31.setTop (mkF m 377 #[.val (.int p0), .val (.int p1), .val (.int p2), .val (.long q3), .second, .val (.int kind), .val (.int r), .val (.int at_), .val (.int v), .val (.int (2 : Int32)), .val (.ref b), .val (.int ((192 : Int32) ||| (v >>> ((6 : Int32) &&& 31)))), .val (.int ((128 : Int32) ||| (v &&& (63 : Int32)))), .val (.int (0 : Int32)), .val (.int (0 : Int32))] [(.int (2 : Int32))])) _
      refine XS.iconst X31.here hx rfl (hb hby at_377) ?_
      show Steps p.tables e below (T31.setTop (mkF m 378 #[.val (.int p0), .val (.int p1), .val (.int p2), .val (.long q3), .second, .val (.int kind), .val (.int r), .val (.int at_), .val (.int v), .val (.int (2 : Int32)), .val (.ref b), .val (.int ((192 : Int32) ||| (v >>> ((6 : Int32) &&& 31)))), .val (.int ((128 : Int32) ||| (v &&& (63 : Int32)))), .val (.int (0 : Int32)), .val (.int (0 : Int32))] [(.int (3 : Int32)), (.int (2 : Int32))])) _
      refine XS.icmpYes X31.here hx rfl (pc0 := 378) (pc' := 391) rfl (hb hby at_378) rfl (tlt (by decide : ((2 : Int32) < (3 : Int32)))).1 (by decide) (by decide) ?_
      show Steps p.tables e below (T31.setTop (mkF m 391 #[.val (.int p0), .val (.int p1), .val (.int p2), .val (.long q3), .second, .val (.int kind), .val (.int r), .val (.int at_), .val (.int v), .val (.int (2 : Int32)), .val (.ref b), .val (.int ((192 : Int32) ||| (v >>> ((6 : Int32) &&& 31)))), .val (.int ((128 : Int32) ||| (v &&& (63 : Int32)))), .val (.int (0 : Int32)), .val (.int (0 : Int32))] [])) _
      refine XS.iload X31.here hx rfl (hb hby at_391) rfl ?_
      show Steps p.tables e below (T31.setTop (mkF m 393 #[.val (.int p0), .val (.int p1), .val (.int p2), .val (.long q3), .second, .val (.int kind), .val (.int r), .val (.int at_), .val (.int v), .val (.int (2 : Int32)), .val (.ref b), .val (.int ((192 : Int32) ||| (v >>> ((6 : Int32) &&& 31)))), .val (.int ((128 : Int32) ||| (v &&& (63 : Int32)))), .val (.int (0 : Int32)), .val (.int (0 : Int32))] [(.int (2 : Int32))])) _
      refine XS.iconst X31.here hx rfl (hb hby at_393) ?_
      show Steps p.tables e below (T31.setTop (mkF m 394 #[.val (.int p0), .val (.int p1), .val (.int p2), .val (.long q3), .second, .val (.int kind), .val (.int r), .val (.int at_), .val (.int v), .val (.int (2 : Int32)), .val (.ref b), .val (.int ((192 : Int32) ||| (v >>> ((6 : Int32) &&& 31)))), .val (.int ((128 : Int32) ||| (v &&& (63 : Int32)))), .val (.int (0 : Int32)), .val (.int (0 : Int32))] [(.int (4 : Int32)), (.int (2 : Int32))])) _
      refine XS.icmpYes X31.here hx rfl (pc0 := 394) (pc' := 407) rfl (hb hby at_394) rfl (tlt (by decide : ((2 : Int32) < (4 : Int32)))).1 (by decide) (by decide) ?_
      show Steps p.tables e below (T31.setTop (mkF m 407 #[.val (.int p0), .val (.int p1), .val (.int p2), .val (.long q3), .second, .val (.int kind), .val (.int r), .val (.int at_), .val (.int v), .val (.int (2 : Int32)), .val (.ref b), .val (.int ((192 : Int32) ||| (v >>> ((6 : Int32) &&& 31)))), .val (.int ((128 : Int32) ||| (v &&& (63 : Int32)))), .val (.int (0 : Int32)), .val (.int (0 : Int32))] [])) _
      refine XS.aload X31.here hx rfl (hb hby at_407) rfl rfl ?_
      show Steps p.tables e below (T31.setTop (mkF m 409 #[.val (.int p0), .val (.int p1), .val (.int p2), .val (.long q3), .second, .val (.int kind), .val (.int r), .val (.int at_), .val (.int v), .val (.int (2 : Int32)), .val (.ref b), .val (.int ((192 : Int32) ||| (v >>> ((6 : Int32) &&& 31)))), .val (.int ((128 : Int32) ||| (v &&& (63 : Int32)))), .val (.int (0 : Int32)), .val (.int (0 : Int32))] [(.ref b)])) _
      refine XS.iload X31.here hx rfl (hb hby at_409) rfl ?_
      show Steps p.tables e below (T31.setTop (mkF m 411 #[.val (.int p0), .val (.int p1), .val (.int p2), .val (.long q3), .second, .val (.int kind), .val (.int r), .val (.int at_), .val (.int v), .val (.int (2 : Int32)), .val (.ref b), .val (.int ((192 : Int32) ||| (v >>> ((6 : Int32) &&& 31)))), .val (.int ((128 : Int32) ||| (v &&& (63 : Int32)))), .val (.int (0 : Int32)), .val (.int (0 : Int32))] [(.int at_), (.ref b)])) _
      refine XS.iload X31.here hx rfl (hb hby at_411) rfl ?_
      exact kt
    obtain ⟨_, _, ⟨T33, L33, k33, n33⟩, -, X33, ⟨Lc33, hQ33, l33, y33, z33⟩, st33⟩ := Jvm.LawKit.callS X31 hx (y := (⟨"com/example/murray_hill/murrayhill/WellFormed", "codePoint", "([BII)I"⟩ : MethodName)) hown (mvT hZ (hw _ (List.mem_of_getElem? (i := 2) rfl))) (mvT hZ (hw _ (List.mem_of_getElem? (i := 3) rfl))) (mvT hZ (hw _ (List.mem_of_getElem? (i := 4) rfl))) (mvT hZ (hw _ (List.mem_of_getElem? (i := 5) rfl))) (by decide) (backOf (W := 0) (rmCP2 l Z a0 hw [] b at_ c31 ((nar .byte (((192 : Int32) ||| (v >>> ((6 : Int32) &&& 31))).toInt8.toInt32))) ((nar .byte (((128 : Int32) ||| (v &&& (63 : Int32))).toInt8.toInt32))) h31 n0 Z_31 Aq31 (own_in Sq31 ⟨hp0.1, hp0.2.1⟩) (own_in Sq31 ⟨hp1.1, hp1.2.1⟩) a0_31 a1_31) hZ (hw _ (List.mem_of_getElem? (i := 5) rfl)) (hw _ (List.mem_of_getElem? (i := 4) rfl)) (by decide) (by decide)) (g := (mkF m 413 #[.val (.int p0), .val (.int p1), .val (.int p2), .val (.long q3), .second, .val (.int kind), .val (.int r), .val (.int at_), .val (.int v), .val (.int (2 : Int32)), .val (.ref b), .val (.int ((192 : Int32) ||| (v >>> ((6 : Int32) &&& 31)))), .val (.int ((128 : Int32) ||| (v &&& (63 : Int32)))), .val (.int (0 : Int32)), .val (.int (0 : Int32))] [(.int (2 : Int32)), (.int at_), (.ref b)])) rfl (by rw [hml]; rfl) (argsL := [(.ref b), (.int at_), (.int (2 : Int32))]) (rest := []) (lenOf pd_0 rfl) rfl (by show 2 * 0 + _ ≤ _; exact Nat.le_of_eq rfl) (hb hby at_413) (fun _ _ => ⟨rfl, e31, (by decide : 1 + 0 ≤ _), (by decide : 8 + 0 ≤ _)⟩)
    dsimp only [Pt.U, Pt.locs, Pt.cells, Pt.slots] at X33 l33 y33 z33 st33 hQ33
    subst l33 y33 z33
    obtain ⟨rfl, Nq33, e33⟩ := hQ33
    have N33 := Fr.app N31 Nq33
    obtain ⟨fs, hr, hrun, hended, hW, hsame⟩ := X33.leave (v := some (.int (1 : Int32))) (fun h => by rw [Bd.returns] at h; cases h)
    refine ⟨_, _, pre0 _ (st1 _ (st2 _ (st3 _ (st4 _ (st5 _ (st6 _ (st7 _ (st8 _ (st9 _ (st10 _ (st11 _ (st12 _ (st13 _ (st14 _ (st15 _ (st16 _ (st17 _ (st18 _ (st19 _ (st20 _ (st21 _ (st27 _ (st28 _ (st29 _ (st30 _ (st31 _ (st32 _ (st33 _ ?_)))))))))))))))))))))))))))), hrun, hended, _, _, rfl, ?_, ⟨_, rfl⟩, hW, hsame.mono (by decide) (by decide)⟩
    · show Steps p.tables e below (T33.setTop (mkF m 416 #[.val (.int p0), .val (.int p1), .val (.int p2), .val (.long q3), .second, .val (.int kind), .val (.int r), .val (.int at_), .val (.int v), .val (.int (2 : Int32)), .val (.ref b), .val (.int ((192 : Int32) ||| (v >>> ((6 : Int32) &&& 31)))), .val (.int ((128 : Int32) ||| (v &&& (63 : Int32)))), .val (.int (0 : Int32)), .val (.int (0 : Int32))] [(.int (own_cp2 (nar .byte (((192 : Int32) ||| (v >>> ((6 : Int32) &&& 31))).toInt8.toInt32)) (nar .byte (((128 : Int32) ||| (v &&& (63 : Int32))).toInt8.toInt32))))])) _
      refine XS.iload X33.here hx rfl (hb hby at_416) rfl ?_
      show Steps p.tables e below (T33.setTop (mkF m 418 #[.val (.int p0), .val (.int p1), .val (.int p2), .val (.long q3), .second, .val (.int kind), .val (.int r), .val (.int at_), .val (.int v), .val (.int (2 : Int32)), .val (.ref b), .val (.int ((192 : Int32) ||| (v >>> ((6 : Int32) &&& 31)))), .val (.int ((128 : Int32) ||| (v &&& (63 : Int32)))), .val (.int (0 : Int32)), .val (.int (0 : Int32))] [(.int v), (.int (own_cp2 (nar .byte (((192 : Int32) ||| (v >>> ((6 : Int32) &&& 31))).toInt8.toInt32)) (nar .byte (((128 : Int32) ||| (v &&& (63 : Int32))).toInt8.toInt32))))])) _
      refine XS.icmpNo X33.here hx rfl (hb hby at_418) rfl (teq (own_v2 v0 v1)).2 ?_
      show Steps p.tables e below (T33.setTop (mkF m 421 #[.val (.int p0), .val (.int p1), .val (.int p2), .val (.long q3), .second, .val (.int kind), .val (.int r), .val (.int at_), .val (.int v), .val (.int (2 : Int32)), .val (.ref b), .val (.int ((192 : Int32) ||| (v >>> ((6 : Int32) &&& 31)))), .val (.int ((128 : Int32) ||| (v &&& (63 : Int32)))), .val (.int (0 : Int32)), .val (.int (0 : Int32))] [])) _
      refine XS.iconst X33.here hx rfl (hb hby at_421) ?_
      show Steps p.tables e below (T33.setTop (mkF m 422 #[.val (.int p0), .val (.int p1), .val (.int p2), .val (.long q3), .second, .val (.int kind), .val (.int r), .val (.int at_), .val (.int v), .val (.int (2 : Int32)), .val (.ref b), .val (.int ((192 : Int32) ||| (v >>> ((6 : Int32) &&& 31)))), .val (.int ((128 : Int32) ||| (v &&& (63 : Int32)))), .val (.int (0 : Int32)), .val (.int (0 : Int32))] [(.int (1 : Int32))])) _
      refine XS.goto X33.here hx rfl (pc0 := 422) (pc' := 426) rfl (hb hby at_422) (by decide) (by decide) ?_
      show Steps p.tables e below (T33.setTop (mkF m 426 #[.val (.int p0), .val (.int p1), .val (.int p2), .val (.long q3), .second, .val (.int kind), .val (.int r), .val (.int at_), .val (.int v), .val (.int (2 : Int32)), .val (.ref b), .val (.int ((192 : Int32) ||| (v >>> ((6 : Int32) &&& 31)))), .val (.int ((128 : Int32) ||| (v &&& (63 : Int32)))), .val (.int (0 : Int32)), .val (.int (0 : Int32))] [(.int (1 : Int32))])) _
      exact retN X33 hx (t := .boolean) Bd.returns (by simp) (hb hby at_426) hr
    · show Q_rm0 Z p0 p1 p2 q3 h0 n0 _ T33.heap _
      rw [e33]
      exact ⟨rfl, N33⟩
  · have st34 : ∀ target, Steps p.tables e below (T20.setTop (mkF m 351 #[.val (.int p0), .val (.int p1), .val (.int p2), .val (.long q3), .second, .val (.int kind), .val (.int r), .val (.int at_), .val (.int v), .val (.int (3 : Int32)), .val (.ref b), .val (.int ((224 : Int32) ||| (v >>> ((12 : Int32) &&& 31)))), .val (.int ((128 : Int32) ||| ((v >>> ((6 : Int32) &&& 31)) &&& (63 : Int32)))), .val (.int ((128 : Int32) ||| (v &&& (63 : Int32)))), .val (.int (0 : Int32))] [])) target → Steps p.tables e below (T20.setTop (mkF m 212 #[.val (.int p0), .val (.int p1), .val (.int p2), .val (.long q3), .second, .val (.int kind), .val (.int r), .val (.int at_), .val (.int v), .val (.int (3 : Int32)), .val (.ref b), .val (.int (0 : Int32)), .val (.int (0 : Int32)), .val (.int (0 : Int32)), .val (.int (0 : Int32))] [])) target := by
      intro target kt
      show Steps p.tables e below (T20.setTop (mkF m 212 #[.val (.int p0), .val (.int p1), .val (.int p2), .val (.long q3), .second, .val (.int kind), .val (.int r), .val (.int at_), .val (.int v), .val (.int (3 : Int32)), .val (.ref b), .val (.int (0 : Int32)), .val (.int (0 : Int32)), .val (.int (0 : Int32)), .val (.int (0 : Int32))] [])) _
      refine XS.iload X20.here hx rfl (hb hby at_212) rfl ?_
      show Steps p.tables e below (T20.setTop (mkF m 214 #[.val (.int p0), .val (.int p1), .val (.int p2), .val (.long q3), .second, .val (.int kind), .val (.int r), .val (.int at_), .val (.int v), .val (.int (3 : Int32)), .val (.ref b), .val (.int (0 : Int32)), .val (.int (0 : Int32)), .val (.int (0 : Int32)), .val (.int (0 : Int32))] [(.int (3 : Int32))])) _
      refine XS.iconst X20.here hx rfl (hb hby at_214) ?_
      show Steps p.tables e below (T20.setTop (mkF m 215 #[.val (.int p0), .val (.int p1), .val (.int p2), .val (.long q3), .second, .val (.int kind), .val (.int r), .val (.int at_), .val (.int v), .val (.int (3 : Int32)), .val (.ref b), .val (.int (0 : Int32)), .val (.int (0 : Int32)), .val (.int (0 : Int32)), .val (.int (0 : Int32))] [(.int (1 : Int32)), (.int (3 : Int32))])) _
      refine XS.icmpYes X20.here hx rfl (pc0 := 215) (pc' := 225) rfl (hb hby at_215) rfl (feq (by decide : ¬ ((3 : Int32) = (1 : Int32)))).2 (by decide) (by decide) ?_
      show Steps p.tables e below (T20.setTop (mkF m 225 #[.val (.int p0), .val (.int p1), .val (.int p2), .val (.long q3), .second, .val (.int kind), .val (.int r), .val (.int at_), .val (.int v), .val (.int (3 : Int32)), .val (.ref b), .val (.int (0 : Int32)), .val (.int (0 : Int32)), .val (.int (0 : Int32)), .val (.int (0 : Int32))] [])) _
      refine XS.iload X20.here hx rfl (hb hby at_225) rfl ?_
      show Steps p.tables e below (T20.setTop (mkF m 227 #[.val (.int p0), .val (.int p1), .val (.int p2), .val (.long q3), .second, .val (.int kind), .val (.int r), .val (.int at_), .val (.int v), .val (.int (3 : Int32)), .val (.ref b), .val (.int (0 : Int32)), .val (.int (0 : Int32)), .val (.int (0 : Int32)), .val (.int (0 : Int32))] [(.int (3 : Int32))])) _
      refine XS.iconst X20.here hx rfl (hb hby at_227) ?_
      show Steps p.tables e below (T20.setTop (mkF m 228 #[.val (.int p0), .val (.int p1), .val (.int p2), .val (.long q3), .second, .val (.int kind), .val (.int r), .val (.int at_), .val (.int v), .val (.int (3 : Int32)), .val (.ref b), .val (.int (0 : Int32)), .val (.int (0 : Int32)), .val (.int (0 : Int32)), .val (.int (0 : Int32))] [(.int (2 : Int32)), (.int (3 : Int32))])) _
      refine XS.icmpYes X20.here hx rfl (pc0 := 228) (pc' := 256) rfl (hb hby at_228) rfl (feq (by decide : ¬ ((3 : Int32) = (2 : Int32)))).2 (by decide) (by decide) ?_
      show Steps p.tables e below (T20.setTop (mkF m 256 #[.val (.int p0), .val (.int p1), .val (.int p2), .val (.long q3), .second, .val (.int kind), .val (.int r), .val (.int at_), .val (.int v), .val (.int (3 : Int32)), .val (.ref b), .val (.int (0 : Int32)), .val (.int (0 : Int32)), .val (.int (0 : Int32)), .val (.int (0 : Int32))] [])) _
      refine XS.iload X20.here hx rfl (hb hby at_256) rfl ?_
      show Steps p.tables e below (T20.setTop (mkF m 258 #[.val (.int p0), .val (.int p1), .val (.int p2), .val (.long q3), .second, .val (.int kind), .val (.int r), .val (.int at_), .val (.int v), .val (.int (3 : Int32)), .val (.ref b), .val (.int (0 : Int32)), .val (.int (0 : Int32)), .val (.int (0 : Int32)), .val (.int (0 : Int32))] [(.int (3 : Int32))])) _
      refine XS.iconst X20.here hx rfl (hb hby at_258) ?_
      show Steps p.tables e below (T20.setTop (mkF m 259 #[.val (.int p0), .val (.int p1), .val (.int p2), .val (.long q3), .second, .val (.int kind), .val (.int r), .val (.int at_), .val (.int v), .val (.int (3 : Int32)), .val (.ref b), .val (.int (0 : Int32)), .val (.int (0 : Int32)), .val (.int (0 : Int32)), .val (.int (0 : Int32))] [(.int (3 : Int32)), (.int (3 : Int32))])) _
      refine XS.icmpNo X20.here hx rfl (hb hby at_259) rfl (teq (rfl : (3 : Int32) = (3 : Int32))).2 ?_
      show Steps p.tables e below (T20.setTop (mkF m 262 #[.val (.int p0), .val (.int p1), .val (.int p2), .val (.long q3), .second, .val (.int kind), .val (.int r), .val (.int at_), .val (.int v), .val (.int (3 : Int32)), .val (.ref b), .val (.int (0 : Int32)), .val (.int (0 : Int32)), .val (.int (0 : Int32)), .val (.int (0 : Int32))] [])) _
      refine XS.sipush X20.here hx rfl (hb hby at_262) ?_
      show Steps p.tables e below (T20.setTop (mkF m 265 #[.val (.int p0), .val (.int p1), .val (.int p2), .val (.long q3), .second, .val (.int kind), .val (.int r), .val (.int at_), .val (.int v), .val (.int (3 : Int32)), .val (.ref b), .val (.int (0 : Int32)), .val (.int (0 : Int32)), .val (.int (0 : Int32)), .val (.int (0 : Int32))] [(.int (224 : Int32))])) _
      refine XS.iload X20.here hx rfl (hb hby at_265) rfl ?_
      show Steps p.tables e below (T20.setTop (mkF m 267 #[.val (.int p0), .val (.int p1), .val (.int p2), .val (.long q3), .second, .val (.int kind), .val (.int r), .val (.int at_), .val (.int v), .val (.int (3 : Int32)), .val (.ref b), .val (.int (0 : Int32)), .val (.int (0 : Int32)), .val (.int (0 : Int32)), .val (.int (0 : Int32))] [(.int v), (.int (224 : Int32))])) _
      refine XS.bipush X20.here hx rfl (hb hby at_267) ?_
      show Steps p.tables e below (T20.setTop (mkF m 269 #[.val (.int p0), .val (.int p1), .val (.int p2), .val (.long q3), .second, .val (.int kind), .val (.int r), .val (.int at_), .val (.int v), .val (.int (3 : Int32)), .val (.ref b), .val (.int (0 : Int32)), .val (.int (0 : Int32)), .val (.int (0 : Int32)), .val (.int (0 : Int32))] [(.int (12 : Int32)), (.int v), (.int (224 : Int32))])) _
      refine XS.ishr X20.here hx rfl (hb hby at_269) rfl ?_
      show Steps p.tables e below (T20.setTop (mkF m 270 #[.val (.int p0), .val (.int p1), .val (.int p2), .val (.long q3), .second, .val (.int kind), .val (.int r), .val (.int at_), .val (.int v), .val (.int (3 : Int32)), .val (.ref b), .val (.int (0 : Int32)), .val (.int (0 : Int32)), .val (.int (0 : Int32)), .val (.int (0 : Int32))] [(.int (v >>> ((12 : Int32) &&& 31))), (.int (224 : Int32))])) _
      refine XS.ior X20.here hx rfl (hb hby at_270) rfl ?_
      show Steps p.tables e below (T20.setTop (mkF m 271 #[.val (.int p0), .val (.int p1), .val (.int p2), .val (.long q3), .second, .val (.int kind), .val (.int r), .val (.int at_), .val (.int v), .val (.int (3 : Int32)), .val (.ref b), .val (.int (0 : Int32)), .val (.int (0 : Int32)), .val (.int (0 : Int32)), .val (.int (0 : Int32))] [(.int ((224 : Int32) ||| (v >>> ((12 : Int32) &&& 31))))])) _
      refine XS.istore X20.here hx rfl (hb hby at_271) rfl (l' := #[.val (.int p0), .val (.int p1), .val (.int p2), .val (.long q3), .second, .val (.int kind), .val (.int r), .val (.int at_), .val (.int v), .val (.int (3 : Int32)), .val (.ref b), .val (.int ((224 : Int32) ||| (v >>> ((12 : Int32) &&& 31)))), .val (.int (0 : Int32)), .val (.int (0 : Int32)), .val (.int (0 : Int32))]) rfl ?_
      show Steps p.tables e below (T20.setTop (mkF m 273 #[.val (.int p0), .val (.int p1), .val (.int p2), .val (.long q3), .second, .val (.int kind), .val (.int r), .val (.int at_), .val (.int v), .val (.int (3 : Int32)), .val (.ref b), .val (.int ((224 : Int32) ||| (v >>> ((12 : Int32) &&& 31)))), .val (.int (0 : Int32)), .val (.int (0 : Int32)), .val (.int (0 : Int32))] [])) _
      refine XS.sipush X20.here hx rfl (hb hby at_273) ?_
      show Steps p.tables e below (T20.setTop (mkF m 276 #[.val (.int p0), .val (.int p1), .val (.int p2), .val (.long q3), .second, .val (.int kind), .val (.int r), .val (.int at_), .val (.int v), .val (.int (3 : Int32)), .val (.ref b), .val (.int ((224 : Int32) ||| (v >>> ((12 : Int32) &&& 31)))), .val (.int (0 : Int32)), .val (.int (0 : Int32)), .val (.int (0 : Int32))] [(.int (128 : Int32))])) _
      refine XS.iload X20.here hx rfl (hb hby at_276) rfl ?_
      show Steps p.tables e below (T20.setTop (mkF m 278 #[.val (.int p0), .val (.int p1), .val (.int p2), .val (.long q3), .second, .val (.int kind), .val (.int r), .val (.int at_), .val (.int v), .val (.int (3 : Int32)), .val (.ref b), .val (.int ((224 : Int32) ||| (v >>> ((12 : Int32) &&& 31)))), .val (.int (0 : Int32)), .val (.int (0 : Int32)), .val (.int (0 : Int32))] [(.int v), (.int (128 : Int32))])) _
      refine XS.bipush X20.here hx rfl (hb hby at_278) ?_
      show Steps p.tables e below (T20.setTop (mkF m 280 #[.val (.int p0), .val (.int p1), .val (.int p2), .val (.long q3), .second, .val (.int kind), .val (.int r), .val (.int at_), .val (.int v), .val (.int (3 : Int32)), .val (.ref b), .val (.int ((224 : Int32) ||| (v >>> ((12 : Int32) &&& 31)))), .val (.int (0 : Int32)), .val (.int (0 : Int32)), .val (.int (0 : Int32))] [(.int (6 : Int32)), (.int v), (.int (128 : Int32))])) _
      refine XS.ishr X20.here hx rfl (hb hby at_280) rfl ?_
      show Steps p.tables e below (T20.setTop (mkF m 281 #[.val (.int p0), .val (.int p1), .val (.int p2), .val (.long q3), .second, .val (.int kind), .val (.int r), .val (.int at_), .val (.int v), .val (.int (3 : Int32)), .val (.ref b), .val (.int ((224 : Int32) ||| (v >>> ((12 : Int32) &&& 31)))), .val (.int (0 : Int32)), .val (.int (0 : Int32)), .val (.int (0 : Int32))] [(.int (v >>> ((6 : Int32) &&& 31))), (.int (128 : Int32))])) _
      refine XS.bipush X20.here hx rfl (hb hby at_281) ?_
      show Steps p.tables e below (T20.setTop (mkF m 283 #[.val (.int p0), .val (.int p1), .val (.int p2), .val (.long q3), .second, .val (.int kind), .val (.int r), .val (.int at_), .val (.int v), .val (.int (3 : Int32)), .val (.ref b), .val (.int ((224 : Int32) ||| (v >>> ((12 : Int32) &&& 31)))), .val (.int (0 : Int32)), .val (.int (0 : Int32)), .val (.int (0 : Int32))] [(.int (63 : Int32)), (.int (v >>> ((6 : Int32) &&& 31))), (.int (128 : Int32))])) _
      refine XS.iand X20.here hx rfl (hb hby at_283) rfl ?_
      show Steps p.tables e below (T20.setTop (mkF m 284 #[.val (.int p0), .val (.int p1), .val (.int p2), .val (.long q3), .second, .val (.int kind), .val (.int r), .val (.int at_), .val (.int v), .val (.int (3 : Int32)), .val (.ref b), .val (.int ((224 : Int32) ||| (v >>> ((12 : Int32) &&& 31)))), .val (.int (0 : Int32)), .val (.int (0 : Int32)), .val (.int (0 : Int32))] [(.int ((v >>> ((6 : Int32) &&& 31)) &&& (63 : Int32))), (.int (128 : Int32))])) _
      refine XS.ior X20.here hx rfl (hb hby at_284) rfl ?_
      show Steps p.tables e below (T20.setTop (mkF m 285 #[.val (.int p0), .val (.int p1), .val (.int p2), .val (.long q3), .second, .val (.int kind), .val (.int r), .val (.int at_), .val (.int v), .val (.int (3 : Int32)), .val (.ref b), .val (.int ((224 : Int32) ||| (v >>> ((12 : Int32) &&& 31)))), .val (.int (0 : Int32)), .val (.int (0 : Int32)), .val (.int (0 : Int32))] [(.int ((128 : Int32) ||| ((v >>> ((6 : Int32) &&& 31)) &&& (63 : Int32))))])) _
      refine XS.istore X20.here hx rfl (hb hby at_285) rfl (l' := #[.val (.int p0), .val (.int p1), .val (.int p2), .val (.long q3), .second, .val (.int kind), .val (.int r), .val (.int at_), .val (.int v), .val (.int (3 : Int32)), .val (.ref b), .val (.int ((224 : Int32) ||| (v >>> ((12 : Int32) &&& 31)))), .val (.int ((128 : Int32) ||| ((v >>> ((6 : Int32) &&& 31)) &&& (63 : Int32)))), .val (.int (0 : Int32)), .val (.int (0 : Int32))]) rfl ?_
      show Steps p.tables e below (T20.setTop (mkF m 287 #[.val (.int p0), .val (.int p1), .val (.int p2), .val (.long q3), .second, .val (.int kind), .val (.int r), .val (.int at_), .val (.int v), .val (.int (3 : Int32)), .val (.ref b), .val (.int ((224 : Int32) ||| (v >>> ((12 : Int32) &&& 31)))), .val (.int ((128 : Int32) ||| ((v >>> ((6 : Int32) &&& 31)) &&& (63 : Int32)))), .val (.int (0 : Int32)), .val (.int (0 : Int32))] [])) _
      refine XS.sipush X20.here hx rfl (hb hby at_287) ?_
      show Steps p.tables e below (T20.setTop (mkF m 290 #[.val (.int p0), .val (.int p1), .val (.int p2), .val (.long q3), .second, .val (.int kind), .val (.int r), .val (.int at_), .val (.int v), .val (.int (3 : Int32)), .val (.ref b), .val (.int ((224 : Int32) ||| (v >>> ((12 : Int32) &&& 31)))), .val (.int ((128 : Int32) ||| ((v >>> ((6 : Int32) &&& 31)) &&& (63 : Int32)))), .val (.int (0 : Int32)), .val (.int (0 : Int32))] [(.int (128 : Int32))])) _
      refine XS.iload X20.here hx rfl (hb hby at_290) rfl ?_
      show Steps p.tables e below (T20.setTop (mkF m 292 #[.val (.int p0), .val (.int p1), .val (.int p2), .val (.long q3), .second, .val (.int kind), .val (.int r), .val (.int at_), .val (.int v), .val (.int (3 : Int32)), .val (.ref b), .val (.int ((224 : Int32) ||| (v >>> ((12 : Int32) &&& 31)))), .val (.int ((128 : Int32) ||| ((v >>> ((6 : Int32) &&& 31)) &&& (63 : Int32)))), .val (.int (0 : Int32)), .val (.int (0 : Int32))] [(.int v), (.int (128 : Int32))])) _
      refine XS.bipush X20.here hx rfl (hb hby at_292) ?_
      show Steps p.tables e below (T20.setTop (mkF m 294 #[.val (.int p0), .val (.int p1), .val (.int p2), .val (.long q3), .second, .val (.int kind), .val (.int r), .val (.int at_), .val (.int v), .val (.int (3 : Int32)), .val (.ref b), .val (.int ((224 : Int32) ||| (v >>> ((12 : Int32) &&& 31)))), .val (.int ((128 : Int32) ||| ((v >>> ((6 : Int32) &&& 31)) &&& (63 : Int32)))), .val (.int (0 : Int32)), .val (.int (0 : Int32))] [(.int (63 : Int32)), (.int v), (.int (128 : Int32))])) _
      refine XS.iand X20.here hx rfl (hb hby at_294) rfl ?_
      show Steps p.tables e below (T20.setTop (mkF m 295 #[.val (.int p0), .val (.int p1), .val (.int p2), .val (.long q3), .second, .val (.int kind), .val (.int r), .val (.int at_), .val (.int v), .val (.int (3 : Int32)), .val (.ref b), .val (.int ((224 : Int32) ||| (v >>> ((12 : Int32) &&& 31)))), .val (.int ((128 : Int32) ||| ((v >>> ((6 : Int32) &&& 31)) &&& (63 : Int32)))), .val (.int (0 : Int32)), .val (.int (0 : Int32))] [(.int (v &&& (63 : Int32))), (.int (128 : Int32))])) _
      refine XS.ior X20.here hx rfl (hb hby at_295) rfl ?_
      show Steps p.tables e below (T20.setTop (mkF m 296 #[.val (.int p0), .val (.int p1), .val (.int p2), .val (.long q3), .second, .val (.int kind), .val (.int r), .val (.int at_), .val (.int v), .val (.int (3 : Int32)), .val (.ref b), .val (.int ((224 : Int32) ||| (v >>> ((12 : Int32) &&& 31)))), .val (.int ((128 : Int32) ||| ((v >>> ((6 : Int32) &&& 31)) &&& (63 : Int32)))), .val (.int (0 : Int32)), .val (.int (0 : Int32))] [(.int ((128 : Int32) ||| (v &&& (63 : Int32))))])) _
      refine XS.istore X20.here hx rfl (hb hby at_296) rfl (l' := #[.val (.int p0), .val (.int p1), .val (.int p2), .val (.long q3), .second, .val (.int kind), .val (.int r), .val (.int at_), .val (.int v), .val (.int (3 : Int32)), .val (.ref b), .val (.int ((224 : Int32) ||| (v >>> ((12 : Int32) &&& 31)))), .val (.int ((128 : Int32) ||| ((v >>> ((6 : Int32) &&& 31)) &&& (63 : Int32)))), .val (.int ((128 : Int32) ||| (v &&& (63 : Int32)))), .val (.int (0 : Int32))]) rfl ?_
      show Steps p.tables e below (T20.setTop (mkF m 298 #[.val (.int p0), .val (.int p1), .val (.int p2), .val (.long q3), .second, .val (.int kind), .val (.int r), .val (.int at_), .val (.int v), .val (.int (3 : Int32)), .val (.ref b), .val (.int ((224 : Int32) ||| (v >>> ((12 : Int32) &&& 31)))), .val (.int ((128 : Int32) ||| ((v >>> ((6 : Int32) &&& 31)) &&& (63 : Int32)))), .val (.int ((128 : Int32) ||| (v &&& (63 : Int32)))), .val (.int (0 : Int32))] [])) _
      refine XS.goto X20.here hx rfl (pc0 := 298) (pc' := 351) rfl (hb hby at_298) (by decide) (by decide) ?_
      exact kt
    have st35 : ∀ target, Steps p.tables e below (T20.setTop (mkF m 358 #[.val (.int p0), .val (.int p1), .val (.int p2), .val (.long q3), .second, .val (.int kind), .val (.int r), .val (.int at_), .val (.int v), .val (.int (3 : Int32)), .val (.ref b), .val (.int ((224 : Int32) ||| (v >>> ((12 : Int32) &&& 31)))), .val (.int ((128 : Int32) ||| ((v >>> ((6 : Int32) &&& 31)) &&& (63 : Int32)))), .val (.int ((128 : Int32) ||| (v &&& (63 : Int32)))), .val (.int (0 : Int32))] [(.int (((224 : Int32) ||| (v >>> ((12 : Int32) &&& 31))).toInt8.toInt32)), (.int at_), (.ref b)])) target → Steps p.tables e below (T20.setTop (mkF m 351 #[.val (.int p0), .val (.int p1), .val (.int p2), .val (.long q3), .second, .val (.int kind), .val (.int r), .val (.int at_), .val (.int v), .val (.int (3 : Int32)), .val (.ref b), .val (.int ((224 : Int32) ||| (v >>> ((12 : Int32) &&& 31)))), .val (.int ((128 : Int32) ||| ((v >>> ((6 : Int32) &&& 31)) &&& (63 : Int32)))), .val (.int ((128 : Int32) ||| (v &&& (63 : Int32)))), .val (.int (0 : Int32))] [])) target := by
      intro target kt
      show Steps p.tables e below (T20.setTop (mkF m 351 #[.val (.int p0), .val (.int p1), .val (.int p2), .val (.long q3), .second, .val (.int kind), .val (.int r), .val (.int at_), .val (.int v), .val (.int (3 : Int32)), .val (.ref b), .val (.int ((224 : Int32) ||| (v >>> ((12 : Int32) &&& 31)))), .val (.int ((128 : Int32) ||| ((v >>> ((6 : Int32) &&& 31)) &&& (63 : Int32)))), .val (.int ((128 : Int32) ||| (v &&& (63 : Int32)))), .val (.int (0 : Int32))] [])) _
      refine XS.aload X20.here hx rfl (hb hby at_351) rfl rfl ?_
      show Steps p.tables e below (T20.setTop (mkF m 353 #[.val (.int p0), .val (.int p1), .val (.int p2), .val (.long q3), .second, .val (.int kind), .val (.int r), .val (.int at_), .val (.int v), .val (.int (3 : Int32)), .val (.ref b), .val (.int ((224 : Int32) ||| (v >>> ((12 : Int32) &&& 31)))), .val (.int ((128 : Int32) ||| ((v >>> ((6 : Int32) &&& 31)) &&& (63 : Int32)))), .val (.int ((128 : Int32) ||| (v &&& (63 : Int32)))), .val (.int (0 : Int32))] [(.ref b)])) _
      refine XS.iload X20.here hx rfl (hb hby at_353) rfl ?_
      show Steps p.tables e below (T20.setTop (mkF m 355 #[.val (.int p0), .val (.int p1), .val (.int p2), .val (.long q3), .second, .val (.int kind), .val (.int r), .val (.int at_), .val (.int v), .val (.int (3 : Int32)), .val (.ref b), .val (.int ((224 : Int32) ||| (v >>> ((12 : Int32) &&& 31)))), .val (.int ((128 : Int32) ||| ((v >>> ((6 : Int32) &&& 31)) &&& (63 : Int32)))), .val (.int ((128 : Int32) ||| (v &&& (63 : Int32)))), .val (.int (0 : Int32))] [(.int at_), (.ref b)])) _
      refine XS.iload X20.here hx rfl (hb hby at_355) rfl ?_
      show Steps p.tables e below (T20.setTop (mkF m 357 #[.val (.int p0), .val (.int p1), .val (.int p2), .val (.long q3), .second, .val (.int kind), .val (.int r), .val (.int at_), .val (.int v), .val (.int (3 : Int32)), .val (.ref b), .val (.int ((224 : Int32) ||| (v >>> ((12 : Int32) &&& 31)))), .val (.int ((128 : Int32) ||| ((v >>> ((6 : Int32) &&& 31)) &&& (63 : Int32)))), .val (.int ((128 : Int32) ||| (v &&& (63 : Int32)))), .val (.int (0 : Int32))] [(.int ((224 : Int32) ||| (v >>> ((12 : Int32) &&& 31)))), (.int at_), (.ref b)])) _
      refine XS.i2b X20.here hx rfl (hb hby at_357) rfl ?_
      exact kt
    obtain ⟨T36, h36, X36, e36, W36, st36⟩ := stB X20 hx hZ e20 Ar0 (j := at_) (own_in Sz0 ⟨hp0.1, hp0.2.1⟩) (g := (mkF m 358 #[.val (.int p0), .val (.int p1), .val (.int p2), .val (.long q3), .second, .val (.int kind), .val (.int r), .val (.int at_), .val (.int v), .val (.int (3 : Int32)), .val (.ref b), .val (.int ((224 : Int32) ||| (v >>> ((12 : Int32) &&& 31)))), .val (.int ((128 : Int32) ||| ((v >>> ((6 : Int32) &&& 31)) &&& (63 : Int32)))), .val (.int ((128 : Int32) ||| (v &&& (63 : Int32)))), .val (.int (0 : Int32))] [(.int (((224 : Int32) ||| (v >>> ((12 : Int32) &&& 31))).toInt8.toInt32)), (.int at_), (.ref b)])) rfl rfl (hb hby at_358)
    have Z_36 : n0 ≤ h36.size := Nat.le_trans Z_20 (Keep.of_wr W36).1
    have N36 := Fr.snoc X36 N20 g_b
    obtain ⟨c36, hc36⟩ : ∃ z, z = (cl0.setSlot (at_).toNatClampNeg (.int (nar .byte (((224 : Int32) ||| (v >>> ((12 : Int32) &&& 31))).toInt8.toInt32)))) := ⟨_, rfl⟩
    have Aq36 : Arr Z h36 b c36 .byte := by rw [hc36]; exact Arr.same W36 Ar0
    have Sq36 : c36.slots.size = (8 : Int32).toNatClampNeg := by rw [hc36, sz_set]; exact Sz0
    have a0_36 : c36.slots[(at_).toNatClampNeg]? = some (.int (nar .byte (((224 : Int32) ||| (v >>> ((12 : Int32) &&& 31))).toInt8.toInt32))) := by rw [hc36]; exact get_hit (own_in Sz0 ⟨hp0.1, hp0.2.1⟩) rfl
    have st37 : ∀ target, Steps p.tables e below (T36.setTop (mkF m 374 #[.val (.int p0), .val (.int p1), .val (.int p2), .val (.long q3), .second, .val (.int kind), .val (.int r), .val (.int at_), .val (.int v), .val (.int (3 : Int32)), .val (.ref b), .val (.int ((224 : Int32) ||| (v >>> ((12 : Int32) &&& 31)))), .val (.int ((128 : Int32) ||| ((v >>> ((6 : Int32) &&& 31)) &&& (63 : Int32)))), .val (.int ((128 : Int32) ||| (v &&& (63 : Int32)))), .val (.int (0 : Int32))] [(.int (((128 : Int32) ||| ((v >>> ((6 : Int32) &&& 31)) &&& (63 : Int32))).toInt8.toInt32)), (.int (at_ + (1 : Int32))), (.ref b)])) target → Steps p.tables e below (T36.setTop (mkF m 359 #[.val (.int p0), .val (.int p1), .val (.int p2), .val (.long q3), .second, .val (.int kind), .val (.int r), .val (.int at_), .val (.int v), .val (.int (3 : Int32)), .val (.ref b), .val (.int ((224 : Int32) ||| (v >>> ((12 : Int32) &&& 31)))), .val (.int ((128 : Int32) ||| ((v >>> ((6 : Int32) &&& 31)) &&& (63 : Int32)))), .val (.int ((128 : Int32) ||| (v &&& (63 : Int32)))), .val (.int (0 : Int32))] [])) target := by
      intro target kt
      show Steps p.tables e below (T36.setTop (mkF m 359 #[.val (.int p0), .val (.int p1), .val (.int p2), .val (.long q3), .second, .val (.int kind), .val (.int r), .val (.int at_), .val (.int v), .val (.int (3 : Int32)), .val (.ref b), .val (.int ((224 : Int32) ||| (v >>> ((12 : Int32) &&& 31)))), .val (.int ((128 : Int32) ||| ((v >>> ((6 : Int32) &&& 31)) &&& (63 : Int32)))), .val (.int ((128 : Int32) ||| (v &&& (63 : Int32)))), .val (.int (0 : Int32))] [])) _
      refine XS.iload X36.here hx rfl (hb hby at_359) rfl ?_
      show Steps p.tables e below (T36.setTop (mkF m 361 #[.val (.int p0), .val (.int p1), .val (.int p2), .val (.long q3), .second, .val (.int kind), .val (.int r), .val (.int at_), .val (.int v), .val (.int (3 : Int32)), .val (.ref b), .val (.int ((224 : Int32) ||| (v >>> ((12 : Int32) &&& 31)))), .val (.int ((128 : Int32) ||| ((v >>> ((6 : Int32) &&& 31)) &&& (63 : Int32)))), .val (.int ((128 : Int32) ||| (v &&& (63 : Int32)))), .val (.int (0 : Int32))] [(.int (3 : Int32))])) _
      refine XS.iconst X36.here hx rfl (hb hby at_361) ?_
      show Steps p.tables e below (T36.setTop (mkF m 362 #[.val (.int p0), .val (.int p1), .val (.int p2), .val (.long q3), .second, .val (.int kind), .val (.int r), .val (.int at_), .val (.int v), .val (.int (3 : Int32)), .val (.ref b), .val (.int ((224 : Int32) ||| (v >>> ((12 : Int32) &&& 31)))), .val (.int ((128 : Int32) ||| ((v >>> ((6 : Int32) &&& 31)) &&& (63 : Int32)))), .val (.int ((128 : Int32) ||| (v &&& (63 : Int32)))), .val (.int (0 : Int32))] [(.int (2 : Int32)), (.int (3 : Int32))])) _
      refine XS.icmpNo X36.here hx rfl (hb hby at_362) rfl (flt (by decide : ¬ ((3 : Int32) < (2 : Int32)))).1 ?_
      show Steps p.tables e below (T36.setTop (mkF m 365 #[.val (.int p0), .val (.int p1), .val (.int p2), .val (.long q3), .second, .val (.int kind), .val (.int r), .val (.int at_), .val (.int v), .val (.int (3 : Int32)), .val (.ref b), .val (.int ((224 : Int32) ||| (v >>> ((12 : Int32) &&& 31)))), .val (.int ((128 : Int32) ||| ((v >>> ((6 : Int32) &&& 31)) &&& (63 : Int32)))), .val (.int ((128 : Int32) ||| (v &&& (63 : Int32)))), .val (.int (0 : Int32))] [])) _
      refine XS.aload X36.here hx rfl (hb hby at_365) rfl rfl ?_
      show Steps p.tables e below (T36.setTop (mkF m 367 #[.val (.int p0), .val (.int p1), .val (.int p2), .val (.long q3), .second, .val (.int kind), .val (.int r), .val (.int at_), .val (.int v), .val (.int (3 : Int32)), .val (.ref b), .val (.int ((224 : Int32) ||| (v >>> ((12 : Int32) &&& 31)))), .val (.int ((128 : Int32) ||| ((v >>> ((6 : Int32) &&& 31)) &&& (63 : Int32)))), .val (.int ((128 : Int32) ||| (v &&& (63 : Int32)))), .val (.int (0 : Int32))] [(.ref b)])) _
      refine XS.iload X36.here hx rfl (hb hby at_367) rfl ?_
      show Steps p.tables e below (T36.setTop (mkF m 369 #[.val (.int p0), .val (.int p1), .val (.int p2), .val (.long q3), .second, .val (.int kind), .val (.int r), .val (.int at_), .val (.int v), .val (.int (3 : Int32)), .val (.ref b), .val (.int ((224 : Int32) ||| (v >>> ((12 : Int32) &&& 31)))), .val (.int ((128 : Int32) ||| ((v >>> ((6 : Int32) &&& 31)) &&& (63 : Int32)))), .val (.int ((128 : Int32) ||| (v &&& (63 : Int32)))), .val (.int (0 : Int32))] [(.int at_), (.ref b)])) _
      refine XS.iconst X36.here hx rfl (hb hby at_369) ?_
      show Steps p.tables e below (T36.setTop (mkF m 370 #[.val (.int p0), .val (.int p1), .val (.int p2), .val (.long q3), .second, .val (.int kind), .val (.int r), .val (.int at_), .val (.int v), .val (.int (3 : Int32)), .val (.ref b), .val (.int ((224 : Int32) ||| (v >>> ((12 : Int32) &&& 31)))), .val (.int ((128 : Int32) ||| ((v >>> ((6 : Int32) &&& 31)) &&& (63 : Int32)))), .val (.int ((128 : Int32) ||| (v &&& (63 : Int32)))), .val (.int (0 : Int32))] [(.int (1 : Int32)), (.int at_), (.ref b)])) _
      refine XS.iadd X36.here hx rfl (hb hby at_370) rfl ?_
      show Steps p.tables e below (T36.setTop (mkF m 371 #[.val (.int p0), .val (.int p1), .val (.int p2), .val (.long q3), .second, .val (.int kind), .val (.int r), .val (.int at_), .val (.int v), .val (.int (3 : Int32)), .val (.ref b), .val (.int ((224 : Int32) ||| (v >>> ((12 : Int32) &&& 31)))), .val (.int ((128 : Int32) ||| ((v >>> ((6 : Int32) &&& 31)) &&& (63 : Int32)))), .val (.int ((128 : Int32) ||| (v &&& (63 : Int32)))), .val (.int (0 : Int32))] [(.int (at_ + (1 : Int32))), (.ref b)])) _
      refine XS.iload X36.here hx rfl (hb hby at_371) rfl ?_
      show Steps p.tables e below (T36.setTop (mkF m 373 #[.val (.int p0), .val (.int p1), .val (.int p2), .val (.long q3), .second, .val (.int kind), .val (.int r), .val (.int at_), .val (.int v), .val (.int (3 : Int32)), .val (.ref b), .val (.int ((224 : Int32) ||| (v >>> ((12 : Int32) &&& 31)))), .val (.int ((128 : Int32) ||| ((v >>> ((6 : Int32) &&& 31)) &&& (63 : Int32)))), .val (.int ((128 : Int32) ||| (v &&& (63 : Int32)))), .val (.int (0 : Int32))] [(.int ((128 : Int32) ||| ((v >>> ((6 : Int32) &&& 31)) &&& (63 : Int32)))), (.int (at_ + (1 : Int32))), (.ref b)])) _
      refine XS.i2b X36.here hx rfl (hb hby at_373) rfl ?_
      exact kt
    obtain ⟨T38, h38, X38, e38, W38, st38⟩ := stB X36 hx hZ e36 Aq36 (j := (at_ + (1 : Int32))) (own_in Sq36 ⟨hp1.1, hp1.2.1⟩) (g := (mkF m 374 #[.val (.int p0), .val (.int p1), .val (.int p2), .val (.long q3), .second, .val (.int kind), .val (.int r), .val (.int at_), .val (.int v), .val (.int (3 : Int32)), .val (.ref b), .val (.int ((224 : Int32) ||| (v >>> ((12 : Int32) &&& 31)))), .val (.int ((128 : Int32) ||| ((v >>> ((6 : Int32) &&& 31)) &&& (63 : Int32)))), .val (.int ((128 : Int32) ||| (v &&& (63 : Int32)))), .val (.int (0 : Int32))] [(.int (((128 : Int32) ||| ((v >>> ((6 : Int32) &&& 31)) &&& (63 : Int32))).toInt8.toInt32)), (.int (at_ + (1 : Int32))), (.ref b)])) rfl rfl (hb hby at_374)
    have Z_38 : n0 ≤ h38.size := Nat.le_trans Z_36 (Keep.of_wr W38).1
    have N38 := Fr.snoc X38 N36 g_b
    obtain ⟨c38, hc38⟩ : ∃ z, z = (c36.setSlot ((at_ + (1 : Int32))).toNatClampNeg (.int (nar .byte (((128 : Int32) ||| ((v >>> ((6 : Int32) &&& 31)) &&& (63 : Int32))).toInt8.toInt32)))) := ⟨_, rfl⟩
    have Aq38 : Arr Z h38 b c38 .byte := by rw [hc38]; exact Arr.same W38 Aq36
    have Sq38 : c38.slots.size = (8 : Int32).toNatClampNeg := by rw [hc38, sz_set]; exact Sq36
    have a0_38 : c38.slots[(at_).toNatClampNeg]? = some (.int (nar .byte (((224 : Int32) ||| (v >>> ((12 : Int32) &&& 31))).toInt8.toInt32))) := by rw [hc38]; exact (get_miss (own_nn hp1.1) (own_nn hp0.1) (own_ne (by omega))).trans a0_36
    have a1_38 : c38.slots[((at_ + (1 : Int32))).toNatClampNeg]? = some (.int (nar .byte (((128 : Int32) ||| ((v >>> ((6 : Int32) &&& 31)) &&& (63 : Int32))).toInt8.toInt32))) := by rw [hc38]; exact get_hit (own_in Sq36 ⟨hp1.1, hp1.2.1⟩) rfl
    have st39 : ∀ target, Steps p.tables e below (T38.setTop (mkF m 390 #[.val (.int p0), .val (.int p1), .val (.int p2), .val (.long q3), .second, .val (.int kind), .val (.int r), .val (.int at_), .val (.int v), .val (.int (3 : Int32)), .val (.ref b), .val (.int ((224 : Int32) ||| (v >>> ((12 : Int32) &&& 31)))), .val (.int ((128 : Int32) ||| ((v >>> ((6 : Int32) &&& 31)) &&& (63 : Int32)))), .val (.int ((128 : Int32) ||| (v &&& (63 : Int32)))), .val (.int (0 : Int32))] [(.int (((128 : Int32) ||| (v &&& (63 : Int32))).toInt8.toInt32)), (.int (at_ + (2 : Int32))), (.ref b)])) target → Steps p.tables e below (T38.setTop (mkF m 375 #[.val (.int p0), .val (.int p1), .val (.int p2), .val (.long q3), .second, .val (.int kind), .val (.int r), .val (.int at_), .val (.int v), .val (.int (3 : Int32)), .val (.ref b), .val (.int ((224 : Int32) ||| (v >>> ((12 : Int32) &&& 31)))), .val (.int ((128 : Int32) ||| ((v >>> ((6 : Int32) &&& 31)) &&& (63 : Int32)))), .val (.int ((128 : Int32) ||| (v &&& (63 : Int32)))), .val (.int (0 : Int32))] [])) target := by
      intro target kt
      show Steps p.tables e below (T38.setTop (mkF m 375 #[.val (.int p0), .val (.int p1), .val (.int p2), .val (.long q3), .second, .val (.int kind), .val (.int r), .val (.int at_), .val (.int v), .val (.int (3 : Int32)), .val (.ref b), .val (.int ((224 : Int32) ||| (v >>> ((12 : Int32) &&& 31)))), .val (.int ((128 : Int32) ||| ((v >>> ((6 : Int32) &&& 31)) &&& (63 : Int32)))), .val (.int ((128 : Int32) ||| (v &&& (63 : Int32)))), .val (.int (0 : Int32))] [])) _
      refine XS.iload X38.here hx rfl (hb hby at_375) rfl ?_
      show Steps p.tables e below (T38.setTop (mkF m 377 #[.val (.int p0), .val (.int p1), .val (.int p2), .val (.long q3), .second, .val (.int kind), .val (.int r), .val (.int at_), .val (.int v), .val (.int (3 : Int32)), .val (.ref b), .val (.int ((224 : Int32) ||| (v >>> ((12 : Int32) &&& 31)))), .val (.int ((128 : Int32) ||| ((v >>> ((6 : Int32) &&& 31)) &&& (63 : Int32)))), .val (.int ((128 : Int32) ||| (v &&& (63 : Int32)))), .val (.int (0 : Int32))] [(.int (3 : Int32))])) _
      refine XS.iconst X38.here hx rfl (hb hby at_377) ?_
      show Steps p.tables e below (T38.setTop (mkF m 378 #[.val (.int p0), .val (.int p1), .val (.int p2), .val (.long q3), .second, .val (.int kind), .val (.int r), .val (.int at_), .val (.int v), .val (.int (3 : Int32)), .val (.ref b), .val (.int ((224 : Int32) ||| (v >>> ((12 : Int32) &&& 31)))), .val (.int ((128 : Int32) ||| ((v >>> ((6 : Int32) &&& 31)) &&& (63 : Int32)))), .val (.int ((128 : Int32) ||| (v &&& (63 : Int32)))), .val (.int (0 : Int32))] [(.int (3 : Int32)), (.int (3 : Int32))])) _
      refine XS.icmpNo X38.here hx rfl (hb hby at_378) rfl (flt (by decide : ¬ ((3 : Int32) < (3 : Int32)))).1 ?_
      show Steps p.tables e below (T38.setTop (mkF m 381 #[.val (.int p0), .val (.int p1), .val (.int p2), .val (.long q3), .second, .val (.int kind), .val (.int r), .val (.int at_), .val (.int v), .val (.int (3 : Int32)), .val (.ref b), .val (.int ((224 : Int32) ||| (v >>> ((12 : Int32) &&& 31)))), .val (.int ((128 : Int32) ||| ((v >>> ((6 : Int32) &&& 31)) &&& (63 : Int32)))), .val (.int ((128 : Int32) ||| (v &&& (63 : Int32)))), .val (.int (0 : Int32))] [])) _
      refine XS.aload X38.here hx rfl (hb hby at_381) rfl rfl ?_
      show Steps p.tables e below (T38.setTop (mkF m 383 #[.val (.int p0), .val (.int p1), .val (.int p2), .val (.long q3), .second, .val (.int kind), .val (.int r), .val (.int at_), .val (.int v), .val (.int (3 : Int32)), .val (.ref b), .val (.int ((224 : Int32) ||| (v >>> ((12 : Int32) &&& 31)))), .val (.int ((128 : Int32) ||| ((v >>> ((6 : Int32) &&& 31)) &&& (63 : Int32)))), .val (.int ((128 : Int32) ||| (v &&& (63 : Int32)))), .val (.int (0 : Int32))] [(.ref b)])) _
      refine XS.iload X38.here hx rfl (hb hby at_383) rfl ?_
      show Steps p.tables e below (T38.setTop (mkF m 385 #[.val (.int p0), .val (.int p1), .val (.int p2), .val (.long q3), .second, .val (.int kind), .val (.int r), .val (.int at_), .val (.int v), .val (.int (3 : Int32)), .val (.ref b), .val (.int ((224 : Int32) ||| (v >>> ((12 : Int32) &&& 31)))), .val (.int ((128 : Int32) ||| ((v >>> ((6 : Int32) &&& 31)) &&& (63 : Int32)))), .val (.int ((128 : Int32) ||| (v &&& (63 : Int32)))), .val (.int (0 : Int32))] [(.int at_), (.ref b)])) _
      refine XS.iconst X38.here hx rfl (hb hby at_385) ?_
      show Steps p.tables e below (T38.setTop (mkF m 386 #[.val (.int p0), .val (.int p1), .val (.int p2), .val (.long q3), .second, .val (.int kind), .val (.int r), .val (.int at_), .val (.int v), .val (.int (3 : Int32)), .val (.ref b), .val (.int ((224 : Int32) ||| (v >>> ((12 : Int32) &&& 31)))), .val (.int ((128 : Int32) ||| ((v >>> ((6 : Int32) &&& 31)) &&& (63 : Int32)))), .val (.int ((128 : Int32) ||| (v &&& (63 : Int32)))), .val (.int (0 : Int32))] [(.int (2 : Int32)), (.int at_), (.ref b)])) _
      refine XS.iadd X38.here hx rfl (hb hby at_386) rfl ?_
      show Steps p.tables e below (T38.setTop (mkF m 387 #[.val (.int p0), .val (.int p1), .val (.int p2), .val (.long q3), .second, .val (.int kind), .val (.int r), .val (.int at_), .val (.int v), .val (.int (3 : Int32)), .val (.ref b), .val (.int ((224 : Int32) ||| (v >>> ((12 : Int32) &&& 31)))), .val (.int ((128 : Int32) ||| ((v >>> ((6 : Int32) &&& 31)) &&& (63 : Int32)))), .val (.int ((128 : Int32) ||| (v &&& (63 : Int32)))), .val (.int (0 : Int32))] [(.int (at_ + (2 : Int32))), (.ref b)])) _
      refine XS.iload X38.here hx rfl (hb hby at_387) rfl ?_
      show Steps p.tables e below (T38.setTop (mkF m 389 #[.val (.int p0), .val (.int p1), .val (.int p2), .val (.long q3), .second, .val (.int kind), .val (.int r), .val (.int at_), .val (.int v), .val (.int (3 : Int32)), .val (.ref b), .val (.int ((224 : Int32) ||| (v >>> ((12 : Int32) &&& 31)))), .val (.int ((128 : Int32) ||| ((v >>> ((6 : Int32) &&& 31)) &&& (63 : Int32)))), .val (.int ((128 : Int32) ||| (v &&& (63 : Int32)))), .val (.int (0 : Int32))] [(.int ((128 : Int32) ||| (v &&& (63 : Int32)))), (.int (at_ + (2 : Int32))), (.ref b)])) _
      refine XS.i2b X38.here hx rfl (hb hby at_389) rfl ?_
      exact kt
    obtain ⟨T40, h40, X40, e40, W40, st40⟩ := stB X38 hx hZ e38 Aq38 (j := (at_ + (2 : Int32))) (own_in Sq38 ⟨hp2.1, hp2.2.1⟩) (g := (mkF m 390 #[.val (.int p0), .val (.int p1), .val (.int p2), .val (.long q3), .second, .val (.int kind), .val (.int r), .val (.int at_), .val (.int v), .val (.int (3 : Int32)), .val (.ref b), .val (.int ((224 : Int32) ||| (v >>> ((12 : Int32) &&& 31)))), .val (.int ((128 : Int32) ||| ((v >>> ((6 : Int32) &&& 31)) &&& (63 : Int32)))), .val (.int ((128 : Int32) ||| (v &&& (63 : Int32)))), .val (.int (0 : Int32))] [(.int (((128 : Int32) ||| (v &&& (63 : Int32))).toInt8.toInt32)), (.int (at_ + (2 : Int32))), (.ref b)])) rfl rfl (hb hby at_390)
    have Z_40 : n0 ≤ h40.size := Nat.le_trans Z_38 (Keep.of_wr W40).1
    have N40 := Fr.snoc X40 N38 g_b
    obtain ⟨c40, hc40⟩ : ∃ z, z = (c38.setSlot ((at_ + (2 : Int32))).toNatClampNeg (.int (nar .byte (((128 : Int32) ||| (v &&& (63 : Int32))).toInt8.toInt32)))) := ⟨_, rfl⟩
    have Aq40 : Arr Z h40 b c40 .byte := by rw [hc40]; exact Arr.same W40 Aq38
    have Sq40 : c40.slots.size = (8 : Int32).toNatClampNeg := by rw [hc40, sz_set]; exact Sq38
    have a0_40 : c40.slots[(at_).toNatClampNeg]? = some (.int (nar .byte (((224 : Int32) ||| (v >>> ((12 : Int32) &&& 31))).toInt8.toInt32))) := by rw [hc40]; exact (get_miss (own_nn hp2.1) (own_nn hp0.1) (own_ne (by omega))).trans a0_38
    have a1_40 : c40.slots[((at_ + (1 : Int32))).toNatClampNeg]? = some (.int (nar .byte (((128 : Int32) ||| ((v >>> ((6 : Int32) &&& 31)) &&& (63 : Int32))).toInt8.toInt32))) := by rw [hc40]; exact (get_miss (own_nn hp2.1) (own_nn hp1.1) (own_ne (by omega))).trans a1_38
    have a2_40 : c40.slots[((at_ + (2 : Int32))).toNatClampNeg]? = some (.int (nar .byte (((128 : Int32) ||| (v &&& (63 : Int32))).toInt8.toInt32))) := by rw [hc40]; exact get_hit (own_in Sq38 ⟨hp2.1, hp2.2.1⟩) rfl
    have st41 : ∀ target, Steps p.tables e below (T40.setTop (mkF m 413 #[.val (.int p0), .val (.int p1), .val (.int p2), .val (.long q3), .second, .val (.int kind), .val (.int r), .val (.int at_), .val (.int v), .val (.int (3 : Int32)), .val (.ref b), .val (.int ((224 : Int32) ||| (v >>> ((12 : Int32) &&& 31)))), .val (.int ((128 : Int32) ||| ((v >>> ((6 : Int32) &&& 31)) &&& (63 : Int32)))), .val (.int ((128 : Int32) ||| (v &&& (63 : Int32)))), .val (.int (0 : Int32))] [(.int (3 : Int32)), (.int at_), (.ref b)])) target → Steps p.tables e below (T40.setTop (mkF m 391 #[.val (.int p0), .val (.int p1), .val (.int p2), .val (.long q3), .second, .val (.int kind), .val (.int r), .val (.int at_), .val (.int v), .val (.int (3 : Int32)), .val (.ref b), .val (.int ((224 : Int32) ||| (v >>> ((12 : Int32) &&& 31)))), .val (.int ((128 : Int32) ||| ((v >>> ((6 : Int32) &&& 31)) &&& (63 : Int32)))), .val (.int ((128 : Int32) ||| (v &&& (63 : Int32)))), .val (.int (0 : Int32))] [])) target := by
      intro target kt
      show Steps p.tables e below (T40.setTop (mkF m 391 #[.val (.int p0), .val (.int p1), .val (.int p2), .val (.long q3), .second, .val (.int kind), .val (.int r), .val (.int at_), .val (.int v), .val (.int (3 : Int32)), .val (.ref b), .val (.int ((224 : Int32) ||| (v >>> ((12 : Int32) &&& 31)))), .val (.int ((128 : Int32) ||| ((v >>> ((6 : Int32) &&& 31)) &&& (63 : Int32)))), .val (.int ((128 : Int32) ||| (v &&& (63 : Int32)))), .val (.int (0 : Int32))] [])) _
      refine XS.iload X40.here hx rfl (hb hby at_391) rfl ?_
      show Steps p.tables e below (T40.setTop (mkF m 393 #[.val (.int p0), .val (.int p1), .val (.int p2), .val (.long q3), .second, .val (.int kind), .val (.int r), .val (.int at_), .val (.int v), .val (.int (3 : Int32)), .val (.ref b), .val (.int ((224 : Int32) ||| (v >>> ((12 : Int32) &&& 31)))), .val (.int ((128 : Int32) ||| ((v >>> ((6 : Int32) &&& 31)) &&& (63 : Int32)))), .val (.int ((128 : Int32) ||| (v &&& (63 : Int32)))), .val (.int (0 : Int32))] [(.int (3 : Int32))])) _
      refine XS.iconst X40.here hx rfl (hb hby at_393) ?_
      show Steps p.tables e below (T40.setTop (mkF m 394 #[.val (.int p0), .val (.int p1), .val (.int p2), .val (.long q3), .second, .val (.int kind), .val (.int r), .val (.int at_), .val (.int v), .val (.int (3 : Int32)), .val (.ref b), .val (.int ((224 : Int32) ||| (v >>> ((12 : Int32) &&& 31)))), .val (.int ((128 : Int32) ||| ((v >>> ((6 : Int32) &&& 31)) &&& (63 : Int32)))), .val (.int ((128 : Int32) ||| (v &&& (63 : Int32)))), .val (.int (0 : Int32))] [(.int (4 : Int32)), (.int (3 : Int32))])) _
      refine XS.icmpYes X40.here hx rfl (pc0 := 394) (pc' := 407) rfl (hb hby at_394) rfl (tlt (by decide : ((3 : Int32) < (4 : Int32)))).1 (by decide) (by decide) ?_
      show Steps p.tables e below (T40.setTop (mkF m 407 #[.val (.int p0), .val (.int p1), .val (.int p2), .val (.long q3), .second, .val (.int kind), .val (.int r), .val (.int at_), .val (.int v), .val (.int (3 : Int32)), .val (.ref b), .val (.int ((224 : Int32) ||| (v >>> ((12 : Int32) &&& 31)))), .val (.int ((128 : Int32) ||| ((v >>> ((6 : Int32) &&& 31)) &&& (63 : Int32)))), .val (.int ((128 : Int32) ||| (v &&& (63 : Int32)))), .val (.int (0 : Int32))] [])) _
      refine XS.aload X40.here hx rfl (hb hby at_407) rfl rfl ?_
      show Steps p.tables e below (T40.setTop (mkF m 409 #[.val (.int p0), .val (.int p1), .val (.int p2), .val (.long q3), .second, .val (.int kind), .val (.int r), .val (.int at_), .val (.int v), .val (.int (3 : Int32)), .val (.ref b), .val (.int ((224 : Int32) ||| (v >>> ((12 : Int32) &&& 31)))), .val (.int ((128 : Int32) ||| ((v >>> ((6 : Int32) &&& 31)) &&& (63 : Int32)))), .val (.int ((128 : Int32) ||| (v &&& (63 : Int32)))), .val (.int (0 : Int32))] [(.ref b)])) _
      refine XS.iload X40.here hx rfl (hb hby at_409) rfl ?_
      show Steps p.tables e below (T40.setTop (mkF m 411 #[.val (.int p0), .val (.int p1), .val (.int p2), .val (.long q3), .second, .val (.int kind), .val (.int r), .val (.int at_), .val (.int v), .val (.int (3 : Int32)), .val (.ref b), .val (.int ((224 : Int32) ||| (v >>> ((12 : Int32) &&& 31)))), .val (.int ((128 : Int32) ||| ((v >>> ((6 : Int32) &&& 31)) &&& (63 : Int32)))), .val (.int ((128 : Int32) ||| (v &&& (63 : Int32)))), .val (.int (0 : Int32))] [(.int at_), (.ref b)])) _
      refine XS.iload X40.here hx rfl (hb hby at_411) rfl ?_
      exact kt
    obtain ⟨_, _, ⟨T42, L42, k42, n42⟩, -, X42, ⟨Lc42, hQ42, l42, y42, z42⟩, st42⟩ := Jvm.LawKit.callS X40 hx (y := (⟨"com/example/murray_hill/murrayhill/WellFormed", "codePoint", "([BII)I"⟩ : MethodName)) hown (mvT hZ (hw _ (List.mem_of_getElem? (i := 2) rfl))) (mvT hZ (hw _ (List.mem_of_getElem? (i := 3) rfl))) (mvT hZ (hw _ (List.mem_of_getElem? (i := 4) rfl))) (mvT hZ (hw _ (List.mem_of_getElem? (i := 5) rfl))) (by decide) (backOf (W := 0) (rmCP3 l Z a0 hw [] b at_ c40 ((nar .byte (((224 : Int32) ||| (v >>> ((12 : Int32) &&& 31))).toInt8.toInt32))) ((nar .byte (((128 : Int32) ||| ((v >>> ((6 : Int32) &&& 31)) &&& (63 : Int32))).toInt8.toInt32))) ((nar .byte (((128 : Int32) ||| (v &&& (63 : Int32))).toInt8.toInt32))) h40 n0 Z_40 Aq40 (own_in Sq40 ⟨hp0.1, hp0.2.1⟩) (own_in Sq40 ⟨hp1.1, hp1.2.1⟩) (own_in Sq40 ⟨hp2.1, hp2.2.1⟩) a0_40 a1_40 a2_40) hZ (hw _ (List.mem_of_getElem? (i := 5) rfl)) (hw _ (List.mem_of_getElem? (i := 4) rfl)) (by decide) (by decide)) (g := (mkF m 413 #[.val (.int p0), .val (.int p1), .val (.int p2), .val (.long q3), .second, .val (.int kind), .val (.int r), .val (.int at_), .val (.int v), .val (.int (3 : Int32)), .val (.ref b), .val (.int ((224 : Int32) ||| (v >>> ((12 : Int32) &&& 31)))), .val (.int ((128 : Int32) ||| ((v >>> ((6 : Int32) &&& 31)) &&& (63 : Int32)))), .val (.int ((128 : Int32) ||| (v &&& (63 : Int32)))), .val (.int (0 : Int32))] [(.int (3 : Int32)), (.int at_), (.ref b)])) rfl (by rw [hml]; rfl) (argsL := [(.ref b), (.int at_), (.int (3 : Int32))]) (rest := []) (lenOf pd_0 rfl) rfl (by show 2 * 0 + _ ≤ _; exact Nat.le_of_eq rfl) (hb hby at_413) (fun _ _ => ⟨rfl, e40, (by decide : 1 + 0 ≤ _), (by decide : 8 + 0 ≤ _)⟩)
    dsimp only [Pt.U, Pt.locs, Pt.cells, Pt.slots] at X42 l42 y42 z42 st42 hQ42
    subst l42 y42 z42
    obtain ⟨rfl, Nq42, e42⟩ := hQ42
    have N42 := Fr.app N40 Nq42
    obtain ⟨fs, hr, hrun, hended, hW, hsame⟩ := X42.leave (v := some (.int (1 : Int32))) (fun h => by rw [Bd.returns] at h; cases h)
    refine ⟨_, _, pre0 _ (st1 _ (st2 _ (st3 _ (st4 _ (st5 _ (st6 _ (st7 _ (st8 _ (st9 _ (st10 _ (st11 _ (st12 _ (st13 _ (st14 _ (st15 _ (st16 _ (st17 _ (st18 _ (st19 _ (st20 _ (st21 _ (st34 _ (st35 _ (st36 _ (st37 _ (st38 _ (st39 _ (st40 _ (st41 _ (st42 _ ?_)))))))))))))))))))))))))))))), hrun, hended, _, _, rfl, ?_, ⟨_, rfl⟩, hW, hsame.mono (by decide) (by decide)⟩
    · show Steps p.tables e below (T42.setTop (mkF m 416 #[.val (.int p0), .val (.int p1), .val (.int p2), .val (.long q3), .second, .val (.int kind), .val (.int r), .val (.int at_), .val (.int v), .val (.int (3 : Int32)), .val (.ref b), .val (.int ((224 : Int32) ||| (v >>> ((12 : Int32) &&& 31)))), .val (.int ((128 : Int32) ||| ((v >>> ((6 : Int32) &&& 31)) &&& (63 : Int32)))), .val (.int ((128 : Int32) ||| (v &&& (63 : Int32)))), .val (.int (0 : Int32))] [(.int (own_cp3 (nar .byte (((224 : Int32) ||| (v >>> ((12 : Int32) &&& 31))).toInt8.toInt32)) (nar .byte (((128 : Int32) ||| ((v >>> ((6 : Int32) &&& 31)) &&& (63 : Int32))).toInt8.toInt32)) (nar .byte (((128 : Int32) ||| (v &&& (63 : Int32))).toInt8.toInt32))))])) _
      refine XS.iload X42.here hx rfl (hb hby at_416) rfl ?_
      show Steps p.tables e below (T42.setTop (mkF m 418 #[.val (.int p0), .val (.int p1), .val (.int p2), .val (.long q3), .second, .val (.int kind), .val (.int r), .val (.int at_), .val (.int v), .val (.int (3 : Int32)), .val (.ref b), .val (.int ((224 : Int32) ||| (v >>> ((12 : Int32) &&& 31)))), .val (.int ((128 : Int32) ||| ((v >>> ((6 : Int32) &&& 31)) &&& (63 : Int32)))), .val (.int ((128 : Int32) ||| (v &&& (63 : Int32)))), .val (.int (0 : Int32))] [(.int v), (.int (own_cp3 (nar .byte (((224 : Int32) ||| (v >>> ((12 : Int32) &&& 31))).toInt8.toInt32)) (nar .byte (((128 : Int32) ||| ((v >>> ((6 : Int32) &&& 31)) &&& (63 : Int32))).toInt8.toInt32)) (nar .byte (((128 : Int32) ||| (v &&& (63 : Int32))).toInt8.toInt32))))])) _
      refine XS.icmpNo X42.here hx rfl (hb hby at_418) rfl (teq (own_v3 v0 v1)).2 ?_
      show Steps p.tables e below (T42.setTop (mkF m 421 #[.val (.int p0), .val (.int p1), .val (.int p2), .val (.long q3), .second, .val (.int kind), .val (.int r), .val (.int at_), .val (.int v), .val (.int (3 : Int32)), .val (.ref b), .val (.int ((224 : Int32) ||| (v >>> ((12 : Int32) &&& 31)))), .val (.int ((128 : Int32) ||| ((v >>> ((6 : Int32) &&& 31)) &&& (63 : Int32)))), .val (.int ((128 : Int32) ||| (v &&& (63 : Int32)))), .val (.int (0 : Int32))] [])) _
      refine XS.iconst X42.here hx rfl (hb hby at_421) ?_
      show Steps p.tables e below (T42.setTop (mkF m 422 #[.val (.int p0), .val (.int p1), .val (.int p2), .val (.long q3), .second, .val (.int kind), .val (.int r), .val (.int at_), .val (.int v), .val (.int (3 : Int32)), .val (.ref b), .val (.int ((224 : Int32) ||| (v >>> ((12 : Int32) &&& 31)))), .val (.int ((128 : Int32) ||| ((v >>> ((6 : Int32) &&& 31)) &&& (63 : Int32)))), .val (.int ((128 : Int32) ||| (v &&& (63 : Int32)))), .val (.int (0 : Int32))] [(.int (1 : Int32))])) _
      refine XS.goto X42.here hx rfl (pc0 := 422) (pc' := 426) rfl (hb hby at_422) (by decide) (by decide) ?_
      show Steps p.tables e below (T42.setTop (mkF m 426 #[.val (.int p0), .val (.int p1), .val (.int p2), .val (.long q3), .second, .val (.int kind), .val (.int r), .val (.int at_), .val (.int v), .val (.int (3 : Int32)), .val (.ref b), .val (.int ((224 : Int32) ||| (v >>> ((12 : Int32) &&& 31)))), .val (.int ((128 : Int32) ||| ((v >>> ((6 : Int32) &&& 31)) &&& (63 : Int32)))), .val (.int ((128 : Int32) ||| (v &&& (63 : Int32)))), .val (.int (0 : Int32))] [(.int (1 : Int32))])) _
      exact retN X42 hx (t := .boolean) Bd.returns (by simp) (hb hby at_426) hr
    · show Q_rm0 Z p0 p1 p2 q3 h0 n0 _ T42.heap _
      rw [e42]
      exact ⟨rfl, N42⟩
  · have st43 : ∀ target, Steps p.tables e below (T20.setTop (mkF m 351 #[.val (.int p0), .val (.int p1), .val (.int p2), .val (.long q3), .second, .val (.int kind), .val (.int r), .val (.int at_), .val (.int v), .val (.int (4 : Int32)), .val (.ref b), .val (.int ((240 : Int32) ||| (v >>> ((18 : Int32) &&& 31)))), .val (.int ((128 : Int32) ||| ((v >>> ((12 : Int32) &&& 31)) &&& (63 : Int32)))), .val (.int ((128 : Int32) ||| ((v >>> ((6 : Int32) &&& 31)) &&& (63 : Int32)))), .val (.int ((128 : Int32) ||| (v &&& (63 : Int32))))] [])) target → Steps p.tables e below (T20.setTop (mkF m 212 #[.val (.int p0), .val (.int p1), .val (.int p2), .val (.long q3), .second, .val (.int kind), .val (.int r), .val (.int at_), .val (.int v), .val (.int (4 : Int32)), .val (.ref b), .val (.int (0 : Int32)), .val (.int (0 : Int32)), .val (.int (0 : Int32)), .val (.int (0 : Int32))] [])) target := by
      intro target kt
      show Steps p.tables e below (T20.setTop (mkF m 212 #[.val (.int p0), .val (.int p1), .val (.int p2), .val (.long q3), .second, .val (.int kind), .val (.int r), .val (.int at_), .val (.int v), .val (.int (4 : Int32)), .val (.ref b), .val (.int (0 : Int32)), .val (.int (0 : Int32)), .val (.int (0 : Int32)), .val (.int (0 : Int32))] [])) _
      refine XS.iload X20.here hx rfl (hb hby at_212) rfl ?_
      show Steps p.tables e below (T20.setTop (mkF m 214 #[.val (.int p0), .val (.int p1), .val (.int p2), .val (.long q3), .second, .val (.int kind), .val (.int r), .val (.int at_), .val (.int v), .val (.int (4 : Int32)), .val (.ref b), .val (.int (0 : Int32)), .val (.int (0 : Int32)), .val (.int (0 : Int32)), .val (.int (0 : Int32))] [(.int (4 : Int32))])) _
      refine XS.iconst X20.here hx rfl (hb hby at_214) ?_
      show Steps p.tables e below (T20.setTop (mkF m 215 #[.val (.int p0), .val (.int p1), .val (.int p2), .val (.long q3), .second, .val (.int kind), .val (.int r), .val (.int at_), .val (.int v), .val (.int (4 : Int32)), .val (.ref b), .val (.int (0 : Int32)), .val (.int (0 : Int32)), .val (.int (0 : Int32)), .val (.int (0 : Int32))] [(.int (1 : Int32)), (.int (4 : Int32))])) _
      refine XS.icmpYes X20.here hx rfl (pc0 := 215) (pc' := 225) rfl (hb hby at_215) rfl (feq (by decide : ¬ ((4 : Int32) = (1 : Int32)))).2 (by decide) (by decide) ?_
      show Steps p.tables e below (T20.setTop (mkF m 225 #[.val (.int p0), .val (.int p1), .val (.int p2), .val (.long q3), .second, .val (.int kind), .val (.int r), .val (.int at_), .val (.int v), .val (.int (4 : Int32)), .val (.ref b), .val (.int (0 : Int32)), .val (.int (0 : Int32)), .val (.int (0 : Int32)), .val (.int (0 : Int32))] [])) _
      refine XS.iload X20.here hx rfl (hb hby at_225) rfl ?_
      show Steps p.tables e below (T20.setTop (mkF m 227 #[.val (.int p0), .val (.int p1), .val (.int p2), .val (.long q3), .second, .val (.int kind), .val (.int r), .val (.int at_), .val (.int v), .val (.int (4 : Int32)), .val (.ref b), .val (.int (0 : Int32)), .val (.int (0 : Int32)), .val (.int (0 : Int32)), .val (.int (0 : Int32))] [(.int (4 : Int32))])) _
      refine XS.iconst X20.here hx rfl (hb hby at_227) ?_
      show Steps p.tables e below (T20.setTop (mkF m 228 #[.val (.int p0), .val (.int p1), .val (.int p2), .val (.long q3), .second, .val (.int kind), .val (.int r), .val (.int at_), .val (.int v), .val (.int (4 : Int32)), .val (.ref b), .val (.int (0 : Int32)), .val (.int (0 : Int32)), .val (.int (0 : Int32)), .val (.int (0 : Int32))] [(.int (2 : Int32)), (.int (4 : Int32))])) _
      refine XS.icmpYes X20.here hx rfl (pc0 := 228) (pc' := 256) rfl (hb hby at_228) rfl (feq (by decide : ¬ ((4 : Int32) = (2 : Int32)))).2 (by decide) (by decide) ?_
      show Steps p.tables e below (T20.setTop (mkF m 256 #[.val (.int p0), .val (.int p1), .val (.int p2), .val (.long q3), .second, .val (.int kind), .val (.int r), .val (.int at_), .val (.int v), .val (.int (4 : Int32)), .val (.ref b), .val (.int (0 : Int32)), .val (.int (0 : Int32)), .val (.int (0 : Int32)), .val (.int (0 : Int32))] [])) _
      refine XS.iload X20.here hx rfl (hb hby at_256) rfl ?_
      show Steps p.tables e below (T20.setTop (mkF m 258 #[.val (.int p0), .val (.int p1), .val (.int p2), .val (.long q3), .second, .val (.int kind), .val (.int r), .val (.int at_), .val (.int v), .val (.int (4 : Int32)), .val (.ref b), .val (.int (0 : Int32)), .val (.int (0 : Int32)), .val (.int (0 : Int32)), .val (.int (0 : Int32))] [(.int (4 : Int32))])) _
      refine XS.iconst X20.here hx rfl (hb hby at_258) ?_
      show Steps p.tables e below (T20.setTop (mkF m 259 #[.val (.int p0), .val (.int p1), .val (.int p2), .val (.long q3), .second, .val (.int kind), .val (.int r), .val (.int at_), .val (.int v), .val (.int (4 : Int32)), .val (.ref b), .val (.int (0 : Int32)), .val (.int (0 : Int32)), .val (.int (0 : Int32)), .val (.int (0 : Int32))] [(.int (3 : Int32)), (.int (4 : Int32))])) _
      refine XS.icmpYes X20.here hx rfl (pc0 := 259) (pc' := 301) rfl (hb hby at_259) rfl (feq (by decide : ¬ ((4 : Int32) = (3 : Int32)))).2 (by decide) (by decide) ?_
      show Steps p.tables e below (T20.setTop (mkF m 301 #[.val (.int p0), .val (.int p1), .val (.int p2), .val (.long q3), .second, .val (.int kind), .val (.int r), .val (.int at_), .val (.int v), .val (.int (4 : Int32)), .val (.ref b), .val (.int (0 : Int32)), .val (.int (0 : Int32)), .val (.int (0 : Int32)), .val (.int (0 : Int32))] [])) _
      refine XS.sipush X20.here hx rfl (hb hby at_301) ?_
      show Steps p.tables e below (T20.setTop (mkF m 304 #[.val (.int p0), .val (.int p1), .val (.int p2), .val (.long q3), .second, .val (.int kind), .val (.int r), .val (.int at_), .val (.int v), .val (.int (4 : Int32)), .val (.ref b), .val (.int (0 : Int32)), .val (.int (0 : Int32)), .val (.int (0 : Int32)), .val (.int (0 : Int32))] [(.int (240 : Int32))])) _
      refine XS.iload X20.here hx rfl (hb hby at_304) rfl ?_
      show Steps p.tables e below (T20.setTop (mkF m 306 #[.val (.int p0), .val (.int p1), .val (.int p2), .val (.long q3), .second, .val (.int kind), .val (.int r), .val (.int at_), .val (.int v), .val (.int (4 : Int32)), .val (.ref b), .val (.int (0 : Int32)), .val (.int (0 : Int32)), .val (.int (0 : Int32)), .val (.int (0 : Int32))] [(.int v), (.int (240 : Int32))])) _
      refine XS.bipush X20.here hx rfl (hb hby at_306) ?_
      show Steps p.tables e below (T20.setTop (mkF m 308 #[.val (.int p0), .val (.int p1), .val (.int p2), .val (.long q3), .second, .val (.int kind), .val (.int r), .val (.int at_), .val (.int v), .val (.int (4 : Int32)), .val (.ref b), .val (.int (0 : Int32)), .val (.int (0 : Int32)), .val (.int (0 : Int32)), .val (.int (0 : Int32))] [(.int (18 : Int32)), (.int v), (.int (240 : Int32))])) _
      refine XS.ishr X20.here hx rfl (hb hby at_308) rfl ?_
      show Steps p.tables e below (T20.setTop (mkF m 309 #[.val (.int p0), .val (.int p1), .val (.int p2), .val (.long q3), .second, .val (.int kind), .val (.int r), .val (.int at_), .val (.int v), .val (.int (4 : Int32)), .val (.ref b), .val (.int (0 : Int32)), .val (.int (0 : Int32)), .val (.int (0 : Int32)), .val (.int (0 : Int32))] [(.int (v >>> ((18 : Int32) &&& 31))), (.int (240 : Int32))])) _
      refine XS.ior X20.here hx rfl (hb hby at_309) rfl ?_
      show Steps p.tables e below (T20.setTop (mkF m 310 #[.val (.int p0), .val (.int p1), .val (.int p2), .val (.long q3), .second, .val (.int kind), .val (.int r), .val (.int at_), .val (.int v), .val (.int (4 : Int32)), .val (.ref b), .val (.int (0 : Int32)), .val (.int (0 : Int32)), .val (.int (0 : Int32)), .val (.int (0 : Int32))] [(.int ((240 : Int32) ||| (v >>> ((18 : Int32) &&& 31))))])) _
      refine XS.istore X20.here hx rfl (hb hby at_310) rfl (l' := #[.val (.int p0), .val (.int p1), .val (.int p2), .val (.long q3), .second, .val (.int kind), .val (.int r), .val (.int at_), .val (.int v), .val (.int (4 : Int32)), .val (.ref b), .val (.int ((240 : Int32) ||| (v >>> ((18 : Int32) &&& 31)))), .val (.int (0 : Int32)), .val (.int (0 : Int32)), .val (.int (0 : Int32))]) rfl ?_
      show Steps p.tables e below (T20.setTop (mkF m 312 #[.val (.int p0), .val (.int p1), .val (.int p2), .val (.long q3), .second, .val (.int kind), .val (.int r), .val (.int at_), .val (.int v), .val (.int (4 : Int32)), .val (.ref b), .val (.int ((240 : Int32) ||| (v >>> ((18 : Int32) &&& 31)))), .val (.int (0 : Int32)), .val (.int (0 : Int32)), .val (.int (0 : Int32))] [])) _
      refine XS.sipush X20.here hx rfl (hb hby at_312) ?_
      show Steps p.tables e below (T20.setTop (mkF m 315 #[.val (.int p0), .val (.int p1), .val (.int p2), .val (.long q3), .second, .val (.int kind), .val (.int r), .val (.int at_), .val (.int v), .val (.int (4 : Int32)), .val (.ref b), .val (.int ((240 : Int32) ||| (v >>> ((18 : Int32) &&& 31)))), .val (.int (0 : Int32)), .val (.int (0 : Int32)), .val (.int (0 : Int32))] [(.int (128 : Int32))])) _
      refine XS.iload X20.here hx rfl (hb hby at_315) rfl ?_
      show Steps p.tables e below (T20.setTop (mkF m 317 #[.val (.int p0), .val (.int p1), .val (.int p2), .val (.long q3), .second, .val (.int kind), .val (.int r), .val (.int at_), .val (.int v), .val (.int (4 : Int32)), .val (.ref b), .val (.int ((240 : Int32) ||| (v >>> ((18 : Int32) &&& 31)))), .val (.int (0 : Int32)), .val (.int (0 : Int32)), .val (.int (0 : Int32))] [(.int v), (.int (128 : Int32))])) _
      refine XS.bipush X20.here hx rfl (hb hby at_317) ?_
      show Steps p.tables e below (T20.setTop (mkF m 319 #[.val (.int p0), .val (.int p1), .val (.int p2), .val (.long q3), .second, .val (.int kind), .val (.int r), .val (.int at_), .val (.int v), .val (.int (4 : Int32)), .val (.ref b), .val (.int ((240 : Int32) ||| (v >>> ((18 : Int32) &&& 31)))), .val (.int (0 : Int32)), .val (.int (0 : Int32)), .val (.int (0 : Int32))] [(.int (12 : Int32)), (.int v), (.int (128 : Int32))])) _
      refine XS.ishr X20.here hx rfl (hb hby at_319) rfl ?_
      show Steps p.tables e below (T20.setTop (mkF m 320 #[.val (.int p0), .val (.int p1), .val (.int p2), .val (.long q3), .second, .val (.int kind), .val (.int r), .val (.int at_), .val (.int v), .val (.int (4 : Int32)), .val (.ref b), .val (.int ((240 : Int32) ||| (v >>> ((18 : Int32) &&& 31)))), .val (.int (0 : Int32)), .val (.int (0 : Int32)), .val (.int (0 : Int32))] [(.int (v >>> ((12 : Int32) &&& 31))), (.int (128 : Int32))])) _
      refine XS.bipush X20.here hx rfl (hb hby at_320) ?_
      show Steps p.tables e below (T20.setTop (mkF m 322 #[.val (.int p0), .val (.int p1), .val (.int p2), .val (.long q3), .second, .val (.int kind), .val (.int r), .val (.int at_), .val (.int v), .val (.int (4 : Int32)), .val (.ref b), .val (.int ((240 : Int32) ||| (v >>> ((18 : Int32) &&& 31)))), .val (.int (0 : Int32)), .val (.int (0 : Int32)), .val (.int (0 : Int32))] [(.int (63 : Int32)), (.int (v >>> ((12 : Int32) &&& 31))), (.int (128 : Int32))])) _
      refine XS.iand X20.here hx rfl (hb hby at_322) rfl ?_
      show Steps p.tables e below (T20.setTop (mkF m 323 #[.val (.int p0), .val (.int p1), .val (.int p2), .val (.long q3), .second, .val (.int kind), .val (.int r), .val (.int at_), .val (.int v), .val (.int (4 : Int32)), .val (.ref b), .val (.int ((240 : Int32) ||| (v >>> ((18 : Int32) &&& 31)))), .val (.int (0 : Int32)), .val (.int (0 : Int32)), .val (.int (0 : Int32))] [(.int ((v >>> ((12 : Int32) &&& 31)) &&& (63 : Int32))), (.int (128 : Int32))])) _
      refine XS.ior X20.here hx rfl (hb hby at_323) rfl ?_
      show Steps p.tables e below (T20.setTop (mkF m 324 #[.val (.int p0), .val (.int p1), .val (.int p2), .val (.long q3), .second, .val (.int kind), .val (.int r), .val (.int at_), .val (.int v), .val (.int (4 : Int32)), .val (.ref b), .val (.int ((240 : Int32) ||| (v >>> ((18 : Int32) &&& 31)))), .val (.int (0 : Int32)), .val (.int (0 : Int32)), .val (.int (0 : Int32))] [(.int ((128 : Int32) ||| ((v >>> ((12 : Int32) &&& 31)) &&& (63 : Int32))))])) _
      refine XS.istore X20.here hx rfl (hb hby at_324) rfl (l' := #[.val (.int p0), .val (.int p1), .val (.int p2), .val (.long q3), .second, .val (.int kind), .val (.int r), .val (.int at_), .val (.int v), .val (.int (4 : Int32)), .val (.ref b), .val (.int ((240 : Int32) ||| (v >>> ((18 : Int32) &&& 31)))), .val (.int ((128 : Int32) ||| ((v >>> ((12 : Int32) &&& 31)) &&& (63 : Int32)))), .val (.int (0 : Int32)), .val (.int (0 : Int32))]) rfl ?_
      show Steps p.tables e below (T20.setTop (mkF m 326 #[.val (.int p0), .val (.int p1), .val (.int p2), .val (.long q3), .second, .val (.int kind), .val (.int r), .val (.int at_), .val (.int v), .val (.int (4 : Int32)), .val (.ref b), .val (.int ((240 : Int32) ||| (v >>> ((18 : Int32) &&& 31)))), .val (.int ((128 : Int32) ||| ((v >>> ((12 : Int32) &&& 31)) &&& (63 : Int32)))), .val (.int (0 : Int32)), .val (.int (0 : Int32))] [])) _
      refine XS.sipush X20.here hx rfl (hb hby at_326) ?_
      show Steps p.tables e below (T20.setTop (mkF m 329 #[.val (.int p0), .val (.int p1), .val (.int p2), .val (.long q3), .second, .val (.int kind), .val (.int r), .val (.int at_), .val (.int v), .val (.int (4 : Int32)), .val (.ref b), .val (.int ((240 : Int32) ||| (v >>> ((18 : Int32) &&& 31)))), .val (.int ((128 : Int32) ||| ((v >>> ((12 : Int32) &&& 31)) &&& (63 : Int32)))), .val (.int (0 : Int32)), .val (.int (0 : Int32))] [(.int (128 : Int32))])) _
      refine XS.iload X20.here hx rfl (hb hby at_329) rfl ?_
      show Steps p.tables e below (T20.setTop (mkF m 331 #[.val (.int p0), .val (.int p1), .val (.int p2), .val (.long q3), .second, .val (.int kind), .val (.int r), .val (.int at_), .val (.int v), .val (.int (4 : Int32)), .val (.ref b), .val (.int ((240 : Int32) ||| (v >>> ((18 : Int32) &&& 31)))), .val (.int ((128 : Int32) ||| ((v >>> ((12 : Int32) &&& 31)) &&& (63 : Int32)))), .val (.int (0 : Int32)), .val (.int (0 : Int32))] [(.int v), (.int (128 : Int32))])) _
      refine XS.bipush X20.here hx rfl (hb hby at_331) ?_
      show Steps p.tables e below (T20.setTop (mkF m 333 #[.val (.int p0), .val (.int p1), .val (.int p2), .val (.long q3), .second, .val (.int kind), .val (.int r), .val (.int at_), .val (.int v), .val (.int (4 : Int32)), .val (.ref b), .val (.int ((240 : Int32) ||| (v >>> ((18 : Int32) &&& 31)))), .val (.int ((128 : Int32) ||| ((v >>> ((12 : Int32) &&& 31)) &&& (63 : Int32)))), .val (.int (0 : Int32)), .val (.int (0 : Int32))] [(.int (6 : Int32)), (.int v), (.int (128 : Int32))])) _
      refine XS.ishr X20.here hx rfl (hb hby at_333) rfl ?_
      show Steps p.tables e below (T20.setTop (mkF m 334 #[.val (.int p0), .val (.int p1), .val (.int p2), .val (.long q3), .second, .val (.int kind), .val (.int r), .val (.int at_), .val (.int v), .val (.int (4 : Int32)), .val (.ref b), .val (.int ((240 : Int32) ||| (v >>> ((18 : Int32) &&& 31)))), .val (.int ((128 : Int32) ||| ((v >>> ((12 : Int32) &&& 31)) &&& (63 : Int32)))), .val (.int (0 : Int32)), .val (.int (0 : Int32))] [(.int (v >>> ((6 : Int32) &&& 31))), (.int (128 : Int32))])) _
      refine XS.bipush X20.here hx rfl (hb hby at_334) ?_
      show Steps p.tables e below (T20.setTop (mkF m 336 #[.val (.int p0), .val (.int p1), .val (.int p2), .val (.long q3), .second, .val (.int kind), .val (.int r), .val (.int at_), .val (.int v), .val (.int (4 : Int32)), .val (.ref b), .val (.int ((240 : Int32) ||| (v >>> ((18 : Int32) &&& 31)))), .val (.int ((128 : Int32) ||| ((v >>> ((12 : Int32) &&& 31)) &&& (63 : Int32)))), .val (.int (0 : Int32)), .val (.int (0 : Int32))] [(.int (63 : Int32)), (.int (v >>> ((6 : Int32) &&& 31))), (.int (128 : Int32))])) _
      refine XS.iand X20.here hx rfl (hb hby at_336) rfl ?_
      show Steps p.tables e below (T20.setTop (mkF m 337 #[.val (.int p0), .val (.int p1), .val (.int p2), .val (.long q3), .second, .val (.int kind), .val (.int r), .val (.int at_), .val (.int v), .val (.int (4 : Int32)), .val (.ref b), .val (.int ((240 : Int32) ||| (v >>> ((18 : Int32) &&& 31)))), .val (.int ((128 : Int32) ||| ((v >>> ((12 : Int32) &&& 31)) &&& (63 : Int32)))), .val (.int (0 : Int32)), .val (.int (0 : Int32))] [(.int ((v >>> ((6 : Int32) &&& 31)) &&& (63 : Int32))), (.int (128 : Int32))])) _
      refine XS.ior X20.here hx rfl (hb hby at_337) rfl ?_
      show Steps p.tables e below (T20.setTop (mkF m 338 #[.val (.int p0), .val (.int p1), .val (.int p2), .val (.long q3), .second, .val (.int kind), .val (.int r), .val (.int at_), .val (.int v), .val (.int (4 : Int32)), .val (.ref b), .val (.int ((240 : Int32) ||| (v >>> ((18 : Int32) &&& 31)))), .val (.int ((128 : Int32) ||| ((v >>> ((12 : Int32) &&& 31)) &&& (63 : Int32)))), .val (.int (0 : Int32)), .val (.int (0 : Int32))] [(.int ((128 : Int32) ||| ((v >>> ((6 : Int32) &&& 31)) &&& (63 : Int32))))])) _
      refine XS.istore X20.here hx rfl (hb hby at_338) rfl (l' := #[.val (.int p0), .val (.int p1), .val (.int p2), .val (.long q3), .second, .val (.int kind), .val (.int r), .val (.int at_), .val (.int v), .val (.int (4 : Int32)), .val (.ref b), .val (.int ((240 : Int32) ||| (v >>> ((18 : Int32) &&& 31)))), .val (.int ((128 : Int32) ||| ((v >>> ((12 : Int32) &&& 31)) &&& (63 : Int32)))), .val (.int ((128 : Int32) ||| ((v >>> ((6 : Int32) &&& 31)) &&& (63 : Int32)))), .val (.int (0 : Int32))]) rfl ?_
      show Steps p.tables e below (T20.setTop (mkF m 340 #[.val (.int p0), .val (.int p1), .val (.int p2), .val (.long q3), .second, .val (.int kind), .val (.int r), .val (.int at_), .val (.int v), .val (.int (4 : Int32)), .val (.ref b), .val (.int ((240 : Int32) ||| (v >>> ((18 : Int32) &&& 31)))), .val (.int ((128 : Int32) ||| ((v >>> ((12 : Int32) &&& 31)) &&& (63 : Int32)))), .val (.int ((128 : Int32) ||| ((v >>> ((6 : Int32) &&& 31)) &&& (63 : Int32)))), .val (.int (0 : Int32))] [])) _
      refine XS.sipush X20.here hx rfl (hb hby at_340) ?_
      show Steps p.tables e below (T20.setTop (mkF m 343 #[.val (.int p0), .val (.int p1), .val (.int p2), .val (.long q3), .second, .val (.int kind), .val (.int r), .val (.int at_), .val (.int v), .val (.int (4 : Int32)), .val (.ref b), .val (.int ((240 : Int32) ||| (v >>> ((18 : Int32) &&& 31)))), .val (.int ((128 : Int32) ||| ((v >>> ((12 : Int32) &&& 31)) &&& (63 : Int32)))), .val (.int ((128 : Int32) ||| ((v >>> ((6 : Int32) &&& 31)) &&& (63 : Int32)))), .val (.int (0 : Int32))] [(.int (128 : Int32))])) _
      refine XS.iload X20.here hx rfl (hb hby at_343) rfl ?_
      show Steps p.tables e below (T20.setTop (mkF m 345 #[.val (.int p0), .val (.int p1), .val (.int p2), .val (.long q3), .second, .val (.int kind), .val (.int r), .val (.int at_), .val (.int v), .val (.int (4 : Int32)), .val (.ref b), .val (.int ((240 : Int32) ||| (v >>> ((18 : Int32) &&& 31)))), .val (.int ((128 : Int32) ||| ((v >>> ((12 : Int32) &&& 31)) &&& (63 : Int32)))), .val (.int ((128 : Int32) ||| ((v >>> ((6 : Int32) &&& 31)) &&& (63 : Int32)))), .val (.int (0 : Int32))] [(.int v), (.int (128 : Int32))])) _
      refine XS.bipush X20.here hx rfl (hb hby at_345) ?_
      show Steps p.tables e below (T20.setTop (mkF m 347 #[.val (.int p0), .val (.int p1), .val (.int p2), .val (.long q3), .second, .val (.int kind), .val (.int r), .val (.int at_), .val (.int v), .val (.int (4 : Int32)), .val (.ref b), .val (.int ((240 : Int32) ||| (v >>> ((18 : Int32) &&& 31)))), .val (.int ((128 : Int32) ||| ((v >>> ((12 : Int32) &&& 31)) &&& (63 : Int32)))), .val (.int ((128 : Int32) ||| ((v >>> ((6 : Int32) &&& 31)) &&& (63 : Int32)))), .val (.int (0 : Int32))] [(.int (63 : Int32)), (.int v), (.int (128 : Int32))])) _
      refine XS.iand X20.here hx rfl (hb hby at_347) rfl ?_
      show Steps p.tables e below (T20.setTop (mkF m 348 #[.val (.int p0), .val (.int p1), .val (.int p2), .val (.long q3), .second, .val (.int kind), .val (.int r), .val (.int at_), .val (.int v), .val (.int (4 : Int32)), .val (.ref b), .val (.int ((240 : Int32) ||| (v >>> ((18 : Int32) &&& 31)))), .val (.int ((128 : Int32) ||| ((v >>> ((12 : Int32) &&& 31)) &&& (63 : Int32)))), .val (.int ((128 : Int32) ||| ((v >>> ((6 : Int32) &&& 31)) &&& (63 : Int32)))), .val (.int (0 : Int32))] [(.int (v &&& (63 : Int32))), (.int (128 : Int32))])) _
      refine XS.ior X20.here hx rfl (hb hby at_348) rfl ?_
      show Steps p.tables e below (T20.setTop (mkF m 349 #[.val (.int p0), .val (.int p1), .val (.int p2), .val (.long q3), .second, .val (.int kind), .val (.int r), .val (.int at_), .val (.int v), .val (.int (4 : Int32)), .val (.ref b), .val (.int ((240 : Int32) ||| (v >>> ((18 : Int32) &&& 31)))), .val (.int ((128 : Int32) ||| ((v >>> ((12 : Int32) &&& 31)) &&& (63 : Int32)))), .val (.int ((128 : Int32) ||| ((v >>> ((6 : Int32) &&& 31)) &&& (63 : Int32)))), .val (.int (0 : Int32))] [(.int ((128 : Int32) ||| (v &&& (63 : Int32))))])) _
      refine XS.istore X20.here hx rfl (hb hby at_349) rfl (l' := #[.val (.int p0), .val (.int p1), .val (.int p2), .val (.long q3), .second, .val (.int kind), .val (.int r), .val (.int at_), .val (.int v), .val (.int (4 : Int32)), .val (.ref b), .val (.int ((240 : Int32) ||| (v >>> ((18 : Int32) &&& 31)))), .val (.int ((128 : Int32) ||| ((v >>> ((12 : Int32) &&& 31)) &&& (63 : Int32)))), .val (.int ((128 : Int32) ||| ((v >>> ((6 : Int32) &&& 31)) &&& (63 : Int32)))), .val (.int ((128 : Int32) ||| (v &&& (63 : Int32))))]) rfl ?_
      exact kt
    have st44 : ∀ target, Steps p.tables e below (T20.setTop (mkF m 358 #[.val (.int p0), .val (.int p1), .val (.int p2), .val (.long q3), .second, .val (.int kind), .val (.int r), .val (.int at_), .val (.int v), .val (.int (4 : Int32)), .val (.ref b), .val (.int ((240 : Int32) ||| (v >>> ((18 : Int32) &&& 31)))), .val (.int ((128 : Int32) ||| ((v >>> ((12 : Int32) &&& 31)) &&& (63 : Int32)))), .val (.int ((128 : Int32) ||| ((v >>> ((6 : Int32) &&& 31)) &&& (63 : Int32)))), .val (.int ((128 : Int32) ||| (v &&& (63 : Int32))))] [(.int (((240 : Int32) ||| (v >>> ((18 : Int32) &&& 31))).toInt8.toInt32)), (.int at_), (.ref b)])) target → Steps p.tables e below (T20.setTop (mkF m 351 #[.val (.int p0), .val (.int p1), .val (.int p2), .val (.long q3), .second, .val (.int kind), .val (.int r), .val (.int at_), .val (.int v), .val (.int (4 : Int32)), .val (.ref b), .val (.int ((240 : Int32) ||| (v >>> ((18 : Int32) &&& 31)))), .val (.int ((128 : Int32) ||| ((v >>> ((12 : Int32) &&& 31)) &&& (63 : Int32)))), .val (.int ((128 : Int32) ||| ((v >>> ((6 : Int32) &&& 31)) &&& (63 : Int32)))), .val (.int ((128 : Int32) ||| (v &&& (63 : Int32))))] [])) target := by
      intro target kt
      show Steps p.tables e below (T20.setTop (mkF m 351 #[.val (.int p0), .val (.int p1), .val (.int p2), .val (.long q3), .second, .val (.int kind), .val (.int r), .val (.int at_), .val (.int v), .val (.int (4 : Int32)), .val (.ref b), .val (.int ((240 : Int32) ||| (v >>> ((18 : Int32) &&& 31)))), .val (.int ((128 : Int32) ||| ((v >>> ((12 : Int32) &&& 31)) &&& (63 : Int32)))), .val (.int ((128 : Int32) ||| ((v >>> ((6 : Int32) &&& 31)) &&& (63 : Int32)))), .val (.int ((128 : Int32) ||| (v &&& (63 : Int32))))] [])) _
      refine XS.aload X20.here hx rfl (hb hby at_351) rfl rfl ?_
      show Steps p.tables e below (T20.setTop (mkF m 353 #[.val (.int p0), .val (.int p1), .val (.int p2), .val (.long q3), .second, .val (.int kind), .val (.int r), .val (.int at_), .val (.int v), .val (.int (4 : Int32)), .val (.ref b), .val (.int ((240 : Int32) ||| (v >>> ((18 : Int32) &&& 31)))), .val (.int ((128 : Int32) ||| ((v >>> ((12 : Int32) &&& 31)) &&& (63 : Int32)))), .val (.int ((128 : Int32) ||| ((v >>> ((6 : Int32) &&& 31)) &&& (63 : Int32)))), .val (.int ((128 : Int32) ||| (v &&& (63 : Int32))))] [(.ref b)])) _
      refine XS.iload X20.here hx rfl (hb hby at_353) rfl ?_
      show Steps p.tables e below (T20.setTop (mkF m 355 #[.val (.int p0), .val (.int p1), .val (.int p2), .val (.long q3), .second, .val (.int kind), .val (.int r), .val (.int at_), .val (.int v), .val (.int (4 : Int32)), .val (.ref b), .val (.int ((240 : Int32) ||| (v >>> ((18 : Int32) &&& 31)))), .val (.int ((128 : Int32) ||| ((v >>> ((12 : Int32) &&& 31)) &&& (63 : Int32)))), .val (.int ((128 : Int32) ||| ((v >>> ((6 : Int32) &&& 31)) &&& (63 : Int32)))), .val (.int ((128 : Int32) ||| (v &&& (63 : Int32))))] [(.int at_), (.ref b)])) _
      refine XS.iload X20.here hx rfl (hb hby at_355) rfl ?_
      show Steps p.tables e below (T20.setTop (mkF m 357 #[.val (.int p0), .val (.int p1), .val (.int p2), .val (.long q3), .second, .val (.int kind), .val (.int r), .val (.int at_), .val (.int v), .val (.int (4 : Int32)), .val (.ref b), .val (.int ((240 : Int32) ||| (v >>> ((18 : Int32) &&& 31)))), .val (.int ((128 : Int32) ||| ((v >>> ((12 : Int32) &&& 31)) &&& (63 : Int32)))), .val (.int ((128 : Int32) ||| ((v >>> ((6 : Int32) &&& 31)) &&& (63 : Int32)))), .val (.int ((128 : Int32) ||| (v &&& (63 : Int32))))] [(.int ((240 : Int32) ||| (v >>> ((18 : Int32) &&& 31)))), (.int at_), (.ref b)])) _
      refine XS.i2b X20.here hx rfl (hb hby at_357) rfl ?_
      exact kt
    obtain ⟨T45, h45, X45, e45, W45, st45⟩ := stB X20 hx hZ e20 Ar0 (j := at_) (own_in Sz0 ⟨hp0.1, hp0.2.1⟩) (g := (mkF m 358 #[.val (.int p0), .val (.int p1), .val (.int p2), .val (.long q3), .second, .val (.int kind), .val (.int r), .val (.int at_), .val (.int v), .val (.int (4 : Int32)), .val (.ref b), .val (.int ((240 : Int32) ||| (v >>> ((18 : Int32) &&& 31)))), .val (.int ((128 : Int32) ||| ((v >>> ((12 : Int32) &&& 31)) &&& (63 : Int32)))), .val (.int ((128 : Int32) ||| ((v >>> ((6 : Int32) &&& 31)) &&& (63 : Int32)))), .val (.int ((128 : Int32) ||| (v &&& (63 : Int32))))] [(.int (((240 : Int32) ||| (v >>> ((18 : Int32) &&& 31))).toInt8.toInt32)), (.int at_), (.ref b)])) rfl rfl (hb hby at_358)
    have Z_45 : n0 ≤ h45.size := Nat.le_trans Z_20 (Keep.of_wr W45).1
    have N45 := Fr.snoc X45 N20 g_b
    obtain ⟨c45, hc45⟩ : ∃ z, z = (cl0.setSlot (at_).toNatClampNeg (.int (nar .byte (((240 : Int32) ||| (v >>> ((18 : Int32) &&& 31))).toInt8.toInt32)))) := ⟨_, rfl⟩
    have Aq45 : Arr Z h45 b c45 .byte := by rw [hc45]; exact Arr.same W45 Ar0
    have Sq45 : c45.slots.size = (8 : Int32).toNatClampNeg := by rw [hc45, sz_set]; exact Sz0
    have a0_45 : c45.slots[(at_).toNatClampNeg]? = some (.int (nar .byte (((240 : Int32) ||| (v >>> ((18 : Int32) &&& 31))).toInt8.toInt32))) := by rw [hc45]; exact get_hit (own_in Sz0 ⟨hp0.1, hp0.2.1⟩) rfl
    have st46 : ∀ target, Steps p.tables e below (T45.setTop (mkF m 374 #[.val (.int p0), .val (.int p1), .val (.int p2), .val (.long q3), .second, .val (.int kind), .val (.int r), .val (.int at_), .val (.int v), .val (.int (4 : Int32)), .val (.ref b), .val (.int ((240 : Int32) ||| (v >>> ((18 : Int32) &&& 31)))), .val (.int ((128 : Int32) ||| ((v >>> ((12 : Int32) &&& 31)) &&& (63 : Int32)))), .val (.int ((128 : Int32) ||| ((v >>> ((6 : Int32) &&& 31)) &&& (63 : Int32)))), .val (.int ((128 : Int32) ||| (v &&& (63 : Int32))))] [(.int (((128 : Int32) ||| ((v >>> ((12 : Int32) &&& 31)) &&& (63 : Int32))).toInt8.toInt32)), (.int (at_ + (1 : Int32))), (.ref b)])) target → Steps p.tables e below (T45.setTop (mkF m 359 #[.val (.int p0), .val (.int p1), .val (.int p2), .val (.long q3), .second, .val (.int kind), .val (.int r), .val (.int at_), .val (.int v), .val (.int (4 : Int32)), .val (.ref b), .val (.int ((240 : Int32) ||| (v >>> ((18 : Int32) &&& 31)))), .val (.int ((128 : Int32) ||| ((v >>> ((12 : Int32) &&& 31)) &&& (63 : Int32)))), .val (.int ((128 : Int32) ||| ((v >>> ((6 : Int32) &&& 31)) &&& (63 : Int32)))), .val (.int ((128 : Int32) ||| (v &&& (63 : Int32))))] [])) target := by
      intro target kt
      show Steps p.tables e below (T45.setTop (mkF m 359 #[.val (.int p0), .val (.int p1), .val (.int p2), .val (.long q3), .second, .val (.int kind), .val (.int r), .val (.int at_), .val (.int v), .val (.int (4 : Int32)), .val (.ref b), .val (.int ((240 : Int32) ||| (v >>> ((18 : Int32) &&& 31)))), .val (.int ((128 : Int32) ||| ((v >>> ((12 : Int32) &&& 31)) &&& (63 : Int32)))), .val (.int ((128 : Int32) ||| ((v >>> ((6 : Int32) &&& 31)) &&& (63 : Int32)))), .val (.int ((128 : Int32) ||| (v &&& (63 : Int32))))] [])) _
      refine XS.iload X45.here hx rfl (hb hby at_359) rfl ?_
      show Steps p.tables e below (T45.setTop (mkF m 361 #[.val (.int p0), .val (.int p1), .val (.int p2), .val (.long q3), .second, .val (.int kind), .val (.int r), .val (.int at_), .val (.int v), .val (.int (4 : Int32)), .val (.ref b), .val (.int ((240 : Int32) ||| (v >>> ((18 : Int32) &&& 31)))), .val (.int ((128 : Int32) ||| ((v >>> ((12 : Int32) &&& 31)) &&& (63 : Int32)))), .val (.int ((128 : Int32) ||| ((v >>> ((6 : Int32) &&& 31)) &&& (63 : Int32)))), .val (.int ((128 : Int32) ||| (v &&& (63 : Int32))))] [(.int (4 : Int32))])) _
      refine XS.iconst X45.here hx rfl (hb hby at_361) ?_
      show Steps p.tables e below (T45.setTop (mkF m 362 #[.val (.int p0), .val (.int p1), .val (.int p2), .val (.long q3), .second, .val (.int kind), .val (.int r), .val (.int at_), .val (.int v), .val (.int (4 : Int32)), .val (.ref b), .val (.int ((240 : Int32) ||| (v >>> ((18 : Int32) &&& 31)))), .val (.int ((128 : Int32) ||| ((v >>> ((12 : Int32) &&& 31)) &&& (63 : Int32)))), .val (.int ((128 : Int32) ||| ((v >>> ((6 : Int32) &&& 31)) &&& (63 : Int32)))), .val (.int ((128 : Int32) ||| (v &&& (63 : Int32))))] [(.int (2 : Int32)), (.int (4 : Int32))])) _
      refine XS.icmpNo X45.here hx rfl (hb hby at_362) rfl (flt (by decide : ¬ ((4 : Int32) < (2 : Int32)))).1 ?_
      show Steps p.tables e below (T45.setTop (mkF m 365 #[.val (.int p0), .val (.int p1), .val (.int p2), .val (.long q3), .second, .val (.int kind), .val (.int r), .val (.int at_), .val (.int v), .val (.int (4 : Int32)), .val (.ref b), .val (.int ((240 : Int32) ||| (v >>> ((18 : Int32) &&& 31)))), .val (.int ((128 : Int32) ||| ((v >>> ((12 : Int32) &&& 31)) &&& (63 : Int32)))), .val (.int ((128 : Int32) ||| ((v >>> ((6 : Int32) &&& 31)) &&& (63 : Int32)))), .val (.int ((128 : Int32) ||| (v &&& (63 : Int32))))] [])) _
      refine XS.aload X45.here hx rfl (hb hby at_365) rfl rfl ?_
      show Steps p.tables e below (T45.setTop (mkF m 367 #[.val (.int p0), .val (.int p1), .val (.int p2), .val (.long q3), .second, .val (.int kind), .val (.int r), .val (.int at_), .val (.int v), .val (.int (4 : Int32)), .val (.ref b), .val (.int ((240 : Int32) ||| (v >>> ((18 : Int32) &&& 31)))), .val (.int ((128 : Int32) ||| ((v >>> ((12 : Int32) &&& 31)) &&& (63 : Int32)))), .val (.int ((128 : Int32) ||| ((v >>> ((6 : Int32) &&& 31)) &&& (63 : Int32)))), .val (.int ((128 : Int32) ||| (v &&& (63 : Int32))))] [(.ref b)])) _
      refine XS.iload X45.here hx rfl (hb hby at_367) rfl ?_
      show Steps p.tables e below (T45.setTop (mkF m 369 #[.val (.int p0), .val (.int p1), .val (.int p2), .val (.long q3), .second, .val (.int kind), .val (.int r), .val (.int at_), .val (.int v), .val (.int (4 : Int32)), .val (.ref b), .val (.int ((240 : Int32) ||| (v >>> ((18 : Int32) &&& 31)))), .val (.int ((128 : Int32) ||| ((v >>> ((12 : Int32) &&& 31)) &&& (63 : Int32)))), .val (.int ((128 : Int32) ||| ((v >>> ((6 : Int32) &&& 31)) &&& (63 : Int32)))), .val (.int ((128 : Int32) ||| (v &&& (63 : Int32))))] [(.int at_), (.ref b)])) _
      refine XS.iconst X45.here hx rfl (hb hby at_369) ?_
      show Steps p.tables e below (T45.setTop (mkF m 370 #[.val (.int p0), .val (.int p1), .val (.int p2), .val (.long q3), .second, .val (.int kind), .val (.int r), .val (.int at_), .val (.int v), .val (.int (4 : Int32)), .val (.ref b), .val (.int ((240 : Int32) ||| (v >>> ((18 : Int32) &&& 31)))), .val (.int ((128 : Int32) ||| ((v >>> ((12 : Int32) &&& 31)) &&& (63 : Int32)))), .val (.int ((128 : Int32) ||| ((v >>> ((6 : Int32) &&& 31)) &&& (63 : Int32)))), .val (.int ((128 : Int32) ||| (v &&& (63 : Int32))))] [(.int (1 : Int32)), (.int at_), (.ref b)])) _
      refine XS.iadd X45.here hx rfl (hb hby at_370) rfl ?_
      show Steps p.tables e below (T45.setTop (mkF m 371 #[.val (.int p0), .val (.int p1), .val (.int p2), .val (.long q3), .second, .val (.int kind), .val (.int r), .val (.int at_), .val (.int v), .val (.int (4 : Int32)), .val (.ref b), .val (.int ((240 : Int32) ||| (v >>> ((18 : Int32) &&& 31)))), .val (.int ((128 : Int32) ||| ((v >>> ((12 : Int32) &&& 31)) &&& (63 : Int32)))), .val (.int ((128 : Int32) ||| ((v >>> ((6 : Int32) &&& 31)) &&& (63 : Int32)))), .val (.int ((128 : Int32) ||| (v &&& (63 : Int32))))] [(.int (at_ + (1 : Int32))), (.ref b)])) _
      refine XS.iload X45.here hx rfl (hb hby at_371) rfl ?_
      show Steps p.tables e below (T45.setTop (mkF m 373 #[.val (.int p0), .val (.int p1), .val (.int p2), .val (.long q3), .second, .val (.int kind), .val (.int r), .val (.int at_), .val (.int v), .val (.int (4 : Int32)), .val (.ref b), .val (.int ((240 : Int32) ||| (v >>> ((18 : Int32) &&& 31)))), .val (.int ((128 : Int32) ||| ((v >>> ((12 : Int32) &&& 31)) &&& (63 : Int32)))), .val (.int ((128 : Int32) ||| ((v >>> ((6 : Int32) &&& 31)) &&& (63 : Int32)))), .val (.int ((128 : Int32) ||| (v &&& (63 : Int32))))] [(.int ((128 : Int32) ||| ((v >>> ((12 : Int32) &&& 31)) &&& (63 : Int32)))), (.int (at_ + (1 : Int32))), (.ref b)])) _
      refine XS.i2b X45.here hx rfl (hb hby at_373) rfl ?_
      exact kt
    obtain ⟨T47, h47, X47, e47, W47, st47⟩ := stB X45 hx hZ e45 Aq45 (j := (at_ + (1 : Int32))) (own_in Sq45 ⟨hp1.1, hp1.2.1⟩) (g := (mkF m 374 #[.val (.int p0), .val (.int p1), .val (.int p2), .val (.long q3), .second, .val (.int kind), .val (.int r), .val (.int at_), .val (.int v), .val (.int (4 : Int32)), .val (.ref b), .val (.int ((240 : Int32) ||| (v >>> ((18 : Int32) &&& 31)))), .val (.int ((128 : Int32) ||| ((v >>> ((12 : Int32) &&& 31)) &&& (63 : Int32)))), .val (.int ((128 : Int32) ||| ((v >>> ((6 : Int32) &&& 31)) &&& (63 : Int32)))), .val (.int ((128 : Int32) ||| (v &&& (63 : Int32))))] [(.int (((128 : Int32) ||| ((v >>> ((12 : Int32) &&& 31)) &&& (63 : Int32))).toInt8.toInt32)), (.int (at_ + (1 : Int32))), (.ref b)])) rfl rfl (hb hby at_374)
    have Z_47 : n0 ≤ h47.size := Nat.le_trans Z_45 (Keep.of_wr W47).1
    have N47 := Fr.snoc X47 N45 g_b
    obtain ⟨c47, hc47⟩ : ∃ z, z = (c45.setSlot ((at_ + (1 : Int32))).toNatClampNeg (.int (nar .byte (((128 : Int32) ||| ((v >>> ((12 : Int32) &&& 31)) &&& (63 : Int32))).toInt8.toInt32)))) := ⟨_, rfl⟩
    have Aq47 : Arr Z h47 b c47 .byte := by rw [hc47]; exact Arr.same W47 Aq45
    have Sq47 : c47.slots.size = (8 : Int32).toNatClampNeg := by rw [hc47, sz_set]; exact Sq45
    have a0_47 : c47.slots[(at_).toNatClampNeg]? = some (.int (nar .byte (((240 : Int32) ||| (v >>> ((18 : Int32) &&& 31))).toInt8.toInt32))) := by rw [hc47]; exact (get_miss (own_nn hp1.1) (own_nn hp0.1) (own_ne (by omega))).trans a0_45
    have a1_47 : c47.slots[((at_ + (1 : Int32))).toNatClampNeg]? = some (.int (nar .byte (((128 : Int32) ||| ((v >>> ((12 : Int32) &&& 31)) &&& (63 : Int32))).toInt8.toInt32))) := by rw [hc47]; exact get_hit (own_in Sq45 ⟨hp1.1, hp1.2.1⟩) rfl
    have st48 : ∀ target, Steps p.tables e below (T47.setTop (mkF m 390 #[.val (.int p0), .val (.int p1), .val (.int p2), .val (.long q3), .second, .val (.int kind), .val (.int r), .val (.int at_), .val (.int v), .val (.int (4 : Int32)), .val (.ref b), .val (.int ((240 : Int32) ||| (v >>> ((18 : Int32) &&& 31)))), .val (.int ((128 : Int32) ||| ((v >>> ((12 : Int32) &&& 31)) &&& (63 : Int32)))), .val (.int ((128 : Int32) ||| ((v >>> ((6 : Int32) &&& 31)) &&& (63 : Int32)))), .val (.int ((128 : Int32) ||| (v &&& (63 : Int32))))] [(.int (((128 : Int32) ||| ((v >>> ((6 : Int32) &&& 31)) &&& (63 : Int32))).toInt8.toInt32)), (.int (at_ + (2 : Int32))), (.ref b)])) target → Steps p.tables e below (T47.setTop (mkF m 375 #[.val (.int p0), .val (.int p1), .val (.int p2), .val (.long q3), .second, .val (.int kind), .val (.int r), .val (.int at_), .val (.int v), .val (.int (4 : Int32)), .val (.ref b), .val (.int ((240 : Int32) ||| (v >>> ((18 : Int32) &&& 31)))), .val (.int ((128 : Int32) ||| ((v >>> ((12 : Int32) &&& 31)) &&& (63 : Int32)))), .val (.int ((128 : Int32) ||| ((v >>> ((6 : Int32) &&& 31)) &&& (63 : Int32)))), .val (.int ((128 : Int32) ||| (v &&& (63 : Int32))))] [])) target := by
      intro target kt
      show Steps p.tables e below (T47.setTop (mkF m 375 #[.val (.int p0), .val (.int p1), .val (.int p2), .val (.long q3), .second, .val (.int kind), .val (.int r), .val (.int at_), .val (.int v), .val (.int (4 : Int32)), .val (.ref b), .val (.int ((240 : Int32) ||| (v >>> ((18 : Int32) &&& 31)))), .val (.int ((128 : Int32) ||| ((v >>> ((12 : Int32) &&& 31)) &&& (63 : Int32)))), .val (.int ((128 : Int32) ||| ((v >>> ((6 : Int32) &&& 31)) &&& (63 : Int32)))), .val (.int ((128 : Int32) ||| (v &&& (63 : Int32))))] [])) _
      refine XS.iload X47.here hx rfl (hb hby at_375) rfl ?_
      show Steps p.tables e below (T47.setTop (mkF m 377 #[.val (.int p0), .val (.int p1), .val (.int p2), .val (.long q3), .second, .val (.int kind), .val (.int r), .val (.int at_), .val (.int v), .val (.int (4 : Int32)), .val (.ref b), .val (.int ((240 : Int32) ||| (v >>> ((18 : Int32) &&& 31)))), .val (.int ((128 : Int32) ||| ((v >>> ((12 : Int32) &&& 31)) &&& (63 : Int32)))), .val (.int ((128 : Int32) ||| ((v >>> ((6 : Int32) &&& 31)) &&& (63 : Int32)))), .val (.int ((128 : Int32) ||| (v &&& (63 : Int32))))] [(.int (4 : Int32))])) _
      refine XS.iconst X47.here hx rfl (hb hby at_377) ?_
      show Steps p.tables e below (T47.setTop (mkF m 378 #[.val (.int p0), .val (.int p1), .val (.int p2), .val (.long q3), .second, .val (.int kind), .val (.int r), .val (.int at_), .val (.int v), .val (.int (4 : Int32)), .val (.ref b), .val (.int ((240 : Int32) ||| (v >>> ((18 : Int32) &&& 31)))), .val (.int ((128 : Int32) ||| ((v >>> ((12 : Int32) &&& 31)) &&& (63 : Int32)))), .val (.int ((128 : Int32) ||| ((v >>> ((6 : Int32) &&& 31)) &&& (63 : Int32)))), .val (.int ((128 : Int32) ||| (v &&& (63 : Int32))))] [(.int (3 : Int32)), (.int (4 : Int32))])) _
      refine XS.icmpNo X47.here hx rfl (hb hby at_378) rfl (flt (by decide : ¬ ((4 : Int32) < (3 : Int32)))).1 ?_
      show Steps p.tables e below (T47.setTop (mkF m 381 #[.val (.int p0), .val (.int p1), .val (.int p2), .val (.long q3), .second, .val (.int kind), .val (.int r), .val (.int at_), .val (.int v), .val (.int (4 : Int32)), .val (.ref b), .val (.int ((240 : Int32) ||| (v >>> ((18 : Int32) &&& 31)))), .val (.int ((128 : Int32) ||| ((v >>> ((12 : Int32) &&& 31)) &&& (63 : Int32)))), .val (.int ((128 : Int32) ||| ((v >>> ((6 : Int32) &&& 31)) &&& (63 : Int32)))), .val (.int ((128 : Int32) ||| (v &&& (63 : Int32))))] [])) _
      refine XS.aload X47.here hx rfl (hb hby at_381) rfl rfl ?_
      show Steps p.tables e below (T47.setTop (mkF m 383 #[.val (.int p0), .val (.int p1), .val (.int p2), .val (.long q3), .second, .val (.int kind), .val (.int r), .val (.int at_), .val (.int v), .val (.int (4 : Int32)), .val (.ref b), .val (.int ((240 : Int32) ||| (v >>> ((18 : Int32) &&& 31)))), .val (.int ((128 : Int32) ||| ((v >>> ((12 : Int32) &&& 31)) &&& (63 : Int32)))), .val (.int ((128 : Int32) ||| ((v >>> ((6 : Int32) &&& 31)) &&& (63 : Int32)))), .val (.int ((128 : Int32) ||| (v &&& (63 : Int32))))] [(.ref b)])) _
      refine XS.iload X47.here hx rfl (hb hby at_383) rfl ?_
      show Steps p.tables e below (T47.setTop (mkF m 385 #[.val (.int p0), .val (.int p1), .val (.int p2), .val (.long q3), .second, .val (.int kind), .val (.int r), .val (.int at_), .val (.int v), .val (.int (4 : Int32)), .val (.ref b), .val (.int ((240 : Int32) ||| (v >>> ((18 : Int32) &&& 31)))), .val (.int ((128 : Int32) ||| ((v >>> ((12 : Int32) &&& 31)) &&& (63 : Int32)))), .val (.int ((128 : Int32) ||| ((v >>> ((6 : Int32) &&& 31)) &&& (63 : Int32)))), .val (.int ((128 : Int32) ||| (v &&& (63 : Int32))))] [(.int at_), (.ref b)])) _
      refine XS.iconst X47.here hx rfl (hb hby at_385) ?_
      show Steps p.tables e below (T47.setTop (mkF m 386 #[.val (.int p0), .val (.int p1), .val (.int p2), .val (.long q3), .second, .val (.int kind), .val (.int r), .val (.int at_), .val (.int v), .val (.int (4 : Int32)), .val (.ref b), .val (.int ((240 : Int32) ||| (v >>> ((18 : Int32) &&& 31)))), .val (.int ((128 : Int32) ||| ((v >>> ((12 : Int32) &&& 31)) &&& (63 : Int32)))), .val (.int ((128 : Int32) ||| ((v >>> ((6 : Int32) &&& 31)) &&& (63 : Int32)))), .val (.int ((128 : Int32) ||| (v &&& (63 : Int32))))] [(.int (2 : Int32)), (.int at_), (.ref b)])) _
      refine XS.iadd X47.here hx rfl (hb hby at_386) rfl ?_
      show Steps p.tables e below (T47.setTop (mkF m 387 #[.val (.int p0), .val (.int p1), .val (.int p2), .val (.long q3), .second, .val (.int kind), .val (.int r), .val (.int at_), .val (.int v), .val (.int (4 : Int32)), .val (.ref b), .val (.int ((240 : Int32) ||| (v >>> ((18 : Int32) &&& 31)))), .val (.int ((128 : Int32) ||| ((v >>> ((12 : Int32) &&& 31)) &&& (63 : Int32)))), .val (.int ((128 : Int32) ||| ((v >>> ((6 : Int32) &&& 31)) &&& (63 : Int32)))), .val (.int ((128 : Int32) ||| (v &&& (63 : Int32))))] [(.int (at_ + (2 : Int32))), (.ref b)])) _
      refine XS.iload X47.here hx rfl (hb hby at_387) rfl ?_
      show Steps p.tables e below (T47.setTop (mkF m 389 #[.val (.int p0), .val (.int p1), .val (.int p2), .val (.long q3), .second, .val (.int kind), .val (.int r), .val (.int at_), .val (.int v), .val (.int (4 : Int32)), .val (.ref b), .val (.int ((240 : Int32) ||| (v >>> ((18 : Int32) &&& 31)))), .val (.int ((128 : Int32) ||| ((v >>> ((12 : Int32) &&& 31)) &&& (63 : Int32)))), .val (.int ((128 : Int32) ||| ((v >>> ((6 : Int32) &&& 31)) &&& (63 : Int32)))), .val (.int ((128 : Int32) ||| (v &&& (63 : Int32))))] [(.int ((128 : Int32) ||| ((v >>> ((6 : Int32) &&& 31)) &&& (63 : Int32)))), (.int (at_ + (2 : Int32))), (.ref b)])) _
      refine XS.i2b X47.here hx rfl (hb hby at_389) rfl ?_
      exact kt
    obtain ⟨T49, h49, X49, e49, W49, st49⟩ := stB X47 hx hZ e47 Aq47 (j := (at_ + (2 : Int32))) (own_in Sq47 ⟨hp2.1, hp2.2.1⟩) (g := (mkF m 390 #[.val (.int p0), .val (.int p1), .val (.int p2), .val (.long q3), .second, .val (.int kind), .val (.int r), .val (.int at_), .val (.int v), .val (.int (4 : Int32)), .val (.ref b), .val (.int ((240 : Int32) ||| (v >>> ((18 : Int32) &&& 31)))), .val (.int ((128 : Int32) ||| ((v >>> ((12 : Int32) &&& 31)) &&& (63 : Int32)))), .val (.int ((128 : Int32) ||| ((v >>> ((6 : Int32) &&& 31)) &&& (63 : Int32)))), .val (.int ((128 : Int32) ||| (v &&& (63 : Int32))))] [(.int (((128 : Int32) ||| ((v >>> ((6 : Int32) &&& 31)) &&& (63 : Int32))).toInt8.toInt32)), (.int (at_ + (2 : Int32))), (.ref b)])) rfl rfl (hb hby at_390)
    have Z_49 : n0 ≤ h49.size := Nat.le_trans Z_47 (Keep.of_wr W49).1
    have N49 := Fr.snoc X49 N47 g_b
    obtain ⟨c49, hc49⟩ : ∃ z, z = (c47.setSlot ((at_ + (2 : Int32))).toNatClampNeg (.int (nar .byte (((128 : Int32) ||| ((v >>> ((6 : Int32) &&& 31)) &&& (63 : Int32))).toInt8.toInt32)))) := ⟨_, rfl⟩
    have Aq49 : Arr Z h49 b c49 .byte := by rw [hc49]; exact Arr.same W49 Aq47
    have Sq49 : c49.slots.size = (8 : Int32).toNatClampNeg := by rw [hc49, sz_set]; exact Sq47
    have a0_49 : c49.slots[(at_).toNatClampNeg]? = some (.int (nar .byte (((240 : Int32) ||| (v >>> ((18 : Int32) &&& 31))).toInt8.toInt32))) := by rw [hc49]; exact (get_miss (own_nn hp2.1) (own_nn hp0.1) (own_ne (by omega))).trans a0_47
    have a1_49 : c49.slots[((at_ + (1 : Int32))).toNatClampNeg]? = some (.int (nar .byte (((128 : Int32) ||| ((v >>> ((12 : Int32) &&& 31)) &&& (63 : Int32))).toInt8.toInt32))) := by rw [hc49]; exact (get_miss (own_nn hp2.1) (own_nn hp1.1) (own_ne (by omega))).trans a1_47
    have a2_49 : c49.slots[((at_ + (2 : Int32))).toNatClampNeg]? = some (.int (nar .byte (((128 : Int32) ||| ((v >>> ((6 : Int32) &&& 31)) &&& (63 : Int32))).toInt8.toInt32))) := by rw [hc49]; exact get_hit (own_in Sq47 ⟨hp2.1, hp2.2.1⟩) rfl
    have st50 : ∀ target, Steps p.tables e below (T49.setTop (mkF m 406 #[.val (.int p0), .val (.int p1), .val (.int p2), .val (.long q3), .second, .val (.int kind), .val (.int r), .val (.int at_), .val (.int v), .val (.int (4 : Int32)), .val (.ref b), .val (.int ((240 : Int32) ||| (v >>> ((18 : Int32) &&& 31)))), .val (.int ((128 : Int32) ||| ((v >>> ((12 : Int32) &&& 31)) &&& (63 : Int32)))), .val (.int ((128 : Int32) ||| ((v >>> ((6 : Int32) &&& 31)) &&& (63 : Int32)))), .val (.int ((128 : Int32) ||| (v &&& (63 : Int32))))] [(.int (((128 : Int32) ||| (v &&& (63 : Int32))).toInt8.toInt32)), (.int (at_ + (3 : Int32))), (.ref b)])) target → Steps p.tables e below (T49.setTop (mkF m 391 #[.val (.int p0), .val (.int p1), .val (.int p2), .val (.long q3), .second, .val (.int kind), .val (.int r), .val (.int at_), .val (.int v), .val (.int (4 : Int32)), .val (.ref b), .val (.int ((240 : Int32) ||| (v >>> ((18 : Int32) &&& 31)))), .val (.int ((128 : Int32) ||| ((v >>> ((12 : Int32) &&& 31)) &&& (63 : Int32)))), .val (.int ((128 : Int32) ||| ((v >>> ((6 : Int32) &&& 31)) &&& (63 : Int32)))), .val (.int ((128 : Int32) ||| (v &&& (63 : Int32))))] [])) target := by
      intro target kt
      show Steps p.tables e below (T49.setTop (mkF m 391 #[.val (.int p0), .val (.int p1), .val (.int p2), .val (.long q3), .second, .val (.int kind), .val (.int r), .val (.int at_), .val (.int v), .val (.int (4 : Int32)), .val (.ref b), .val (.int ((240 : Int32) ||| (v >>> ((18 : Int32) &&& 31)))), .val (.int ((128 : Int32) ||| ((v >>> ((12 : Int32) &&& 31)) &&& (63 : Int32)))), .val (.int ((128 : Int32) ||| ((v >>> ((6 : Int32) &&& 31)) &&& (63 : Int32)))), .val (.int ((128 : Int32) ||| (v &&& (63 : Int32))))] [])) _
      refine XS.iload X49.here hx rfl (hb hby at_391) rfl ?_
      show Steps p.tables e below (T49.setTop (mkF m 393 #[.val (.int p0), .val (.int p1), .val (.int p2), .val (.long q3), .second, .val (.int kind), .val (.int r), .val (.int at_), .val (.int v), .val (.int (4 : Int32)), .val (.ref b), .val (.int ((240 : Int32) ||| (v >>> ((18 : Int32) &&& 31)))), .val (.int ((128 : Int32) ||| ((v >>> ((12 : Int32) &&& 31)) &&& (63 : Int32)))), .val (.int ((128 : Int32) ||| ((v >>> ((6 : Int32) &&& 31)) &&& (63 : Int32)))), .val (.int ((128 : Int32) ||| (v &&& (63 : Int32))))] [(.int (4 : Int32))])) _
      refine XS.iconst X49.here hx rfl (hb hby at_393) ?_
      show Steps p.tables e below (T49.setTop (mkF m 394 #[.val (.int p0), .val (.int p1), .val (.int p2), .val (.long q3), .second, .val (.int kind), .val (.int r), .val (.int at_), .val (.int v), .val (.int (4 : Int32)), .val (.ref b), .val (.int ((240 : Int32) ||| (v >>> ((18 : Int32) &&& 31)))), .val (.int ((128 : Int32) ||| ((v >>> ((12 : Int32) &&& 31)) &&& (63 : Int32)))), .val (.int ((128 : Int32) ||| ((v >>> ((6 : Int32) &&& 31)) &&& (63 : Int32)))), .val (.int ((128 : Int32) ||| (v &&& (63 : Int32))))] [(.int (4 : Int32)), (.int (4 : Int32))])) _
      refine XS.icmpNo X49.here hx rfl (hb hby at_394) rfl (flt (by decide : ¬ ((4 : Int32) < (4 : Int32)))).1 ?_
      show Steps p.tables e below (T49.setTop (mkF m 397 #[.val (.int p0), .val (.int p1), .val (.int p2), .val (.long q3), .second, .val (.int kind), .val (.int r), .val (.int at_), .val (.int v), .val (.int (4 : Int32)), .val (.ref b), .val (.int ((240 : Int32) ||| (v >>> ((18 : Int32) &&& 31)))), .val (.int ((128 : Int32) ||| ((v >>> ((12 : Int32) &&& 31)) &&& (63 : Int32)))), .val (.int ((128 : Int32) ||| ((v >>> ((6 : Int32) &&& 31)) &&& (63 : Int32)))), .val (.int ((128 : Int32) ||| (v &&& (63 : Int32))))] [])) _
      refine XS.aload X49.here hx rfl (hb hby at_397) rfl rfl ?_
      show Steps p.tables e below (T49.setTop (mkF m 399 #[.val (.int p0), .val (.int p1), .val (.int p2), .val (.long q3), .second, .val (.int kind), .val (.int r), .val (.int at_), .val (.int v), .val (.int (4 : Int32)), .val (.ref b), .val (.int ((240 : Int32) ||| (v >>> ((18 : Int32) &&& 31)))), .val (.int ((128 : Int32) ||| ((v >>> ((12 : Int32) &&& 31)) &&& (63 : Int32)))), .val (.int ((128 : Int32) ||| ((v >>> ((6 : Int32) &&& 31)) &&& (63 : Int32)))), .val (.int ((128 : Int32) ||| (v &&& (63 : Int32))))] [(.ref b)])) _
      refine XS.iload X49.here hx rfl (hb hby at_399) rfl ?_
      show Steps p.tables e below (T49.setTop (mkF m 401 #[.val (.int p0), .val (.int p1), .val (.int p2), .val (.long q3), .second, .val (.int kind), .val (.int r), .val (.int at_), .val (.int v), .val (.int (4 : Int32)), .val (.ref b), .val (.int ((240 : Int32) ||| (v >>> ((18 : Int32) &&& 31)))), .val (.int ((128 : Int32) ||| ((v >>> ((12 : Int32) &&& 31)) &&& (63 : Int32)))), .val (.int ((128 : Int32) ||| ((v >>> ((6 : Int32) &&& 31)) &&& (63 : Int32)))), .val (.int ((128 : Int32) ||| (v &&& (63 : Int32))))] [(.int at_), (.ref b)])) _
      refine XS.iconst X49.here hx rfl (hb hby at_401) ?_
      show Steps p.tables e below (T49.setTop (mkF m 402 #[.val (.int p0), .val (.int p1), .val (.int p2), .val (.long q3), .second, .val (.int kind), .val (.int r), .val (.int at_), .val (.int v), .val (.int (4 : Int32)), .val (.ref b), .val (.int ((240 : Int32) ||| (v >>> ((18 : Int32) &&& 31)))), .val (.int ((128 : Int32) ||| ((v >>> ((12 : Int32) &&& 31)) &&& (63 : Int32)))), .val (.int ((128 : Int32) ||| ((v >>> ((6 : Int32) &&& 31)) &&& (63 : Int32)))), .val (.int ((128 : Int32) ||| (v &&& (63 : Int32))))] [(.int (3 : Int32)), (.int at_), (.ref b)])) _
      refine XS.iadd X49.here hx rfl (hb hby at_402) rfl ?_
      show Steps p.tables e below (T49.setTop (mkF m 403 #[.val (.int p0), .val (.int p1), .val (.int p2), .val (.long q3), .second, .val (.int kind), .val (.int r), .val (.int at_), .val (.int v), .val (.int (4 : Int32)), .val (.ref b), .val (.int ((240 : Int32) ||| (v >>> ((18 : Int32) &&& 31)))), .val (.int ((128 : Int32) ||| ((v >>> ((12 : Int32) &&& 31)) &&& (63 : Int32)))), .val (.int ((128 : Int32) ||| ((v >>> ((6 : Int32) &&& 31)) &&& (63 : Int32)))), .val (.int ((128 : Int32) ||| (v &&& (63 : Int32))))] [(.int (at_ + (3 : Int32))), (.ref b)])) _
      refine XS.iload X49.here hx rfl (hb hby at_403) rfl ?_
      show Steps p.tables e below (T49.setTop (mkF m 405 #[.val (.int p0), .val (.int p1), .val (.int p2), .val (.long q3), .second, .val (.int kind), .val (.int r), .val (.int at_), .val (.int v), .val (.int (4 : Int32)), .val (.ref b), .val (.int ((240 : Int32) ||| (v >>> ((18 : Int32) &&& 31)))), .val (.int ((128 : Int32) ||| ((v >>> ((12 : Int32) &&& 31)) &&& (63 : Int32)))), .val (.int ((128 : Int32) ||| ((v >>> ((6 : Int32) &&& 31)) &&& (63 : Int32)))), .val (.int ((128 : Int32) ||| (v &&& (63 : Int32))))] [(.int ((128 : Int32) ||| (v &&& (63 : Int32)))), (.int (at_ + (3 : Int32))), (.ref b)])) _
      refine XS.i2b X49.here hx rfl (hb hby at_405) rfl ?_
      exact kt
    obtain ⟨T51, h51, X51, e51, W51, st51⟩ := stB X49 hx hZ e49 Aq49 (j := (at_ + (3 : Int32))) (own_in Sq49 ⟨hp3.1, hp3.2.1⟩) (g := (mkF m 406 #[.val (.int p0), .val (.int p1), .val (.int p2), .val (.long q3), .second, .val (.int kind), .val (.int r), .val (.int at_), .val (.int v), .val (.int (4 : Int32)), .val (.ref b), .val (.int ((240 : Int32) ||| (v >>> ((18 : Int32) &&& 31)))), .val (.int ((128 : Int32) ||| ((v >>> ((12 : Int32) &&& 31)) &&& (63 : Int32)))), .val (.int ((128 : Int32) ||| ((v >>> ((6 : Int32) &&& 31)) &&& (63 : Int32)))), .val (.int ((128 : Int32) ||| (v &&& (63 : Int32))))] [(.int (((128 : Int32) ||| (v &&& (63 : Int32))).toInt8.toInt32)), (.int (at_ + (3 : Int32))), (.ref b)])) rfl rfl (hb hby at_406)
    have Z_51 : n0 ≤ h51.size := Nat.le_trans Z_49 (Keep.of_wr W51).1
    have N51 := Fr.snoc X51 N49 g_b
    obtain ⟨c51, hc51⟩ : ∃ z, z = (c49.setSlot ((at_ + (3 : Int32))).toNatClampNeg (.int (nar .byte (((128 : Int32) ||| (v &&& (63 : Int32))).toInt8.toInt32)))) := ⟨_, rfl⟩
    have Aq51 : Arr Z h51 b c51 .byte := by rw [hc51]; exact Arr.same W51 Aq49
    have Sq51 : c51.slots.size = (8 : Int32).toNatClampNeg := by rw [hc51, sz_set]; exact Sq49
    have a0_51 : c51.slots[(at_).toNatClampNeg]? = some (.int (nar .byte (((240 : Int32) ||| (v >>> ((18 : Int32) &&& 31))).toInt8.toInt32))) := by rw [hc51]; exact (get_miss (own_nn hp3.1) (own_nn hp0.1) (own_ne (by omega))).trans a0_49
    have a1_51 : c51.slots[((at_ + (1 : Int32))).toNatClampNeg]? = some (.int (nar .byte (((128 : Int32) ||| ((v >>> ((12 : Int32) &&& 31)) &&& (63 : Int32))).toInt8.toInt32))) := by rw [hc51]; exact (get_miss (own_nn hp3.1) (own_nn hp1.1) (own_ne (by omega))).trans a1_49
    have a2_51 : c51.slots[((at_ + (2 : Int32))).toNatClampNeg]? = some (.int (nar .byte (((128 : Int32) ||| ((v >>> ((6 : Int32) &&& 31)) &&& (63 : Int32))).toInt8.toInt32))) := by rw [hc51]; exact (get_miss (own_nn hp3.1) (own_nn hp2.1) (own_ne (by omega))).trans a2_49
    have a3_51 : c51.slots[((at_ + (3 : Int32))).toNatClampNeg]? = some (.int (nar .byte (((128 : Int32) ||| (v &&& (63 : Int32))).toInt8.toInt32))) := by rw [hc51]; exact get_hit (own_in Sq49 ⟨hp3.1, hp3.2.1⟩) rfl
    have st52 : ∀ target, Steps p.tables e below (T51.setTop (mkF m 413 #[.val (.int p0), .val (.int p1), .val (.int p2), .val (.long q3), .second, .val (.int kind), .val (.int r), .val (.int at_), .val (.int v), .val (.int (4 : Int32)), .val (.ref b), .val (.int ((240 : Int32) ||| (v >>> ((18 : Int32) &&& 31)))), .val (.int ((128 : Int32) ||| ((v >>> ((12 : Int32) &&& 31)) &&& (63 : Int32)))), .val (.int ((128 : Int32) ||| ((v >>> ((6 : Int32) &&& 31)) &&& (63 : Int32)))), .val (.int ((128 : Int32) ||| (v &&& (63 : Int32))))] [(.int (4 : Int32)), (.int at_), (.ref b)])) target → Steps p.tables e below (T51.setTop (mkF m 407 #[.val (.int p0), .val (.int p1), .val (.int p2), .val (.long q3), .second, .val (.int kind), .val (.int r), .val (.int at_), .val (.int v), .val (.int (4 : Int32)), .val (.ref b), .val (.int ((240 : Int32) ||| (v >>> ((18 : Int32) &&& 31)))), .val (.int ((128 : Int32) ||| ((v >>> ((12 : Int32) &&& 31)) &&& (63 : Int32)))), .val (.int ((128 : Int32) ||| ((v >>> ((6 : Int32) &&& 31)) &&& (63 : Int32)))), .val (.int ((128 : Int32) ||| (v &&& (63 : Int32))))] [])) target := by
      intro target kt
      show Steps p.tables e below (T51.setTop (mkF m 407 #[.val (.int p0), .val (.int p1), .val (.int p2), .val (.long q3), .second, .val (.int kind), .val (.int r), .val (.int at_), .val (.int v), .val (.int (4 : Int32)), .val (.ref b), .val (.int ((240 : Int32) ||| (v >>> ((18 : Int32) &&& 31)))), .val (.int ((128 : Int32) ||| ((v >>> ((12 : Int32) &&& 31)) &&& (63 : Int32)))), .val (.int ((128 : Int32) ||| ((v >>> ((6 : Int32) &&& 31)) &&& (63 : Int32)))), .val (.int ((128 : Int32) ||| (v &&& (63 : Int32))))] [])) _
      refine XS.aload X51.here hx rfl (hb hby at_407) rfl rfl ?_
      show Steps p.tables e below (T51.setTop (mkF m 409 #[.val (.int p0), .val (.int p1), .val (.int p2), .val (.long q3), .second, .val (.int kind), .val (.int r), .val (.int at_), .val (.int v), .val (.int (4 : Int32)), .val (.ref b), .val (.int ((240 : Int32) ||| (v >>> ((18 : Int32) &&& 31)))), .val (.int ((128 : Int32) ||| ((v >>> ((12 : Int32) &&& 31)) &&& (63 : Int32)))), .val (.int ((128 : Int32) ||| ((v >>> ((6 : Int32) &&& 31)) &&& (63 : Int32)))), .val (.int ((128 : Int32) ||| (v &&& (63 : Int32))))] [(.ref b)])) _
      refine XS.iload X51.here hx rfl (hb hby at_409) rfl ?_
      show Steps p.tables e below (T51.setTop (mkF m 411 #[.val (.int p0), .val (.int p1), .val (.int p2), .val (.long q3), .second, .val (.int kind), .val (.int r), .val (.int at_), .val (.int v), .val (.int (4 : Int32)), .val (.ref b), .val (.int ((240 : Int32) ||| (v >>> ((18 : Int32) &&& 31)))), .val (.int ((128 : Int32) ||| ((v >>> ((12 : Int32) &&& 31)) &&& (63 : Int32)))), .val (.int ((128 : Int32) ||| ((v >>> ((6 : Int32) &&& 31)) &&& (63 : Int32)))), .val (.int ((128 : Int32) ||| (v &&& (63 : Int32))))] [(.int at_), (.ref b)])) _
      refine XS.iload X51.here hx rfl (hb hby at_411) rfl ?_
      exact kt
    obtain ⟨_, _, ⟨T53, L53, k53, n53⟩, -, X53, ⟨Lc53, hQ53, l53, y53, z53⟩, st53⟩ := Jvm.LawKit.callS X51 hx (y := (⟨"com/example/murray_hill/murrayhill/WellFormed", "codePoint", "([BII)I"⟩ : MethodName)) hown (mvT hZ (hw _ (List.mem_of_getElem? (i := 2) rfl))) (mvT hZ (hw _ (List.mem_of_getElem? (i := 3) rfl))) (mvT hZ (hw _ (List.mem_of_getElem? (i := 4) rfl))) (mvT hZ (hw _ (List.mem_of_getElem? (i := 5) rfl))) (by decide) (backOf (W := 0) (rmCP4 l Z a0 hw [] b at_ c51 ((nar .byte (((240 : Int32) ||| (v >>> ((18 : Int32) &&& 31))).toInt8.toInt32))) ((nar .byte (((128 : Int32) ||| ((v >>> ((12 : Int32) &&& 31)) &&& (63 : Int32))).toInt8.toInt32))) ((nar .byte (((128 : Int32) ||| ((v >>> ((6 : Int32) &&& 31)) &&& (63 : Int32))).toInt8.toInt32))) ((nar .byte (((128 : Int32) ||| (v &&& (63 : Int32))).toInt8.toInt32))) h51 n0 Z_51 Aq51 (own_in Sq51 ⟨hp0.1, hp0.2.1⟩) (own_in Sq51 ⟨hp1.1, hp1.2.1⟩) (own_in Sq51 ⟨hp2.1, hp2.2.1⟩) (own_in Sq51 ⟨hp3.1, hp3.2.1⟩) a0_51 a1_51 a2_51 a3_51) hZ (hw _ (List.mem_of_getElem? (i := 5) rfl)) (hw _ (List.mem_of_getElem? (i := 4) rfl)) (by decide) (by decide)) (g := (mkF m 413 #[.val (.int p0), .val (.int p1), .val (.int p2), .val (.long q3), .second, .val (.int kind), .val (.int r), .val (.int at_), .val (.int v), .val (.int (4 : Int32)), .val (.ref b), .val (.int ((240 : Int32) ||| (v >>> ((18 : Int32) &&& 31)))), .val (.int ((128 : Int32) ||| ((v >>> ((12 : Int32) &&& 31)) &&& (63 : Int32)))), .val (.int ((128 : Int32) ||| ((v >>> ((6 : Int32) &&& 31)) &&& (63 : Int32)))), .val (.int ((128 : Int32) ||| (v &&& (63 : Int32))))] [(.int (4 : Int32)), (.int at_), (.ref b)])) rfl (by rw [hml]; rfl) (argsL := [(.ref b), (.int at_), (.int (4 : Int32))]) (rest := []) (lenOf pd_0 rfl) rfl (by show 2 * 0 + _ ≤ _; exact Nat.le_of_eq rfl) (hb hby at_413) (fun _ _ => ⟨rfl, e51, (by decide : 1 + 0 ≤ _), (by decide : 8 + 0 ≤ _)⟩)
    dsimp only [Pt.U, Pt.locs, Pt.cells, Pt.slots] at X53 l53 y53 z53 st53 hQ53
    subst l53 y53 z53
    obtain ⟨rfl, Nq53, e53⟩ := hQ53
    have N53 := Fr.app N51 Nq53
    obtain ⟨fs, hr, hrun, hended, hW, hsame⟩ := X53.leave (v := some (.int (1 : Int32))) (fun h => by rw [Bd.returns] at h; cases h)
    refine ⟨_, _, pre0 _ (st1 _ (st2 _ (st3 _ (st4 _ (st5 _ (st6 _ (st7 _ (st8 _ (st9 _ (st10 _ (st11 _ (st12 _ (st13 _ (st14 _ (st15 _ (st16 _ (st17 _ (st18 _ (st19 _ (st20 _ (st21 _ (st43 _ (st44 _ (st45 _ (st46 _ (st47 _ (st48 _ (st49 _ (st50 _ (st51 _ (st52 _ (st53 _ ?_)))))))))))))))))))))))))))))))), hrun, hended, _, _, rfl, ?_, ⟨_, rfl⟩, hW, hsame.mono (by decide) (by decide)⟩
    · show Steps p.tables e below (T53.setTop (mkF m 416 #[.val (.int p0), .val (.int p1), .val (.int p2), .val (.long q3), .second, .val (.int kind), .val (.int r), .val (.int at_), .val (.int v), .val (.int (4 : Int32)), .val (.ref b), .val (.int ((240 : Int32) ||| (v >>> ((18 : Int32) &&& 31)))), .val (.int ((128 : Int32) ||| ((v >>> ((12 : Int32) &&& 31)) &&& (63 : Int32)))), .val (.int ((128 : Int32) ||| ((v >>> ((6 : Int32) &&& 31)) &&& (63 : Int32)))), .val (.int ((128 : Int32) ||| (v &&& (63 : Int32))))] [(.int (own_cp4 (nar .byte (((240 : Int32) ||| (v >>> ((18 : Int32) &&& 31))).toInt8.toInt32)) (nar .byte (((128 : Int32) ||| ((v >>> ((12 : Int32) &&& 31)) &&& (63 : Int32))).toInt8.toInt32)) (nar .byte (((128 : Int32) ||| ((v >>> ((6 : Int32) &&& 31)) &&& (63 : Int32))).toInt8.toInt32)) (nar .byte (((128 : Int32) ||| (v &&& (63 : Int32))).toInt8.toInt32))))])) _
      refine XS.iload X53.here hx rfl (hb hby at_416) rfl ?_
      show Steps p.tables e below (T53.setTop (mkF m 418 #[.val (.int p0), .val (.int p1), .val (.int p2), .val (.long q3), .second, .val (.int kind), .val (.int r), .val (.int at_), .val (.int v), .val (.int (4 : Int32)), .val (.ref b), .val (.int ((240 : Int32) ||| (v >>> ((18 : Int32) &&& 31)))), .val (.int ((128 : Int32) ||| ((v >>> ((12 : Int32) &&& 31)) &&& (63 : Int32)))), .val (.int ((128 : Int32) ||| ((v >>> ((6 : Int32) &&& 31)) &&& (63 : Int32)))), .val (.int ((128 : Int32) ||| (v &&& (63 : Int32))))] [(.int v), (.int (own_cp4 (nar .byte (((240 : Int32) ||| (v >>> ((18 : Int32) &&& 31))).toInt8.toInt32)) (nar .byte (((128 : Int32) ||| ((v >>> ((12 : Int32) &&& 31)) &&& (63 : Int32))).toInt8.toInt32)) (nar .byte (((128 : Int32) ||| ((v >>> ((6 : Int32) &&& 31)) &&& (63 : Int32))).toInt8.toInt32)) (nar .byte (((128 : Int32) ||| (v &&& (63 : Int32))).toInt8.toInt32))))])) _
      refine XS.icmpNo X53.here hx rfl (hb hby at_418) rfl (teq (own_v4 v0 v1)).2 ?_
      show Steps p.tables e below (T53.setTop (mkF m 421 #[.val (.int p0), .val (.int p1), .val (.int p2), .val (.long q3), .second, .val (.int kind), .val (.int r), .val (.int at_), .val (.int v), .val (.int (4 : Int32)), .val (.ref b), .val (.int ((240 : Int32) ||| (v >>> ((18 : Int32) &&& 31)))), .val (.int ((128 : Int32) ||| ((v >>> ((12 : Int32) &&& 31)) &&& (63 : Int32)))), .val (.int ((128 : Int32) ||| ((v >>> ((6 : Int32) &&& 31)) &&& (63 : Int32)))), .val (.int ((128 : Int32) ||| (v &&& (63 : Int32))))] [])) _
      refine XS.iconst X53.here hx rfl (hb hby at_421) ?_
      show Steps p.tables e below (T53.setTop (mkF m 422 #[.val (.int p0), .val (.int p1), .val (.int p2), .val (.long q3), .second, .val (.int kind), .val (.int r), .val (.int at_), .val (.int v), .val (.int (4 : Int32)), .val (.ref b), .val (.int ((240 : Int32) ||| (v >>> ((18 : Int32) &&& 31)))), .val (.int ((128 : Int32) ||| ((v >>> ((12 : Int32) &&& 31)) &&& (63 : Int32)))), .val (.int ((128 : Int32) ||| ((v >>> ((6 : Int32) &&& 31)) &&& (63 : Int32)))), .val (.int ((128 : Int32) ||| (v &&& (63 : Int32))))] [(.int (1 : Int32))])) _
      refine XS.goto X53.here hx rfl (pc0 := 422) (pc' := 426) rfl (hb hby at_422) (by decide) (by decide) ?_
      show Steps p.tables e below (T53.setTop (mkF m 426 #[.val (.int p0), .val (.int p1), .val (.int p2), .val (.long q3), .second, .val (.int kind), .val (.int r), .val (.int at_), .val (.int v), .val (.int (4 : Int32)), .val (.ref b), .val (.int ((240 : Int32) ||| (v >>> ((18 : Int32) &&& 31)))), .val (.int ((128 : Int32) ||| ((v >>> ((12 : Int32) &&& 31)) &&& (63 : Int32)))), .val (.int ((128 : Int32) ||| ((v >>> ((6 : Int32) &&& 31)) &&& (63 : Int32)))), .val (.int ((128 : Int32) ||| (v &&& (63 : Int32))))] [(.int (1 : Int32))])) _
      exact retN X53 hx (t := .boolean) Bd.returns (by simp) (hb hby at_426) hr
    · show Q_rm0 Z p0 p1 p2 q3 h0 n0 _ T53.heap _
      rw [e53]
      exact ⟨rfl, N53⟩
set_option maxRecDepth 65536 in
set_option maxHeartbeats 40000000 in
theorem comes_1 {Post : Tables → Env → Array Value → State → Outcome → State → Prop} (hpost : ∀ tb e args s v u, (limb_1_1.after args s (.returned v) u = true ∧ limb_1_2.after args s (.returned v) u = true ∧ True) → FrameEnd s (.returned v) u (Jvm.fieldLocs frame_1_writes args s ++ Jvm.arrayLocs frame_1_arrays args s ++ Jvm.staticLocs frame_1_statics s) 16 128 → Post tb e args s (.returned v) u) :
    ArmFor flags0 classFile x code maxLocals ret World_1 tables_1 room_1 Calls_1 rest_1 Pre_1 Post := by
  intro l hfl _ _ p e ha hc hk s m args below hf hA hF happ hP
  obtain ⟨hcalls, hrest, hpre⟩ := hP
  obtain ⟨-, -, -, hnamed, -, -, -, hat⟩ := (Spec.applies_iff hf).mp happ
  obtain ⟨hg, hn⟩ := and_e (Cond.before_iff.mp (show (Jvm.Cond.and given_1 narrow_1).before args s = true from hpre))
  obtain ⟨gg1, gg2⟩ := and_e hg
  obtain ⟨gg3, gg4⟩ := and_e gg2
  obtain ⟨gg5, gg6⟩ := and_e gg4
  obtain ⟨gg7, gg8⟩ := and_e gg6
  obtain ⟨w0, w1, w2, w3, rfl⟩ : ∃ w0 w1 w2 w3 : Value, args = #[w0, w1, w2, w3] := by
    have hs : args.size = 4 := by simpa [Cond.value, given_1] using gg1
    obtain ⟨L⟩ := args
    match L, hs with
    | [w0, w1, w2, w3], _ => exact ⟨w0, w1, w2, w3, rfl⟩
  have hw := fun d (hd : d ∈ tables_1) => atoms_spec (ws := Jvm.Cond.code x code maxLocals ret :: tables_1) hat d (List.mem_cons_of_mem _ hd)
  have hfit : Fit s := fun {y c} hc i hi => by
    obtain ⟨ha, rfl⟩ := Array.getElem?_eq_some_iff.mp hc
    have q := List.all_eq_true.mp ((Array.all_eq_true_iff_forall_mem.mp hF) _ (Array.getElem_mem ha)) i (List.mem_range.mpr hi)
    simpa [Array.getElem?_eq_getElem hi] using q
  obtain ⟨i0, ei0⟩ := is_v gg3
  obtain rfl : w0 = (.int i0) := Option.some.inj ei0
  obtain ⟨i1, ei1⟩ := is_v gg5
  obtain rfl : w1 = (.int i1) := Option.some.inj ei1
  obtain ⟨i2, ei2⟩ := is_v gg7
  obtain rfl : w2 = (.int i2) := Option.some.inj ei2
  obtain ⟨i3, ei3⟩ := isL_v gg8
  obtain rfl : w3 = (.long i3) := Option.some.inj ei3
  obtain ⟨n, o, h1, h2, h3, _, L, rfl, ⟨rfl, N⟩, hq⟩ := rm0 l s _ hw tables_1 i0 i1 i2 i3 s.heap s.heap.size (Nat.le_refl _)  p e ha hc hk s m _ below hf ((Spec.applies_iff_loose hf).mp happ).1 ⟨rfl, State.Warmed39.refl s, rfl⟩ trivial
  refine ⟨n, _, h1, h2, h3, hpost _ _ _ _ _ _ ⟨Cond.after_iff.mpr rfl, Cond.after_iff.mpr (eq_i res_at (Term.int_eval (1)) rfl), trivial⟩ ⟨hq.1, hq.2.1, (hq.2.2.sift fun y hy => Or.inr (N y hy)).mono (by decide) (by decide)⟩⟩
theorem main_1_1 : Claimed_1_1 := comes_1 fun _ _ _ _ _ _ h hF => ⟨h.1, hF⟩
theorem main_1_2 : Claimed_1_2 := comes_1 fun _ _ _ _ _ _ h hF => ⟨h.2.1, hF⟩
end Jvm.Pilot.@@N@@
namespace Jvm.Pilot.@@N@@
open Jvm Jvm.ClassFile Sem Op Lib Jvm.Free Jvm.Stand Jvm.Pilot.@@N@@.Jvm.D
/-! MADE BY PROGRAM (witnessworld.py) out of the Statement's table words and the real class files: 9 classes; the members and pool entries that the words name. The judged class is class 1, her method 1. -/
namespace start1
open Jvm.ClassFile
def u (s : String) : CpInfo := .utf8 (stringToUtf16 s)
/-- a pool by its gaps: so many unusable entries, then the entry; so many at the end -/
def gap : Nat → List CpInfo → List CpInfo
  | 0, r => r
  | n + 1, r => .unusable :: gap n r
def poolList (es : List (Nat × CpInfo)) (last : Nat) : List CpInfo := es.foldr (fun e r => gap e.1 (e.2 :: r)) (gap last [])
def pool (es : List (Nat × CpInfo)) (last : Nat) : Array CpInfo := ⟨poolList es last⟩
def fileOf (pool : Array CpInfo) (this : Nat) (attrs : Array Attribute := #[]) (ms : Array MethodInfo := #[]) (fl : Nat := 33) (sup : Nat := 0) (ifs : Array Nat := #[]) (fds : Array FieldInfo := #[]) : ClassFile where
  minorVersion := 0
  majorVersion := 65
  constantPool := pool
  accessFlags := fl
  thisClass := this
  superClass := sup
  interfaces := ifs
  fields := fds
  methods := ms
  attributes := attrs
def plain (name : String) (sup : Option ClassId) : Class where
  name := name
  kind := .ordinary
  loader := none
  accessFlags := 33
  super := sup
  interfaces := #[]
  cf := none
  fields := #[]
  methods := #[]
  instanceTypes := #[]
  staticTypes := #[]
  resolved := #[]
  callSites := []
  init := .initialized
  statics := none
  mirror := none

def pool0 : Array CpInfo := pool [(5, u "<init>"), (0, u "()V"), (1, .class_ 10), (1, u "java/lang/Object")] 113

def k0m0 : Method := { name := "<init>", desc := "()V", sig := { parameters := [], returnType := none }, accessFlags := 1, code := none }
/-- java/lang/Object -/
def k0 : Class := { plain "java/lang/Object" none with
  accessFlags := 33
  interfaces := #[]
  cf := some (fileOf pool0 8 #[] #[{ accessFlags := 1, nameIndex := 5, descriptorIndex := 6, attributes := #[] }] 33 0 #[] #[])
  fields := #[]
  methods := #[k0m0]
  instanceTypes := #[]
  staticTypes := #[]
  resolved := Array.replicate 124 none
  statics := none }

def pool1 : Array CpInfo := pool [(2, .class_ 4), (1, u "java/lang/Object"), (0, u "<init>"), (0, u "()V"), (0, .integer 2147483647), (0, .integer 63488), (0, .integer 55296), (0, .integer 57343), (0, .integer 65536), (0, .integer 1048576), (0, .methodref 14 15), (0, .class_ 16), (0, .nameAndType 17 18), (0, u "com/example/murray_hill/murrayhill/WellFormed"), (0, u "codePoint"), (0, u "([BII)I"), (0, .class_ 20), (0, u "com/example/murray_hill/murrayhill/WellFormedCodePointPinLaw"), (2, u "law"), (0, u "(IIIJ)Z")] 5

def k1m0 : Method := { name := "<init>", desc := "()V", sig := { parameters := [], returnType := none }, accessFlags := 1, code := none }
def k1c1 : Code := { maxStack := 5, maxLocals := 15, code := code, exceptionTable := #[], attributes := #[] }
def k1m1 : Method := { name := "law", desc := "(IIIJ)Z", sig := { parameters := [.int, .int, .int, .long], returnType := some .boolean }, accessFlags := 9, code := some k1c1 }
/-- com/example/murray_hill/murrayhill/WellFormedCodePointPinLaw -/
def k1 : Class := { plain "com/example/murray_hill/murrayhill/WellFormedCodePointPinLaw" (some 0) with
  accessFlags := 49
  interfaces := #[]
  cf := some (fileOf pool1 19 #[] #[{ accessFlags := 1, nameIndex := 5, descriptorIndex := 6, attributes := #[] }, { accessFlags := 9, nameIndex := 23, descriptorIndex := 24, attributes := #[] }] 49 2 #[] #[])
  fields := #[]
  methods := #[k1m0, k1m1]
  instanceTypes := #[]
  staticTypes := #[]
  resolved := Array.replicate 30 none
  statics := none }

def pool2 : Array CpInfo := pool [(2, .class_ 4), (1, u "java/lang/Object"), (0, u "<init>"), (0, u "()V"), (1, .class_ 10), (1, u "com/example/murray_hill/murrayhill/WellFormed"), (0, u "LENGTH"), (0, u "[B"), (2, u "SECOND_LOW"), (0, u "[I"), (2, u "SECOND_HIGH"), (55, u "([BII)I"), (50, u "LONGEST_ITEM"), (0, u "I"), (2, u "HIGH_BITS"), (0, u "J"), (0, u "LOW_SEVEN_BITS"), (0, u "BITS_ONE_TO_FOUR"), (0, u "LOW_FOUR_BITS"), (0, u "LOW_FOUR_BITS_D"), (0, u "LOW_THREE_BITS"), (0, u "THREES"), (0, u "BITS_ZERO_ONE_AND_THREE"), (0, u "LAST_BYTE"), (2, u "NOT_SEQUENCES"), (0, u "FIRST_SEVEN"), (10, u "codePoint")] 21

def k2m0 : Method := { name := "<init>", desc := "()V", sig := { parameters := [], returnType := none }, accessFlags := 2, code := none }
def k2c1 : Code := { maxStack := 4, maxLocals := 6, code := prog_39_method_13_code, exceptionTable := #[], attributes := #[] }
def k2m1 : Method := { name := "codePoint", desc := "([BII)I", sig := { parameters := [(.array .byte), .int, .int], returnType := some .int }, accessFlags := 8, code := some k2c1 }
/-- com/example/murray_hill/murrayhill/WellFormed -/
def k2 : Class := { plain "com/example/murray_hill/murrayhill/WellFormed" (some 0) with
  accessFlags := 32
  interfaces := #[]
  cf := some (fileOf pool2 8 #[] #[{ accessFlags := 2, nameIndex := 5, descriptorIndex := 6, attributes := #[] }, { accessFlags := 8, nameIndex := 154, descriptorIndex := 75, attributes := #[] }] 32 2 #[] #[{ accessFlags := 24, nameIndex := 126, descriptorIndex := 127, attributes := #[] }, { accessFlags := 26, nameIndex := 11, descriptorIndex := 12, attributes := #[] }, { accessFlags := 26, nameIndex := 15, descriptorIndex := 16, attributes := #[] }, { accessFlags := 26, nameIndex := 19, descriptorIndex := 16, attributes := #[] }, { accessFlags := 26, nameIndex := 130, descriptorIndex := 131, attributes := #[] }, { accessFlags := 26, nameIndex := 132, descriptorIndex := 131, attributes := #[] }, { accessFlags := 26, nameIndex := 133, descriptorIndex := 131, attributes := #[] }, { accessFlags := 26, nameIndex := 134, descriptorIndex := 131, attributes := #[] }, { accessFlags := 26, nameIndex := 135, descriptorIndex := 131, attributes := #[] }, { accessFlags := 26, nameIndex := 136, descriptorIndex := 131, attributes := #[] }, { accessFlags := 26, nameIndex := 137, descriptorIndex := 131, attributes := #[] }, { accessFlags := 26, nameIndex := 138, descriptorIndex := 131, attributes := #[] }, { accessFlags := 26, nameIndex := 139, descriptorIndex := 131, attributes := #[] }, { accessFlags := 24, nameIndex := 142, descriptorIndex := 131, attributes := #[] }, { accessFlags := 24, nameIndex := 143, descriptorIndex := 131, attributes := #[] }])
  fields := #[{ name := "LONGEST_ITEM", type := .int, accessFlags := 24, slot := 0, constantValue := 0 }, { name := "LENGTH", type := (.array .byte), accessFlags := 26, slot := 1, constantValue := 0 }, { name := "SECOND_LOW", type := (.array .int), accessFlags := 26, slot := 2, constantValue := 0 }, { name := "SECOND_HIGH", type := (.array .int), accessFlags := 26, slot := 3, constantValue := 0 }, { name := "HIGH_BITS", type := .long, accessFlags := 26, slot := 4, constantValue := 0 }, { name := "LOW_SEVEN_BITS", type := .long, accessFlags := 26, slot := 5, constantValue := 0 }, { name := "BITS_ONE_TO_FOUR", type := .long, accessFlags := 26, slot := 6, constantValue := 0 }, { name := "LOW_FOUR_BITS", type := .long, accessFlags := 26, slot := 7, constantValue := 0 }, { name := "LOW_FOUR_BITS_D", type := .long, accessFlags := 26, slot := 8, constantValue := 0 }, { name := "LOW_THREE_BITS", type := .long, accessFlags := 26, slot := 9, constantValue := 0 }, { name := "THREES", type := .long, accessFlags := 26, slot := 10, constantValue := 0 }, { name := "BITS_ZERO_ONE_AND_THREE", type := .long, accessFlags := 26, slot := 11, constantValue := 0 }, { name := "LAST_BYTE", type := .long, accessFlags := 26, slot := 12, constantValue := 0 }, { name := "NOT_SEQUENCES", type := .long, accessFlags := 24, slot := 13, constantValue := 0 }, { name := "FIRST_SEVEN", type := .long, accessFlags := 24, slot := 14, constantValue := 0 }]
  methods := #[k2m0, k2m1]
  instanceTypes := #[]
  staticTypes := #[.int, (.array .byte), (.array .int), (.array .int), .long, .long, .long, .long, .long, .long, .long, .long, .long, .long, .long]
  resolved := Array.replicate 176 none
  statics := none }

def pool3 : Array CpInfo := pool [(1, u "java/lang/Cloneable"), (0, .class_ 1), (0, u "java/lang/Object"), (0, .class_ 3)] 3

/-- java/lang/Cloneable -/
def k3 : Class := { plain "java/lang/Cloneable" (some 0) with
  accessFlags := 1537
  interfaces := #[]
  cf := some (fileOf pool3 2 #[] #[] 1537 4 #[] #[])
  fields := #[]
  methods := #[]
  instanceTypes := #[]
  staticTypes := #[]
  resolved := Array.replicate 8 none
  statics := none }

def pool4 : Array CpInfo := pool [(1, u "java/io/Serializable"), (0, .class_ 1), (0, u "java/lang/Object"), (0, .class_ 3)] 3

/-- java/io/Serializable -/
def k4 : Class := { plain "java/io/Serializable" (some 0) with
  accessFlags := 1537
  interfaces := #[]
  cf := some (fileOf pool4 2 #[] #[] 1537 4 #[] #[])
  fields := #[]
  methods := #[]
  instanceTypes := #[]
  staticTypes := #[]
  resolved := Array.replicate 8 none
  statics := none }

/-- the primitive byte -/
def k5 : Class := { plain "byte" none with kind := .primitive 'B', accessFlags := 0x411 }
/-- [B -/
def k6 : Class := { plain "[B" (some 0) with kind := .array 5 .byte, interfaces := #[3, 4], accessFlags := 1041 }

/-- the primitive int -/
def k7 : Class := { plain "int" none with kind := .primitive 'I', accessFlags := 0x411 }
/-- [I -/
def k8 : Class := { plain "[I" (some 0) with kind := .array 7 .int, interfaces := #[3, 4], accessFlags := 1041 }

def heap : Heap := #[]
def classes : Array Class := #[k0, k1, k2, k3, k4, k5, k6, k7, k8]
def interned : List (Array UInt16 × Addr) := []
def slotsUsed : Nat := 0
def theMethod : MethodId := ⟨1, 1⟩
def args0 : Array Value := #[.int 5, .int 5, .int 5, .long 5]
def aboutOver (below : List Frame) : State where
  vm := { classes := classes, interned := interned.toArray }
  heap := heap
  slotsUsed := slotsUsed
  threads := #[{ frames := .invoking theMethod args0 :: below }]
def below0 : List Frame := [.native { method := ⟨0, 0⟩, args := #[] }]
def about1 : State := aboutOver below0
def p0 : Program := .bare "" "" ""
def e0 : Env := launch0.env 0 0 0
theorem w_frames : about1.frames = Frame.invoking theMethod args0 :: below0 := rfl
set_option maxRecDepth 65536 in
theorem w_args : argsFit about1.vm theMethod args0 = true := by decide +kernel
set_option maxRecDepth 65536 in
theorem w_heap : heapFits about1 = true := by decide +kernel
set_option maxRecDepth 65536 in
theorem w_runnable : about1.curStatus? = some .runnable := by decide +kernel
set_option maxRecDepth 65536 in
theorem w_alone : about1.alone = true := by decide +kernel
set_option maxRecDepth 65536 in
theorem w_named : about1.methodNamed? x = some theMethod := by decide +kernel
set_option maxRecDepth 65536 in
theorem w_hears : about1.hears theMethod below0 = true := by decide +kernel
set_option maxRecDepth 65536 in
theorem w_ripe : about1.ripe theMethod args0 below0 = true := by decide +kernel
theorem w_running : about1.status = .running := rfl
set_option maxRecDepth 65536 in
theorem w_room : about1.hasRoom e0.platform room_1 = true :=
  launch0.hasRoom_least _ room_1 (by decide +kernel) (by decide +kernel) (by decide +kernel) (by decide +kernel) (by decide +kernel) (by decide +kernel)
theorem allAtoms_all (ts : List Jvm.Cond) (a : Array Jvm.Value) (st : Jvm.State) : (allAtoms ts).before a st = ts.all (fun c => c.before a st) := by
  induction ts with
  | nil => rfl
  | cons c t ih =>
    show (Jvm.Cond.and c (allAtoms t)).before a st = _
    rw [Jvm.Cond.before_and, ih, List.all_cons]
def words1 : List Jvm.Cond := Jvm.Cond.code x code maxLocals ret :: tables_1
/-- a 'code' word, met by the world's own term for the bytes: nothing is compared byte by byte -/
theorem code_word {y : MethodName} {bytes : ByteArray} {mx : Nat} {rt : Option FieldType} {a : Array Value} {s : State} {m : MethodId} {meth : Method} {c : Code} (h1 : s.methodNamed? y = some m) (h2 : s.vm.method? m = some meth) (h3 : meth.code = some c) (h4 : c.code = bytes)
    (h5 : (c.maxLocals == mx && c.exceptionTable.isEmpty && decide (c.maxStack ≤ mostOperands) && decide (meth.sig.returnType = rt) && !meth.locks && decide (parseMethodDescriptor y.desc = some meth.sig)) = true) : (Jvm.Cond.code y bytes mx rt).before a s = true := by
  simp only [Bool.and_eq_true, beq_iff_eq, Bool.not_eq_true', decide_eq_true_eq] at h5
  obtain ⟨⟨⟨⟨⟨g1, g2⟩, g3⟩, g4⟩, g5⟩, g6⟩ := h5
  simp [Cond.before, Cond.holds, Cond.value, h1, h2, h3, h4, g1, g2, g3, g4, g5, g6]
def isCode : Jvm.Cond → Bool
  | .code _ _ _ _ => true
  | _ => false
theorem all_split {L : List Jvm.Cond} {P : Jvm.Cond → Bool} (h1 : L.all (fun c => isCode c || P c) = true) (h2 : ∀ c ∈ L.filter isCode, P c = true) : L.all P = true := by
  refine List.all_eq_true.mpr fun c hc => ?_
  have h := List.all_eq_true.mp h1 c hc
  rcases Bool.eq_false_or_eq_true (isCode c) with hi | hi
  · exact h2 c (List.mem_filter.mpr ⟨hc, hi⟩)
  · simpa [hi] using h
set_option maxRecDepth 65536 in
theorem w_c0 : (Jvm.Cond.code x code maxLocals ret).before args0 about1 = true := code_word (m := ⟨1, 1⟩) (meth := k1m1) (c := k1c1) (by decide +kernel) rfl rfl rfl (by decide +kernel)
set_option maxRecDepth 65536 in
theorem w_c1 : (Jvm.Cond.code ({ cls := "com/example/murray_hill/murrayhill/WellFormed", name := "codePoint", desc := "([BII)I" } : Jvm.MethodName) prog_39_method_13_code (6 : Nat) (Option.some Jvm.ClassFile.FieldType.int)).before args0 about1 = true := code_word (m := ⟨2, 1⟩) (meth := k2m1) (c := k2c1) (by decide +kernel) rfl rfl rfl (by decide +kernel)
def codes1 : List Jvm.Cond := [Jvm.Cond.code x code maxLocals ret, Jvm.Cond.code ({ cls := "com/example/murray_hill/murrayhill/WellFormed", name := "codePoint", desc := "([BII)I" } : Jvm.MethodName) prog_39_method_13_code (6 : Nat) (Option.some Jvm.ClassFile.FieldType.int)]
set_option maxRecDepth 65536 in
theorem codes_eq : words1.filter isCode = codes1 := rfl
theorem w_codes : ∀ c ∈ words1.filter isCode, c.before args0 about1 = true := by
  rw [codes_eq]
  intro c hc
  simp only [codes1, List.mem_cons, List.not_mem_nil, or_false] at hc
  rcases hc with rfl | rfl
  · exact w_c0
  · exact w_c1
set_option maxRecDepth 65536 in
theorem w_t1 : words1.all (fun c => isCode c || c.before args0 about1) = true := by decide +kernel
theorem w_tables : (allAtoms (Jvm.Cond.code x code maxLocals ret :: tables_1)).before args0 about1 = true := by
  rw [allAtoms_all]
  show words1.all (fun c => c.before args0 about1) = true
  refine all_split ?_ w_codes
  rw [w_t1]
set_option maxRecDepth 65536 in
theorem w_case : (Jvm.Cond.and given_1 narrow_1).before args0 about1 = true := by decide +kernel
theorem w_applies : (headSpec (Jvm.Cond.code x code maxLocals ret :: tables_1) room_1).applies x e0.platform about1 = true :=
  (Spec.applies_iff w_frames).mpr ⟨w_running, w_runnable, w_alone, w_named, w_hears, w_ripe, w_room, w_tables⟩
theorem atStart : AtStart classFile x code maxLocals ret World_1 tables_1 room_1 Calls_1 rest_1 Pre_1 launch0 p0 e0 about1 theMethod args0 below0 :=
  ⟨lists_1, trivial, launch0.admits_env _ _ _, launch0.least_env, fairChoices_fair.cas, fairChoices_fair.clock, w_frames, w_args, w_heap, w_applies, trivial, trivial, w_case⟩
end start1
theorem witness_1 : WitnessClaimed_1 := ⟨start1.p0, start1.e0, start1.about1, start1.theMethod, start1.args0, start1.below0, start1.atStart⟩
end Jvm.Pilot.@@N@@
