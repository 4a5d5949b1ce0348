import JvmDerived
import JvmDerived.Pilot.@@N@@Statement
import JvmDerived.Pilot.@@N@@Code
set_option linter.unusedVariables false
set_option linter.unusedSimpArgs false
namespace Jvm.RoadKit
open Sem ClassFile Op Lib Jvm.Stand Jvm.Free Jvm.LawKit
section New
variable {p : Program} {l : Launch} {e : Env} {R : Room} {s : State} {m : MethodId} {args : Array Value} {below : List Frame} {meth : Method} {c : Code} {T : State} {locs : List Loc} {cells slots : Nat}
theorem retI (X : Stand p l e R s m args below meth c T locs cells slots) (hx : p.tables.exec = Jvm.exec) {pc : Nat} {Ls : Array Slot} {z : Int32} {rest : List Value} (hret : meth.sig.returnType = some .int) (hd : decode c.code pc = .ok (.ireturn, 1)) {fs : List Frame}
    (hl : ∀ (f : JFrame) (acts : List Action), f.method = m → f.locked = none → f.entered = [] → (doReturn e (T.setTop f) acts (some (.int z))).1 = T.setFrames fs) : Steps p.tables e below (T.setTop (mkF m pc Ls (.int z :: rest))) (T.setFrames fs) := by
  have hm' : T.vm.method? m = some meth := X.method'
  have hn : narrow .int (.int z) = .int z := rfl
  show Steps p.tables e below (T.setTop { method := m, pc := pc, locals := Ls, stack := _ :: rest, locked := none }) _
  jvm_step X.here [X.here.top, hx, hd, hm', hret, hn]
  first | (intro acts; rw [hl _ acts rfl rfl rfl]) | rw [hl _ _ rfl rfl rfl]
  exact Steps.refl _
end New
end Jvm.RoadKit
namespace Jvm.Pilot.@@N@@
open Jvm Jvm.ClassFile Sem Op Lib Jvm.Free Jvm.Stand Jvm.LawKit Jvm.RoadKit Bundle Jvm.Pilot.@@N@@.Jvm.D
theorem own_lc_lt (x y : Int64) : lcmpW x y < 0 ↔ x < y := by rw [lcW]; exact lc_lt x y
theorem own_lc_gt (x y : Int64) : 0 < lcmpW x y ↔ y < x := by rw [lcW]; exact lc_gt x y
theorem own_lc_eq (x y : Int64) : lcmpW x y = 0 ↔ x = y := by rw [lcW]; exact lc_eq x y
theorem own_ri {P : Prop} [Decidable P] {a b : Value} (h1 : a.isRef = true) (h2 : b.isRef = true) : (if P then a else b).isRef = true := by
  by_cases h : P
  · rw [if_pos h]; exact h1
  · rw [if_neg h]; exact h2
theorem own_sta_keep {Z : State} {h h' : Heap} {C n d : String} {w : Value} {ws : List Addr} (F : Sta Z h C n d w) (K : Keep h h' ws) (q : ∀ x ∈ ws, ∀ cell : Cell, h[x]? = some cell → cell.vm.isStatics = false) : Sta Z h' C n d w := by
  obtain ⟨cf, i, k, f, st, cell, h1, h2, h3, h4, h5, h6, h7⟩ := F
  exact ⟨cf, i, k, f, st, cell, h1, h2, h3, h4, K.2.1 st cell h5 (fun z => by rw [q st z cell h5] at h6; cases h6), h6, h7⟩
theorem pd_0 : parseMethodDescriptor "(I)I" = some ⟨[.int], some .int⟩ := by decide +kernel
theorem pd_1 : parseMethodDescriptor "(I[BI)I" = some ⟨[.int, (.array .byte), .int], some .int⟩ := by decide +kernel
theorem pd_2 : parseMethodDescriptor "([BII)I" = some ⟨[(.array .byte), .int, .int], some .int⟩ := by decide +kernel
theorem pd_3 : parseMethodDescriptor "(I)Z" = some ⟨[.int], some .boolean⟩ := by decide +kernel
theorem own_len {args : Array Value} {s : State} {t : Term} {a : Addr} {cell : Cell} {v : Value} (ev : t.eval args s none [] s = some (.ref a)) (hc : s.arrayAt? a = some cell) (h : (Term.length t).eval args s none [] s = some v) : cell.slots.size < 2 ^ 31 := by
  simp only [Term.eval, ev, hc, Option.bind_eq_bind, Option.bind_some] at h
  split at h
  · assumption
  · cases h
/-- a small int by its number -/
theorem own_small {x : Int32} {n : Nat} (hn : n ≤ 4096) (h0 : 0 ≤ x.toInt) (h1 : x.toInt < n) : ∃ k : Fin n, x = Int32.ofNat k.val := by
  refine ⟨⟨x.toInt.toNat, by omega⟩, ?_⟩
  apply Int32.toInt_inj.mp
  rw [Int32.toInt_ofNat_of_lt (by show x.toInt.toNat < 2 ^ 31; omega)]
  show x.toInt = ((x.toInt.toNat : Nat) : Int)
  omega
theorem own_contK : ∀ k : Fin 64, ((nar .byte ((128 ||| Int32.ofNat k.val).toInt8.toInt32)) &&& (63 : Int32)) = Int32.ofNat k.val := by decide +kernel
theorem own_lead2K : ∀ k : Fin 32, (((nar .byte ((192 ||| Int32.ofNat k.val).toInt8.toInt32)) &&& (255 : Int32)) &&& ((127 : Int32) >>> ((2 : Int32) &&& 31))) = Int32.ofNat k.val := by decide +kernel
theorem own_lead3K : ∀ k : Fin 16, (((nar .byte ((224 ||| Int32.ofNat k.val).toInt8.toInt32)) &&& (255 : Int32)) &&& ((127 : Int32) >>> ((3 : Int32) &&& 31))) = Int32.ofNat k.val := by decide +kernel
theorem own_lead4K : ∀ k : Fin 8, (((nar .byte ((240 ||| Int32.ofNat k.val).toInt8.toInt32)) &&& (255 : Int32)) &&& ((127 : Int32) >>> ((4 : Int32) &&& 31))) = Int32.ofNat k.val := by decide +kernel
theorem own_lead1K : ∀ k : Fin 128, ((nar .byte ((Int32.ofNat k.val).toInt8.toInt32)) &&& (255 : Int32)) = Int32.ofNat k.val := by decide +kernel
theorem own_cont {x : Int32} (h0 : 0 ≤ x.toInt) (h1 : x.toInt < 64) : ((nar .byte ((128 ||| x).toInt8.toInt32)) &&& (63 : Int32)) = x := by
  obtain ⟨k, rfl⟩ := own_small (n := 64) (by decide) h0 h1; exact own_contK k
theorem own_lead1 {x : Int32} (h0 : 0 ≤ x.toInt) (h1 : x.toInt < 128) : ((nar .byte (x.toInt8.toInt32)) &&& (255 : Int32)) = x := by
  obtain ⟨k, rfl⟩ := own_small (n := 128) (by decide) h0 h1; exact own_lead1K k
theorem own_lead2 {x : Int32} (h0 : 0 ≤ x.toInt) (h1 : x.toInt < 32) : (((nar .byte ((192 ||| x).toInt8.toInt32)) &&& (255 : Int32)) &&& ((127 : Int32) >>> ((2 : Int32) &&& 31))) = x := by
  obtain ⟨k, rfl⟩ := own_small (n := 32) (by decide) h0 h1; exact own_lead2K k
theorem own_lead3 {x : Int32} (h0 : 0 ≤ x.toInt) (h1 : x.toInt < 16) : (((nar .byte ((224 ||| x).toInt8.toInt32)) &&& (255 : Int32)) &&& ((127 : Int32) >>> ((3 : Int32) &&& 31))) = x := by
  obtain ⟨k, rfl⟩ := own_small (n := 16) (by decide) h0 h1; exact own_lead3K k
theorem own_lead4 {x : Int32} (h0 : 0 ≤ x.toInt) (h1 : x.toInt < 8) : (((nar .byte ((240 ||| x).toInt8.toInt32)) &&& (255 : Int32)) &&& ((127 : Int32) >>> ((4 : Int32) &&& 31))) = x := by
  obtain ⟨k, rfl⟩ := own_small (n := 8) (by decide) h0 h1; exact own_lead4K k
theorem own_join {y z : Int32} (y0 : 0 ≤ y.toInt) (y1 : y.toInt < 1048576) (z0 : 0 ≤ z.toInt) (z1 : z.toInt < 64) : ((y <<< ((6 : Int32) &&& 31)) ||| z).toInt = y.toInt * 64 + z.toInt := by
  have e1 := c_ishl y (6 : Int32) 6 rfl
  have b1 := Int32.le_toInt (y <<< ((6 : Int32) &&& 31))
  have b2 := Int32.toInt_lt (y <<< ((6 : Int32) &&& 31))
  have e2 := c_or (y <<< ((6 : Int32) &&& 31)) z 6 (by decide) 64 rfl
  have b3 := Int32.le_toInt ((y <<< ((6 : Int32) &&& 31)) ||| z)
  have b4 := Int32.toInt_lt ((y <<< ((6 : Int32) &&& 31)) ||| z)
  rw [show ((2 ^ 6 : Nat) : Int) = 64 from rfl] at e1
  have e3 : (y <<< ((6 : Int32) &&& 31)).toInt = y.toInt * 64 := by omega
  have e4 := e2 (by omega) z0 z1
  omega
theorem own_and63 (v : Int32) : (v &&& (63 : Int32)).toInt = v.toInt % 64 := c_mask v 63 6 (by decide) rfl
theorem own_shr6 (v : Int32) : (v >>> ((6 : Int32) &&& 31)).toInt = v.toInt / 64 := c_ishr v 6 6 rfl
theorem own_shr12 (v : Int32) : (v >>> ((12 : Int32) &&& 31)).toInt = v.toInt / 4096 := c_ishr v 12 12 rfl
theorem own_shr18 (v : Int32) : (v >>> ((18 : Int32) &&& 31)).toInt = v.toInt / 262144 := c_ishr v 18 18 rfl
theorem own_iincW {tb : Tables} [Ours tb] {e : Env} {below : List Frame} {T target : State} {m : MethodId} {c : Code} {g : JFrame} (h : At T m c below) (hx : tb.exec = Jvm.exec) (hg : g.method = m) {k : Nat} {cst : Int} {x : Int32} {l' : Array Slot} (hd : decode c.code g.pc = .ok (.iinc k cst, 6)) (hl : g.locals[k]? = some (.val (.int x))) (hl' : storeLocals g.locals k (.int (x + Int32.ofInt cst)) = some l')
    (hr : Steps tb e below (T.setTop { g with pc := g.pc + 6, locals := l' }) target) : Steps tb e below (T.setTop g) target := by
  subst hg
  jvm_step h [h.top, hx, hd, hl, hl']
  exact hr
theorem own_S2K : ∀ k : Fin 32, (((nar .byte ((((65280 : Int32) >>> ((2 : Int32) &&& 31)) ||| Int32.ofNat k.val).toInt8.toInt32)) &&& (255 : Int32))).toInt = 192 + (Int32.ofNat k.val).toInt ∧ (((nar .byte ((((65280 : Int32) >>> ((2 : Int32) &&& 31)) ||| Int32.ofNat k.val).toInt8.toInt32)) &&& (255 : Int32)) &&& ((127 : Int32) >>> ((2 : Int32) &&& 31))) = Int32.ofNat k.val := by decide +kernel
theorem own_S3K : ∀ k : Fin 16, (((nar .byte ((((65280 : Int32) >>> ((3 : Int32) &&& 31)) ||| Int32.ofNat k.val).toInt8.toInt32)) &&& (255 : Int32))).toInt = 224 + (Int32.ofNat k.val).toInt ∧ (((nar .byte ((((65280 : Int32) >>> ((3 : Int32) &&& 31)) ||| Int32.ofNat k.val).toInt8.toInt32)) &&& (255 : Int32)) &&& ((127 : Int32) >>> ((3 : Int32) &&& 31))) = Int32.ofNat k.val := by decide +kernel
theorem own_S4K : ∀ k : Fin 8, (((nar .byte ((((65280 : Int32) >>> ((4 : Int32) &&& 31)) ||| Int32.ofNat k.val).toInt8.toInt32)) &&& (255 : Int32))).toInt = 240 + (Int32.ofNat k.val).toInt ∧ (((nar .byte ((((65280 : Int32) >>> ((4 : Int32) &&& 31)) ||| Int32.ofNat k.val).toInt8.toInt32)) &&& (255 : Int32)) &&& ((127 : Int32) >>> ((4 : Int32) &&& 31))) = Int32.ofNat k.val := by decide +kernel
theorem own_TK : ∀ k : Fin 64, ((nar .byte ((128 ||| Int32.ofNat k.val).toInt8.toInt32)) &&& (255 : Int32)).toInt = 128 + (Int32.ofNat k.val).toInt := by decide +kernel
theorem own_S2 {x : Int32} (h0 : 0 ≤ x.toInt) (h1 : x.toInt < 32) : (((nar .byte ((((65280 : Int32) >>> ((2 : Int32) &&& 31)) ||| x).toInt8.toInt32)) &&& (255 : Int32))).toInt = 192 + x.toInt ∧ (((nar .byte ((((65280 : Int32) >>> ((2 : Int32) &&& 31)) ||| x).toInt8.toInt32)) &&& (255 : Int32)) &&& ((127 : Int32) >>> ((2 : Int32) &&& 31))) = x := by
  obtain ⟨k, rfl⟩ := own_small (n := 32) (by decide) h0 h1; exact own_S2K k
theorem own_S3 {x : Int32} (h0 : 0 ≤ x.toInt) (h1 : x.toInt < 16) : (((nar .byte ((((65280 : Int32) >>> ((3 : Int32) &&& 31)) ||| x).toInt8.toInt32)) &&& (255 : Int32))).toInt = 224 + x.toInt ∧ (((nar .byte ((((65280 : Int32) >>> ((3 : Int32) &&& 31)) ||| x).toInt8.toInt32)) &&& (255 : Int32)) &&& ((127 : Int32) >>> ((3 : Int32) &&& 31))) = x := by
  obtain ⟨k, rfl⟩ := own_small (n := 16) (by decide) h0 h1; exact own_S3K k
theorem own_S4 {x : Int32} (h0 : 0 ≤ x.toInt) (h1 : x.toInt < 8) : (((nar .byte ((((65280 : Int32) >>> ((4 : Int32) &&& 31)) ||| x).toInt8.toInt32)) &&& (255 : Int32))).toInt = 240 + x.toInt ∧ (((nar .byte ((((65280 : Int32) >>> ((4 : Int32) &&& 31)) ||| x).toInt8.toInt32)) &&& (255 : Int32)) &&& ((127 : Int32) >>> ((4 : Int32) &&& 31))) = x := by
  obtain ⟨k, rfl⟩ := own_small (n := 8) (by decide) h0 h1; exact own_S4K k
theorem own_T {x : Int32} (h0 : 0 ≤ x.toInt) (h1 : x.toInt < 64) : ((nar .byte ((128 ||| x).toInt8.toInt32)) &&& (255 : Int32)).toInt = 128 + x.toInt := by
  obtain ⟨k, rfl⟩ := own_small (n := 64) (by decide) h0 h1; exact own_TK k
abbrev own_u6 (x : Int32) : Int32 := ((x.toUInt32 >>> ((6 : Int32) &&& 31).toUInt32).toInt32)
theorem own_u6i {x : Int32} (h : 0 ≤ x.toInt) : (own_u6 x).toInt = x.toInt / 64 := by
  have e := c_iushr x (6 : Int32) 6 rfl (by decide)
  have b := Int32.toInt_lt x
  rw [show ((2 ^ 6 : Nat) : Int) = 64 from rfl] at e
  show ((x.toUInt32 >>> ((6 : Int32) &&& 31).toUInt32).toInt32).toInt = _
  rw [e]; omega
/-- what the three tables hold -/
def own_TL (c : Cell) : Prop := ∀ j : Int32, 0 ≤ j.toInt → j.toInt < 256 → (j.toInt < 128 → atv c j = 1) ∧ (194 ≤ j.toInt → j.toInt < 224 → atv c j = 2) ∧ (224 ≤ j.toInt → j.toInt < 240 → atv c j = 3) ∧ (240 ≤ j.toInt → j.toInt < 245 → atv c j = 4)
def own_TO (c : Cell) : Prop := ∀ j : Int32, 0 ≤ j.toInt → j.toInt < 256 → (194 ≤ j.toInt → j.toInt < 224 → atv c j = 128) ∧ (j.toInt = 224 → atv c j = 160) ∧ (225 ≤ j.toInt → j.toInt < 240 → atv c j = 128) ∧ (j.toInt = 240 → atv c j = 144) ∧ (241 ≤ j.toInt → j.toInt < 245 → atv c j = 128)
def own_TH (c : Cell) : Prop := ∀ j : Int32, 0 ≤ j.toInt → j.toInt < 256 → (194 ≤ j.toInt → j.toInt < 237 → atv c j = 191) ∧ (j.toInt = 237 → atv c j = 159) ∧ (238 ≤ j.toInt → j.toInt < 244 → atv c j = 191) ∧ (j.toInt = 244 → atv c j = 143)
theorem own_in256 {c : Cell} (S : c.slots.size = (256 : Int32).toNatClampNeg) {j : Int32} (h0 : 0 ≤ j.toInt) (h1 : j.toInt < 256) : ¬ (j < 0 ∨ c.slots.size ≤ j.toNatClampNeg) := by
  refine inb_of S ⟨?_, ?_⟩
  · rw [Int32.lt_iff_toInt_lt, show (0 : Int32).toInt = 0 from rfl]; omega
  · rw [Int32.lt_iff_toInt_lt, show (256 : Int32).toInt = 256 from rfl]; omega
theorem own_nltI {a b : Int32} (h : b.toInt ≤ a.toInt) : ¬ a < b := by rw [Int32.lt_iff_toInt_lt]; omega
def own_sl (p0 : Int32) : Int32 := (if p0 < (128 : Int32) then (1 : Int32) else (if p0 < (2048 : Int32) then (2 : Int32) else (if p0 < (65536 : Int32) then (3 : Int32) else (4 : Int32))))
theorem d1_0 : decode prog_39_method_15_code 0 = .ok (.iload_n 0, 1) := by decide +kernel
theorem d1_1 : decode prog_39_method_15_code 1 = .ok (.sipush 128, 3) := by decide +kernel
theorem d1_4 : decode prog_39_method_15_code 4 = .ok (.if_icmp .ge 5, 3) := by decide +kernel
theorem d1_7 : decode prog_39_method_15_code 7 = .ok (.iconst 1, 1) := by decide +kernel
theorem d1_8 : decode prog_39_method_15_code 8 = .ok (.ireturn, 1) := by decide +kernel
theorem d1_9 : decode prog_39_method_15_code 9 = .ok (.iload_n 0, 1) := by decide +kernel
theorem d1_10 : decode prog_39_method_15_code 10 = .ok (.sipush 2048, 3) := by decide +kernel
theorem d1_13 : decode prog_39_method_15_code 13 = .ok (.if_icmp .ge 5, 3) := by decide +kernel
theorem d1_16 : decode prog_39_method_15_code 16 = .ok (.iconst 2, 1) := by decide +kernel
theorem d1_17 : decode prog_39_method_15_code 17 = .ok (.ireturn, 1) := by decide +kernel
theorem d1_18 : decode prog_39_method_15_code 18 = .ok (.iload_n 0, 1) := by decide +kernel
theorem d1_19 : decode prog_39_method_15_code 19 = .ok (.ldc 117, 2) := by decide +kernel
theorem d1_21 : decode prog_39_method_15_code 21 = .ok (.if_icmp .ge 5, 3) := by decide +kernel
theorem d1_24 : decode prog_39_method_15_code 24 = .ok (.iconst 3, 1) := by decide +kernel
theorem d1_25 : decode prog_39_method_15_code 25 = .ok (.ireturn, 1) := by decide +kernel
theorem d1_26 : decode prog_39_method_15_code 26 = .ok (.iconst 4, 1) := by decide +kernel
theorem d1_27 : decode prog_39_method_15_code 27 = .ok (.ireturn, 1) := by decide +kernel
theorem pn_0 : plainName "com/example/murray_hill/murrayhill/WellFormed" = true := by first | (simp [plainName, overriddenIn]; done) | decide +kernel
theorem ef_rm1 (m : MethodId) (x0 : Int32) : entryFrame m #[(.int x0)] 1 = mkF m 0 #[.val (.int x0)] [] := by first | (simp [entryFrame, mkF, argsToLocals, Value.category]; done) | rfl
def Q_rm1 (Z : State) (p0 : Int32) (h0 : Heap) (n0 : Nat) (v : Option Value) (h : Heap) (L : List Loc) : Prop := v = some (.int (own_sl p0)) ∧ Fr n0 L ∧ h = h0
set_option maxRecDepth 65536 in
set_option maxHeartbeats 40000000 in
theorem rm1 (l : Launch) (Z : State) (a0 : Array Value) (hw : ∀ d ∈ tables_1, d.before a0 Z = true) (ws : List Jvm.Cond) (p0 : Int32) (h0 : Heap) (n0 : Nat) (Z0 : n0 ≤ h0.size) :
    MetFree l (⟨"com/example/murray_hill/murrayhill/WellFormed", "sequenceLength", "(I)I"⟩ : MethodName) (head1 (Jvm.Cond.code (⟨"com/example/murray_hill/murrayhill/WellFormed", "sequenceLength", "(I)I"⟩ : MethodName) prog_39_method_15_code 1 (some .int) :: ws) ({ frames := 0, cells := 0, slots := 0, locals := 0 } : Room)) (fun a U => a = #[(.int p0)] ∧ Z.Warmed39 U.vm ∧ U.heap = h0) (fun _ _ _ _ _ => True) (fun _ U o U' => ∃ v L, o = .returned v ∧ Q_rm1 Z p0 h0 n0 v U'.heap L ∧ FrameEnd U o U' L ({ frames := 0, cells := 0, slots := 0, locals := 0 } : Room).cells ({ frames := 0, cells := 0, slots := 0, locals := 0 } : Room).slots) := by
  refine MetFree.of_bodySF (plainFor_of_name pn_0) hisR ?_
  intro p e s m args below meth c s₁ Bd hml0 hP hK
  obtain ⟨rfl, hZ, hh⟩ := hP
  have hx := Bd.exec
  have hby := Bd.bytes
  have hml : c.maxLocals = 1 := hml0
  have hown : s.vm.findClass "com/example/murray_hill/murrayhill/WellFormed" = some m.cls := findClass_of_methodNamed Bd.named
  have hnm := (name_of_methodNamed Bd.named Bd.method).1
  have X0 : Stand p l e ({ frames := 0, cells := 0, slots := 0, locals := 0 } : Room) s m #[(.int p0)] below meth c s₁ [] 0 0 := Stand.of_body Bd
  have e0 : s₁.heap = h0 := by rw [← hh, Bd.state]; rfl
  have N0 := Fr.nil n0
  have pre0 : ∀ t, Steps p.tables e below (s₁.setTop (mkF m 0 #[.val (.int p0)] [])) t → Steps p.tables e below (s₁.setTop (entryFrame m #[(.int p0)] 1)) t := fun t k => castTop (ef_rm1 m p0) k
  obtain ⟨fs, hr, hrun, hended, hW, hsame⟩ := X0.leave (v := some (.int (if p0 < (128 : Int32) then (1 : Int32) else (if p0 < (2048 : Int32) then (2 : Int32) else (if p0 < (65536 : Int32) then (3 : Int32) else (4 : Int32)))))) (fun h => by rw [Bd.returns] at h; cases h)
  refine ⟨_, _, pre0 _ ?_, hrun, hended, _, _, rfl, ?_, ⟨_, rfl⟩, hW, hsame.mono (by decide) (by decide)⟩
  · refine XS.iloadN X0.here hx rfl (hb hby d1_0) rfl ?_
    refine XS.sipush X0.here hx rfl (hb hby d1_1) ?_
    by_cases hc4 : p0 < (128 : Int32)
    · rw [if_pos hc4] at hr
      refine XS.icmpNo X0.here hx rfl (hb hby d1_4) rfl (tlt hc4).2.1 ?_
      refine XS.iconst X0.here hx rfl (hb hby d1_7) ?_
      show Steps p.tables e below (s₁.setTop (mkF m 8 #[.val (.int p0)] [(.int (1 : Int32))])) _
      exact retI X0 hx Bd.returns (hb hby d1_8) hr
    · rw [if_neg hc4] at hr
      refine XS.icmpYes X0.here hx rfl (pc0 := 4) (pc' := 9) rfl (hb hby d1_4) rfl (flt hc4).2.1 (by decide) (by decide) ?_
      refine XS.iloadN X0.here hx rfl (hb hby d1_9) rfl ?_
      refine XS.sipush X0.here hx rfl (hb hby d1_10) ?_
      by_cases hc13 : p0 < (2048 : Int32)
      · rw [if_pos hc13] at hr
        show Steps p.tables e below (s₁.setTop (mkF m 13 #[.val (.int p0)] [(.int (2048 : Int32)), (.int p0)])) _
        refine XS.icmpNo X0.here hx rfl (hb hby d1_13) rfl (tlt hc13).2.1 ?_
        refine XS.iconst X0.here hx rfl (hb hby d1_16) ?_
        show Steps p.tables e below (s₁.setTop (mkF m 17 #[.val (.int p0)] [(.int (2 : Int32))])) _
        exact retI X0 hx Bd.returns (hb hby d1_17) hr
      · rw [if_neg hc13] at hr
        refine XS.icmpYes X0.here hx rfl (pc0 := 13) (pc' := 18) rfl (hb hby d1_13) rfl (flt hc13).2.1 (by decide) (by decide) ?_
        refine XS.iloadN X0.here hx rfl (hb hby d1_18) rfl ?_
        refine X0.ldcInt hx hown (mvT hZ (hw _ (List.mem_of_getElem? (i := 20) rfl))) (g := (mkF m 19 #[.val (.int p0)] [(.int p0)])) rfl (hb hby d1_19) _ ?_
        by_cases hc21 : p0 < (65536 : Int32)
        · rw [if_pos hc21] at hr
          refine XS.icmpNo X0.here hx rfl (hb hby d1_21) rfl (tlt hc21).2.1 ?_
          refine XS.iconst X0.here hx rfl (hb hby d1_24) ?_
          show Steps p.tables e below (s₁.setTop (mkF m 25 #[.val (.int p0)] [(.int (3 : Int32))])) _
          exact retI X0 hx Bd.returns (hb hby d1_25) hr
        · rw [if_neg hc21] at hr
          refine XS.icmpYes X0.here hx rfl (pc0 := 21) (pc' := 26) rfl (hb hby d1_21) rfl (flt hc21).2.1 (by decide) (by decide) ?_
          show Steps p.tables e below (s₁.setTop (mkF m 26 #[.val (.int p0)] [])) _
          refine XS.iconst X0.here hx rfl (hb hby d1_26) ?_
          show Steps p.tables e below (s₁.setTop (mkF m 27 #[.val (.int p0)] [(.int (4 : Int32))])) _
          exact retI X0 hx Bd.returns (hb hby d1_27) hr
  · show Q_rm1 Z p0 h0 n0 _ s₁.heap _
    rw [e0]
    exact ⟨rfl, N0, rfl⟩
def own_ic (p0 : Int32) : Int32 := (if p0 < (128 : Int32) then (0 : Int32) else (if (191 : Int32) < p0 then (0 : Int32) else (1 : Int32)))
theorem d5_0 : decode prog_39_method_17_code 0 = .ok (.iload_n 0, 1) := by decide +kernel
theorem d5_1 : decode prog_39_method_17_code 1 = .ok (.sipush 128, 3) := by decide +kernel
theorem d5_4 : decode prog_39_method_17_code 4 = .ok (.if_icmp .lt 14, 3) := by decide +kernel
theorem d5_7 : decode prog_39_method_17_code 7 = .ok (.iload_n 0, 1) := by decide +kernel
theorem d5_8 : decode prog_39_method_17_code 8 = .ok (.sipush 191, 3) := by decide +kernel
theorem d5_11 : decode prog_39_method_17_code 11 = .ok (.if_icmp .gt 7, 3) := by decide +kernel
theorem d5_14 : decode prog_39_method_17_code 14 = .ok (.iconst 1, 1) := by decide +kernel
theorem d5_15 : decode prog_39_method_17_code 15 = .ok (.goto 4, 3) := by decide +kernel
theorem d5_18 : decode prog_39_method_17_code 18 = .ok (.iconst 0, 1) := by decide +kernel
theorem d5_19 : decode prog_39_method_17_code 19 = .ok (.ireturn, 1) := by decide +kernel
theorem ef_rm5 (m : MethodId) (x0 : Int32) : entryFrame m #[(.int x0)] 1 = mkF m 0 #[.val (.int x0)] [] := by first | (simp [entryFrame, mkF, argsToLocals, Value.category]; done) | rfl
def Q_rm5 (Z : State) (p0 : Int32) (h0 : Heap) (n0 : Nat) (v : Option Value) (h : Heap) (L : List Loc) : Prop := v = some (.int (own_ic p0)) ∧ Fr n0 L ∧ h = h0
set_option maxRecDepth 65536 in
set_option maxHeartbeats 40000000 in
theorem rm5 (l : Launch) (Z : State) (a0 : Array Value) (hw : ∀ d ∈ tables_1, d.before a0 Z = true) (ws : List Jvm.Cond) (p0 : Int32) (h0 : Heap) (n0 : Nat) (Z0 : n0 ≤ h0.size) :
    MetFree l (⟨"com/example/murray_hill/murrayhill/WellFormed", "isContinuation", "(I)Z"⟩ : MethodName) (head1 (Jvm.Cond.code (⟨"com/example/murray_hill/murrayhill/WellFormed", "isContinuation", "(I)Z"⟩ : MethodName) prog_39_method_17_code 1 (some .boolean) :: ws) ({ frames := 0, cells := 0, slots := 0, locals := 0 } : Room)) (fun a U => a = #[(.int p0)] ∧ Z.Warmed39 U.vm ∧ U.heap = h0) (fun _ _ _ _ _ => True) (fun _ U o U' => ∃ v L, o = .returned v ∧ Q_rm5 Z p0 h0 n0 v U'.heap L ∧ FrameEnd U o U' L ({ frames := 0, cells := 0, slots := 0, locals := 0 } : Room).cells ({ frames := 0, cells := 0, slots := 0, locals := 0 } : Room).slots) := by
  refine MetFree.of_bodySF (plainFor_of_name pn_0) hisR ?_
  intro p e s m args below meth c s₁ Bd hml0 hP hK
  obtain ⟨rfl, hZ, hh⟩ := hP
  have hx := Bd.exec
  have hby := Bd.bytes
  have hml : c.maxLocals = 1 := hml0
  have hown : s.vm.findClass "com/example/murray_hill/murrayhill/WellFormed" = some m.cls := findClass_of_methodNamed Bd.named
  have hnm := (name_of_methodNamed Bd.named Bd.method).1
  have X0 : Stand p l e ({ frames := 0, cells := 0, slots := 0, locals := 0 } : Room) s m #[(.int p0)] below meth c s₁ [] 0 0 := Stand.of_body Bd
  have e0 : s₁.heap = h0 := by rw [← hh, Bd.state]; rfl
  have N0 := Fr.nil n0
  have pre0 : ∀ t, Steps p.tables e below (s₁.setTop (mkF m 0 #[.val (.int p0)] [])) t → Steps p.tables e below (s₁.setTop (entryFrame m #[(.int p0)] 1)) t := fun t k => castTop (ef_rm5 m p0) k
  obtain ⟨fs, hr, hrun, hended, hW, hsame⟩ := X0.leave (v := some (.int (if p0 < (128 : Int32) then (0 : Int32) else (if (191 : Int32) < p0 then (0 : Int32) else (1 : Int32))))) (fun h => by rw [Bd.returns] at h; cases h)
  refine ⟨_, _, pre0 _ ?_, hrun, hended, _, _, rfl, ?_, ⟨_, rfl⟩, hW, hsame.mono (by decide) (by decide)⟩
  · refine XS.iloadN X0.here hx rfl (hb hby d5_0) rfl ?_
    refine XS.sipush X0.here hx rfl (hb hby d5_1) ?_
    by_cases hc4 : p0 < (128 : Int32)
    · rw [if_pos hc4] at hr
      refine XS.icmpYes X0.here hx rfl (pc0 := 4) (pc' := 18) rfl (hb hby d5_4) rfl (tlt hc4).1 (by decide) (by decide) ?_
      refine XS.iconst X0.here hx rfl (hb hby d5_18) ?_
      show Steps p.tables e below (s₁.setTop (mkF m 19 #[.val (.int p0)] [(.int (0 : Int32))])) _
      exact retN X0 hx (t := .boolean) Bd.returns (by simp) (hb hby d5_19) hr
    · rw [if_neg hc4] at hr
      refine XS.icmpNo X0.here hx rfl (hb hby d5_4) rfl (flt hc4).1 ?_
      refine XS.iloadN X0.here hx rfl (hb hby d5_7) rfl ?_
      refine XS.sipush X0.here hx rfl (hb hby d5_8) ?_
      by_cases hc11 : (191 : Int32) < p0
      · rw [if_pos hc11] at hr
        show Steps p.tables e below (s₁.setTop (mkF m 11 #[.val (.int p0)] [(.int (191 : Int32)), (.int p0)])) _
        refine XS.icmpYes X0.here hx rfl (pc0 := 11) (pc' := 18) rfl (hb hby d5_11) rfl (tlt hc11).2.2.1 (by decide) (by decide) ?_
        refine XS.iconst X0.here hx rfl (hb hby d5_18) ?_
        show Steps p.tables e below (s₁.setTop (mkF m 19 #[.val (.int p0)] [(.int (0 : Int32))])) _
        exact retN X0 hx (t := .boolean) Bd.returns (by simp) (hb hby d5_19) hr
      · rw [if_neg hc11] at hr
        refine XS.icmpNo X0.here hx rfl (hb hby d5_11) rfl (flt hc11).2.2.1 ?_
        refine XS.iconst X0.here hx rfl (hb hby d5_14) ?_
        refine XS.goto X0.here hx rfl (pc0 := 15) (pc' := 19) rfl (hb hby d5_15) (by decide) (by decide) ?_
        show Steps p.tables e below (s₁.setTop (mkF m 19 #[.val (.int p0)] [(.int (1 : Int32))])) _
        exact retN X0 hx (t := .boolean) Bd.returns (by simp) (hb hby d5_19) hr
  · show Q_rm5 Z p0 h0 n0 _ s₁.heap _
    rw [e0]
    exact ⟨rfl, N0, rfl⟩
theorem own_sl_case {x : Int32} (h0 : 0 ≤ x.toInt) (h1 : x.toInt < 1114112) : (own_sl x = 1 ∧ x.toInt < 128) ∨ (own_sl x = 2 ∧ 128 ≤ x.toInt ∧ x.toInt < 2048) ∨ (own_sl x = 3 ∧ 2048 ≤ x.toInt ∧ x.toInt < 65536) ∨ (own_sl x = 4 ∧ 65536 ≤ x.toInt) := by
  unfold own_sl
  simp only [Int32.lt_iff_toInt_lt, show (128 : Int32).toInt = 128 from rfl, show (2048 : Int32).toInt = 2048 from rfl, show (65536 : Int32).toInt = 65536 from rfl]
  by_cases u1 : x.toInt < 128
  · exact Or.inl ⟨if_pos u1, u1⟩
  by_cases u2 : x.toInt < 2048
  · exact Or.inr (Or.inl ⟨by rw [if_neg u1, if_pos u2], by omega, u2⟩)
  by_cases u3 : x.toInt < 65536
  · exact Or.inr (Or.inr (Or.inl ⟨by rw [if_neg u1, if_neg u2, if_pos u3], by omega, u3⟩))
  · exact Or.inr (Or.inr (Or.inr ⟨by rw [if_neg u1, if_neg u2, if_neg u3], by omega⟩))
theorem own_ic1 {x : Int32} (h0 : 0 ≤ x.toInt) (h1 : x.toInt < 64) : own_ic ((nar .byte ((128 ||| x).toInt8.toInt32)) &&& (255 : Int32)) = 1 := by
  have e := own_T h0 h1
  unfold own_ic
  simp only [Int32.lt_iff_toInt_lt, show (128 : Int32).toInt = 128 from rfl, show (191 : Int32).toInt = 191 from rfl]
  rw [if_neg (by omega), if_neg (by omega)]
theorem d2_0 : decode prog_39_method_16_code 0 = .ok (.iload_n 0, 1) := by decide +kernel
theorem d2_1 : decode prog_39_method_16_code 1 = .ok (.invokestatic 118, 3) := by decide +kernel
theorem d2_4 : decode prog_39_method_16_code 4 = .ok (.istore_n 3, 1) := by decide +kernel
theorem d2_5 : decode prog_39_method_16_code 5 = .ok (.iload_n 3, 1) := by decide +kernel
theorem d2_6 : decode prog_39_method_16_code 6 = .ok (.iconst 1, 1) := by decide +kernel
theorem d2_7 : decode prog_39_method_16_code 7 = .ok (.if_icmp .ne 10, 3) := by decide +kernel
theorem d2_10 : decode prog_39_method_16_code 10 = .ok (.aload_n 1, 1) := by decide +kernel
theorem d2_11 : decode prog_39_method_16_code 11 = .ok (.iload_n 2, 1) := by decide +kernel
theorem d2_12 : decode prog_39_method_16_code 12 = .ok (.iload_n 0, 1) := by decide +kernel
theorem d2_13 : decode prog_39_method_16_code 13 = .ok (.i2b, 1) := by decide +kernel
theorem d2_14 : decode prog_39_method_16_code 14 = .ok (.bastore, 1) := by decide +kernel
theorem d2_15 : decode prog_39_method_16_code 15 = .ok (.iconst 1, 1) := by decide +kernel
theorem d2_16 : decode prog_39_method_16_code 16 = .ok (.ireturn, 1) := by decide +kernel
theorem d2_17 : decode prog_39_method_16_code 17 = .ok (.iload_n 0, 1) := by decide +kernel
theorem d2_18 : decode prog_39_method_16_code 18 = .ok (.istore 4, 2) := by decide +kernel
theorem d2_20 : decode prog_39_method_16_code 20 = .ok (.iload_n 3, 1) := by decide +kernel
theorem d2_21 : decode prog_39_method_16_code 21 = .ok (.iconst 1, 1) := by decide +kernel
theorem d2_22 : decode prog_39_method_16_code 22 = .ok (.isub, 1) := by decide +kernel
theorem d2_23 : decode prog_39_method_16_code 23 = .ok (.istore 5, 2) := by decide +kernel
theorem d2_25 : decode prog_39_method_16_code 25 = .ok (.iload 5, 2) := by decide +kernel
theorem d2_27 : decode prog_39_method_16_code 27 = .ok (.ifCond .le 32, 3) := by decide +kernel
theorem d2_30 : decode prog_39_method_16_code 30 = .ok (.aload_n 1, 1) := by decide +kernel
theorem d2_31 : decode prog_39_method_16_code 31 = .ok (.iload_n 2, 1) := by decide +kernel
theorem d2_32 : decode prog_39_method_16_code 32 = .ok (.iload 5, 2) := by decide +kernel
theorem d2_34 : decode prog_39_method_16_code 34 = .ok (.iadd, 1) := by decide +kernel
theorem d2_35 : decode prog_39_method_16_code 35 = .ok (.sipush 128, 3) := by decide +kernel
theorem d2_38 : decode prog_39_method_16_code 38 = .ok (.iload 4, 2) := by decide +kernel
theorem d2_40 : decode prog_39_method_16_code 40 = .ok (.bipush 63, 2) := by decide +kernel
theorem d2_42 : decode prog_39_method_16_code 42 = .ok (.iand, 1) := by decide +kernel
theorem d2_43 : decode prog_39_method_16_code 43 = .ok (.ior, 1) := by decide +kernel
theorem d2_44 : decode prog_39_method_16_code 44 = .ok (.i2b, 1) := by decide +kernel
theorem d2_45 : decode prog_39_method_16_code 45 = .ok (.bastore, 1) := by decide +kernel
theorem d2_46 : decode prog_39_method_16_code 46 = .ok (.iload 4, 2) := by decide +kernel
theorem d2_48 : decode prog_39_method_16_code 48 = .ok (.bipush 6, 2) := by decide +kernel
theorem d2_50 : decode prog_39_method_16_code 50 = .ok (.iushr, 1) := by decide +kernel
theorem d2_51 : decode prog_39_method_16_code 51 = .ok (.istore 4, 2) := by decide +kernel
theorem d2_53 : decode prog_39_method_16_code 53 = .ok (.iinc 5 (-1), 3) := by decide +kernel
theorem d2_56 : decode prog_39_method_16_code 56 = .ok (.goto (-31), 3) := by decide +kernel
theorem d2_59 : decode prog_39_method_16_code 59 = .ok (.aload_n 1, 1) := by decide +kernel
theorem d2_60 : decode prog_39_method_16_code 60 = .ok (.iload_n 2, 1) := by decide +kernel
theorem d2_61 : decode prog_39_method_16_code 61 = .ok (.ldc 121, 2) := by decide +kernel
theorem d2_63 : decode prog_39_method_16_code 63 = .ok (.iload_n 3, 1) := by decide +kernel
theorem d2_64 : decode prog_39_method_16_code 64 = .ok (.ishr, 1) := by decide +kernel
theorem d2_65 : decode prog_39_method_16_code 65 = .ok (.iload 4, 2) := by decide +kernel
theorem d2_67 : decode prog_39_method_16_code 67 = .ok (.ior, 1) := by decide +kernel
theorem d2_68 : decode prog_39_method_16_code 68 = .ok (.i2b, 1) := by decide +kernel
theorem d2_69 : decode prog_39_method_16_code 69 = .ok (.bastore, 1) := by decide +kernel
theorem d2_70 : decode prog_39_method_16_code 70 = .ok (.iload_n 3, 1) := by decide +kernel
theorem d2_71 : decode prog_39_method_16_code 71 = .ok (.ireturn, 1) := by decide +kernel
theorem ef_rmW1 (m : MethodId) (x0 : Int32) (x1 : Addr) (x2 : Int32) : entryFrame m #[(.int x0), (.ref x1), (.int x2)] 6 = mkF m 0 #[.val (.int x0), .val (.ref x1), .val (.int x2), .unset, .unset, .unset] [] := by first | (simp [entryFrame, mkF, argsToLocals, Value.category]; done) | rfl
def Q_rmW1 (Z : State) (p0 : Int32) (r1 : Addr) (kk : ClassId) (h0 : Heap) (n0 : Nat) (v : Option Value) (h : Heap) (L : List Loc) : Prop := v = some (.int (1 : Int32)) ∧ Fr n0 L ∧ Keep h0 h [r1] ∧ Arv Z h r1 kk .byte (4 : Int32) [(.int (nar .byte (p0.toInt8.toInt32))), (.int (0 : Int32)), (.int (0 : Int32)), (.int (0 : Int32))] (.int (0 : Int32))
set_option maxRecDepth 65536 in
set_option maxHeartbeats 40000000 in
theorem rmW1 (l : Launch) (Z : State) (a0 : Array Value) (hw : ∀ d ∈ tables_1, d.before a0 Z = true) (ws : List Jvm.Cond) (p0 : Int32) (r1 : Addr) (kk : ClassId) (h0 : Heap) (n0 : Nat) (Z0 : n0 ≤ h0.size) (Vb : Arv Z h0 r1 kk .byte (4 : Int32) [(.int (0 : Int32)), (.int (0 : Int32)), (.int (0 : Int32)), (.int (0 : Int32))] (.int (0 : Int32))) (g_r1 : n0 ≤ r1) (hk : own_sl p0 = 1) :
    MetFree l (⟨"com/example/murray_hill/murrayhill/WellFormed", "writeSequence", "(I[BI)I"⟩ : MethodName) (head1 (Jvm.Cond.code (⟨"com/example/murray_hill/murrayhill/WellFormed", "writeSequence", "(I[BI)I"⟩ : MethodName) prog_39_method_16_code 6 (some .int) :: ws) ({ frames := 1, cells := 0, slots := 0, locals := 12 } : Room)) (fun a U => a = #[(.int p0), (.ref r1), (.int (0 : Int32))] ∧ Z.Warmed39 U.vm ∧ U.heap = h0) (fun _ _ _ _ _ => True) (fun _ U o U' => ∃ v L, o = .returned v ∧ Q_rmW1 Z p0 r1 kk h0 n0 v U'.heap L ∧ FrameEnd U o U' L ({ frames := 1, cells := 0, slots := 0, locals := 12 } : Room).cells ({ frames := 1, cells := 0, slots := 0, locals := 12 } : Room).slots) := by
  refine MetFree.of_bodySF (plainFor_of_name pn_0) hisR ?_
  intro p e s m args below meth c s₁ Bd hml0 hP hK
  obtain ⟨rfl, hZ, hh⟩ := hP
  have hx := Bd.exec
  have hby := Bd.bytes
  have hml : c.maxLocals = 6 := hml0
  have hown : s.vm.findClass "com/example/murray_hill/murrayhill/WellFormed" = some m.cls := findClass_of_methodNamed Bd.named
  have hnm := (name_of_methodNamed Bd.named Bd.method).1
  have X0 : Stand p l e ({ frames := 1, cells := 0, slots := 0, locals := 12 } : Room) s m #[(.int p0), (.ref r1), (.int (0 : Int32))] below meth c s₁ [] 0 0 := Stand.of_body Bd
  have e0 : s₁.heap = h0 := by rw [← hh, Bd.state]; rfl
  have N0 := Fr.nil n0
  have pre0 : ∀ t, Steps p.tables e below (s₁.setTop (mkF m 0 #[.val (.int p0), .val (.ref r1), .val (.int (0 : Int32)), .unset, .unset, .unset] [])) t → Steps p.tables e below (s₁.setTop (entryFrame m #[(.int p0), (.ref r1), (.int (0 : Int32))] 6)) t := fun t k => castTop (ef_rmW1 m p0 r1 (0 : Int32)) k
  have Kp : Keep h0 h0 [r1] := Keep.refl _ _
  have st1 : ∀ target, Steps p.tables e below (s₁.setTop (mkF m 1 #[.val (.int p0), .val (.ref r1), .val (.int (0 : Int32)), .unset, .unset, .unset] [(.int p0)])) target → Steps p.tables e below (s₁.setTop (mkF m 0 #[.val (.int p0), .val (.ref r1), .val (.int (0 : Int32)), .unset, .unset, .unset] [])) target := by
    intro target kt
    refine XS.iloadN X0.here hx rfl (hb hby d2_0) rfl ?_
    exact kt
  obtain ⟨_, _, ⟨T2, L2, k2, n2⟩, -, X2, ⟨Lc2, hQ2, l2, y2, z2⟩, st2⟩ := Jvm.LawKit.callS X0 hx (y := (⟨"com/example/murray_hill/murrayhill/WellFormed", "sequenceLength", "(I)I"⟩ : MethodName)) hown (mvT hZ (hw _ (List.mem_of_getElem? (i := 11) rfl))) (mvT hZ (hw _ (List.mem_of_getElem? (i := 4) rfl))) (mvT hZ (hw _ (List.mem_of_getElem? (i := 5) rfl))) (mvT hZ (hw _ (List.mem_of_getElem? (i := 6) rfl))) (by decide) (backOf (W := 0) (rm1 l Z a0 hw [] p0  h0 n0 Z0 ) hZ (hw _ (List.mem_of_getElem? (i := 6) rfl)) (hw _ (List.mem_of_getElem? (i := 5) rfl)) (by decide) (by decide)) (g := (mkF m 1 #[.val (.int p0), .val (.ref r1), .val (.int (0 : Int32)), .unset, .unset, .unset] [(.int p0)])) rfl (by rw [hml]; rfl) (argsL := [(.int p0)]) (rest := []) (lenOf pd_0 rfl) rfl (by show 2 * 0 + _ ≤ _; exact Nat.le_of_eq rfl) (hb hby d2_1) (fun _ _ => ⟨rfl, e0, (by decide : 0 + 0 ≤ _), (by decide : 0 + 0 ≤ _)⟩)
  dsimp only [Pt.U, Pt.locs, Pt.cells, Pt.slots] at X2 l2 y2 z2 st2 hQ2
  subst l2 y2 z2
  obtain ⟨rfl, Nq2, e2⟩ := hQ2
  have N2 := Fr.app N0 Nq2
  rw [hk] at st2
  have st3 : ∀ target, Steps p.tables e below (T2.setTop (mkF m 14 #[.val (.int p0), .val (.ref r1), .val (.int (0 : Int32)), .val (.int (1 : Int32)), .unset, .unset] [(.int (p0.toInt8.toInt32)), (.int (0 : Int32)), (.ref r1)])) target → Steps p.tables e below (T2.setTop (mkF m 4 #[.val (.int p0), .val (.ref r1), .val (.int (0 : Int32)), .unset, .unset, .unset] [(.int (1 : Int32))])) target := by
    intro target kt
    refine XS.istoreN X2.here hx rfl (hb hby d2_4) rfl (l' := #[.val (.int p0), .val (.ref r1), .val (.int (0 : Int32)), .val (.int (1 : Int32)), .unset, .unset]) rfl ?_
    refine XS.iloadN X2.here hx rfl (hb hby d2_5) rfl ?_
    refine XS.iconst X2.here hx rfl (hb hby d2_6) ?_
    refine XS.icmpNo X2.here hx rfl (hb hby d2_7) rfl (teq (rfl : (1 : Int32) = (1 : Int32))).2 ?_
    refine XS.aloadN X2.here hx rfl (hb hby d2_10) rfl rfl ?_
    refine XS.iloadN X2.here hx rfl (hb hby d2_11) rfl ?_
    show Steps p.tables e below (T2.setTop (mkF m 12 #[.val (.int p0), .val (.ref r1), .val (.int (0 : Int32)), .val (.int (1 : Int32)), .unset, .unset] [(.int (0 : Int32)), (.ref r1)])) _
    refine XS.iloadN X2.here hx rfl (hb hby d2_12) rfl ?_
    refine XS.i2b X2.here hx rfl (hb hby d2_13) rfl ?_
    exact kt
  obtain ⟨cl4, Ar4, qc4, Sz4, Mn4, Hs4, Gs4⟩ := id Vb
  have hin4 : ¬ ((0 : Int32) < 0 ∨ cl4.slots.size ≤ ((0 : Int32)).toNatClampNeg) := inb_of Sz4 ⟨by decide, by decide⟩
  obtain ⟨T4, h4, X4, e4, W4, st4⟩ := stB X2 hx hZ e2 Ar4 (j := (0 : Int32)) hin4 (g := (mkF m 14 #[.val (.int p0), .val (.ref r1), .val (.int (0 : Int32)), .val (.int (1 : Int32)), .unset, .unset] [(.int (p0.toInt8.toInt32)), (.int (0 : Int32)), (.ref r1)])) rfl rfl (hb hby d2_14)
  have V_r1_4 : Arv Z h4 r1 kk .byte (4 : Int32) [(.int (nar .byte (p0.toInt8.toInt32))), (.int (0 : Int32)), (.int (0 : Int32)), (.int (0 : Int32))] (.int (0 : Int32)) := Arv.set Ar4 qc4 Sz4 Mn4 Hs4 Gs4 (fits_nar_byte _) W4 0 rfl (Nat.le_of_ble_eq_true rfl)
  have Z_4 : n0 ≤ h4.size := Nat.le_trans Z0 (Keep.of_wr W4).1
  have Kp_4 : Keep h0 h4 [r1] := Kp.wr W4 (Or.inl (List.mem_of_getElem? (i := 0) rfl))
  have N4 := Fr.snoc X4 N2 g_r1
  obtain ⟨fs, hr, hrun, hended, hW, hsame⟩ := X4.leave (v := some (.int (1 : Int32))) (fun h => by rw [Bd.returns] at h; cases h)
  refine ⟨_, _, pre0 _ (st1 _ (st2 _ (st3 _ (st4 _ ?_)))), hrun, hended, _, _, rfl, ?_, ⟨_, rfl⟩, hW, hsame.mono (by decide) (by decide)⟩
  · refine XS.iconst X4.here hx rfl (hb hby d2_15) ?_
    show Steps p.tables e below (T4.setTop (mkF m 16 #[.val (.int p0), .val (.ref r1), .val (.int (0 : Int32)), .val (.int (1 : Int32)), .unset, .unset] [(.int (1 : Int32))])) _
    exact retI X4 hx Bd.returns (hb hby d2_16) hr
  · show Q_rmW1 Z p0 r1 kk h0 n0 _ T4.heap _
    rw [e4]
    exact ⟨rfl, N4, Kp_4, V_r1_4⟩
theorem ef_rmW2 (m : MethodId) (x0 : Int32) (x1 : Addr) (x2 : Int32) : entryFrame m #[(.int x0), (.ref x1), (.int x2)] 6 = mkF m 0 #[.val (.int x0), .val (.ref x1), .val (.int x2), .unset, .unset, .unset] [] := by first | (simp [entryFrame, mkF, argsToLocals, Value.category]; done) | rfl
def Q_rmW2 (Z : State) (p0 : Int32) (r1 : Addr) (kk : ClassId) (h0 : Heap) (n0 : Nat) (v : Option Value) (h : Heap) (L : List Loc) : Prop := v = some (.int (2 : Int32)) ∧ Fr n0 L ∧ Keep h0 h [r1] ∧ Arv Z h r1 kk .byte (4 : Int32) [(.int (nar .byte ((((65280 : Int32) >>> ((2 : Int32) &&& 31)) ||| ((p0.toUInt32 >>> ((6 : Int32) &&& 31).toUInt32).toInt32)).toInt8.toInt32))), (.int (nar .byte (((128 : Int32) ||| (p0 &&& (63 : Int32))).toInt8.toInt32))), (.int (0 : Int32)), (.int (0 : Int32))] (.int (0 : Int32))
set_option maxRecDepth 65536 in
set_option maxHeartbeats 40000000 in
theorem rmW2 (l : Launch) (Z : State) (a0 : Array Value) (hw : ∀ d ∈ tables_1, d.before a0 Z = true) (ws : List Jvm.Cond) (p0 : Int32) (r1 : Addr) (kk : ClassId) (h0 : Heap) (n0 : Nat) (Z0 : n0 ≤ h0.size) (Vb : Arv Z h0 r1 kk .byte (4 : Int32) [(.int (0 : Int32)), (.int (0 : Int32)), (.int (0 : Int32)), (.int (0 : Int32))] (.int (0 : Int32))) (g_r1 : n0 ≤ r1) (hk : own_sl p0 = 2) :
    MetFree l (⟨"com/example/murray_hill/murrayhill/WellFormed", "writeSequence", "(I[BI)I"⟩ : MethodName) (head1 (Jvm.Cond.code (⟨"com/example/murray_hill/murrayhill/WellFormed", "writeSequence", "(I[BI)I"⟩ : MethodName) prog_39_method_16_code 6 (some .int) :: ws) ({ frames := 1, cells := 0, slots := 0, locals := 12 } : Room)) (fun a U => a = #[(.int p0), (.ref r1), (.int (0 : Int32))] ∧ Z.Warmed39 U.vm ∧ U.heap = h0) (fun _ _ _ _ _ => True) (fun _ U o U' => ∃ v L, o = .returned v ∧ Q_rmW2 Z p0 r1 kk h0 n0 v U'.heap L ∧ FrameEnd U o U' L ({ frames := 1, cells := 0, slots := 0, locals := 12 } : Room).cells ({ frames := 1, cells := 0, slots := 0, locals := 12 } : Room).slots) := by
  refine MetFree.of_bodySF (plainFor_of_name pn_0) hisR ?_
  intro p e s m args below meth c s₁ Bd hml0 hP hK
  obtain ⟨rfl, hZ, hh⟩ := hP
  have hx := Bd.exec
  have hby := Bd.bytes
  have hml : c.maxLocals = 6 := hml0
  have hown : s.vm.findClass "com/example/murray_hill/murrayhill/WellFormed" = some m.cls := findClass_of_methodNamed Bd.named
  have hnm := (name_of_methodNamed Bd.named Bd.method).1
  have X0 : Stand p l e ({ frames := 1, cells := 0, slots := 0, locals := 12 } : Room) s m #[(.int p0), (.ref r1), (.int (0 : Int32))] below meth c s₁ [] 0 0 := Stand.of_body Bd
  have e0 : s₁.heap = h0 := by rw [← hh, Bd.state]; rfl
  have N0 := Fr.nil n0
  have pre0 : ∀ t, Steps p.tables e below (s₁.setTop (mkF m 0 #[.val (.int p0), .val (.ref r1), .val (.int (0 : Int32)), .unset, .unset, .unset] [])) t → Steps p.tables e below (s₁.setTop (entryFrame m #[(.int p0), (.ref r1), (.int (0 : Int32))] 6)) t := fun t k => castTop (ef_rmW2 m p0 r1 (0 : Int32)) k
  have Kp : Keep h0 h0 [r1] := Keep.refl _ _
  have st1 : ∀ target, Steps p.tables e below (s₁.setTop (mkF m 1 #[.val (.int p0), .val (.ref r1), .val (.int (0 : Int32)), .unset, .unset, .unset] [(.int p0)])) target → Steps p.tables e below (s₁.setTop (mkF m 0 #[.val (.int p0), .val (.ref r1), .val (.int (0 : Int32)), .unset, .unset, .unset] [])) target := by
    intro target kt
    refine XS.iloadN X0.here hx rfl (hb hby d2_0) rfl ?_
    exact kt
  obtain ⟨_, _, ⟨T2, L2, k2, n2⟩, -, X2, ⟨Lc2, hQ2, l2, y2, z2⟩, st2⟩ := Jvm.LawKit.callS X0 hx (y := (⟨"com/example/murray_hill/murrayhill/WellFormed", "sequenceLength", "(I)I"⟩ : MethodName)) hown (mvT hZ (hw _ (List.mem_of_getElem? (i := 11) rfl))) (mvT hZ (hw _ (List.mem_of_getElem? (i := 4) rfl))) (mvT hZ (hw _ (List.mem_of_getElem? (i := 5) rfl))) (mvT hZ (hw _ (List.mem_of_getElem? (i := 6) rfl))) (by decide) (backOf (W := 0) (rm1 l Z a0 hw [] p0  h0 n0 Z0 ) hZ (hw _ (List.mem_of_getElem? (i := 6) rfl)) (hw _ (List.mem_of_getElem? (i := 5) rfl)) (by decide) (by decide)) (g := (mkF m 1 #[.val (.int p0), .val (.ref r1), .val (.int (0 : Int32)), .unset, .unset, .unset] [(.int p0)])) rfl (by rw [hml]; rfl) (argsL := [(.int p0)]) (rest := []) (lenOf pd_0 rfl) rfl (by show 2 * 0 + _ ≤ _; exact Nat.le_of_eq rfl) (hb hby d2_1) (fun _ _ => ⟨rfl, e0, (by decide : 0 + 0 ≤ _), (by decide : 0 + 0 ≤ _)⟩)
  dsimp only [Pt.U, Pt.locs, Pt.cells, Pt.slots] at X2 l2 y2 z2 st2 hQ2
  subst l2 y2 z2
  obtain ⟨rfl, Nq2, e2⟩ := hQ2
  have N2 := Fr.app N0 Nq2
  rw [hk] at st2
  have st3 : ∀ target, Steps p.tables e below (T2.setTop (mkF m 45 #[.val (.int p0), .val (.ref r1), .val (.int (0 : Int32)), .val (.int (2 : Int32)), .val (.int p0), .val (.int (1 : Int32))] [(.int (((128 : Int32) ||| (p0 &&& (63 : Int32))).toInt8.toInt32)), (.int (1 : Int32)), (.ref r1)])) target → Steps p.tables e below (T2.setTop (mkF m 4 #[.val (.int p0), .val (.ref r1), .val (.int (0 : Int32)), .unset, .unset, .unset] [(.int (2 : Int32))])) target := by
    intro target kt
    refine XS.istoreN X2.here hx rfl (hb hby d2_4) rfl (l' := #[.val (.int p0), .val (.ref r1), .val (.int (0 : Int32)), .val (.int (2 : Int32)), .unset, .unset]) rfl ?_
    refine XS.iloadN X2.here hx rfl (hb hby d2_5) rfl ?_
    refine XS.iconst X2.here hx rfl (hb hby d2_6) ?_
    refine XS.icmpYes X2.here hx rfl (pc0 := 7) (pc' := 17) rfl (hb hby d2_7) rfl (feq (by decide : ¬ ((2 : Int32) = (1 : Int32)))).2 (by decide) (by decide) ?_
    refine XS.iloadN X2.here hx rfl (hb hby d2_17) rfl ?_
    refine XS.istore X2.here hx rfl (hb hby d2_18) rfl (l' := #[.val (.int p0), .val (.ref r1), .val (.int (0 : Int32)), .val (.int (2 : Int32)), .val (.int p0), .unset]) rfl ?_
    show Steps p.tables e below (T2.setTop (mkF m 20 #[.val (.int p0), .val (.ref r1), .val (.int (0 : Int32)), .val (.int (2 : Int32)), .val (.int p0), .unset] [])) _
    refine XS.iloadN X2.here hx rfl (hb hby d2_20) rfl ?_
    refine XS.iconst X2.here hx rfl (hb hby d2_21) ?_
    refine XS.isub X2.here hx rfl (hb hby d2_22) rfl ?_
    refine XS.istore X2.here hx rfl (hb hby d2_23) rfl (l' := #[.val (.int p0), .val (.ref r1), .val (.int (0 : Int32)), .val (.int (2 : Int32)), .val (.int p0), .val (.int (1 : Int32))]) rfl ?_
    refine XS.iload X2.here hx rfl (hb hby d2_25) rfl ?_
    refine XS.ifNo X2.here hx rfl (hb hby d2_27) rfl ((if0 _ _).trans (tlt (by decide : ((0 : Int32) < (1 : Int32)))).2.2.2) ?_
    refine XS.aloadN X2.here hx rfl (hb hby d2_30) rfl rfl ?_
    refine XS.iloadN X2.here hx rfl (hb hby d2_31) rfl ?_
    show Steps p.tables e below (T2.setTop (mkF m 32 #[.val (.int p0), .val (.ref r1), .val (.int (0 : Int32)), .val (.int (2 : Int32)), .val (.int p0), .val (.int (1 : Int32))] [(.int (0 : Int32)), (.ref r1)])) _
    refine XS.iload X2.here hx rfl (hb hby d2_32) rfl ?_
    refine XS.iadd X2.here hx rfl (hb hby d2_34) rfl ?_
    refine XS.sipush X2.here hx rfl (hb hby d2_35) ?_
    refine XS.iload X2.here hx rfl (hb hby d2_38) rfl ?_
    refine XS.bipush X2.here hx rfl (hb hby d2_40) ?_
    refine XS.iand X2.here hx rfl (hb hby d2_42) rfl ?_
    refine XS.ior X2.here hx rfl (hb hby d2_43) rfl ?_
    refine XS.i2b X2.here hx rfl (hb hby d2_44) rfl ?_
    exact kt
  obtain ⟨cl4, Ar4, qc4, Sz4, Mn4, Hs4, Gs4⟩ := id Vb
  have hin4 : ¬ ((1 : Int32) < 0 ∨ cl4.slots.size ≤ ((1 : Int32)).toNatClampNeg) := inb_of Sz4 ⟨by decide, by decide⟩
  obtain ⟨T4, h4, X4, e4, W4, st4⟩ := stB X2 hx hZ e2 Ar4 (j := (1 : Int32)) hin4 (g := (mkF m 45 #[.val (.int p0), .val (.ref r1), .val (.int (0 : Int32)), .val (.int (2 : Int32)), .val (.int p0), .val (.int (1 : Int32))] [(.int (((128 : Int32) ||| (p0 &&& (63 : Int32))).toInt8.toInt32)), (.int (1 : Int32)), (.ref r1)])) rfl rfl (hb hby d2_45)
  have V_r1_4 : Arv Z h4 r1 kk .byte (4 : Int32) [(.int (0 : Int32)), (.int (nar .byte (((128 : Int32) ||| (p0 &&& (63 : Int32))).toInt8.toInt32))), (.int (0 : Int32)), (.int (0 : Int32))] (.int (0 : Int32)) := Arv.set Ar4 qc4 Sz4 Mn4 Hs4 Gs4 (fits_nar_byte _) W4 1 rfl (Nat.le_of_ble_eq_true rfl)
  have Z_4 : n0 ≤ h4.size := Nat.le_trans Z0 (Keep.of_wr W4).1
  have Kp_4 : Keep h0 h4 [r1] := Kp.wr W4 (Or.inl (List.mem_of_getElem? (i := 0) rfl))
  have N4 := Fr.snoc X4 N2 g_r1
  have st5 : ∀ target, Steps p.tables e below (T4.setTop (mkF m 69 #[.val (.int p0), .val (.ref r1), .val (.int (0 : Int32)), .val (.int (2 : Int32)), .val (.int ((p0.toUInt32 >>> ((6 : Int32) &&& 31).toUInt32).toInt32)), .val (.int (0 : Int32))] [(.int ((((65280 : Int32) >>> ((2 : Int32) &&& 31)) ||| ((p0.toUInt32 >>> ((6 : Int32) &&& 31).toUInt32).toInt32)).toInt8.toInt32)), (.int (0 : Int32)), (.ref r1)])) target → Steps p.tables e below (T4.setTop (mkF m 46 #[.val (.int p0), .val (.ref r1), .val (.int (0 : Int32)), .val (.int (2 : Int32)), .val (.int p0), .val (.int (1 : Int32))] [])) target := by
    intro target kt
    show Steps p.tables e below (T4.setTop (mkF m 46 #[.val (.int p0), .val (.ref r1), .val (.int (0 : Int32)), .val (.int (2 : Int32)), .val (.int p0), .val (.int (1 : Int32))] [])) _
    refine XS.iload X4.here hx rfl (hb hby d2_46) rfl ?_
    refine XS.bipush X4.here hx rfl (hb hby d2_48) ?_
    refine XS.iushr X4.here hx rfl (hb hby d2_50) rfl ?_
    refine XS.istore X4.here hx rfl (hb hby d2_51) rfl (l' := #[.val (.int p0), .val (.ref r1), .val (.int (0 : Int32)), .val (.int (2 : Int32)), .val (.int ((p0.toUInt32 >>> ((6 : Int32) &&& 31).toUInt32).toInt32)), .val (.int (1 : Int32))]) rfl ?_
    refine XS.iinc X4.here hx rfl (hb hby d2_53) rfl (l' := #[.val (.int p0), .val (.ref r1), .val (.int (0 : Int32)), .val (.int (2 : Int32)), .val (.int ((p0.toUInt32 >>> ((6 : Int32) &&& 31).toUInt32).toInt32)), .val (.int (0 : Int32))]) rfl ?_
    refine XS.goto X4.here hx rfl (pc0 := 56) (pc' := 25) rfl (hb hby d2_56) (by decide) (by decide) ?_
    refine XS.iload X4.here hx rfl (hb hby d2_25) rfl ?_
    refine XS.ifYes X4.here hx rfl (pc0 := 27) (pc' := 59) rfl (hb hby d2_27) rfl ((if0 _ _).trans (flt (by decide : ¬ ((0 : Int32) < (0 : Int32)))).2.2.2) (by decide) (by decide) ?_
    show Steps p.tables e below (T4.setTop (mkF m 59 #[.val (.int p0), .val (.ref r1), .val (.int (0 : Int32)), .val (.int (2 : Int32)), .val (.int ((p0.toUInt32 >>> ((6 : Int32) &&& 31).toUInt32).toInt32)), .val (.int (0 : Int32))] [])) _
    refine XS.aloadN X4.here hx rfl (hb hby d2_59) rfl rfl ?_
    refine XS.iloadN X4.here hx rfl (hb hby d2_60) rfl ?_
    refine X4.ldcInt hx hown (mvT hZ (hw _ (List.mem_of_getElem? (i := 21) rfl))) (g := (mkF m 61 #[.val (.int p0), .val (.ref r1), .val (.int (0 : Int32)), .val (.int (2 : Int32)), .val (.int ((p0.toUInt32 >>> ((6 : Int32) &&& 31).toUInt32).toInt32)), .val (.int (0 : Int32))] [(.int (0 : Int32)), (.ref r1)])) rfl (hb hby d2_61) _ ?_
    refine XS.iloadN X4.here hx rfl (hb hby d2_63) rfl ?_
    refine XS.ishr X4.here hx rfl (hb hby d2_64) rfl ?_
    refine XS.iload X4.here hx rfl (hb hby d2_65) rfl ?_
    refine XS.ior X4.here hx rfl (hb hby d2_67) rfl ?_
    refine XS.i2b X4.here hx rfl (hb hby d2_68) rfl ?_
    exact kt
  obtain ⟨cl6, Ar6, qc6, Sz6, Mn6, Hs6, Gs6⟩ := id V_r1_4
  have hin6 : ¬ ((0 : Int32) < 0 ∨ cl6.slots.size ≤ ((0 : Int32)).toNatClampNeg) := inb_of Sz6 ⟨by decide, by decide⟩
  obtain ⟨T6, h6, X6, e6, W6, st6⟩ := stB X4 hx hZ e4 Ar6 (j := (0 : Int32)) hin6 (g := (mkF m 69 #[.val (.int p0), .val (.ref r1), .val (.int (0 : Int32)), .val (.int (2 : Int32)), .val (.int ((p0.toUInt32 >>> ((6 : Int32) &&& 31).toUInt32).toInt32)), .val (.int (0 : Int32))] [(.int ((((65280 : Int32) >>> ((2 : Int32) &&& 31)) ||| ((p0.toUInt32 >>> ((6 : Int32) &&& 31).toUInt32).toInt32)).toInt8.toInt32)), (.int (0 : Int32)), (.ref r1)])) rfl rfl (hb hby d2_69)
  have V_r1_6 : Arv Z h6 r1 kk .byte (4 : Int32) [(.int (nar .byte ((((65280 : Int32) >>> ((2 : Int32) &&& 31)) ||| ((p0.toUInt32 >>> ((6 : Int32) &&& 31).toUInt32).toInt32)).toInt8.toInt32))), (.int (nar .byte (((128 : Int32) ||| (p0 &&& (63 : Int32))).toInt8.toInt32))), (.int (0 : Int32)), (.int (0 : Int32))] (.int (0 : Int32)) := Arv.set Ar6 qc6 Sz6 Mn6 Hs6 Gs6 (fits_nar_byte _) W6 0 rfl (Nat.le_of_ble_eq_true rfl)
  have Z_6 : n0 ≤ h6.size := Nat.le_trans Z_4 (Keep.of_wr W6).1
  have Kp_6 : Keep h0 h6 [r1] := Kp_4.wr W6 (Or.inl (List.mem_of_getElem? (i := 0) rfl))
  have N6 := Fr.snoc X6 N4 g_r1
  obtain ⟨fs, hr, hrun, hended, hW, hsame⟩ := X6.leave (v := some (.int (2 : Int32))) (fun h => by rw [Bd.returns] at h; cases h)
  refine ⟨_, _, pre0 _ (st1 _ (st2 _ (st3 _ (st4 _ (st5 _ (st6 _ ?_)))))), hrun, hended, _, _, rfl, ?_, ⟨_, rfl⟩, hW, hsame.mono (by decide) (by decide)⟩
  · show Steps p.tables e below (T6.setTop (mkF m 70 #[.val (.int p0), .val (.ref r1), .val (.int (0 : Int32)), .val (.int (2 : Int32)), .val (.int ((p0.toUInt32 >>> ((6 : Int32) &&& 31).toUInt32).toInt32)), .val (.int (0 : Int32))] [])) _
    refine XS.iloadN X6.here hx rfl (hb hby d2_70) rfl ?_
    show Steps p.tables e below (T6.setTop (mkF m 71 #[.val (.int p0), .val (.ref r1), .val (.int (0 : Int32)), .val (.int (2 : Int32)), .val (.int ((p0.toUInt32 >>> ((6 : Int32) &&& 31).toUInt32).toInt32)), .val (.int (0 : Int32))] [(.int (2 : Int32))])) _
    exact retI X6 hx Bd.returns (hb hby d2_71) hr
  · show Q_rmW2 Z p0 r1 kk h0 n0 _ T6.heap _
    rw [e6]
    exact ⟨rfl, N6, Kp_6, V_r1_6⟩
theorem ef_rmW3 (m : MethodId) (x0 : Int32) (x1 : Addr) (x2 : Int32) : entryFrame m #[(.int x0), (.ref x1), (.int x2)] 6 = mkF m 0 #[.val (.int x0), .val (.ref x1), .val (.int x2), .unset, .unset, .unset] [] := by first | (simp [entryFrame, mkF, argsToLocals, Value.category]; done) | rfl
def Q_rmW3 (Z : State) (p0 : Int32) (r1 : Addr) (kk : ClassId) (h0 : Heap) (n0 : Nat) (v : Option Value) (h : Heap) (L : List Loc) : Prop := v = some (.int (3 : Int32)) ∧ Fr n0 L ∧ Keep h0 h [r1] ∧ Arv Z h r1 kk .byte (4 : Int32) [(.int (nar .byte ((((65280 : Int32) >>> ((3 : Int32) &&& 31)) ||| ((((p0.toUInt32 >>> ((6 : Int32) &&& 31).toUInt32).toInt32).toUInt32 >>> ((6 : Int32) &&& 31).toUInt32).toInt32)).toInt8.toInt32))), (.int (nar .byte (((128 : Int32) ||| (((p0.toUInt32 >>> ((6 : Int32) &&& 31).toUInt32).toInt32) &&& (63 : Int32))).toInt8.toInt32))), (.int (nar .byte (((128 : Int32) ||| (p0 &&& (63 : Int32))).toInt8.toInt32))), (.int (0 : Int32))] (.int (0 : Int32))
set_option maxRecDepth 65536 in
set_option maxHeartbeats 40000000 in
theorem rmW3 (l : Launch) (Z : State) (a0 : Array Value) (hw : ∀ d ∈ tables_1, d.before a0 Z = true) (ws : List Jvm.Cond) (p0 : Int32) (r1 : Addr) (kk : ClassId) (h0 : Heap) (n0 : Nat) (Z0 : n0 ≤ h0.size) (Vb : Arv Z h0 r1 kk .byte (4 : Int32) [(.int (0 : Int32)), (.int (0 : Int32)), (.int (0 : Int32)), (.int (0 : Int32))] (.int (0 : Int32))) (g_r1 : n0 ≤ r1) (hk : own_sl p0 = 3) :
    MetFree l (⟨"com/example/murray_hill/murrayhill/WellFormed", "writeSequence", "(I[BI)I"⟩ : MethodName) (head1 (Jvm.Cond.code (⟨"com/example/murray_hill/murrayhill/WellFormed", "writeSequence", "(I[BI)I"⟩ : MethodName) prog_39_method_16_code 6 (some .int) :: ws) ({ frames := 1, cells := 0, slots := 0, locals := 12 } : Room)) (fun a U => a = #[(.int p0), (.ref r1), (.int (0 : Int32))] ∧ Z.Warmed39 U.vm ∧ U.heap = h0) (fun _ _ _ _ _ => True) (fun _ U o U' => ∃ v L, o = .returned v ∧ Q_rmW3 Z p0 r1 kk h0 n0 v U'.heap L ∧ FrameEnd U o U' L ({ frames := 1, cells := 0, slots := 0, locals := 12 } : Room).cells ({ frames := 1, cells := 0, slots := 0, locals := 12 } : Room).slots) := by
  refine MetFree.of_bodySF (plainFor_of_name pn_0) hisR ?_
  intro p e s m args below meth c s₁ Bd hml0 hP hK
  obtain ⟨rfl, hZ, hh⟩ := hP
  have hx := Bd.exec
  have hby := Bd.bytes
  have hml : c.maxLocals = 6 := hml0
  have hown : s.vm.findClass "com/example/murray_hill/murrayhill/WellFormed" = some m.cls := findClass_of_methodNamed Bd.named
  have hnm := (name_of_methodNamed Bd.named Bd.method).1
  have X0 : Stand p l e ({ frames := 1, cells := 0, slots := 0, locals := 12 } : Room) s m #[(.int p0), (.ref r1), (.int (0 : Int32))] below meth c s₁ [] 0 0 := Stand.of_body Bd
  have e0 : s₁.heap = h0 := by rw [← hh, Bd.state]; rfl
  have N0 := Fr.nil n0
  have pre0 : ∀ t, Steps p.tables e below (s₁.setTop (mkF m 0 #[.val (.int p0), .val (.ref r1), .val (.int (0 : Int32)), .unset, .unset, .unset] [])) t → Steps p.tables e below (s₁.setTop (entryFrame m #[(.int p0), (.ref r1), (.int (0 : Int32))] 6)) t := fun t k => castTop (ef_rmW3 m p0 r1 (0 : Int32)) k
  have Kp : Keep h0 h0 [r1] := Keep.refl _ _
  have st1 : ∀ target, Steps p.tables e below (s₁.setTop (mkF m 1 #[.val (.int p0), .val (.ref r1), .val (.int (0 : Int32)), .unset, .unset, .unset] [(.int p0)])) target → Steps p.tables e below (s₁.setTop (mkF m 0 #[.val (.int p0), .val (.ref r1), .val (.int (0 : Int32)), .unset, .unset, .unset] [])) target := by
    intro target kt
    refine XS.iloadN X0.here hx rfl (hb hby d2_0) rfl ?_
    exact kt
  obtain ⟨_, _, ⟨T2, L2, k2, n2⟩, -, X2, ⟨Lc2, hQ2, l2, y2, z2⟩, st2⟩ := Jvm.LawKit.callS X0 hx (y := (⟨"com/example/murray_hill/murrayhill/WellFormed", "sequenceLength", "(I)I"⟩ : MethodName)) hown (mvT hZ (hw _ (List.mem_of_getElem? (i := 11) rfl))) (mvT hZ (hw _ (List.mem_of_getElem? (i := 4) rfl))) (mvT hZ (hw _ (List.mem_of_getElem? (i := 5) rfl))) (mvT hZ (hw _ (List.mem_of_getElem? (i := 6) rfl))) (by decide) (backOf (W := 0) (rm1 l Z a0 hw [] p0  h0 n0 Z0 ) hZ (hw _ (List.mem_of_getElem? (i := 6) rfl)) (hw _ (List.mem_of_getElem? (i := 5) rfl)) (by decide) (by decide)) (g := (mkF m 1 #[.val (.int p0), .val (.ref r1), .val (.int (0 : Int32)), .unset, .unset, .unset] [(.int p0)])) rfl (by rw [hml]; rfl) (argsL := [(.int p0)]) (rest := []) (lenOf pd_0 rfl) rfl (by show 2 * 0 + _ ≤ _; exact Nat.le_of_eq rfl) (hb hby d2_1) (fun _ _ => ⟨rfl, e0, (by decide : 0 + 0 ≤ _), (by decide : 0 + 0 ≤ _)⟩)
  dsimp only [Pt.U, Pt.locs, Pt.cells, Pt.slots] at X2 l2 y2 z2 st2 hQ2
  subst l2 y2 z2
  obtain ⟨rfl, Nq2, e2⟩ := hQ2
  have N2 := Fr.app N0 Nq2
  rw [hk] at st2
  have st3 : ∀ target, Steps p.tables e below (T2.setTop (mkF m 45 #[.val (.int p0), .val (.ref r1), .val (.int (0 : Int32)), .val (.int (3 : Int32)), .val (.int p0), .val (.int (2 : Int32))] [(.int (((128 : Int32) ||| (p0 &&& (63 : Int32))).toInt8.toInt32)), (.int (2 : Int32)), (.ref r1)])) target → Steps p.tables e below (T2.setTop (mkF m 4 #[.val (.int p0), .val (.ref r1), .val (.int (0 : Int32)), .unset, .unset, .unset] [(.int (3 : Int32))])) target := by
    intro target kt
    refine XS.istoreN X2.here hx rfl (hb hby d2_4) rfl (l' := #[.val (.int p0), .val (.ref r1), .val (.int (0 : Int32)), .val (.int (3 : Int32)), .unset, .unset]) rfl ?_
    refine XS.iloadN X2.here hx rfl (hb hby d2_5) rfl ?_
    refine XS.iconst X2.here hx rfl (hb hby d2_6) ?_
    refine XS.icmpYes X2.here hx rfl (pc0 := 7) (pc' := 17) rfl (hb hby d2_7) rfl (feq (by decide : ¬ ((3 : Int32) = (1 : Int32)))).2 (by decide) (by decide) ?_
    refine XS.iloadN X2.here hx rfl (hb hby d2_17) rfl ?_
    refine XS.istore X2.here hx rfl (hb hby d2_18) rfl (l' := #[.val (.int p0), .val (.ref r1), .val (.int (0 : Int32)), .val (.int (3 : Int32)), .val (.int p0), .unset]) rfl ?_
    show Steps p.tables e below (T2.setTop (mkF m 20 #[.val (.int p0), .val (.ref r1), .val (.int (0 : Int32)), .val (.int (3 : Int32)), .val (.int p0), .unset] [])) _
    refine XS.iloadN X2.here hx rfl (hb hby d2_20) rfl ?_
    refine XS.iconst X2.here hx rfl (hb hby d2_21) ?_
    refine XS.isub X2.here hx rfl (hb hby d2_22) rfl ?_
    refine XS.istore X2.here hx rfl (hb hby d2_23) rfl (l' := #[.val (.int p0), .val (.ref r1), .val (.int (0 : Int32)), .val (.int (3 : Int32)), .val (.int p0), .val (.int (2 : Int32))]) rfl ?_
    refine XS.iload X2.here hx rfl (hb hby d2_25) rfl ?_
    refine XS.ifNo X2.here hx rfl (hb hby d2_27) rfl ((if0 _ _).trans (tlt (by decide : ((0 : Int32) < (2 : Int32)))).2.2.2) ?_
    refine XS.aloadN X2.here hx rfl (hb hby d2_30) rfl rfl ?_
    refine XS.iloadN X2.here hx rfl (hb hby d2_31) rfl ?_
    show Steps p.tables e below (T2.setTop (mkF m 32 #[.val (.int p0), .val (.ref r1), .val (.int (0 : Int32)), .val (.int (3 : Int32)), .val (.int p0), .val (.int (2 : Int32))] [(.int (0 : Int32)), (.ref r1)])) _
    refine XS.iload X2.here hx rfl (hb hby d2_32) rfl ?_
    refine XS.iadd X2.here hx rfl (hb hby d2_34) rfl ?_
    refine XS.sipush X2.here hx rfl (hb hby d2_35) ?_
    refine XS.iload X2.here hx rfl (hb hby d2_38) rfl ?_
    refine XS.bipush X2.here hx rfl (hb hby d2_40) ?_
    refine XS.iand X2.here hx rfl (hb hby d2_42) rfl ?_
    refine XS.ior X2.here hx rfl (hb hby d2_43) rfl ?_
    refine XS.i2b X2.here hx rfl (hb hby d2_44) rfl ?_
    exact kt
  obtain ⟨cl4, Ar4, qc4, Sz4, Mn4, Hs4, Gs4⟩ := id Vb
  have hin4 : ¬ ((2 : Int32) < 0 ∨ cl4.slots.size ≤ ((2 : Int32)).toNatClampNeg) := inb_of Sz4 ⟨by decide, by decide⟩
  obtain ⟨T4, h4, X4, e4, W4, st4⟩ := stB X2 hx hZ e2 Ar4 (j := (2 : Int32)) hin4 (g := (mkF m 45 #[.val (.int p0), .val (.ref r1), .val (.int (0 : Int32)), .val (.int (3 : Int32)), .val (.int p0), .val (.int (2 : Int32))] [(.int (((128 : Int32) ||| (p0 &&& (63 : Int32))).toInt8.toInt32)), (.int (2 : Int32)), (.ref r1)])) rfl rfl (hb hby d2_45)
  have V_r1_4 : Arv Z h4 r1 kk .byte (4 : Int32) [(.int (0 : Int32)), (.int (0 : Int32)), (.int (nar .byte (((128 : Int32) ||| (p0 &&& (63 : Int32))).toInt8.toInt32))), (.int (0 : Int32))] (.int (0 : Int32)) := Arv.set Ar4 qc4 Sz4 Mn4 Hs4 Gs4 (fits_nar_byte _) W4 2 rfl (Nat.le_of_ble_eq_true rfl)
  have Z_4 : n0 ≤ h4.size := Nat.le_trans Z0 (Keep.of_wr W4).1
  have Kp_4 : Keep h0 h4 [r1] := Kp.wr W4 (Or.inl (List.mem_of_getElem? (i := 0) rfl))
  have N4 := Fr.snoc X4 N2 g_r1
  have st5 : ∀ target, Steps p.tables e below (T4.setTop (mkF m 45 #[.val (.int p0), .val (.ref r1), .val (.int (0 : Int32)), .val (.int (3 : Int32)), .val (.int ((p0.toUInt32 >>> ((6 : Int32) &&& 31).toUInt32).toInt32)), .val (.int (1 : Int32))] [(.int (((128 : Int32) ||| (((p0.toUInt32 >>> ((6 : Int32) &&& 31).toUInt32).toInt32) &&& (63 : Int32))).toInt8.toInt32)), (.int (1 : Int32)), (.ref r1)])) target → Steps p.tables e below (T4.setTop (mkF m 46 #[.val (.int p0), .val (.ref r1), .val (.int (0 : Int32)), .val (.int (3 : Int32)), .val (.int p0), .val (.int (2 : Int32))] [])) target := by
    intro target kt
    show Steps p.tables e below (T4.setTop (mkF m 46 #[.val (.int p0), .val (.ref r1), .val (.int (0 : Int32)), .val (.int (3 : Int32)), .val (.int p0), .val (.int (2 : Int32))] [])) _
    refine XS.iload X4.here hx rfl (hb hby d2_46) rfl ?_
    refine XS.bipush X4.here hx rfl (hb hby d2_48) ?_
    refine XS.iushr X4.here hx rfl (hb hby d2_50) rfl ?_
    refine XS.istore X4.here hx rfl (hb hby d2_51) rfl (l' := #[.val (.int p0), .val (.ref r1), .val (.int (0 : Int32)), .val (.int (3 : Int32)), .val (.int ((p0.toUInt32 >>> ((6 : Int32) &&& 31).toUInt32).toInt32)), .val (.int (2 : Int32))]) rfl ?_
    refine XS.iinc X4.here hx rfl (hb hby d2_53) rfl (l' := #[.val (.int p0), .val (.ref r1), .val (.int (0 : Int32)), .val (.int (3 : Int32)), .val (.int ((p0.toUInt32 >>> ((6 : Int32) &&& 31).toUInt32).toInt32)), .val (.int (1 : Int32))]) rfl ?_
    refine XS.goto X4.here hx rfl (pc0 := 56) (pc' := 25) rfl (hb hby d2_56) (by decide) (by decide) ?_
    refine XS.iload X4.here hx rfl (hb hby d2_25) rfl ?_
    refine XS.ifNo X4.here hx rfl (hb hby d2_27) rfl ((if0 _ _).trans (tlt (by decide : ((0 : Int32) < (1 : Int32)))).2.2.2) ?_
    show Steps p.tables e below (T4.setTop (mkF m 30 #[.val (.int p0), .val (.ref r1), .val (.int (0 : Int32)), .val (.int (3 : Int32)), .val (.int ((p0.toUInt32 >>> ((6 : Int32) &&& 31).toUInt32).toInt32)), .val (.int (1 : Int32))] [])) _
    refine XS.aloadN X4.here hx rfl (hb hby d2_30) rfl rfl ?_
    refine XS.iloadN X4.here hx rfl (hb hby d2_31) rfl ?_
    refine XS.iload X4.here hx rfl (hb hby d2_32) rfl ?_
    refine XS.iadd X4.here hx rfl (hb hby d2_34) rfl ?_
    refine XS.sipush X4.here hx rfl (hb hby d2_35) ?_
    refine XS.iload X4.here hx rfl (hb hby d2_38) rfl ?_
    refine XS.bipush X4.here hx rfl (hb hby d2_40) ?_
    refine XS.iand X4.here hx rfl (hb hby d2_42) rfl ?_
    show Steps p.tables e below (T4.setTop (mkF m 43 #[.val (.int p0), .val (.ref r1), .val (.int (0 : Int32)), .val (.int (3 : Int32)), .val (.int ((p0.toUInt32 >>> ((6 : Int32) &&& 31).toUInt32).toInt32)), .val (.int (1 : Int32))] [(.int (((p0.toUInt32 >>> ((6 : Int32) &&& 31).toUInt32).toInt32) &&& (63 : Int32))), (.int (128 : Int32)), (.int (1 : Int32)), (.ref r1)])) _
    refine XS.ior X4.here hx rfl (hb hby d2_43) rfl ?_
    refine XS.i2b X4.here hx rfl (hb hby d2_44) rfl ?_
    exact kt
  obtain ⟨cl6, Ar6, qc6, Sz6, Mn6, Hs6, Gs6⟩ := id V_r1_4
  have hin6 : ¬ ((1 : Int32) < 0 ∨ cl6.slots.size ≤ ((1 : Int32)).toNatClampNeg) := inb_of Sz6 ⟨by decide, by decide⟩
  obtain ⟨T6, h6, X6, e6, W6, st6⟩ := stB X4 hx hZ e4 Ar6 (j := (1 : Int32)) hin6 (g := (mkF m 45 #[.val (.int p0), .val (.ref r1), .val (.int (0 : Int32)), .val (.int (3 : Int32)), .val (.int ((p0.toUInt32 >>> ((6 : Int32) &&& 31).toUInt32).toInt32)), .val (.int (1 : Int32))] [(.int (((128 : Int32) ||| (((p0.toUInt32 >>> ((6 : Int32) &&& 31).toUInt32).toInt32) &&& (63 : Int32))).toInt8.toInt32)), (.int (1 : Int32)), (.ref r1)])) rfl rfl (hb hby d2_45)
  have V_r1_6 : Arv Z h6 r1 kk .byte (4 : Int32) [(.int (0 : Int32)), (.int (nar .byte (((128 : Int32) ||| (((p0.toUInt32 >>> ((6 : Int32) &&& 31).toUInt32).toInt32) &&& (63 : Int32))).toInt8.toInt32))), (.int (nar .byte (((128 : Int32) ||| (p0 &&& (63 : Int32))).toInt8.toInt32))), (.int (0 : Int32))] (.int (0 : Int32)) := Arv.set Ar6 qc6 Sz6 Mn6 Hs6 Gs6 (fits_nar_byte _) W6 1 rfl (Nat.le_of_ble_eq_true rfl)
  have Z_6 : n0 ≤ h6.size := Nat.le_trans Z_4 (Keep.of_wr W6).1
  have Kp_6 : Keep h0 h6 [r1] := Kp_4.wr W6 (Or.inl (List.mem_of_getElem? (i := 0) rfl))
  have N6 := Fr.snoc X6 N4 g_r1
  have st7 : ∀ target, Steps p.tables e below (T6.setTop (mkF m 69 #[.val (.int p0), .val (.ref r1), .val (.int (0 : Int32)), .val (.int (3 : Int32)), .val (.int ((((p0.toUInt32 >>> ((6 : Int32) &&& 31).toUInt32).toInt32).toUInt32 >>> ((6 : Int32) &&& 31).toUInt32).toInt32)), .val (.int (0 : Int32))] [(.int ((((65280 : Int32) >>> ((3 : Int32) &&& 31)) ||| ((((p0.toUInt32 >>> ((6 : Int32) &&& 31).toUInt32).toInt32).toUInt32 >>> ((6 : Int32) &&& 31).toUInt32).toInt32)).toInt8.toInt32)), (.int (0 : Int32)), (.ref r1)])) target → Steps p.tables e below (T6.setTop (mkF m 46 #[.val (.int p0), .val (.ref r1), .val (.int (0 : Int32)), .val (.int (3 : Int32)), .val (.int ((p0.toUInt32 >>> ((6 : Int32) &&& 31).toUInt32).toInt32)), .val (.int (1 : Int32))] [])) target := by
    intro target kt
    refine XS.iload X6.here hx rfl (hb hby d2_46) rfl ?_
    refine XS.bipush X6.here hx rfl (hb hby d2_48) ?_
    refine XS.iushr X6.here hx rfl (hb hby d2_50) rfl ?_
    refine XS.istore X6.here hx rfl (hb hby d2_51) rfl (l' := #[.val (.int p0), .val (.ref r1), .val (.int (0 : Int32)), .val (.int (3 : Int32)), .val (.int ((((p0.toUInt32 >>> ((6 : Int32) &&& 31).toUInt32).toInt32).toUInt32 >>> ((6 : Int32) &&& 31).toUInt32).toInt32)), .val (.int (1 : Int32))]) rfl ?_
    refine XS.iinc X6.here hx rfl (hb hby d2_53) rfl (l' := #[.val (.int p0), .val (.ref r1), .val (.int (0 : Int32)), .val (.int (3 : Int32)), .val (.int ((((p0.toUInt32 >>> ((6 : Int32) &&& 31).toUInt32).toInt32).toUInt32 >>> ((6 : Int32) &&& 31).toUInt32).toInt32)), .val (.int (0 : Int32))]) rfl ?_
    refine XS.goto X6.here hx rfl (pc0 := 56) (pc' := 25) rfl (hb hby d2_56) (by decide) (by decide) ?_
    show Steps p.tables e below (T6.setTop (mkF m 25 #[.val (.int p0), .val (.ref r1), .val (.int (0 : Int32)), .val (.int (3 : Int32)), .val (.int ((((p0.toUInt32 >>> ((6 : Int32) &&& 31).toUInt32).toInt32).toUInt32 >>> ((6 : Int32) &&& 31).toUInt32).toInt32)), .val (.int (0 : Int32))] [])) _
    refine XS.iload X6.here hx rfl (hb hby d2_25) rfl ?_
    refine XS.ifYes X6.here hx rfl (pc0 := 27) (pc' := 59) rfl (hb hby d2_27) rfl ((if0 _ _).trans (flt (by decide : ¬ ((0 : Int32) < (0 : Int32)))).2.2.2) (by decide) (by decide) ?_
    refine XS.aloadN X6.here hx rfl (hb hby d2_59) rfl rfl ?_
    refine XS.iloadN X6.here hx rfl (hb hby d2_60) rfl ?_
    refine X6.ldcInt hx hown (mvT hZ (hw _ (List.mem_of_getElem? (i := 21) rfl))) (g := (mkF m 61 #[.val (.int p0), .val (.ref r1), .val (.int (0 : Int32)), .val (.int (3 : Int32)), .val (.int ((((p0.toUInt32 >>> ((6 : Int32) &&& 31).toUInt32).toInt32).toUInt32 >>> ((6 : Int32) &&& 31).toUInt32).toInt32)), .val (.int (0 : Int32))] [(.int (0 : Int32)), (.ref r1)])) rfl (hb hby d2_61) _ ?_
    refine XS.iloadN X6.here hx rfl (hb hby d2_63) rfl ?_
    refine XS.ishr X6.here hx rfl (hb hby d2_64) rfl ?_
    refine XS.iload X6.here hx rfl (hb hby d2_65) rfl ?_
    show Steps p.tables e below (T6.setTop (mkF m 67 #[.val (.int p0), .val (.ref r1), .val (.int (0 : Int32)), .val (.int (3 : Int32)), .val (.int ((((p0.toUInt32 >>> ((6 : Int32) &&& 31).toUInt32).toInt32).toUInt32 >>> ((6 : Int32) &&& 31).toUInt32).toInt32)), .val (.int (0 : Int32))] [(.int ((((p0.toUInt32 >>> ((6 : Int32) &&& 31).toUInt32).toInt32).toUInt32 >>> ((6 : Int32) &&& 31).toUInt32).toInt32)), (.int ((65280 : Int32) >>> ((3 : Int32) &&& 31))), (.int (0 : Int32)), (.ref r1)])) _
    refine XS.ior X6.here hx rfl (hb hby d2_67) rfl ?_
    refine XS.i2b X6.here hx rfl (hb hby d2_68) rfl ?_
    exact kt
  obtain ⟨cl8, Ar8, qc8, Sz8, Mn8, Hs8, Gs8⟩ := id V_r1_6
  have hin8 : ¬ ((0 : Int32) < 0 ∨ cl8.slots.size ≤ ((0 : Int32)).toNatClampNeg) := inb_of Sz8 ⟨by decide, by decide⟩
  obtain ⟨T8, h8, X8, e8, W8, st8⟩ := stB X6 hx hZ e6 Ar8 (j := (0 : Int32)) hin8 (g := (mkF m 69 #[.val (.int p0), .val (.ref r1), .val (.int (0 : Int32)), .val (.int (3 : Int32)), .val (.int ((((p0.toUInt32 >>> ((6 : Int32) &&& 31).toUInt32).toInt32).toUInt32 >>> ((6 : Int32) &&& 31).toUInt32).toInt32)), .val (.int (0 : Int32))] [(.int ((((65280 : Int32) >>> ((3 : Int32) &&& 31)) ||| ((((p0.toUInt32 >>> ((6 : Int32) &&& 31).toUInt32).toInt32).toUInt32 >>> ((6 : Int32) &&& 31).toUInt32).toInt32)).toInt8.toInt32)), (.int (0 : Int32)), (.ref r1)])) rfl rfl (hb hby d2_69)
  have V_r1_8 : Arv Z h8 r1 kk .byte (4 : Int32) [(.int (nar .byte ((((65280 : Int32) >>> ((3 : Int32) &&& 31)) ||| ((((p0.toUInt32 >>> ((6 : Int32) &&& 31).toUInt32).toInt32).toUInt32 >>> ((6 : Int32) &&& 31).toUInt32).toInt32)).toInt8.toInt32))), (.int (nar .byte (((128 : Int32) ||| (((p0.toUInt32 >>> ((6 : Int32) &&& 31).toUInt32).toInt32) &&& (63 : Int32))).toInt8.toInt32))), (.int (nar .byte (((128 : Int32) ||| (p0 &&& (63 : Int32))).toInt8.toInt32))), (.int (0 : Int32))] (.int (0 : Int32)) := Arv.set Ar8 qc8 Sz8 Mn8 Hs8 Gs8 (fits_nar_byte _) W8 0 rfl (Nat.le_of_ble_eq_true rfl)
  have Z_8 : n0 ≤ h8.size := Nat.le_trans Z_6 (Keep.of_wr W8).1
  have Kp_8 : Keep h0 h8 [r1] := Kp_6.wr W8 (Or.inl (List.mem_of_getElem? (i := 0) rfl))
  have N8 := Fr.snoc X8 N6 g_r1
  obtain ⟨fs, hr, hrun, hended, hW, hsame⟩ := X8.leave (v := some (.int (3 : Int32))) (fun h => by rw [Bd.returns] at h; cases h)
  refine ⟨_, _, pre0 _ (st1 _ (st2 _ (st3 _ (st4 _ (st5 _ (st6 _ (st7 _ (st8 _ ?_)))))))), hrun, hended, _, _, rfl, ?_, ⟨_, rfl⟩, hW, hsame.mono (by decide) (by decide)⟩
  · refine XS.iloadN X8.here hx rfl (hb hby d2_70) rfl ?_
    show Steps p.tables e below (T8.setTop (mkF m 71 #[.val (.int p0), .val (.ref r1), .val (.int (0 : Int32)), .val (.int (3 : Int32)), .val (.int ((((p0.toUInt32 >>> ((6 : Int32) &&& 31).toUInt32).toInt32).toUInt32 >>> ((6 : Int32) &&& 31).toUInt32).toInt32)), .val (.int (0 : Int32))] [(.int (3 : Int32))])) _
    exact retI X8 hx Bd.returns (hb hby d2_71) hr
  · show Q_rmW3 Z p0 r1 kk h0 n0 _ T8.heap _
    rw [e8]
    exact ⟨rfl, N8, Kp_8, V_r1_8⟩
theorem ef_rmW4 (m : MethodId) (x0 : Int32) (x1 : Addr) (x2 : Int32) : entryFrame m #[(.int x0), (.ref x1), (.int x2)] 6 = mkF m 0 #[.val (.int x0), .val (.ref x1), .val (.int x2), .unset, .unset, .unset] [] := by first | (simp [entryFrame, mkF, argsToLocals, Value.category]; done) | rfl
def Q_rmW4 (Z : State) (p0 : Int32) (r1 : Addr) (kk : ClassId) (h0 : Heap) (n0 : Nat) (v : Option Value) (h : Heap) (L : List Loc) : Prop := v = some (.int (4 : Int32)) ∧ Fr n0 L ∧ Keep h0 h [r1] ∧ Arv Z h r1 kk .byte (4 : Int32) [(.int (nar .byte ((((65280 : Int32) >>> ((4 : Int32) &&& 31)) ||| ((((((p0.toUInt32 >>> ((6 : Int32) &&& 31).toUInt32).toInt32).toUInt32 >>> ((6 : Int32) &&& 31).toUInt32).toInt32).toUInt32 >>> ((6 : Int32) &&& 31).toUInt32).toInt32)).toInt8.toInt32))), (.int (nar .byte (((128 : Int32) ||| (((((p0.toUInt32 >>> ((6 : Int32) &&& 31).toUInt32).toInt32).toUInt32 >>> ((6 : Int32) &&& 31).toUInt32).toInt32) &&& (63 : Int32))).toInt8.toInt32))), (.int (nar .byte (((128 : Int32) ||| (((p0.toUInt32 >>> ((6 : Int32) &&& 31).toUInt32).toInt32) &&& (63 : Int32))).toInt8.toInt32))), (.int (nar .byte (((128 : Int32) ||| (p0 &&& (63 : Int32))).toInt8.toInt32)))] (.int (0 : Int32))
set_option maxRecDepth 65536 in
set_option maxHeartbeats 40000000 in
theorem rmW4 (l : Launch) (Z : State) (a0 : Array Value) (hw : ∀ d ∈ tables_1, d.before a0 Z = true) (ws : List Jvm.Cond) (p0 : Int32) (r1 : Addr) (kk : ClassId) (h0 : Heap) (n0 : Nat) (Z0 : n0 ≤ h0.size) (Vb : Arv Z h0 r1 kk .byte (4 : Int32) [(.int (0 : Int32)), (.int (0 : Int32)), (.int (0 : Int32)), (.int (0 : Int32))] (.int (0 : Int32))) (g_r1 : n0 ≤ r1) (hk : own_sl p0 = 4) :
    MetFree l (⟨"com/example/murray_hill/murrayhill/WellFormed", "writeSequence", "(I[BI)I"⟩ : MethodName) (head1 (Jvm.Cond.code (⟨"com/example/murray_hill/murrayhill/WellFormed", "writeSequence", "(I[BI)I"⟩ : MethodName) prog_39_method_16_code 6 (some .int) :: ws) ({ frames := 1, cells := 0, slots := 0, locals := 12 } : Room)) (fun a U => a = #[(.int p0), (.ref r1), (.int (0 : Int32))] ∧ Z.Warmed39 U.vm ∧ U.heap = h0) (fun _ _ _ _ _ => True) (fun _ U o U' => ∃ v L, o = .returned v ∧ Q_rmW4 Z p0 r1 kk h0 n0 v U'.heap L ∧ FrameEnd U o U' L ({ frames := 1, cells := 0, slots := 0, locals := 12 } : Room).cells ({ frames := 1, cells := 0, slots := 0, locals := 12 } : Room).slots) := by
  refine MetFree.of_bodySF (plainFor_of_name pn_0) hisR ?_
  intro p e s m args below meth c s₁ Bd hml0 hP hK
  obtain ⟨rfl, hZ, hh⟩ := hP
  have hx := Bd.exec
  have hby := Bd.bytes
  have hml : c.maxLocals = 6 := hml0
  have hown : s.vm.findClass "com/example/murray_hill/murrayhill/WellFormed" = some m.cls := findClass_of_methodNamed Bd.named
  have hnm := (name_of_methodNamed Bd.named Bd.method).1
  have X0 : Stand p l e ({ frames := 1, cells := 0, slots := 0, locals := 12 } : Room) s m #[(.int p0), (.ref r1), (.int (0 : Int32))] below meth c s₁ [] 0 0 := Stand.of_body Bd
  have e0 : s₁.heap = h0 := by rw [← hh, Bd.state]; rfl
  have N0 := Fr.nil n0
  have pre0 : ∀ t, Steps p.tables e below (s₁.setTop (mkF m 0 #[.val (.int p0), .val (.ref r1), .val (.int (0 : Int32)), .unset, .unset, .unset] [])) t → Steps p.tables e below (s₁.setTop (entryFrame m #[(.int p0), (.ref r1), (.int (0 : Int32))] 6)) t := fun t k => castTop (ef_rmW4 m p0 r1 (0 : Int32)) k
  have Kp : Keep h0 h0 [r1] := Keep.refl _ _
  have st1 : ∀ target, Steps p.tables e below (s₁.setTop (mkF m 1 #[.val (.int p0), .val (.ref r1), .val (.int (0 : Int32)), .unset, .unset, .unset] [(.int p0)])) target → Steps p.tables e below (s₁.setTop (mkF m 0 #[.val (.int p0), .val (.ref r1), .val (.int (0 : Int32)), .unset, .unset, .unset] [])) target := by
    intro target kt
    refine XS.iloadN X0.here hx rfl (hb hby d2_0) rfl ?_
    exact kt
  obtain ⟨_, _, ⟨T2, L2, k2, n2⟩, -, X2, ⟨Lc2, hQ2, l2, y2, z2⟩, st2⟩ := Jvm.LawKit.callS X0 hx (y := (⟨"com/example/murray_hill/murrayhill/WellFormed", "sequenceLength", "(I)I"⟩ : MethodName)) hown (mvT hZ (hw _ (List.mem_of_getElem? (i := 11) rfl))) (mvT hZ (hw _ (List.mem_of_getElem? (i := 4) rfl))) (mvT hZ (hw _ (List.mem_of_getElem? (i := 5) rfl))) (mvT hZ (hw _ (List.mem_of_getElem? (i := 6) rfl))) (by decide) (backOf (W := 0) (rm1 l Z a0 hw [] p0  h0 n0 Z0 ) hZ (hw _ (List.mem_of_getElem? (i := 6) rfl)) (hw _ (List.mem_of_getElem? (i := 5) rfl)) (by decide) (by decide)) (g := (mkF m 1 #[.val (.int p0), .val (.ref r1), .val (.int (0 : Int32)), .unset, .unset, .unset] [(.int p0)])) rfl (by rw [hml]; rfl) (argsL := [(.int p0)]) (rest := []) (lenOf pd_0 rfl) rfl (by show 2 * 0 + _ ≤ _; exact Nat.le_of_eq rfl) (hb hby d2_1) (fun _ _ => ⟨rfl, e0, (by decide : 0 + 0 ≤ _), (by decide : 0 + 0 ≤ _)⟩)
  dsimp only [Pt.U, Pt.locs, Pt.cells, Pt.slots] at X2 l2 y2 z2 st2 hQ2
  subst l2 y2 z2
  obtain ⟨rfl, Nq2, e2⟩ := hQ2
  have N2 := Fr.app N0 Nq2
  rw [hk] at st2
  have st3 : ∀ target, Steps p.tables e below (T2.setTop (mkF m 45 #[.val (.int p0), .val (.ref r1), .val (.int (0 : Int32)), .val (.int (4 : Int32)), .val (.int p0), .val (.int (3 : Int32))] [(.int (((128 : Int32) ||| (p0 &&& (63 : Int32))).toInt8.toInt32)), (.int (3 : Int32)), (.ref r1)])) target → Steps p.tables e below (T2.setTop (mkF m 4 #[.val (.int p0), .val (.ref r1), .val (.int (0 : Int32)), .unset, .unset, .unset] [(.int (4 : Int32))])) target := by
    intro target kt
    refine XS.istoreN X2.here hx rfl (hb hby d2_4) rfl (l' := #[.val (.int p0), .val (.ref r1), .val (.int (0 : Int32)), .val (.int (4 : Int32)), .unset, .unset]) rfl ?_
    refine XS.iloadN X2.here hx rfl (hb hby d2_5) rfl ?_
    refine XS.iconst X2.here hx rfl (hb hby d2_6) ?_
    refine XS.icmpYes X2.here hx rfl (pc0 := 7) (pc' := 17) rfl (hb hby d2_7) rfl (feq (by decide : ¬ ((4 : Int32) = (1 : Int32)))).2 (by decide) (by decide) ?_
    refine XS.iloadN X2.here hx rfl (hb hby d2_17) rfl ?_
    refine XS.istore X2.here hx rfl (hb hby d2_18) rfl (l' := #[.val (.int p0), .val (.ref r1), .val (.int (0 : Int32)), .val (.int (4 : Int32)), .val (.int p0), .unset]) rfl ?_
    show Steps p.tables e below (T2.setTop (mkF m 20 #[.val (.int p0), .val (.ref r1), .val (.int (0 : Int32)), .val (.int (4 : Int32)), .val (.int p0), .unset] [])) _
    refine XS.iloadN X2.here hx rfl (hb hby d2_20) rfl ?_
    refine XS.iconst X2.here hx rfl (hb hby d2_21) ?_
    refine XS.isub X2.here hx rfl (hb hby d2_22) rfl ?_
    refine XS.istore X2.here hx rfl (hb hby d2_23) rfl (l' := #[.val (.int p0), .val (.ref r1), .val (.int (0 : Int32)), .val (.int (4 : Int32)), .val (.int p0), .val (.int (3 : Int32))]) rfl ?_
    refine XS.iload X2.here hx rfl (hb hby d2_25) rfl ?_
    refine XS.ifNo X2.here hx rfl (hb hby d2_27) rfl ((if0 _ _).trans (tlt (by decide : ((0 : Int32) < (3 : Int32)))).2.2.2) ?_
    refine XS.aloadN X2.here hx rfl (hb hby d2_30) rfl rfl ?_
    refine XS.iloadN X2.here hx rfl (hb hby d2_31) rfl ?_
    show Steps p.tables e below (T2.setTop (mkF m 32 #[.val (.int p0), .val (.ref r1), .val (.int (0 : Int32)), .val (.int (4 : Int32)), .val (.int p0), .val (.int (3 : Int32))] [(.int (0 : Int32)), (.ref r1)])) _
    refine XS.iload X2.here hx rfl (hb hby d2_32) rfl ?_
    refine XS.iadd X2.here hx rfl (hb hby d2_34) rfl ?_
    refine XS.sipush X2.here hx rfl (hb hby d2_35) ?_
    refine XS.iload X2.here hx rfl (hb hby d2_38) rfl ?_
    refine XS.bipush X2.here hx rfl (hb hby d2_40) ?_
    refine XS.iand X2.here hx rfl (hb hby d2_42) rfl ?_
    refine XS.ior X2.here hx rfl (hb hby d2_43) rfl ?_
    refine XS.i2b X2.here hx rfl (hb hby d2_44) rfl ?_
    exact kt
  obtain ⟨cl4, Ar4, qc4, Sz4, Mn4, Hs4, Gs4⟩ := id Vb
  have hin4 : ¬ ((3 : Int32) < 0 ∨ cl4.slots.size ≤ ((3 : Int32)).toNatClampNeg) := inb_of Sz4 ⟨by decide, by decide⟩
  obtain ⟨T4, h4, X4, e4, W4, st4⟩ := stB X2 hx hZ e2 Ar4 (j := (3 : Int32)) hin4 (g := (mkF m 45 #[.val (.int p0), .val (.ref r1), .val (.int (0 : Int32)), .val (.int (4 : Int32)), .val (.int p0), .val (.int (3 : Int32))] [(.int (((128 : Int32) ||| (p0 &&& (63 : Int32))).toInt8.toInt32)), (.int (3 : Int32)), (.ref r1)])) rfl rfl (hb hby d2_45)
  have V_r1_4 : Arv Z h4 r1 kk .byte (4 : Int32) [(.int (0 : Int32)), (.int (0 : Int32)), (.int (0 : Int32)), (.int (nar .byte (((128 : Int32) ||| (p0 &&& (63 : Int32))).toInt8.toInt32)))] (.int (0 : Int32)) := Arv.set Ar4 qc4 Sz4 Mn4 Hs4 Gs4 (fits_nar_byte _) W4 3 rfl (Nat.le_of_ble_eq_true rfl)
  have Z_4 : n0 ≤ h4.size := Nat.le_trans Z0 (Keep.of_wr W4).1
  have Kp_4 : Keep h0 h4 [r1] := Kp.wr W4 (Or.inl (List.mem_of_getElem? (i := 0) rfl))
  have N4 := Fr.snoc X4 N2 g_r1
  have st5 : ∀ target, Steps p.tables e below (T4.setTop (mkF m 45 #[.val (.int p0), .val (.ref r1), .val (.int (0 : Int32)), .val (.int (4 : Int32)), .val (.int ((p0.toUInt32 >>> ((6 : Int32) &&& 31).toUInt32).toInt32)), .val (.int (2 : Int32))] [(.int (((128 : Int32) ||| (((p0.toUInt32 >>> ((6 : Int32) &&& 31).toUInt32).toInt32) &&& (63 : Int32))).toInt8.toInt32)), (.int (2 : Int32)), (.ref r1)])) target → Steps p.tables e below (T4.setTop (mkF m 46 #[.val (.int p0), .val (.ref r1), .val (.int (0 : Int32)), .val (.int (4 : Int32)), .val (.int p0), .val (.int (3 : Int32))] [])) target := by
    intro target kt
    show Steps p.tables e below (T4.setTop (mkF m 46 #[.val (.int p0), .val (.ref r1), .val (.int (0 : Int32)), .val (.int (4 : Int32)), .val (.int p0), .val (.int (3 : Int32))] [])) _
    refine XS.iload X4.here hx rfl (hb hby d2_46) rfl ?_
    refine XS.bipush X4.here hx rfl (hb hby d2_48) ?_
    refine XS.iushr X4.here hx rfl (hb hby d2_50) rfl ?_
    refine XS.istore X4.here hx rfl (hb hby d2_51) rfl (l' := #[.val (.int p0), .val (.ref r1), .val (.int (0 : Int32)), .val (.int (4 : Int32)), .val (.int ((p0.toUInt32 >>> ((6 : Int32) &&& 31).toUInt32).toInt32)), .val (.int (3 : Int32))]) rfl ?_
    refine XS.iinc X4.here hx rfl (hb hby d2_53) rfl (l' := #[.val (.int p0), .val (.ref r1), .val (.int (0 : Int32)), .val (.int (4 : Int32)), .val (.int ((p0.toUInt32 >>> ((6 : Int32) &&& 31).toUInt32).toInt32)), .val (.int (2 : Int32))]) rfl ?_
    refine XS.goto X4.here hx rfl (pc0 := 56) (pc' := 25) rfl (hb hby d2_56) (by decide) (by decide) ?_
    refine XS.iload X4.here hx rfl (hb hby d2_25) rfl ?_
    refine XS.ifNo X4.here hx rfl (hb hby d2_27) rfl ((if0 _ _).trans (tlt (by decide : ((0 : Int32) < (2 : Int32)))).2.2.2) ?_
    show Steps p.tables e below (T4.setTop (mkF m 30 #[.val (.int p0), .val (.ref r1), .val (.int (0 : Int32)), .val (.int (4 : Int32)), .val (.int ((p0.toUInt32 >>> ((6 : Int32) &&& 31).toUInt32).toInt32)), .val (.int (2 : Int32))] [])) _
    refine XS.aloadN X4.here hx rfl (hb hby d2_30) rfl rfl ?_
    refine XS.iloadN X4.here hx rfl (hb hby d2_31) rfl ?_
    refine XS.iload X4.here hx rfl (hb hby d2_32) rfl ?_
    refine XS.iadd X4.here hx rfl (hb hby d2_34) rfl ?_
    refine XS.sipush X4.here hx rfl (hb hby d2_35) ?_
    refine XS.iload X4.here hx rfl (hb hby d2_38) rfl ?_
    refine XS.bipush X4.here hx rfl (hb hby d2_40) ?_
    refine XS.iand X4.here hx rfl (hb hby d2_42) rfl ?_
    show Steps p.tables e below (T4.setTop (mkF m 43 #[.val (.int p0), .val (.ref r1), .val (.int (0 : Int32)), .val (.int (4 : Int32)), .val (.int ((p0.toUInt32 >>> ((6 : Int32) &&& 31).toUInt32).toInt32)), .val (.int (2 : Int32))] [(.int (((p0.toUInt32 >>> ((6 : Int32) &&& 31).toUInt32).toInt32) &&& (63 : Int32))), (.int (128 : Int32)), (.int (2 : Int32)), (.ref r1)])) _
    refine XS.ior X4.here hx rfl (hb hby d2_43) rfl ?_
    refine XS.i2b X4.here hx rfl (hb hby d2_44) rfl ?_
    exact kt
  obtain ⟨cl6, Ar6, qc6, Sz6, Mn6, Hs6, Gs6⟩ := id V_r1_4
  have hin6 : ¬ ((2 : Int32) < 0 ∨ cl6.slots.size ≤ ((2 : Int32)).toNatClampNeg) := inb_of Sz6 ⟨by decide, by decide⟩
  obtain ⟨T6, h6, X6, e6, W6, st6⟩ := stB X4 hx hZ e4 Ar6 (j := (2 : Int32)) hin6 (g := (mkF m 45 #[.val (.int p0), .val (.ref r1), .val (.int (0 : Int32)), .val (.int (4 : Int32)), .val (.int ((p0.toUInt32 >>> ((6 : Int32) &&& 31).toUInt32).toInt32)), .val (.int (2 : Int32))] [(.int (((128 : Int32) ||| (((p0.toUInt32 >>> ((6 : Int32) &&& 31).toUInt32).toInt32) &&& (63 : Int32))).toInt8.toInt32)), (.int (2 : Int32)), (.ref r1)])) rfl rfl (hb hby d2_45)
  have V_r1_6 : Arv Z h6 r1 kk .byte (4 : Int32) [(.int (0 : Int32)), (.int (0 : Int32)), (.int (nar .byte (((128 : Int32) ||| (((p0.toUInt32 >>> ((6 : Int32) &&& 31).toUInt32).toInt32) &&& (63 : Int32))).toInt8.toInt32))), (.int (nar .byte (((128 : Int32) ||| (p0 &&& (63 : Int32))).toInt8.toInt32)))] (.int (0 : Int32)) := Arv.set Ar6 qc6 Sz6 Mn6 Hs6 Gs6 (fits_nar_byte _) W6 2 rfl (Nat.le_of_ble_eq_true rfl)
  have Z_6 : n0 ≤ h6.size := Nat.le_trans Z_4 (Keep.of_wr W6).1
  have Kp_6 : Keep h0 h6 [r1] := Kp_4.wr W6 (Or.inl (List.mem_of_getElem? (i := 0) rfl))
  have N6 := Fr.snoc X6 N4 g_r1
  have st7 : ∀ target, Steps p.tables e below (T6.setTop (mkF m 45 #[.val (.int p0), .val (.ref r1), .val (.int (0 : Int32)), .val (.int (4 : Int32)), .val (.int ((((p0.toUInt32 >>> ((6 : Int32) &&& 31).toUInt32).toInt32).toUInt32 >>> ((6 : Int32) &&& 31).toUInt32).toInt32)), .val (.int (1 : Int32))] [(.int (((128 : Int32) ||| (((((p0.toUInt32 >>> ((6 : Int32) &&& 31).toUInt32).toInt32).toUInt32 >>> ((6 : Int32) &&& 31).toUInt32).toInt32) &&& (63 : Int32))).toInt8.toInt32)), (.int (1 : Int32)), (.ref r1)])) target → Steps p.tables e below (T6.setTop (mkF m 46 #[.val (.int p0), .val (.ref r1), .val (.int (0 : Int32)), .val (.int (4 : Int32)), .val (.int ((p0.toUInt32 >>> ((6 : Int32) &&& 31).toUInt32).toInt32)), .val (.int (2 : Int32))] [])) target := by
    intro target kt
    refine XS.iload X6.here hx rfl (hb hby d2_46) rfl ?_
    refine XS.bipush X6.here hx rfl (hb hby d2_48) ?_
    refine XS.iushr X6.here hx rfl (hb hby d2_50) rfl ?_
    refine XS.istore X6.here hx rfl (hb hby d2_51) rfl (l' := #[.val (.int p0), .val (.ref r1), .val (.int (0 : Int32)), .val (.int (4 : Int32)), .val (.int ((((p0.toUInt32 >>> ((6 : Int32) &&& 31).toUInt32).toInt32).toUInt32 >>> ((6 : Int32) &&& 31).toUInt32).toInt32)), .val (.int (2 : Int32))]) rfl ?_
    refine XS.iinc X6.here hx rfl (hb hby d2_53) rfl (l' := #[.val (.int p0), .val (.ref r1), .val (.int (0 : Int32)), .val (.int (4 : Int32)), .val (.int ((((p0.toUInt32 >>> ((6 : Int32) &&& 31).toUInt32).toInt32).toUInt32 >>> ((6 : Int32) &&& 31).toUInt32).toInt32)), .val (.int (1 : Int32))]) rfl ?_
    refine XS.goto X6.here hx rfl (pc0 := 56) (pc' := 25) rfl (hb hby d2_56) (by decide) (by decide) ?_
    show Steps p.tables e below (T6.setTop (mkF m 25 #[.val (.int p0), .val (.ref r1), .val (.int (0 : Int32)), .val (.int (4 : Int32)), .val (.int ((((p0.toUInt32 >>> ((6 : Int32) &&& 31).toUInt32).toInt32).toUInt32 >>> ((6 : Int32) &&& 31).toUInt32).toInt32)), .val (.int (1 : Int32))] [])) _
    refine XS.iload X6.here hx rfl (hb hby d2_25) rfl ?_
    refine XS.ifNo X6.here hx rfl (hb hby d2_27) rfl ((if0 _ _).trans (tlt (by decide : ((0 : Int32) < (1 : Int32)))).2.2.2) ?_
    refine XS.aloadN X6.here hx rfl (hb hby d2_30) rfl rfl ?_
    refine XS.iloadN X6.here hx rfl (hb hby d2_31) rfl ?_
    refine XS.iload X6.here hx rfl (hb hby d2_32) rfl ?_
    refine XS.iadd X6.here hx rfl (hb hby d2_34) rfl ?_
    refine XS.sipush X6.here hx rfl (hb hby d2_35) ?_
    refine XS.iload X6.here hx rfl (hb hby d2_38) rfl ?_
    show Steps p.tables e below (T6.setTop (mkF m 40 #[.val (.int p0), .val (.ref r1), .val (.int (0 : Int32)), .val (.int (4 : Int32)), .val (.int ((((p0.toUInt32 >>> ((6 : Int32) &&& 31).toUInt32).toInt32).toUInt32 >>> ((6 : Int32) &&& 31).toUInt32).toInt32)), .val (.int (1 : Int32))] [(.int ((((p0.toUInt32 >>> ((6 : Int32) &&& 31).toUInt32).toInt32).toUInt32 >>> ((6 : Int32) &&& 31).toUInt32).toInt32)), (.int (128 : Int32)), (.int (1 : Int32)), (.ref r1)])) _
    refine XS.bipush X6.here hx rfl (hb hby d2_40) ?_
    refine XS.iand X6.here hx rfl (hb hby d2_42) rfl ?_
    refine XS.ior X6.here hx rfl (hb hby d2_43) rfl ?_
    refine XS.i2b X6.here hx rfl (hb hby d2_44) rfl ?_
    exact kt
  obtain ⟨cl8, Ar8, qc8, Sz8, Mn8, Hs8, Gs8⟩ := id V_r1_6
  have hin8 : ¬ ((1 : Int32) < 0 ∨ cl8.slots.size ≤ ((1 : Int32)).toNatClampNeg) := inb_of Sz8 ⟨by decide, by decide⟩
  obtain ⟨T8, h8, X8, e8, W8, st8⟩ := stB X6 hx hZ e6 Ar8 (j := (1 : Int32)) hin8 (g := (mkF m 45 #[.val (.int p0), .val (.ref r1), .val (.int (0 : Int32)), .val (.int (4 : Int32)), .val (.int ((((p0.toUInt32 >>> ((6 : Int32) &&& 31).toUInt32).toInt32).toUInt32 >>> ((6 : Int32) &&& 31).toUInt32).toInt32)), .val (.int (1 : Int32))] [(.int (((128 : Int32) ||| (((((p0.toUInt32 >>> ((6 : Int32) &&& 31).toUInt32).toInt32).toUInt32 >>> ((6 : Int32) &&& 31).toUInt32).toInt32) &&& (63 : Int32))).toInt8.toInt32)), (.int (1 : Int32)), (.ref r1)])) rfl rfl (hb hby d2_45)
  have V_r1_8 : Arv Z h8 r1 kk .byte (4 : Int32) [(.int (0 : Int32)), (.int (nar .byte (((128 : Int32) ||| (((((p0.toUInt32 >>> ((6 : Int32) &&& 31).toUInt32).toInt32).toUInt32 >>> ((6 : Int32) &&& 31).toUInt32).toInt32) &&& (63 : Int32))).toInt8.toInt32))), (.int (nar .byte (((128 : Int32) ||| (((p0.toUInt32 >>> ((6 : Int32) &&& 31).toUInt32).toInt32) &&& (63 : Int32))).toInt8.toInt32))), (.int (nar .byte (((128 : Int32) ||| (p0 &&& (63 : Int32))).toInt8.toInt32)))] (.int (0 : Int32)) := Arv.set Ar8 qc8 Sz8 Mn8 Hs8 Gs8 (fits_nar_byte _) W8 1 rfl (Nat.le_of_ble_eq_true rfl)
  have Z_8 : n0 ≤ h8.size := Nat.le_trans Z_6 (Keep.of_wr W8).1
  have Kp_8 : Keep h0 h8 [r1] := Kp_6.wr W8 (Or.inl (List.mem_of_getElem? (i := 0) rfl))
  have N8 := Fr.snoc X8 N6 g_r1
  have st9 : ∀ target, Steps p.tables e below (T8.setTop (mkF m 69 #[.val (.int p0), .val (.ref r1), .val (.int (0 : Int32)), .val (.int (4 : Int32)), .val (.int ((((((p0.toUInt32 >>> ((6 : Int32) &&& 31).toUInt32).toInt32).toUInt32 >>> ((6 : Int32) &&& 31).toUInt32).toInt32).toUInt32 >>> ((6 : Int32) &&& 31).toUInt32).toInt32)), .val (.int (0 : Int32))] [(.int ((((65280 : Int32) >>> ((4 : Int32) &&& 31)) ||| ((((((p0.toUInt32 >>> ((6 : Int32) &&& 31).toUInt32).toInt32).toUInt32 >>> ((6 : Int32) &&& 31).toUInt32).toInt32).toUInt32 >>> ((6 : Int32) &&& 31).toUInt32).toInt32)).toInt8.toInt32)), (.int (0 : Int32)), (.ref r1)])) target → Steps p.tables e below (T8.setTop (mkF m 46 #[.val (.int p0), .val (.ref r1), .val (.int (0 : Int32)), .val (.int (4 : Int32)), .val (.int ((((p0.toUInt32 >>> ((6 : Int32) &&& 31).toUInt32).toInt32).toUInt32 >>> ((6 : Int32) &&& 31).toUInt32).toInt32)), .val (.int (1 : Int32))] [])) target := by
    intro target kt
    refine XS.iload X8.here hx rfl (hb hby d2_46) rfl ?_
    refine XS.bipush X8.here hx rfl (hb hby d2_48) ?_
    refine XS.iushr X8.here hx rfl (hb hby d2_50) rfl ?_
    refine XS.istore X8.here hx rfl (hb hby d2_51) rfl (l' := #[.val (.int p0), .val (.ref r1), .val (.int (0 : Int32)), .val (.int (4 : Int32)), .val (.int ((((((p0.toUInt32 >>> ((6 : Int32) &&& 31).toUInt32).toInt32).toUInt32 >>> ((6 : Int32) &&& 31).toUInt32).toInt32).toUInt32 >>> ((6 : Int32) &&& 31).toUInt32).toInt32)), .val (.int (1 : Int32))]) rfl ?_
    show Steps p.tables e below (T8.setTop (mkF m 53 #[.val (.int p0), .val (.ref r1), .val (.int (0 : Int32)), .val (.int (4 : Int32)), .val (.int ((((((p0.toUInt32 >>> ((6 : Int32) &&& 31).toUInt32).toInt32).toUInt32 >>> ((6 : Int32) &&& 31).toUInt32).toInt32).toUInt32 >>> ((6 : Int32) &&& 31).toUInt32).toInt32)), .val (.int (1 : Int32))] [])) _
    refine XS.iinc X8.here hx rfl (hb hby d2_53) rfl (l' := #[.val (.int p0), .val (.ref r1), .val (.int (0 : Int32)), .val (.int (4 : Int32)), .val (.int ((((((p0.toUInt32 >>> ((6 : Int32) &&& 31).toUInt32).toInt32).toUInt32 >>> ((6 : Int32) &&& 31).toUInt32).toInt32).toUInt32 >>> ((6 : Int32) &&& 31).toUInt32).toInt32)), .val (.int (0 : Int32))]) rfl ?_
    refine XS.goto X8.here hx rfl (pc0 := 56) (pc' := 25) rfl (hb hby d2_56) (by decide) (by decide) ?_
    refine XS.iload X8.here hx rfl (hb hby d2_25) rfl ?_
    refine XS.ifYes X8.here hx rfl (pc0 := 27) (pc' := 59) rfl (hb hby d2_27) rfl ((if0 _ _).trans (flt (by decide : ¬ ((0 : Int32) < (0 : Int32)))).2.2.2) (by decide) (by decide) ?_
    refine XS.aloadN X8.here hx rfl (hb hby d2_59) rfl rfl ?_
    refine XS.iloadN X8.here hx rfl (hb hby d2_60) rfl ?_
    refine X8.ldcInt hx hown (mvT hZ (hw _ (List.mem_of_getElem? (i := 21) rfl))) (g := (mkF m 61 #[.val (.int p0), .val (.ref r1), .val (.int (0 : Int32)), .val (.int (4 : Int32)), .val (.int ((((((p0.toUInt32 >>> ((6 : Int32) &&& 31).toUInt32).toInt32).toUInt32 >>> ((6 : Int32) &&& 31).toUInt32).toInt32).toUInt32 >>> ((6 : Int32) &&& 31).toUInt32).toInt32)), .val (.int (0 : Int32))] [(.int (0 : Int32)), (.ref r1)])) rfl (hb hby d2_61) _ ?_
    refine XS.iloadN X8.here hx rfl (hb hby d2_63) rfl ?_
    show Steps p.tables e below (T8.setTop (mkF m 64 #[.val (.int p0), .val (.ref r1), .val (.int (0 : Int32)), .val (.int (4 : Int32)), .val (.int ((((((p0.toUInt32 >>> ((6 : Int32) &&& 31).toUInt32).toInt32).toUInt32 >>> ((6 : Int32) &&& 31).toUInt32).toInt32).toUInt32 >>> ((6 : Int32) &&& 31).toUInt32).toInt32)), .val (.int (0 : Int32))] [(.int (4 : Int32)), (.int (65280 : Int32)), (.int (0 : Int32)), (.ref r1)])) _
    refine XS.ishr X8.here hx rfl (hb hby d2_64) rfl ?_
    refine XS.iload X8.here hx rfl (hb hby d2_65) rfl ?_
    refine XS.ior X8.here hx rfl (hb hby d2_67) rfl ?_
    refine XS.i2b X8.here hx rfl (hb hby d2_68) rfl ?_
    exact kt
  obtain ⟨cl10, Ar10, qc10, Sz10, Mn10, Hs10, Gs10⟩ := id V_r1_8
  have hin10 : ¬ ((0 : Int32) < 0 ∨ cl10.slots.size ≤ ((0 : Int32)).toNatClampNeg) := inb_of Sz10 ⟨by decide, by decide⟩
  obtain ⟨T10, h10, X10, e10, W10, st10⟩ := stB X8 hx hZ e8 Ar10 (j := (0 : Int32)) hin10 (g := (mkF m 69 #[.val (.int p0), .val (.ref r1), .val (.int (0 : Int32)), .val (.int (4 : Int32)), .val (.int ((((((p0.toUInt32 >>> ((6 : Int32) &&& 31).toUInt32).toInt32).toUInt32 >>> ((6 : Int32) &&& 31).toUInt32).toInt32).toUInt32 >>> ((6 : Int32) &&& 31).toUInt32).toInt32)), .val (.int (0 : Int32))] [(.int ((((65280 : Int32) >>> ((4 : Int32) &&& 31)) ||| ((((((p0.toUInt32 >>> ((6 : Int32) &&& 31).toUInt32).toInt32).toUInt32 >>> ((6 : Int32) &&& 31).toUInt32).toInt32).toUInt32 >>> ((6 : Int32) &&& 31).toUInt32).toInt32)).toInt8.toInt32)), (.int (0 : Int32)), (.ref r1)])) rfl rfl (hb hby d2_69)
  have V_r1_10 : Arv Z h10 r1 kk .byte (4 : Int32) [(.int (nar .byte ((((65280 : Int32) >>> ((4 : Int32) &&& 31)) ||| ((((((p0.toUInt32 >>> ((6 : Int32) &&& 31).toUInt32).toInt32).toUInt32 >>> ((6 : Int32) &&& 31).toUInt32).toInt32).toUInt32 >>> ((6 : Int32) &&& 31).toUInt32).toInt32)).toInt8.toInt32))), (.int (nar .byte (((128 : Int32) ||| (((((p0.toUInt32 >>> ((6 : Int32) &&& 31).toUInt32).toInt32).toUInt32 >>> ((6 : Int32) &&& 31).toUInt32).toInt32) &&& (63 : Int32))).toInt8.toInt32))), (.int (nar .byte (((128 : Int32) ||| (((p0.toUInt32 >>> ((6 : Int32) &&& 31).toUInt32).toInt32) &&& (63 : Int32))).toInt8.toInt32))), (.int (nar .byte (((128 : Int32) ||| (p0 &&& (63 : Int32))).toInt8.toInt32)))] (.int (0 : Int32)) := Arv.set Ar10 qc10 Sz10 Mn10 Hs10 Gs10 (fits_nar_byte _) W10 0 rfl (Nat.le_of_ble_eq_true rfl)
  have Z_10 : n0 ≤ h10.size := Nat.le_trans Z_8 (Keep.of_wr W10).1
  have Kp_10 : Keep h0 h10 [r1] := Kp_8.wr W10 (Or.inl (List.mem_of_getElem? (i := 0) rfl))
  have N10 := Fr.snoc X10 N8 g_r1
  obtain ⟨fs, hr, hrun, hended, hW, hsame⟩ := X10.leave (v := some (.int (4 : Int32))) (fun h => by rw [Bd.returns] at h; cases h)
  refine ⟨_, _, pre0 _ (st1 _ (st2 _ (st3 _ (st4 _ (st5 _ (st6 _ (st7 _ (st8 _ (st9 _ (st10 _ ?_)))))))))), hrun, hended, _, _, rfl, ?_, ⟨_, rfl⟩, hW, hsame.mono (by decide) (by decide)⟩
  · refine XS.iloadN X10.here hx rfl (hb hby d2_70) rfl ?_
    show Steps p.tables e below (T10.setTop (mkF m 71 #[.val (.int p0), .val (.ref r1), .val (.int (0 : Int32)), .val (.int (4 : Int32)), .val (.int ((((((p0.toUInt32 >>> ((6 : Int32) &&& 31).toUInt32).toInt32).toUInt32 >>> ((6 : Int32) &&& 31).toUInt32).toInt32).toUInt32 >>> ((6 : Int32) &&& 31).toUInt32).toInt32)), .val (.int (0 : Int32))] [(.int (4 : Int32))])) _
    exact retI X10 hx Bd.returns (hb hby d2_71) hr
  · show Q_rmW4 Z p0 r1 kk h0 n0 _ T10.heap _
    rw [e10]
    exact ⟨rfl, N10, Kp_10, V_r1_10⟩
theorem d3_0 : decode prog_39_method_3_code 0 = .ok (.aload_n 0, 1) := by decide +kernel
theorem d3_1 : decode prog_39_method_3_code 1 = .ok (.iload_n 1, 1) := by decide +kernel
theorem d3_2 : decode prog_39_method_3_code 2 = .ok (.baload, 1) := by decide +kernel
theorem d3_3 : decode prog_39_method_3_code 3 = .ok (.sipush 255, 3) := by decide +kernel
theorem d3_6 : decode prog_39_method_3_code 6 = .ok (.iand, 1) := by decide +kernel
theorem d3_7 : decode prog_39_method_3_code 7 = .ok (.istore_n 3, 1) := by decide +kernel
theorem d3_8 : decode prog_39_method_3_code 8 = .ok (.getstatic 7, 3) := by decide +kernel
theorem d3_11 : decode prog_39_method_3_code 11 = .ok (.iload_n 3, 1) := by decide +kernel
theorem d3_12 : decode prog_39_method_3_code 12 = .ok (.baload, 1) := by decide +kernel
theorem d3_13 : decode prog_39_method_3_code 13 = .ok (.istore 4, 2) := by decide +kernel
theorem d3_15 : decode prog_39_method_3_code 15 = .ok (.iload 4, 2) := by decide +kernel
theorem d3_17 : decode prog_39_method_3_code 17 = .ok (.iconst 1, 1) := by decide +kernel
theorem d3_18 : decode prog_39_method_3_code 18 = .ok (.if_icmp .ne 5, 3) := by decide +kernel
theorem d3_21 : decode prog_39_method_3_code 21 = .ok (.iconst 1, 1) := by decide +kernel
theorem d3_22 : decode prog_39_method_3_code 22 = .ok (.ireturn, 1) := by decide +kernel
theorem d3_23 : decode prog_39_method_3_code 23 = .ok (.iload 4, 2) := by decide +kernel
theorem d3_25 : decode prog_39_method_3_code 25 = .ok (.ifCond .eq 10, 3) := by decide +kernel
theorem d3_28 : decode prog_39_method_3_code 28 = .ok (.iload_n 1, 1) := by decide +kernel
theorem d3_29 : decode prog_39_method_3_code 29 = .ok (.iconst 1, 1) := by decide +kernel
theorem d3_30 : decode prog_39_method_3_code 30 = .ok (.iadd, 1) := by decide +kernel
theorem d3_31 : decode prog_39_method_3_code 31 = .ok (.iload_n 2, 1) := by decide +kernel
theorem d3_32 : decode prog_39_method_3_code 32 = .ok (.if_icmp .lt 5, 3) := by decide +kernel
theorem d3_35 : decode prog_39_method_3_code 35 = .ok (.iconst (-1), 1) := by decide +kernel
theorem d3_36 : decode prog_39_method_3_code 36 = .ok (.ireturn, 1) := by decide +kernel
theorem d3_37 : decode prog_39_method_3_code 37 = .ok (.aload_n 0, 1) := by decide +kernel
theorem d3_38 : decode prog_39_method_3_code 38 = .ok (.iload_n 1, 1) := by decide +kernel
theorem d3_39 : decode prog_39_method_3_code 39 = .ok (.iconst 1, 1) := by decide +kernel
theorem d3_40 : decode prog_39_method_3_code 40 = .ok (.iadd, 1) := by decide +kernel
theorem d3_41 : decode prog_39_method_3_code 41 = .ok (.baload, 1) := by decide +kernel
theorem d3_42 : decode prog_39_method_3_code 42 = .ok (.sipush 255, 3) := by decide +kernel
theorem d3_45 : decode prog_39_method_3_code 45 = .ok (.iand, 1) := by decide +kernel
theorem d3_46 : decode prog_39_method_3_code 46 = .ok (.istore 5, 2) := by decide +kernel
theorem d3_48 : decode prog_39_method_3_code 48 = .ok (.iload 5, 2) := by decide +kernel
theorem d3_50 : decode prog_39_method_3_code 50 = .ok (.getstatic 13, 3) := by decide +kernel
theorem d3_53 : decode prog_39_method_3_code 53 = .ok (.iload_n 3, 1) := by decide +kernel
theorem d3_54 : decode prog_39_method_3_code 54 = .ok (.iaload, 1) := by decide +kernel
theorem d3_55 : decode prog_39_method_3_code 55 = .ok (.if_icmp .lt 13, 3) := by decide +kernel
theorem d3_58 : decode prog_39_method_3_code 58 = .ok (.iload 5, 2) := by decide +kernel
theorem d3_60 : decode prog_39_method_3_code 60 = .ok (.getstatic 17, 3) := by decide +kernel
theorem d3_63 : decode prog_39_method_3_code 63 = .ok (.iload_n 3, 1) := by decide +kernel
theorem d3_64 : decode prog_39_method_3_code 64 = .ok (.iaload, 1) := by decide +kernel
theorem d3_65 : decode prog_39_method_3_code 65 = .ok (.if_icmp .le 5, 3) := by decide +kernel
theorem d3_68 : decode prog_39_method_3_code 68 = .ok (.iconst (-1), 1) := by decide +kernel
theorem d3_69 : decode prog_39_method_3_code 69 = .ok (.ireturn, 1) := by decide +kernel
theorem d3_70 : decode prog_39_method_3_code 70 = .ok (.iload 4, 2) := by decide +kernel
theorem d3_72 : decode prog_39_method_3_code 72 = .ok (.iconst 2, 1) := by decide +kernel
theorem d3_73 : decode prog_39_method_3_code 73 = .ok (.if_icmp .ne 5, 3) := by decide +kernel
theorem d3_76 : decode prog_39_method_3_code 76 = .ok (.iconst 2, 1) := by decide +kernel
theorem d3_77 : decode prog_39_method_3_code 77 = .ok (.ireturn, 1) := by decide +kernel
theorem d3_78 : decode prog_39_method_3_code 78 = .ok (.iload_n 1, 1) := by decide +kernel
theorem d3_79 : decode prog_39_method_3_code 79 = .ok (.iconst 2, 1) := by decide +kernel
theorem d3_80 : decode prog_39_method_3_code 80 = .ok (.iadd, 1) := by decide +kernel
theorem d3_81 : decode prog_39_method_3_code 81 = .ok (.iload_n 2, 1) := by decide +kernel
theorem d3_82 : decode prog_39_method_3_code 82 = .ok (.if_icmp .ge 18, 3) := by decide +kernel
theorem d3_85 : decode prog_39_method_3_code 85 = .ok (.aload_n 0, 1) := by decide +kernel
theorem d3_86 : decode prog_39_method_3_code 86 = .ok (.iload_n 1, 1) := by decide +kernel
theorem d3_87 : decode prog_39_method_3_code 87 = .ok (.iconst 2, 1) := by decide +kernel
theorem d3_88 : decode prog_39_method_3_code 88 = .ok (.iadd, 1) := by decide +kernel
theorem d3_89 : decode prog_39_method_3_code 89 = .ok (.baload, 1) := by decide +kernel
theorem d3_90 : decode prog_39_method_3_code 90 = .ok (.sipush 255, 3) := by decide +kernel
theorem d3_93 : decode prog_39_method_3_code 93 = .ok (.iand, 1) := by decide +kernel
theorem d3_94 : decode prog_39_method_3_code 94 = .ok (.invokestatic 20, 3) := by decide +kernel
theorem d3_97 : decode prog_39_method_3_code 97 = .ok (.ifCond .ne 6, 3) := by decide +kernel
theorem d3_100 : decode prog_39_method_3_code 100 = .ok (.bipush (-2), 2) := by decide +kernel
theorem d3_102 : decode prog_39_method_3_code 102 = .ok (.ireturn, 1) := by decide +kernel
theorem d3_103 : decode prog_39_method_3_code 103 = .ok (.iload 4, 2) := by decide +kernel
theorem d3_105 : decode prog_39_method_3_code 105 = .ok (.iconst 3, 1) := by decide +kernel
theorem d3_106 : decode prog_39_method_3_code 106 = .ok (.if_icmp .ne 5, 3) := by decide +kernel
theorem d3_109 : decode prog_39_method_3_code 109 = .ok (.iconst 3, 1) := by decide +kernel
theorem d3_110 : decode prog_39_method_3_code 110 = .ok (.ireturn, 1) := by decide +kernel
theorem d3_111 : decode prog_39_method_3_code 111 = .ok (.iload_n 1, 1) := by decide +kernel
theorem d3_112 : decode prog_39_method_3_code 112 = .ok (.iconst 3, 1) := by decide +kernel
theorem d3_113 : decode prog_39_method_3_code 113 = .ok (.iadd, 1) := by decide +kernel
theorem d3_114 : decode prog_39_method_3_code 114 = .ok (.iload_n 2, 1) := by decide +kernel
theorem d3_115 : decode prog_39_method_3_code 115 = .ok (.if_icmp .ge 18, 3) := by decide +kernel
theorem d3_118 : decode prog_39_method_3_code 118 = .ok (.aload_n 0, 1) := by decide +kernel
theorem d3_119 : decode prog_39_method_3_code 119 = .ok (.iload_n 1, 1) := by decide +kernel
theorem d3_120 : decode prog_39_method_3_code 120 = .ok (.iconst 3, 1) := by decide +kernel
theorem d3_121 : decode prog_39_method_3_code 121 = .ok (.iadd, 1) := by decide +kernel
theorem d3_122 : decode prog_39_method_3_code 122 = .ok (.baload, 1) := by decide +kernel
theorem d3_123 : decode prog_39_method_3_code 123 = .ok (.sipush 255, 3) := by decide +kernel
theorem d3_126 : decode prog_39_method_3_code 126 = .ok (.iand, 1) := by decide +kernel
theorem d3_127 : decode prog_39_method_3_code 127 = .ok (.invokestatic 20, 3) := by decide +kernel
theorem d3_130 : decode prog_39_method_3_code 130 = .ok (.ifCond .ne 6, 3) := by decide +kernel
theorem d3_133 : decode prog_39_method_3_code 133 = .ok (.bipush (-3), 2) := by decide +kernel
theorem d3_135 : decode prog_39_method_3_code 135 = .ok (.ireturn, 1) := by decide +kernel
theorem d3_136 : decode prog_39_method_3_code 136 = .ok (.iconst 4, 1) := by decide +kernel
theorem d3_137 : decode prog_39_method_3_code 137 = .ok (.ireturn, 1) := by decide +kernel
theorem ef_rmN1 (m : MethodId) (x0 : Addr) (x1 : Int32) (x2 : Int32) : entryFrame m #[(.ref x0), (.int x1), (.int x2)] 6 = mkF m 0 #[.val (.ref x0), .val (.int x1), .val (.int x2), .unset, .unset, .unset] [] := by first | (simp [entryFrame, mkF, argsToLocals, Value.category]; done) | rfl
def Q_rmN1 (Z : State) (r0 : Addr) (kk : ClassId) (w0 : Int32) (w1 : Int32) (w2 : Int32) (w3 : Int32) (cL : Cell) (aL : Addr) (h0 : Heap) (n0 : Nat) (v : Option Value) (h : Heap) (L : List Loc) : Prop := v = some (.int (1 : Int32)) ∧ Fr n0 L ∧ h = h0
set_option maxRecDepth 65536 in
set_option maxHeartbeats 40000000 in
theorem rmN1 (l : Launch) (Z : State) (a0 : Array Value) (hw : ∀ d ∈ tables_1, d.before a0 Z = true) (ws : List Jvm.Cond) (r0 : Addr) (kk : ClassId) (w0 : Int32) (w1 : Int32) (w2 : Int32) (w3 : Int32) (cL : Cell) (aL : Addr) (h0 : Heap) (n0 : Nat) (Z0 : n0 ≤ h0.size) (Vb : Arv Z h0 r0 kk .byte (4 : Int32) [(.int w0), (.int w1), (.int w2), (.int w3)] (.int (0 : Int32))) (S_cL : Sta Z h0 "com/example/murray_hill/murrayhill/WellFormed" "LENGTH" "[B" (.ref aL)) (A_cL : Arr Z h0 aL cL .byte) (i_cL : ¬ ((w0 &&& (255 : Int32)) < 0 ∨ cL.slots.size ≤ (w0 &&& (255 : Int32)).toNatClampNeg)) (t_cL : cL.slots[(w0 &&& (255 : Int32)).toNatClampNeg]? = some (.int (1 : Int32))) :
    MetFree l (⟨"com/example/murray_hill/murrayhill/WellFormed", "next", "([BII)I"⟩ : MethodName) (head1 (Jvm.Cond.code (⟨"com/example/murray_hill/murrayhill/WellFormed", "next", "([BII)I"⟩ : MethodName) prog_39_method_3_code 6 (some .int) :: ws) ({ frames := 0, cells := 0, slots := 0, locals := 0 } : Room)) (fun a U => a = #[(.ref r0), (.int (0 : Int32)), (.int (4 : Int32))] ∧ Z.Warmed39 U.vm ∧ U.heap = h0) (fun _ _ _ _ _ => True) (fun _ U o U' => ∃ v L, o = .returned v ∧ Q_rmN1 Z r0 kk w0 w1 w2 w3 cL aL h0 n0 v U'.heap L ∧ FrameEnd U o U' L ({ frames := 0, cells := 0, slots := 0, locals := 0 } : Room).cells ({ frames := 0, cells := 0, slots := 0, locals := 0 } : Room).slots) := by
  refine MetFree.of_bodySF (plainFor_of_name pn_0) hisR ?_
  intro p e s m args below meth c s₁ Bd hml0 hP hK
  obtain ⟨rfl, hZ, hh⟩ := hP
  have hx := Bd.exec
  have hby := Bd.bytes
  have hml : c.maxLocals = 6 := hml0
  have hown : s.vm.findClass "com/example/murray_hill/murrayhill/WellFormed" = some m.cls := findClass_of_methodNamed Bd.named
  have hnm := (name_of_methodNamed Bd.named Bd.method).1
  have X0 : Stand p l e ({ frames := 0, cells := 0, slots := 0, locals := 0 } : Room) s m #[(.ref r0), (.int (0 : Int32)), (.int (4 : Int32))] below meth c s₁ [] 0 0 := Stand.of_body Bd
  have e0 : s₁.heap = h0 := by rw [← hh, Bd.state]; rfl
  have N0 := Fr.nil n0
  have pre0 : ∀ t, Steps p.tables e below (s₁.setTop (mkF m 0 #[.val (.ref r0), .val (.int (0 : Int32)), .val (.int (4 : Int32)), .unset, .unset, .unset] [])) t → Steps p.tables e below (s₁.setTop (entryFrame m #[(.ref r0), (.int (0 : Int32)), (.int (4 : Int32))] 6)) t := fun t k => castTop (ef_rmN1 m r0 (0 : Int32) (4 : Int32)) k
  have st1 : ∀ target, Steps p.tables e below (s₁.setTop (mkF m 2 #[.val (.ref r0), .val (.int (0 : Int32)), .val (.int (4 : Int32)), .unset, .unset, .unset] [(.int (0 : Int32)), (.ref r0)])) target → Steps p.tables e below (s₁.setTop (mkF m 0 #[.val (.ref r0), .val (.int (0 : Int32)), .val (.int (4 : Int32)), .unset, .unset, .unset] [])) target := by
    intro target kt
    refine XS.aloadN X0.here hx rfl (hb hby d3_0) rfl rfl ?_
    refine XS.iloadN X0.here hx rfl (hb hby d3_1) rfl ?_
    exact kt
  obtain ⟨cl2, Ar2, qc2, Sz2, Mn2, Hs2, Gs2⟩ := id Vb
  have hin2 : ¬ ((0 : Int32) < 0 ∨ cl2.slots.size ≤ ((0 : Int32)).toNatClampNeg) := inb_of Sz2 ⟨by decide, by decide⟩
  have hat2 : cl2.slots[((0 : Int32)).toNatClampNeg]? = some (.int w0) := Hs2.at hin2 rfl
  have st2 : ∀ target, Steps p.tables e below (s₁.setTop (mkF m 3 #[.val (.ref r0), .val (.int (0 : Int32)), .val (.int (4 : Int32)), .unset, .unset, .unset] [(.int w0)])) target → Steps p.tables e below (s₁.setTop (mkF m 2 #[.val (.ref r0), .val (.int (0 : Int32)), .val (.int (4 : Int32)), .unset, .unset, .unset] [(.int (0 : Int32)), (.ref r0)])) target := fun target kt => X0.baloadBytes hx (j := (0 : Int32)) (v := (.int w0)) (by rw [e0]; exact Ar2.1) (State.isArrayOf_alike hZ.alike Ar2.2.1) Ar2.2.2 hin2 hat2 (g := (mkF m 2 #[.val (.ref r0), .val (.int (0 : Int32)), .val (.int (4 : Int32)), .unset, .unset, .unset] [(.int (0 : Int32)), (.ref r0)])) rfl rfl (hb hby d3_2) _ kt
  have st3 : ∀ target, Steps p.tables e below (s₁.setTop (mkF m 8 #[.val (.ref r0), .val (.int (0 : Int32)), .val (.int (4 : Int32)), .val (.int (w0 &&& (255 : Int32))), .unset, .unset] [])) target → Steps p.tables e below (s₁.setTop (mkF m 3 #[.val (.ref r0), .val (.int (0 : Int32)), .val (.int (4 : Int32)), .unset, .unset, .unset] [(.int w0)])) target := by
    intro target kt
    refine XS.sipush X0.here hx rfl (hb hby d3_3) ?_
    refine XS.iand X0.here hx rfl (hb hby d3_6) rfl ?_
    refine XS.istoreN X0.here hx rfl (hb hby d3_7) rfl (l' := #[.val (.ref r0), .val (.int (0 : Int32)), .val (.int (4 : Int32)), .val (.int (w0 &&& (255 : Int32))), .unset, .unset]) rfl ?_
    exact kt
  obtain ⟨T4, X4, e4, st4⟩ := getS2 X0 hx hZ hown (host := "") (Or.inl (hw _ (List.mem_of_getElem? (i := 15) rfl))) Via.refl e0 S_cL (g := (mkF m 8 #[.val (.ref r0), .val (.int (0 : Int32)), .val (.int (4 : Int32)), .val (.int (w0 &&& (255 : Int32))), .unset, .unset] [])) rfl (hb hby d3_8)
  have st5 : ∀ target, Steps p.tables e below (T4.setTop (mkF m 12 #[.val (.ref r0), .val (.int (0 : Int32)), .val (.int (4 : Int32)), .val (.int (w0 &&& (255 : Int32))), .unset, .unset] [(.int (w0 &&& (255 : Int32))), (.ref aL)])) target → Steps p.tables e below (T4.setTop (mkF m 11 #[.val (.ref r0), .val (.int (0 : Int32)), .val (.int (4 : Int32)), .val (.int (w0 &&& (255 : Int32))), .unset, .unset] [(.ref aL)])) target := by
    intro target kt
    refine XS.iloadN X4.here hx rfl (hb hby d3_11) rfl ?_
    exact kt
  have st6 : ∀ target, Steps p.tables e below (T4.setTop (mkF m 13 #[.val (.ref r0), .val (.int (0 : Int32)), .val (.int (4 : Int32)), .val (.int (w0 &&& (255 : Int32))), .unset, .unset] [(.int (1 : Int32))])) target → Steps p.tables e below (T4.setTop (mkF m 12 #[.val (.ref r0), .val (.int (0 : Int32)), .val (.int (4 : Int32)), .val (.int (w0 &&& (255 : Int32))), .unset, .unset] [(.int (w0 &&& (255 : Int32))), (.ref aL)])) target := fun target kt => X4.baloadBytes hx (j := (w0 &&& (255 : Int32))) (v := (.int (1 : Int32))) (by rw [e4]; exact A_cL.1) (State.isArrayOf_alike hZ.alike A_cL.2.1) A_cL.2.2 i_cL t_cL (g := (mkF m 12 #[.val (.ref r0), .val (.int (0 : Int32)), .val (.int (4 : Int32)), .val (.int (w0 &&& (255 : Int32))), .unset, .unset] [(.int (w0 &&& (255 : Int32))), (.ref aL)])) rfl rfl (hb hby d3_12) _ kt
  have st7 : ∀ target, Steps p.tables e below (T4.setTop (mkF m 22 #[.val (.ref r0), .val (.int (0 : Int32)), .val (.int (4 : Int32)), .val (.int (w0 &&& (255 : Int32))), .val (.int (1 : Int32)), .unset] [(.int (1 : Int32))])) target → Steps p.tables e below (T4.setTop (mkF m 13 #[.val (.ref r0), .val (.int (0 : Int32)), .val (.int (4 : Int32)), .val (.int (w0 &&& (255 : Int32))), .unset, .unset] [(.int (1 : Int32))])) target := by
    intro target kt
    refine XS.istore X4.here hx rfl (hb hby d3_13) rfl (l' := #[.val (.ref r0), .val (.int (0 : Int32)), .val (.int (4 : Int32)), .val (.int (w0 &&& (255 : Int32))), .val (.int (1 : Int32)), .unset]) rfl ?_
    show Steps p.tables e below (T4.setTop (mkF m 15 #[.val (.ref r0), .val (.int (0 : Int32)), .val (.int (4 : Int32)), .val (.int (w0 &&& (255 : Int32))), .val (.int (1 : Int32)), .unset] [])) _
    refine XS.iload X4.here hx rfl (hb hby d3_15) rfl ?_
    refine XS.iconst X4.here hx rfl (hb hby d3_17) ?_
    refine XS.icmpNo X4.here hx rfl (hb hby d3_18) rfl (teq (rfl : (1 : Int32) = (1 : Int32))).2 ?_
    refine XS.iconst X4.here hx rfl (hb hby d3_21) ?_
    exact kt
  obtain ⟨fs, hr, hrun, hended, hW, hsame⟩ := X4.leave (v := some (.int (1 : Int32))) (fun h => by rw [Bd.returns] at h; cases h)
  refine ⟨_, _, pre0 _ (st1 _ (st2 _ (st3 _ (st4 _ (st5 _ (st6 _ (st7 _ ?_))))))), hrun, hended, _, _, rfl, ?_, ⟨_, rfl⟩, hW, hsame.mono (by decide) (by decide)⟩
  · show Steps p.tables e below (T4.setTop (mkF m 22 #[.val (.ref r0), .val (.int (0 : Int32)), .val (.int (4 : Int32)), .val (.int (w0 &&& (255 : Int32))), .val (.int (1 : Int32)), .unset] [(.int (1 : Int32))])) _
    exact retI X4 hx Bd.returns (hb hby d3_22) hr
  · show Q_rmN1 Z r0 kk w0 w1 w2 w3 cL aL h0 n0 _ T4.heap _
    rw [e4]
    exact ⟨rfl, N0, rfl⟩
theorem ef_rmN2 (m : MethodId) (x0 : Addr) (x1 : Int32) (x2 : Int32) : entryFrame m #[(.ref x0), (.int x1), (.int x2)] 6 = mkF m 0 #[.val (.ref x0), .val (.int x1), .val (.int x2), .unset, .unset, .unset] [] := by first | (simp [entryFrame, mkF, argsToLocals, Value.category]; done) | rfl
def Q_rmN2 (Z : State) (r0 : Addr) (kk : ClassId) (w0 : Int32) (w1 : Int32) (w2 : Int32) (w3 : Int32) (cL : Cell) (aL : Addr) (cO : Cell) (aO : Addr) (cH : Cell) (aH : Addr) (lo : Int32) (hi : Int32) (h0 : Heap) (n0 : Nat) (v : Option Value) (h : Heap) (L : List Loc) : Prop := v = some (.int (2 : Int32)) ∧ Fr n0 L ∧ h = h0
set_option maxRecDepth 65536 in
set_option maxHeartbeats 40000000 in
theorem rmN2 (l : Launch) (Z : State) (a0 : Array Value) (hw : ∀ d ∈ tables_1, d.before a0 Z = true) (ws : List Jvm.Cond) (r0 : Addr) (kk : ClassId) (w0 : Int32) (w1 : Int32) (w2 : Int32) (w3 : Int32) (cL : Cell) (aL : Addr) (cO : Cell) (aO : Addr) (cH : Cell) (aH : Addr) (lo : Int32) (hi : Int32) (h0 : Heap) (n0 : Nat) (Z0 : n0 ≤ h0.size) (Vb : Arv Z h0 r0 kk .byte (4 : Int32) [(.int w0), (.int w1), (.int w2), (.int w3)] (.int (0 : Int32))) (S_cL : Sta Z h0 "com/example/murray_hill/murrayhill/WellFormed" "LENGTH" "[B" (.ref aL)) (A_cL : Arr Z h0 aL cL .byte) (i_cL : ¬ ((w0 &&& (255 : Int32)) < 0 ∨ cL.slots.size ≤ (w0 &&& (255 : Int32)).toNatClampNeg)) (S_cO : Sta Z h0 "com/example/murray_hill/murrayhill/WellFormed" "SECOND_LOW" "[I" (.ref aO)) (A_cO : Arr Z h0 aO cO .int) (i_cO : ¬ ((w0 &&& (255 : Int32)) < 0 ∨ cO.slots.size ≤ (w0 &&& (255 : Int32)).toNatClampNeg)) (S_cH : Sta Z h0 "com/example/murray_hill/murrayhill/WellFormed" "SECOND_HIGH" "[I" (.ref aH)) (A_cH : Arr Z h0 aH cH .int) (i_cH : ¬ ((w0 &&& (255 : Int32)) < 0 ∨ cH.slots.size ≤ (w0 &&& (255 : Int32)).toNatClampNeg)) (t_cL : cL.slots[(w0 &&& (255 : Int32)).toNatClampNeg]? = some (.int (2 : Int32))) (t_cO : cO.slots[(w0 &&& (255 : Int32)).toNatClampNeg]? = some (.int lo)) (t_cH : cH.slots[(w0 &&& (255 : Int32)).toNatClampNeg]? = some (.int hi)) (hlo : ¬ (w1 &&& (255 : Int32)) < lo) (hhi : ¬ hi < (w1 &&& (255 : Int32))) :
    MetFree l (⟨"com/example/murray_hill/murrayhill/WellFormed", "next", "([BII)I"⟩ : MethodName) (head1 (Jvm.Cond.code (⟨"com/example/murray_hill/murrayhill/WellFormed", "next", "([BII)I"⟩ : MethodName) prog_39_method_3_code 6 (some .int) :: ws) ({ frames := 0, cells := 0, slots := 0, locals := 0 } : Room)) (fun a U => a = #[(.ref r0), (.int (0 : Int32)), (.int (4 : Int32))] ∧ Z.Warmed39 U.vm ∧ U.heap = h0) (fun _ _ _ _ _ => True) (fun _ U o U' => ∃ v L, o = .returned v ∧ Q_rmN2 Z r0 kk w0 w1 w2 w3 cL aL cO aO cH aH lo hi h0 n0 v U'.heap L ∧ FrameEnd U o U' L ({ frames := 0, cells := 0, slots := 0, locals := 0 } : Room).cells ({ frames := 0, cells := 0, slots := 0, locals := 0 } : Room).slots) := by
  refine MetFree.of_bodySF (plainFor_of_name pn_0) hisR ?_
  intro p e s m args below meth c s₁ Bd hml0 hP hK
  obtain ⟨rfl, hZ, hh⟩ := hP
  have hx := Bd.exec
  have hby := Bd.bytes
  have hml : c.maxLocals = 6 := hml0
  have hown : s.vm.findClass "com/example/murray_hill/murrayhill/WellFormed" = some m.cls := findClass_of_methodNamed Bd.named
  have hnm := (name_of_methodNamed Bd.named Bd.method).1
  have X0 : Stand p l e ({ frames := 0, cells := 0, slots := 0, locals := 0 } : Room) s m #[(.ref r0), (.int (0 : Int32)), (.int (4 : Int32))] below meth c s₁ [] 0 0 := Stand.of_body Bd
  have e0 : s₁.heap = h0 := by rw [← hh, Bd.state]; rfl
  have N0 := Fr.nil n0
  have pre0 : ∀ t, Steps p.tables e below (s₁.setTop (mkF m 0 #[.val (.ref r0), .val (.int (0 : Int32)), .val (.int (4 : Int32)), .unset, .unset, .unset] [])) t → Steps p.tables e below (s₁.setTop (entryFrame m #[(.ref r0), (.int (0 : Int32)), (.int (4 : Int32))] 6)) t := fun t k => castTop (ef_rmN2 m r0 (0 : Int32) (4 : Int32)) k
  have st1 : ∀ target, Steps p.tables e below (s₁.setTop (mkF m 2 #[.val (.ref r0), .val (.int (0 : Int32)), .val (.int (4 : Int32)), .unset, .unset, .unset] [(.int (0 : Int32)), (.ref r0)])) target → Steps p.tables e below (s₁.setTop (mkF m 0 #[.val (.ref r0), .val (.int (0 : Int32)), .val (.int (4 : Int32)), .unset, .unset, .unset] [])) target := by
    intro target kt
    refine XS.aloadN X0.here hx rfl (hb hby d3_0) rfl rfl ?_
    refine XS.iloadN X0.here hx rfl (hb hby d3_1) rfl ?_
    exact kt
  obtain ⟨cl2, Ar2, qc2, Sz2, Mn2, Hs2, Gs2⟩ := id Vb
  have hin2 : ¬ ((0 : Int32) < 0 ∨ cl2.slots.size ≤ ((0 : Int32)).toNatClampNeg) := inb_of Sz2 ⟨by decide, by decide⟩
  have hat2 : cl2.slots[((0 : Int32)).toNatClampNeg]? = some (.int w0) := Hs2.at hin2 rfl
  have st2 : ∀ target, Steps p.tables e below (s₁.setTop (mkF m 3 #[.val (.ref r0), .val (.int (0 : Int32)), .val (.int (4 : Int32)), .unset, .unset, .unset] [(.int w0)])) target → Steps p.tables e below (s₁.setTop (mkF m 2 #[.val (.ref r0), .val (.int (0 : Int32)), .val (.int (4 : Int32)), .unset, .unset, .unset] [(.int (0 : Int32)), (.ref r0)])) target := fun target kt => X0.baloadBytes hx (j := (0 : Int32)) (v := (.int w0)) (by rw [e0]; exact Ar2.1) (State.isArrayOf_alike hZ.alike Ar2.2.1) Ar2.2.2 hin2 hat2 (g := (mkF m 2 #[.val (.ref r0), .val (.int (0 : Int32)), .val (.int (4 : Int32)), .unset, .unset, .unset] [(.int (0 : Int32)), (.ref r0)])) rfl rfl (hb hby d3_2) _ kt
  have st3 : ∀ target, Steps p.tables e below (s₁.setTop (mkF m 8 #[.val (.ref r0), .val (.int (0 : Int32)), .val (.int (4 : Int32)), .val (.int (w0 &&& (255 : Int32))), .unset, .unset] [])) target → Steps p.tables e below (s₁.setTop (mkF m 3 #[.val (.ref r0), .val (.int (0 : Int32)), .val (.int (4 : Int32)), .unset, .unset, .unset] [(.int w0)])) target := by
    intro target kt
    refine XS.sipush X0.here hx rfl (hb hby d3_3) ?_
    refine XS.iand X0.here hx rfl (hb hby d3_6) rfl ?_
    refine XS.istoreN X0.here hx rfl (hb hby d3_7) rfl (l' := #[.val (.ref r0), .val (.int (0 : Int32)), .val (.int (4 : Int32)), .val (.int (w0 &&& (255 : Int32))), .unset, .unset]) rfl ?_
    exact kt
  obtain ⟨T4, X4, e4, st4⟩ := getS2 X0 hx hZ hown (host := "") (Or.inl (hw _ (List.mem_of_getElem? (i := 15) rfl))) Via.refl e0 S_cL (g := (mkF m 8 #[.val (.ref r0), .val (.int (0 : Int32)), .val (.int (4 : Int32)), .val (.int (w0 &&& (255 : Int32))), .unset, .unset] [])) rfl (hb hby d3_8)
  have st5 : ∀ target, Steps p.tables e below (T4.setTop (mkF m 12 #[.val (.ref r0), .val (.int (0 : Int32)), .val (.int (4 : Int32)), .val (.int (w0 &&& (255 : Int32))), .unset, .unset] [(.int (w0 &&& (255 : Int32))), (.ref aL)])) target → Steps p.tables e below (T4.setTop (mkF m 11 #[.val (.ref r0), .val (.int (0 : Int32)), .val (.int (4 : Int32)), .val (.int (w0 &&& (255 : Int32))), .unset, .unset] [(.ref aL)])) target := by
    intro target kt
    refine XS.iloadN X4.here hx rfl (hb hby d3_11) rfl ?_
    exact kt
  have st6 : ∀ target, Steps p.tables e below (T4.setTop (mkF m 13 #[.val (.ref r0), .val (.int (0 : Int32)), .val (.int (4 : Int32)), .val (.int (w0 &&& (255 : Int32))), .unset, .unset] [(.int (2 : Int32))])) target → Steps p.tables e below (T4.setTop (mkF m 12 #[.val (.ref r0), .val (.int (0 : Int32)), .val (.int (4 : Int32)), .val (.int (w0 &&& (255 : Int32))), .unset, .unset] [(.int (w0 &&& (255 : Int32))), (.ref aL)])) target := fun target kt => X4.baloadBytes hx (j := (w0 &&& (255 : Int32))) (v := (.int (2 : Int32))) (by rw [e4]; exact A_cL.1) (State.isArrayOf_alike hZ.alike A_cL.2.1) A_cL.2.2 i_cL t_cL (g := (mkF m 12 #[.val (.ref r0), .val (.int (0 : Int32)), .val (.int (4 : Int32)), .val (.int (w0 &&& (255 : Int32))), .unset, .unset] [(.int (w0 &&& (255 : Int32))), (.ref aL)])) rfl rfl (hb hby d3_12) _ kt
  have st7 : ∀ target, Steps p.tables e below (T4.setTop (mkF m 41 #[.val (.ref r0), .val (.int (0 : Int32)), .val (.int (4 : Int32)), .val (.int (w0 &&& (255 : Int32))), .val (.int (2 : Int32)), .unset] [(.int (1 : Int32)), (.ref r0)])) target → Steps p.tables e below (T4.setTop (mkF m 13 #[.val (.ref r0), .val (.int (0 : Int32)), .val (.int (4 : Int32)), .val (.int (w0 &&& (255 : Int32))), .unset, .unset] [(.int (2 : Int32))])) target := by
    intro target kt
    refine XS.istore X4.here hx rfl (hb hby d3_13) rfl (l' := #[.val (.ref r0), .val (.int (0 : Int32)), .val (.int (4 : Int32)), .val (.int (w0 &&& (255 : Int32))), .val (.int (2 : Int32)), .unset]) rfl ?_
    show Steps p.tables e below (T4.setTop (mkF m 15 #[.val (.ref r0), .val (.int (0 : Int32)), .val (.int (4 : Int32)), .val (.int (w0 &&& (255 : Int32))), .val (.int (2 : Int32)), .unset] [])) _
    refine XS.iload X4.here hx rfl (hb hby d3_15) rfl ?_
    refine XS.iconst X4.here hx rfl (hb hby d3_17) ?_
    refine XS.icmpYes X4.here hx rfl (pc0 := 18) (pc' := 23) rfl (hb hby d3_18) rfl (feq (by decide : ¬ ((2 : Int32) = (1 : Int32)))).2 (by decide) (by decide) ?_
    refine XS.iload X4.here hx rfl (hb hby d3_23) rfl ?_
    refine XS.ifNo X4.here hx rfl (hb hby d3_25) rfl ((if0 _ _).trans (feq (by decide : ¬ ((2 : Int32) = (0 : Int32)))).1) ?_
    refine XS.iloadN X4.here hx rfl (hb hby d3_28) rfl ?_
    refine XS.iconst X4.here hx rfl (hb hby d3_29) ?_
    refine XS.iadd X4.here hx rfl (hb hby d3_30) rfl ?_
    show Steps p.tables e below (T4.setTop (mkF m 31 #[.val (.ref r0), .val (.int (0 : Int32)), .val (.int (4 : Int32)), .val (.int (w0 &&& (255 : Int32))), .val (.int (2 : Int32)), .unset] [(.int (1 : Int32))])) _
    refine XS.iloadN X4.here hx rfl (hb hby d3_31) rfl ?_
    refine XS.icmpYes X4.here hx rfl (pc0 := 32) (pc' := 37) rfl (hb hby d3_32) rfl (tlt (by decide : ((1 : Int32) < (4 : Int32)))).1 (by decide) (by decide) ?_
    refine XS.aloadN X4.here hx rfl (hb hby d3_37) rfl rfl ?_
    refine XS.iloadN X4.here hx rfl (hb hby d3_38) rfl ?_
    refine XS.iconst X4.here hx rfl (hb hby d3_39) ?_
    refine XS.iadd X4.here hx rfl (hb hby d3_40) rfl ?_
    exact kt
  obtain ⟨cl8, Ar8, qc8, Sz8, Mn8, Hs8, Gs8⟩ := id Vb
  have hin8 : ¬ ((1 : Int32) < 0 ∨ cl8.slots.size ≤ ((1 : Int32)).toNatClampNeg) := inb_of Sz8 ⟨by decide, by decide⟩
  have hat8 : cl8.slots[((1 : Int32)).toNatClampNeg]? = some (.int w1) := Hs8.at hin8 rfl
  have st8 : ∀ target, Steps p.tables e below (T4.setTop (mkF m 42 #[.val (.ref r0), .val (.int (0 : Int32)), .val (.int (4 : Int32)), .val (.int (w0 &&& (255 : Int32))), .val (.int (2 : Int32)), .unset] [(.int w1)])) target → Steps p.tables e below (T4.setTop (mkF m 41 #[.val (.ref r0), .val (.int (0 : Int32)), .val (.int (4 : Int32)), .val (.int (w0 &&& (255 : Int32))), .val (.int (2 : Int32)), .unset] [(.int (1 : Int32)), (.ref r0)])) target := fun target kt => X4.baloadBytes hx (j := (1 : Int32)) (v := (.int w1)) (by rw [e4]; exact Ar8.1) (State.isArrayOf_alike hZ.alike Ar8.2.1) Ar8.2.2 hin8 hat8 (g := (mkF m 41 #[.val (.ref r0), .val (.int (0 : Int32)), .val (.int (4 : Int32)), .val (.int (w0 &&& (255 : Int32))), .val (.int (2 : Int32)), .unset] [(.int (1 : Int32)), (.ref r0)])) rfl rfl (hb hby d3_41) _ kt
  have st9 : ∀ target, Steps p.tables e below (T4.setTop (mkF m 50 #[.val (.ref r0), .val (.int (0 : Int32)), .val (.int (4 : Int32)), .val (.int (w0 &&& (255 : Int32))), .val (.int (2 : Int32)), .val (.int (w1 &&& (255 : Int32)))] [(.int (w1 &&& (255 : Int32)))])) target → Steps p.tables e below (T4.setTop (mkF m 42 #[.val (.ref r0), .val (.int (0 : Int32)), .val (.int (4 : Int32)), .val (.int (w0 &&& (255 : Int32))), .val (.int (2 : Int32)), .unset] [(.int w1)])) target := by
    intro target kt
    refine XS.sipush X4.here hx rfl (hb hby d3_42) ?_
    refine XS.iand X4.here hx rfl (hb hby d3_45) rfl ?_
    show Steps p.tables e below (T4.setTop (mkF m 46 #[.val (.ref r0), .val (.int (0 : Int32)), .val (.int (4 : Int32)), .val (.int (w0 &&& (255 : Int32))), .val (.int (2 : Int32)), .unset] [(.int (w1 &&& (255 : Int32)))])) _
    refine XS.istore X4.here hx rfl (hb hby d3_46) rfl (l' := #[.val (.ref r0), .val (.int (0 : Int32)), .val (.int (4 : Int32)), .val (.int (w0 &&& (255 : Int32))), .val (.int (2 : Int32)), .val (.int (w1 &&& (255 : Int32)))]) rfl ?_
    refine XS.iload X4.here hx rfl (hb hby d3_48) rfl ?_
    exact kt
  obtain ⟨T10, X10, e10, st10⟩ := getS2 X4 hx hZ hown (host := "") (Or.inl (hw _ (List.mem_of_getElem? (i := 22) rfl))) Via.refl e4 S_cO (g := (mkF m 50 #[.val (.ref r0), .val (.int (0 : Int32)), .val (.int (4 : Int32)), .val (.int (w0 &&& (255 : Int32))), .val (.int (2 : Int32)), .val (.int (w1 &&& (255 : Int32)))] [(.int (w1 &&& (255 : Int32)))])) rfl (hb hby d3_50)
  have st11 : ∀ target, Steps p.tables e below (T10.setTop (mkF m 54 #[.val (.ref r0), .val (.int (0 : Int32)), .val (.int (4 : Int32)), .val (.int (w0 &&& (255 : Int32))), .val (.int (2 : Int32)), .val (.int (w1 &&& (255 : Int32)))] [(.int (w0 &&& (255 : Int32))), (.ref aO), (.int (w1 &&& (255 : Int32)))])) target → Steps p.tables e below (T10.setTop (mkF m 53 #[.val (.ref r0), .val (.int (0 : Int32)), .val (.int (4 : Int32)), .val (.int (w0 &&& (255 : Int32))), .val (.int (2 : Int32)), .val (.int (w1 &&& (255 : Int32)))] [(.ref aO), (.int (w1 &&& (255 : Int32)))])) target := by
    intro target kt
    refine XS.iloadN X10.here hx rfl (hb hby d3_53) rfl ?_
    exact kt
  have st12 : ∀ target, Steps p.tables e below (T10.setTop (mkF m 55 #[.val (.ref r0), .val (.int (0 : Int32)), .val (.int (4 : Int32)), .val (.int (w0 &&& (255 : Int32))), .val (.int (2 : Int32)), .val (.int (w1 &&& (255 : Int32)))] [(.int lo), (.int (w1 &&& (255 : Int32)))])) target → Steps p.tables e below (T10.setTop (mkF m 54 #[.val (.ref r0), .val (.int (0 : Int32)), .val (.int (4 : Int32)), .val (.int (w0 &&& (255 : Int32))), .val (.int (2 : Int32)), .val (.int (w1 &&& (255 : Int32)))] [(.int (w0 &&& (255 : Int32))), (.ref aO), (.int (w1 &&& (255 : Int32)))])) target := fun target kt => X10.iaload hx (j := (w0 &&& (255 : Int32))) (v := (.int lo)) (by rw [e10]; exact A_cO.1) (State.isArrayOf_alike hZ.alike A_cO.2.1) A_cO.2.2 i_cO t_cO (g := (mkF m 54 #[.val (.ref r0), .val (.int (0 : Int32)), .val (.int (4 : Int32)), .val (.int (w0 &&& (255 : Int32))), .val (.int (2 : Int32)), .val (.int (w1 &&& (255 : Int32)))] [(.int (w0 &&& (255 : Int32))), (.ref aO), (.int (w1 &&& (255 : Int32)))])) rfl rfl (hb hby d3_54) _ kt
  have st13 : ∀ target, Steps p.tables e below (T10.setTop (mkF m 60 #[.val (.ref r0), .val (.int (0 : Int32)), .val (.int (4 : Int32)), .val (.int (w0 &&& (255 : Int32))), .val (.int (2 : Int32)), .val (.int (w1 &&& (255 : Int32)))] [(.int (w1 &&& (255 : Int32)))])) target → Steps p.tables e below (T10.setTop (mkF m 55 #[.val (.ref r0), .val (.int (0 : Int32)), .val (.int (4 : Int32)), .val (.int (w0 &&& (255 : Int32))), .val (.int (2 : Int32)), .val (.int (w1 &&& (255 : Int32)))] [(.int lo), (.int (w1 &&& (255 : Int32)))])) target := by
    intro target kt
    refine XS.icmpNo X10.here hx rfl (hb hby d3_55) rfl (flt hlo).1 ?_
    refine XS.iload X10.here hx rfl (hb hby d3_58) rfl ?_
    exact kt
  obtain ⟨T14, X14, e14, st14⟩ := getS2 X10 hx hZ hown (host := "") (Or.inl (hw _ (List.mem_of_getElem? (i := 24) rfl))) Via.refl e10 S_cH (g := (mkF m 60 #[.val (.ref r0), .val (.int (0 : Int32)), .val (.int (4 : Int32)), .val (.int (w0 &&& (255 : Int32))), .val (.int (2 : Int32)), .val (.int (w1 &&& (255 : Int32)))] [(.int (w1 &&& (255 : Int32)))])) rfl (hb hby d3_60)
  have st15 : ∀ target, Steps p.tables e below (T14.setTop (mkF m 64 #[.val (.ref r0), .val (.int (0 : Int32)), .val (.int (4 : Int32)), .val (.int (w0 &&& (255 : Int32))), .val (.int (2 : Int32)), .val (.int (w1 &&& (255 : Int32)))] [(.int (w0 &&& (255 : Int32))), (.ref aH), (.int (w1 &&& (255 : Int32)))])) target → Steps p.tables e below (T14.setTop (mkF m 63 #[.val (.ref r0), .val (.int (0 : Int32)), .val (.int (4 : Int32)), .val (.int (w0 &&& (255 : Int32))), .val (.int (2 : Int32)), .val (.int (w1 &&& (255 : Int32)))] [(.ref aH), (.int (w1 &&& (255 : Int32)))])) target := by
    intro target kt
    refine XS.iloadN X14.here hx rfl (hb hby d3_63) rfl ?_
    exact kt
  have st16 : ∀ target, Steps p.tables e below (T14.setTop (mkF m 65 #[.val (.ref r0), .val (.int (0 : Int32)), .val (.int (4 : Int32)), .val (.int (w0 &&& (255 : Int32))), .val (.int (2 : Int32)), .val (.int (w1 &&& (255 : Int32)))] [(.int hi), (.int (w1 &&& (255 : Int32)))])) target → Steps p.tables e below (T14.setTop (mkF m 64 #[.val (.ref r0), .val (.int (0 : Int32)), .val (.int (4 : Int32)), .val (.int (w0 &&& (255 : Int32))), .val (.int (2 : Int32)), .val (.int (w1 &&& (255 : Int32)))] [(.int (w0 &&& (255 : Int32))), (.ref aH), (.int (w1 &&& (255 : Int32)))])) target := fun target kt => X14.iaload hx (j := (w0 &&& (255 : Int32))) (v := (.int hi)) (by rw [e14]; exact A_cH.1) (State.isArrayOf_alike hZ.alike A_cH.2.1) A_cH.2.2 i_cH t_cH (g := (mkF m 64 #[.val (.ref r0), .val (.int (0 : Int32)), .val (.int (4 : Int32)), .val (.int (w0 &&& (255 : Int32))), .val (.int (2 : Int32)), .val (.int (w1 &&& (255 : Int32)))] [(.int (w0 &&& (255 : Int32))), (.ref aH), (.int (w1 &&& (255 : Int32)))])) rfl rfl (hb hby d3_64) _ kt
  have st17 : ∀ target, Steps p.tables e below (T14.setTop (mkF m 77 #[.val (.ref r0), .val (.int (0 : Int32)), .val (.int (4 : Int32)), .val (.int (w0 &&& (255 : Int32))), .val (.int (2 : Int32)), .val (.int (w1 &&& (255 : Int32)))] [(.int (2 : Int32))])) target → Steps p.tables e below (T14.setTop (mkF m 65 #[.val (.ref r0), .val (.int (0 : Int32)), .val (.int (4 : Int32)), .val (.int (w0 &&& (255 : Int32))), .val (.int (2 : Int32)), .val (.int (w1 &&& (255 : Int32)))] [(.int hi), (.int (w1 &&& (255 : Int32)))])) target := by
    intro target kt
    refine XS.icmpYes X14.here hx rfl (pc0 := 65) (pc' := 70) rfl (hb hby d3_65) rfl (flt hhi).2.2.2 (by decide) (by decide) ?_
    refine XS.iload X14.here hx rfl (hb hby d3_70) rfl ?_
    show Steps p.tables e below (T14.setTop (mkF m 72 #[.val (.ref r0), .val (.int (0 : Int32)), .val (.int (4 : Int32)), .val (.int (w0 &&& (255 : Int32))), .val (.int (2 : Int32)), .val (.int (w1 &&& (255 : Int32)))] [(.int (2 : Int32))])) _
    refine XS.iconst X14.here hx rfl (hb hby d3_72) ?_
    refine XS.icmpNo X14.here hx rfl (hb hby d3_73) rfl (teq (rfl : (2 : Int32) = (2 : Int32))).2 ?_
    refine XS.iconst X14.here hx rfl (hb hby d3_76) ?_
    exact kt
  obtain ⟨fs, hr, hrun, hended, hW, hsame⟩ := X14.leave (v := some (.int (2 : Int32))) (fun h => by rw [Bd.returns] at h; cases h)
  refine ⟨_, _, pre0 _ (st1 _ (st2 _ (st3 _ (st4 _ (st5 _ (st6 _ (st7 _ (st8 _ (st9 _ (st10 _ (st11 _ (st12 _ (st13 _ (st14 _ (st15 _ (st16 _ (st17 _ ?_))))))))))))))))), hrun, hended, _, _, rfl, ?_, ⟨_, rfl⟩, hW, hsame.mono (by decide) (by decide)⟩
  · show Steps p.tables e below (T14.setTop (mkF m 77 #[.val (.ref r0), .val (.int (0 : Int32)), .val (.int (4 : Int32)), .val (.int (w0 &&& (255 : Int32))), .val (.int (2 : Int32)), .val (.int (w1 &&& (255 : Int32)))] [(.int (2 : Int32))])) _
    exact retI X14 hx Bd.returns (hb hby d3_77) hr
  · show Q_rmN2 Z r0 kk w0 w1 w2 w3 cL aL cO aO cH aH lo hi h0 n0 _ T14.heap _
    rw [e14]
    exact ⟨rfl, N0, rfl⟩
theorem ef_rmN3 (m : MethodId) (x0 : Addr) (x1 : Int32) (x2 : Int32) : entryFrame m #[(.ref x0), (.int x1), (.int x2)] 6 = mkF m 0 #[.val (.ref x0), .val (.int x1), .val (.int x2), .unset, .unset, .unset] [] := by first | (simp [entryFrame, mkF, argsToLocals, Value.category]; done) | rfl
def Q_rmN3 (Z : State) (r0 : Addr) (kk : ClassId) (w0 : Int32) (w1 : Int32) (w2 : Int32) (w3 : Int32) (cL : Cell) (aL : Addr) (cO : Cell) (aO : Addr) (cH : Cell) (aH : Addr) (lo : Int32) (hi : Int32) (h0 : Heap) (n0 : Nat) (v : Option Value) (h : Heap) (L : List Loc) : Prop := v = some (.int (3 : Int32)) ∧ Fr n0 L ∧ h = h0
set_option maxRecDepth 65536 in
set_option maxHeartbeats 40000000 in
theorem rmN3 (l : Launch) (Z : State) (a0 : Array Value) (hw : ∀ d ∈ tables_1, d.before a0 Z = true) (ws : List Jvm.Cond) (r0 : Addr) (kk : ClassId) (w0 : Int32) (w1 : Int32) (w2 : Int32) (w3 : Int32) (cL : Cell) (aL : Addr) (cO : Cell) (aO : Addr) (cH : Cell) (aH : Addr) (lo : Int32) (hi : Int32) (h0 : Heap) (n0 : Nat) (Z0 : n0 ≤ h0.size) (Vb : Arv Z h0 r0 kk .byte (4 : Int32) [(.int w0), (.int w1), (.int w2), (.int w3)] (.int (0 : Int32))) (S_cL : Sta Z h0 "com/example/murray_hill/murrayhill/WellFormed" "LENGTH" "[B" (.ref aL)) (A_cL : Arr Z h0 aL cL .byte) (i_cL : ¬ ((w0 &&& (255 : Int32)) < 0 ∨ cL.slots.size ≤ (w0 &&& (255 : Int32)).toNatClampNeg)) (S_cO : Sta Z h0 "com/example/murray_hill/murrayhill/WellFormed" "SECOND_LOW" "[I" (.ref aO)) (A_cO : Arr Z h0 aO cO .int) (i_cO : ¬ ((w0 &&& (255 : Int32)) < 0 ∨ cO.slots.size ≤ (w0 &&& (255 : Int32)).toNatClampNeg)) (S_cH : Sta Z h0 "com/example/murray_hill/murrayhill/WellFormed" "SECOND_HIGH" "[I" (.ref aH)) (A_cH : Arr Z h0 aH cH .int) (i_cH : ¬ ((w0 &&& (255 : Int32)) < 0 ∨ cH.slots.size ≤ (w0 &&& (255 : Int32)).toNatClampNeg)) (t_cL : cL.slots[(w0 &&& (255 : Int32)).toNatClampNeg]? = some (.int (3 : Int32))) (t_cO : cO.slots[(w0 &&& (255 : Int32)).toNatClampNeg]? = some (.int lo)) (t_cH : cH.slots[(w0 &&& (255 : Int32)).toNatClampNeg]? = some (.int hi)) (hlo : ¬ (w1 &&& (255 : Int32)) < lo) (hhi : ¬ hi < (w1 &&& (255 : Int32))) (c2 : own_ic (w2 &&& (255 : Int32)) = 1) :
    MetFree l (⟨"com/example/murray_hill/murrayhill/WellFormed", "next", "([BII)I"⟩ : MethodName) (head1 (Jvm.Cond.code (⟨"com/example/murray_hill/murrayhill/WellFormed", "next", "([BII)I"⟩ : MethodName) prog_39_method_3_code 6 (some .int) :: ws) ({ frames := 1, cells := 0, slots := 0, locals := 12 } : Room)) (fun a U => a = #[(.ref r0), (.int (0 : Int32)), (.int (4 : Int32))] ∧ Z.Warmed39 U.vm ∧ U.heap = h0) (fun _ _ _ _ _ => True) (fun _ U o U' => ∃ v L, o = .returned v ∧ Q_rmN3 Z r0 kk w0 w1 w2 w3 cL aL cO aO cH aH lo hi h0 n0 v U'.heap L ∧ FrameEnd U o U' L ({ frames := 1, cells := 0, slots := 0, locals := 12 } : Room).cells ({ frames := 1, cells := 0, slots := 0, locals := 12 } : Room).slots) := by
  refine MetFree.of_bodySF (plainFor_of_name pn_0) hisR ?_
  intro p e s m args below meth c s₁ Bd hml0 hP hK
  obtain ⟨rfl, hZ, hh⟩ := hP
  have hx := Bd.exec
  have hby := Bd.bytes
  have hml : c.maxLocals = 6 := hml0
  have hown : s.vm.findClass "com/example/murray_hill/murrayhill/WellFormed" = some m.cls := findClass_of_methodNamed Bd.named
  have hnm := (name_of_methodNamed Bd.named Bd.method).1
  have X0 : Stand p l e ({ frames := 1, cells := 0, slots := 0, locals := 12 } : Room) s m #[(.ref r0), (.int (0 : Int32)), (.int (4 : Int32))] below meth c s₁ [] 0 0 := Stand.of_body Bd
  have e0 : s₁.heap = h0 := by rw [← hh, Bd.state]; rfl
  have N0 := Fr.nil n0
  have pre0 : ∀ t, Steps p.tables e below (s₁.setTop (mkF m 0 #[.val (.ref r0), .val (.int (0 : Int32)), .val (.int (4 : Int32)), .unset, .unset, .unset] [])) t → Steps p.tables e below (s₁.setTop (entryFrame m #[(.ref r0), (.int (0 : Int32)), (.int (4 : Int32))] 6)) t := fun t k => castTop (ef_rmN3 m r0 (0 : Int32) (4 : Int32)) k
  have st1 : ∀ target, Steps p.tables e below (s₁.setTop (mkF m 2 #[.val (.ref r0), .val (.int (0 : Int32)), .val (.int (4 : Int32)), .unset, .unset, .unset] [(.int (0 : Int32)), (.ref r0)])) target → Steps p.tables e below (s₁.setTop (mkF m 0 #[.val (.ref r0), .val (.int (0 : Int32)), .val (.int (4 : Int32)), .unset, .unset, .unset] [])) target := by
    intro target kt
    refine XS.aloadN X0.here hx rfl (hb hby d3_0) rfl rfl ?_
    refine XS.iloadN X0.here hx rfl (hb hby d3_1) rfl ?_
    exact kt
  obtain ⟨cl2, Ar2, qc2, Sz2, Mn2, Hs2, Gs2⟩ := id Vb
  have hin2 : ¬ ((0 : Int32) < 0 ∨ cl2.slots.size ≤ ((0 : Int32)).toNatClampNeg) := inb_of Sz2 ⟨by decide, by decide⟩
  have hat2 : cl2.slots[((0 : Int32)).toNatClampNeg]? = some (.int w0) := Hs2.at hin2 rfl
  have st2 : ∀ target, Steps p.tables e below (s₁.setTop (mkF m 3 #[.val (.ref r0), .val (.int (0 : Int32)), .val (.int (4 : Int32)), .unset, .unset, .unset] [(.int w0)])) target → Steps p.tables e below (s₁.setTop (mkF m 2 #[.val (.ref r0), .val (.int (0 : Int32)), .val (.int (4 : Int32)), .unset, .unset, .unset] [(.int (0 : Int32)), (.ref r0)])) target := fun target kt => X0.baloadBytes hx (j := (0 : Int32)) (v := (.int w0)) (by rw [e0]; exact Ar2.1) (State.isArrayOf_alike hZ.alike Ar2.2.1) Ar2.2.2 hin2 hat2 (g := (mkF m 2 #[.val (.ref r0), .val (.int (0 : Int32)), .val (.int (4 : Int32)), .unset, .unset, .unset] [(.int (0 : Int32)), (.ref r0)])) rfl rfl (hb hby d3_2) _ kt
  have st3 : ∀ target, Steps p.tables e below (s₁.setTop (mkF m 8 #[.val (.ref r0), .val (.int (0 : Int32)), .val (.int (4 : Int32)), .val (.int (w0 &&& (255 : Int32))), .unset, .unset] [])) target → Steps p.tables e below (s₁.setTop (mkF m 3 #[.val (.ref r0), .val (.int (0 : Int32)), .val (.int (4 : Int32)), .unset, .unset, .unset] [(.int w0)])) target := by
    intro target kt
    refine XS.sipush X0.here hx rfl (hb hby d3_3) ?_
    refine XS.iand X0.here hx rfl (hb hby d3_6) rfl ?_
    refine XS.istoreN X0.here hx rfl (hb hby d3_7) rfl (l' := #[.val (.ref r0), .val (.int (0 : Int32)), .val (.int (4 : Int32)), .val (.int (w0 &&& (255 : Int32))), .unset, .unset]) rfl ?_
    exact kt
  obtain ⟨T4, X4, e4, st4⟩ := getS2 X0 hx hZ hown (host := "") (Or.inl (hw _ (List.mem_of_getElem? (i := 15) rfl))) Via.refl e0 S_cL (g := (mkF m 8 #[.val (.ref r0), .val (.int (0 : Int32)), .val (.int (4 : Int32)), .val (.int (w0 &&& (255 : Int32))), .unset, .unset] [])) rfl (hb hby d3_8)
  have st5 : ∀ target, Steps p.tables e below (T4.setTop (mkF m 12 #[.val (.ref r0), .val (.int (0 : Int32)), .val (.int (4 : Int32)), .val (.int (w0 &&& (255 : Int32))), .unset, .unset] [(.int (w0 &&& (255 : Int32))), (.ref aL)])) target → Steps p.tables e below (T4.setTop (mkF m 11 #[.val (.ref r0), .val (.int (0 : Int32)), .val (.int (4 : Int32)), .val (.int (w0 &&& (255 : Int32))), .unset, .unset] [(.ref aL)])) target := by
    intro target kt
    refine XS.iloadN X4.here hx rfl (hb hby d3_11) rfl ?_
    exact kt
  have st6 : ∀ target, Steps p.tables e below (T4.setTop (mkF m 13 #[.val (.ref r0), .val (.int (0 : Int32)), .val (.int (4 : Int32)), .val (.int (w0 &&& (255 : Int32))), .unset, .unset] [(.int (3 : Int32))])) target → Steps p.tables e below (T4.setTop (mkF m 12 #[.val (.ref r0), .val (.int (0 : Int32)), .val (.int (4 : Int32)), .val (.int (w0 &&& (255 : Int32))), .unset, .unset] [(.int (w0 &&& (255 : Int32))), (.ref aL)])) target := fun target kt => X4.baloadBytes hx (j := (w0 &&& (255 : Int32))) (v := (.int (3 : Int32))) (by rw [e4]; exact A_cL.1) (State.isArrayOf_alike hZ.alike A_cL.2.1) A_cL.2.2 i_cL t_cL (g := (mkF m 12 #[.val (.ref r0), .val (.int (0 : Int32)), .val (.int (4 : Int32)), .val (.int (w0 &&& (255 : Int32))), .unset, .unset] [(.int (w0 &&& (255 : Int32))), (.ref aL)])) rfl rfl (hb hby d3_12) _ kt
  have st7 : ∀ target, Steps p.tables e below (T4.setTop (mkF m 41 #[.val (.ref r0), .val (.int (0 : Int32)), .val (.int (4 : Int32)), .val (.int (w0 &&& (255 : Int32))), .val (.int (3 : Int32)), .unset] [(.int (1 : Int32)), (.ref r0)])) target → Steps p.tables e below (T4.setTop (mkF m 13 #[.val (.ref r0), .val (.int (0 : Int32)), .val (.int (4 : Int32)), .val (.int (w0 &&& (255 : Int32))), .unset, .unset] [(.int (3 : Int32))])) target := by
    intro target kt
    refine XS.istore X4.here hx rfl (hb hby d3_13) rfl (l' := #[.val (.ref r0), .val (.int (0 : Int32)), .val (.int (4 : Int32)), .val (.int (w0 &&& (255 : Int32))), .val (.int (3 : Int32)), .unset]) rfl ?_
    show Steps p.tables e below (T4.setTop (mkF m 15 #[.val (.ref r0), .val (.int (0 : Int32)), .val (.int (4 : Int32)), .val (.int (w0 &&& (255 : Int32))), .val (.int (3 : Int32)), .unset] [])) _
    refine XS.iload X4.here hx rfl (hb hby d3_15) rfl ?_
    refine XS.iconst X4.here hx rfl (hb hby d3_17) ?_
    refine XS.icmpYes X4.here hx rfl (pc0 := 18) (pc' := 23) rfl (hb hby d3_18) rfl (feq (by decide : ¬ ((3 : Int32) = (1 : Int32)))).2 (by decide) (by decide) ?_
    refine XS.iload X4.here hx rfl (hb hby d3_23) rfl ?_
    refine XS.ifNo X4.here hx rfl (hb hby d3_25) rfl ((if0 _ _).trans (feq (by decide : ¬ ((3 : Int32) = (0 : Int32)))).1) ?_
    refine XS.iloadN X4.here hx rfl (hb hby d3_28) rfl ?_
    refine XS.iconst X4.here hx rfl (hb hby d3_29) ?_
    refine XS.iadd X4.here hx rfl (hb hby d3_30) rfl ?_
    show Steps p.tables e below (T4.setTop (mkF m 31 #[.val (.ref r0), .val (.int (0 : Int32)), .val (.int (4 : Int32)), .val (.int (w0 &&& (255 : Int32))), .val (.int (3 : Int32)), .unset] [(.int (1 : Int32))])) _
    refine XS.iloadN X4.here hx rfl (hb hby d3_31) rfl ?_
    refine XS.icmpYes X4.here hx rfl (pc0 := 32) (pc' := 37) rfl (hb hby d3_32) rfl (tlt (by decide : ((1 : Int32) < (4 : Int32)))).1 (by decide) (by decide) ?_
    refine XS.aloadN X4.here hx rfl (hb hby d3_37) rfl rfl ?_
    refine XS.iloadN X4.here hx rfl (hb hby d3_38) rfl ?_
    refine XS.iconst X4.here hx rfl (hb hby d3_39) ?_
    refine XS.iadd X4.here hx rfl (hb hby d3_40) rfl ?_
    exact kt
  obtain ⟨cl8, Ar8, qc8, Sz8, Mn8, Hs8, Gs8⟩ := id Vb
  have hin8 : ¬ ((1 : Int32) < 0 ∨ cl8.slots.size ≤ ((1 : Int32)).toNatClampNeg) := inb_of Sz8 ⟨by decide, by decide⟩
  have hat8 : cl8.slots[((1 : Int32)).toNatClampNeg]? = some (.int w1) := Hs8.at hin8 rfl
  have st8 : ∀ target, Steps p.tables e below (T4.setTop (mkF m 42 #[.val (.ref r0), .val (.int (0 : Int32)), .val (.int (4 : Int32)), .val (.int (w0 &&& (255 : Int32))), .val (.int (3 : Int32)), .unset] [(.int w1)])) target → Steps p.tables e below (T4.setTop (mkF m 41 #[.val (.ref r0), .val (.int (0 : Int32)), .val (.int (4 : Int32)), .val (.int (w0 &&& (255 : Int32))), .val (.int (3 : Int32)), .unset] [(.int (1 : Int32)), (.ref r0)])) target := fun target kt => X4.baloadBytes hx (j := (1 : Int32)) (v := (.int w1)) (by rw [e4]; exact Ar8.1) (State.isArrayOf_alike hZ.alike Ar8.2.1) Ar8.2.2 hin8 hat8 (g := (mkF m 41 #[.val (.ref r0), .val (.int (0 : Int32)), .val (.int (4 : Int32)), .val (.int (w0 &&& (255 : Int32))), .val (.int (3 : Int32)), .unset] [(.int (1 : Int32)), (.ref r0)])) rfl rfl (hb hby d3_41) _ kt
  have st9 : ∀ target, Steps p.tables e below (T4.setTop (mkF m 50 #[.val (.ref r0), .val (.int (0 : Int32)), .val (.int (4 : Int32)), .val (.int (w0 &&& (255 : Int32))), .val (.int (3 : Int32)), .val (.int (w1 &&& (255 : Int32)))] [(.int (w1 &&& (255 : Int32)))])) target → Steps p.tables e below (T4.setTop (mkF m 42 #[.val (.ref r0), .val (.int (0 : Int32)), .val (.int (4 : Int32)), .val (.int (w0 &&& (255 : Int32))), .val (.int (3 : Int32)), .unset] [(.int w1)])) target := by
    intro target kt
    refine XS.sipush X4.here hx rfl (hb hby d3_42) ?_
    refine XS.iand X4.here hx rfl (hb hby d3_45) rfl ?_
    show Steps p.tables e below (T4.setTop (mkF m 46 #[.val (.ref r0), .val (.int (0 : Int32)), .val (.int (4 : Int32)), .val (.int (w0 &&& (255 : Int32))), .val (.int (3 : Int32)), .unset] [(.int (w1 &&& (255 : Int32)))])) _
    refine XS.istore X4.here hx rfl (hb hby d3_46) rfl (l' := #[.val (.ref r0), .val (.int (0 : Int32)), .val (.int (4 : Int32)), .val (.int (w0 &&& (255 : Int32))), .val (.int (3 : Int32)), .val (.int (w1 &&& (255 : Int32)))]) rfl ?_
    refine XS.iload X4.here hx rfl (hb hby d3_48) rfl ?_
    exact kt
  obtain ⟨T10, X10, e10, st10⟩ := getS2 X4 hx hZ hown (host := "") (Or.inl (hw _ (List.mem_of_getElem? (i := 22) rfl))) Via.refl e4 S_cO (g := (mkF m 50 #[.val (.ref r0), .val (.int (0 : Int32)), .val (.int (4 : Int32)), .val (.int (w0 &&& (255 : Int32))), .val (.int (3 : Int32)), .val (.int (w1 &&& (255 : Int32)))] [(.int (w1 &&& (255 : Int32)))])) rfl (hb hby d3_50)
  have st11 : ∀ target, Steps p.tables e below (T10.setTop (mkF m 54 #[.val (.ref r0), .val (.int (0 : Int32)), .val (.int (4 : Int32)), .val (.int (w0 &&& (255 : Int32))), .val (.int (3 : Int32)), .val (.int (w1 &&& (255 : Int32)))] [(.int (w0 &&& (255 : Int32))), (.ref aO), (.int (w1 &&& (255 : Int32)))])) target → Steps p.tables e below (T10.setTop (mkF m 53 #[.val (.ref r0), .val (.int (0 : Int32)), .val (.int (4 : Int32)), .val (.int (w0 &&& (255 : Int32))), .val (.int (3 : Int32)), .val (.int (w1 &&& (255 : Int32)))] [(.ref aO), (.int (w1 &&& (255 : Int32)))])) target := by
    intro target kt
    refine XS.iloadN X10.here hx rfl (hb hby d3_53) rfl ?_
    exact kt
  have st12 : ∀ target, Steps p.tables e below (T10.setTop (mkF m 55 #[.val (.ref r0), .val (.int (0 : Int32)), .val (.int (4 : Int32)), .val (.int (w0 &&& (255 : Int32))), .val (.int (3 : Int32)), .val (.int (w1 &&& (255 : Int32)))] [(.int lo), (.int (w1 &&& (255 : Int32)))])) target → Steps p.tables e below (T10.setTop (mkF m 54 #[.val (.ref r0), .val (.int (0 : Int32)), .val (.int (4 : Int32)), .val (.int (w0 &&& (255 : Int32))), .val (.int (3 : Int32)), .val (.int (w1 &&& (255 : Int32)))] [(.int (w0 &&& (255 : Int32))), (.ref aO), (.int (w1 &&& (255 : Int32)))])) target := fun target kt => X10.iaload hx (j := (w0 &&& (255 : Int32))) (v := (.int lo)) (by rw [e10]; exact A_cO.1) (State.isArrayOf_alike hZ.alike A_cO.2.1) A_cO.2.2 i_cO t_cO (g := (mkF m 54 #[.val (.ref r0), .val (.int (0 : Int32)), .val (.int (4 : Int32)), .val (.int (w0 &&& (255 : Int32))), .val (.int (3 : Int32)), .val (.int (w1 &&& (255 : Int32)))] [(.int (w0 &&& (255 : Int32))), (.ref aO), (.int (w1 &&& (255 : Int32)))])) rfl rfl (hb hby d3_54) _ kt
  have st13 : ∀ target, Steps p.tables e below (T10.setTop (mkF m 60 #[.val (.ref r0), .val (.int (0 : Int32)), .val (.int (4 : Int32)), .val (.int (w0 &&& (255 : Int32))), .val (.int (3 : Int32)), .val (.int (w1 &&& (255 : Int32)))] [(.int (w1 &&& (255 : Int32)))])) target → Steps p.tables e below (T10.setTop (mkF m 55 #[.val (.ref r0), .val (.int (0 : Int32)), .val (.int (4 : Int32)), .val (.int (w0 &&& (255 : Int32))), .val (.int (3 : Int32)), .val (.int (w1 &&& (255 : Int32)))] [(.int lo), (.int (w1 &&& (255 : Int32)))])) target := by
    intro target kt
    refine XS.icmpNo X10.here hx rfl (hb hby d3_55) rfl (flt hlo).1 ?_
    refine XS.iload X10.here hx rfl (hb hby d3_58) rfl ?_
    exact kt
  obtain ⟨T14, X14, e14, st14⟩ := getS2 X10 hx hZ hown (host := "") (Or.inl (hw _ (List.mem_of_getElem? (i := 24) rfl))) Via.refl e10 S_cH (g := (mkF m 60 #[.val (.ref r0), .val (.int (0 : Int32)), .val (.int (4 : Int32)), .val (.int (w0 &&& (255 : Int32))), .val (.int (3 : Int32)), .val (.int (w1 &&& (255 : Int32)))] [(.int (w1 &&& (255 : Int32)))])) rfl (hb hby d3_60)
  have st15 : ∀ target, Steps p.tables e below (T14.setTop (mkF m 64 #[.val (.ref r0), .val (.int (0 : Int32)), .val (.int (4 : Int32)), .val (.int (w0 &&& (255 : Int32))), .val (.int (3 : Int32)), .val (.int (w1 &&& (255 : Int32)))] [(.int (w0 &&& (255 : Int32))), (.ref aH), (.int (w1 &&& (255 : Int32)))])) target → Steps p.tables e below (T14.setTop (mkF m 63 #[.val (.ref r0), .val (.int (0 : Int32)), .val (.int (4 : Int32)), .val (.int (w0 &&& (255 : Int32))), .val (.int (3 : Int32)), .val (.int (w1 &&& (255 : Int32)))] [(.ref aH), (.int (w1 &&& (255 : Int32)))])) target := by
    intro target kt
    refine XS.iloadN X14.here hx rfl (hb hby d3_63) rfl ?_
    exact kt
  have st16 : ∀ target, Steps p.tables e below (T14.setTop (mkF m 65 #[.val (.ref r0), .val (.int (0 : Int32)), .val (.int (4 : Int32)), .val (.int (w0 &&& (255 : Int32))), .val (.int (3 : Int32)), .val (.int (w1 &&& (255 : Int32)))] [(.int hi), (.int (w1 &&& (255 : Int32)))])) target → Steps p.tables e below (T14.setTop (mkF m 64 #[.val (.ref r0), .val (.int (0 : Int32)), .val (.int (4 : Int32)), .val (.int (w0 &&& (255 : Int32))), .val (.int (3 : Int32)), .val (.int (w1 &&& (255 : Int32)))] [(.int (w0 &&& (255 : Int32))), (.ref aH), (.int (w1 &&& (255 : Int32)))])) target := fun target kt => X14.iaload hx (j := (w0 &&& (255 : Int32))) (v := (.int hi)) (by rw [e14]; exact A_cH.1) (State.isArrayOf_alike hZ.alike A_cH.2.1) A_cH.2.2 i_cH t_cH (g := (mkF m 64 #[.val (.ref r0), .val (.int (0 : Int32)), .val (.int (4 : Int32)), .val (.int (w0 &&& (255 : Int32))), .val (.int (3 : Int32)), .val (.int (w1 &&& (255 : Int32)))] [(.int (w0 &&& (255 : Int32))), (.ref aH), (.int (w1 &&& (255 : Int32)))])) rfl rfl (hb hby d3_64) _ kt
  have st17 : ∀ target, Steps p.tables e below (T14.setTop (mkF m 89 #[.val (.ref r0), .val (.int (0 : Int32)), .val (.int (4 : Int32)), .val (.int (w0 &&& (255 : Int32))), .val (.int (3 : Int32)), .val (.int (w1 &&& (255 : Int32)))] [(.int (2 : Int32)), (.ref r0)])) target → Steps p.tables e below (T14.setTop (mkF m 65 #[.val (.ref r0), .val (.int (0 : Int32)), .val (.int (4 : Int32)), .val (.int (w0 &&& (255 : Int32))), .val (.int (3 : Int32)), .val (.int (w1 &&& (255 : Int32)))] [(.int hi), (.int (w1 &&& (255 : Int32)))])) target := by
    intro target kt
    refine XS.icmpYes X14.here hx rfl (pc0 := 65) (pc' := 70) rfl (hb hby d3_65) rfl (flt hhi).2.2.2 (by decide) (by decide) ?_
    refine XS.iload X14.here hx rfl (hb hby d3_70) rfl ?_
    show Steps p.tables e below (T14.setTop (mkF m 72 #[.val (.ref r0), .val (.int (0 : Int32)), .val (.int (4 : Int32)), .val (.int (w0 &&& (255 : Int32))), .val (.int (3 : Int32)), .val (.int (w1 &&& (255 : Int32)))] [(.int (3 : Int32))])) _
    refine XS.iconst X14.here hx rfl (hb hby d3_72) ?_
    refine XS.icmpYes X14.here hx rfl (pc0 := 73) (pc' := 78) rfl (hb hby d3_73) rfl (feq (by decide : ¬ ((3 : Int32) = (2 : Int32)))).2 (by decide) (by decide) ?_
    refine XS.iloadN X14.here hx rfl (hb hby d3_78) rfl ?_
    refine XS.iconst X14.here hx rfl (hb hby d3_79) ?_
    refine XS.iadd X14.here hx rfl (hb hby d3_80) rfl ?_
    refine XS.iloadN X14.here hx rfl (hb hby d3_81) rfl ?_
    refine XS.icmpNo X14.here hx rfl (hb hby d3_82) rfl (tlt (by decide : ((2 : Int32) < (4 : Int32)))).2.1 ?_
    refine XS.aloadN X14.here hx rfl (hb hby d3_85) rfl rfl ?_
    show Steps p.tables e below (T14.setTop (mkF m 86 #[.val (.ref r0), .val (.int (0 : Int32)), .val (.int (4 : Int32)), .val (.int (w0 &&& (255 : Int32))), .val (.int (3 : Int32)), .val (.int (w1 &&& (255 : Int32)))] [(.ref r0)])) _
    refine XS.iloadN X14.here hx rfl (hb hby d3_86) rfl ?_
    refine XS.iconst X14.here hx rfl (hb hby d3_87) ?_
    refine XS.iadd X14.here hx rfl (hb hby d3_88) rfl ?_
    exact kt
  obtain ⟨cl18, Ar18, qc18, Sz18, Mn18, Hs18, Gs18⟩ := id Vb
  have hin18 : ¬ ((2 : Int32) < 0 ∨ cl18.slots.size ≤ ((2 : Int32)).toNatClampNeg) := inb_of Sz18 ⟨by decide, by decide⟩
  have hat18 : cl18.slots[((2 : Int32)).toNatClampNeg]? = some (.int w2) := Hs18.at hin18 rfl
  have st18 : ∀ target, Steps p.tables e below (T14.setTop (mkF m 90 #[.val (.ref r0), .val (.int (0 : Int32)), .val (.int (4 : Int32)), .val (.int (w0 &&& (255 : Int32))), .val (.int (3 : Int32)), .val (.int (w1 &&& (255 : Int32)))] [(.int w2)])) target → Steps p.tables e below (T14.setTop (mkF m 89 #[.val (.ref r0), .val (.int (0 : Int32)), .val (.int (4 : Int32)), .val (.int (w0 &&& (255 : Int32))), .val (.int (3 : Int32)), .val (.int (w1 &&& (255 : Int32)))] [(.int (2 : Int32)), (.ref r0)])) target := fun target kt => X14.baloadBytes hx (j := (2 : Int32)) (v := (.int w2)) (by rw [e14]; exact Ar18.1) (State.isArrayOf_alike hZ.alike Ar18.2.1) Ar18.2.2 hin18 hat18 (g := (mkF m 89 #[.val (.ref r0), .val (.int (0 : Int32)), .val (.int (4 : Int32)), .val (.int (w0 &&& (255 : Int32))), .val (.int (3 : Int32)), .val (.int (w1 &&& (255 : Int32)))] [(.int (2 : Int32)), (.ref r0)])) rfl rfl (hb hby d3_89) _ kt
  have st19 : ∀ target, Steps p.tables e below (T14.setTop (mkF m 94 #[.val (.ref r0), .val (.int (0 : Int32)), .val (.int (4 : Int32)), .val (.int (w0 &&& (255 : Int32))), .val (.int (3 : Int32)), .val (.int (w1 &&& (255 : Int32)))] [(.int (w2 &&& (255 : Int32)))])) target → Steps p.tables e below (T14.setTop (mkF m 90 #[.val (.ref r0), .val (.int (0 : Int32)), .val (.int (4 : Int32)), .val (.int (w0 &&& (255 : Int32))), .val (.int (3 : Int32)), .val (.int (w1 &&& (255 : Int32)))] [(.int w2)])) target := by
    intro target kt
    refine XS.sipush X14.here hx rfl (hb hby d3_90) ?_
    refine XS.iand X14.here hx rfl (hb hby d3_93) rfl ?_
    exact kt
  obtain ⟨_, _, ⟨T20, L20, k20, n20⟩, -, X20, ⟨Lc20, hQ20, l20, y20, z20⟩, st20⟩ := Jvm.LawKit.callS X14 hx (y := (⟨"com/example/murray_hill/murrayhill/WellFormed", "isContinuation", "(I)Z"⟩ : MethodName)) hown (mvT hZ (hw _ (List.mem_of_getElem? (i := 26) rfl))) (mvT hZ (hw _ (List.mem_of_getElem? (i := 27) rfl))) (mvT hZ (hw _ (List.mem_of_getElem? (i := 5) rfl))) (mvT hZ (hw _ (List.mem_of_getElem? (i := 28) rfl))) (by decide) (backOf (W := 0) (rm5 l Z a0 hw [] (w2 &&& (255 : Int32))  h0 n0 Z0 ) hZ (hw _ (List.mem_of_getElem? (i := 28) rfl)) (hw _ (List.mem_of_getElem? (i := 5) rfl)) (by decide) (by decide)) (g := (mkF m 94 #[.val (.ref r0), .val (.int (0 : Int32)), .val (.int (4 : Int32)), .val (.int (w0 &&& (255 : Int32))), .val (.int (3 : Int32)), .val (.int (w1 &&& (255 : Int32)))] [(.int (w2 &&& (255 : Int32)))])) rfl (by rw [hml]; rfl) (argsL := [(.int (w2 &&& (255 : Int32)))]) (rest := []) (lenOf pd_3 rfl) rfl (by show 2 * 0 + _ ≤ _; exact Nat.le_of_eq rfl) (hb hby d3_94) (fun _ _ => ⟨rfl, e14, (by decide : 0 + 0 ≤ _), (by decide : 0 + 0 ≤ _)⟩)
  dsimp only [Pt.U, Pt.locs, Pt.cells, Pt.slots] at X20 l20 y20 z20 st20 hQ20
  subst l20 y20 z20
  obtain ⟨rfl, Nq20, e20⟩ := hQ20
  have N20 := Fr.app N0 Nq20
  rw [c2] at st20
  have st21 : ∀ target, Steps p.tables e below (T20.setTop (mkF m 110 #[.val (.ref r0), .val (.int (0 : Int32)), .val (.int (4 : Int32)), .val (.int (w0 &&& (255 : Int32))), .val (.int (3 : Int32)), .val (.int (w1 &&& (255 : Int32)))] [(.int (3 : Int32))])) target → Steps p.tables e below (T20.setTop (mkF m 97 #[.val (.ref r0), .val (.int (0 : Int32)), .val (.int (4 : Int32)), .val (.int (w0 &&& (255 : Int32))), .val (.int (3 : Int32)), .val (.int (w1 &&& (255 : Int32)))] [(.int (1 : Int32))])) target := by
    intro target kt
    refine XS.ifYes X20.here hx rfl (pc0 := 97) (pc' := 103) rfl (hb hby d3_97) rfl ((if0 _ _).trans (feq (by decide : ¬ ((1 : Int32) = (0 : Int32)))).2) (by decide) (by decide) ?_
    refine XS.iload X20.here hx rfl (hb hby d3_103) rfl ?_
    refine XS.iconst X20.here hx rfl (hb hby d3_105) ?_
    show Steps p.tables e below (T20.setTop (mkF m 106 #[.val (.ref r0), .val (.int (0 : Int32)), .val (.int (4 : Int32)), .val (.int (w0 &&& (255 : Int32))), .val (.int (3 : Int32)), .val (.int (w1 &&& (255 : Int32)))] [(.int (3 : Int32)), (.int (3 : Int32))])) _
    refine XS.icmpNo X20.here hx rfl (hb hby d3_106) rfl (teq (rfl : (3 : Int32) = (3 : Int32))).2 ?_
    refine XS.iconst X20.here hx rfl (hb hby d3_109) ?_
    exact kt
  obtain ⟨fs, hr, hrun, hended, hW, hsame⟩ := X20.leave (v := some (.int (3 : Int32))) (fun h => by rw [Bd.returns] at h; cases h)
  refine ⟨_, _, pre0 _ (st1 _ (st2 _ (st3 _ (st4 _ (st5 _ (st6 _ (st7 _ (st8 _ (st9 _ (st10 _ (st11 _ (st12 _ (st13 _ (st14 _ (st15 _ (st16 _ (st17 _ (st18 _ (st19 _ (st20 _ (st21 _ ?_))))))))))))))))))))), hrun, hended, _, _, rfl, ?_, ⟨_, rfl⟩, hW, hsame.mono (by decide) (by decide)⟩
  · show Steps p.tables e below (T20.setTop (mkF m 110 #[.val (.ref r0), .val (.int (0 : Int32)), .val (.int (4 : Int32)), .val (.int (w0 &&& (255 : Int32))), .val (.int (3 : Int32)), .val (.int (w1 &&& (255 : Int32)))] [(.int (3 : Int32))])) _
    exact retI X20 hx Bd.returns (hb hby d3_110) hr
  · show Q_rmN3 Z r0 kk w0 w1 w2 w3 cL aL cO aO cH aH lo hi h0 n0 _ T20.heap _
    rw [e20]
    exact ⟨rfl, N20, rfl⟩
theorem ef_rmN4 (m : MethodId) (x0 : Addr) (x1 : Int32) (x2 : Int32) : entryFrame m #[(.ref x0), (.int x1), (.int x2)] 6 = mkF m 0 #[.val (.ref x0), .val (.int x1), .val (.int x2), .unset, .unset, .unset] [] := by first | (simp [entryFrame, mkF, argsToLocals, Value.category]; done) | rfl
def Q_rmN4 (Z : State) (r0 : Addr) (kk : ClassId) (w0 : Int32) (w1 : Int32) (w2 : Int32) (w3 : Int32) (cL : Cell) (aL : Addr) (cO : Cell) (aO : Addr) (cH : Cell) (aH : Addr) (lo : Int32) (hi : Int32) (h0 : Heap) (n0 : Nat) (v : Option Value) (h : Heap) (L : List Loc) : Prop := v = some (.int (4 : Int32)) ∧ Fr n0 L ∧ h = h0
set_option maxRecDepth 65536 in
set_option maxHeartbeats 40000000 in
theorem rmN4 (l : Launch) (Z : State) (a0 : Array Value) (hw : ∀ d ∈ tables_1, d.before a0 Z = true) (ws : List Jvm.Cond) (r0 : Addr) (kk : ClassId) (w0 : Int32) (w1 : Int32) (w2 : Int32) (w3 : Int32) (cL : Cell) (aL : Addr) (cO : Cell) (aO : Addr) (cH : Cell) (aH : Addr) (lo : Int32) (hi : Int32) (h0 : Heap) (n0 : Nat) (Z0 : n0 ≤ h0.size) (Vb : Arv Z h0 r0 kk .byte (4 : Int32) [(.int w0), (.int w1), (.int w2), (.int w3)] (.int (0 : Int32))) (S_cL : Sta Z h0 "com/example/murray_hill/murrayhill/WellFormed" "LENGTH" "[B" (.ref aL)) (A_cL : Arr Z h0 aL cL .byte) (i_cL : ¬ ((w0 &&& (255 : Int32)) < 0 ∨ cL.slots.size ≤ (w0 &&& (255 : Int32)).toNatClampNeg)) (S_cO : Sta Z h0 "com/example/murray_hill/murrayhill/WellFormed" "SECOND_LOW" "[I" (.ref aO)) (A_cO : Arr Z h0 aO cO .int) (i_cO : ¬ ((w0 &&& (255 : Int32)) < 0 ∨ cO.slots.size ≤ (w0 &&& (255 : Int32)).toNatClampNeg)) (S_cH : Sta Z h0 "com/example/murray_hill/murrayhill/WellFormed" "SECOND_HIGH" "[I" (.ref aH)) (A_cH : Arr Z h0 aH cH .int) (i_cH : ¬ ((w0 &&& (255 : Int32)) < 0 ∨ cH.slots.size ≤ (w0 &&& (255 : Int32)).toNatClampNeg)) (t_cL : cL.slots[(w0 &&& (255 : Int32)).toNatClampNeg]? = some (.int (4 : Int32))) (t_cO : cO.slots[(w0 &&& (255 : Int32)).toNatClampNeg]? = some (.int lo)) (t_cH : cH.slots[(w0 &&& (255 : Int32)).toNatClampNeg]? = some (.int hi)) (hlo : ¬ (w1 &&& (255 : Int32)) < lo) (hhi : ¬ hi < (w1 &&& (255 : Int32))) (c2 : own_ic (w2 &&& (255 : Int32)) = 1) (c3 : own_ic (w3 &&& (255 : Int32)) = 1) :
    MetFree l (⟨"com/example/murray_hill/murrayhill/WellFormed", "next", "([BII)I"⟩ : MethodName) (head1 (Jvm.Cond.code (⟨"com/example/murray_hill/murrayhill/WellFormed", "next", "([BII)I"⟩ : MethodName) prog_39_method_3_code 6 (some .int) :: ws) ({ frames := 1, cells := 0, slots := 0, locals := 12 } : Room)) (fun a U => a = #[(.ref r0), (.int (0 : Int32)), (.int (4 : Int32))] ∧ Z.Warmed39 U.vm ∧ U.heap = h0) (fun _ _ _ _ _ => True) (fun _ U o U' => ∃ v L, o = .returned v ∧ Q_rmN4 Z r0 kk w0 w1 w2 w3 cL aL cO aO cH aH lo hi h0 n0 v U'.heap L ∧ FrameEnd U o U' L ({ frames := 1, cells := 0, slots := 0, locals := 12 } : Room).cells ({ frames := 1, cells := 0, slots := 0, locals := 12 } : Room).slots) := by
  refine MetFree.of_bodySF (plainFor_of_name pn_0) hisR ?_
  intro p e s m args below meth c s₁ Bd hml0 hP hK
  obtain ⟨rfl, hZ, hh⟩ := hP
  have hx := Bd.exec
  have hby := Bd.bytes
  have hml : c.maxLocals = 6 := hml0
  have hown : s.vm.findClass "com/example/murray_hill/murrayhill/WellFormed" = some m.cls := findClass_of_methodNamed Bd.named
  have hnm := (name_of_methodNamed Bd.named Bd.method).1
  have X0 : Stand p l e ({ frames := 1, cells := 0, slots := 0, locals := 12 } : Room) s m #[(.ref r0), (.int (0 : Int32)), (.int (4 : Int32))] below meth c s₁ [] 0 0 := Stand.of_body Bd
  have e0 : s₁.heap = h0 := by rw [← hh, Bd.state]; rfl
  have N0 := Fr.nil n0
  have pre0 : ∀ t, Steps p.tables e below (s₁.setTop (mkF m 0 #[.val (.ref r0), .val (.int (0 : Int32)), .val (.int (4 : Int32)), .unset, .unset, .unset] [])) t → Steps p.tables e below (s₁.setTop (entryFrame m #[(.ref r0), (.int (0 : Int32)), (.int (4 : Int32))] 6)) t := fun t k => castTop (ef_rmN4 m r0 (0 : Int32) (4 : Int32)) k
  have st1 : ∀ target, Steps p.tables e below (s₁.setTop (mkF m 2 #[.val (.ref r0), .val (.int (0 : Int32)), .val (.int (4 : Int32)), .unset, .unset, .unset] [(.int (0 : Int32)), (.ref r0)])) target → Steps p.tables e below (s₁.setTop (mkF m 0 #[.val (.ref r0), .val (.int (0 : Int32)), .val (.int (4 : Int32)), .unset, .unset, .unset] [])) target := by
    intro target kt
    refine XS.aloadN X0.here hx rfl (hb hby d3_0) rfl rfl ?_
    refine XS.iloadN X0.here hx rfl (hb hby d3_1) rfl ?_
    exact kt
  obtain ⟨cl2, Ar2, qc2, Sz2, Mn2, Hs2, Gs2⟩ := id Vb
  have hin2 : ¬ ((0 : Int32) < 0 ∨ cl2.slots.size ≤ ((0 : Int32)).toNatClampNeg) := inb_of Sz2 ⟨by decide, by decide⟩
  have hat2 : cl2.slots[((0 : Int32)).toNatClampNeg]? = some (.int w0) := Hs2.at hin2 rfl
  have st2 : ∀ target, Steps p.tables e below (s₁.setTop (mkF m 3 #[.val (.ref r0), .val (.int (0 : Int32)), .val (.int (4 : Int32)), .unset, .unset, .unset] [(.int w0)])) target → Steps p.tables e below (s₁.setTop (mkF m 2 #[.val (.ref r0), .val (.int (0 : Int32)), .val (.int (4 : Int32)), .unset, .unset, .unset] [(.int (0 : Int32)), (.ref r0)])) target := fun target kt => X0.baloadBytes hx (j := (0 : Int32)) (v := (.int w0)) (by rw [e0]; exact Ar2.1) (State.isArrayOf_alike hZ.alike Ar2.2.1) Ar2.2.2 hin2 hat2 (g := (mkF m 2 #[.val (.ref r0), .val (.int (0 : Int32)), .val (.int (4 : Int32)), .unset, .unset, .unset] [(.int (0 : Int32)), (.ref r0)])) rfl rfl (hb hby d3_2) _ kt
  have st3 : ∀ target, Steps p.tables e below (s₁.setTop (mkF m 8 #[.val (.ref r0), .val (.int (0 : Int32)), .val (.int (4 : Int32)), .val (.int (w0 &&& (255 : Int32))), .unset, .unset] [])) target → Steps p.tables e below (s₁.setTop (mkF m 3 #[.val (.ref r0), .val (.int (0 : Int32)), .val (.int (4 : Int32)), .unset, .unset, .unset] [(.int w0)])) target := by
    intro target kt
    refine XS.sipush X0.here hx rfl (hb hby d3_3) ?_
    refine XS.iand X0.here hx rfl (hb hby d3_6) rfl ?_
    refine XS.istoreN X0.here hx rfl (hb hby d3_7) rfl (l' := #[.val (.ref r0), .val (.int (0 : Int32)), .val (.int (4 : Int32)), .val (.int (w0 &&& (255 : Int32))), .unset, .unset]) rfl ?_
    exact kt
  obtain ⟨T4, X4, e4, st4⟩ := getS2 X0 hx hZ hown (host := "") (Or.inl (hw _ (List.mem_of_getElem? (i := 15) rfl))) Via.refl e0 S_cL (g := (mkF m 8 #[.val (.ref r0), .val (.int (0 : Int32)), .val (.int (4 : Int32)), .val (.int (w0 &&& (255 : Int32))), .unset, .unset] [])) rfl (hb hby d3_8)
  have st5 : ∀ target, Steps p.tables e below (T4.setTop (mkF m 12 #[.val (.ref r0), .val (.int (0 : Int32)), .val (.int (4 : Int32)), .val (.int (w0 &&& (255 : Int32))), .unset, .unset] [(.int (w0 &&& (255 : Int32))), (.ref aL)])) target → Steps p.tables e below (T4.setTop (mkF m 11 #[.val (.ref r0), .val (.int (0 : Int32)), .val (.int (4 : Int32)), .val (.int (w0 &&& (255 : Int32))), .unset, .unset] [(.ref aL)])) target := by
    intro target kt
    refine XS.iloadN X4.here hx rfl (hb hby d3_11) rfl ?_
    exact kt
  have st6 : ∀ target, Steps p.tables e below (T4.setTop (mkF m 13 #[.val (.ref r0), .val (.int (0 : Int32)), .val (.int (4 : Int32)), .val (.int (w0 &&& (255 : Int32))), .unset, .unset] [(.int (4 : Int32))])) target → Steps p.tables e below (T4.setTop (mkF m 12 #[.val (.ref r0), .val (.int (0 : Int32)), .val (.int (4 : Int32)), .val (.int (w0 &&& (255 : Int32))), .unset, .unset] [(.int (w0 &&& (255 : Int32))), (.ref aL)])) target := fun target kt => X4.baloadBytes hx (j := (w0 &&& (255 : Int32))) (v := (.int (4 : Int32))) (by rw [e4]; exact A_cL.1) (State.isArrayOf_alike hZ.alike A_cL.2.1) A_cL.2.2 i_cL t_cL (g := (mkF m 12 #[.val (.ref r0), .val (.int (0 : Int32)), .val (.int (4 : Int32)), .val (.int (w0 &&& (255 : Int32))), .unset, .unset] [(.int (w0 &&& (255 : Int32))), (.ref aL)])) rfl rfl (hb hby d3_12) _ kt
  have st7 : ∀ target, Steps p.tables e below (T4.setTop (mkF m 41 #[.val (.ref r0), .val (.int (0 : Int32)), .val (.int (4 : Int32)), .val (.int (w0 &&& (255 : Int32))), .val (.int (4 : Int32)), .unset] [(.int (1 : Int32)), (.ref r0)])) target → Steps p.tables e below (T4.setTop (mkF m 13 #[.val (.ref r0), .val (.int (0 : Int32)), .val (.int (4 : Int32)), .val (.int (w0 &&& (255 : Int32))), .unset, .unset] [(.int (4 : Int32))])) target := by
    intro target kt
    refine XS.istore X4.here hx rfl (hb hby d3_13) rfl (l' := #[.val (.ref r0), .val (.int (0 : Int32)), .val (.int (4 : Int32)), .val (.int (w0 &&& (255 : Int32))), .val (.int (4 : Int32)), .unset]) rfl ?_
    show Steps p.tables e below (T4.setTop (mkF m 15 #[.val (.ref r0), .val (.int (0 : Int32)), .val (.int (4 : Int32)), .val (.int (w0 &&& (255 : Int32))), .val (.int (4 : Int32)), .unset] [])) _
    refine XS.iload X4.here hx rfl (hb hby d3_15) rfl ?_
    refine XS.iconst X4.here hx rfl (hb hby d3_17) ?_
    refine XS.icmpYes X4.here hx rfl (pc0 := 18) (pc' := 23) rfl (hb hby d3_18) rfl (feq (by decide : ¬ ((4 : Int32) = (1 : Int32)))).2 (by decide) (by decide) ?_
    refine XS.iload X4.here hx rfl (hb hby d3_23) rfl ?_
    refine XS.ifNo X4.here hx rfl (hb hby d3_25) rfl ((if0 _ _).trans (feq (by decide : ¬ ((4 : Int32) = (0 : Int32)))).1) ?_
    refine XS.iloadN X4.here hx rfl (hb hby d3_28) rfl ?_
    refine XS.iconst X4.here hx rfl (hb hby d3_29) ?_
    refine XS.iadd X4.here hx rfl (hb hby d3_30) rfl ?_
    show Steps p.tables e below (T4.setTop (mkF m 31 #[.val (.ref r0), .val (.int (0 : Int32)), .val (.int (4 : Int32)), .val (.int (w0 &&& (255 : Int32))), .val (.int (4 : Int32)), .unset] [(.int (1 : Int32))])) _
    refine XS.iloadN X4.here hx rfl (hb hby d3_31) rfl ?_
    refine XS.icmpYes X4.here hx rfl (pc0 := 32) (pc' := 37) rfl (hb hby d3_32) rfl (tlt (by decide : ((1 : Int32) < (4 : Int32)))).1 (by decide) (by decide) ?_
    refine XS.aloadN X4.here hx rfl (hb hby d3_37) rfl rfl ?_
    refine XS.iloadN X4.here hx rfl (hb hby d3_38) rfl ?_
    refine XS.iconst X4.here hx rfl (hb hby d3_39) ?_
    refine XS.iadd X4.here hx rfl (hb hby d3_40) rfl ?_
    exact kt
  obtain ⟨cl8, Ar8, qc8, Sz8, Mn8, Hs8, Gs8⟩ := id Vb
  have hin8 : ¬ ((1 : Int32) < 0 ∨ cl8.slots.size ≤ ((1 : Int32)).toNatClampNeg) := inb_of Sz8 ⟨by decide, by decide⟩
  have hat8 : cl8.slots[((1 : Int32)).toNatClampNeg]? = some (.int w1) := Hs8.at hin8 rfl
  have st8 : ∀ target, Steps p.tables e below (T4.setTop (mkF m 42 #[.val (.ref r0), .val (.int (0 : Int32)), .val (.int (4 : Int32)), .val (.int (w0 &&& (255 : Int32))), .val (.int (4 : Int32)), .unset] [(.int w1)])) target → Steps p.tables e below (T4.setTop (mkF m 41 #[.val (.ref r0), .val (.int (0 : Int32)), .val (.int (4 : Int32)), .val (.int (w0 &&& (255 : Int32))), .val (.int (4 : Int32)), .unset] [(.int (1 : Int32)), (.ref r0)])) target := fun target kt => X4.baloadBytes hx (j := (1 : Int32)) (v := (.int w1)) (by rw [e4]; exact Ar8.1) (State.isArrayOf_alike hZ.alike Ar8.2.1) Ar8.2.2 hin8 hat8 (g := (mkF m 41 #[.val (.ref r0), .val (.int (0 : Int32)), .val (.int (4 : Int32)), .val (.int (w0 &&& (255 : Int32))), .val (.int (4 : Int32)), .unset] [(.int (1 : Int32)), (.ref r0)])) rfl rfl (hb hby d3_41) _ kt
  have st9 : ∀ target, Steps p.tables e below (T4.setTop (mkF m 50 #[.val (.ref r0), .val (.int (0 : Int32)), .val (.int (4 : Int32)), .val (.int (w0 &&& (255 : Int32))), .val (.int (4 : Int32)), .val (.int (w1 &&& (255 : Int32)))] [(.int (w1 &&& (255 : Int32)))])) target → Steps p.tables e below (T4.setTop (mkF m 42 #[.val (.ref r0), .val (.int (0 : Int32)), .val (.int (4 : Int32)), .val (.int (w0 &&& (255 : Int32))), .val (.int (4 : Int32)), .unset] [(.int w1)])) target := by
    intro target kt
    refine XS.sipush X4.here hx rfl (hb hby d3_42) ?_
    refine XS.iand X4.here hx rfl (hb hby d3_45) rfl ?_
    show Steps p.tables e below (T4.setTop (mkF m 46 #[.val (.ref r0), .val (.int (0 : Int32)), .val (.int (4 : Int32)), .val (.int (w0 &&& (255 : Int32))), .val (.int (4 : Int32)), .unset] [(.int (w1 &&& (255 : Int32)))])) _
    refine XS.istore X4.here hx rfl (hb hby d3_46) rfl (l' := #[.val (.ref r0), .val (.int (0 : Int32)), .val (.int (4 : Int32)), .val (.int (w0 &&& (255 : Int32))), .val (.int (4 : Int32)), .val (.int (w1 &&& (255 : Int32)))]) rfl ?_
    refine XS.iload X4.here hx rfl (hb hby d3_48) rfl ?_
    exact kt
  obtain ⟨T10, X10, e10, st10⟩ := getS2 X4 hx hZ hown (host := "") (Or.inl (hw _ (List.mem_of_getElem? (i := 22) rfl))) Via.refl e4 S_cO (g := (mkF m 50 #[.val (.ref r0), .val (.int (0 : Int32)), .val (.int (4 : Int32)), .val (.int (w0 &&& (255 : Int32))), .val (.int (4 : Int32)), .val (.int (w1 &&& (255 : Int32)))] [(.int (w1 &&& (255 : Int32)))])) rfl (hb hby d3_50)
  have st11 : ∀ target, Steps p.tables e below (T10.setTop (mkF m 54 #[.val (.ref r0), .val (.int (0 : Int32)), .val (.int (4 : Int32)), .val (.int (w0 &&& (255 : Int32))), .val (.int (4 : Int32)), .val (.int (w1 &&& (255 : Int32)))] [(.int (w0 &&& (255 : Int32))), (.ref aO), (.int (w1 &&& (255 : Int32)))])) target → Steps p.tables e below (T10.setTop (mkF m 53 #[.val (.ref r0), .val (.int (0 : Int32)), .val (.int (4 : Int32)), .val (.int (w0 &&& (255 : Int32))), .val (.int (4 : Int32)), .val (.int (w1 &&& (255 : Int32)))] [(.ref aO), (.int (w1 &&& (255 : Int32)))])) target := by
    intro target kt
    refine XS.iloadN X10.here hx rfl (hb hby d3_53) rfl ?_
    exact kt
  have st12 : ∀ target, Steps p.tables e below (T10.setTop (mkF m 55 #[.val (.ref r0), .val (.int (0 : Int32)), .val (.int (4 : Int32)), .val (.int (w0 &&& (255 : Int32))), .val (.int (4 : Int32)), .val (.int (w1 &&& (255 : Int32)))] [(.int lo), (.int (w1 &&& (255 : Int32)))])) target → Steps p.tables e below (T10.setTop (mkF m 54 #[.val (.ref r0), .val (.int (0 : Int32)), .val (.int (4 : Int32)), .val (.int (w0 &&& (255 : Int32))), .val (.int (4 : Int32)), .val (.int (w1 &&& (255 : Int32)))] [(.int (w0 &&& (255 : Int32))), (.ref aO), (.int (w1 &&& (255 : Int32)))])) target := fun target kt => X10.iaload hx (j := (w0 &&& (255 : Int32))) (v := (.int lo)) (by rw [e10]; exact A_cO.1) (State.isArrayOf_alike hZ.alike A_cO.2.1) A_cO.2.2 i_cO t_cO (g := (mkF m 54 #[.val (.ref r0), .val (.int (0 : Int32)), .val (.int (4 : Int32)), .val (.int (w0 &&& (255 : Int32))), .val (.int (4 : Int32)), .val (.int (w1 &&& (255 : Int32)))] [(.int (w0 &&& (255 : Int32))), (.ref aO), (.int (w1 &&& (255 : Int32)))])) rfl rfl (hb hby d3_54) _ kt
  have st13 : ∀ target, Steps p.tables e below (T10.setTop (mkF m 60 #[.val (.ref r0), .val (.int (0 : Int32)), .val (.int (4 : Int32)), .val (.int (w0 &&& (255 : Int32))), .val (.int (4 : Int32)), .val (.int (w1 &&& (255 : Int32)))] [(.int (w1 &&& (255 : Int32)))])) target → Steps p.tables e below (T10.setTop (mkF m 55 #[.val (.ref r0), .val (.int (0 : Int32)), .val (.int (4 : Int32)), .val (.int (w0 &&& (255 : Int32))), .val (.int (4 : Int32)), .val (.int (w1 &&& (255 : Int32)))] [(.int lo), (.int (w1 &&& (255 : Int32)))])) target := by
    intro target kt
    refine XS.icmpNo X10.here hx rfl (hb hby d3_55) rfl (flt hlo).1 ?_
    refine XS.iload X10.here hx rfl (hb hby d3_58) rfl ?_
    exact kt
  obtain ⟨T14, X14, e14, st14⟩ := getS2 X10 hx hZ hown (host := "") (Or.inl (hw _ (List.mem_of_getElem? (i := 24) rfl))) Via.refl e10 S_cH (g := (mkF m 60 #[.val (.ref r0), .val (.int (0 : Int32)), .val (.int (4 : Int32)), .val (.int (w0 &&& (255 : Int32))), .val (.int (4 : Int32)), .val (.int (w1 &&& (255 : Int32)))] [(.int (w1 &&& (255 : Int32)))])) rfl (hb hby d3_60)
  have st15 : ∀ target, Steps p.tables e below (T14.setTop (mkF m 64 #[.val (.ref r0), .val (.int (0 : Int32)), .val (.int (4 : Int32)), .val (.int (w0 &&& (255 : Int32))), .val (.int (4 : Int32)), .val (.int (w1 &&& (255 : Int32)))] [(.int (w0 &&& (255 : Int32))), (.ref aH), (.int (w1 &&& (255 : Int32)))])) target → Steps p.tables e below (T14.setTop (mkF m 63 #[.val (.ref r0), .val (.int (0 : Int32)), .val (.int (4 : Int32)), .val (.int (w0 &&& (255 : Int32))), .val (.int (4 : Int32)), .val (.int (w1 &&& (255 : Int32)))] [(.ref aH), (.int (w1 &&& (255 : Int32)))])) target := by
    intro target kt
    refine XS.iloadN X14.here hx rfl (hb hby d3_63) rfl ?_
    exact kt
  have st16 : ∀ target, Steps p.tables e below (T14.setTop (mkF m 65 #[.val (.ref r0), .val (.int (0 : Int32)), .val (.int (4 : Int32)), .val (.int (w0 &&& (255 : Int32))), .val (.int (4 : Int32)), .val (.int (w1 &&& (255 : Int32)))] [(.int hi), (.int (w1 &&& (255 : Int32)))])) target → Steps p.tables e below (T14.setTop (mkF m 64 #[.val (.ref r0), .val (.int (0 : Int32)), .val (.int (4 : Int32)), .val (.int (w0 &&& (255 : Int32))), .val (.int (4 : Int32)), .val (.int (w1 &&& (255 : Int32)))] [(.int (w0 &&& (255 : Int32))), (.ref aH), (.int (w1 &&& (255 : Int32)))])) target := fun target kt => X14.iaload hx (j := (w0 &&& (255 : Int32))) (v := (.int hi)) (by rw [e14]; exact A_cH.1) (State.isArrayOf_alike hZ.alike A_cH.2.1) A_cH.2.2 i_cH t_cH (g := (mkF m 64 #[.val (.ref r0), .val (.int (0 : Int32)), .val (.int (4 : Int32)), .val (.int (w0 &&& (255 : Int32))), .val (.int (4 : Int32)), .val (.int (w1 &&& (255 : Int32)))] [(.int (w0 &&& (255 : Int32))), (.ref aH), (.int (w1 &&& (255 : Int32)))])) rfl rfl (hb hby d3_64) _ kt
  have st17 : ∀ target, Steps p.tables e below (T14.setTop (mkF m 89 #[.val (.ref r0), .val (.int (0 : Int32)), .val (.int (4 : Int32)), .val (.int (w0 &&& (255 : Int32))), .val (.int (4 : Int32)), .val (.int (w1 &&& (255 : Int32)))] [(.int (2 : Int32)), (.ref r0)])) target → Steps p.tables e below (T14.setTop (mkF m 65 #[.val (.ref r0), .val (.int (0 : Int32)), .val (.int (4 : Int32)), .val (.int (w0 &&& (255 : Int32))), .val (.int (4 : Int32)), .val (.int (w1 &&& (255 : Int32)))] [(.int hi), (.int (w1 &&& (255 : Int32)))])) target := by
    intro target kt
    refine XS.icmpYes X14.here hx rfl (pc0 := 65) (pc' := 70) rfl (hb hby d3_65) rfl (flt hhi).2.2.2 (by decide) (by decide) ?_
    refine XS.iload X14.here hx rfl (hb hby d3_70) rfl ?_
    show Steps p.tables e below (T14.setTop (mkF m 72 #[.val (.ref r0), .val (.int (0 : Int32)), .val (.int (4 : Int32)), .val (.int (w0 &&& (255 : Int32))), .val (.int (4 : Int32)), .val (.int (w1 &&& (255 : Int32)))] [(.int (4 : Int32))])) _
    refine XS.iconst X14.here hx rfl (hb hby d3_72) ?_
    refine XS.icmpYes X14.here hx rfl (pc0 := 73) (pc' := 78) rfl (hb hby d3_73) rfl (feq (by decide : ¬ ((4 : Int32) = (2 : Int32)))).2 (by decide) (by decide) ?_
    refine XS.iloadN X14.here hx rfl (hb hby d3_78) rfl ?_
    refine XS.iconst X14.here hx rfl (hb hby d3_79) ?_
    refine XS.iadd X14.here hx rfl (hb hby d3_80) rfl ?_
    refine XS.iloadN X14.here hx rfl (hb hby d3_81) rfl ?_
    refine XS.icmpNo X14.here hx rfl (hb hby d3_82) rfl (tlt (by decide : ((2 : Int32) < (4 : Int32)))).2.1 ?_
    refine XS.aloadN X14.here hx rfl (hb hby d3_85) rfl rfl ?_
    show Steps p.tables e below (T14.setTop (mkF m 86 #[.val (.ref r0), .val (.int (0 : Int32)), .val (.int (4 : Int32)), .val (.int (w0 &&& (255 : Int32))), .val (.int (4 : Int32)), .val (.int (w1 &&& (255 : Int32)))] [(.ref r0)])) _
    refine XS.iloadN X14.here hx rfl (hb hby d3_86) rfl ?_
    refine XS.iconst X14.here hx rfl (hb hby d3_87) ?_
    refine XS.iadd X14.here hx rfl (hb hby d3_88) rfl ?_
    exact kt
  obtain ⟨cl18, Ar18, qc18, Sz18, Mn18, Hs18, Gs18⟩ := id Vb
  have hin18 : ¬ ((2 : Int32) < 0 ∨ cl18.slots.size ≤ ((2 : Int32)).toNatClampNeg) := inb_of Sz18 ⟨by decide, by decide⟩
  have hat18 : cl18.slots[((2 : Int32)).toNatClampNeg]? = some (.int w2) := Hs18.at hin18 rfl
  have st18 : ∀ target, Steps p.tables e below (T14.setTop (mkF m 90 #[.val (.ref r0), .val (.int (0 : Int32)), .val (.int (4 : Int32)), .val (.int (w0 &&& (255 : Int32))), .val (.int (4 : Int32)), .val (.int (w1 &&& (255 : Int32)))] [(.int w2)])) target → Steps p.tables e below (T14.setTop (mkF m 89 #[.val (.ref r0), .val (.int (0 : Int32)), .val (.int (4 : Int32)), .val (.int (w0 &&& (255 : Int32))), .val (.int (4 : Int32)), .val (.int (w1 &&& (255 : Int32)))] [(.int (2 : Int32)), (.ref r0)])) target := fun target kt => X14.baloadBytes hx (j := (2 : Int32)) (v := (.int w2)) (by rw [e14]; exact Ar18.1) (State.isArrayOf_alike hZ.alike Ar18.2.1) Ar18.2.2 hin18 hat18 (g := (mkF m 89 #[.val (.ref r0), .val (.int (0 : Int32)), .val (.int (4 : Int32)), .val (.int (w0 &&& (255 : Int32))), .val (.int (4 : Int32)), .val (.int (w1 &&& (255 : Int32)))] [(.int (2 : Int32)), (.ref r0)])) rfl rfl (hb hby d3_89) _ kt
  have st19 : ∀ target, Steps p.tables e below (T14.setTop (mkF m 94 #[.val (.ref r0), .val (.int (0 : Int32)), .val (.int (4 : Int32)), .val (.int (w0 &&& (255 : Int32))), .val (.int (4 : Int32)), .val (.int (w1 &&& (255 : Int32)))] [(.int (w2 &&& (255 : Int32)))])) target → Steps p.tables e below (T14.setTop (mkF m 90 #[.val (.ref r0), .val (.int (0 : Int32)), .val (.int (4 : Int32)), .val (.int (w0 &&& (255 : Int32))), .val (.int (4 : Int32)), .val (.int (w1 &&& (255 : Int32)))] [(.int w2)])) target := by
    intro target kt
    refine XS.sipush X14.here hx rfl (hb hby d3_90) ?_
    refine XS.iand X14.here hx rfl (hb hby d3_93) rfl ?_
    exact kt
  obtain ⟨_, _, ⟨T20, L20, k20, n20⟩, -, X20, ⟨Lc20, hQ20, l20, y20, z20⟩, st20⟩ := Jvm.LawKit.callS X14 hx (y := (⟨"com/example/murray_hill/murrayhill/WellFormed", "isContinuation", "(I)Z"⟩ : MethodName)) hown (mvT hZ (hw _ (List.mem_of_getElem? (i := 26) rfl))) (mvT hZ (hw _ (List.mem_of_getElem? (i := 27) rfl))) (mvT hZ (hw _ (List.mem_of_getElem? (i := 5) rfl))) (mvT hZ (hw _ (List.mem_of_getElem? (i := 28) rfl))) (by decide) (backOf (W := 0) (rm5 l Z a0 hw [] (w2 &&& (255 : Int32))  h0 n0 Z0 ) hZ (hw _ (List.mem_of_getElem? (i := 28) rfl)) (hw _ (List.mem_of_getElem? (i := 5) rfl)) (by decide) (by decide)) (g := (mkF m 94 #[.val (.ref r0), .val (.int (0 : Int32)), .val (.int (4 : Int32)), .val (.int (w0 &&& (255 : Int32))), .val (.int (4 : Int32)), .val (.int (w1 &&& (255 : Int32)))] [(.int (w2 &&& (255 : Int32)))])) rfl (by rw [hml]; rfl) (argsL := [(.int (w2 &&& (255 : Int32)))]) (rest := []) (lenOf pd_3 rfl) rfl (by show 2 * 0 + _ ≤ _; exact Nat.le_of_eq rfl) (hb hby d3_94) (fun _ _ => ⟨rfl, e14, (by decide : 0 + 0 ≤ _), (by decide : 0 + 0 ≤ _)⟩)
  dsimp only [Pt.U, Pt.locs, Pt.cells, Pt.slots] at X20 l20 y20 z20 st20 hQ20
  subst l20 y20 z20
  obtain ⟨rfl, Nq20, e20⟩ := hQ20
  have N20 := Fr.app N0 Nq20
  rw [c2] at st20
  have st21 : ∀ target, Steps p.tables e below (T20.setTop (mkF m 122 #[.val (.ref r0), .val (.int (0 : Int32)), .val (.int (4 : Int32)), .val (.int (w0 &&& (255 : Int32))), .val (.int (4 : Int32)), .val (.int (w1 &&& (255 : Int32)))] [(.int (3 : Int32)), (.ref r0)])) target → Steps p.tables e below (T20.setTop (mkF m 97 #[.val (.ref r0), .val (.int (0 : Int32)), .val (.int (4 : Int32)), .val (.int (w0 &&& (255 : Int32))), .val (.int (4 : Int32)), .val (.int (w1 &&& (255 : Int32)))] [(.int (1 : Int32))])) target := by
    intro target kt
    refine XS.ifYes X20.here hx rfl (pc0 := 97) (pc' := 103) rfl (hb hby d3_97) rfl ((if0 _ _).trans (feq (by decide : ¬ ((1 : Int32) = (0 : Int32)))).2) (by decide) (by decide) ?_
    refine XS.iload X20.here hx rfl (hb hby d3_103) rfl ?_
    refine XS.iconst X20.here hx rfl (hb hby d3_105) ?_
    show Steps p.tables e below (T20.setTop (mkF m 106 #[.val (.ref r0), .val (.int (0 : Int32)), .val (.int (4 : Int32)), .val (.int (w0 &&& (255 : Int32))), .val (.int (4 : Int32)), .val (.int (w1 &&& (255 : Int32)))] [(.int (3 : Int32)), (.int (4 : Int32))])) _
    refine XS.icmpYes X20.here hx rfl (pc0 := 106) (pc' := 111) rfl (hb hby d3_106) rfl (feq (by decide : ¬ ((4 : Int32) = (3 : Int32)))).2 (by decide) (by decide) ?_
    refine XS.iloadN X20.here hx rfl (hb hby d3_111) rfl ?_
    refine XS.iconst X20.here hx rfl (hb hby d3_112) ?_
    refine XS.iadd X20.here hx rfl (hb hby d3_113) rfl ?_
    refine XS.iloadN X20.here hx rfl (hb hby d3_114) rfl ?_
    refine XS.icmpNo X20.here hx rfl (hb hby d3_115) rfl (tlt (by decide : ((3 : Int32) < (4 : Int32)))).2.1 ?_
    refine XS.aloadN X20.here hx rfl (hb hby d3_118) rfl rfl ?_
    refine XS.iloadN X20.here hx rfl (hb hby d3_119) rfl ?_
    show Steps p.tables e below (T20.setTop (mkF m 120 #[.val (.ref r0), .val (.int (0 : Int32)), .val (.int (4 : Int32)), .val (.int (w0 &&& (255 : Int32))), .val (.int (4 : Int32)), .val (.int (w1 &&& (255 : Int32)))] [(.int (0 : Int32)), (.ref r0)])) _
    refine XS.iconst X20.here hx rfl (hb hby d3_120) ?_
    refine XS.iadd X20.here hx rfl (hb hby d3_121) rfl ?_
    exact kt
  obtain ⟨cl22, Ar22, qc22, Sz22, Mn22, Hs22, Gs22⟩ := id Vb
  have hin22 : ¬ ((3 : Int32) < 0 ∨ cl22.slots.size ≤ ((3 : Int32)).toNatClampNeg) := inb_of Sz22 ⟨by decide, by decide⟩
  have hat22 : cl22.slots[((3 : Int32)).toNatClampNeg]? = some (.int w3) := Hs22.at hin22 rfl
  have st22 : ∀ target, Steps p.tables e below (T20.setTop (mkF m 123 #[.val (.ref r0), .val (.int (0 : Int32)), .val (.int (4 : Int32)), .val (.int (w0 &&& (255 : Int32))), .val (.int (4 : Int32)), .val (.int (w1 &&& (255 : Int32)))] [(.int w3)])) target → Steps p.tables e below (T20.setTop (mkF m 122 #[.val (.ref r0), .val (.int (0 : Int32)), .val (.int (4 : Int32)), .val (.int (w0 &&& (255 : Int32))), .val (.int (4 : Int32)), .val (.int (w1 &&& (255 : Int32)))] [(.int (3 : Int32)), (.ref r0)])) target := fun target kt => X20.baloadBytes hx (j := (3 : Int32)) (v := (.int w3)) (by rw [e20]; exact Ar22.1) (State.isArrayOf_alike hZ.alike Ar22.2.1) Ar22.2.2 hin22 hat22 (g := (mkF m 122 #[.val (.ref r0), .val (.int (0 : Int32)), .val (.int (4 : Int32)), .val (.int (w0 &&& (255 : Int32))), .val (.int (4 : Int32)), .val (.int (w1 &&& (255 : Int32)))] [(.int (3 : Int32)), (.ref r0)])) rfl rfl (hb hby d3_122) _ kt
  have st23 : ∀ target, Steps p.tables e below (T20.setTop (mkF m 127 #[.val (.ref r0), .val (.int (0 : Int32)), .val (.int (4 : Int32)), .val (.int (w0 &&& (255 : Int32))), .val (.int (4 : Int32)), .val (.int (w1 &&& (255 : Int32)))] [(.int (w3 &&& (255 : Int32)))])) target → Steps p.tables e below (T20.setTop (mkF m 123 #[.val (.ref r0), .val (.int (0 : Int32)), .val (.int (4 : Int32)), .val (.int (w0 &&& (255 : Int32))), .val (.int (4 : Int32)), .val (.int (w1 &&& (255 : Int32)))] [(.int w3)])) target := by
    intro target kt
    refine XS.sipush X20.here hx rfl (hb hby d3_123) ?_
    refine XS.iand X20.here hx rfl (hb hby d3_126) rfl ?_
    exact kt
  obtain ⟨_, _, ⟨T24, L24, k24, n24⟩, -, X24, ⟨Lc24, hQ24, l24, y24, z24⟩, st24⟩ := Jvm.LawKit.callS X20 hx (y := (⟨"com/example/murray_hill/murrayhill/WellFormed", "isContinuation", "(I)Z"⟩ : MethodName)) hown (mvT hZ (hw _ (List.mem_of_getElem? (i := 26) rfl))) (mvT hZ (hw _ (List.mem_of_getElem? (i := 27) rfl))) (mvT hZ (hw _ (List.mem_of_getElem? (i := 5) rfl))) (mvT hZ (hw _ (List.mem_of_getElem? (i := 28) rfl))) (by decide) (backOf (W := 0) (rm5 l Z a0 hw [] (w3 &&& (255 : Int32))  h0 n0 Z0 ) hZ (hw _ (List.mem_of_getElem? (i := 28) rfl)) (hw _ (List.mem_of_getElem? (i := 5) rfl)) (by decide) (by decide)) (g := (mkF m 127 #[.val (.ref r0), .val (.int (0 : Int32)), .val (.int (4 : Int32)), .val (.int (w0 &&& (255 : Int32))), .val (.int (4 : Int32)), .val (.int (w1 &&& (255 : Int32)))] [(.int (w3 &&& (255 : Int32)))])) rfl (by rw [hml]; rfl) (argsL := [(.int (w3 &&& (255 : Int32)))]) (rest := []) (lenOf pd_3 rfl) rfl (by show 2 * 0 + _ ≤ _; exact Nat.le_of_eq rfl) (hb hby d3_127) (fun _ _ => ⟨rfl, e20, (by decide : 0 + 0 ≤ _), (by decide : 0 + 0 ≤ _)⟩)
  dsimp only [Pt.U, Pt.locs, Pt.cells, Pt.slots] at X24 l24 y24 z24 st24 hQ24
  subst l24 y24 z24
  obtain ⟨rfl, Nq24, e24⟩ := hQ24
  have N24 := Fr.app N20 Nq24
  rw [c3] at st24
  have st25 : ∀ target, Steps p.tables e below (T24.setTop (mkF m 137 #[.val (.ref r0), .val (.int (0 : Int32)), .val (.int (4 : Int32)), .val (.int (w0 &&& (255 : Int32))), .val (.int (4 : Int32)), .val (.int (w1 &&& (255 : Int32)))] [(.int (4 : Int32))])) target → Steps p.tables e below (T24.setTop (mkF m 130 #[.val (.ref r0), .val (.int (0 : Int32)), .val (.int (4 : Int32)), .val (.int (w0 &&& (255 : Int32))), .val (.int (4 : Int32)), .val (.int (w1 &&& (255 : Int32)))] [(.int (1 : Int32))])) target := by
    intro target kt
    refine XS.ifYes X24.here hx rfl (pc0 := 130) (pc' := 136) rfl (hb hby d3_130) rfl ((if0 _ _).trans (feq (by decide : ¬ ((1 : Int32) = (0 : Int32)))).2) (by decide) (by decide) ?_
    refine XS.iconst X24.here hx rfl (hb hby d3_136) ?_
    exact kt
  obtain ⟨fs, hr, hrun, hended, hW, hsame⟩ := X24.leave (v := some (.int (4 : Int32))) (fun h => by rw [Bd.returns] at h; cases h)
  refine ⟨_, _, pre0 _ (st1 _ (st2 _ (st3 _ (st4 _ (st5 _ (st6 _ (st7 _ (st8 _ (st9 _ (st10 _ (st11 _ (st12 _ (st13 _ (st14 _ (st15 _ (st16 _ (st17 _ (st18 _ (st19 _ (st20 _ (st21 _ (st22 _ (st23 _ (st24 _ (st25 _ ?_))))))))))))))))))))))))), hrun, hended, _, _, rfl, ?_, ⟨_, rfl⟩, hW, hsame.mono (by decide) (by decide)⟩
  · show Steps p.tables e below (T24.setTop (mkF m 137 #[.val (.ref r0), .val (.int (0 : Int32)), .val (.int (4 : Int32)), .val (.int (w0 &&& (255 : Int32))), .val (.int (4 : Int32)), .val (.int (w1 &&& (255 : Int32)))] [(.int (4 : Int32))])) _
    exact retI X24 hx Bd.returns (hb hby d3_137) hr
  · show Q_rmN4 Z r0 kk w0 w1 w2 w3 cL aL cO aO cH aH lo hi h0 n0 _ T24.heap _
    rw [e24]
    exact ⟨rfl, N24, rfl⟩
def own_cp1 (w0 : Int32) : Int32 := (w0 &&& (255 : Int32))
theorem d4_0 : decode prog_39_method_13_code 0 = .ok (.aload_n 0, 1) := by decide +kernel
theorem d4_1 : decode prog_39_method_13_code 1 = .ok (.iload_n 1, 1) := by decide +kernel
theorem d4_2 : decode prog_39_method_13_code 2 = .ok (.baload, 1) := by decide +kernel
theorem d4_3 : decode prog_39_method_13_code 3 = .ok (.sipush 255, 3) := by decide +kernel
theorem d4_6 : decode prog_39_method_13_code 6 = .ok (.iand, 1) := by decide +kernel
theorem d4_7 : decode prog_39_method_13_code 7 = .ok (.istore_n 3, 1) := by decide +kernel
theorem d4_8 : decode prog_39_method_13_code 8 = .ok (.iload_n 2, 1) := by decide +kernel
theorem d4_9 : decode prog_39_method_13_code 9 = .ok (.iconst 1, 1) := by decide +kernel
theorem d4_10 : decode prog_39_method_13_code 10 = .ok (.if_icmp .ne 5, 3) := by decide +kernel
theorem d4_13 : decode prog_39_method_13_code 13 = .ok (.iload_n 3, 1) := by decide +kernel
theorem d4_14 : decode prog_39_method_13_code 14 = .ok (.ireturn, 1) := by decide +kernel
theorem d4_15 : decode prog_39_method_13_code 15 = .ok (.iload_n 3, 1) := by decide +kernel
theorem d4_16 : decode prog_39_method_13_code 16 = .ok (.bipush 127, 2) := by decide +kernel
theorem d4_18 : decode prog_39_method_13_code 18 = .ok (.iload_n 2, 1) := by decide +kernel
theorem d4_19 : decode prog_39_method_13_code 19 = .ok (.ishr, 1) := by decide +kernel
theorem d4_20 : decode prog_39_method_13_code 20 = .ok (.iand, 1) := by decide +kernel
theorem d4_21 : decode prog_39_method_13_code 21 = .ok (.istore 4, 2) := by decide +kernel
theorem d4_23 : decode prog_39_method_13_code 23 = .ok (.iconst 1, 1) := by decide +kernel
theorem d4_24 : decode prog_39_method_13_code 24 = .ok (.istore 5, 2) := by decide +kernel
theorem d4_26 : decode prog_39_method_13_code 26 = .ok (.iload 5, 2) := by decide +kernel
theorem d4_28 : decode prog_39_method_13_code 28 = .ok (.iload_n 2, 1) := by decide +kernel
theorem d4_29 : decode prog_39_method_13_code 29 = .ok (.if_icmp .ge 26, 3) := by decide +kernel
theorem d4_32 : decode prog_39_method_13_code 32 = .ok (.iload 4, 2) := by decide +kernel
theorem d4_34 : decode prog_39_method_13_code 34 = .ok (.bipush 6, 2) := by decide +kernel
theorem d4_36 : decode prog_39_method_13_code 36 = .ok (.ishl, 1) := by decide +kernel
theorem d4_37 : decode prog_39_method_13_code 37 = .ok (.aload_n 0, 1) := by decide +kernel
theorem d4_38 : decode prog_39_method_13_code 38 = .ok (.iload_n 1, 1) := by decide +kernel
theorem d4_39 : decode prog_39_method_13_code 39 = .ok (.iload 5, 2) := by decide +kernel
theorem d4_41 : decode prog_39_method_13_code 41 = .ok (.iadd, 1) := by decide +kernel
theorem d4_42 : decode prog_39_method_13_code 42 = .ok (.baload, 1) := by decide +kernel
theorem d4_43 : decode prog_39_method_13_code 43 = .ok (.bipush 63, 2) := by decide +kernel
theorem d4_45 : decode prog_39_method_13_code 45 = .ok (.iand, 1) := by decide +kernel
theorem d4_46 : decode prog_39_method_13_code 46 = .ok (.ior, 1) := by decide +kernel
theorem d4_47 : decode prog_39_method_13_code 47 = .ok (.istore 4, 2) := by decide +kernel
theorem d4_49 : decode prog_39_method_13_code 49 = .ok (.iinc 5 1, 3) := by decide +kernel
theorem d4_52 : decode prog_39_method_13_code 52 = .ok (.goto (-26), 3) := by decide +kernel
theorem d4_55 : decode prog_39_method_13_code 55 = .ok (.iload 4, 2) := by decide +kernel
theorem d4_57 : decode prog_39_method_13_code 57 = .ok (.ireturn, 1) := by decide +kernel
theorem ef_rmCP1 (m : MethodId) (x0 : Addr) (x1 : Int32) (x2 : Int32) : entryFrame m #[(.ref x0), (.int x1), (.int x2)] 6 = mkF m 0 #[.val (.ref x0), .val (.int x1), .val (.int x2), .unset, .unset, .unset] [] := by first | (simp [entryFrame, mkF, argsToLocals, Value.category]; done) | rfl
def Q_rmCP1 (Z : State) (r0 : Addr) (cl : Cell) (w0 : Int32) (h0 : Heap) (n0 : Nat) (v : Option Value) (h : Heap) (L : List Loc) : Prop := v = some (.int (own_cp1 w0)) ∧ Fr n0 L ∧ h = h0
set_option maxRecDepth 65536 in
set_option maxHeartbeats 40000000 in
theorem rmCP1 (l : Launch) (Z : State) (a0 : Array Value) (hw : ∀ d ∈ tables_1, d.before a0 Z = true) (ws : List Jvm.Cond) (r0 : Addr) (cl : Cell) (w0 : Int32) (h0 : Heap) (n0 : Nat) (Z0 : n0 ≤ h0.size) (Ar : Arr Z h0 r0 cl .byte) (hin0 : ¬ ((0 : Int32) < 0 ∨ cl.slots.size ≤ ((0 : Int32)).toNatClampNeg)) (hat0 : cl.slots[((0 : Int32)).toNatClampNeg]? = some (.int w0)) :
    MetFree l (⟨"com/example/murray_hill/murrayhill/WellFormed", "codePoint", "([BII)I"⟩ : MethodName) (head1 (Jvm.Cond.code (⟨"com/example/murray_hill/murrayhill/WellFormed", "codePoint", "([BII)I"⟩ : MethodName) prog_39_method_13_code 6 (some .int) :: ws) ({ frames := 0, cells := 0, slots := 0, locals := 0 } : Room)) (fun a U => a = #[(.ref r0), (.int (0 : Int32)), (.int (1 : Int32))] ∧ Z.Warmed39 U.vm ∧ U.heap = h0) (fun _ _ _ _ _ => True) (fun _ U o U' => ∃ v L, o = .returned v ∧ Q_rmCP1 Z r0 cl w0 h0 n0 v U'.heap L ∧ FrameEnd U o U' L ({ frames := 0, cells := 0, slots := 0, locals := 0 } : Room).cells ({ frames := 0, cells := 0, slots := 0, locals := 0 } : Room).slots) := by
  refine MetFree.of_bodySF (plainFor_of_name pn_0) hisR ?_
  intro p e s m args below meth c s₁ Bd hml0 hP hK
  obtain ⟨rfl, hZ, hh⟩ := hP
  have hx := Bd.exec
  have hby := Bd.bytes
  have hml : c.maxLocals = 6 := hml0
  have hown : s.vm.findClass "com/example/murray_hill/murrayhill/WellFormed" = some m.cls := findClass_of_methodNamed Bd.named
  have hnm := (name_of_methodNamed Bd.named Bd.method).1
  have X0 : Stand p l e ({ frames := 0, cells := 0, slots := 0, locals := 0 } : Room) s m #[(.ref r0), (.int (0 : Int32)), (.int (1 : Int32))] below meth c s₁ [] 0 0 := Stand.of_body Bd
  have e0 : s₁.heap = h0 := by rw [← hh, Bd.state]; rfl
  have N0 := Fr.nil n0
  have pre0 : ∀ t, Steps p.tables e below (s₁.setTop (mkF m 0 #[.val (.ref r0), .val (.int (0 : Int32)), .val (.int (1 : Int32)), .unset, .unset, .unset] [])) t → Steps p.tables e below (s₁.setTop (entryFrame m #[(.ref r0), (.int (0 : Int32)), (.int (1 : Int32))] 6)) t := fun t k => castTop (ef_rmCP1 m r0 (0 : Int32) (1 : Int32)) k
  have st1 : ∀ target, Steps p.tables e below (s₁.setTop (mkF m 2 #[.val (.ref r0), .val (.int (0 : Int32)), .val (.int (1 : Int32)), .unset, .unset, .unset] [(.int (0 : Int32)), (.ref r0)])) target → Steps p.tables e below (s₁.setTop (mkF m 0 #[.val (.ref r0), .val (.int (0 : Int32)), .val (.int (1 : Int32)), .unset, .unset, .unset] [])) target := by
    intro target kt
    refine XS.aloadN X0.here hx rfl (hb hby d4_0) rfl rfl ?_
    refine XS.iloadN X0.here hx rfl (hb hby d4_1) rfl ?_
    exact kt
  have st2 : ∀ target, Steps p.tables e below (s₁.setTop (mkF m 3 #[.val (.ref r0), .val (.int (0 : Int32)), .val (.int (1 : Int32)), .unset, .unset, .unset] [(.int w0)])) target → Steps p.tables e below (s₁.setTop (mkF m 2 #[.val (.ref r0), .val (.int (0 : Int32)), .val (.int (1 : Int32)), .unset, .unset, .unset] [(.int (0 : Int32)), (.ref r0)])) target := fun target kt => X0.baloadBytes hx (j := (0 : Int32)) (v := (.int w0)) (by rw [e0]; exact Ar.1) (State.isArrayOf_alike hZ.alike Ar.2.1) Ar.2.2 hin0 hat0 (g := (mkF m 2 #[.val (.ref r0), .val (.int (0 : Int32)), .val (.int (1 : Int32)), .unset, .unset, .unset] [(.int (0 : Int32)), (.ref r0)])) rfl rfl (hb hby d4_2) _ kt
  obtain ⟨fs, hr, hrun, hended, hW, hsame⟩ := X0.leave (v := some (.int (w0 &&& (255 : Int32)))) (fun h => by rw [Bd.returns] at h; cases h)
  refine ⟨_, _, pre0 _ (st1 _ (st2 _ ?_)), hrun, hended, _, _, rfl, ?_, ⟨_, rfl⟩, hW, hsame.mono (by decide) (by decide)⟩
  · refine XS.sipush X0.here hx rfl (hb hby d4_3) ?_
    refine XS.iand X0.here hx rfl (hb hby d4_6) rfl ?_
    refine XS.istoreN X0.here hx rfl (hb hby d4_7) rfl (l' := #[.val (.ref r0), .val (.int (0 : Int32)), .val (.int (1 : Int32)), .val (.int (w0 &&& (255 : Int32))), .unset, .unset]) rfl ?_
    refine XS.iloadN X0.here hx rfl (hb hby d4_8) rfl ?_
    refine XS.iconst X0.here hx rfl (hb hby d4_9) ?_
    show Steps p.tables e below (s₁.setTop (mkF m 10 #[.val (.ref r0), .val (.int (0 : Int32)), .val (.int (1 : Int32)), .val (.int (w0 &&& (255 : Int32))), .unset, .unset] [(.int (1 : Int32)), (.int (1 : Int32))])) _
    refine XS.icmpNo X0.here hx rfl (hb hby d4_10) rfl (teq (rfl : (1 : Int32) = (1 : Int32))).2 ?_
    refine XS.iloadN X0.here hx rfl (hb hby d4_13) rfl ?_
    show Steps p.tables e below (s₁.setTop (mkF m 14 #[.val (.ref r0), .val (.int (0 : Int32)), .val (.int (1 : Int32)), .val (.int (w0 &&& (255 : Int32))), .unset, .unset] [(.int (w0 &&& (255 : Int32)))])) _
    exact retI X0 hx Bd.returns (hb hby d4_14) hr
  · show Q_rmCP1 Z r0 cl w0 h0 n0 _ s₁.heap _
    rw [e0]
    exact ⟨rfl, N0, rfl⟩
def own_cp2 (w0 w1 : Int32) : Int32 := ((((w0 &&& (255 : Int32)) &&& ((127 : Int32) >>> ((2 : Int32) &&& 31))) <<< ((6 : Int32) &&& 31)) ||| (w1 &&& (63 : Int32)))
theorem ef_rmCP2 (m : MethodId) (x0 : Addr) (x1 : Int32) (x2 : Int32) : entryFrame m #[(.ref x0), (.int x1), (.int x2)] 6 = mkF m 0 #[.val (.ref x0), .val (.int x1), .val (.int x2), .unset, .unset, .unset] [] := by first | (simp [entryFrame, mkF, argsToLocals, Value.category]; done) | rfl
def Q_rmCP2 (Z : State) (r0 : Addr) (cl : Cell) (w0 : Int32) (w1 : Int32) (h0 : Heap) (n0 : Nat) (v : Option Value) (h : Heap) (L : List Loc) : Prop := v = some (.int (own_cp2 w0 w1)) ∧ Fr n0 L ∧ h = h0
set_option maxRecDepth 65536 in
set_option maxHeartbeats 40000000 in
theorem rmCP2 (l : Launch) (Z : State) (a0 : Array Value) (hw : ∀ d ∈ tables_1, d.before a0 Z = true) (ws : List Jvm.Cond) (r0 : Addr) (cl : Cell) (w0 : Int32) (w1 : Int32) (h0 : Heap) (n0 : Nat) (Z0 : n0 ≤ h0.size) (Ar : Arr Z h0 r0 cl .byte) (hin0 : ¬ ((0 : Int32) < 0 ∨ cl.slots.size ≤ ((0 : Int32)).toNatClampNeg)) (hin1 : ¬ ((1 : Int32) < 0 ∨ cl.slots.size ≤ ((1 : Int32)).toNatClampNeg)) (hat0 : cl.slots[((0 : Int32)).toNatClampNeg]? = some (.int w0)) (hat1 : cl.slots[((1 : Int32)).toNatClampNeg]? = some (.int w1)) :
    MetFree l (⟨"com/example/murray_hill/murrayhill/WellFormed", "codePoint", "([BII)I"⟩ : MethodName) (head1 (Jvm.Cond.code (⟨"com/example/murray_hill/murrayhill/WellFormed", "codePoint", "([BII)I"⟩ : MethodName) prog_39_method_13_code 6 (some .int) :: ws) ({ frames := 0, cells := 0, slots := 0, locals := 0 } : Room)) (fun a U => a = #[(.ref r0), (.int (0 : Int32)), (.int (2 : Int32))] ∧ Z.Warmed39 U.vm ∧ U.heap = h0) (fun _ _ _ _ _ => True) (fun _ U o U' => ∃ v L, o = .returned v ∧ Q_rmCP2 Z r0 cl w0 w1 h0 n0 v U'.heap L ∧ FrameEnd U o U' L ({ frames := 0, cells := 0, slots := 0, locals := 0 } : Room).cells ({ frames := 0, cells := 0, slots := 0, locals := 0 } : Room).slots) := by
  refine MetFree.of_bodySF (plainFor_of_name pn_0) hisR ?_
  intro p e s m args below meth c s₁ Bd hml0 hP hK
  obtain ⟨rfl, hZ, hh⟩ := hP
  have hx := Bd.exec
  have hby := Bd.bytes
  have hml : c.maxLocals = 6 := hml0
  have hown : s.vm.findClass "com/example/murray_hill/murrayhill/WellFormed" = some m.cls := findClass_of_methodNamed Bd.named
  have hnm := (name_of_methodNamed Bd.named Bd.method).1
  have X0 : Stand p l e ({ frames := 0, cells := 0, slots := 0, locals := 0 } : Room) s m #[(.ref r0), (.int (0 : Int32)), (.int (2 : Int32))] below meth c s₁ [] 0 0 := Stand.of_body Bd
  have e0 : s₁.heap = h0 := by rw [← hh, Bd.state]; rfl
  have N0 := Fr.nil n0
  have pre0 : ∀ t, Steps p.tables e below (s₁.setTop (mkF m 0 #[.val (.ref r0), .val (.int (0 : Int32)), .val (.int (2 : Int32)), .unset, .unset, .unset] [])) t → Steps p.tables e below (s₁.setTop (entryFrame m #[(.ref r0), (.int (0 : Int32)), (.int (2 : Int32))] 6)) t := fun t k => castTop (ef_rmCP2 m r0 (0 : Int32) (2 : Int32)) k
  have st1 : ∀ target, Steps p.tables e below (s₁.setTop (mkF m 2 #[.val (.ref r0), .val (.int (0 : Int32)), .val (.int (2 : Int32)), .unset, .unset, .unset] [(.int (0 : Int32)), (.ref r0)])) target → Steps p.tables e below (s₁.setTop (mkF m 0 #[.val (.ref r0), .val (.int (0 : Int32)), .val (.int (2 : Int32)), .unset, .unset, .unset] [])) target := by
    intro target kt
    refine XS.aloadN X0.here hx rfl (hb hby d4_0) rfl rfl ?_
    refine XS.iloadN X0.here hx rfl (hb hby d4_1) rfl ?_
    exact kt
  have st2 : ∀ target, Steps p.tables e below (s₁.setTop (mkF m 3 #[.val (.ref r0), .val (.int (0 : Int32)), .val (.int (2 : Int32)), .unset, .unset, .unset] [(.int w0)])) target → Steps p.tables e below (s₁.setTop (mkF m 2 #[.val (.ref r0), .val (.int (0 : Int32)), .val (.int (2 : Int32)), .unset, .unset, .unset] [(.int (0 : Int32)), (.ref r0)])) target := fun target kt => X0.baloadBytes hx (j := (0 : Int32)) (v := (.int w0)) (by rw [e0]; exact Ar.1) (State.isArrayOf_alike hZ.alike Ar.2.1) Ar.2.2 hin0 hat0 (g := (mkF m 2 #[.val (.ref r0), .val (.int (0 : Int32)), .val (.int (2 : Int32)), .unset, .unset, .unset] [(.int (0 : Int32)), (.ref r0)])) rfl rfl (hb hby d4_2) _ kt
  have st3 : ∀ target, Steps p.tables e below (s₁.setTop (mkF m 42 #[.val (.ref r0), .val (.int (0 : Int32)), .val (.int (2 : Int32)), .val (.int (w0 &&& (255 : Int32))), .val (.int ((w0 &&& (255 : Int32)) &&& ((127 : Int32) >>> ((2 : Int32) &&& 31)))), .val (.int (1 : Int32))] [(.int (1 : Int32)), (.ref r0), (.int (((w0 &&& (255 : Int32)) &&& ((127 : Int32) >>> ((2 : Int32) &&& 31))) <<< ((6 : Int32) &&& 31)))])) target → Steps p.tables e below (s₁.setTop (mkF m 3 #[.val (.ref r0), .val (.int (0 : Int32)), .val (.int (2 : Int32)), .unset, .unset, .unset] [(.int w0)])) target := by
    intro target kt
    refine XS.sipush X0.here hx rfl (hb hby d4_3) ?_
    refine XS.iand X0.here hx rfl (hb hby d4_6) rfl ?_
    refine XS.istoreN X0.here hx rfl (hb hby d4_7) rfl (l' := #[.val (.ref r0), .val (.int (0 : Int32)), .val (.int (2 : Int32)), .val (.int (w0 &&& (255 : Int32))), .unset, .unset]) rfl ?_
    refine XS.iloadN X0.here hx rfl (hb hby d4_8) rfl ?_
    refine XS.iconst X0.here hx rfl (hb hby d4_9) ?_
    show Steps p.tables e below (s₁.setTop (mkF m 10 #[.val (.ref r0), .val (.int (0 : Int32)), .val (.int (2 : Int32)), .val (.int (w0 &&& (255 : Int32))), .unset, .unset] [(.int (1 : Int32)), (.int (2 : Int32))])) _
    refine XS.icmpYes X0.here hx rfl (pc0 := 10) (pc' := 15) rfl (hb hby d4_10) rfl (feq (by decide : ¬ ((2 : Int32) = (1 : Int32)))).2 (by decide) (by decide) ?_
    refine XS.iloadN X0.here hx rfl (hb hby d4_15) rfl ?_
    refine XS.bipush X0.here hx rfl (hb hby d4_16) ?_
    refine XS.iloadN X0.here hx rfl (hb hby d4_18) rfl ?_
    refine XS.ishr X0.here hx rfl (hb hby d4_19) rfl ?_
    refine XS.iand X0.here hx rfl (hb hby d4_20) rfl ?_
    refine XS.istore X0.here hx rfl (hb hby d4_21) rfl (l' := #[.val (.ref r0), .val (.int (0 : Int32)), .val (.int (2 : Int32)), .val (.int (w0 &&& (255 : Int32))), .val (.int ((w0 &&& (255 : Int32)) &&& ((127 : Int32) >>> ((2 : Int32) &&& 31)))), .unset]) rfl ?_
    refine XS.iconst X0.here hx rfl (hb hby d4_23) ?_
    show Steps p.tables e below (s₁.setTop (mkF m 24 #[.val (.ref r0), .val (.int (0 : Int32)), .val (.int (2 : Int32)), .val (.int (w0 &&& (255 : Int32))), .val (.int ((w0 &&& (255 : Int32)) &&& ((127 : Int32) >>> ((2 : Int32) &&& 31)))), .unset] [(.int (1 : Int32))])) _
    refine XS.istore X0.here hx rfl (hb hby d4_24) rfl (l' := #[.val (.ref r0), .val (.int (0 : Int32)), .val (.int (2 : Int32)), .val (.int (w0 &&& (255 : Int32))), .val (.int ((w0 &&& (255 : Int32)) &&& ((127 : Int32) >>> ((2 : Int32) &&& 31)))), .val (.int (1 : Int32))]) rfl ?_
    refine XS.iload X0.here hx rfl (hb hby d4_26) rfl ?_
    refine XS.iloadN X0.here hx rfl (hb hby d4_28) rfl ?_
    refine XS.icmpNo X0.here hx rfl (hb hby d4_29) rfl (tlt (by decide : ((1 : Int32) < (2 : Int32)))).2.1 ?_
    refine XS.iload X0.here hx rfl (hb hby d4_32) rfl ?_
    refine XS.bipush X0.here hx rfl (hb hby d4_34) ?_
    refine XS.ishl X0.here hx rfl (hb hby d4_36) rfl ?_
    refine XS.aloadN X0.here hx rfl (hb hby d4_37) rfl rfl ?_
    show Steps p.tables e below (s₁.setTop (mkF m 38 #[.val (.ref r0), .val (.int (0 : Int32)), .val (.int (2 : Int32)), .val (.int (w0 &&& (255 : Int32))), .val (.int ((w0 &&& (255 : Int32)) &&& ((127 : Int32) >>> ((2 : Int32) &&& 31)))), .val (.int (1 : Int32))] [(.ref r0), (.int (((w0 &&& (255 : Int32)) &&& ((127 : Int32) >>> ((2 : Int32) &&& 31))) <<< ((6 : Int32) &&& 31)))])) _
    refine XS.iloadN X0.here hx rfl (hb hby d4_38) rfl ?_
    refine XS.iload X0.here hx rfl (hb hby d4_39) rfl ?_
    refine XS.iadd X0.here hx rfl (hb hby d4_41) rfl ?_
    exact kt
  have st4 : ∀ target, Steps p.tables e below (s₁.setTop (mkF m 43 #[.val (.ref r0), .val (.int (0 : Int32)), .val (.int (2 : Int32)), .val (.int (w0 &&& (255 : Int32))), .val (.int ((w0 &&& (255 : Int32)) &&& ((127 : Int32) >>> ((2 : Int32) &&& 31)))), .val (.int (1 : Int32))] [(.int w1), (.int (((w0 &&& (255 : Int32)) &&& ((127 : Int32) >>> ((2 : Int32) &&& 31))) <<< ((6 : Int32) &&& 31)))])) target → Steps p.tables e below (s₁.setTop (mkF m 42 #[.val (.ref r0), .val (.int (0 : Int32)), .val (.int (2 : Int32)), .val (.int (w0 &&& (255 : Int32))), .val (.int ((w0 &&& (255 : Int32)) &&& ((127 : Int32) >>> ((2 : Int32) &&& 31)))), .val (.int (1 : Int32))] [(.int (1 : Int32)), (.ref r0), (.int (((w0 &&& (255 : Int32)) &&& ((127 : Int32) >>> ((2 : Int32) &&& 31))) <<< ((6 : Int32) &&& 31)))])) target := fun target kt => X0.baloadBytes hx (j := (1 : Int32)) (v := (.int w1)) (by rw [e0]; exact Ar.1) (State.isArrayOf_alike hZ.alike Ar.2.1) Ar.2.2 hin1 hat1 (g := (mkF m 42 #[.val (.ref r0), .val (.int (0 : Int32)), .val (.int (2 : Int32)), .val (.int (w0 &&& (255 : Int32))), .val (.int ((w0 &&& (255 : Int32)) &&& ((127 : Int32) >>> ((2 : Int32) &&& 31)))), .val (.int (1 : Int32))] [(.int (1 : Int32)), (.ref r0), (.int (((w0 &&& (255 : Int32)) &&& ((127 : Int32) >>> ((2 : Int32) &&& 31))) <<< ((6 : Int32) &&& 31)))])) rfl rfl (hb hby d4_42) _ kt
  obtain ⟨fs, hr, hrun, hended, hW, hsame⟩ := X0.leave (v := some (.int ((((w0 &&& (255 : Int32)) &&& ((127 : Int32) >>> ((2 : Int32) &&& 31))) <<< ((6 : Int32) &&& 31)) ||| (w1 &&& (63 : Int32))))) (fun h => by rw [Bd.returns] at h; cases h)
  refine ⟨_, _, pre0 _ (st1 _ (st2 _ (st3 _ (st4 _ ?_)))), hrun, hended, _, _, rfl, ?_, ⟨_, rfl⟩, hW, hsame.mono (by decide) (by decide)⟩
  · refine XS.bipush X0.here hx rfl (hb hby d4_43) ?_
    refine XS.iand X0.here hx rfl (hb hby d4_45) rfl ?_
    refine XS.ior X0.here hx rfl (hb hby d4_46) rfl ?_
    refine XS.istore X0.here hx rfl (hb hby d4_47) rfl (l' := #[.val (.ref r0), .val (.int (0 : Int32)), .val (.int (2 : Int32)), .val (.int (w0 &&& (255 : Int32))), .val (.int ((((w0 &&& (255 : Int32)) &&& ((127 : Int32) >>> ((2 : Int32) &&& 31))) <<< ((6 : Int32) &&& 31)) ||| (w1 &&& (63 : Int32)))), .val (.int (1 : Int32))]) rfl ?_
    refine XS.iinc X0.here hx rfl (hb hby d4_49) rfl (l' := #[.val (.ref r0), .val (.int (0 : Int32)), .val (.int (2 : Int32)), .val (.int (w0 &&& (255 : Int32))), .val (.int ((((w0 &&& (255 : Int32)) &&& ((127 : Int32) >>> ((2 : Int32) &&& 31))) <<< ((6 : Int32) &&& 31)) ||| (w1 &&& (63 : Int32)))), .val (.int (2 : Int32))]) rfl ?_
    show Steps p.tables e below (s₁.setTop (mkF m 52 #[.val (.ref r0), .val (.int (0 : Int32)), .val (.int (2 : Int32)), .val (.int (w0 &&& (255 : Int32))), .val (.int ((((w0 &&& (255 : Int32)) &&& ((127 : Int32) >>> ((2 : Int32) &&& 31))) <<< ((6 : Int32) &&& 31)) ||| (w1 &&& (63 : Int32)))), .val (.int (2 : Int32))] [])) _
    refine XS.goto X0.here hx rfl (pc0 := 52) (pc' := 26) rfl (hb hby d4_52) (by decide) (by decide) ?_
    refine XS.iload X0.here hx rfl (hb hby d4_26) rfl ?_
    refine XS.iloadN X0.here hx rfl (hb hby d4_28) rfl ?_
    refine XS.icmpYes X0.here hx rfl (pc0 := 29) (pc' := 55) rfl (hb hby d4_29) rfl (flt (by decide : ¬ ((2 : Int32) < (2 : Int32)))).2.1 (by decide) (by decide) ?_
    refine XS.iload X0.here hx rfl (hb hby d4_55) rfl ?_
    show Steps p.tables e below (s₁.setTop (mkF m 57 #[.val (.ref r0), .val (.int (0 : Int32)), .val (.int (2 : Int32)), .val (.int (w0 &&& (255 : Int32))), .val (.int ((((w0 &&& (255 : Int32)) &&& ((127 : Int32) >>> ((2 : Int32) &&& 31))) <<< ((6 : Int32) &&& 31)) ||| (w1 &&& (63 : Int32)))), .val (.int (2 : Int32))] [(.int ((((w0 &&& (255 : Int32)) &&& ((127 : Int32) >>> ((2 : Int32) &&& 31))) <<< ((6 : Int32) &&& 31)) ||| (w1 &&& (63 : Int32))))])) _
    exact retI X0 hx Bd.returns (hb hby d4_57) hr
  · show Q_rmCP2 Z r0 cl w0 w1 h0 n0 _ s₁.heap _
    rw [e0]
    exact ⟨rfl, N0, rfl⟩
def own_cp3 (w0 w1 w2 : Int32) : Int32 := ((((((w0 &&& (255 : Int32)) &&& ((127 : Int32) >>> ((3 : Int32) &&& 31))) <<< ((6 : Int32) &&& 31)) ||| (w1 &&& (63 : Int32))) <<< ((6 : Int32) &&& 31)) ||| (w2 &&& (63 : Int32)))
theorem ef_rmCP3 (m : MethodId) (x0 : Addr) (x1 : Int32) (x2 : Int32) : entryFrame m #[(.ref x0), (.int x1), (.int x2)] 6 = mkF m 0 #[.val (.ref x0), .val (.int x1), .val (.int x2), .unset, .unset, .unset] [] := by first | (simp [entryFrame, mkF, argsToLocals, Value.category]; done) | rfl
def Q_rmCP3 (Z : State) (r0 : Addr) (cl : Cell) (w0 : Int32) (w1 : Int32) (w2 : Int32) (h0 : Heap) (n0 : Nat) (v : Option Value) (h : Heap) (L : List Loc) : Prop := v = some (.int (own_cp3 w0 w1 w2)) ∧ Fr n0 L ∧ h = h0
set_option maxRecDepth 65536 in
set_option maxHeartbeats 40000000 in
theorem rmCP3 (l : Launch) (Z : State) (a0 : Array Value) (hw : ∀ d ∈ tables_1, d.before a0 Z = true) (ws : List Jvm.Cond) (r0 : Addr) (cl : Cell) (w0 : Int32) (w1 : Int32) (w2 : Int32) (h0 : Heap) (n0 : Nat) (Z0 : n0 ≤ h0.size) (Ar : Arr Z h0 r0 cl .byte) (hin0 : ¬ ((0 : Int32) < 0 ∨ cl.slots.size ≤ ((0 : Int32)).toNatClampNeg)) (hin1 : ¬ ((1 : Int32) < 0 ∨ cl.slots.size ≤ ((1 : Int32)).toNatClampNeg)) (hin2 : ¬ ((2 : Int32) < 0 ∨ cl.slots.size ≤ ((2 : Int32)).toNatClampNeg)) (hat0 : cl.slots[((0 : Int32)).toNatClampNeg]? = some (.int w0)) (hat1 : cl.slots[((1 : Int32)).toNatClampNeg]? = some (.int w1)) (hat2 : cl.slots[((2 : Int32)).toNatClampNeg]? = some (.int w2)) :
    MetFree l (⟨"com/example/murray_hill/murrayhill/WellFormed", "codePoint", "([BII)I"⟩ : MethodName) (head1 (Jvm.Cond.code (⟨"com/example/murray_hill/murrayhill/WellFormed", "codePoint", "([BII)I"⟩ : MethodName) prog_39_method_13_code 6 (some .int) :: ws) ({ frames := 0, cells := 0, slots := 0, locals := 0 } : Room)) (fun a U => a = #[(.ref r0), (.int (0 : Int32)), (.int (3 : Int32))] ∧ Z.Warmed39 U.vm ∧ U.heap = h0) (fun _ _ _ _ _ => True) (fun _ U o U' => ∃ v L, o = .returned v ∧ Q_rmCP3 Z r0 cl w0 w1 w2 h0 n0 v U'.heap L ∧ FrameEnd U o U' L ({ frames := 0, cells := 0, slots := 0, locals := 0 } : Room).cells ({ frames := 0, cells := 0, slots := 0, locals := 0 } : Room).slots) := by
  refine MetFree.of_bodySF (plainFor_of_name pn_0) hisR ?_
  intro p e s m args below meth c s₁ Bd hml0 hP hK
  obtain ⟨rfl, hZ, hh⟩ := hP
  have hx := Bd.exec
  have hby := Bd.bytes
  have hml : c.maxLocals = 6 := hml0
  have hown : s.vm.findClass "com/example/murray_hill/murrayhill/WellFormed" = some m.cls := findClass_of_methodNamed Bd.named
  have hnm := (name_of_methodNamed Bd.named Bd.method).1
  have X0 : Stand p l e ({ frames := 0, cells := 0, slots := 0, locals := 0 } : Room) s m #[(.ref r0), (.int (0 : Int32)), (.int (3 : Int32))] below meth c s₁ [] 0 0 := Stand.of_body Bd
  have e0 : s₁.heap = h0 := by rw [← hh, Bd.state]; rfl
  have N0 := Fr.nil n0
  have pre0 : ∀ t, Steps p.tables e below (s₁.setTop (mkF m 0 #[.val (.ref r0), .val (.int (0 : Int32)), .val (.int (3 : Int32)), .unset, .unset, .unset] [])) t → Steps p.tables e below (s₁.setTop (entryFrame m #[(.ref r0), (.int (0 : Int32)), (.int (3 : Int32))] 6)) t := fun t k => castTop (ef_rmCP3 m r0 (0 : Int32) (3 : Int32)) k
  have st1 : ∀ target, Steps p.tables e below (s₁.setTop (mkF m 2 #[.val (.ref r0), .val (.int (0 : Int32)), .val (.int (3 : Int32)), .unset, .unset, .unset] [(.int (0 : Int32)), (.ref r0)])) target → Steps p.tables e below (s₁.setTop (mkF m 0 #[.val (.ref r0), .val (.int (0 : Int32)), .val (.int (3 : Int32)), .unset, .unset, .unset] [])) target := by
    intro target kt
    refine XS.aloadN X0.here hx rfl (hb hby d4_0) rfl rfl ?_
    refine XS.iloadN X0.here hx rfl (hb hby d4_1) rfl ?_
    exact kt
  have st2 : ∀ target, Steps p.tables e below (s₁.setTop (mkF m 3 #[.val (.ref r0), .val (.int (0 : Int32)), .val (.int (3 : Int32)), .unset, .unset, .unset] [(.int w0)])) target → Steps p.tables e below (s₁.setTop (mkF m 2 #[.val (.ref r0), .val (.int (0 : Int32)), .val (.int (3 : Int32)), .unset, .unset, .unset] [(.int (0 : Int32)), (.ref r0)])) target := fun target kt => X0.baloadBytes hx (j := (0 : Int32)) (v := (.int w0)) (by rw [e0]; exact Ar.1) (State.isArrayOf_alike hZ.alike Ar.2.1) Ar.2.2 hin0 hat0 (g := (mkF m 2 #[.val (.ref r0), .val (.int (0 : Int32)), .val (.int (3 : Int32)), .unset, .unset, .unset] [(.int (0 : Int32)), (.ref r0)])) rfl rfl (hb hby d4_2) _ kt
  have st3 : ∀ target, Steps p.tables e below (s₁.setTop (mkF m 42 #[.val (.ref r0), .val (.int (0 : Int32)), .val (.int (3 : Int32)), .val (.int (w0 &&& (255 : Int32))), .val (.int ((w0 &&& (255 : Int32)) &&& ((127 : Int32) >>> ((3 : Int32) &&& 31)))), .val (.int (1 : Int32))] [(.int (1 : Int32)), (.ref r0), (.int (((w0 &&& (255 : Int32)) &&& ((127 : Int32) >>> ((3 : Int32) &&& 31))) <<< ((6 : Int32) &&& 31)))])) target → Steps p.tables e below (s₁.setTop (mkF m 3 #[.val (.ref r0), .val (.int (0 : Int32)), .val (.int (3 : Int32)), .unset, .unset, .unset] [(.int w0)])) target := by
    intro target kt
    refine XS.sipush X0.here hx rfl (hb hby d4_3) ?_
    refine XS.iand X0.here hx rfl (hb hby d4_6) rfl ?_
    refine XS.istoreN X0.here hx rfl (hb hby d4_7) rfl (l' := #[.val (.ref r0), .val (.int (0 : Int32)), .val (.int (3 : Int32)), .val (.int (w0 &&& (255 : Int32))), .unset, .unset]) rfl ?_
    refine XS.iloadN X0.here hx rfl (hb hby d4_8) rfl ?_
    refine XS.iconst X0.here hx rfl (hb hby d4_9) ?_
    show Steps p.tables e below (s₁.setTop (mkF m 10 #[.val (.ref r0), .val (.int (0 : Int32)), .val (.int (3 : Int32)), .val (.int (w0 &&& (255 : Int32))), .unset, .unset] [(.int (1 : Int32)), (.int (3 : Int32))])) _
    refine XS.icmpYes X0.here hx rfl (pc0 := 10) (pc' := 15) rfl (hb hby d4_10) rfl (feq (by decide : ¬ ((3 : Int32) = (1 : Int32)))).2 (by decide) (by decide) ?_
    refine XS.iloadN X0.here hx rfl (hb hby d4_15) rfl ?_
    refine XS.bipush X0.here hx rfl (hb hby d4_16) ?_
    refine XS.iloadN X0.here hx rfl (hb hby d4_18) rfl ?_
    refine XS.ishr X0.here hx rfl (hb hby d4_19) rfl ?_
    refine XS.iand X0.here hx rfl (hb hby d4_20) rfl ?_
    refine XS.istore X0.here hx rfl (hb hby d4_21) rfl (l' := #[.val (.ref r0), .val (.int (0 : Int32)), .val (.int (3 : Int32)), .val (.int (w0 &&& (255 : Int32))), .val (.int ((w0 &&& (255 : Int32)) &&& ((127 : Int32) >>> ((3 : Int32) &&& 31)))), .unset]) rfl ?_
    refine XS.iconst X0.here hx rfl (hb hby d4_23) ?_
    show Steps p.tables e below (s₁.setTop (mkF m 24 #[.val (.ref r0), .val (.int (0 : Int32)), .val (.int (3 : Int32)), .val (.int (w0 &&& (255 : Int32))), .val (.int ((w0 &&& (255 : Int32)) &&& ((127 : Int32) >>> ((3 : Int32) &&& 31)))), .unset] [(.int (1 : Int32))])) _
    refine XS.istore X0.here hx rfl (hb hby d4_24) rfl (l' := #[.val (.ref r0), .val (.int (0 : Int32)), .val (.int (3 : Int32)), .val (.int (w0 &&& (255 : Int32))), .val (.int ((w0 &&& (255 : Int32)) &&& ((127 : Int32) >>> ((3 : Int32) &&& 31)))), .val (.int (1 : Int32))]) rfl ?_
    refine XS.iload X0.here hx rfl (hb hby d4_26) rfl ?_
    refine XS.iloadN X0.here hx rfl (hb hby d4_28) rfl ?_
    refine XS.icmpNo X0.here hx rfl (hb hby d4_29) rfl (tlt (by decide : ((1 : Int32) < (3 : Int32)))).2.1 ?_
    refine XS.iload X0.here hx rfl (hb hby d4_32) rfl ?_
    refine XS.bipush X0.here hx rfl (hb hby d4_34) ?_
    refine XS.ishl X0.here hx rfl (hb hby d4_36) rfl ?_
    refine XS.aloadN X0.here hx rfl (hb hby d4_37) rfl rfl ?_
    show Steps p.tables e below (s₁.setTop (mkF m 38 #[.val (.ref r0), .val (.int (0 : Int32)), .val (.int (3 : Int32)), .val (.int (w0 &&& (255 : Int32))), .val (.int ((w0 &&& (255 : Int32)) &&& ((127 : Int32) >>> ((3 : Int32) &&& 31)))), .val (.int (1 : Int32))] [(.ref r0), (.int (((w0 &&& (255 : Int32)) &&& ((127 : Int32) >>> ((3 : Int32) &&& 31))) <<< ((6 : Int32) &&& 31)))])) _
    refine XS.iloadN X0.here hx rfl (hb hby d4_38) rfl ?_
    refine XS.iload X0.here hx rfl (hb hby d4_39) rfl ?_
    refine XS.iadd X0.here hx rfl (hb hby d4_41) rfl ?_
    exact kt
  have st4 : ∀ target, Steps p.tables e below (s₁.setTop (mkF m 43 #[.val (.ref r0), .val (.int (0 : Int32)), .val (.int (3 : Int32)), .val (.int (w0 &&& (255 : Int32))), .val (.int ((w0 &&& (255 : Int32)) &&& ((127 : Int32) >>> ((3 : Int32) &&& 31)))), .val (.int (1 : Int32))] [(.int w1), (.int (((w0 &&& (255 : Int32)) &&& ((127 : Int32) >>> ((3 : Int32) &&& 31))) <<< ((6 : Int32) &&& 31)))])) target → Steps p.tables e below (s₁.setTop (mkF m 42 #[.val (.ref r0), .val (.int (0 : Int32)), .val (.int (3 : Int32)), .val (.int (w0 &&& (255 : Int32))), .val (.int ((w0 &&& (255 : Int32)) &&& ((127 : Int32) >>> ((3 : Int32) &&& 31)))), .val (.int (1 : Int32))] [(.int (1 : Int32)), (.ref r0), (.int (((w0 &&& (255 : Int32)) &&& ((127 : Int32) >>> ((3 : Int32) &&& 31))) <<< ((6 : Int32) &&& 31)))])) target := fun target kt => X0.baloadBytes hx (j := (1 : Int32)) (v := (.int w1)) (by rw [e0]; exact Ar.1) (State.isArrayOf_alike hZ.alike Ar.2.1) Ar.2.2 hin1 hat1 (g := (mkF m 42 #[.val (.ref r0), .val (.int (0 : Int32)), .val (.int (3 : Int32)), .val (.int (w0 &&& (255 : Int32))), .val (.int ((w0 &&& (255 : Int32)) &&& ((127 : Int32) >>> ((3 : Int32) &&& 31)))), .val (.int (1 : Int32))] [(.int (1 : Int32)), (.ref r0), (.int (((w0 &&& (255 : Int32)) &&& ((127 : Int32) >>> ((3 : Int32) &&& 31))) <<< ((6 : Int32) &&& 31)))])) rfl rfl (hb hby d4_42) _ kt
  have st5 : ∀ target, Steps p.tables e below (s₁.setTop (mkF m 42 #[.val (.ref r0), .val (.int (0 : Int32)), .val (.int (3 : Int32)), .val (.int (w0 &&& (255 : Int32))), .val (.int ((((w0 &&& (255 : Int32)) &&& ((127 : Int32) >>> ((3 : Int32) &&& 31))) <<< ((6 : Int32) &&& 31)) ||| (w1 &&& (63 : Int32)))), .val (.int (2 : Int32))] [(.int (2 : Int32)), (.ref r0), (.int (((((w0 &&& (255 : Int32)) &&& ((127 : Int32) >>> ((3 : Int32) &&& 31))) <<< ((6 : Int32) &&& 31)) ||| (w1 &&& (63 : Int32))) <<< ((6 : Int32) &&& 31)))])) target → Steps p.tables e below (s₁.setTop (mkF m 43 #[.val (.ref r0), .val (.int (0 : Int32)), .val (.int (3 : Int32)), .val (.int (w0 &&& (255 : Int32))), .val (.int ((w0 &&& (255 : Int32)) &&& ((127 : Int32) >>> ((3 : Int32) &&& 31)))), .val (.int (1 : Int32))] [(.int w1), (.int (((w0 &&& (255 : Int32)) &&& ((127 : Int32) >>> ((3 : Int32) &&& 31))) <<< ((6 : Int32) &&& 31)))])) target := by
    intro target kt
    refine XS.bipush X0.here hx rfl (hb hby d4_43) ?_
    refine XS.iand X0.here hx rfl (hb hby d4_45) rfl ?_
    refine XS.ior X0.here hx rfl (hb hby d4_46) rfl ?_
    refine XS.istore X0.here hx rfl (hb hby d4_47) rfl (l' := #[.val (.ref r0), .val (.int (0 : Int32)), .val (.int (3 : Int32)), .val (.int (w0 &&& (255 : Int32))), .val (.int ((((w0 &&& (255 : Int32)) &&& ((127 : Int32) >>> ((3 : Int32) &&& 31))) <<< ((6 : Int32) &&& 31)) ||| (w1 &&& (63 : Int32)))), .val (.int (1 : Int32))]) rfl ?_
    refine XS.iinc X0.here hx rfl (hb hby d4_49) rfl (l' := #[.val (.ref r0), .val (.int (0 : Int32)), .val (.int (3 : Int32)), .val (.int (w0 &&& (255 : Int32))), .val (.int ((((w0 &&& (255 : Int32)) &&& ((127 : Int32) >>> ((3 : Int32) &&& 31))) <<< ((6 : Int32) &&& 31)) ||| (w1 &&& (63 : Int32)))), .val (.int (2 : Int32))]) rfl ?_
    show Steps p.tables e below (s₁.setTop (mkF m 52 #[.val (.ref r0), .val (.int (0 : Int32)), .val (.int (3 : Int32)), .val (.int (w0 &&& (255 : Int32))), .val (.int ((((w0 &&& (255 : Int32)) &&& ((127 : Int32) >>> ((3 : Int32) &&& 31))) <<< ((6 : Int32) &&& 31)) ||| (w1 &&& (63 : Int32)))), .val (.int (2 : Int32))] [])) _
    refine XS.goto X0.here hx rfl (pc0 := 52) (pc' := 26) rfl (hb hby d4_52) (by decide) (by decide) ?_
    refine XS.iload X0.here hx rfl (hb hby d4_26) rfl ?_
    refine XS.iloadN X0.here hx rfl (hb hby d4_28) rfl ?_
    refine XS.icmpNo X0.here hx rfl (hb hby d4_29) rfl (tlt (by decide : ((2 : Int32) < (3 : Int32)))).2.1 ?_
    refine XS.iload X0.here hx rfl (hb hby d4_32) rfl ?_
    refine XS.bipush X0.here hx rfl (hb hby d4_34) ?_
    refine XS.ishl X0.here hx rfl (hb hby d4_36) rfl ?_
    refine XS.aloadN X0.here hx rfl (hb hby d4_37) rfl rfl ?_
    show Steps p.tables e below (s₁.setTop (mkF m 38 #[.val (.ref r0), .val (.int (0 : Int32)), .val (.int (3 : Int32)), .val (.int (w0 &&& (255 : Int32))), .val (.int ((((w0 &&& (255 : Int32)) &&& ((127 : Int32) >>> ((3 : Int32) &&& 31))) <<< ((6 : Int32) &&& 31)) ||| (w1 &&& (63 : Int32)))), .val (.int (2 : Int32))] [(.ref r0), (.int (((((w0 &&& (255 : Int32)) &&& ((127 : Int32) >>> ((3 : Int32) &&& 31))) <<< ((6 : Int32) &&& 31)) ||| (w1 &&& (63 : Int32))) <<< ((6 : Int32) &&& 31)))])) _
    refine XS.iloadN X0.here hx rfl (hb hby d4_38) rfl ?_
    refine XS.iload X0.here hx rfl (hb hby d4_39) rfl ?_
    refine XS.iadd X0.here hx rfl (hb hby d4_41) rfl ?_
    exact kt
  have st6 : ∀ target, Steps p.tables e below (s₁.setTop (mkF m 43 #[.val (.ref r0), .val (.int (0 : Int32)), .val (.int (3 : Int32)), .val (.int (w0 &&& (255 : Int32))), .val (.int ((((w0 &&& (255 : Int32)) &&& ((127 : Int32) >>> ((3 : Int32) &&& 31))) <<< ((6 : Int32) &&& 31)) ||| (w1 &&& (63 : Int32)))), .val (.int (2 : Int32))] [(.int w2), (.int (((((w0 &&& (255 : Int32)) &&& ((127 : Int32) >>> ((3 : Int32) &&& 31))) <<< ((6 : Int32) &&& 31)) ||| (w1 &&& (63 : Int32))) <<< ((6 : Int32) &&& 31)))])) target → Steps p.tables e below (s₁.setTop (mkF m 42 #[.val (.ref r0), .val (.int (0 : Int32)), .val (.int (3 : Int32)), .val (.int (w0 &&& (255 : Int32))), .val (.int ((((w0 &&& (255 : Int32)) &&& ((127 : Int32) >>> ((3 : Int32) &&& 31))) <<< ((6 : Int32) &&& 31)) ||| (w1 &&& (63 : Int32)))), .val (.int (2 : Int32))] [(.int (2 : Int32)), (.ref r0), (.int (((((w0 &&& (255 : Int32)) &&& ((127 : Int32) >>> ((3 : Int32) &&& 31))) <<< ((6 : Int32) &&& 31)) ||| (w1 &&& (63 : Int32))) <<< ((6 : Int32) &&& 31)))])) target := fun target kt => X0.baloadBytes hx (j := (2 : Int32)) (v := (.int w2)) (by rw [e0]; exact Ar.1) (State.isArrayOf_alike hZ.alike Ar.2.1) Ar.2.2 hin2 hat2 (g := (mkF m 42 #[.val (.ref r0), .val (.int (0 : Int32)), .val (.int (3 : Int32)), .val (.int (w0 &&& (255 : Int32))), .val (.int ((((w0 &&& (255 : Int32)) &&& ((127 : Int32) >>> ((3 : Int32) &&& 31))) <<< ((6 : Int32) &&& 31)) ||| (w1 &&& (63 : Int32)))), .val (.int (2 : Int32))] [(.int (2 : Int32)), (.ref r0), (.int (((((w0 &&& (255 : Int32)) &&& ((127 : Int32) >>> ((3 : Int32) &&& 31))) <<< ((6 : Int32) &&& 31)) ||| (w1 &&& (63 : Int32))) <<< ((6 : Int32) &&& 31)))])) rfl rfl (hb hby d4_42) _ kt
  obtain ⟨fs, hr, hrun, hended, hW, hsame⟩ := X0.leave (v := some (.int ((((((w0 &&& (255 : Int32)) &&& ((127 : Int32) >>> ((3 : Int32) &&& 31))) <<< ((6 : Int32) &&& 31)) ||| (w1 &&& (63 : Int32))) <<< ((6 : Int32) &&& 31)) ||| (w2 &&& (63 : Int32))))) (fun h => by rw [Bd.returns] at h; cases h)
  refine ⟨_, _, pre0 _ (st1 _ (st2 _ (st3 _ (st4 _ (st5 _ (st6 _ ?_)))))), hrun, hended, _, _, rfl, ?_, ⟨_, rfl⟩, hW, hsame.mono (by decide) (by decide)⟩
  · refine XS.bipush X0.here hx rfl (hb hby d4_43) ?_
    refine XS.iand X0.here hx rfl (hb hby d4_45) rfl ?_
    refine XS.ior X0.here hx rfl (hb hby d4_46) rfl ?_
    refine XS.istore X0.here hx rfl (hb hby d4_47) rfl (l' := #[.val (.ref r0), .val (.int (0 : Int32)), .val (.int (3 : Int32)), .val (.int (w0 &&& (255 : Int32))), .val (.int ((((((w0 &&& (255 : Int32)) &&& ((127 : Int32) >>> ((3 : Int32) &&& 31))) <<< ((6 : Int32) &&& 31)) ||| (w1 &&& (63 : Int32))) <<< ((6 : Int32) &&& 31)) ||| (w2 &&& (63 : Int32)))), .val (.int (2 : Int32))]) rfl ?_
    refine XS.iinc X0.here hx rfl (hb hby d4_49) rfl (l' := #[.val (.ref r0), .val (.int (0 : Int32)), .val (.int (3 : Int32)), .val (.int (w0 &&& (255 : Int32))), .val (.int ((((((w0 &&& (255 : Int32)) &&& ((127 : Int32) >>> ((3 : Int32) &&& 31))) <<< ((6 : Int32) &&& 31)) ||| (w1 &&& (63 : Int32))) <<< ((6 : Int32) &&& 31)) ||| (w2 &&& (63 : Int32)))), .val (.int (3 : Int32))]) rfl ?_
    show Steps p.tables e below (s₁.setTop (mkF m 52 #[.val (.ref r0), .val (.int (0 : Int32)), .val (.int (3 : Int32)), .val (.int (w0 &&& (255 : Int32))), .val (.int ((((((w0 &&& (255 : Int32)) &&& ((127 : Int32) >>> ((3 : Int32) &&& 31))) <<< ((6 : Int32) &&& 31)) ||| (w1 &&& (63 : Int32))) <<< ((6 : Int32) &&& 31)) ||| (w2 &&& (63 : Int32)))), .val (.int (3 : Int32))] [])) _
    refine XS.goto X0.here hx rfl (pc0 := 52) (pc' := 26) rfl (hb hby d4_52) (by decide) (by decide) ?_
    refine XS.iload X0.here hx rfl (hb hby d4_26) rfl ?_
    refine XS.iloadN X0.here hx rfl (hb hby d4_28) rfl ?_
    refine XS.icmpYes X0.here hx rfl (pc0 := 29) (pc' := 55) rfl (hb hby d4_29) rfl (flt (by decide : ¬ ((3 : Int32) < (3 : Int32)))).2.1 (by decide) (by decide) ?_
    refine XS.iload X0.here hx rfl (hb hby d4_55) rfl ?_
    show Steps p.tables e below (s₁.setTop (mkF m 57 #[.val (.ref r0), .val (.int (0 : Int32)), .val (.int (3 : Int32)), .val (.int (w0 &&& (255 : Int32))), .val (.int ((((((w0 &&& (255 : Int32)) &&& ((127 : Int32) >>> ((3 : Int32) &&& 31))) <<< ((6 : Int32) &&& 31)) ||| (w1 &&& (63 : Int32))) <<< ((6 : Int32) &&& 31)) ||| (w2 &&& (63 : Int32)))), .val (.int (3 : Int32))] [(.int ((((((w0 &&& (255 : Int32)) &&& ((127 : Int32) >>> ((3 : Int32) &&& 31))) <<< ((6 : Int32) &&& 31)) ||| (w1 &&& (63 : Int32))) <<< ((6 : Int32) &&& 31)) ||| (w2 &&& (63 : Int32))))])) _
    exact retI X0 hx Bd.returns (hb hby d4_57) hr
  · show Q_rmCP3 Z r0 cl w0 w1 w2 h0 n0 _ s₁.heap _
    rw [e0]
    exact ⟨rfl, N0, rfl⟩
def own_cp4 (w0 w1 w2 w3 : Int32) : Int32 := ((((((((w0 &&& (255 : Int32)) &&& ((127 : Int32) >>> ((4 : Int32) &&& 31))) <<< ((6 : Int32) &&& 31)) ||| (w1 &&& (63 : Int32))) <<< ((6 : Int32) &&& 31)) ||| (w2 &&& (63 : Int32))) <<< ((6 : Int32) &&& 31)) ||| (w3 &&& (63 : Int32)))
theorem ef_rmCP4 (m : MethodId) (x0 : Addr) (x1 : Int32) (x2 : Int32) : entryFrame m #[(.ref x0), (.int x1), (.int x2)] 6 = mkF m 0 #[.val (.ref x0), .val (.int x1), .val (.int x2), .unset, .unset, .unset] [] := by first | (simp [entryFrame, mkF, argsToLocals, Value.category]; done) | rfl
def Q_rmCP4 (Z : State) (r0 : Addr) (cl : Cell) (w0 : Int32) (w1 : Int32) (w2 : Int32) (w3 : Int32) (h0 : Heap) (n0 : Nat) (v : Option Value) (h : Heap) (L : List Loc) : Prop := v = some (.int (own_cp4 w0 w1 w2 w3)) ∧ Fr n0 L ∧ h = h0
set_option maxRecDepth 65536 in
set_option maxHeartbeats 40000000 in
theorem rmCP4 (l : Launch) (Z : State) (a0 : Array Value) (hw : ∀ d ∈ tables_1, d.before a0 Z = true) (ws : List Jvm.Cond) (r0 : Addr) (cl : Cell) (w0 : Int32) (w1 : Int32) (w2 : Int32) (w3 : Int32) (h0 : Heap) (n0 : Nat) (Z0 : n0 ≤ h0.size) (Ar : Arr Z h0 r0 cl .byte) (hin0 : ¬ ((0 : Int32) < 0 ∨ cl.slots.size ≤ ((0 : Int32)).toNatClampNeg)) (hin1 : ¬ ((1 : Int32) < 0 ∨ cl.slots.size ≤ ((1 : Int32)).toNatClampNeg)) (hin2 : ¬ ((2 : Int32) < 0 ∨ cl.slots.size ≤ ((2 : Int32)).toNatClampNeg)) (hin3 : ¬ ((3 : Int32) < 0 ∨ cl.slots.size ≤ ((3 : Int32)).toNatClampNeg)) (hat0 : cl.slots[((0 : Int32)).toNatClampNeg]? = some (.int w0)) (hat1 : cl.slots[((1 : Int32)).toNatClampNeg]? = some (.int w1)) (hat2 : cl.slots[((2 : Int32)).toNatClampNeg]? = some (.int w2)) (hat3 : cl.slots[((3 : Int32)).toNatClampNeg]? = some (.int w3)) :
    MetFree l (⟨"com/example/murray_hill/murrayhill/WellFormed", "codePoint", "([BII)I"⟩ : MethodName) (head1 (Jvm.Cond.code (⟨"com/example/murray_hill/murrayhill/WellFormed", "codePoint", "([BII)I"⟩ : MethodName) prog_39_method_13_code 6 (some .int) :: ws) ({ frames := 0, cells := 0, slots := 0, locals := 0 } : Room)) (fun a U => a = #[(.ref r0), (.int (0 : Int32)), (.int (4 : Int32))] ∧ Z.Warmed39 U.vm ∧ U.heap = h0) (fun _ _ _ _ _ => True) (fun _ U o U' => ∃ v L, o = .returned v ∧ Q_rmCP4 Z r0 cl w0 w1 w2 w3 h0 n0 v U'.heap L ∧ FrameEnd U o U' L ({ frames := 0, cells := 0, slots := 0, locals := 0 } : Room).cells ({ frames := 0, cells := 0, slots := 0, locals := 0 } : Room).slots) := by
  refine MetFree.of_bodySF (plainFor_of_name pn_0) hisR ?_
  intro p e s m args below meth c s₁ Bd hml0 hP hK
  obtain ⟨rfl, hZ, hh⟩ := hP
  have hx := Bd.exec
  have hby := Bd.bytes
  have hml : c.maxLocals = 6 := hml0
  have hown : s.vm.findClass "com/example/murray_hill/murrayhill/WellFormed" = some m.cls := findClass_of_methodNamed Bd.named
  have hnm := (name_of_methodNamed Bd.named Bd.method).1
  have X0 : Stand p l e ({ frames := 0, cells := 0, slots := 0, locals := 0 } : Room) s m #[(.ref r0), (.int (0 : Int32)), (.int (4 : Int32))] below meth c s₁ [] 0 0 := Stand.of_body Bd
  have e0 : s₁.heap = h0 := by rw [← hh, Bd.state]; rfl
  have N0 := Fr.nil n0
  have pre0 : ∀ t, Steps p.tables e below (s₁.setTop (mkF m 0 #[.val (.ref r0), .val (.int (0 : Int32)), .val (.int (4 : Int32)), .unset, .unset, .unset] [])) t → Steps p.tables e below (s₁.setTop (entryFrame m #[(.ref r0), (.int (0 : Int32)), (.int (4 : Int32))] 6)) t := fun t k => castTop (ef_rmCP4 m r0 (0 : Int32) (4 : Int32)) k
  have st1 : ∀ target, Steps p.tables e below (s₁.setTop (mkF m 2 #[.val (.ref r0), .val (.int (0 : Int32)), .val (.int (4 : Int32)), .unset, .unset, .unset] [(.int (0 : Int32)), (.ref r0)])) target → Steps p.tables e below (s₁.setTop (mkF m 0 #[.val (.ref r0), .val (.int (0 : Int32)), .val (.int (4 : Int32)), .unset, .unset, .unset] [])) target := by
    intro target kt
    refine XS.aloadN X0.here hx rfl (hb hby d4_0) rfl rfl ?_
    refine XS.iloadN X0.here hx rfl (hb hby d4_1) rfl ?_
    exact kt
  have st2 : ∀ target, Steps p.tables e below (s₁.setTop (mkF m 3 #[.val (.ref r0), .val (.int (0 : Int32)), .val (.int (4 : Int32)), .unset, .unset, .unset] [(.int w0)])) target → Steps p.tables e below (s₁.setTop (mkF m 2 #[.val (.ref r0), .val (.int (0 : Int32)), .val (.int (4 : Int32)), .unset, .unset, .unset] [(.int (0 : Int32)), (.ref r0)])) target := fun target kt => X0.baloadBytes hx (j := (0 : Int32)) (v := (.int w0)) (by rw [e0]; exact Ar.1) (State.isArrayOf_alike hZ.alike Ar.2.1) Ar.2.2 hin0 hat0 (g := (mkF m 2 #[.val (.ref r0), .val (.int (0 : Int32)), .val (.int (4 : Int32)), .unset, .unset, .unset] [(.int (0 : Int32)), (.ref r0)])) rfl rfl (hb hby d4_2) _ kt
  have st3 : ∀ target, Steps p.tables e below (s₁.setTop (mkF m 42 #[.val (.ref r0), .val (.int (0 : Int32)), .val (.int (4 : Int32)), .val (.int (w0 &&& (255 : Int32))), .val (.int ((w0 &&& (255 : Int32)) &&& ((127 : Int32) >>> ((4 : Int32) &&& 31)))), .val (.int (1 : Int32))] [(.int (1 : Int32)), (.ref r0), (.int (((w0 &&& (255 : Int32)) &&& ((127 : Int32) >>> ((4 : Int32) &&& 31))) <<< ((6 : Int32) &&& 31)))])) target → Steps p.tables e below (s₁.setTop (mkF m 3 #[.val (.ref r0), .val (.int (0 : Int32)), .val (.int (4 : Int32)), .unset, .unset, .unset] [(.int w0)])) target := by
    intro target kt
    refine XS.sipush X0.here hx rfl (hb hby d4_3) ?_
    refine XS.iand X0.here hx rfl (hb hby d4_6) rfl ?_
    refine XS.istoreN X0.here hx rfl (hb hby d4_7) rfl (l' := #[.val (.ref r0), .val (.int (0 : Int32)), .val (.int (4 : Int32)), .val (.int (w0 &&& (255 : Int32))), .unset, .unset]) rfl ?_
    refine XS.iloadN X0.here hx rfl (hb hby d4_8) rfl ?_
    refine XS.iconst X0.here hx rfl (hb hby d4_9) ?_
    show Steps p.tables e below (s₁.setTop (mkF m 10 #[.val (.ref r0), .val (.int (0 : Int32)), .val (.int (4 : Int32)), .val (.int (w0 &&& (255 : Int32))), .unset, .unset] [(.int (1 : Int32)), (.int (4 : Int32))])) _
    refine XS.icmpYes X0.here hx rfl (pc0 := 10) (pc' := 15) rfl (hb hby d4_10) rfl (feq (by decide : ¬ ((4 : Int32) = (1 : Int32)))).2 (by decide) (by decide) ?_
    refine XS.iloadN X0.here hx rfl (hb hby d4_15) rfl ?_
    refine XS.bipush X0.here hx rfl (hb hby d4_16) ?_
    refine XS.iloadN X0.here hx rfl (hb hby d4_18) rfl ?_
    refine XS.ishr X0.here hx rfl (hb hby d4_19) rfl ?_
    refine XS.iand X0.here hx rfl (hb hby d4_20) rfl ?_
    refine XS.istore X0.here hx rfl (hb hby d4_21) rfl (l' := #[.val (.ref r0), .val (.int (0 : Int32)), .val (.int (4 : Int32)), .val (.int (w0 &&& (255 : Int32))), .val (.int ((w0 &&& (255 : Int32)) &&& ((127 : Int32) >>> ((4 : Int32) &&& 31)))), .unset]) rfl ?_
    refine XS.iconst X0.here hx rfl (hb hby d4_23) ?_
    show Steps p.tables e below (s₁.setTop (mkF m 24 #[.val (.ref r0), .val (.int (0 : Int32)), .val (.int (4 : Int32)), .val (.int (w0 &&& (255 : Int32))), .val (.int ((w0 &&& (255 : Int32)) &&& ((127 : Int32) >>> ((4 : Int32) &&& 31)))), .unset] [(.int (1 : Int32))])) _
    refine XS.istore X0.here hx rfl (hb hby d4_24) rfl (l' := #[.val (.ref r0), .val (.int (0 : Int32)), .val (.int (4 : Int32)), .val (.int (w0 &&& (255 : Int32))), .val (.int ((w0 &&& (255 : Int32)) &&& ((127 : Int32) >>> ((4 : Int32) &&& 31)))), .val (.int (1 : Int32))]) rfl ?_
    refine XS.iload X0.here hx rfl (hb hby d4_26) rfl ?_
    refine XS.iloadN X0.here hx rfl (hb hby d4_28) rfl ?_
    refine XS.icmpNo X0.here hx rfl (hb hby d4_29) rfl (tlt (by decide : ((1 : Int32) < (4 : Int32)))).2.1 ?_
    refine XS.iload X0.here hx rfl (hb hby d4_32) rfl ?_
    refine XS.bipush X0.here hx rfl (hb hby d4_34) ?_
    refine XS.ishl X0.here hx rfl (hb hby d4_36) rfl ?_
    refine XS.aloadN X0.here hx rfl (hb hby d4_37) rfl rfl ?_
    show Steps p.tables e below (s₁.setTop (mkF m 38 #[.val (.ref r0), .val (.int (0 : Int32)), .val (.int (4 : Int32)), .val (.int (w0 &&& (255 : Int32))), .val (.int ((w0 &&& (255 : Int32)) &&& ((127 : Int32) >>> ((4 : Int32) &&& 31)))), .val (.int (1 : Int32))] [(.ref r0), (.int (((w0 &&& (255 : Int32)) &&& ((127 : Int32) >>> ((4 : Int32) &&& 31))) <<< ((6 : Int32) &&& 31)))])) _
    refine XS.iloadN X0.here hx rfl (hb hby d4_38) rfl ?_
    refine XS.iload X0.here hx rfl (hb hby d4_39) rfl ?_
    refine XS.iadd X0.here hx rfl (hb hby d4_41) rfl ?_
    exact kt
  have st4 : ∀ target, Steps p.tables e below (s₁.setTop (mkF m 43 #[.val (.ref r0), .val (.int (0 : Int32)), .val (.int (4 : Int32)), .val (.int (w0 &&& (255 : Int32))), .val (.int ((w0 &&& (255 : Int32)) &&& ((127 : Int32) >>> ((4 : Int32) &&& 31)))), .val (.int (1 : Int32))] [(.int w1), (.int (((w0 &&& (255 : Int32)) &&& ((127 : Int32) >>> ((4 : Int32) &&& 31))) <<< ((6 : Int32) &&& 31)))])) target → Steps p.tables e below (s₁.setTop (mkF m 42 #[.val (.ref r0), .val (.int (0 : Int32)), .val (.int (4 : Int32)), .val (.int (w0 &&& (255 : Int32))), .val (.int ((w0 &&& (255 : Int32)) &&& ((127 : Int32) >>> ((4 : Int32) &&& 31)))), .val (.int (1 : Int32))] [(.int (1 : Int32)), (.ref r0), (.int (((w0 &&& (255 : Int32)) &&& ((127 : Int32) >>> ((4 : Int32) &&& 31))) <<< ((6 : Int32) &&& 31)))])) target := fun target kt => X0.baloadBytes hx (j := (1 : Int32)) (v := (.int w1)) (by rw [e0]; exact Ar.1) (State.isArrayOf_alike hZ.alike Ar.2.1) Ar.2.2 hin1 hat1 (g := (mkF m 42 #[.val (.ref r0), .val (.int (0 : Int32)), .val (.int (4 : Int32)), .val (.int (w0 &&& (255 : Int32))), .val (.int ((w0 &&& (255 : Int32)) &&& ((127 : Int32) >>> ((4 : Int32) &&& 31)))), .val (.int (1 : Int32))] [(.int (1 : Int32)), (.ref r0), (.int (((w0 &&& (255 : Int32)) &&& ((127 : Int32) >>> ((4 : Int32) &&& 31))) <<< ((6 : Int32) &&& 31)))])) rfl rfl (hb hby d4_42) _ kt
  have st5 : ∀ target, Steps p.tables e below (s₁.setTop (mkF m 42 #[.val (.ref r0), .val (.int (0 : Int32)), .val (.int (4 : Int32)), .val (.int (w0 &&& (255 : Int32))), .val (.int ((((w0 &&& (255 : Int32)) &&& ((127 : Int32) >>> ((4 : Int32) &&& 31))) <<< ((6 : Int32) &&& 31)) ||| (w1 &&& (63 : Int32)))), .val (.int (2 : Int32))] [(.int (2 : Int32)), (.ref r0), (.int (((((w0 &&& (255 : Int32)) &&& ((127 : Int32) >>> ((4 : Int32) &&& 31))) <<< ((6 : Int32) &&& 31)) ||| (w1 &&& (63 : Int32))) <<< ((6 : Int32) &&& 31)))])) target → Steps p.tables e below (s₁.setTop (mkF m 43 #[.val (.ref r0), .val (.int (0 : Int32)), .val (.int (4 : Int32)), .val (.int (w0 &&& (255 : Int32))), .val (.int ((w0 &&& (255 : Int32)) &&& ((127 : Int32) >>> ((4 : Int32) &&& 31)))), .val (.int (1 : Int32))] [(.int w1), (.int (((w0 &&& (255 : Int32)) &&& ((127 : Int32) >>> ((4 : Int32) &&& 31))) <<< ((6 : Int32) &&& 31)))])) target := by
    intro target kt
    refine XS.bipush X0.here hx rfl (hb hby d4_43) ?_
    refine XS.iand X0.here hx rfl (hb hby d4_45) rfl ?_
    refine XS.ior X0.here hx rfl (hb hby d4_46) rfl ?_
    refine XS.istore X0.here hx rfl (hb hby d4_47) rfl (l' := #[.val (.ref r0), .val (.int (0 : Int32)), .val (.int (4 : Int32)), .val (.int (w0 &&& (255 : Int32))), .val (.int ((((w0 &&& (255 : Int32)) &&& ((127 : Int32) >>> ((4 : Int32) &&& 31))) <<< ((6 : Int32) &&& 31)) ||| (w1 &&& (63 : Int32)))), .val (.int (1 : Int32))]) rfl ?_
    refine XS.iinc X0.here hx rfl (hb hby d4_49) rfl (l' := #[.val (.ref r0), .val (.int (0 : Int32)), .val (.int (4 : Int32)), .val (.int (w0 &&& (255 : Int32))), .val (.int ((((w0 &&& (255 : Int32)) &&& ((127 : Int32) >>> ((4 : Int32) &&& 31))) <<< ((6 : Int32) &&& 31)) ||| (w1 &&& (63 : Int32)))), .val (.int (2 : Int32))]) rfl ?_
    show Steps p.tables e below (s₁.setTop (mkF m 52 #[.val (.ref r0), .val (.int (0 : Int32)), .val (.int (4 : Int32)), .val (.int (w0 &&& (255 : Int32))), .val (.int ((((w0 &&& (255 : Int32)) &&& ((127 : Int32) >>> ((4 : Int32) &&& 31))) <<< ((6 : Int32) &&& 31)) ||| (w1 &&& (63 : Int32)))), .val (.int (2 : Int32))] [])) _
    refine XS.goto X0.here hx rfl (pc0 := 52) (pc' := 26) rfl (hb hby d4_52) (by decide) (by decide) ?_
    refine XS.iload X0.here hx rfl (hb hby d4_26) rfl ?_
    refine XS.iloadN X0.here hx rfl (hb hby d4_28) rfl ?_
    refine XS.icmpNo X0.here hx rfl (hb hby d4_29) rfl (tlt (by decide : ((2 : Int32) < (4 : Int32)))).2.1 ?_
    refine XS.iload X0.here hx rfl (hb hby d4_32) rfl ?_
    refine XS.bipush X0.here hx rfl (hb hby d4_34) ?_
    refine XS.ishl X0.here hx rfl (hb hby d4_36) rfl ?_
    refine XS.aloadN X0.here hx rfl (hb hby d4_37) rfl rfl ?_
    show Steps p.tables e below (s₁.setTop (mkF m 38 #[.val (.ref r0), .val (.int (0 : Int32)), .val (.int (4 : Int32)), .val (.int (w0 &&& (255 : Int32))), .val (.int ((((w0 &&& (255 : Int32)) &&& ((127 : Int32) >>> ((4 : Int32) &&& 31))) <<< ((6 : Int32) &&& 31)) ||| (w1 &&& (63 : Int32)))), .val (.int (2 : Int32))] [(.ref r0), (.int (((((w0 &&& (255 : Int32)) &&& ((127 : Int32) >>> ((4 : Int32) &&& 31))) <<< ((6 : Int32) &&& 31)) ||| (w1 &&& (63 : Int32))) <<< ((6 : Int32) &&& 31)))])) _
    refine XS.iloadN X0.here hx rfl (hb hby d4_38) rfl ?_
    refine XS.iload X0.here hx rfl (hb hby d4_39) rfl ?_
    refine XS.iadd X0.here hx rfl (hb hby d4_41) rfl ?_
    exact kt
  have st6 : ∀ target, Steps p.tables e below (s₁.setTop (mkF m 43 #[.val (.ref r0), .val (.int (0 : Int32)), .val (.int (4 : Int32)), .val (.int (w0 &&& (255 : Int32))), .val (.int ((((w0 &&& (255 : Int32)) &&& ((127 : Int32) >>> ((4 : Int32) &&& 31))) <<< ((6 : Int32) &&& 31)) ||| (w1 &&& (63 : Int32)))), .val (.int (2 : Int32))] [(.int w2), (.int (((((w0 &&& (255 : Int32)) &&& ((127 : Int32) >>> ((4 : Int32) &&& 31))) <<< ((6 : Int32) &&& 31)) ||| (w1 &&& (63 : Int32))) <<< ((6 : Int32) &&& 31)))])) target → Steps p.tables e below (s₁.setTop (mkF m 42 #[.val (.ref r0), .val (.int (0 : Int32)), .val (.int (4 : Int32)), .val (.int (w0 &&& (255 : Int32))), .val (.int ((((w0 &&& (255 : Int32)) &&& ((127 : Int32) >>> ((4 : Int32) &&& 31))) <<< ((6 : Int32) &&& 31)) ||| (w1 &&& (63 : Int32)))), .val (.int (2 : Int32))] [(.int (2 : Int32)), (.ref r0), (.int (((((w0 &&& (255 : Int32)) &&& ((127 : Int32) >>> ((4 : Int32) &&& 31))) <<< ((6 : Int32) &&& 31)) ||| (w1 &&& (63 : Int32))) <<< ((6 : Int32) &&& 31)))])) target := fun target kt => X0.baloadBytes hx (j := (2 : Int32)) (v := (.int w2)) (by rw [e0]; exact Ar.1) (State.isArrayOf_alike hZ.alike Ar.2.1) Ar.2.2 hin2 hat2 (g := (mkF m 42 #[.val (.ref r0), .val (.int (0 : Int32)), .val (.int (4 : Int32)), .val (.int (w0 &&& (255 : Int32))), .val (.int ((((w0 &&& (255 : Int32)) &&& ((127 : Int32) >>> ((4 : Int32) &&& 31))) <<< ((6 : Int32) &&& 31)) ||| (w1 &&& (63 : Int32)))), .val (.int (2 : Int32))] [(.int (2 : Int32)), (.ref r0), (.int (((((w0 &&& (255 : Int32)) &&& ((127 : Int32) >>> ((4 : Int32) &&& 31))) <<< ((6 : Int32) &&& 31)) ||| (w1 &&& (63 : Int32))) <<< ((6 : Int32) &&& 31)))])) rfl rfl (hb hby d4_42) _ kt
  have st7 : ∀ target, Steps p.tables e below (s₁.setTop (mkF m 42 #[.val (.ref r0), .val (.int (0 : Int32)), .val (.int (4 : Int32)), .val (.int (w0 &&& (255 : Int32))), .val (.int ((((((w0 &&& (255 : Int32)) &&& ((127 : Int32) >>> ((4 : Int32) &&& 31))) <<< ((6 : Int32) &&& 31)) ||| (w1 &&& (63 : Int32))) <<< ((6 : Int32) &&& 31)) ||| (w2 &&& (63 : Int32)))), .val (.int (3 : Int32))] [(.int (3 : Int32)), (.ref r0), (.int (((((((w0 &&& (255 : Int32)) &&& ((127 : Int32) >>> ((4 : Int32) &&& 31))) <<< ((6 : Int32) &&& 31)) ||| (w1 &&& (63 : Int32))) <<< ((6 : Int32) &&& 31)) ||| (w2 &&& (63 : Int32))) <<< ((6 : Int32) &&& 31)))])) target → Steps p.tables e below (s₁.setTop (mkF m 43 #[.val (.ref r0), .val (.int (0 : Int32)), .val (.int (4 : Int32)), .val (.int (w0 &&& (255 : Int32))), .val (.int ((((w0 &&& (255 : Int32)) &&& ((127 : Int32) >>> ((4 : Int32) &&& 31))) <<< ((6 : Int32) &&& 31)) ||| (w1 &&& (63 : Int32)))), .val (.int (2 : Int32))] [(.int w2), (.int (((((w0 &&& (255 : Int32)) &&& ((127 : Int32) >>> ((4 : Int32) &&& 31))) <<< ((6 : Int32) &&& 31)) ||| (w1 &&& (63 : Int32))) <<< ((6 : Int32) &&& 31)))])) target := by
    intro target kt
    refine XS.bipush X0.here hx rfl (hb hby d4_43) ?_
    refine XS.iand X0.here hx rfl (hb hby d4_45) rfl ?_
    refine XS.ior X0.here hx rfl (hb hby d4_46) rfl ?_
    refine XS.istore X0.here hx rfl (hb hby d4_47) rfl (l' := #[.val (.ref r0), .val (.int (0 : Int32)), .val (.int (4 : Int32)), .val (.int (w0 &&& (255 : Int32))), .val (.int ((((((w0 &&& (255 : Int32)) &&& ((127 : Int32) >>> ((4 : Int32) &&& 31))) <<< ((6 : Int32) &&& 31)) ||| (w1 &&& (63 : Int32))) <<< ((6 : Int32) &&& 31)) ||| (w2 &&& (63 : Int32)))), .val (.int (2 : Int32))]) rfl ?_
    refine XS.iinc X0.here hx rfl (hb hby d4_49) rfl (l' := #[.val (.ref r0), .val (.int (0 : Int32)), .val (.int (4 : Int32)), .val (.int (w0 &&& (255 : Int32))), .val (.int ((((((w0 &&& (255 : Int32)) &&& ((127 : Int32) >>> ((4 : Int32) &&& 31))) <<< ((6 : Int32) &&& 31)) ||| (w1 &&& (63 : Int32))) <<< ((6 : Int32) &&& 31)) ||| (w2 &&& (63 : Int32)))), .val (.int (3 : Int32))]) rfl ?_
    show Steps p.tables e below (s₁.setTop (mkF m 52 #[.val (.ref r0), .val (.int (0 : Int32)), .val (.int (4 : Int32)), .val (.int (w0 &&& (255 : Int32))), .val (.int ((((((w0 &&& (255 : Int32)) &&& ((127 : Int32) >>> ((4 : Int32) &&& 31))) <<< ((6 : Int32) &&& 31)) ||| (w1 &&& (63 : Int32))) <<< ((6 : Int32) &&& 31)) ||| (w2 &&& (63 : Int32)))), .val (.int (3 : Int32))] [])) _
    refine XS.goto X0.here hx rfl (pc0 := 52) (pc' := 26) rfl (hb hby d4_52) (by decide) (by decide) ?_
    refine XS.iload X0.here hx rfl (hb hby d4_26) rfl ?_
    refine XS.iloadN X0.here hx rfl (hb hby d4_28) rfl ?_
    refine XS.icmpNo X0.here hx rfl (hb hby d4_29) rfl (tlt (by decide : ((3 : Int32) < (4 : Int32)))).2.1 ?_
    refine XS.iload X0.here hx rfl (hb hby d4_32) rfl ?_
    refine XS.bipush X0.here hx rfl (hb hby d4_34) ?_
    refine XS.ishl X0.here hx rfl (hb hby d4_36) rfl ?_
    refine XS.aloadN X0.here hx rfl (hb hby d4_37) rfl rfl ?_
    show Steps p.tables e below (s₁.setTop (mkF m 38 #[.val (.ref r0), .val (.int (0 : Int32)), .val (.int (4 : Int32)), .val (.int (w0 &&& (255 : Int32))), .val (.int ((((((w0 &&& (255 : Int32)) &&& ((127 : Int32) >>> ((4 : Int32) &&& 31))) <<< ((6 : Int32) &&& 31)) ||| (w1 &&& (63 : Int32))) <<< ((6 : Int32) &&& 31)) ||| (w2 &&& (63 : Int32)))), .val (.int (3 : Int32))] [(.ref r0), (.int (((((((w0 &&& (255 : Int32)) &&& ((127 : Int32) >>> ((4 : Int32) &&& 31))) <<< ((6 : Int32) &&& 31)) ||| (w1 &&& (63 : Int32))) <<< ((6 : Int32) &&& 31)) ||| (w2 &&& (63 : Int32))) <<< ((6 : Int32) &&& 31)))])) _
    refine XS.iloadN X0.here hx rfl (hb hby d4_38) rfl ?_
    refine XS.iload X0.here hx rfl (hb hby d4_39) rfl ?_
    refine XS.iadd X0.here hx rfl (hb hby d4_41) rfl ?_
    exact kt
  have st8 : ∀ target, Steps p.tables e below (s₁.setTop (mkF m 43 #[.val (.ref r0), .val (.int (0 : Int32)), .val (.int (4 : Int32)), .val (.int (w0 &&& (255 : Int32))), .val (.int ((((((w0 &&& (255 : Int32)) &&& ((127 : Int32) >>> ((4 : Int32) &&& 31))) <<< ((6 : Int32) &&& 31)) ||| (w1 &&& (63 : Int32))) <<< ((6 : Int32) &&& 31)) ||| (w2 &&& (63 : Int32)))), .val (.int (3 : Int32))] [(.int w3), (.int (((((((w0 &&& (255 : Int32)) &&& ((127 : Int32) >>> ((4 : Int32) &&& 31))) <<< ((6 : Int32) &&& 31)) ||| (w1 &&& (63 : Int32))) <<< ((6 : Int32) &&& 31)) ||| (w2 &&& (63 : Int32))) <<< ((6 : Int32) &&& 31)))])) target → Steps p.tables e below (s₁.setTop (mkF m 42 #[.val (.ref r0), .val (.int (0 : Int32)), .val (.int (4 : Int32)), .val (.int (w0 &&& (255 : Int32))), .val (.int ((((((w0 &&& (255 : Int32)) &&& ((127 : Int32) >>> ((4 : Int32) &&& 31))) <<< ((6 : Int32) &&& 31)) ||| (w1 &&& (63 : Int32))) <<< ((6 : Int32) &&& 31)) ||| (w2 &&& (63 : Int32)))), .val (.int (3 : Int32))] [(.int (3 : Int32)), (.ref r0), (.int (((((((w0 &&& (255 : Int32)) &&& ((127 : Int32) >>> ((4 : Int32) &&& 31))) <<< ((6 : Int32) &&& 31)) ||| (w1 &&& (63 : Int32))) <<< ((6 : Int32) &&& 31)) ||| (w2 &&& (63 : Int32))) <<< ((6 : Int32) &&& 31)))])) target := fun target kt => X0.baloadBytes hx (j := (3 : Int32)) (v := (.int w3)) (by rw [e0]; exact Ar.1) (State.isArrayOf_alike hZ.alike Ar.2.1) Ar.2.2 hin3 hat3 (g := (mkF m 42 #[.val (.ref r0), .val (.int (0 : Int32)), .val (.int (4 : Int32)), .val (.int (w0 &&& (255 : Int32))), .val (.int ((((((w0 &&& (255 : Int32)) &&& ((127 : Int32) >>> ((4 : Int32) &&& 31))) <<< ((6 : Int32) &&& 31)) ||| (w1 &&& (63 : Int32))) <<< ((6 : Int32) &&& 31)) ||| (w2 &&& (63 : Int32)))), .val (.int (3 : Int32))] [(.int (3 : Int32)), (.ref r0), (.int (((((((w0 &&& (255 : Int32)) &&& ((127 : Int32) >>> ((4 : Int32) &&& 31))) <<< ((6 : Int32) &&& 31)) ||| (w1 &&& (63 : Int32))) <<< ((6 : Int32) &&& 31)) ||| (w2 &&& (63 : Int32))) <<< ((6 : Int32) &&& 31)))])) rfl rfl (hb hby d4_42) _ kt
  obtain ⟨fs, hr, hrun, hended, hW, hsame⟩ := X0.leave (v := some (.int ((((((((w0 &&& (255 : Int32)) &&& ((127 : Int32) >>> ((4 : Int32) &&& 31))) <<< ((6 : Int32) &&& 31)) ||| (w1 &&& (63 : Int32))) <<< ((6 : Int32) &&& 31)) ||| (w2 &&& (63 : Int32))) <<< ((6 : Int32) &&& 31)) ||| (w3 &&& (63 : Int32))))) (fun h => by rw [Bd.returns] at h; cases h)
  refine ⟨_, _, pre0 _ (st1 _ (st2 _ (st3 _ (st4 _ (st5 _ (st6 _ (st7 _ (st8 _ ?_)))))))), hrun, hended, _, _, rfl, ?_, ⟨_, rfl⟩, hW, hsame.mono (by decide) (by decide)⟩
  · refine XS.bipush X0.here hx rfl (hb hby d4_43) ?_
    refine XS.iand X0.here hx rfl (hb hby d4_45) rfl ?_
    refine XS.ior X0.here hx rfl (hb hby d4_46) rfl ?_
    refine XS.istore X0.here hx rfl (hb hby d4_47) rfl (l' := #[.val (.ref r0), .val (.int (0 : Int32)), .val (.int (4 : Int32)), .val (.int (w0 &&& (255 : Int32))), .val (.int ((((((((w0 &&& (255 : Int32)) &&& ((127 : Int32) >>> ((4 : Int32) &&& 31))) <<< ((6 : Int32) &&& 31)) ||| (w1 &&& (63 : Int32))) <<< ((6 : Int32) &&& 31)) ||| (w2 &&& (63 : Int32))) <<< ((6 : Int32) &&& 31)) ||| (w3 &&& (63 : Int32)))), .val (.int (3 : Int32))]) rfl ?_
    refine XS.iinc X0.here hx rfl (hb hby d4_49) rfl (l' := #[.val (.ref r0), .val (.int (0 : Int32)), .val (.int (4 : Int32)), .val (.int (w0 &&& (255 : Int32))), .val (.int ((((((((w0 &&& (255 : Int32)) &&& ((127 : Int32) >>> ((4 : Int32) &&& 31))) <<< ((6 : Int32) &&& 31)) ||| (w1 &&& (63 : Int32))) <<< ((6 : Int32) &&& 31)) ||| (w2 &&& (63 : Int32))) <<< ((6 : Int32) &&& 31)) ||| (w3 &&& (63 : Int32)))), .val (.int (4 : Int32))]) rfl ?_
    show Steps p.tables e below (s₁.setTop (mkF m 52 #[.val (.ref r0), .val (.int (0 : Int32)), .val (.int (4 : Int32)), .val (.int (w0 &&& (255 : Int32))), .val (.int ((((((((w0 &&& (255 : Int32)) &&& ((127 : Int32) >>> ((4 : Int32) &&& 31))) <<< ((6 : Int32) &&& 31)) ||| (w1 &&& (63 : Int32))) <<< ((6 : Int32) &&& 31)) ||| (w2 &&& (63 : Int32))) <<< ((6 : Int32) &&& 31)) ||| (w3 &&& (63 : Int32)))), .val (.int (4 : Int32))] [])) _
    refine XS.goto X0.here hx rfl (pc0 := 52) (pc' := 26) rfl (hb hby d4_52) (by decide) (by decide) ?_
    refine XS.iload X0.here hx rfl (hb hby d4_26) rfl ?_
    refine XS.iloadN X0.here hx rfl (hb hby d4_28) rfl ?_
    refine XS.icmpYes X0.here hx rfl (pc0 := 29) (pc' := 55) rfl (hb hby d4_29) rfl (flt (by decide : ¬ ((4 : Int32) < (4 : Int32)))).2.1 (by decide) (by decide) ?_
    refine XS.iload X0.here hx rfl (hb hby d4_55) rfl ?_
    show Steps p.tables e below (s₁.setTop (mkF m 57 #[.val (.ref r0), .val (.int (0 : Int32)), .val (.int (4 : Int32)), .val (.int (w0 &&& (255 : Int32))), .val (.int ((((((((w0 &&& (255 : Int32)) &&& ((127 : Int32) >>> ((4 : Int32) &&& 31))) <<< ((6 : Int32) &&& 31)) ||| (w1 &&& (63 : Int32))) <<< ((6 : Int32) &&& 31)) ||| (w2 &&& (63 : Int32))) <<< ((6 : Int32) &&& 31)) ||| (w3 &&& (63 : Int32)))), .val (.int (4 : Int32))] [(.int ((((((((w0 &&& (255 : Int32)) &&& ((127 : Int32) >>> ((4 : Int32) &&& 31))) <<< ((6 : Int32) &&& 31)) ||| (w1 &&& (63 : Int32))) <<< ((6 : Int32) &&& 31)) ||| (w2 &&& (63 : Int32))) <<< ((6 : Int32) &&& 31)) ||| (w3 &&& (63 : Int32))))])) _
    exact retI X0 hx Bd.returns (hb hby d4_57) hr
  · show Q_rmCP4 Z r0 cl w0 w1 w2 w3 h0 n0 _ s₁.heap _
    rw [e0]
    exact ⟨rfl, N0, rfl⟩
theorem own_v1 {v : Int32} (h0 : 0 ≤ v.toInt) (h1 : v.toInt < 128) : own_cp1 (nar .byte (v.toInt8.toInt32)) = v := own_lead1 h0 h1
theorem own_v2 {v : Int32} (h0 : 128 ≤ v.toInt) (h1 : v.toInt < 2048) : own_cp2 (nar .byte ((((65280 : Int32) >>> ((2 : Int32) &&& 31)) ||| own_u6 v).toInt8.toInt32)) (nar .byte ((128 ||| (v &&& (63 : Int32))).toInt8.toInt32)) = v := by
  have a1 := own_and63 v; have a2 := own_u6i (x := v) (by omega)
  unfold own_cp2
  rw [(own_S2 (x := own_u6 v) (by omega) (by omega)).2, own_cont (by omega) (by omega)]
  apply Int32.toInt_inj.mp
  rw [own_join (by omega) (by omega) (by omega) (by omega)]
  omega
theorem own_v3 {v : Int32} (h0 : 2048 ≤ v.toInt) (h1 : v.toInt < 65536) : own_cp3 (nar .byte ((((65280 : Int32) >>> ((3 : Int32) &&& 31)) ||| own_u6 (own_u6 v)).toInt8.toInt32)) (nar .byte ((128 ||| (own_u6 v &&& (63 : Int32))).toInt8.toInt32)) (nar .byte ((128 ||| (v &&& (63 : Int32))).toInt8.toInt32)) = v := by
  have a1 := own_and63 v; have a2 := own_u6i (x := v) (by omega); have a3 := own_u6i (x := own_u6 v) (by omega); have a4 := own_and63 (own_u6 v)
  unfold own_cp3
  rw [(own_S3 (x := own_u6 (own_u6 v)) (by omega) (by omega)).2, own_cont (by omega) (by omega), own_cont (by omega) (by omega)]
  have b1 := own_join (y := own_u6 (own_u6 v)) (z := own_u6 v &&& (63 : Int32)) (by omega) (by omega) (by omega) (by omega)
  apply Int32.toInt_inj.mp
  rw [own_join (by omega) (by omega) (by omega) (by omega)]
  omega
theorem own_v4 {v : Int32} (h0 : 65536 ≤ v.toInt) (h1 : v.toInt < 1114112) : own_cp4 (nar .byte ((((65280 : Int32) >>> ((4 : Int32) &&& 31)) ||| own_u6 (own_u6 (own_u6 v))).toInt8.toInt32)) (nar .byte ((128 ||| (own_u6 (own_u6 v) &&& (63 : Int32))).toInt8.toInt32)) (nar .byte ((128 ||| (own_u6 v &&& (63 : Int32))).toInt8.toInt32)) (nar .byte ((128 ||| (v &&& (63 : Int32))).toInt8.toInt32)) = v := by
  have a1 := own_and63 v; have a2 := own_u6i (x := v) (by omega); have a3 := own_u6i (x := own_u6 v) (by omega); have a4 := own_u6i (x := own_u6 (own_u6 v)) (by omega); have a5 := own_and63 (own_u6 v); have a6 := own_and63 (own_u6 (own_u6 v))
  unfold own_cp4
  rw [(own_S4 (x := own_u6 (own_u6 (own_u6 v))) (by omega) (by omega)).2, own_cont (by omega) (by omega), own_cont (by omega) (by omega), own_cont (by omega) (by omega)]
  have b1 := own_join (y := own_u6 (own_u6 (own_u6 v))) (z := own_u6 (own_u6 v) &&& (63 : Int32)) (by omega) (by omega) (by omega) (by omega)
  have b2 := own_join (y := own_u6 (own_u6 (own_u6 v)) <<< ((6 : Int32) &&& 31) ||| (own_u6 (own_u6 v) &&& (63 : Int32))) (z := own_u6 v &&& (63 : Int32)) (by omega) (by omega) (by omega) (by omega)
  apply Int32.toInt_inj.mp
  rw [own_join (by omega) (by omega) (by omega) (by omega)]
  omega
/-- the place in the tables, and what they say of the second byte -/
theorem own_q1 {c : Cell} (T : own_TL c) {v : Int32} (h0 : 0 ≤ v.toInt) (h1 : v.toInt < 128) : 0 ≤ ((nar .byte (v.toInt8.toInt32)) &&& (255 : Int32)).toInt ∧ ((nar .byte (v.toInt8.toInt32)) &&& (255 : Int32)).toInt < 256 ∧ atv c ((nar .byte (v.toInt8.toInt32)) &&& (255 : Int32)) = 1 := by
  rw [own_lead1 h0 h1]
  exact ⟨h0, by omega, (T v h0 (by omega)).1 h1⟩
theorem own_q2 {cl co ch : Cell} (T : own_TL cl) (O : own_TO co) (H : own_TH ch) {j w : Int32} {x y : Int} (hj : j.toInt = 192 + x) (hw : w.toInt = 128 + y) (h0 : 2 ≤ x) (h1 : x < 32) (y0 : 0 ≤ y) (y1 : y < 64) : 0 ≤ j.toInt ∧ j.toInt < 256 ∧ atv cl j = 2 ∧ ¬ w < atv co j ∧ ¬ atv ch j < w := by
  have r0 : 0 ≤ j.toInt := by omega
  have r1 : j.toInt < 256 := by omega
  refine ⟨r0, r1, (T j r0 r1).2.1 (by omega) (by omega), ?_, ?_⟩
  · rw [(O j r0 r1).1 (by omega) (by omega)]; exact own_nltI (by show (128 : Int) ≤ _; omega)
  · rw [(H j r0 r1).1 (by omega) (by omega)]; exact own_nltI (by show _ ≤ (191 : Int); omega)
theorem own_q3 {cl co ch : Cell} (T : own_TL cl) (O : own_TO co) (H : own_TH ch) {j w : Int32} {x y : Int} (hj : j.toInt = 224 + x) (hw : w.toInt = 128 + y) (h0 : 0 ≤ x) (h1 : x < 16) (y0 : 0 ≤ y) (y1 : y < 64) (z0 : x = 0 → 32 ≤ y) (z1 : x = 13 → y < 32) : 0 ≤ j.toInt ∧ j.toInt < 256 ∧ atv cl j = 3 ∧ ¬ w < atv co j ∧ ¬ atv ch j < w := by
  have r0 : 0 ≤ j.toInt := by omega
  have r1 : j.toInt < 256 := by omega
  refine ⟨r0, r1, (T j r0 r1).2.2.1 (by omega) (by omega), ?_, ?_⟩
  · by_cases q : x = 0
    · rw [(O j r0 r1).2.1 (by omega)]; exact own_nltI (by show (160 : Int) ≤ _; omega)
    · rw [(O j r0 r1).2.2.1 (by omega) (by omega)]; exact own_nltI (by show (128 : Int) ≤ _; omega)
  · by_cases q : x = 13
    · rw [(H j r0 r1).2.1 (by omega)]; exact own_nltI (by show _ ≤ (159 : Int); omega)
    · by_cases q' : x < 13
      · rw [(H j r0 r1).1 (by omega) (by omega)]; exact own_nltI (by show _ ≤ (191 : Int); omega)
      · rw [(H j r0 r1).2.2.1 (by omega) (by omega)]; exact own_nltI (by show _ ≤ (191 : Int); omega)
theorem own_q4 {cl co ch : Cell} (T : own_TL cl) (O : own_TO co) (H : own_TH ch) {j w : Int32} {x y : Int} (hj : j.toInt = 240 + x) (hw : w.toInt = 128 + y) (h0 : 0 ≤ x) (h1 : x < 5) (y0 : 0 ≤ y) (y1 : y < 64) (z0 : x = 0 → 16 ≤ y) (z1 : x = 4 → y < 16) : 0 ≤ j.toInt ∧ j.toInt < 256 ∧ atv cl j = 4 ∧ ¬ w < atv co j ∧ ¬ atv ch j < w := by
  have r0 : 0 ≤ j.toInt := by omega
  have r1 : j.toInt < 256 := by omega
  refine ⟨r0, r1, (T j r0 r1).2.2.2 (by omega) (by omega), ?_, ?_⟩
  · by_cases q : x = 0
    · rw [(O j r0 r1).2.2.2.1 (by omega)]; exact own_nltI (by show (144 : Int) ≤ _; omega)
    · rw [(O j r0 r1).2.2.2.2 (by omega) (by omega)]; exact own_nltI (by show (128 : Int) ≤ _; omega)
  · by_cases q : x = 4
    · rw [(H j r0 r1).2.2.2 (by omega)]; exact own_nltI (by show _ ≤ (143 : Int); omega)
    · rw [(H j r0 r1).2.2.1 (by omega) (by omega)]; exact own_nltI (by show _ ≤ (191 : Int); omega)
theorem own_cp (x cp : Int32) (h : cp = (if ((x &&& (2147483647 : Int32)) % (1112064 : Int32)) < (55296 : Int32) then ((x &&& (2147483647 : Int32)) % (1112064 : Int32)) else (((x &&& (2147483647 : Int32)) % (1112064 : Int32)) + (2048 : Int32)))) : 0 ≤ cp.toInt ∧ cp.toInt < 1114112 ∧ ¬ (55296 ≤ cp.toInt ∧ cp.toInt < 57344) := by
  have a := (c_and x (2147483647 : Int32) (by decide)).1
  have e := (c_irem (x &&& (2147483647 : Int32)) (1112064 : Int32) 1112064 rfl).1 a
  have e2 := c_iadd ((x &&& (2147483647 : Int32)) % (1112064 : Int32)) (2048 : Int32)
  have b1 := Int32.le_toInt (((x &&& (2147483647 : Int32)) % (1112064 : Int32)) + (2048 : Int32))
  have b2 := Int32.toInt_lt (((x &&& (2147483647 : Int32)) % (1112064 : Int32)) + (2048 : Int32))
  rw [show (2048 : Int32).toInt = 2048 from rfl] at e2
  rw [h]
  by_cases q : ((x &&& (2147483647 : Int32)) % (1112064 : Int32)) < (55296 : Int32)
  · rw [if_pos q]; rw [Int32.lt_iff_toInt_lt, show (55296 : Int32).toInt = 55296 from rfl] at q; omega
  · rw [if_neg q]; rw [Int32.lt_iff_toInt_lt, show (55296 : Int32).toInt = 55296 from rfl] at q; omega
theorem pn_1 : plainName "com/example/murray_hill/murrayhill/WellFormedSequenceLengthPinLaw" = true := by first | (simp [plainName, overriddenIn]; done) | decide +kernel
theorem ef_rm0 (m : MethodId) (x0 : Int32) : entryFrame m #[(.int x0)] maxLocals = mkF m 0 #[.val (.int x0), .unset, .unset, .unset, .unset] [] := by first | (simp [entryFrame, mkF, argsToLocals, Value.category, maxLocals]; done) | rfl
def Q_rm0 (Z : State) (p0 : Int32) (cL : Cell) (aL : Addr) (cO : Cell) (aO : Addr) (cH : Cell) (aH : Addr) (h0 : Heap) (n0 : Nat) (v : Option Value) (h : Heap) (L : List Loc) : Prop := v = some (.int 1) ∧ Fr n0 L
set_option maxRecDepth 65536 in
set_option maxHeartbeats 40000000 in
theorem rm0 (l : Launch) (Z : State) (a0 : Array Value) (hw : ∀ d ∈ tables_1, d.before a0 Z = true) (ws : List Jvm.Cond) (p0 : Int32) (cL : Cell) (aL : Addr) (cO : Cell) (aO : Addr) (cH : Cell) (aH : Addr) (h0 : Heap) (n0 : Nat) (Z0 : n0 ≤ h0.size) (Od : Old Z n0 h0) (S_cL : Sta Z Z.heap "com/example/murray_hill/murrayhill/WellFormed" "LENGTH" "[B" (.ref aL)) (B_cL : Tab Z Z.heap aL cL .byte (256 : Int32)) (S_cO : Sta Z Z.heap "com/example/murray_hill/murrayhill/WellFormed" "SECOND_LOW" "[I" (.ref aO)) (B_cO : Tab Z Z.heap aO cO .int (256 : Int32)) (S_cH : Sta Z Z.heap "com/example/murray_hill/murrayhill/WellFormed" "SECOND_HIGH" "[I" (.ref aH)) (B_cH : Tab Z Z.heap aH cH .int (256 : Int32)) (TL : own_TL cL) (TO : own_TO cO) (TH : own_TH cH) :
    MetFree l x (head1 (Jvm.Cond.code x code maxLocals ret :: ws) room_1) (fun a U => a = #[(.int p0)] ∧ Z.Warmed39 U.vm ∧ U.heap = h0) (fun _ _ _ _ _ => True) (fun _ U o U' => ∃ v L, o = .returned v ∧ Q_rm0 Z p0 cL aL cO aO cH aH h0 n0 v U'.heap L ∧ FrameEnd U o U' L room_1.cells room_1.slots) := by
  refine MetFree.of_bodySF (plainFor_of_name pn_1) hisR ?_
  intro p e s m args below meth c s₁ Bd hml0 hP hK
  obtain ⟨rfl, hZ, hh⟩ := hP
  have hx := Bd.exec
  have hby := Bd.bytes
  have hml : c.maxLocals = 5 := hml0
  have hown : s.vm.findClass "com/example/murray_hill/murrayhill/WellFormedSequenceLengthPinLaw" = some m.cls := findClass_of_methodNamed Bd.named
  have hnm := (name_of_methodNamed Bd.named Bd.method).1
  have X0 : Stand p l e room_1 s m #[(.int p0)] below meth c s₁ [] 0 0 := Stand.of_body Bd
  have e0 : s₁.heap = h0 := by rw [← hh, Bd.state]; rfl
  have N0 := Fr.nil n0
  have pre0 : ∀ t, Steps p.tables e below (s₁.setTop (mkF m 0 #[.val (.int p0), .unset, .unset, .unset, .unset] [])) t → Steps p.tables e below (s₁.setTop (entryFrame m #[(.int p0)] maxLocals)) t := fun t k => castTop (ef_rm0 m p0) k
  have st1 : ∀ target, Steps p.tables e below (s₁.setTop (mkF m 8 #[.val (.int p0), .val (.int ((p0 &&& (2147483647 : Int32)) % (1112064 : Int32))), .unset, .unset, .unset] [])) target → Steps p.tables e below (s₁.setTop (mkF m 0 #[.val (.int p0), .unset, .unset, .unset, .unset] [])) target := by
    intro target kt
    refine XS.iloadN X0.here hx rfl (hb hby at_0) rfl ?_
    refine X0.ldcInt hx hown (mvT hZ (hw _ (List.mem_of_getElem? (i := 0) rfl))) (g := (mkF m 1 #[.val (.int p0), .unset, .unset, .unset, .unset] [(.int p0)])) rfl (hb hby at_1) _ ?_
    refine XS.iand X0.here hx rfl (hb hby at_3) rfl ?_
    refine X0.ldcInt hx hown (mvT hZ (hw _ (List.mem_of_getElem? (i := 1) rfl))) (g := (mkF m 4 #[.val (.int p0), .unset, .unset, .unset, .unset] [(.int (p0 &&& (2147483647 : Int32)))])) rfl (hb hby at_4) _ ?_
    refine iremM (g := (mkF m 6 #[.val (.int p0), .unset, .unset, .unset, .unset] [(.int (1112064 : Int32)), (.int (p0 &&& (2147483647 : Int32)))])) X0 hx rfl (hb hby at_6) rfl (by decide) ?_
    refine XS.istoreN X0.here hx rfl (hb hby at_7) rfl (l' := #[.val (.int p0), .val (.int ((p0 &&& (2147483647 : Int32)) % (1112064 : Int32))), .unset, .unset, .unset]) rfl ?_
    exact kt
  obtain ⟨cp, hcp, st2⟩ : ∃ (cp : Int32), cp = (if ((p0 &&& (2147483647 : Int32)) % (1112064 : Int32)) < (55296 : Int32) then ((p0 &&& (2147483647 : Int32)) % (1112064 : Int32)) else (((p0 &&& (2147483647 : Int32)) % (1112064 : Int32)) + (2048 : Int32))) ∧ ∀ target, Steps p.tables e below (s₁.setTop (mkF m 20 #[.val (.int p0), .val (.int cp), .unset, .unset, .unset] [])) target → Steps p.tables e below (s₁.setTop (mkF m 8 #[.val (.int p0), .val (.int ((p0 &&& (2147483647 : Int32)) % (1112064 : Int32))), .unset, .unset, .unset] [])) target := by
    refine ⟨_, rfl, fun target kt => ?_⟩
    refine XS.iloadN X0.here hx rfl (hb hby at_8) rfl ?_
    show Steps p.tables e below (s₁.setTop (mkF m 9 #[.val (.int p0), .val (.int ((p0 &&& (2147483647 : Int32)) % (1112064 : Int32))), .unset, .unset, .unset] [(.int ((p0 &&& (2147483647 : Int32)) % (1112064 : Int32)))])) _
    refine X0.ldcInt hx hown (mvT hZ (hw _ (List.mem_of_getElem? (i := 2) rfl))) (g := (mkF m 9 #[.val (.int p0), .val (.int ((p0 &&& (2147483647 : Int32)) % (1112064 : Int32))), .unset, .unset, .unset] [(.int ((p0 &&& (2147483647 : Int32)) % (1112064 : Int32)))])) rfl (hb hby at_9) _ ?_
    by_cases hc11 : ((p0 &&& (2147483647 : Int32)) % (1112064 : Int32)) < (55296 : Int32)
    · rw [if_pos hc11] at kt
      refine XS.icmpYes X0.here hx rfl (pc0 := 11) (pc' := 20) rfl (hb hby at_11) rfl (tlt hc11).1 (by decide) (by decide) ?_
      exact kt
    · rw [if_neg hc11] at kt
      refine XS.icmpNo X0.here hx rfl (hb hby at_11) rfl (flt hc11).1 ?_
      refine own_iincW X0.here hx rfl (hb hby at_14) rfl (l' := #[.val (.int p0), .val (.int (((p0 &&& (2147483647 : Int32)) % (1112064 : Int32)) + (2048 : Int32))), .unset, .unset, .unset]) rfl ?_
      exact kt
  obtain ⟨c0, c1, c2⟩ := own_cp p0 cp hcp
  have hcase := own_sl_case c0 c1
  have st3 : ∀ target, Steps p.tables e below (s₁.setTop (mkF m 21 #[.val (.int p0), .val (.int cp), .unset, .unset, .unset] [(.int cp)])) target → Steps p.tables e below (s₁.setTop (mkF m 20 #[.val (.int p0), .val (.int cp), .unset, .unset, .unset] [])) target := by
    intro target kt
    refine XS.iloadN X0.here hx rfl (hb hby at_20) rfl ?_
    exact kt
  obtain ⟨_, _, ⟨T4, L4, k4, n4⟩, -, X4, ⟨Lc4, hQ4, l4, y4, z4⟩, st4⟩ := Jvm.LawKit.callS X0 hx (y := (⟨"com/example/murray_hill/murrayhill/WellFormed", "sequenceLength", "(I)I"⟩ : MethodName)) hown (mvT hZ (hw _ (List.mem_of_getElem? (i := 3) rfl))) (mvT hZ (hw _ (List.mem_of_getElem? (i := 4) rfl))) (mvT hZ (hw _ (List.mem_of_getElem? (i := 5) rfl))) (mvT hZ (hw _ (List.mem_of_getElem? (i := 6) rfl))) (by decide) (backOf (W := 0) (rm1 l Z a0 hw [] cp  h0 n0 Z0 ) hZ (hw _ (List.mem_of_getElem? (i := 6) rfl)) (hw _ (List.mem_of_getElem? (i := 5) rfl)) (by decide) (by decide)) (g := (mkF m 21 #[.val (.int p0), .val (.int cp), .unset, .unset, .unset] [(.int cp)])) rfl (by rw [hml]; rfl) (argsL := [(.int cp)]) (rest := []) (lenOf pd_0 rfl) rfl (by show 2 * 0 + _ ≤ _; exact Nat.le_of_eq rfl) (hb hby at_21) (fun _ _ => ⟨rfl, e0, (by decide : 0 + 0 ≤ _), (by decide : 0 + 0 ≤ _)⟩)
  dsimp only [Pt.U, Pt.locs, Pt.cells, Pt.slots] at X4 l4 y4 z4 st4 hQ4
  subst l4 y4 z4
  obtain ⟨rfl, Nq4, e4⟩ := hQ4
  have N4 := Fr.app N0 Nq4
  obtain ⟨sl, hsl⟩ : ∃ z : Int32, z = (own_sl cp) := ⟨_, rfl⟩
  rw [← hsl] at st4
  rw [← hsl] at hcase
  rcases hcase with ⟨q, r1⟩ | ⟨q, r0, r1⟩ | ⟨q, r0, r1⟩ | ⟨q, r0⟩
  · subst q
    have st5 : ∀ target, Steps p.tables e below (T4.setTop (mkF m 38 #[.val (.int p0), .val (.int cp), .val (.int (1 : Int32)), .unset, .unset] [(.int (4 : Int32))])) target → Steps p.tables e below (T4.setTop (mkF m 24 #[.val (.int p0), .val (.int cp), .unset, .unset, .unset] [(.int (1 : Int32))])) target := by
      intro target kt
      refine XS.istoreN X4.here hx rfl (hb hby at_24) rfl (l' := #[.val (.int p0), .val (.int cp), .val (.int (1 : Int32)), .unset, .unset]) rfl ?_
      refine XS.iloadN X4.here hx rfl (hb hby at_25) rfl ?_
      refine XS.iconst X4.here hx rfl (hb hby at_26) ?_
      show Steps p.tables e below (T4.setTop (mkF m 27 #[.val (.int p0), .val (.int cp), .val (.int (1 : Int32)), .unset, .unset] [(.int (1 : Int32)), (.int (1 : Int32))])) _
      refine XS.icmpNo X4.here hx rfl (hb hby at_27) rfl (flt (by decide : ¬ ((1 : Int32) < (1 : Int32)))).1 ?_
      refine XS.iloadN X4.here hx rfl (hb hby at_30) rfl ?_
      refine XS.iconst X4.here hx rfl (hb hby at_31) ?_
      refine XS.icmpYes X4.here hx rfl (pc0 := 32) (pc' := 37) rfl (hb hby at_32) rfl (flt (by decide : ¬ ((4 : Int32) < (1 : Int32)))).2.2.2 (by decide) (by decide) ?_
      refine XS.iconst X4.here hx rfl (hb hby at_37) ?_
      exact kt
    obtain ⟨T6, h6, k6, X6, e6, E6, A6, st6⟩ := newP X4 hx hZ (hw _ (List.mem_of_getElem? (i := 7) rfl)) e4 (g := (mkF m 38 #[.val (.int p0), .val (.int cp), .val (.int (1 : Int32)), .unset, .unset] [(.int (4 : Int32))])) rfl (hb hby at_38) rfl (by decide) (cap := 4) (by decide) (by decide) (by decide) (by decide)
    obtain ⟨b, g6⟩ : ∃ z, z = h0.size := ⟨_, rfl⟩
    rw [← g6] at A6 st6
    have g_b : n0 ≤ b := Nat.le_trans Z0 (Nat.le_of_eq g6.symm)
    have Od_6 := Od.ext E6
    have Z_6 : n0 ≤ h6.size := Nat.le_trans Z0 E6.1
    have V_b : Arv Z h6 b k6 .byte (4 : Int32) [(.int (0 : Int32)), (.int (0 : Int32)), (.int (0 : Int32)), (.int (0 : Int32))] (.int (0 : Int32)) := (Arv.new A6 (by decide)).pad (pad_rep [] (.int (0 : Int32)) 4)
    have st7 : ∀ target, Steps p.tables e below (T6.setTop (mkF m 44 #[.val (.int p0), .val (.int cp), .val (.int (1 : Int32)), .val (.ref b), .unset] [(.int (0 : Int32)), (.ref b), (.int cp)])) target → Steps p.tables e below (T6.setTop (mkF m 40 #[.val (.int p0), .val (.int cp), .val (.int (1 : Int32)), .unset, .unset] [(.ref b)])) target := by
      intro target kt
      refine XS.astoreN X6.here hx rfl (hb hby at_40) rfl rfl (l' := #[.val (.int p0), .val (.int cp), .val (.int (1 : Int32)), .val (.ref b), .unset]) rfl ?_
      refine XS.iloadN X6.here hx rfl (hb hby at_41) rfl ?_
      refine XS.aloadN X6.here hx rfl (hb hby at_42) rfl rfl ?_
      show Steps p.tables e below (T6.setTop (mkF m 43 #[.val (.int p0), .val (.int cp), .val (.int (1 : Int32)), .val (.ref b), .unset] [(.ref b), (.int cp)])) _
      refine XS.iconst X6.here hx rfl (hb hby at_43) ?_
      exact kt
    obtain ⟨_, _, ⟨T8, L8, k8, n8⟩, -, X8, ⟨Lc8, hQ8, l8, y8, z8⟩, st8⟩ := Jvm.LawKit.callS X6 hx (y := (⟨"com/example/murray_hill/murrayhill/WellFormed", "writeSequence", "(I[BI)I"⟩ : MethodName)) hown (mvT hZ (hw _ (List.mem_of_getElem? (i := 8) rfl))) (mvT hZ (hw _ (List.mem_of_getElem? (i := 9) rfl))) (mvT hZ (hw _ (List.mem_of_getElem? (i := 5) rfl))) (mvT hZ (hw _ (List.mem_of_getElem? (i := 10) rfl))) (by decide) (backOf (W := 0) (rmW1 l Z a0 hw [] cp b k6 h6 n0 Z_6 V_b g_b hsl.symm) hZ (hw _ (List.mem_of_getElem? (i := 10) rfl)) (hw _ (List.mem_of_getElem? (i := 5) rfl)) (by decide) (by decide)) (g := (mkF m 44 #[.val (.int p0), .val (.int cp), .val (.int (1 : Int32)), .val (.ref b), .unset] [(.int (0 : Int32)), (.ref b), (.int cp)])) rfl (by rw [hml]; rfl) (argsL := [(.int cp), (.ref b), (.int (0 : Int32))]) (rest := []) (lenOf pd_1 rfl) rfl (by show 2 * 0 + _ ≤ _; exact Nat.le_of_eq rfl) (hb hby at_44) (fun _ _ => ⟨rfl, e6, (by decide : 1 + 0 ≤ _), (by decide : 4 + 0 ≤ _)⟩)
    dsimp only [Pt.U, Pt.locs, Pt.cells, Pt.slots] at X8 l8 y8 z8 st8 hQ8
    subst l8 y8 z8
    obtain ⟨rfl, Nq8, K8, Vb2⟩ := hQ8
    have N8 := Fr.app N4 Nq8
    have Od_8 := Od_6.keep K8 (allS g_b (all0))
    have Z_8 : n0 ≤ T8.heap.size := Nat.le_trans Z_6 K8.1
    have st9 : ∀ target, Steps p.tables e below (T8.setTop (mkF m 60 #[.val (.int p0), .val (.int cp), .val (.int (1 : Int32)), .val (.ref b), .val (.int (1 : Int32))] [(.int (4 : Int32)), (.int (0 : Int32)), (.ref b)])) target → Steps p.tables e below (T8.setTop (mkF m 47 #[.val (.int p0), .val (.int cp), .val (.int (1 : Int32)), .val (.ref b), .unset] [(.int (1 : Int32))])) target := by
      intro target kt
      refine XS.istore X8.here hx rfl (hb hby at_47) rfl (l' := #[.val (.int p0), .val (.int cp), .val (.int (1 : Int32)), .val (.ref b), .val (.int (1 : Int32))]) rfl ?_
      refine XS.iload X8.here hx rfl (hb hby at_49) rfl ?_
      refine XS.iloadN X8.here hx rfl (hb hby at_51) rfl ?_
      refine XS.icmpYes X8.here hx rfl (pc0 := 52) (pc' := 57) rfl (hb hby at_52) rfl (teq (rfl : (1 : Int32) = (1 : Int32))).1 (by decide) (by decide) ?_
      refine XS.aloadN X8.here hx rfl (hb hby at_57) rfl rfl ?_
      refine XS.iconst X8.here hx rfl (hb hby at_58) ?_
      refine XS.iconst X8.here hx rfl (hb hby at_59) ?_
      exact kt
    obtain ⟨w0, hw0⟩ : ∃ z : Int32, z = (nar .byte (cp.toInt8.toInt32)) := ⟨_, rfl⟩
    have Vb3 : Arv Z T8.heap b k6 .byte (4 : Int32) [(.int w0), (.int (0 : Int32)), (.int (0 : Int32)), (.int (0 : Int32))] (.int (0 : Int32)) := by rw [hw0]; exact Vb2
    obtain ⟨j0, j1, jL⟩ : 0 ≤ (w0 &&& (255 : Int32)).toInt ∧ (w0 &&& (255 : Int32)).toInt < 256 ∧ atv cL (w0 &&& (255 : Int32)) = 1 := by rw [hw0]; exact own_q1 TL c0 r1
    obtain ⟨_, _, ⟨T10, L10, k10, n10⟩, -, X10, ⟨Lc10, hQ10, l10, y10, z10⟩, st10⟩ := Jvm.LawKit.callS X8 hx (y := (⟨"com/example/murray_hill/murrayhill/WellFormed", "next", "([BII)I"⟩ : MethodName)) hown (mvT hZ (hw _ (List.mem_of_getElem? (i := 12) rfl))) (mvT hZ (hw _ (List.mem_of_getElem? (i := 13) rfl))) (mvT hZ (hw _ (List.mem_of_getElem? (i := 5) rfl))) (mvT hZ (hw _ (List.mem_of_getElem? (i := 14) rfl))) (by decide) (backOf (W := 0) (rmN1 l Z a0 hw [] b k6 w0 (0 : Int32) (0 : Int32) (0 : Int32) cL aL T8.heap n0 Z_8 Vb3 (S_cL.ext Od_8.2) (B_cL.ext Od_8.2).1 (own_in256 B_cL.2.1 j0 j1) (jL ▸ B_cL.2.2.2 _ (own_in256 B_cL.2.1 j0 j1))) hZ (hw _ (List.mem_of_getElem? (i := 14) rfl)) (hw _ (List.mem_of_getElem? (i := 5) rfl)) (by decide) (by decide)) (g := (mkF m 60 #[.val (.int p0), .val (.int cp), .val (.int (1 : Int32)), .val (.ref b), .val (.int (1 : Int32))] [(.int (4 : Int32)), (.int (0 : Int32)), (.ref b)])) rfl (by rw [hml]; rfl) (argsL := [(.ref b), (.int (0 : Int32)), (.int (4 : Int32))]) (rest := []) (lenOf pd_2 rfl) rfl (by show 2 * 0 + _ ≤ _; exact Nat.le_of_eq rfl) (hb hby at_60) (fun _ _ => ⟨rfl, rfl, (by decide : 1 + 0 ≤ _), (by decide : 4 + 0 ≤ _)⟩)
    dsimp only [Pt.U, Pt.locs, Pt.cells, Pt.slots] at X10 l10 y10 z10 st10 hQ10
    subst l10 y10 z10
    obtain ⟨rfl, Nq10, e10⟩ := hQ10
    have N10 := Fr.app N8 Nq10
    have st11 : ∀ target, Steps p.tables e below (T10.setTop (mkF m 72 #[.val (.int p0), .val (.int cp), .val (.int (1 : Int32)), .val (.ref b), .val (.int (1 : Int32))] [(.int (1 : Int32)), (.int (0 : Int32)), (.ref b)])) target → Steps p.tables e below (T10.setTop (mkF m 63 #[.val (.int p0), .val (.int cp), .val (.int (1 : Int32)), .val (.ref b), .val (.int (1 : Int32))] [(.int (1 : Int32))])) target := by
      intro target kt
      show Steps p.tables e below (T10.setTop (mkF m 63 #[.val (.int p0), .val (.int cp), .val (.int (1 : Int32)), .val (.ref b), .val (.int (1 : Int32))] [(.int (1 : Int32))])) _
      refine XS.iloadN X10.here hx rfl (hb hby at_63) rfl ?_
      refine XS.icmpYes X10.here hx rfl (pc0 := 64) (pc' := 69) rfl (hb hby at_64) rfl (teq (rfl : (1 : Int32) = (1 : Int32))).1 (by decide) (by decide) ?_
      refine XS.aloadN X10.here hx rfl (hb hby at_69) rfl rfl ?_
      refine XS.iconst X10.here hx rfl (hb hby at_70) ?_
      refine XS.iloadN X10.here hx rfl (hb hby at_71) rfl ?_
      exact kt
    obtain ⟨cl12, Ar12, qc12, Sz12, Mn12, Hs12, Gs12⟩ := id Vb3
    obtain ⟨_, _, ⟨T13, L13, k13, n13⟩, -, X13, ⟨Lc13, hQ13, l13, y13, z13⟩, st13⟩ := Jvm.LawKit.callS X10 hx (y := (⟨"com/example/murray_hill/murrayhill/WellFormed", "codePoint", "([BII)I"⟩ : MethodName)) hown (mvT hZ (hw _ (List.mem_of_getElem? (i := 17) rfl))) (mvT hZ (hw _ (List.mem_of_getElem? (i := 18) rfl))) (mvT hZ (hw _ (List.mem_of_getElem? (i := 5) rfl))) (mvT hZ (hw _ (List.mem_of_getElem? (i := 19) rfl))) (by decide) (backOf (W := 0) (rmCP1 l Z a0 hw [] b cl12 w0 T8.heap n0 Z_8 Ar12 (inb_of (j := (0 : Int32)) Sz12 ⟨by decide, by decide⟩) (Hs12.at (inb_of (j := (0 : Int32)) Sz12 ⟨by decide, by decide⟩) rfl)) hZ (hw _ (List.mem_of_getElem? (i := 19) rfl)) (hw _ (List.mem_of_getElem? (i := 5) rfl)) (by decide) (by decide)) (g := (mkF m 72 #[.val (.int p0), .val (.int cp), .val (.int (1 : Int32)), .val (.ref b), .val (.int (1 : Int32))] [(.int (1 : Int32)), (.int (0 : Int32)), (.ref b)])) rfl (by rw [hml]; rfl) (argsL := [(.ref b), (.int (0 : Int32)), (.int (1 : Int32))]) (rest := []) (lenOf pd_2 rfl) rfl (by show 2 * 0 + _ ≤ _; exact Nat.le_of_eq rfl) (hb hby at_72) (fun _ _ => ⟨rfl, e10, (by decide : 1 + 0 ≤ _), (by decide : 4 + 0 ≤ _)⟩)
    dsimp only [Pt.U, Pt.locs, Pt.cells, Pt.slots] at X13 l13 y13 z13 st13 hQ13
    subst l13 y13 z13
    obtain ⟨rfl, Nq13, e13⟩ := hQ13
    have N13 := Fr.app N10 Nq13
    have fin_ : own_cp1 w0 = cp := by rw [hw0]; exact own_v1 c0 r1
    obtain ⟨fs, hr, hrun, hended, hW, hsame⟩ := X13.leave (v := some (.int (1 : Int32))) (fun h => by rw [Bd.returns] at h; cases h)
    refine ⟨_, _, pre0 _ (st1 _ (st2 _ (st3 _ (st4 _ (st5 _ (st6 _ (st7 _ (st8 _ (st9 _ (st10 _ (st11 _ (st13 _ ?_)))))))))))), hrun, hended, _, _, rfl, ?_, ⟨_, rfl⟩, hW, hsame.mono (by decide) (by decide)⟩
    · refine XS.iloadN X13.here hx rfl (hb hby at_75) rfl ?_
      refine XS.icmpNo X13.here hx rfl (hb hby at_76) rfl (teq fin_).2 ?_
      refine XS.iconst X13.here hx rfl (hb hby at_79) ?_
      show Steps p.tables e below (T13.setTop (mkF m 80 #[.val (.int p0), .val (.int cp), .val (.int (1 : Int32)), .val (.ref b), .val (.int (1 : Int32))] [(.int (1 : Int32))])) _
      refine XS.goto X13.here hx rfl (pc0 := 80) (pc' := 84) rfl (hb hby at_80) (by decide) (by decide) ?_
      show Steps p.tables e below (T13.setTop (mkF m 84 #[.val (.int p0), .val (.int cp), .val (.int (1 : Int32)), .val (.ref b), .val (.int (1 : Int32))] [(.int (1 : Int32))])) _
      exact retN X13 hx (t := .boolean) Bd.returns (by simp) (hb hby at_84) hr
    · show Q_rm0 Z p0 cL aL cO aO cH aH h0 n0 _ T13.heap _
      rw [e13]
      exact ⟨rfl, N13⟩
  · subst q
    have st14 : ∀ target, Steps p.tables e below (T4.setTop (mkF m 38 #[.val (.int p0), .val (.int cp), .val (.int (2 : Int32)), .unset, .unset] [(.int (4 : Int32))])) target → Steps p.tables e below (T4.setTop (mkF m 24 #[.val (.int p0), .val (.int cp), .unset, .unset, .unset] [(.int (2 : Int32))])) target := by
      intro target kt
      refine XS.istoreN X4.here hx rfl (hb hby at_24) rfl (l' := #[.val (.int p0), .val (.int cp), .val (.int (2 : Int32)), .unset, .unset]) rfl ?_
      refine XS.iloadN X4.here hx rfl (hb hby at_25) rfl ?_
      refine XS.iconst X4.here hx rfl (hb hby at_26) ?_
      refine XS.icmpNo X4.here hx rfl (hb hby at_27) rfl (flt (by decide : ¬ ((2 : Int32) < (1 : Int32)))).1 ?_
      refine XS.iloadN X4.here hx rfl (hb hby at_30) rfl ?_
      refine XS.iconst X4.here hx rfl (hb hby at_31) ?_
      refine XS.icmpYes X4.here hx rfl (pc0 := 32) (pc' := 37) rfl (hb hby at_32) rfl (flt (by decide : ¬ ((4 : Int32) < (2 : Int32)))).2.2.2 (by decide) (by decide) ?_
      show Steps p.tables e below (T4.setTop (mkF m 37 #[.val (.int p0), .val (.int cp), .val (.int (2 : Int32)), .unset, .unset] [])) _
      refine XS.iconst X4.here hx rfl (hb hby at_37) ?_
      exact kt
    obtain ⟨T15, h15, k15, X15, e15, E15, A15, st15⟩ := newP X4 hx hZ (hw _ (List.mem_of_getElem? (i := 7) rfl)) e4 (g := (mkF m 38 #[.val (.int p0), .val (.int cp), .val (.int (2 : Int32)), .unset, .unset] [(.int (4 : Int32))])) rfl (hb hby at_38) rfl (by decide) (cap := 4) (by decide) (by decide) (by decide) (by decide)
    obtain ⟨b, g15⟩ : ∃ z, z = h0.size := ⟨_, rfl⟩
    rw [← g15] at A15 st15
    have g_b : n0 ≤ b := Nat.le_trans Z0 (Nat.le_of_eq g15.symm)
    have Od_15 := Od.ext E15
    have Z_15 : n0 ≤ h15.size := Nat.le_trans Z0 E15.1
    have V_b : Arv Z h15 b k15 .byte (4 : Int32) [(.int (0 : Int32)), (.int (0 : Int32)), (.int (0 : Int32)), (.int (0 : Int32))] (.int (0 : Int32)) := (Arv.new A15 (by decide)).pad (pad_rep [] (.int (0 : Int32)) 4)
    have st16 : ∀ target, Steps p.tables e below (T15.setTop (mkF m 44 #[.val (.int p0), .val (.int cp), .val (.int (2 : Int32)), .val (.ref b), .unset] [(.int (0 : Int32)), (.ref b), (.int cp)])) target → Steps p.tables e below (T15.setTop (mkF m 40 #[.val (.int p0), .val (.int cp), .val (.int (2 : Int32)), .unset, .unset] [(.ref b)])) target := by
      intro target kt
      refine XS.astoreN X15.here hx rfl (hb hby at_40) rfl rfl (l' := #[.val (.int p0), .val (.int cp), .val (.int (2 : Int32)), .val (.ref b), .unset]) rfl ?_
      refine XS.iloadN X15.here hx rfl (hb hby at_41) rfl ?_
      refine XS.aloadN X15.here hx rfl (hb hby at_42) rfl rfl ?_
      refine XS.iconst X15.here hx rfl (hb hby at_43) ?_
      exact kt
    obtain ⟨_, _, ⟨T17, L17, k17, n17⟩, -, X17, ⟨Lc17, hQ17, l17, y17, z17⟩, st17⟩ := Jvm.LawKit.callS X15 hx (y := (⟨"com/example/murray_hill/murrayhill/WellFormed", "writeSequence", "(I[BI)I"⟩ : MethodName)) hown (mvT hZ (hw _ (List.mem_of_getElem? (i := 8) rfl))) (mvT hZ (hw _ (List.mem_of_getElem? (i := 9) rfl))) (mvT hZ (hw _ (List.mem_of_getElem? (i := 5) rfl))) (mvT hZ (hw _ (List.mem_of_getElem? (i := 10) rfl))) (by decide) (backOf (W := 0) (rmW2 l Z a0 hw [] cp b k15 h15 n0 Z_15 V_b g_b hsl.symm) hZ (hw _ (List.mem_of_getElem? (i := 10) rfl)) (hw _ (List.mem_of_getElem? (i := 5) rfl)) (by decide) (by decide)) (g := (mkF m 44 #[.val (.int p0), .val (.int cp), .val (.int (2 : Int32)), .val (.ref b), .unset] [(.int (0 : Int32)), (.ref b), (.int cp)])) rfl (by rw [hml]; rfl) (argsL := [(.int cp), (.ref b), (.int (0 : Int32))]) (rest := []) (lenOf pd_1 rfl) rfl (by show 2 * 0 + _ ≤ _; exact Nat.le_of_eq rfl) (hb hby at_44) (fun _ _ => ⟨rfl, e15, (by decide : 1 + 0 ≤ _), (by decide : 4 + 0 ≤ _)⟩)
    dsimp only [Pt.U, Pt.locs, Pt.cells, Pt.slots] at X17 l17 y17 z17 st17 hQ17
    subst l17 y17 z17
    obtain ⟨rfl, Nq17, K17, Vb2⟩ := hQ17
    have N17 := Fr.app N4 Nq17
    have Od_17 := Od_15.keep K17 (allS g_b (all0))
    have Z_17 : n0 ≤ T17.heap.size := Nat.le_trans Z_15 K17.1
    have st18 : ∀ target, Steps p.tables e below (T17.setTop (mkF m 60 #[.val (.int p0), .val (.int cp), .val (.int (2 : Int32)), .val (.ref b), .val (.int (2 : Int32))] [(.int (4 : Int32)), (.int (0 : Int32)), (.ref b)])) target → Steps p.tables e below (T17.setTop (mkF m 47 #[.val (.int p0), .val (.int cp), .val (.int (2 : Int32)), .val (.ref b), .unset] [(.int (2 : Int32))])) target := by
      intro target kt
      refine XS.istore X17.here hx rfl (hb hby at_47) rfl (l' := #[.val (.int p0), .val (.int cp), .val (.int (2 : Int32)), .val (.ref b), .val (.int (2 : Int32))]) rfl ?_
      refine XS.iload X17.here hx rfl (hb hby at_49) rfl ?_
      refine XS.iloadN X17.here hx rfl (hb hby at_51) rfl ?_
      show Steps p.tables e below (T17.setTop (mkF m 52 #[.val (.int p0), .val (.int cp), .val (.int (2 : Int32)), .val (.ref b), .val (.int (2 : Int32))] [(.int (2 : Int32)), (.int (2 : Int32))])) _
      refine XS.icmpYes X17.here hx rfl (pc0 := 52) (pc' := 57) rfl (hb hby at_52) rfl (teq (rfl : (2 : Int32) = (2 : Int32))).1 (by decide) (by decide) ?_
      refine XS.aloadN X17.here hx rfl (hb hby at_57) rfl rfl ?_
      refine XS.iconst X17.here hx rfl (hb hby at_58) ?_
      refine XS.iconst X17.here hx rfl (hb hby at_59) ?_
      exact kt
    obtain ⟨w0, hw0⟩ : ∃ z : Int32, z = (nar .byte ((((65280 : Int32) >>> ((2 : Int32) &&& 31)) ||| ((cp.toUInt32 >>> ((6 : Int32) &&& 31).toUInt32).toInt32)).toInt8.toInt32)) := ⟨_, rfl⟩
    obtain ⟨w1, hw1⟩ : ∃ z : Int32, z = (nar .byte (((128 : Int32) ||| (cp &&& (63 : Int32))).toInt8.toInt32)) := ⟨_, rfl⟩
    have Vb3 : Arv Z T17.heap b k15 .byte (4 : Int32) [(.int w0), (.int w1), (.int (0 : Int32)), (.int (0 : Int32))] (.int (0 : Int32)) := by rw [hw0, hw1]; exact Vb2
    have ua0 := own_u6i (x := cp) (by omega)
    have um0 := own_and63 cp
    obtain ⟨j0, j1, jL, jO, jH⟩ : 0 ≤ (w0 &&& (255 : Int32)).toInt ∧ (w0 &&& (255 : Int32)).toInt < 256 ∧ atv cL (w0 &&& (255 : Int32)) = 2 ∧ ¬ (w1 &&& (255 : Int32)) < atv cO (w0 &&& (255 : Int32)) ∧ ¬ atv cH (w0 &&& (255 : Int32)) < (w1 &&& (255 : Int32)) := by
      rw [hw0, hw1]
      exact own_q2 TL TO TH (own_S2 (x := (own_u6 cp)) (by omega) (by omega)).1 (own_T (x := cp &&& (63 : Int32)) (by omega) (by omega)) (by omega) (by omega) (by omega) (by omega)
    obtain ⟨_, _, ⟨T19, L19, k19, n19⟩, -, X19, ⟨Lc19, hQ19, l19, y19, z19⟩, st19⟩ := Jvm.LawKit.callS X17 hx (y := (⟨"com/example/murray_hill/murrayhill/WellFormed", "next", "([BII)I"⟩ : MethodName)) hown (mvT hZ (hw _ (List.mem_of_getElem? (i := 12) rfl))) (mvT hZ (hw _ (List.mem_of_getElem? (i := 13) rfl))) (mvT hZ (hw _ (List.mem_of_getElem? (i := 5) rfl))) (mvT hZ (hw _ (List.mem_of_getElem? (i := 14) rfl))) (by decide) (backOf (W := 0) (rmN2 l Z a0 hw [] b k15 w0 w1 (0 : Int32) (0 : Int32) cL aL cO aO cH aH _ _ T17.heap n0 Z_17 Vb3 (S_cL.ext Od_17.2) (B_cL.ext Od_17.2).1 (own_in256 B_cL.2.1 j0 j1) (S_cO.ext Od_17.2) (B_cO.ext Od_17.2).1 (own_in256 B_cO.2.1 j0 j1) (S_cH.ext Od_17.2) (B_cH.ext Od_17.2).1 (own_in256 B_cH.2.1 j0 j1) (jL ▸ B_cL.2.2.2 _ (own_in256 B_cL.2.1 j0 j1)) (B_cO.2.2.2 _ (own_in256 B_cO.2.1 j0 j1)) (B_cH.2.2.2 _ (own_in256 B_cH.2.1 j0 j1)) jO jH) hZ (hw _ (List.mem_of_getElem? (i := 14) rfl)) (hw _ (List.mem_of_getElem? (i := 5) rfl)) (by decide) (by decide)) (g := (mkF m 60 #[.val (.int p0), .val (.int cp), .val (.int (2 : Int32)), .val (.ref b), .val (.int (2 : Int32))] [(.int (4 : Int32)), (.int (0 : Int32)), (.ref b)])) rfl (by rw [hml]; rfl) (argsL := [(.ref b), (.int (0 : Int32)), (.int (4 : Int32))]) (rest := []) (lenOf pd_2 rfl) rfl (by show 2 * 0 + _ ≤ _; exact Nat.le_of_eq rfl) (hb hby at_60) (fun _ _ => ⟨rfl, rfl, (by decide : 1 + 0 ≤ _), (by decide : 4 + 0 ≤ _)⟩)
    dsimp only [Pt.U, Pt.locs, Pt.cells, Pt.slots] at X19 l19 y19 z19 st19 hQ19
    subst l19 y19 z19
    obtain ⟨rfl, Nq19, e19⟩ := hQ19
    have N19 := Fr.app N17 Nq19
    have st20 : ∀ target, Steps p.tables e below (T19.setTop (mkF m 72 #[.val (.int p0), .val (.int cp), .val (.int (2 : Int32)), .val (.ref b), .val (.int (2 : Int32))] [(.int (2 : Int32)), (.int (0 : Int32)), (.ref b)])) target → Steps p.tables e below (T19.setTop (mkF m 63 #[.val (.int p0), .val (.int cp), .val (.int (2 : Int32)), .val (.ref b), .val (.int (2 : Int32))] [(.int (2 : Int32))])) target := by
      intro target kt
      refine XS.iloadN X19.here hx rfl (hb hby at_63) rfl ?_
      refine XS.icmpYes X19.here hx rfl (pc0 := 64) (pc' := 69) rfl (hb hby at_64) rfl (teq (rfl : (2 : Int32) = (2 : Int32))).1 (by decide) (by decide) ?_
      refine XS.aloadN X19.here hx rfl (hb hby at_69) rfl rfl ?_
      refine XS.iconst X19.here hx rfl (hb hby at_70) ?_
      show Steps p.tables e below (T19.setTop (mkF m 71 #[.val (.int p0), .val (.int cp), .val (.int (2 : Int32)), .val (.ref b), .val (.int (2 : Int32))] [(.int (0 : Int32)), (.ref b)])) _
      refine XS.iloadN X19.here hx rfl (hb hby at_71) rfl ?_
      exact kt
    obtain ⟨cl21, Ar21, qc21, Sz21, Mn21, Hs21, Gs21⟩ := id Vb3
    obtain ⟨_, _, ⟨T22, L22, k22, n22⟩, -, X22, ⟨Lc22, hQ22, l22, y22, z22⟩, st22⟩ := Jvm.LawKit.callS X19 hx (y := (⟨"com/example/murray_hill/murrayhill/WellFormed", "codePoint", "([BII)I"⟩ : MethodName)) hown (mvT hZ (hw _ (List.mem_of_getElem? (i := 17) rfl))) (mvT hZ (hw _ (List.mem_of_getElem? (i := 18) rfl))) (mvT hZ (hw _ (List.mem_of_getElem? (i := 5) rfl))) (mvT hZ (hw _ (List.mem_of_getElem? (i := 19) rfl))) (by decide) (backOf (W := 0) (rmCP2 l Z a0 hw [] b cl21 w0 w1 T17.heap n0 Z_17 Ar21 (inb_of (j := (0 : Int32)) Sz21 ⟨by decide, by decide⟩) (inb_of (j := (1 : Int32)) Sz21 ⟨by decide, by decide⟩) (Hs21.at (inb_of (j := (0 : Int32)) Sz21 ⟨by decide, by decide⟩) rfl) (Hs21.at (inb_of (j := (1 : Int32)) Sz21 ⟨by decide, by decide⟩) rfl)) hZ (hw _ (List.mem_of_getElem? (i := 19) rfl)) (hw _ (List.mem_of_getElem? (i := 5) rfl)) (by decide) (by decide)) (g := (mkF m 72 #[.val (.int p0), .val (.int cp), .val (.int (2 : Int32)), .val (.ref b), .val (.int (2 : Int32))] [(.int (2 : Int32)), (.int (0 : Int32)), (.ref b)])) rfl (by rw [hml]; rfl) (argsL := [(.ref b), (.int (0 : Int32)), (.int (2 : Int32))]) (rest := []) (lenOf pd_2 rfl) rfl (by show 2 * 0 + _ ≤ _; exact Nat.le_of_eq rfl) (hb hby at_72) (fun _ _ => ⟨rfl, e19, (by decide : 1 + 0 ≤ _), (by decide : 4 + 0 ≤ _)⟩)
    dsimp only [Pt.U, Pt.locs, Pt.cells, Pt.slots] at X22 l22 y22 z22 st22 hQ22
    subst l22 y22 z22
    obtain ⟨rfl, Nq22, e22⟩ := hQ22
    have N22 := Fr.app N19 Nq22
    have fin_ : own_cp2 w0 w1 = cp := by rw [hw0, hw1]; exact own_v2 r0 r1
    obtain ⟨fs, hr, hrun, hended, hW, hsame⟩ := X22.leave (v := some (.int (1 : Int32))) (fun h => by rw [Bd.returns] at h; cases h)
    refine ⟨_, _, pre0 _ (st1 _ (st2 _ (st3 _ (st4 _ (st14 _ (st15 _ (st16 _ (st17 _ (st18 _ (st19 _ (st20 _ (st22 _ ?_)))))))))))), hrun, hended, _, _, rfl, ?_, ⟨_, rfl⟩, hW, hsame.mono (by decide) (by decide)⟩
    · refine XS.iloadN X22.here hx rfl (hb hby at_75) rfl ?_
      refine XS.icmpNo X22.here hx rfl (hb hby at_76) rfl (teq fin_).2 ?_
      refine XS.iconst X22.here hx rfl (hb hby at_79) ?_
      refine XS.goto X22.here hx rfl (pc0 := 80) (pc' := 84) rfl (hb hby at_80) (by decide) (by decide) ?_
      show Steps p.tables e below (T22.setTop (mkF m 84 #[.val (.int p0), .val (.int cp), .val (.int (2 : Int32)), .val (.ref b), .val (.int (2 : Int32))] [(.int (1 : Int32))])) _
      exact retN X22 hx (t := .boolean) Bd.returns (by simp) (hb hby at_84) hr
    · show Q_rm0 Z p0 cL aL cO aO cH aH h0 n0 _ T22.heap _
      rw [e22]
      exact ⟨rfl, N22⟩
  · subst q
    have st23 : ∀ target, Steps p.tables e below (T4.setTop (mkF m 38 #[.val (.int p0), .val (.int cp), .val (.int (3 : Int32)), .unset, .unset] [(.int (4 : Int32))])) target → Steps p.tables e below (T4.setTop (mkF m 24 #[.val (.int p0), .val (.int cp), .unset, .unset, .unset] [(.int (3 : Int32))])) target := by
      intro target kt
      refine XS.istoreN X4.here hx rfl (hb hby at_24) rfl (l' := #[.val (.int p0), .val (.int cp), .val (.int (3 : Int32)), .unset, .unset]) rfl ?_
      refine XS.iloadN X4.here hx rfl (hb hby at_25) rfl ?_
      refine XS.iconst X4.here hx rfl (hb hby at_26) ?_
      show Steps p.tables e below (T4.setTop (mkF m 27 #[.val (.int p0), .val (.int cp), .val (.int (3 : Int32)), .unset, .unset] [(.int (1 : Int32)), (.int (3 : Int32))])) _
      refine XS.icmpNo X4.here hx rfl (hb hby at_27) rfl (flt (by decide : ¬ ((3 : Int32) < (1 : Int32)))).1 ?_
      refine XS.iloadN X4.here hx rfl (hb hby at_30) rfl ?_
      refine XS.iconst X4.here hx rfl (hb hby at_31) ?_
      refine XS.icmpYes X4.here hx rfl (pc0 := 32) (pc' := 37) rfl (hb hby at_32) rfl (flt (by decide : ¬ ((4 : Int32) < (3 : Int32)))).2.2.2 (by decide) (by decide) ?_
      refine XS.iconst X4.here hx rfl (hb hby at_37) ?_
      exact kt
    obtain ⟨T24, h24, k24, X24, e24, E24, A24, st24⟩ := newP X4 hx hZ (hw _ (List.mem_of_getElem? (i := 7) rfl)) e4 (g := (mkF m 38 #[.val (.int p0), .val (.int cp), .val (.int (3 : Int32)), .unset, .unset] [(.int (4 : Int32))])) rfl (hb hby at_38) rfl (by decide) (cap := 4) (by decide) (by decide) (by decide) (by decide)
    obtain ⟨b, g24⟩ : ∃ z, z = h0.size := ⟨_, rfl⟩
    rw [← g24] at A24 st24
    have g_b : n0 ≤ b := Nat.le_trans Z0 (Nat.le_of_eq g24.symm)
    have Od_24 := Od.ext E24
    have Z_24 : n0 ≤ h24.size := Nat.le_trans Z0 E24.1
    have V_b : Arv Z h24 b k24 .byte (4 : Int32) [(.int (0 : Int32)), (.int (0 : Int32)), (.int (0 : Int32)), (.int (0 : Int32))] (.int (0 : Int32)) := (Arv.new A24 (by decide)).pad (pad_rep [] (.int (0 : Int32)) 4)
    have st25 : ∀ target, Steps p.tables e below (T24.setTop (mkF m 44 #[.val (.int p0), .val (.int cp), .val (.int (3 : Int32)), .val (.ref b), .unset] [(.int (0 : Int32)), (.ref b), (.int cp)])) target → Steps p.tables e below (T24.setTop (mkF m 40 #[.val (.int p0), .val (.int cp), .val (.int (3 : Int32)), .unset, .unset] [(.ref b)])) target := by
      intro target kt
      refine XS.astoreN X24.here hx rfl (hb hby at_40) rfl rfl (l' := #[.val (.int p0), .val (.int cp), .val (.int (3 : Int32)), .val (.ref b), .unset]) rfl ?_
      refine XS.iloadN X24.here hx rfl (hb hby at_41) rfl ?_
      refine XS.aloadN X24.here hx rfl (hb hby at_42) rfl rfl ?_
      show Steps p.tables e below (T24.setTop (mkF m 43 #[.val (.int p0), .val (.int cp), .val (.int (3 : Int32)), .val (.ref b), .unset] [(.ref b), (.int cp)])) _
      refine XS.iconst X24.here hx rfl (hb hby at_43) ?_
      exact kt
    obtain ⟨_, _, ⟨T26, L26, k26, n26⟩, -, X26, ⟨Lc26, hQ26, l26, y26, z26⟩, st26⟩ := Jvm.LawKit.callS X24 hx (y := (⟨"com/example/murray_hill/murrayhill/WellFormed", "writeSequence", "(I[BI)I"⟩ : MethodName)) hown (mvT hZ (hw _ (List.mem_of_getElem? (i := 8) rfl))) (mvT hZ (hw _ (List.mem_of_getElem? (i := 9) rfl))) (mvT hZ (hw _ (List.mem_of_getElem? (i := 5) rfl))) (mvT hZ (hw _ (List.mem_of_getElem? (i := 10) rfl))) (by decide) (backOf (W := 0) (rmW3 l Z a0 hw [] cp b k24 h24 n0 Z_24 V_b g_b hsl.symm) hZ (hw _ (List.mem_of_getElem? (i := 10) rfl)) (hw _ (List.mem_of_getElem? (i := 5) rfl)) (by decide) (by decide)) (g := (mkF m 44 #[.val (.int p0), .val (.int cp), .val (.int (3 : Int32)), .val (.ref b), .unset] [(.int (0 : Int32)), (.ref b), (.int cp)])) rfl (by rw [hml]; rfl) (argsL := [(.int cp), (.ref b), (.int (0 : Int32))]) (rest := []) (lenOf pd_1 rfl) rfl (by show 2 * 0 + _ ≤ _; exact Nat.le_of_eq rfl) (hb hby at_44) (fun _ _ => ⟨rfl, e24, (by decide : 1 + 0 ≤ _), (by decide : 4 + 0 ≤ _)⟩)
    dsimp only [Pt.U, Pt.locs, Pt.cells, Pt.slots] at X26 l26 y26 z26 st26 hQ26
    subst l26 y26 z26
    obtain ⟨rfl, Nq26, K26, Vb2⟩ := hQ26
    have N26 := Fr.app N4 Nq26
    have Od_26 := Od_24.keep K26 (allS g_b (all0))
    have Z_26 : n0 ≤ T26.heap.size := Nat.le_trans Z_24 K26.1
    have st27 : ∀ target, Steps p.tables e below (T26.setTop (mkF m 60 #[.val (.int p0), .val (.int cp), .val (.int (3 : Int32)), .val (.ref b), .val (.int (3 : Int32))] [(.int (4 : Int32)), (.int (0 : Int32)), (.ref b)])) target → Steps p.tables e below (T26.setTop (mkF m 47 #[.val (.int p0), .val (.int cp), .val (.int (3 : Int32)), .val (.ref b), .unset] [(.int (3 : Int32))])) target := by
      intro target kt
      refine XS.istore X26.here hx rfl (hb hby at_47) rfl (l' := #[.val (.int p0), .val (.int cp), .val (.int (3 : Int32)), .val (.ref b), .val (.int (3 : Int32))]) rfl ?_
      refine XS.iload X26.here hx rfl (hb hby at_49) rfl ?_
      refine XS.iloadN X26.here hx rfl (hb hby at_51) rfl ?_
      refine XS.icmpYes X26.here hx rfl (pc0 := 52) (pc' := 57) rfl (hb hby at_52) rfl (teq (rfl : (3 : Int32) = (3 : Int32))).1 (by decide) (by decide) ?_
      refine XS.aloadN X26.here hx rfl (hb hby at_57) rfl rfl ?_
      refine XS.iconst X26.here hx rfl (hb hby at_58) ?_
      refine XS.iconst X26.here hx rfl (hb hby at_59) ?_
      exact kt
    obtain ⟨w0, hw0⟩ : ∃ z : Int32, z = (nar .byte ((((65280 : Int32) >>> ((3 : Int32) &&& 31)) ||| ((((cp.toUInt32 >>> ((6 : Int32) &&& 31).toUInt32).toInt32).toUInt32 >>> ((6 : Int32) &&& 31).toUInt32).toInt32)).toInt8.toInt32)) := ⟨_, rfl⟩
    obtain ⟨w1, hw1⟩ : ∃ z : Int32, z = (nar .byte (((128 : Int32) ||| (((cp.toUInt32 >>> ((6 : Int32) &&& 31).toUInt32).toInt32) &&& (63 : Int32))).toInt8.toInt32)) := ⟨_, rfl⟩
    obtain ⟨w2, hw2⟩ : ∃ z : Int32, z = (nar .byte (((128 : Int32) ||| (cp &&& (63 : Int32))).toInt8.toInt32)) := ⟨_, rfl⟩
    have Vb3 : Arv Z T26.heap b k24 .byte (4 : Int32) [(.int w0), (.int w1), (.int w2), (.int (0 : Int32))] (.int (0 : Int32)) := by rw [hw0, hw1, hw2]; exact Vb2
    have ua0 := own_u6i (x := cp) (by omega)
    have ua1 := own_u6i (x := (own_u6 cp)) (by omega)
    have um0 := own_and63 cp
    have um1 := own_and63 (own_u6 cp)
    obtain ⟨j0, j1, jL, jO, jH⟩ : 0 ≤ (w0 &&& (255 : Int32)).toInt ∧ (w0 &&& (255 : Int32)).toInt < 256 ∧ atv cL (w0 &&& (255 : Int32)) = 3 ∧ ¬ (w1 &&& (255 : Int32)) < atv cO (w0 &&& (255 : Int32)) ∧ ¬ atv cH (w0 &&& (255 : Int32)) < (w1 &&& (255 : Int32)) := by
      rw [hw0, hw1]
      exact own_q3 TL TO TH (own_S3 (x := (own_u6 (own_u6 cp))) (by omega) (by omega)).1 (own_T (x := (own_u6 cp) &&& (63 : Int32)) (by omega) (by omega)) (by omega) (by omega) (by omega) (by omega) (by omega) (by omega)
    have ic2 : own_ic (w2 &&& (255 : Int32)) = 1 := by rw [hw2]; exact own_ic1 (x := cp &&& (63 : Int32)) (by omega) (by omega)
    obtain ⟨_, _, ⟨T28, L28, k28, n28⟩, -, X28, ⟨Lc28, hQ28, l28, y28, z28⟩, st28⟩ := Jvm.LawKit.callS X26 hx (y := (⟨"com/example/murray_hill/murrayhill/WellFormed", "next", "([BII)I"⟩ : MethodName)) hown (mvT hZ (hw _ (List.mem_of_getElem? (i := 12) rfl))) (mvT hZ (hw _ (List.mem_of_getElem? (i := 13) rfl))) (mvT hZ (hw _ (List.mem_of_getElem? (i := 5) rfl))) (mvT hZ (hw _ (List.mem_of_getElem? (i := 14) rfl))) (by decide) (backOf (W := 0) (rmN3 l Z a0 hw [] b k24 w0 w1 w2 (0 : Int32) cL aL cO aO cH aH _ _ T26.heap n0 Z_26 Vb3 (S_cL.ext Od_26.2) (B_cL.ext Od_26.2).1 (own_in256 B_cL.2.1 j0 j1) (S_cO.ext Od_26.2) (B_cO.ext Od_26.2).1 (own_in256 B_cO.2.1 j0 j1) (S_cH.ext Od_26.2) (B_cH.ext Od_26.2).1 (own_in256 B_cH.2.1 j0 j1) (jL ▸ B_cL.2.2.2 _ (own_in256 B_cL.2.1 j0 j1)) (B_cO.2.2.2 _ (own_in256 B_cO.2.1 j0 j1)) (B_cH.2.2.2 _ (own_in256 B_cH.2.1 j0 j1)) jO jH ic2) hZ (hw _ (List.mem_of_getElem? (i := 14) rfl)) (hw _ (List.mem_of_getElem? (i := 5) rfl)) (by decide) (by decide)) (g := (mkF m 60 #[.val (.int p0), .val (.int cp), .val (.int (3 : Int32)), .val (.ref b), .val (.int (3 : Int32))] [(.int (4 : Int32)), (.int (0 : Int32)), (.ref b)])) rfl (by rw [hml]; rfl) (argsL := [(.ref b), (.int (0 : Int32)), (.int (4 : Int32))]) (rest := []) (lenOf pd_2 rfl) rfl (by show 2 * 0 + _ ≤ _; exact Nat.le_of_eq rfl) (hb hby at_60) (fun _ _ => ⟨rfl, rfl, (by decide : 1 + 0 ≤ _), (by decide : 4 + 0 ≤ _)⟩)
    dsimp only [Pt.U, Pt.locs, Pt.cells, Pt.slots] at X28 l28 y28 z28 st28 hQ28
    subst l28 y28 z28
    obtain ⟨rfl, Nq28, e28⟩ := hQ28
    have N28 := Fr.app N26 Nq28
    have st29 : ∀ target, Steps p.tables e below (T28.setTop (mkF m 72 #[.val (.int p0), .val (.int cp), .val (.int (3 : Int32)), .val (.ref b), .val (.int (3 : Int32))] [(.int (3 : Int32)), (.int (0 : Int32)), (.ref b)])) target → Steps p.tables e below (T28.setTop (mkF m 63 #[.val (.int p0), .val (.int cp), .val (.int (3 : Int32)), .val (.ref b), .val (.int (3 : Int32))] [(.int (3 : Int32))])) target := by
      intro target kt
      show Steps p.tables e below (T28.setTop (mkF m 63 #[.val (.int p0), .val (.int cp), .val (.int (3 : Int32)), .val (.ref b), .val (.int (3 : Int32))] [(.int (3 : Int32))])) _
      refine XS.iloadN X28.here hx rfl (hb hby at_63) rfl ?_
      refine XS.icmpYes X28.here hx rfl (pc0 := 64) (pc' := 69) rfl (hb hby at_64) rfl (teq (rfl : (3 : Int32) = (3 : Int32))).1 (by decide) (by decide) ?_
      refine XS.aloadN X28.here hx rfl (hb hby at_69) rfl rfl ?_
      refine XS.iconst X28.here hx rfl (hb hby at_70) ?_
      refine XS.iloadN X28.here hx rfl (hb hby at_71) rfl ?_
      exact kt
    obtain ⟨cl30, Ar30, qc30, Sz30, Mn30, Hs30, Gs30⟩ := id Vb3
    obtain ⟨_, _, ⟨T31, L31, k31, n31⟩, -, X31, ⟨Lc31, hQ31, l31, y31, z31⟩, st31⟩ := Jvm.LawKit.callS X28 hx (y := (⟨"com/example/murray_hill/murrayhill/WellFormed", "codePoint", "([BII)I"⟩ : MethodName)) hown (mvT hZ (hw _ (List.mem_of_getElem? (i := 17) rfl))) (mvT hZ (hw _ (List.mem_of_getElem? (i := 18) rfl))) (mvT hZ (hw _ (List.mem_of_getElem? (i := 5) rfl))) (mvT hZ (hw _ (List.mem_of_getElem? (i := 19) rfl))) (by decide) (backOf (W := 0) (rmCP3 l Z a0 hw [] b cl30 w0 w1 w2 T26.heap n0 Z_26 Ar30 (inb_of (j := (0 : Int32)) Sz30 ⟨by decide, by decide⟩) (inb_of (j := (1 : Int32)) Sz30 ⟨by decide, by decide⟩) (inb_of (j := (2 : Int32)) Sz30 ⟨by decide, by decide⟩) (Hs30.at (inb_of (j := (0 : Int32)) Sz30 ⟨by decide, by decide⟩) rfl) (Hs30.at (inb_of (j := (1 : Int32)) Sz30 ⟨by decide, by decide⟩) rfl) (Hs30.at (inb_of (j := (2 : Int32)) Sz30 ⟨by decide, by decide⟩) rfl)) hZ (hw _ (List.mem_of_getElem? (i := 19) rfl)) (hw _ (List.mem_of_getElem? (i := 5) rfl)) (by decide) (by decide)) (g := (mkF m 72 #[.val (.int p0), .val (.int cp), .val (.int (3 : Int32)), .val (.ref b), .val (.int (3 : Int32))] [(.int (3 : Int32)), (.int (0 : Int32)), (.ref b)])) rfl (by rw [hml]; rfl) (argsL := [(.ref b), (.int (0 : Int32)), (.int (3 : Int32))]) (rest := []) (lenOf pd_2 rfl) rfl (by show 2 * 0 + _ ≤ _; exact Nat.le_of_eq rfl) (hb hby at_72) (fun _ _ => ⟨rfl, e28, (by decide : 1 + 0 ≤ _), (by decide : 4 + 0 ≤ _)⟩)
    dsimp only [Pt.U, Pt.locs, Pt.cells, Pt.slots] at X31 l31 y31 z31 st31 hQ31
    subst l31 y31 z31
    obtain ⟨rfl, Nq31, e31⟩ := hQ31
    have N31 := Fr.app N28 Nq31
    have fin_ : own_cp3 w0 w1 w2 = cp := by rw [hw0, hw1, hw2]; exact own_v3 r0 r1
    obtain ⟨fs, hr, hrun, hended, hW, hsame⟩ := X31.leave (v := some (.int (1 : Int32))) (fun h => by rw [Bd.returns] at h; cases h)
    refine ⟨_, _, pre0 _ (st1 _ (st2 _ (st3 _ (st4 _ (st23 _ (st24 _ (st25 _ (st26 _ (st27 _ (st28 _ (st29 _ (st31 _ ?_)))))))))))), hrun, hended, _, _, rfl, ?_, ⟨_, rfl⟩, hW, hsame.mono (by decide) (by decide)⟩
    · refine XS.iloadN X31.here hx rfl (hb hby at_75) rfl ?_
      refine XS.icmpNo X31.here hx rfl (hb hby at_76) rfl (teq fin_).2 ?_
      refine XS.iconst X31.here hx rfl (hb hby at_79) ?_
      show Steps p.tables e below (T31.setTop (mkF m 80 #[.val (.int p0), .val (.int cp), .val (.int (3 : Int32)), .val (.ref b), .val (.int (3 : Int32))] [(.int (1 : Int32))])) _
      refine XS.goto X31.here hx rfl (pc0 := 80) (pc' := 84) rfl (hb hby at_80) (by decide) (by decide) ?_
      show Steps p.tables e below (T31.setTop (mkF m 84 #[.val (.int p0), .val (.int cp), .val (.int (3 : Int32)), .val (.ref b), .val (.int (3 : Int32))] [(.int (1 : Int32))])) _
      exact retN X31 hx (t := .boolean) Bd.returns (by simp) (hb hby at_84) hr
    · show Q_rm0 Z p0 cL aL cO aO cH aH h0 n0 _ T31.heap _
      rw [e31]
      exact ⟨rfl, N31⟩
  · subst q
    have st32 : ∀ target, Steps p.tables e below (T4.setTop (mkF m 38 #[.val (.int p0), .val (.int cp), .val (.int (4 : Int32)), .unset, .unset] [(.int (4 : Int32))])) target → Steps p.tables e below (T4.setTop (mkF m 24 #[.val (.int p0), .val (.int cp), .unset, .unset, .unset] [(.int (4 : Int32))])) target := by
      intro target kt
      refine XS.istoreN X4.here hx rfl (hb hby at_24) rfl (l' := #[.val (.int p0), .val (.int cp), .val (.int (4 : Int32)), .unset, .unset]) rfl ?_
      refine XS.iloadN X4.here hx rfl (hb hby at_25) rfl ?_
      refine XS.iconst X4.here hx rfl (hb hby at_26) ?_
      refine XS.icmpNo X4.here hx rfl (hb hby at_27) rfl (flt (by decide : ¬ ((4 : Int32) < (1 : Int32)))).1 ?_
      refine XS.iloadN X4.here hx rfl (hb hby at_30) rfl ?_
      refine XS.iconst X4.here hx rfl (hb hby at_31) ?_
      refine XS.icmpYes X4.here hx rfl (pc0 := 32) (pc' := 37) rfl (hb hby at_32) rfl (flt (by decide : ¬ ((4 : Int32) < (4 : Int32)))).2.2.2 (by decide) (by decide) ?_
      show Steps p.tables e below (T4.setTop (mkF m 37 #[.val (.int p0), .val (.int cp), .val (.int (4 : Int32)), .unset, .unset] [])) _
      refine XS.iconst X4.here hx rfl (hb hby at_37) ?_
      exact kt
    obtain ⟨T33, h33, k33, X33, e33, E33, A33, st33⟩ := newP X4 hx hZ (hw _ (List.mem_of_getElem? (i := 7) rfl)) e4 (g := (mkF m 38 #[.val (.int p0), .val (.int cp), .val (.int (4 : Int32)), .unset, .unset] [(.int (4 : Int32))])) rfl (hb hby at_38) rfl (by decide) (cap := 4) (by decide) (by decide) (by decide) (by decide)
    obtain ⟨b, g33⟩ : ∃ z, z = h0.size := ⟨_, rfl⟩
    rw [← g33] at A33 st33
    have g_b : n0 ≤ b := Nat.le_trans Z0 (Nat.le_of_eq g33.symm)
    have Od_33 := Od.ext E33
    have Z_33 : n0 ≤ h33.size := Nat.le_trans Z0 E33.1
    have V_b : Arv Z h33 b k33 .byte (4 : Int32) [(.int (0 : Int32)), (.int (0 : Int32)), (.int (0 : Int32)), (.int (0 : Int32))] (.int (0 : Int32)) := (Arv.new A33 (by decide)).pad (pad_rep [] (.int (0 : Int32)) 4)
    have st34 : ∀ target, Steps p.tables e below (T33.setTop (mkF m 44 #[.val (.int p0), .val (.int cp), .val (.int (4 : Int32)), .val (.ref b), .unset] [(.int (0 : Int32)), (.ref b), (.int cp)])) target → Steps p.tables e below (T33.setTop (mkF m 40 #[.val (.int p0), .val (.int cp), .val (.int (4 : Int32)), .unset, .unset] [(.ref b)])) target := by
      intro target kt
      refine XS.astoreN X33.here hx rfl (hb hby at_40) rfl rfl (l' := #[.val (.int p0), .val (.int cp), .val (.int (4 : Int32)), .val (.ref b), .unset]) rfl ?_
      refine XS.iloadN X33.here hx rfl (hb hby at_41) rfl ?_
      refine XS.aloadN X33.here hx rfl (hb hby at_42) rfl rfl ?_
      refine XS.iconst X33.here hx rfl (hb hby at_43) ?_
      exact kt
    obtain ⟨_, _, ⟨T35, L35, k35, n35⟩, -, X35, ⟨Lc35, hQ35, l35, y35, z35⟩, st35⟩ := Jvm.LawKit.callS X33 hx (y := (⟨"com/example/murray_hill/murrayhill/WellFormed", "writeSequence", "(I[BI)I"⟩ : MethodName)) hown (mvT hZ (hw _ (List.mem_of_getElem? (i := 8) rfl))) (mvT hZ (hw _ (List.mem_of_getElem? (i := 9) rfl))) (mvT hZ (hw _ (List.mem_of_getElem? (i := 5) rfl))) (mvT hZ (hw _ (List.mem_of_getElem? (i := 10) rfl))) (by decide) (backOf (W := 0) (rmW4 l Z a0 hw [] cp b k33 h33 n0 Z_33 V_b g_b hsl.symm) hZ (hw _ (List.mem_of_getElem? (i := 10) rfl)) (hw _ (List.mem_of_getElem? (i := 5) rfl)) (by decide) (by decide)) (g := (mkF m 44 #[.val (.int p0), .val (.int cp), .val (.int (4 : Int32)), .val (.ref b), .unset] [(.int (0 : Int32)), (.ref b), (.int cp)])) rfl (by rw [hml]; rfl) (argsL := [(.int cp), (.ref b), (.int (0 : Int32))]) (rest := []) (lenOf pd_1 rfl) rfl (by show 2 * 0 + _ ≤ _; exact Nat.le_of_eq rfl) (hb hby at_44) (fun _ _ => ⟨rfl, e33, (by decide : 1 + 0 ≤ _), (by decide : 4 + 0 ≤ _)⟩)
    dsimp only [Pt.U, Pt.locs, Pt.cells, Pt.slots] at X35 l35 y35 z35 st35 hQ35
    subst l35 y35 z35
    obtain ⟨rfl, Nq35, K35, Vb2⟩ := hQ35
    have N35 := Fr.app N4 Nq35
    have Od_35 := Od_33.keep K35 (allS g_b (all0))
    have Z_35 : n0 ≤ T35.heap.size := Nat.le_trans Z_33 K35.1
    have st36 : ∀ target, Steps p.tables e below (T35.setTop (mkF m 60 #[.val (.int p0), .val (.int cp), .val (.int (4 : Int32)), .val (.ref b), .val (.int (4 : Int32))] [(.int (4 : Int32)), (.int (0 : Int32)), (.ref b)])) target → Steps p.tables e below (T35.setTop (mkF m 47 #[.val (.int p0), .val (.int cp), .val (.int (4 : Int32)), .val (.ref b), .unset] [(.int (4 : Int32))])) target := by
      intro target kt
      refine XS.istore X35.here hx rfl (hb hby at_47) rfl (l' := #[.val (.int p0), .val (.int cp), .val (.int (4 : Int32)), .val (.ref b), .val (.int (4 : Int32))]) rfl ?_
      refine XS.iload X35.here hx rfl (hb hby at_49) rfl ?_
      refine XS.iloadN X35.here hx rfl (hb hby at_51) rfl ?_
      show Steps p.tables e below (T35.setTop (mkF m 52 #[.val (.int p0), .val (.int cp), .val (.int (4 : Int32)), .val (.ref b), .val (.int (4 : Int32))] [(.int (4 : Int32)), (.int (4 : Int32))])) _
      refine XS.icmpYes X35.here hx rfl (pc0 := 52) (pc' := 57) rfl (hb hby at_52) rfl (teq (rfl : (4 : Int32) = (4 : Int32))).1 (by decide) (by decide) ?_
      refine XS.aloadN X35.here hx rfl (hb hby at_57) rfl rfl ?_
      refine XS.iconst X35.here hx rfl (hb hby at_58) ?_
      refine XS.iconst X35.here hx rfl (hb hby at_59) ?_
      exact kt
    obtain ⟨w0, hw0⟩ : ∃ z : Int32, z = (nar .byte ((((65280 : Int32) >>> ((4 : Int32) &&& 31)) ||| ((((((cp.toUInt32 >>> ((6 : Int32) &&& 31).toUInt32).toInt32).toUInt32 >>> ((6 : Int32) &&& 31).toUInt32).toInt32).toUInt32 >>> ((6 : Int32) &&& 31).toUInt32).toInt32)).toInt8.toInt32)) := ⟨_, rfl⟩
    obtain ⟨w1, hw1⟩ : ∃ z : Int32, z = (nar .byte (((128 : Int32) ||| (((((cp.toUInt32 >>> ((6 : Int32) &&& 31).toUInt32).toInt32).toUInt32 >>> ((6 : Int32) &&& 31).toUInt32).toInt32) &&& (63 : Int32))).toInt8.toInt32)) := ⟨_, rfl⟩
    obtain ⟨w2, hw2⟩ : ∃ z : Int32, z = (nar .byte (((128 : Int32) ||| (((cp.toUInt32 >>> ((6 : Int32) &&& 31).toUInt32).toInt32) &&& (63 : Int32))).toInt8.toInt32)) := ⟨_, rfl⟩
    obtain ⟨w3, hw3⟩ : ∃ z : Int32, z = (nar .byte (((128 : Int32) ||| (cp &&& (63 : Int32))).toInt8.toInt32)) := ⟨_, rfl⟩
    have Vb3 : Arv Z T35.heap b k33 .byte (4 : Int32) [(.int w0), (.int w1), (.int w2), (.int w3)] (.int (0 : Int32)) := by rw [hw0, hw1, hw2, hw3]; exact Vb2
    have ua0 := own_u6i (x := cp) (by omega)
    have ua1 := own_u6i (x := (own_u6 cp)) (by omega)
    have ua2 := own_u6i (x := (own_u6 (own_u6 cp))) (by omega)
    have um0 := own_and63 cp
    have um1 := own_and63 (own_u6 cp)
    have um2 := own_and63 (own_u6 (own_u6 cp))
    obtain ⟨j0, j1, jL, jO, jH⟩ : 0 ≤ (w0 &&& (255 : Int32)).toInt ∧ (w0 &&& (255 : Int32)).toInt < 256 ∧ atv cL (w0 &&& (255 : Int32)) = 4 ∧ ¬ (w1 &&& (255 : Int32)) < atv cO (w0 &&& (255 : Int32)) ∧ ¬ atv cH (w0 &&& (255 : Int32)) < (w1 &&& (255 : Int32)) := by
      rw [hw0, hw1]
      exact own_q4 TL TO TH (own_S4 (x := (own_u6 (own_u6 (own_u6 cp)))) (by omega) (by omega)).1 (own_T (x := (own_u6 (own_u6 cp)) &&& (63 : Int32)) (by omega) (by omega)) (by omega) (by omega) (by omega) (by omega) (by omega) (by omega)
    have ic2 : own_ic (w2 &&& (255 : Int32)) = 1 := by rw [hw2]; exact own_ic1 (x := (own_u6 cp) &&& (63 : Int32)) (by omega) (by omega)
    have ic3 : own_ic (w3 &&& (255 : Int32)) = 1 := by rw [hw3]; exact own_ic1 (x := cp &&& (63 : Int32)) (by omega) (by omega)
    obtain ⟨_, _, ⟨T37, L37, k37, n37⟩, -, X37, ⟨Lc37, hQ37, l37, y37, z37⟩, st37⟩ := Jvm.LawKit.callS X35 hx (y := (⟨"com/example/murray_hill/murrayhill/WellFormed", "next", "([BII)I"⟩ : MethodName)) hown (mvT hZ (hw _ (List.mem_of_getElem? (i := 12) rfl))) (mvT hZ (hw _ (List.mem_of_getElem? (i := 13) rfl))) (mvT hZ (hw _ (List.mem_of_getElem? (i := 5) rfl))) (mvT hZ (hw _ (List.mem_of_getElem? (i := 14) rfl))) (by decide) (backOf (W := 0) (rmN4 l Z a0 hw [] b k33 w0 w1 w2 w3 cL aL cO aO cH aH _ _ T35.heap n0 Z_35 Vb3 (S_cL.ext Od_35.2) (B_cL.ext Od_35.2).1 (own_in256 B_cL.2.1 j0 j1) (S_cO.ext Od_35.2) (B_cO.ext Od_35.2).1 (own_in256 B_cO.2.1 j0 j1) (S_cH.ext Od_35.2) (B_cH.ext Od_35.2).1 (own_in256 B_cH.2.1 j0 j1) (jL ▸ B_cL.2.2.2 _ (own_in256 B_cL.2.1 j0 j1)) (B_cO.2.2.2 _ (own_in256 B_cO.2.1 j0 j1)) (B_cH.2.2.2 _ (own_in256 B_cH.2.1 j0 j1)) jO jH ic2 ic3) hZ (hw _ (List.mem_of_getElem? (i := 14) rfl)) (hw _ (List.mem_of_getElem? (i := 5) rfl)) (by decide) (by decide)) (g := (mkF m 60 #[.val (.int p0), .val (.int cp), .val (.int (4 : Int32)), .val (.ref b), .val (.int (4 : Int32))] [(.int (4 : Int32)), (.int (0 : Int32)), (.ref b)])) rfl (by rw [hml]; rfl) (argsL := [(.ref b), (.int (0 : Int32)), (.int (4 : Int32))]) (rest := []) (lenOf pd_2 rfl) rfl (by show 2 * 0 + _ ≤ _; exact Nat.le_of_eq rfl) (hb hby at_60) (fun _ _ => ⟨rfl, rfl, (by decide : 1 + 0 ≤ _), (by decide : 4 + 0 ≤ _)⟩)
    dsimp only [Pt.U, Pt.locs, Pt.cells, Pt.slots] at X37 l37 y37 z37 st37 hQ37
    subst l37 y37 z37
    obtain ⟨rfl, Nq37, e37⟩ := hQ37
    have N37 := Fr.app N35 Nq37
    have st38 : ∀ target, Steps p.tables e below (T37.setTop (mkF m 72 #[.val (.int p0), .val (.int cp), .val (.int (4 : Int32)), .val (.ref b), .val (.int (4 : Int32))] [(.int (4 : Int32)), (.int (0 : Int32)), (.ref b)])) target → Steps p.tables e below (T37.setTop (mkF m 63 #[.val (.int p0), .val (.int cp), .val (.int (4 : Int32)), .val (.ref b), .val (.int (4 : Int32))] [(.int (4 : Int32))])) target := by
      intro target kt
      refine XS.iloadN X37.here hx rfl (hb hby at_63) rfl ?_
      refine XS.icmpYes X37.here hx rfl (pc0 := 64) (pc' := 69) rfl (hb hby at_64) rfl (teq (rfl : (4 : Int32) = (4 : Int32))).1 (by decide) (by decide) ?_
      refine XS.aloadN X37.here hx rfl (hb hby at_69) rfl rfl ?_
      refine XS.iconst X37.here hx rfl (hb hby at_70) ?_
      show Steps p.tables e below (T37.setTop (mkF m 71 #[.val (.int p0), .val (.int cp), .val (.int (4 : Int32)), .val (.ref b), .val (.int (4 : Int32))] [(.int (0 : Int32)), (.ref b)])) _
      refine XS.iloadN X37.here hx rfl (hb hby at_71) rfl ?_
      exact kt
    obtain ⟨cl39, Ar39, qc39, Sz39, Mn39, Hs39, Gs39⟩ := id Vb3
    obtain ⟨_, _, ⟨T40, L40, k40, n40⟩, -, X40, ⟨Lc40, hQ40, l40, y40, z40⟩, st40⟩ := Jvm.LawKit.callS X37 hx (y := (⟨"com/example/murray_hill/murrayhill/WellFormed", "codePoint", "([BII)I"⟩ : MethodName)) hown (mvT hZ (hw _ (List.mem_of_getElem? (i := 17) rfl))) (mvT hZ (hw _ (List.mem_of_getElem? (i := 18) rfl))) (mvT hZ (hw _ (List.mem_of_getElem? (i := 5) rfl))) (mvT hZ (hw _ (List.mem_of_getElem? (i := 19) rfl))) (by decide) (backOf (W := 0) (rmCP4 l Z a0 hw [] b cl39 w0 w1 w2 w3 T35.heap n0 Z_35 Ar39 (inb_of (j := (0 : Int32)) Sz39 ⟨by decide, by decide⟩) (inb_of (j := (1 : Int32)) Sz39 ⟨by decide, by decide⟩) (inb_of (j := (2 : Int32)) Sz39 ⟨by decide, by decide⟩) (inb_of (j := (3 : Int32)) Sz39 ⟨by decide, by decide⟩) (Hs39.at (inb_of (j := (0 : Int32)) Sz39 ⟨by decide, by decide⟩) rfl) (Hs39.at (inb_of (j := (1 : Int32)) Sz39 ⟨by decide, by decide⟩) rfl) (Hs39.at (inb_of (j := (2 : Int32)) Sz39 ⟨by decide, by decide⟩) rfl) (Hs39.at (inb_of (j := (3 : Int32)) Sz39 ⟨by decide, by decide⟩) rfl)) hZ (hw _ (List.mem_of_getElem? (i := 19) rfl)) (hw _ (List.mem_of_getElem? (i := 5) rfl)) (by decide) (by decide)) (g := (mkF m 72 #[.val (.int p0), .val (.int cp), .val (.int (4 : Int32)), .val (.ref b), .val (.int (4 : Int32))] [(.int (4 : Int32)), (.int (0 : Int32)), (.ref b)])) rfl (by rw [hml]; rfl) (argsL := [(.ref b), (.int (0 : Int32)), (.int (4 : Int32))]) (rest := []) (lenOf pd_2 rfl) rfl (by show 2 * 0 + _ ≤ _; exact Nat.le_of_eq rfl) (hb hby at_72) (fun _ _ => ⟨rfl, e37, (by decide : 1 + 0 ≤ _), (by decide : 4 + 0 ≤ _)⟩)
    dsimp only [Pt.U, Pt.locs, Pt.cells, Pt.slots] at X40 l40 y40 z40 st40 hQ40
    subst l40 y40 z40
    obtain ⟨rfl, Nq40, e40⟩ := hQ40
    have N40 := Fr.app N37 Nq40
    have fin_ : own_cp4 w0 w1 w2 w3 = cp := by rw [hw0, hw1, hw2, hw3]; exact own_v4 r0 c1
    obtain ⟨fs, hr, hrun, hended, hW, hsame⟩ := X40.leave (v := some (.int (1 : Int32))) (fun h => by rw [Bd.returns] at h; cases h)
    refine ⟨_, _, pre0 _ (st1 _ (st2 _ (st3 _ (st4 _ (st32 _ (st33 _ (st34 _ (st35 _ (st36 _ (st37 _ (st38 _ (st40 _ ?_)))))))))))), hrun, hended, _, _, rfl, ?_, ⟨_, rfl⟩, hW, hsame.mono (by decide) (by decide)⟩
    · refine XS.iloadN X40.here hx rfl (hb hby at_75) rfl ?_
      refine XS.icmpNo X40.here hx rfl (hb hby at_76) rfl (teq fin_).2 ?_
      refine XS.iconst X40.here hx rfl (hb hby at_79) ?_
      refine XS.goto X40.here hx rfl (pc0 := 80) (pc' := 84) rfl (hb hby at_80) (by decide) (by decide) ?_
      show Steps p.tables e below (T40.setTop (mkF m 84 #[.val (.int p0), .val (.int cp), .val (.int (4 : Int32)), .val (.ref b), .val (.int (4 : Int32))] [(.int (1 : Int32))])) _
      exact retN X40 hx (t := .boolean) Bd.returns (by simp) (hb hby at_84) hr
    · show Q_rm0 Z p0 cL aL cO aO cH aH h0 n0 _ T40.heap _
      rw [e40]
      exact ⟨rfl, N40⟩
section Tabs
variable {Z : State} {args : Array Value} {t : Term} {a : Addr} {cl : Cell} {ty : FieldType} {lo hi v : Int32} {L H : Int}
theorem own_all3 (ev : ∀ idx, t.eval args Z none idx Z = some (.ref a)) (B : Tab Z Z.heap a cl ty (256 : Int32)) (h : (Cond.all t (.or (.lt (.index 0) (.int lo)) (.or (.le (.int hi) (.index 0)) (.eq (.elem t (.index 0)) (.int v))))).value args Z none Z [] = some true) (j : Int32) (h0 : 0 ≤ j.toInt) (h1 : j.toInt < 256) (hl : lo.toInt ≤ j.toInt) (hh : j.toInt < hi.toInt) : atv cl j = v := by
  have hin := own_in256 B.2.1 h0 h1
  have nn : ¬ j < 0 := fun q => hin (Or.inl q)
  have q := Cond.all_elim (ev []) (B.1.fin (Vm.Alike.refl _)) h j.toNatClampNeg (Nat.lt_of_not_le fun x => hin (Or.inr x))
  have e := (elem_f (ev [j.toNatClampNeg]) (idx_at nn) (B.1.fin (Vm.Alike.refl _)) nn).trans (B.2.2.2 j hin)
  rcases or3 q (Cond.lt_ints (idx_at nn) (Term.int_eval lo)) (Cond.le_ints (Term.int_eval hi) (idx_at nn)) (Cond.eq_ints e (Term.int_eval v)) with u | u | u
  · rw [Int32.lt_iff_toInt_lt] at u; omega
  · rw [Int32.lt_iff_toInt_lt] at u; omega
  · exact u
theorem own_allL (ev : ∀ idx, t.eval args Z none idx Z = some (.ref a)) (B : Tab Z Z.heap a cl ty (256 : Int32)) (h : (Cond.all t (.or (.le (.int hi) (.index 0)) (.eq (.elem t (.index 0)) (.int v)))).value args Z none Z [] = some true) (j : Int32) (h0 : 0 ≤ j.toInt) (h1 : j.toInt < 256) (hh : j.toInt < hi.toInt) : atv cl j = v := by
  have hin := own_in256 B.2.1 h0 h1
  have nn : ¬ j < 0 := fun q => hin (Or.inl q)
  have q := Cond.all_elim (ev []) (B.1.fin (Vm.Alike.refl _)) h j.toNatClampNeg (Nat.lt_of_not_le fun x => hin (Or.inr x))
  have e := (elem_f (ev [j.toNatClampNeg]) (idx_at nn) (B.1.fin (Vm.Alike.refl _)) nn).trans (B.2.2.2 j hin)
  rcases or_e2 (Cond.le_ints (Term.int_eval hi) (idx_at nn)) (Cond.eq_ints e (Term.int_eval v)) q with u | u
  · rw [Int32.le_iff_toInt_le] at u; omega
  · exact u
theorem own_one (ev : ∀ idx, t.eval args Z none idx Z = some (.ref a)) (B : Tab Z Z.heap a cl ty (256 : Int32)) {k : Int32} (h : (Cond.eq (.elem t (.int k)) (.int v)).value args Z none Z [] = some true) (j : Int32) (hj : j.toInt = k.toInt) : atv cl j = v := by
  have e : j = k := Int32.toInt_inj.mp hj
  subst e
  exact atv_of (elem_in (eqv_i (Term.int_eval v) h) (ev []) (Term.int_eval j) B.1.1).2
end Tabs
set_option maxRecDepth 65536 in
set_option maxHeartbeats 40000000 in
theorem comes_1 {Post : Tables → Env → Array Value → State → Outcome → State → Prop} (hpost : ∀ tb e args s v u, (limb_1_1.after args s (.returned v) u = true ∧ limb_1_2.after args s (.returned v) u = true ∧ True) → FrameEnd s (.returned v) u (Jvm.fieldLocs frame_1_writes args s ++ Jvm.arrayLocs frame_1_arrays args s ++ Jvm.staticLocs frame_1_statics s) 16 128 → Post tb e args s (.returned v) u) :
    ArmFor flags0 classFile x code maxLocals ret World_1 tables_1 room_1 Calls_1 rest_1 Pre_1 Post := by
  intro l hfl _ _ p e ha hc hk s m args below hf hA hF happ hP
  obtain ⟨hcalls, hrest, hpre⟩ := hP
  obtain ⟨-, -, -, hnamed, -, -, -, hat⟩ := (Spec.applies_iff hf).mp happ
  obtain ⟨hg, hn⟩ := and_e (Cond.before_iff.mp (show (Jvm.Cond.and given_1 narrow_1).before args s = true from hpre))
  obtain ⟨gg1, gg2⟩ := and_e hg
  obtain ⟨gg3, gg4⟩ := and_e hn
  obtain ⟨gg5, gg6⟩ := and_e gg4
  obtain ⟨gg7, gg8⟩ := and_e gg6
  obtain ⟨gg9, gg10⟩ := and_e gg8
  obtain ⟨gg11, gg12⟩ := and_e gg10
  obtain ⟨gg13, gg14⟩ := and_e gg12
  obtain ⟨gg15, gg16⟩ := and_e gg14
  obtain ⟨gg17, gg18⟩ := and_e gg16
  obtain ⟨gg19, gg20⟩ := and_e gg18
  obtain ⟨gg21, gg22⟩ := and_e gg20
  obtain ⟨gg23, gg24⟩ := and_e gg22
  obtain ⟨gg25, gg26⟩ := and_e gg24
  obtain ⟨gg27, gg28⟩ := and_e gg26
  obtain ⟨gg29, gg30⟩ := and_e gg28
  obtain ⟨gg31, gg32⟩ := and_e gg30
  obtain ⟨gg33, gg34⟩ := and_e gg32
  obtain ⟨gg35, gg36⟩ := and_e gg34
  obtain ⟨gg37, gg38⟩ := and_e gg36
  obtain ⟨gg39, gg40⟩ := and_e gg38
  obtain ⟨gg41, gg42⟩ := and_e gg40
  obtain ⟨gg43, gg44⟩ := and_e gg42
  obtain ⟨gg45, gg46⟩ := and_e gg44
  obtain ⟨gg47, gg48⟩ := and_e gg46
  obtain ⟨gg49, gg50⟩ := and_e gg48
  obtain ⟨w0, rfl⟩ : ∃ w0 : Value, args = #[w0] := by
    have hs : args.size = 1 := by simpa [Cond.value, given_1] using gg1
    obtain ⟨L⟩ := args
    match L, hs with
    | [w0], _ => exact ⟨w0, rfl⟩
  have hw := fun d (hd : d ∈ tables_1) => atoms_spec (ws := Jvm.Cond.code x code maxLocals ret :: tables_1) hat d (List.mem_cons_of_mem _ hd)
  have hfit : Fit s := fun {y c} hc i hi => by
    obtain ⟨ha, rfl⟩ := Array.getElem?_eq_some_iff.mp hc
    have q := List.all_eq_true.mp ((Array.all_eq_true_iff_forall_mem.mp hF) _ (Array.getElem_mem ha)) i (List.mem_range.mpr hi)
    simpa [Array.getElem?_eq_getElem hi] using q
  obtain ⟨i0, ei0⟩ := is_v gg2
  obtain rfl : w0 = (.int i0) := Option.some.inj ei0
  obtain ⟨aL, ev_cL⟩ := arr_v gg3
  have S_cL := Sta.start ev_cL (Or.inr ⟨(hw _ (List.mem_of_getElem? (i := 5) rfl)), (hw _ (List.mem_of_getElem? (i := 16) rfl))⟩)
  obtain ⟨cL, A_cL⟩ := Arr.start ev_cL gg3
  have el_cL := eqv_i (Term.int_eval (256 : Int32)) gg5
  have q31_cL := own_len ev_cL (A_cL.fin (Vm.Alike.refl _)) el_cL
  obtain ⟨x1, x2, u1, u2, u3⟩ := Term.length_spec el_cL
  cases ev_cL.symm.trans u1
  cases (A_cL.fin (Vm.Alike.refl _)).symm.trans u2
  have B_cL : Tab s s.heap aL cL .byte (256 : Int32) := Tab.start hfit A_cL (by simp) q31_cL (Value.int.inj u3).symm (by decide)
  obtain ⟨aO, ev_cO⟩ := arr_v gg7
  have S_cO := Sta.start ev_cO (Or.inr ⟨(hw _ (List.mem_of_getElem? (i := 5) rfl)), (hw _ (List.mem_of_getElem? (i := 23) rfl))⟩)
  obtain ⟨cO, A_cO⟩ := Arr.start ev_cO gg7
  have el_cO := eqv_i (Term.int_eval (256 : Int32)) gg9
  have q31_cO := own_len ev_cO (A_cO.fin (Vm.Alike.refl _)) el_cO
  obtain ⟨x1, x2, u1, u2, u3⟩ := Term.length_spec el_cO
  cases ev_cO.symm.trans u1
  cases (A_cO.fin (Vm.Alike.refl _)).symm.trans u2
  have B_cO : Tab s s.heap aO cO .int (256 : Int32) := Tab.start hfit A_cO (by simp) q31_cO (Value.int.inj u3).symm (by decide)
  obtain ⟨aH, ev_cH⟩ := arr_v gg11
  have S_cH := Sta.start ev_cH (Or.inr ⟨(hw _ (List.mem_of_getElem? (i := 5) rfl)), (hw _ (List.mem_of_getElem? (i := 25) rfl))⟩)
  obtain ⟨cH, A_cH⟩ := Arr.start ev_cH gg11
  have el_cH := eqv_i (Term.int_eval (256 : Int32)) gg13
  have q31_cH := own_len ev_cH (A_cH.fin (Vm.Alike.refl _)) el_cH
  obtain ⟨x1, x2, u1, u2, u3⟩ := Term.length_spec el_cH
  cases ev_cH.symm.trans u1
  cases (A_cH.fin (Vm.Alike.refl _)).symm.trans u2
  have B_cH : Tab s s.heap aH cH .int (256 : Int32) := Tab.start hfit A_cH (by simp) q31_cH (Value.int.inj u3).symm (by decide)
  have TL : own_TL cL := fun j h0 h1 => ⟨fun p => own_allL (fun _ => ev_cL) B_cL gg15 j h0 h1 p, fun p q => own_all3 (fun _ => ev_cL) B_cL gg19 j h0 h1 p q, fun p q => own_all3 (fun _ => ev_cL) B_cL gg21 j h0 h1 p q, fun p q => own_all3 (fun _ => ev_cL) B_cL gg23 j h0 h1 p q⟩
  have TO : own_TO cO := fun j h0 h1 => ⟨fun p q => own_all3 (fun _ => ev_cO) B_cO gg29 j h0 h1 p q, fun p => own_one (fun _ => ev_cO) B_cO gg31 j p, fun p q => own_all3 (fun _ => ev_cO) B_cO gg33 j h0 h1 p q, fun p => own_one (fun _ => ev_cO) B_cO gg35 j p, fun p q => own_all3 (fun _ => ev_cO) B_cO gg37 j h0 h1 p q⟩
  have TH : own_TH cH := fun j h0 h1 => ⟨fun p q => own_all3 (fun _ => ev_cH) B_cH gg43 j h0 h1 p q, fun p => own_one (fun _ => ev_cH) B_cH gg45 j p, fun p q => own_all3 (fun _ => ev_cH) B_cH gg47 j h0 h1 p q, fun p => own_one (fun _ => ev_cH) B_cH gg49 j p⟩
  obtain ⟨n, o, h1, h2, h3, _, L, rfl, ⟨rfl, N⟩, hq⟩ := rm0 l s _ hw tables_1 i0 cL aL cO aO cH aH s.heap s.heap.size (Nat.le_refl _) (Old.start s) S_cL B_cL S_cO B_cO S_cH B_cH TL TO TH p e ha hc hk s m _ below hf ((Spec.applies_iff_loose hf).mp happ).1 ⟨rfl, State.Warmed39.refl s, rfl⟩ trivial
  refine ⟨n, _, h1, h2, h3, hpost _ _ _ _ _ _ ⟨Cond.after_iff.mpr rfl, Cond.after_iff.mpr (eq_i res_at (Term.int_eval (1)) rfl), trivial⟩ ⟨hq.1, hq.2.1, (hq.2.2.sift fun y hy => Or.inr (N y hy)).mono (by decide) (by decide)⟩⟩
theorem main_1_1 : Claimed_1_1 := comes_1 fun _ _ _ _ _ _ h hF => ⟨h.1, hF⟩
theorem main_1_2 : Claimed_1_2 := comes_1 fun _ _ _ _ _ _ h hF => ⟨h.2.1, hF⟩
end Jvm.Pilot.@@N@@
namespace Jvm.Pilot.@@N@@
open Jvm Jvm.ClassFile Sem Op Lib Jvm.Free Jvm.Stand Jvm.Pilot.@@N@@.Jvm.D
/-! MADE BY PROGRAM (witnessworld.py) out of the Statement's table words and the real class files: 9 classes; the members and pool entries that the words name. The judged class is class 1, her method 1. -/
namespace start1
open Jvm.ClassFile
def u (s : String) : CpInfo := .utf8 (stringToUtf16 s)
/-- a pool by its gaps: so many unusable entries, then the entry; so many at the end -/
def gap : Nat → List CpInfo → List CpInfo
  | 0, r => r
  | n + 1, r => .unusable :: gap n r
def poolList (es : List (Nat × CpInfo)) (last : Nat) : List CpInfo := es.foldr (fun e r => gap e.1 (e.2 :: r)) (gap last [])
def pool (es : List (Nat × CpInfo)) (last : Nat) : Array CpInfo := ⟨poolList es last⟩
def fileOf (pool : Array CpInfo) (this : Nat) (attrs : Array Attribute := #[]) (ms : Array MethodInfo := #[]) (fl : Nat := 33) (sup : Nat := 0) (ifs : Array Nat := #[]) (fds : Array FieldInfo := #[]) : ClassFile where
  minorVersion := 0
  majorVersion := 65
  constantPool := pool
  accessFlags := fl
  thisClass := this
  superClass := sup
  interfaces := ifs
  fields := fds
  methods := ms
  attributes := attrs
def plain (name : String) (sup : Option ClassId) : Class where
  name := name
  kind := .ordinary
  loader := none
  accessFlags := 33
  super := sup
  interfaces := #[]
  cf := none
  fields := #[]
  methods := #[]
  instanceTypes := #[]
  staticTypes := #[]
  resolved := #[]
  callSites := []
  init := .initialized
  statics := none
  mirror := none

def pool0 : Array CpInfo := pool [(5, u "<init>"), (0, u "()V"), (1, .class_ 10), (1, u "java/lang/Object")] 113

def k0m0 : Method := { name := "<init>", desc := "()V", sig := { parameters := [], returnType := none }, accessFlags := 1, code := none }
/-- java/lang/Object -/
def k0 : Class := { plain "java/lang/Object" none with
  accessFlags := 33
  interfaces := #[]
  cf := some (fileOf pool0 8 #[] #[{ accessFlags := 1, nameIndex := 5, descriptorIndex := 6, attributes := #[] }] 33 0 #[] #[])
  fields := #[]
  methods := #[k0m0]
  instanceTypes := #[]
  staticTypes := #[]
  resolved := Array.replicate 124 none
  statics := none }

def pool1 : Array CpInfo := pool [(2, .class_ 4), (1, u "java/lang/Object"), (0, u "<init>"), (0, u "()V"), (0, .integer 2147483647), (0, .integer 1112064), (0, .integer 55296), (0, .methodref 11 12), (0, .class_ 13), (0, .nameAndType 14 15), (0, u "com/example/murray_hill/murrayhill/WellFormed"), (0, u "sequenceLength"), (0, u "(I)I"), (0, .methodref 11 17), (0, .nameAndType 18 19), (0, u "writeSequence"), (0, u "(I[BI)I"), (0, .methodref 11 21), (0, .nameAndType 22 23), (0, u "next"), (0, u "([BII)I"), (0, .methodref 11 25), (0, .nameAndType 26 23), (0, u "codePoint"), (0, .class_ 28), (0, u "com/example/murray_hill/murrayhill/WellFormedSequenceLengthPinLaw"), (2, u "law"), (0, u "(I)Z")] 5

def k1m0 : Method := { name := "<init>", desc := "()V", sig := { parameters := [], returnType := none }, accessFlags := 2, code := none }
def k1c1 : Code := { maxStack := 3, maxLocals := 5, code := code, exceptionTable := #[], attributes := #[] }
def k1m1 : Method := { name := "law", desc := "(I)Z", sig := { parameters := [.int], returnType := some .boolean }, accessFlags := 9, code := some k1c1 }
/-- com/example/murray_hill/murrayhill/WellFormedSequenceLengthPinLaw -/
def k1 : Class := { plain "com/example/murray_hill/murrayhill/WellFormedSequenceLengthPinLaw" (some 0) with
  accessFlags := 49
  interfaces := #[]
  cf := some (fileOf pool1 27 #[] #[{ accessFlags := 2, nameIndex := 5, descriptorIndex := 6, attributes := #[] }, { accessFlags := 9, nameIndex := 31, descriptorIndex := 32, attributes := #[] }] 49 2 #[] #[])
  fields := #[]
  methods := #[k1m0, k1m1]
  instanceTypes := #[]
  staticTypes := #[]
  resolved := Array.replicate 38 none
  statics := none }

def pool2 : Array CpInfo := pool [(2, .class_ 4), (1, u "java/lang/Object"), (0, u "<init>"), (0, u "()V"), (0, .fieldref 8 9), (0, .class_ 10), (0, .nameAndType 11 12), (0, u "com/example/murray_hill/murrayhill/WellFormed"), (0, u "LENGTH"), (0, u "[B"), (0, .fieldref 8 14), (0, .nameAndType 15 16), (0, u "SECOND_LOW"), (0, u "[I"), (0, .fieldref 8 18), (0, .nameAndType 19 16), (0, u "SECOND_HIGH"), (0, .methodref 8 21), (0, .nameAndType 22 23), (0, u "isContinuation"), (0, u "(I)Z"), (50, u "next"), (0, u "([BII)I"), (3, u "(I)I"), (37, .integer 65536), (0, .methodref 8 119), (0, .nameAndType 120 79), (0, u "sequenceLength"), (0, .integer 65280), (4, u "LONGEST_ITEM"), (0, u "I"), (2, u "HIGH_BITS"), (0, u "J"), (0, u "LOW_SEVEN_BITS"), (0, u "BITS_ONE_TO_FOUR"), (0, u "LOW_FOUR_BITS"), (0, u "LOW_FOUR_BITS_D"), (0, u "LOW_THREE_BITS"), (0, u "THREES"), (0, u "BITS_ZERO_ONE_AND_THREE"), (0, u "LAST_BYTE"), (2, u "NOT_SEQUENCES"), (0, u "FIRST_SEVEN"), (10, u "codePoint"), (1, u "writeSequence"), (0, u "(I[BI)I")] 18

def k2m0 : Method := { name := "<init>", desc := "()V", sig := { parameters := [], returnType := none }, accessFlags := 2, code := none }
def k2c1 : Code := { maxStack := 3, maxLocals := 6, code := prog_39_method_3_code, exceptionTable := #[], attributes := #[] }
def k2m1 : Method := { name := "next", desc := "([BII)I", sig := { parameters := [(.array .byte), .int, .int], returnType := some .int }, accessFlags := 8, code := some k2c1 }
def k2c2 : Code := { maxStack := 4, maxLocals := 6, code := prog_39_method_13_code, exceptionTable := #[], attributes := #[] }
def k2m2 : Method := { name := "codePoint", desc := "([BII)I", sig := { parameters := [(.array .byte), .int, .int], returnType := some .int }, accessFlags := 8, code := some k2c2 }
def k2c3 : Code := { maxStack := 2, maxLocals := 1, code := prog_39_method_15_code, exceptionTable := #[], attributes := #[] }
def k2m3 : Method := { name := "sequenceLength", desc := "(I)I", sig := { parameters := [.int], returnType := some .int }, accessFlags := 8, code := some k2c3 }
def k2c4 : Code := { maxStack := 5, maxLocals := 6, code := prog_39_method_16_code, exceptionTable := #[], attributes := #[] }
def k2m4 : Method := { name := "writeSequence", desc := "(I[BI)I", sig := { parameters := [.int, (.array .byte), .int], returnType := some .int }, accessFlags := 8, code := some k2c4 }
def k2c5 : Code := { maxStack := 2, maxLocals := 1, code := prog_39_method_17_code, exceptionTable := #[], attributes := #[] }
def k2m5 : Method := { name := "isContinuation", desc := "(I)Z", sig := { parameters := [.int], returnType := some .boolean }, accessFlags := 8, code := some k2c5 }
/-- com/example/murray_hill/murrayhill/WellFormed -/
def k2 : Class := { plain "com/example/murray_hill/murrayhill/WellFormed" (some 0) with
  accessFlags := 32
  interfaces := #[]
  cf := some (fileOf pool2 8 #[] #[{ accessFlags := 2, nameIndex := 5, descriptorIndex := 6, attributes := #[] }, { accessFlags := 8, nameIndex := 74, descriptorIndex := 75, attributes := #[] }, { accessFlags := 8, nameIndex := 154, descriptorIndex := 75, attributes := #[] }, { accessFlags := 8, nameIndex := 120, descriptorIndex := 79, attributes := #[] }, { accessFlags := 8, nameIndex := 156, descriptorIndex := 157, attributes := #[] }, { accessFlags := 8, nameIndex := 22, descriptorIndex := 23, attributes := #[] }] 32 2 #[] #[{ accessFlags := 24, nameIndex := 126, descriptorIndex := 127, attributes := #[] }, { accessFlags := 26, nameIndex := 11, descriptorIndex := 12, attributes := #[] }, { accessFlags := 26, nameIndex := 15, descriptorIndex := 16, attributes := #[] }, { accessFlags := 26, nameIndex := 19, descriptorIndex := 16, attributes := #[] }, { accessFlags := 26, nameIndex := 130, descriptorIndex := 131, attributes := #[] }, { accessFlags := 26, nameIndex := 132, descriptorIndex := 131, attributes := #[] }, { accessFlags := 26, nameIndex := 133, descriptorIndex := 131, attributes := #[] }, { accessFlags := 26, nameIndex := 134, descriptorIndex := 131, attributes := #[] }, { accessFlags := 26, nameIndex := 135, descriptorIndex := 131, attributes := #[] }, { accessFlags := 26, nameIndex := 136, descriptorIndex := 131, attributes := #[] }, { accessFlags := 26, nameIndex := 137, descriptorIndex := 131, attributes := #[] }, { accessFlags := 26, nameIndex := 138, descriptorIndex := 131, attributes := #[] }, { accessFlags := 26, nameIndex := 139, descriptorIndex := 131, attributes := #[] }, { accessFlags := 24, nameIndex := 142, descriptorIndex := 131, attributes := #[] }, { accessFlags := 24, nameIndex := 143, descriptorIndex := 131, attributes := #[] }])
  fields := #[{ name := "LONGEST_ITEM", type := .int, accessFlags := 24, slot := 0, constantValue := 0 }, { name := "LENGTH", type := (.array .byte), accessFlags := 26, slot := 1, constantValue := 0 }, { name := "SECOND_LOW", type := (.array .int), accessFlags := 26, slot := 2, constantValue := 0 }, { name := "SECOND_HIGH", type := (.array .int), accessFlags := 26, slot := 3, constantValue := 0 }, { name := "HIGH_BITS", type := .long, accessFlags := 26, slot := 4, constantValue := 0 }, { name := "LOW_SEVEN_BITS", type := .long, accessFlags := 26, slot := 5, constantValue := 0 }, { name := "BITS_ONE_TO_FOUR", type := .long, accessFlags := 26, slot := 6, constantValue := 0 }, { name := "LOW_FOUR_BITS", type := .long, accessFlags := 26, slot := 7, constantValue := 0 }, { name := "LOW_FOUR_BITS_D", type := .long, accessFlags := 26, slot := 8, constantValue := 0 }, { name := "LOW_THREE_BITS", type := .long, accessFlags := 26, slot := 9, constantValue := 0 }, { name := "THREES", type := .long, accessFlags := 26, slot := 10, constantValue := 0 }, { name := "BITS_ZERO_ONE_AND_THREE", type := .long, accessFlags := 26, slot := 11, constantValue := 0 }, { name := "LAST_BYTE", type := .long, accessFlags := 26, slot := 12, constantValue := 0 }, { name := "NOT_SEQUENCES", type := .long, accessFlags := 24, slot := 13, constantValue := 0 }, { name := "FIRST_SEVEN", type := .long, accessFlags := 24, slot := 14, constantValue := 0 }]
  methods := #[k2m0, k2m1, k2m2, k2m3, k2m4, k2m5]
  instanceTypes := #[]
  staticTypes := #[.int, (.array .byte), (.array .int), (.array .int), .long, .long, .long, .long, .long, .long, .long, .long, .long, .long, .long]
  resolved := Array.replicate 176 none
  statics := some 0 }

def pool3 : Array CpInfo := pool [(1, u "java/lang/Cloneable"), (0, .class_ 1), (0, u "java/lang/Object"), (0, .class_ 3)] 3

/-- java/lang/Cloneable -/
def k3 : Class := { plain "java/lang/Cloneable" (some 0) with
  accessFlags := 1537
  interfaces := #[]
  cf := some (fileOf pool3 2 #[] #[] 1537 4 #[] #[])
  fields := #[]
  methods := #[]
  instanceTypes := #[]
  staticTypes := #[]
  resolved := Array.replicate 8 none
  statics := none }

def pool4 : Array CpInfo := pool [(1, u "java/io/Serializable"), (0, .class_ 1), (0, u "java/lang/Object"), (0, .class_ 3)] 3

/-- java/io/Serializable -/
def k4 : Class := { plain "java/io/Serializable" (some 0) with
  accessFlags := 1537
  interfaces := #[]
  cf := some (fileOf pool4 2 #[] #[] 1537 4 #[] #[])
  fields := #[]
  methods := #[]
  instanceTypes := #[]
  staticTypes := #[]
  resolved := Array.replicate 8 none
  statics := none }

/-- the primitive byte -/
def k5 : Class := { plain "byte" none with kind := .primitive 'B', accessFlags := 0x411 }
/-- [B -/
def k6 : Class := { plain "[B" (some 0) with kind := .array 5 .byte, interfaces := #[3, 4], accessFlags := 1041 }

/-- the primitive int -/
def k7 : Class := { plain "int" none with kind := .primitive 'I', accessFlags := 0x411 }
/-- [I -/
def k8 : Class := { plain "[I" (some 0) with kind := .array 7 .int, interfaces := #[3, 4], accessFlags := 1041 }

def heap : Heap := #[{ cls := 2, slots := #[.int 0, .ref 1, .ref 2, .ref 3, .long 0, .long 0, .long 0, .long 0, .long 0, .long 0, .long 0, .long 0, .long 0, .long 0, .long 0], vm := .statics 2 },
  { cls := 6, slots := #[.int 1, .int 1, .int 1, .int 1, .int 1, .int 1, .int 1, .int 1, .int 1, .int 1, .int 1, .int 1, .int 1, .int 1, .int 1, .int 1, .int 1, .int 1, .int 1, .int 1, .int 1, .int 1, .int 1, .int 1, .int 1, .int 1, .int 1, .int 1, .int 1, .int 1, .int 1, .int 1, .int 1, .int 1, .int 1, .int 1, .int 1, .int 1, .int 1, .int 1, .int 1, .int 1, .int 1, .int 1, .int 1, .int 1, .int 1, .int 1, .int 1, .int 1, .int 1, .int 1, .int 1, .int 1, .int 1, .int 1, .int 1, .int 1, .int 1, .int 1, .int 1, .int 1, .int 1, .int 1, .int 1, .int 1, .int 1, .int 1, .int 1, .int 1, .int 1, .int 1, .int 1, .int 1, .int 1, .int 1, .int 1, .int 1, .int 1, .int 1, .int 1, .int 1, .int 1, .int 1, .int 1, .int 1, .int 1, .int 1, .int 1, .int 1, .int 1, .int 1, .int 1, .int 1, .int 1, .int 1, .int 1, .int 1, .int 1, .int 1, .int 1, .int 1, .int 1, .int 1, .int 1, .int 1, .int 1, .int 1, .int 1, .int 1, .int 1, .int 1, .int 1, .int 1, .int 1, .int 1, .int 1, .int 1, .int 1, .int 1, .int 1, .int 1, .int 1, .int 1, .int 1, .int 1, .int 1, .int 1, .int 0, .int 0, .int 0, .int 0, .int 0, .int 0, .int 0, .int 0, .int 0, .int 0, .int 0, .int 0, .int 0, .int 0, .int 0, .int 0, .int 0, .int 0, .int 0, .int 0, .int 0, .int 0, .int 0, .int 0, .int 0, .int 0, .int 0, .int 0, .int 0, .int 0, .int 0, .int 0, .int 0, .int 0, .int 0, .int 0, .int 0, .int 0, .int 0, .int 0, .int 0, .int 0, .int 0, .int 0, .int 0, .int 0, .int 0, .int 0, .int 0, .int 0, .int 0, .int 0, .int 0, .int 0, .int 0, .int 0, .int 0, .int 0, .int 0, .int 0, .int 0, .int 0, .int 0, .int 0, .int 0, .int 0, .int 2, .int 2, .int 2, .int 2, .int 2, .int 2, .int 2, .int 2, .int 2, .int 2, .int 2, .int 2, .int 2, .int 2, .int 2, .int 2, .int 2, .int 2, .int 2, .int 2, .int 2, .int 2, .int 2, .int 2, .int 2, .int 2, .int 2, .int 2, .int 2, .int 2, .int 3, .int 3, .int 3, .int 3, .int 3, .int 3, .int 3, .int 3, .int 3, .int 3, .int 3, .int 3, .int 3, .int 3, .int 3, .int 3, .int 4, .int 4, .int 4, .int 4, .int 4, .int 0, .int 0, .int 0, .int 0, .int 0, .int 0, .int 0, .int 0, .int 0, .int 0, .int 0], vm := .none },
  { cls := 8, slots := #[.int 0, .int 0, .int 0, .int 0, .int 0, .int 0, .int 0, .int 0, .int 0, .int 0, .int 0, .int 0, .int 0, .int 0, .int 0, .int 0, .int 0, .int 0, .int 0, .int 0, .int 0, .int 0, .int 0, .int 0, .int 0, .int 0, .int 0, .int 0, .int 0, .int 0, .int 0, .int 0, .int 0, .int 0, .int 0, .int 0, .int 0, .int 0, .int 0, .int 0, .int 0, .int 0, .int 0, .int 0, .int 0, .int 0, .int 0, .int 0, .int 0, .int 0, .int 0, .int 0, .int 0, .int 0, .int 0, .int 0, .int 0, .int 0, .int 0, .int 0, .int 0, .int 0, .int 0, .int 0, .int 0, .int 0, .int 0, .int 0, .int 0, .int 0, .int 0, .int 0, .int 0, .int 0, .int 0, .int 0, .int 0, .int 0, .int 0, .int 0, .int 0, .int 0, .int 0, .int 0, .int 0, .int 0, .int 0, .int 0, .int 0, .int 0, .int 0, .int 0, .int 0, .int 0, .int 0, .int 0, .int 0, .int 0, .int 0, .int 0, .int 0, .int 0, .int 0, .int 0, .int 0, .int 0, .int 0, .int 0, .int 0, .int 0, .int 0, .int 0, .int 0, .int 0, .int 0, .int 0, .int 0, .int 0, .int 0, .int 0, .int 0, .int 0, .int 0, .int 0, .int 0, .int 0, .int 0, .int 0, .int 0, .int 0, .int 0, .int 0, .int 0, .int 0, .int 0, .int 0, .int 0, .int 0, .int 0, .int 0, .int 0, .int 0, .int 0, .int 0, .int 0, .int 0, .int 0, .int 0, .int 0, .int 0, .int 0, .int 0, .int 0, .int 0, .int 0, .int 0, .int 0, .int 0, .int 0, .int 0, .int 0, .int 0, .int 0, .int 0, .int 0, .int 0, .int 0, .int 0, .int 0, .int 0, .int 0, .int 0, .int 0, .int 0, .int 0, .int 0, .int 0, .int 0, .int 0, .int 0, .int 0, .int 0, .int 0, .int 0, .int 0, .int 0, .int 0, .int 0, .int 0, .int 0, .int 0, .int 0, .int 0, .int 0, .int 128, .int 128, .int 128, .int 128, .int 128, .int 128, .int 128, .int 128, .int 128, .int 128, .int 128, .int 128, .int 128, .int 128, .int 128, .int 128, .int 128, .int 128, .int 128, .int 128, .int 128, .int 128, .int 128, .int 128, .int 128, .int 128, .int 128, .int 128, .int 128, .int 128, .int 160, .int 128, .int 128, .int 128, .int 128, .int 128, .int 128, .int 128, .int 128, .int 128, .int 128, .int 128, .int 128, .int 128, .int 128, .int 128, .int 144, .int 128, .int 128, .int 128, .int 128, .int 0, .int 0, .int 0, .int 0, .int 0, .int 0, .int 0, .int 0, .int 0, .int 0, .int 0], vm := .none },
  { cls := 8, slots := #[.int 0, .int 0, .int 0, .int 0, .int 0, .int 0, .int 0, .int 0, .int 0, .int 0, .int 0, .int 0, .int 0, .int 0, .int 0, .int 0, .int 0, .int 0, .int 0, .int 0, .int 0, .int 0, .int 0, .int 0, .int 0, .int 0, .int 0, .int 0, .int 0, .int 0, .int 0, .int 0, .int 0, .int 0, .int 0, .int 0, .int 0, .int 0, .int 0, .int 0, .int 0, .int 0, .int 0, .int 0, .int 0, .int 0, .int 0, .int 0, .int 0, .int 0, .int 0, .int 0, .int 0, .int 0, .int 0, .int 0, .int 0, .int 0, .int 0, .int 0, .int 0, .int 0, .int 0, .int 0, .int 0, .int 0, .int 0, .int 0, .int 0, .int 0, .int 0, .int 0, .int 0, .int 0, .int 0, .int 0, .int 0, .int 0, .int 0, .int 0, .int 0, .int 0, .int 0, .int 0, .int 0, .int 0, .int 0, .int 0, .int 0, .int 0, .int 0, .int 0, .int 0, .int 0, .int 0, .int 0, .int 0, .int 0, .int 0, .int 0, .int 0, .int 0, .int 0, .int 0, .int 0, .int 0, .int 0, .int 0, .int 0, .int 0, .int 0, .int 0, .int 0, .int 0, .int 0, .int 0, .int 0, .int 0, .int 0, .int 0, .int 0, .int 0, .int 0, .int 0, .int 0, .int 0, .int 0, .int 0, .int 0, .int 0, .int 0, .int 0, .int 0, .int 0, .int 0, .int 0, .int 0, .int 0, .int 0, .int 0, .int 0, .int 0, .int 0, .int 0, .int 0, .int 0, .int 0, .int 0, .int 0, .int 0, .int 0, .int 0, .int 0, .int 0, .int 0, .int 0, .int 0, .int 0, .int 0, .int 0, .int 0, .int 0, .int 0, .int 0, .int 0, .int 0, .int 0, .int 0, .int 0, .int 0, .int 0, .int 0, .int 0, .int 0, .int 0, .int 0, .int 0, .int 0, .int 0, .int 0, .int 0, .int 0, .int 0, .int 0, .int 0, .int 0, .int 0, .int 0, .int 0, .int 0, .int 0, .int 0, .int 0, .int 0, .int 191, .int 191, .int 191, .int 191, .int 191, .int 191, .int 191, .int 191, .int 191, .int 191, .int 191, .int 191, .int 191, .int 191, .int 191, .int 191, .int 191, .int 191, .int 191, .int 191, .int 191, .int 191, .int 191, .int 191, .int 191, .int 191, .int 191, .int 191, .int 191, .int 191, .int 191, .int 191, .int 191, .int 191, .int 191, .int 191, .int 191, .int 191, .int 191, .int 191, .int 191, .int 191, .int 191, .int 159, .int 191, .int 191, .int 191, .int 191, .int 191, .int 191, .int 143, .int 0, .int 0, .int 0, .int 0, .int 0, .int 0, .int 0, .int 0, .int 0, .int 0, .int 0], vm := .none }]
def classes : Array Class := #[k0, k1, k2, k3, k4, k5, k6, k7, k8]
def interned : List (Array UInt16 × Addr) := []
def slotsUsed : Nat := 783
def theMethod : MethodId := ⟨1, 1⟩
def args0 : Array Value := #[.int 5]
def aboutOver (below : List Frame) : State where
  vm := { classes := classes, interned := interned.toArray }
  heap := heap
  slotsUsed := slotsUsed
  threads := #[{ frames := .invoking theMethod args0 :: below }]
def below0 : List Frame := [.native { method := ⟨0, 0⟩, args := #[] }]
def about1 : State := aboutOver below0
def p0 : Program := .bare "" "" ""
def e0 : Env := launch0.env 0 0 0
theorem w_frames : about1.frames = Frame.invoking theMethod args0 :: below0 := rfl
set_option maxRecDepth 65536 in
theorem w_args : argsFit about1.vm theMethod args0 = true := by decide +kernel
set_option maxRecDepth 65536 in
theorem w_heap : heapFits about1 = true := by decide +kernel
set_option maxRecDepth 65536 in
theorem w_runnable : about1.curStatus? = some .runnable := by decide +kernel
set_option maxRecDepth 65536 in
theorem w_alone : about1.alone = true := by decide +kernel
set_option maxRecDepth 65536 in
theorem w_named : about1.methodNamed? x = some theMethod := by decide +kernel
set_option maxRecDepth 65536 in
theorem w_hears : about1.hears theMethod below0 = true := by decide +kernel
set_option maxRecDepth 65536 in
theorem w_ripe : about1.ripe theMethod args0 below0 = true := by decide +kernel
theorem w_running : about1.status = .running := rfl
set_option maxRecDepth 65536 in
theorem w_room : about1.hasRoom e0.platform room_1 = true :=
  launch0.hasRoom_least _ room_1 (by decide +kernel) (by decide +kernel) (by decide +kernel) (by decide +kernel) (by decide +kernel) (by decide +kernel)
theorem allAtoms_all (ts : List Jvm.Cond) (a : Array Jvm.Value) (st : Jvm.State) : (allAtoms ts).before a st = ts.all (fun c => c.before a st) := by
  induction ts with
  | nil => rfl
  | cons c t ih =>
    show (Jvm.Cond.and c (allAtoms t)).before a st = _
    rw [Jvm.Cond.before_and, ih, List.all_cons]
def words1 : List Jvm.Cond := Jvm.Cond.code x code maxLocals ret :: tables_1
/-- a 'code' word, met by the world's own term for the bytes: nothing is compared byte by byte -/
theorem code_word {y : MethodName} {bytes : ByteArray} {mx : Nat} {rt : Option FieldType} {a : Array Value} {s : State} {m : MethodId} {meth : Method} {c : Code} (h1 : s.methodNamed? y = some m) (h2 : s.vm.method? m = some meth) (h3 : meth.code = some c) (h4 : c.code = bytes)
    (h5 : (c.maxLocals == mx && c.exceptionTable.isEmpty && decide (c.maxStack ≤ mostOperands) && decide (meth.sig.returnType = rt) && !meth.locks && decide (parseMethodDescriptor y.desc = some meth.sig)) = true) : (Jvm.Cond.code y bytes mx rt).before a s = true := by
  simp only [Bool.and_eq_true, beq_iff_eq, Bool.not_eq_true', decide_eq_true_eq] at h5
  obtain ⟨⟨⟨⟨⟨g1, g2⟩, g3⟩, g4⟩, g5⟩, g6⟩ := h5
  simp [Cond.before, Cond.holds, Cond.value, h1, h2, h3, h4, g1, g2, g3, g4, g5, g6]
def isCode : Jvm.Cond → Bool
  | .code _ _ _ _ => true
  | _ => false
theorem all_split {L : List Jvm.Cond} {P : Jvm.Cond → Bool} (h1 : L.all (fun c => isCode c || P c) = true) (h2 : ∀ c ∈ L.filter isCode, P c = true) : L.all P = true := by
  refine List.all_eq_true.mpr fun c hc => ?_
  have h := List.all_eq_true.mp h1 c hc
  rcases Bool.eq_false_or_eq_true (isCode c) with hi | hi
  · exact h2 c (List.mem_filter.mpr ⟨hc, hi⟩)
  · simpa [hi] using h
set_option maxRecDepth 65536 in
theorem w_c0 : (Jvm.Cond.code x code maxLocals ret).before args0 about1 = true := code_word (m := ⟨1, 1⟩) (meth := k1m1) (c := k1c1) (by decide +kernel) rfl rfl rfl (by decide +kernel)
set_option maxRecDepth 65536 in
theorem w_c1 : (Jvm.Cond.code ({ cls := "com/example/murray_hill/murrayhill/WellFormed", name := "sequenceLength", desc := "(I)I" } : Jvm.MethodName) prog_39_method_15_code (1 : Nat) (Option.some Jvm.ClassFile.FieldType.int)).before args0 about1 = true := code_word (m := ⟨2, 3⟩) (meth := k2m3) (c := k2c3) (by decide +kernel) rfl rfl rfl (by decide +kernel)
set_option maxRecDepth 65536 in
theorem w_c2 : (Jvm.Cond.code ({ cls := "com/example/murray_hill/murrayhill/WellFormed", name := "writeSequence", desc := "(I[BI)I" } : Jvm.MethodName) prog_39_method_16_code (6 : Nat) (Option.some Jvm.ClassFile.FieldType.int)).before args0 about1 = true := code_word (m := ⟨2, 4⟩) (meth := k2m4) (c := k2c4) (by decide +kernel) rfl rfl rfl (by decide +kernel)
set_option maxRecDepth 65536 in
theorem w_c3 : (Jvm.Cond.code ({ cls := "com/example/murray_hill/murrayhill/WellFormed", name := "next", desc := "([BII)I" } : Jvm.MethodName) prog_39_method_3_code (6 : Nat) (Option.some Jvm.ClassFile.FieldType.int)).before args0 about1 = true := code_word (m := ⟨2, 1⟩) (meth := k2m1) (c := k2c1) (by decide +kernel) rfl rfl rfl (by decide +kernel)
set_option maxRecDepth 65536 in
theorem w_c4 : (Jvm.Cond.code ({ cls := "com/example/murray_hill/murrayhill/WellFormed", name := "codePoint", desc := "([BII)I" } : Jvm.MethodName) prog_39_method_13_code (6 : Nat) (Option.some Jvm.ClassFile.FieldType.int)).before args0 about1 = true := code_word (m := ⟨2, 2⟩) (meth := k2m2) (c := k2c2) (by decide +kernel) rfl rfl rfl (by decide +kernel)
set_option maxRecDepth 65536 in
theorem w_c5 : (Jvm.Cond.code ({ cls := "com/example/murray_hill/murrayhill/WellFormed", name := "isContinuation", desc := "(I)Z" } : Jvm.MethodName) prog_39_method_17_code (1 : Nat) (Option.some Jvm.ClassFile.FieldType.boolean)).before args0 about1 = true := code_word (m := ⟨2, 5⟩) (meth := k2m5) (c := k2c5) (by decide +kernel) rfl rfl rfl (by decide +kernel)
def codes1 : List Jvm.Cond := [Jvm.Cond.code x code maxLocals ret, Jvm.Cond.code ({ cls := "com/example/murray_hill/murrayhill/WellFormed", name := "sequenceLength", desc := "(I)I" } : Jvm.MethodName) prog_39_method_15_code (1 : Nat) (Option.some Jvm.ClassFile.FieldType.int), Jvm.Cond.code ({ cls := "com/example/murray_hill/murrayhill/WellFormed", name := "writeSequence", desc := "(I[BI)I" } : Jvm.MethodName) prog_39_method_16_code (6 : Nat) (Option.some Jvm.ClassFile.FieldType.int), Jvm.Cond.code ({ cls := "com/example/murray_hill/murrayhill/WellFormed", name := "next", desc := "([BII)I" } : Jvm.MethodName) prog_39_method_3_code (6 : Nat) (Option.some Jvm.ClassFile.FieldType.int), Jvm.Cond.code ({ cls := "com/example/murray_hill/murrayhill/WellFormed", name := "codePoint", desc := "([BII)I" } : Jvm.MethodName) prog_39_method_13_code (6 : Nat) (Option.some Jvm.ClassFile.FieldType.int), Jvm.Cond.code ({ cls := "com/example/murray_hill/murrayhill/WellFormed", name := "isContinuation", desc := "(I)Z" } : Jvm.MethodName) prog_39_method_17_code (1 : Nat) (Option.some Jvm.ClassFile.FieldType.boolean)]
set_option maxRecDepth 65536 in
theorem codes_eq : words1.filter isCode = codes1 := rfl
theorem w_codes : ∀ c ∈ words1.filter isCode, c.before args0 about1 = true := by
  rw [codes_eq]
  intro c hc
  simp only [codes1, List.mem_cons, List.not_mem_nil, or_false] at hc
  rcases hc with rfl | rfl | rfl | rfl | rfl | rfl
  · exact w_c0
  · exact w_c1
  · exact w_c2
  · exact w_c3
  · exact w_c4
  · exact w_c5
set_option maxRecDepth 65536 in
theorem w_t1 : (words1.take 24).all (fun c => isCode c || c.before args0 about1) = true := by decide +kernel
set_option maxRecDepth 65536 in
theorem w_t2 : (words1.drop 24).all (fun c => isCode c || c.before args0 about1) = true := by decide +kernel
theorem w_tables : (allAtoms (Jvm.Cond.code x code maxLocals ret :: tables_1)).before args0 about1 = true := by
  rw [allAtoms_all]
  show words1.all (fun c => c.before args0 about1) = true
  refine all_split ?_ w_codes
  rw [← List.take_append_drop 24 words1, List.all_append, w_t1, w_t2]
  rfl
set_option maxRecDepth 65536 in
theorem w_case : (Jvm.Cond.and given_1 narrow_1).before args0 about1 = true := by decide +kernel
theorem w_applies : (headSpec (Jvm.Cond.code x code maxLocals ret :: tables_1) room_1).applies x e0.platform about1 = true :=
  (Spec.applies_iff w_frames).mpr ⟨w_running, w_runnable, w_alone, w_named, w_hears, w_ripe, w_room, w_tables⟩
theorem atStart : AtStart classFile x code maxLocals ret World_1 tables_1 room_1 Calls_1 rest_1 Pre_1 launch0 p0 e0 about1 theMethod args0 below0 :=
  ⟨lists_1, trivial, launch0.admits_env _ _ _, launch0.least_env, fairChoices_fair.cas, fairChoices_fair.clock, w_frames, w_args, w_heap, w_applies, trivial, trivial, w_case⟩
end start1
theorem witness_1 : WitnessClaimed_1 := ⟨start1.p0, start1.e0, start1.about1, start1.theMethod, start1.args0, start1.below0, start1.atStart⟩
end Jvm.Pilot.@@N@@
