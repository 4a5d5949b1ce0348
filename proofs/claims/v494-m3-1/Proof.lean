import JvmDerived
import JvmDerived.Pilot.@@N@@Statement
import JvmDerived.Pilot.@@N@@Code
set_option linter.unusedVariables false
set_option linter.unusedSimpArgs false
namespace Jvm.RoadKit
open Sem ClassFile Op Lib Jvm.Stand Jvm.Free Jvm.LawKit
section New
variable {p : Program} {l : Launch} {e : Env} {R : Room} {s : State} {m : MethodId} {args : Array Value} {below : List Frame} {meth : Method} {c : Code} {T : State} {locs : List Loc} {cells slots : Nat}
theorem retI (X : Stand p l e R s m args below meth c T locs cells slots) (hx : p.tables.exec = Jvm.exec) {pc : Nat} {Ls : Array Slot} {z : Int32} {rest : List Value} (hret : meth.sig.returnType = some .int) (hd : decode c.code pc = .ok (.ireturn, 1)) {fs : List Frame}
    (hl : ∀ (f : JFrame) (acts : List Action), f.method = m → f.locked = none → f.entered = [] → (doReturn e (T.setTop f) acts (some (.int z))).1 = T.setFrames fs) : Steps p.tables e below (T.setTop (mkF m pc Ls (.int z :: rest))) (T.setFrames fs) := by
  have hm' : T.vm.method? m = some meth := X.method'
  have hn : narrow .int (.int z) = .int z := rfl
  show Steps p.tables e below (T.setTop { method := m, pc := pc, locals := Ls, stack := _ :: rest, locked := none }) _
  jvm_step X.here [X.here.top, hx, hd, hm', hret, hn]
  first | (intro acts; rw [hl _ acts rfl rfl rfl]) | rw [hl _ _ rfl rfl rfl]
  exact Steps.refl _
end New
end Jvm.RoadKit
namespace Jvm.Pilot.@@N@@
open Jvm Jvm.ClassFile Sem Op Lib Jvm.Free Jvm.Stand Jvm.LawKit Jvm.RoadKit Bundle Jvm.Pilot.@@N@@.Jvm.D
theorem own_lc_lt (x y : Int64) : lcmpW x y < 0 ↔ x < y := by rw [lcW]; exact lc_lt x y
theorem own_lc_gt (x y : Int64) : 0 < lcmpW x y ↔ y < x := by rw [lcW]; exact lc_gt x y
theorem own_lc_eq (x y : Int64) : lcmpW x y = 0 ↔ x = y := by rw [lcW]; exact lc_eq x y
theorem own_ri {P : Prop} [Decidable P] {a b : Value} (h1 : a.isRef = true) (h2 : b.isRef = true) : (if P then a else b).isRef = true := by
  by_cases h : P
  · rw [if_pos h]; exact h1
  · rw [if_neg h]; exact h2
theorem own_sta_keep {Z : State} {h h' : Heap} {C n d : String} {w : Value} {ws : List Addr} (F : Sta Z h C n d w) (K : Keep h h' ws) (q : ∀ x ∈ ws, ∀ cell : Cell, h[x]? = some cell → cell.vm.isStatics = false) : Sta Z h' C n d w := by
  obtain ⟨cf, i, k, f, st, cell, h1, h2, h3, h4, h5, h6, h7⟩ := F
  exact ⟨cf, i, k, f, st, cell, h1, h2, h3, h4, K.2.1 st cell h5 (fun z => by rw [q st z cell h5] at h6; cases h6), h6, h7⟩
theorem pd_0 : parseMethodDescriptor "([JI)V" = some ⟨[(.array .long), .int], none⟩ := by decide +kernel
theorem pd_1 : parseMethodDescriptor "(JJZJ)Z" = some ⟨[.long, .long, .boolean, .long], some .boolean⟩ := by decide +kernel
theorem own_shl (x : Int64) (q : Int32) (k : Nat) (hk : q.toBitVec.toNat % 64 = k) : (x <<< (q &&& 0x3f).toInt64).toBitVec = x.toBitVec <<< k := by
  show x.toBitVec <<< ((q &&& 0x3f).toInt64.toBitVec.smod 64) = _
  rw [BitVec.shiftLeft_eq', (sm64 q k hk).1, smod64 k (sm64 q k hk).2]
theorem own_ushr (x : Int64) (q : Int32) (k : Nat) (hk : q.toBitVec.toNat % 64 = k) : ((x.toUInt64 >>> (q &&& 0x3f).toInt64.toUInt64).toInt64).toBitVec = x.toBitVec >>> k := by
  show x.toBitVec >>> ((q &&& 0x3f).toInt64.toBitVec % 64) = _
  have h5 := (sm64 q k hk).2
  rw [BitVec.ushiftRight_eq', BitVec.toNat_umod, (sm64 q k hk).1, BitVec.toNat_ofNat]
  congr 1
  show k % 2 ^ 64 % 64 = k
  omega
theorem own_bit (w : Int64) (q : Int32) (k : Nat) (hk : q.toBitVec.toNat % 64 = k) : (w &&& ((1 : Int64) <<< (q &&& 0x3f).toInt64)) = 0 ↔ w.toBitVec.getLsbD k = false := by
  have h5 := (sm64 q k hk).2
  rw [← Int64.toBitVec_inj, Int64.toBitVec_and, own_shl _ q k hk]
  show w.toBitVec &&& (1#64 <<< k) = 0#64 ↔ _
  rw [show 1#64 <<< k = BitVec.twoPow 64 k from rfl, BitVec.and_twoPow]
  cases h : w.toBitVec.getLsbD k
  · simp
  · simp only [if_true]
    constructor
    · intro q
      have := congrArg (fun b => b.getLsbD k) q
      simp [h5] at this
    · intro q; cases q
theorem own_bit' (w : Int64) (q : Int32) (k : Nat) (hk : q.toBitVec.toNat % 64 = k) : (((w.toUInt64 >>> (q &&& 0x3f).toInt64.toUInt64).toInt64) &&& (1 : Int64)) = 0 ↔ w.toBitVec.getLsbD k = false := by
  rw [← Int64.toBitVec_inj, Int64.toBitVec_and, own_ushr _ q k hk]
  show (w.toBitVec >>> k) &&& 1#64 = 0#64 ↔ _
  rw [show 1#64 = BitVec.twoPow 64 0 from rfl, BitVec.and_twoPow, BitVec.getLsbD_ushiftRight, Nat.add_zero]
  cases h : w.toBitVec.getLsbD k
  · simp
  · simp only [if_true]
    constructor
    · intro q; exact absurd q (by decide)
    · intro q; cases q
theorem own_rng (b : Int32) : 0 ≤ ((b &&& (2147483647 : Int32)) % (192 : Int32)).toInt ∧ ((b &&& (2147483647 : Int32)) % (192 : Int32)).toInt < 192 := by
  have h := c_and b (2147483647 : Int32) (by decide)
  have q := (c_irem (b &&& (2147483647 : Int32)) (192 : Int32) 192 rfl).1 h.1
  omega
/-- which word -/
def own_idx (bit : Int32) : Int32 := (if bit < (64 : Int32) then (0 : Int32) else (if bit < (128 : Int32) then (1 : Int32) else (2 : Int32)))
def own_pick (w0 w1 w2 : Int64) (i : Int32) : Int64 := (if i = (0 : Int32) then w0 else (if i = (1 : Int32) then w1 else w2))
theorem own_cases {bit : Int32} (h : 0 ≤ bit.toInt ∧ bit.toInt < 192) : (own_idx bit = 0 ∧ bit.toInt < 64) ∨ (own_idx bit = 1 ∧ 64 ≤ bit.toInt ∧ bit.toInt < 128) ∨ (own_idx bit = 2 ∧ 128 ≤ bit.toInt) := by
  unfold own_idx
  simp only [Int32.lt_iff_toInt_lt, show (64 : Int32).toInt = 64 from rfl, show (128 : Int32).toInt = 128 from rfl]
  by_cases h1 : bit.toInt < 64
  · exact Or.inl ⟨if_pos h1, h1⟩
  · rw [if_neg h1]
    by_cases h2 : bit.toInt < 128
    · exact Or.inr (Or.inl ⟨if_pos h2, by omega, h2⟩)
    · exact Or.inr (Or.inr ⟨if_neg h2, by omega⟩)
theorem own_div {bit : Int32} (h : 0 ≤ bit.toInt ∧ bit.toInt < 192) : bit / (64 : Int32) = own_idx bit := by
  have q := (c_idiv bit (64 : Int32) 64 rfl (by decide)).1 h.1
  rcases own_cases h with ⟨e, r⟩ | ⟨e, r⟩ | ⟨e, r⟩ <;> rw [e] <;> apply Int32.toInt_inj.mp
  · rw [q]; show bit.toInt / 64 = 0; omega
  · rw [q]; show bit.toInt / 64 = 1; omega
  · rw [q]; show bit.toInt / 64 = 2; omega
theorem own_sub {bit : Int32} (h : 0 ≤ bit.toInt ∧ bit.toInt < 192) : bit - (64 : Int32) * own_idx bit = bit % (64 : Int32) := by
  have q := (c_irem bit (64 : Int32) 64 rfl).1 h.1
  have r1 := Int32.le_toInt (bit - (64 : Int32) * own_idx bit)
  have r2 := Int32.toInt_lt (bit - (64 : Int32) * own_idx bit)
  apply Int32.toInt_inj.mp
  rw [q]
  rcases own_cases h with ⟨e, r⟩ | ⟨e, r⟩ | ⟨e, r⟩ <;> rw [e] at r1 r2 ⊢
  · have := c_isub bit ((64 : Int32) * 0); rw [show ((64 : Int32) * 0).toInt = 0 from rfl] at this; omega
  · have := c_isub bit ((64 : Int32) * 1); rw [show ((64 : Int32) * 1).toInt = 64 from rfl] at this; omega
  · have := c_isub bit ((64 : Int32) * 2); rw [show ((64 : Int32) * 2).toInt = 128 from rfl] at this; omega
theorem own_in {bit : Int32} (h : 0 ≤ bit.toInt ∧ bit.toInt < 192) : ¬ own_idx bit < 0 ∧ own_idx bit < (3 : Int32) := by
  rcases own_cases h with ⟨e, r⟩ | ⟨e, r⟩ | ⟨e, r⟩ <;> rw [e] <;> decide
theorem own_get {bit : Int32} (h : 0 ≤ bit.toInt ∧ bit.toInt < 192) (w0 w1 w2 : Int64) (d : Value) : [Value.long w0, Value.long w1, Value.long w2].getD (own_idx bit).toNatClampNeg d = .long (own_pick w0 w1 w2 (own_idx bit)) := by
  rcases own_cases h with ⟨e, r⟩ | ⟨e, r⟩ | ⟨e, r⟩ <;> rw [e] <;> rfl
/-- the mask with the one bit: by a shift to the right of the least long -/
theorem own_mask (s : Int32) (h : 0 ≤ s.toInt ∧ s.toInt < 64) : (((-9223372036854775808 : Int64).toUInt64 >>> (((63 : Int32) - s) &&& 0x3f).toInt64.toUInt64).toInt64) = (1 : Int64) <<< (s &&& 0x3f).toInt64 := by
  have hs : s.toBitVec.toNat = s.toInt.toNat := by
    have e : s.toInt = s.toBitVec.toInt := rfl
    have := s.toBitVec.isLt
    rw [e] at h ⊢
    rw [BitVec.toInt_eq_toNat_cond] at h ⊢
    split at h <;> omega
  have hd : ((63 : Int32) - s).toBitVec.toNat = 63 - s.toInt.toNat := by
    show ((63 : Int32).toBitVec - s.toBitVec).toNat = _
    rw [BitVec.toNat_sub, show (63 : Int32).toBitVec.toNat = 63 from rfl, hs]
    omega
  apply Int64.toBitVec_inj.mp
  rw [own_ushr _ _ (63 - s.toInt.toNat) (by rw [hd]; omega), own_shl _ _ s.toInt.toNat (by rw [hs]; omega)]
  have : ∀ k : Fin 64, ((-9223372036854775808 : Int64).toBitVec >>> (63 - k.val)) = (1 : Int64).toBitVec <<< k.val := by decide +kernel
  exact this ⟨s.toInt.toNat, by omega⟩
theorem own_off {bit : Int32} (h : 0 ≤ bit.toInt ∧ bit.toInt < 192) : 0 ≤ (bit % (64 : Int32)).toInt ∧ (bit % (64 : Int32)).toInt < 64 := by
  have q := (c_irem bit (64 : Int32) 64 rfl).1 h.1
  omega
theorem own_b1 (b m : Int64) : (b &&& (m ^^^ (-1 : Int64))) &&& m = 0 := by
  apply Int64.toBitVec_inj.mp
  show (b.toBitVec &&& (m.toBitVec ^^^ BitVec.allOnes 64)) &&& m.toBitVec = 0#64
  apply BitVec.eq_of_getLsbD_eq
  intro i hi
  rw [BitVec.getLsbD_and, BitVec.getLsbD_and, BitVec.getLsbD_xor, BitVec.getLsbD_allOnes, decide_eq_true hi, BitVec.getLsbD_zero]
  cases b.toBitVec.getLsbD i <;> cases m.toBitVec.getLsbD i <;> rfl
theorem own_b2 (b m : Int64) : (b &&& (m ^^^ (-1 : Int64))) ||| m = b ||| m := by
  apply Int64.toBitVec_inj.mp
  show (b.toBitVec &&& (m.toBitVec ^^^ BitVec.allOnes 64)) ||| m.toBitVec = b.toBitVec ||| m.toBitVec
  apply BitVec.eq_of_getLsbD_eq
  intro i hi
  rw [BitVec.getLsbD_or, BitVec.getLsbD_or, BitVec.getLsbD_and, BitVec.getLsbD_xor, BitVec.getLsbD_allOnes, decide_eq_true hi]
  cases b.toBitVec.getLsbD i <;> cases m.toBitVec.getLsbD i <;> rfl
def own_nv (w3 : Int64) (p1 : Int32) : Int64 := (w3 &&& (((1 : Int64) <<< ((p1 % (64 : Int32)) &&& 0x3f).toInt64) ^^^ (-1 : Int64)))
theorem d1_0 : decode prog_85_method_5_code 0 = .ok (.aload_n 0, 1) := by decide +kernel
theorem d1_1 : decode prog_85_method_5_code 1 = .ok (.iload_n 1, 1) := by decide +kernel
theorem d1_2 : decode prog_85_method_5_code 2 = .ok (.bipush 64, 2) := by decide +kernel
theorem d1_4 : decode prog_85_method_5_code 4 = .ok (.idiv, 1) := by decide +kernel
theorem d1_5 : decode prog_85_method_5_code 5 = .ok (.dup2, 1) := by decide +kernel
theorem d1_6 : decode prog_85_method_5_code 6 = .ok (.laload, 1) := by decide +kernel
theorem d1_7 : decode prog_85_method_5_code 7 = .ok (.lconst 1, 1) := by decide +kernel
theorem d1_8 : decode prog_85_method_5_code 8 = .ok (.iload_n 1, 1) := by decide +kernel
theorem d1_9 : decode prog_85_method_5_code 9 = .ok (.bipush 64, 2) := by decide +kernel
theorem d1_11 : decode prog_85_method_5_code 11 = .ok (.irem, 1) := by decide +kernel
theorem d1_12 : decode prog_85_method_5_code 12 = .ok (.lshl, 1) := by decide +kernel
theorem d1_13 : decode prog_85_method_5_code 13 = .ok (.ldc2_w 9, 3) := by decide +kernel
theorem d1_16 : decode prog_85_method_5_code 16 = .ok (.lxor, 1) := by decide +kernel
theorem d1_17 : decode prog_85_method_5_code 17 = .ok (.land, 1) := by decide +kernel
theorem d1_18 : decode prog_85_method_5_code 18 = .ok (.lastore, 1) := by decide +kernel
theorem d1_19 : decode prog_85_method_5_code 19 = .ok (.return_, 1) := by decide +kernel
theorem pn_0 : plainName "com/example/arvio/arvio/lang/Bits" = true := by first | (simp [plainName, overriddenIn]; done) | decide +kernel
theorem ef_rm1 (m : MethodId) (x0 : Addr) (x1 : Int32) : entryFrame m #[(.ref x0), (.int x1)] 2 = mkF m 0 #[.val (.ref x0), .val (.int x1)] [] := by first | (simp [entryFrame, mkF, argsToLocals, Value.category]; done) | rfl
def Q_rm1 (Z : State) (r0 : Addr) (p1 : Int32) (cl : Cell) (w3 : Int64) (h0 : Heap) (n0 : Nat) (v : Option Value) (h : Heap) (L : List Loc) : Prop := v = none ∧ Fr n0 L ∧ Wr h0 h r0 (p1 / (64 : Int32)).toNatClampNeg (.long (own_nv w3 p1))
set_option maxRecDepth 65536 in
set_option maxHeartbeats 40000000 in
theorem rm1 (l : Launch) (Z : State) (a0 : Array Value) (hw : ∀ d ∈ tables_1, d.before a0 Z = true) (ws : List Jvm.Cond) (r0 : Addr) (p1 : Int32) (cl : Cell) (w3 : Int64) (h0 : Heap) (n0 : Nat) (Z0 : n0 ≤ h0.size) (Ar : Arr Z h0 r0 cl .long) (hin : ¬ (p1 / (64 : Int32) < 0 ∨ cl.slots.size ≤ (p1 / (64 : Int32)).toNatClampNeg)) (hat : cl.slots[(p1 / (64 : Int32)).toNatClampNeg]? = some (.long w3)) (g_r0 : n0 ≤ r0) :
    MetFree l (⟨"com/example/arvio/arvio/lang/Bits", "clear", "([JI)V"⟩ : MethodName) (head1 (Jvm.Cond.code (⟨"com/example/arvio/arvio/lang/Bits", "clear", "([JI)V"⟩ : MethodName) prog_85_method_5_code 2 none :: ws) ({ frames := 0, cells := 0, slots := 0, locals := 0 } : Room)) (fun a U => a = #[(.ref r0), (.int p1)] ∧ Z.Warmed39 U.vm ∧ U.heap = h0) (fun _ _ _ _ _ => True) (fun _ U o U' => ∃ v L, o = .returned v ∧ Q_rm1 Z r0 p1 cl w3 h0 n0 v U'.heap L ∧ FrameEnd U o U' L ({ frames := 0, cells := 0, slots := 0, locals := 0 } : Room).cells ({ frames := 0, cells := 0, slots := 0, locals := 0 } : Room).slots) := by
  refine MetFree.of_bodySF (plainFor_of_name pn_0) hisR ?_
  intro p e s m args below meth c s₁ Bd hml0 hP hK
  obtain ⟨rfl, hZ, hh⟩ := hP
  have hx := Bd.exec
  have hby := Bd.bytes
  have hml : c.maxLocals = 2 := hml0
  have hown : s.vm.findClass "com/example/arvio/arvio/lang/Bits" = some m.cls := findClass_of_methodNamed Bd.named
  have hnm := (name_of_methodNamed Bd.named Bd.method).1
  have X0 : Stand p l e ({ frames := 0, cells := 0, slots := 0, locals := 0 } : Room) s m #[(.ref r0), (.int p1)] below meth c s₁ [] 0 0 := Stand.of_body Bd
  have e0 : s₁.heap = h0 := by rw [← hh, Bd.state]; rfl
  have N0 := Fr.nil n0
  have pre0 : ∀ t, Steps p.tables e below (s₁.setTop (mkF m 0 #[.val (.ref r0), .val (.int p1)] [])) t → Steps p.tables e below (s₁.setTop (entryFrame m #[(.ref r0), (.int p1)] 2)) t := fun t k => castTop (ef_rm1 m r0 p1) k
  have st1 : ∀ target, Steps p.tables e below (s₁.setTop (mkF m 6 #[.val (.ref r0), .val (.int p1)] [(.int (p1 / (64 : Int32))), (.ref r0), (.int (p1 / (64 : Int32))), (.ref r0)])) target → Steps p.tables e below (s₁.setTop (mkF m 0 #[.val (.ref r0), .val (.int p1)] [])) target := by
    intro target kt
    show Steps p.tables e below (s₁.setTop (mkF m 0 #[.val (.ref r0), .val (.int p1)] [])) _
    refine XS.aloadN X0.here hx rfl (hb hby d1_0) rfl rfl ?_
    show Steps p.tables e below (s₁.setTop (mkF m 1 #[.val (.ref r0), .val (.int p1)] [(.ref r0)])) _
    refine XS.iloadN X0.here hx rfl (hb hby d1_1) rfl ?_
    show Steps p.tables e below (s₁.setTop (mkF m 2 #[.val (.ref r0), .val (.int p1)] [(.int p1), (.ref r0)])) _
    refine XS.bipush X0.here hx rfl (hb hby d1_2) ?_
    show Steps p.tables e below (s₁.setTop (mkF m 4 #[.val (.ref r0), .val (.int p1)] [(.int (64 : Int32)), (.int p1), (.ref r0)])) _
    refine XS.idiv X0.here hx rfl (hb hby d1_4) rfl (by decide) ?_
    show Steps p.tables e below (s₁.setTop (mkF m 5 #[.val (.ref r0), .val (.int p1)] [(.int (p1 / (64 : Int32))), (.ref r0)])) _
    jvm_step X0.here [X0.here.top, hx, (hb hby d1_5), Value.category]
    exact kt
  have st2 : ∀ target, Steps p.tables e below (s₁.setTop (mkF m 7 #[.val (.ref r0), .val (.int p1)] [(.long w3), (.int (p1 / (64 : Int32))), (.ref r0)])) target → Steps p.tables e below (s₁.setTop (mkF m 6 #[.val (.ref r0), .val (.int p1)] [(.int (p1 / (64 : Int32))), (.ref r0), (.int (p1 / (64 : Int32))), (.ref r0)])) target := fun target kt => X0.laload hx (j := (p1 / (64 : Int32))) (v := (.long w3)) (by rw [e0]; exact Ar.1) (State.isArrayOf_alike hZ.alike Ar.2.1) Ar.2.2 hin hat (g := (mkF m 6 #[.val (.ref r0), .val (.int p1)] [(.int (p1 / (64 : Int32))), (.ref r0), (.int (p1 / (64 : Int32))), (.ref r0)])) rfl rfl (hb hby d1_6) _ kt
  have st3 : ∀ target, Steps p.tables e below (s₁.setTop (mkF m 18 #[.val (.ref r0), .val (.int p1)] [(.long (w3 &&& (((1 : Int64) <<< ((p1 % (64 : Int32)) &&& 0x3f).toInt64) ^^^ (-1 : Int64)))), (.int (p1 / (64 : Int32))), (.ref r0)])) target → Steps p.tables e below (s₁.setTop (mkF m 7 #[.val (.ref r0), .val (.int p1)] [(.long w3), (.int (p1 / (64 : Int32))), (.ref r0)])) target := by
    intro target kt
    show Steps p.tables e below (s₁.setTop (mkF m 7 #[.val (.ref r0), .val (.int p1)] [(.long w3), (.int (p1 / (64 : Int32))), (.ref r0)])) _
    refine XS.lconst X0.here hx rfl (hb hby d1_7) ?_
    show Steps p.tables e below (s₁.setTop (mkF m 8 #[.val (.ref r0), .val (.int p1)] [(.long (1 : Int64)), (.long w3), (.int (p1 / (64 : Int32))), (.ref r0)])) _
    refine XS.iloadN X0.here hx rfl (hb hby d1_8) rfl ?_
    show Steps p.tables e below (s₁.setTop (mkF m 9 #[.val (.ref r0), .val (.int p1)] [(.int p1), (.long (1 : Int64)), (.long w3), (.int (p1 / (64 : Int32))), (.ref r0)])) _
    refine XS.bipush X0.here hx rfl (hb hby d1_9) ?_
    show Steps p.tables e below (s₁.setTop (mkF m 11 #[.val (.ref r0), .val (.int p1)] [(.int (64 : Int32)), (.int p1), (.long (1 : Int64)), (.long w3), (.int (p1 / (64 : Int32))), (.ref r0)])) _
    refine iremM (g := (mkF m 11 #[.val (.ref r0), .val (.int p1)] [(.int (64 : Int32)), (.int p1), (.long (1 : Int64)), (.long w3), (.int (p1 / (64 : Int32))), (.ref r0)])) X0 hx rfl (hb hby d1_11) rfl (by decide) ?_
    show Steps p.tables e below (s₁.setTop (mkF m 12 #[.val (.ref r0), .val (.int p1)] [(.int (p1 % (64 : Int32))), (.long (1 : Int64)), (.long w3), (.int (p1 / (64 : Int32))), (.ref r0)])) _
    refine XS.lshl X0.here hx rfl (hb hby d1_12) rfl ?_
    show Steps p.tables e below (s₁.setTop (mkF m 13 #[.val (.ref r0), .val (.int p1)] [(.long ((1 : Int64) <<< ((p1 % (64 : Int32)) &&& 0x3f).toInt64)), (.long w3), (.int (p1 / (64 : Int32))), (.ref r0)])) _
    refine X0.ldc2Long hx hown (mvT hZ (hw _ (List.mem_of_getElem? (i := 6) rfl))) (g := (mkF m 13 #[.val (.ref r0), .val (.int p1)] [(.long ((1 : Int64) <<< ((p1 % (64 : Int32)) &&& 0x3f).toInt64)), (.long w3), (.int (p1 / (64 : Int32))), (.ref r0)])) rfl (hb hby d1_13) _ ?_
    show Steps p.tables e below (s₁.setTop (mkF m 16 #[.val (.ref r0), .val (.int p1)] [(.long (-1 : Int64)), (.long ((1 : Int64) <<< ((p1 % (64 : Int32)) &&& 0x3f).toInt64)), (.long w3), (.int (p1 / (64 : Int32))), (.ref r0)])) _
    refine XS.lxor X0.here hx rfl (hb hby d1_16) rfl ?_
    show Steps p.tables e below (s₁.setTop (mkF m 17 #[.val (.ref r0), .val (.int p1)] [(.long (((1 : Int64) <<< ((p1 % (64 : Int32)) &&& 0x3f).toInt64) ^^^ (-1 : Int64))), (.long w3), (.int (p1 / (64 : Int32))), (.ref r0)])) _
    refine XS.land X0.here hx rfl (hb hby d1_17) rfl ?_
    exact kt
  obtain ⟨T4, h4, X4, e4, W4, st4⟩ := stJ X0 hx hZ e0 Ar (j := (p1 / (64 : Int32))) hin (g := (mkF m 18 #[.val (.ref r0), .val (.int p1)] [(.long (w3 &&& (((1 : Int64) <<< ((p1 % (64 : Int32)) &&& 0x3f).toInt64) ^^^ (-1 : Int64)))), (.int (p1 / (64 : Int32))), (.ref r0)])) rfl rfl (hb hby d1_18)
  have Z_4 : n0 ≤ h4.size := Nat.le_trans Z0 (Keep.of_wr W4).1
  have N4 := Fr.snoc X4 N0 g_r0
  obtain ⟨fs, hr, hrun, hended, hW, hsame⟩ := X4.leave (v := none) (fun _ => rfl)
  refine ⟨_, _, pre0 _ (st1 _ (st2 _ (st3 _ (st4 _ ?_)))), hrun, hended, _, _, rfl, ?_, ⟨_, rfl⟩, hW, hsame.mono (by decide) (by decide)⟩
  · show Steps p.tables e below (T4.setTop (mkF m 19 #[.val (.ref r0), .val (.int p1)] [])) _
    exact X4.returnOut hx Bd.returns (hb hby d1_19) hr
  · show Q_rm1 Z r0 p1 cl w3 h0 n0 _ T4.heap _
    rw [e4]
    exact ⟨rfl, N4, W4⟩
def own_word (q0 q1 : Int64) (p2 : Int32) (q3 : Int64) : Int32 := (if p2 = (0 : Int32) then (if q1 = q0 then (1 : Int32) else (0 : Int32)) else (if (q1 &&& q3) = (0 : Int64) then (if (q1 ||| q3) = (q0 ||| q3) then (1 : Int32) else (0 : Int32)) else (0 : Int32)))
theorem d2_0 : decode method_3_code 0 = .ok (.iload 4, 2) := by decide +kernel
theorem d2_2 : decode method_3_code 2 = .ok (.ifCond .ne 15, 3) := by decide +kernel
theorem d2_5 : decode method_3_code 5 = .ok (.lload_n 2, 1) := by decide +kernel
theorem d2_6 : decode method_3_code 6 = .ok (.lload_n 0, 1) := by decide +kernel
theorem d2_7 : decode method_3_code 7 = .ok (.lcmp, 1) := by decide +kernel
theorem d2_8 : decode method_3_code 8 = .ok (.ifCond .ne 7, 3) := by decide +kernel
theorem d2_11 : decode method_3_code 11 = .ok (.iconst 1, 1) := by decide +kernel
theorem d2_12 : decode method_3_code 12 = .ok (.goto 4, 3) := by decide +kernel
theorem d2_15 : decode method_3_code 15 = .ok (.iconst 0, 1) := by decide +kernel
theorem d2_16 : decode method_3_code 16 = .ok (.ireturn, 1) := by decide +kernel
theorem d2_17 : decode method_3_code 17 = .ok (.lload_n 2, 1) := by decide +kernel
theorem d2_18 : decode method_3_code 18 = .ok (.lload 5, 2) := by decide +kernel
theorem d2_20 : decode method_3_code 20 = .ok (.land, 1) := by decide +kernel
theorem d2_21 : decode method_3_code 21 = .ok (.lconst 0, 1) := by decide +kernel
theorem d2_22 : decode method_3_code 22 = .ok (.lcmp, 1) := by decide +kernel
theorem d2_23 : decode method_3_code 23 = .ok (.ifCond .ne 19, 3) := by decide +kernel
theorem d2_26 : decode method_3_code 26 = .ok (.lload_n 2, 1) := by decide +kernel
theorem d2_27 : decode method_3_code 27 = .ok (.lload 5, 2) := by decide +kernel
theorem d2_29 : decode method_3_code 29 = .ok (.lor, 1) := by decide +kernel
theorem d2_30 : decode method_3_code 30 = .ok (.lload_n 0, 1) := by decide +kernel
theorem d2_31 : decode method_3_code 31 = .ok (.lload 5, 2) := by decide +kernel
theorem d2_33 : decode method_3_code 33 = .ok (.lor, 1) := by decide +kernel
theorem d2_34 : decode method_3_code 34 = .ok (.lcmp, 1) := by decide +kernel
theorem d2_35 : decode method_3_code 35 = .ok (.ifCond .ne 7, 3) := by decide +kernel
theorem d2_38 : decode method_3_code 38 = .ok (.iconst 1, 1) := by decide +kernel
theorem d2_39 : decode method_3_code 39 = .ok (.goto 4, 3) := by decide +kernel
theorem d2_42 : decode method_3_code 42 = .ok (.iconst 0, 1) := by decide +kernel
theorem d2_43 : decode method_3_code 43 = .ok (.ireturn, 1) := by decide +kernel
theorem pn_1 : plainName "com/example/arvio/arvio/lang/BitsClearPinLaw" = true := by first | (simp [plainName, overriddenIn]; done) | decide +kernel
theorem ef_rm2 (m : MethodId) (x0 : Int64) (x1 : Int64) (x2 : Int32) (x3 : Int64) : entryFrame m #[(.long x0), (.long x1), (.int x2), (.long x3)] 7 = mkF m 0 #[.val (.long x0), .second, .val (.long x1), .second, .val (.int x2), .val (.long x3), .second] [] := by first | (simp [entryFrame, mkF, argsToLocals, Value.category]; done) | rfl
def Q_rm2 (Z : State) (q0 : Int64) (q1 : Int64) (p2 : Int32) (q3 : Int64) (h0 : Heap) (n0 : Nat) (v : Option Value) (h : Heap) (L : List Loc) : Prop := v = some (.int (own_word q0 q1 p2 q3)) ∧ Fr n0 L ∧ h = h0
set_option maxRecDepth 65536 in
set_option maxHeartbeats 40000000 in
theorem rm2 (l : Launch) (Z : State) (a0 : Array Value) (hw : ∀ d ∈ tables_1, d.before a0 Z = true) (ws : List Jvm.Cond) (q0 : Int64) (q1 : Int64) (p2 : Int32) (q3 : Int64) (h0 : Heap) (n0 : Nat) (Z0 : n0 ≤ h0.size) :
    MetFree l (⟨"com/example/arvio/arvio/lang/BitsClearPinLaw", "word", "(JJZJ)Z"⟩ : MethodName) (head1 (Jvm.Cond.code (⟨"com/example/arvio/arvio/lang/BitsClearPinLaw", "word", "(JJZJ)Z"⟩ : MethodName) method_3_code 7 (some .boolean) :: ws) ({ frames := 0, cells := 0, slots := 0, locals := 0 } : Room)) (fun a U => a = #[(.long q0), (.long q1), (.int p2), (.long q3)] ∧ Z.Warmed39 U.vm ∧ U.heap = h0) (fun _ _ _ _ _ => True) (fun _ U o U' => ∃ v L, o = .returned v ∧ Q_rm2 Z q0 q1 p2 q3 h0 n0 v U'.heap L ∧ FrameEnd U o U' L ({ frames := 0, cells := 0, slots := 0, locals := 0 } : Room).cells ({ frames := 0, cells := 0, slots := 0, locals := 0 } : Room).slots) := by
  refine MetFree.of_bodySF (plainFor_of_name pn_1) hisR ?_
  intro p e s m args below meth c s₁ Bd hml0 hP hK
  obtain ⟨rfl, hZ, hh⟩ := hP
  have hx := Bd.exec
  have hby := Bd.bytes
  have hml : c.maxLocals = 7 := hml0
  have hown : s.vm.findClass "com/example/arvio/arvio/lang/BitsClearPinLaw" = some m.cls := findClass_of_methodNamed Bd.named
  have hnm := (name_of_methodNamed Bd.named Bd.method).1
  have X0 : Stand p l e ({ frames := 0, cells := 0, slots := 0, locals := 0 } : Room) s m #[(.long q0), (.long q1), (.int p2), (.long q3)] below meth c s₁ [] 0 0 := Stand.of_body Bd
  have e0 : s₁.heap = h0 := by rw [← hh, Bd.state]; rfl
  have N0 := Fr.nil n0
  have pre0 : ∀ t, Steps p.tables e below (s₁.setTop (mkF m 0 #[.val (.long q0), .second, .val (.long q1), .second, .val (.int p2), .val (.long q3), .second] [])) t → Steps p.tables e below (s₁.setTop (entryFrame m #[(.long q0), (.long q1), (.int p2), (.long q3)] 7)) t := fun t k => castTop (ef_rm2 m q0 q1 p2 q3) k
  obtain ⟨fs, hr, hrun, hended, hW, hsame⟩ := X0.leave (v := some (.int (if p2 = (0 : Int32) then (if q1 = q0 then (1 : Int32) else (0 : Int32)) else (if (q1 &&& q3) = (0 : Int64) then (if (q1 ||| q3) = (q0 ||| q3) then (1 : Int32) else (0 : Int32)) else (0 : Int32))))) (fun h => by rw [Bd.returns] at h; cases h)
  refine ⟨_, _, pre0 _ ?_, hrun, hended, _, _, rfl, ?_, ⟨_, rfl⟩, hW, hsame.mono (by decide) (by decide)⟩
  · show Steps p.tables e below (s₁.setTop (mkF m 0 #[.val (.long q0), .second, .val (.long q1), .second, .val (.int p2), .val (.long q3), .second] [])) _
    refine XS.iload X0.here hx rfl (hb hby d2_0) rfl ?_
    by_cases hc2 : p2 = (0 : Int32)
    · rw [if_pos hc2] at hr
      show Steps p.tables e below (s₁.setTop (mkF m 2 #[.val (.long q0), .second, .val (.long q1), .second, .val (.int p2), .val (.long q3), .second] [(.int p2)])) _
      refine XS.ifNo X0.here hx rfl (hb hby d2_2) rfl ((if0 _ _).trans (teq hc2).2) ?_
      show Steps p.tables e below (s₁.setTop (mkF m 5 #[.val (.long q0), .second, .val (.long q1), .second, .val (.int p2), .val (.long q3), .second] [])) _
      refine XS.lloadN X0.here hx rfl (hb hby d2_5) rfl ?_
      show Steps p.tables e below (s₁.setTop (mkF m 6 #[.val (.long q0), .second, .val (.long q1), .second, .val (.int p2), .val (.long q3), .second] [(.long q1)])) _
      refine XS.lloadN X0.here hx rfl (hb hby d2_6) rfl ?_
      show Steps p.tables e below (s₁.setTop (mkF m 7 #[.val (.long q0), .second, .val (.long q1), .second, .val (.int p2), .val (.long q3), .second] [(.long q0), (.long q1)])) _
      refine XS.lcmp X0.here hx rfl (hb hby d2_7) rfl ?_
      by_cases hc8 : q1 = q0
      · rw [if_pos hc8] at hr
        show Steps p.tables e below (s₁.setTop (mkF m 8 #[.val (.long q0), .second, .val (.long q1), .second, .val (.int p2), .val (.long q3), .second] [(.int (lcmpW q1 q0))])) _
        refine XS.ifNo X0.here hx rfl (hb hby d2_8) rfl ((if0 _ _).trans (teq ((own_lc_eq _ _).mpr hc8)).2) ?_
        show Steps p.tables e below (s₁.setTop (mkF m 11 #[.val (.long q0), .second, .val (.long q1), .second, .val (.int p2), .val (.long q3), .second] [])) _
        refine XS.iconst X0.here hx rfl (hb hby d2_11) ?_
        show Steps p.tables e below (s₁.setTop (mkF m 12 #[.val (.long q0), .second, .val (.long q1), .second, .val (.int p2), .val (.long q3), .second] [(.int (1 : Int32))])) _
        refine XS.goto X0.here hx rfl (pc0 := 12) (pc' := 16) rfl (hb hby d2_12) (by decide) (by decide) ?_
        show Steps p.tables e below (s₁.setTop (mkF m 16 #[.val (.long q0), .second, .val (.long q1), .second, .val (.int p2), .val (.long q3), .second] [(.int (1 : Int32))])) _
        exact retN X0 hx (t := .boolean) Bd.returns (by simp) (hb hby d2_16) hr
      · rw [if_neg hc8] at hr
        show Steps p.tables e below (s₁.setTop (mkF m 8 #[.val (.long q0), .second, .val (.long q1), .second, .val (.int p2), .val (.long q3), .second] [(.int (lcmpW q1 q0))])) _
        refine XS.ifYes X0.here hx rfl (pc0 := 8) (pc' := 15) rfl (hb hby d2_8) rfl ((if0 _ _).trans (feq (mt (own_lc_eq _ _).mp hc8)).2) (by decide) (by decide) ?_
        show Steps p.tables e below (s₁.setTop (mkF m 15 #[.val (.long q0), .second, .val (.long q1), .second, .val (.int p2), .val (.long q3), .second] [])) _
        refine XS.iconst X0.here hx rfl (hb hby d2_15) ?_
        show Steps p.tables e below (s₁.setTop (mkF m 16 #[.val (.long q0), .second, .val (.long q1), .second, .val (.int p2), .val (.long q3), .second] [(.int (0 : Int32))])) _
        exact retN X0 hx (t := .boolean) Bd.returns (by simp) (hb hby d2_16) hr
    · rw [if_neg hc2] at hr
      show Steps p.tables e below (s₁.setTop (mkF m 2 #[.val (.long q0), .second, .val (.long q1), .second, .val (.int p2), .val (.long q3), .second] [(.int p2)])) _
      refine XS.ifYes X0.here hx rfl (pc0 := 2) (pc' := 17) rfl (hb hby d2_2) rfl ((if0 _ _).trans (feq hc2).2) (by decide) (by decide) ?_
      show Steps p.tables e below (s₁.setTop (mkF m 17 #[.val (.long q0), .second, .val (.long q1), .second, .val (.int p2), .val (.long q3), .second] [])) _
      refine XS.lloadN X0.here hx rfl (hb hby d2_17) rfl ?_
      show Steps p.tables e below (s₁.setTop (mkF m 18 #[.val (.long q0), .second, .val (.long q1), .second, .val (.int p2), .val (.long q3), .second] [(.long q1)])) _
      refine XS.lload X0.here hx rfl (hb hby d2_18) rfl ?_
      show Steps p.tables e below (s₁.setTop (mkF m 20 #[.val (.long q0), .second, .val (.long q1), .second, .val (.int p2), .val (.long q3), .second] [(.long q3), (.long q1)])) _
      refine XS.land X0.here hx rfl (hb hby d2_20) rfl ?_
      show Steps p.tables e below (s₁.setTop (mkF m 21 #[.val (.long q0), .second, .val (.long q1), .second, .val (.int p2), .val (.long q3), .second] [(.long (q1 &&& q3))])) _
      refine XS.lconst X0.here hx rfl (hb hby d2_21) ?_
      show Steps p.tables e below (s₁.setTop (mkF m 22 #[.val (.long q0), .second, .val (.long q1), .second, .val (.int p2), .val (.long q3), .second] [(.long (0 : Int64)), (.long (q1 &&& q3))])) _
      refine XS.lcmp X0.here hx rfl (hb hby d2_22) rfl ?_
      by_cases hc23 : (q1 &&& q3) = (0 : Int64)
      · rw [if_pos hc23] at hr
        show Steps p.tables e below (s₁.setTop (mkF m 23 #[.val (.long q0), .second, .val (.long q1), .second, .val (.int p2), .val (.long q3), .second] [(.int (lcmpW (q1 &&& q3) (0 : Int64)))])) _
        refine XS.ifNo X0.here hx rfl (hb hby d2_23) rfl ((if0 _ _).trans (teq ((own_lc_eq _ _).mpr hc23)).2) ?_
        show Steps p.tables e below (s₁.setTop (mkF m 26 #[.val (.long q0), .second, .val (.long q1), .second, .val (.int p2), .val (.long q3), .second] [])) _
        refine XS.lloadN X0.here hx rfl (hb hby d2_26) rfl ?_
        show Steps p.tables e below (s₁.setTop (mkF m 27 #[.val (.long q0), .second, .val (.long q1), .second, .val (.int p2), .val (.long q3), .second] [(.long q1)])) _
        refine XS.lload X0.here hx rfl (hb hby d2_27) rfl ?_
        show Steps p.tables e below (s₁.setTop (mkF m 29 #[.val (.long q0), .second, .val (.long q1), .second, .val (.int p2), .val (.long q3), .second] [(.long q3), (.long q1)])) _
        refine XS.lor X0.here hx rfl (hb hby d2_29) rfl ?_
        show Steps p.tables e below (s₁.setTop (mkF m 30 #[.val (.long q0), .second, .val (.long q1), .second, .val (.int p2), .val (.long q3), .second] [(.long (q1 ||| q3))])) _
        refine XS.lloadN X0.here hx rfl (hb hby d2_30) rfl ?_
        show Steps p.tables e below (s₁.setTop (mkF m 31 #[.val (.long q0), .second, .val (.long q1), .second, .val (.int p2), .val (.long q3), .second] [(.long q0), (.long (q1 ||| q3))])) _
        refine XS.lload X0.here hx rfl (hb hby d2_31) rfl ?_
        show Steps p.tables e below (s₁.setTop (mkF m 33 #[.val (.long q0), .second, .val (.long q1), .second, .val (.int p2), .val (.long q3), .second] [(.long q3), (.long q0), (.long (q1 ||| q3))])) _
        refine XS.lor X0.here hx rfl (hb hby d2_33) rfl ?_
        show Steps p.tables e below (s₁.setTop (mkF m 34 #[.val (.long q0), .second, .val (.long q1), .second, .val (.int p2), .val (.long q3), .second] [(.long (q0 ||| q3)), (.long (q1 ||| q3))])) _
        refine XS.lcmp X0.here hx rfl (hb hby d2_34) rfl ?_
        by_cases hc35 : (q1 ||| q3) = (q0 ||| q3)
        · rw [if_pos hc35] at hr
          show Steps p.tables e below (s₁.setTop (mkF m 35 #[.val (.long q0), .second, .val (.long q1), .second, .val (.int p2), .val (.long q3), .second] [(.int (lcmpW (q1 ||| q3) (q0 ||| q3)))])) _
          refine XS.ifNo X0.here hx rfl (hb hby d2_35) rfl ((if0 _ _).trans (teq ((own_lc_eq _ _).mpr hc35)).2) ?_
          show Steps p.tables e below (s₁.setTop (mkF m 38 #[.val (.long q0), .second, .val (.long q1), .second, .val (.int p2), .val (.long q3), .second] [])) _
          refine XS.iconst X0.here hx rfl (hb hby d2_38) ?_
          show Steps p.tables e below (s₁.setTop (mkF m 39 #[.val (.long q0), .second, .val (.long q1), .second, .val (.int p2), .val (.long q3), .second] [(.int (1 : Int32))])) _
          refine XS.goto X0.here hx rfl (pc0 := 39) (pc' := 43) rfl (hb hby d2_39) (by decide) (by decide) ?_
          show Steps p.tables e below (s₁.setTop (mkF m 43 #[.val (.long q0), .second, .val (.long q1), .second, .val (.int p2), .val (.long q3), .second] [(.int (1 : Int32))])) _
          exact retN X0 hx (t := .boolean) Bd.returns (by simp) (hb hby d2_43) hr
        · rw [if_neg hc35] at hr
          show Steps p.tables e below (s₁.setTop (mkF m 35 #[.val (.long q0), .second, .val (.long q1), .second, .val (.int p2), .val (.long q3), .second] [(.int (lcmpW (q1 ||| q3) (q0 ||| q3)))])) _
          refine XS.ifYes X0.here hx rfl (pc0 := 35) (pc' := 42) rfl (hb hby d2_35) rfl ((if0 _ _).trans (feq (mt (own_lc_eq _ _).mp hc35)).2) (by decide) (by decide) ?_
          show Steps p.tables e below (s₁.setTop (mkF m 42 #[.val (.long q0), .second, .val (.long q1), .second, .val (.int p2), .val (.long q3), .second] [])) _
          refine XS.iconst X0.here hx rfl (hb hby d2_42) ?_
          show Steps p.tables e below (s₁.setTop (mkF m 43 #[.val (.long q0), .second, .val (.long q1), .second, .val (.int p2), .val (.long q3), .second] [(.int (0 : Int32))])) _
          exact retN X0 hx (t := .boolean) Bd.returns (by simp) (hb hby d2_43) hr
      · rw [if_neg hc23] at hr
        show Steps p.tables e below (s₁.setTop (mkF m 23 #[.val (.long q0), .second, .val (.long q1), .second, .val (.int p2), .val (.long q3), .second] [(.int (lcmpW (q1 &&& q3) (0 : Int64)))])) _
        refine XS.ifYes X0.here hx rfl (pc0 := 23) (pc' := 42) rfl (hb hby d2_23) rfl ((if0 _ _).trans (feq (mt (own_lc_eq _ _).mp hc23)).2) (by decide) (by decide) ?_
        show Steps p.tables e below (s₁.setTop (mkF m 42 #[.val (.long q0), .second, .val (.long q1), .second, .val (.int p2), .val (.long q3), .second] [])) _
        refine XS.iconst X0.here hx rfl (hb hby d2_42) ?_
        show Steps p.tables e below (s₁.setTop (mkF m 43 #[.val (.long q0), .second, .val (.long q1), .second, .val (.int p2), .val (.long q3), .second] [(.int (0 : Int32))])) _
        exact retN X0 hx (t := .boolean) Bd.returns (by simp) (hb hby d2_43) hr
  · show Q_rm2 Z q0 q1 p2 q3 h0 n0 _ s₁.heap _
    rw [e0]
    exact ⟨rfl, N0, rfl⟩
theorem own_word0 (b m : Int64) : own_word b b (0 : Int32) m = 1 := by
  unfold own_word; rw [if_pos rfl, if_pos rfl]
theorem own_word1 (b m : Int64) : own_word b (b &&& (m ^^^ (-1 : Int64))) (1 : Int32) m = 1 := by
  unfold own_word; rw [if_neg (by decide), if_pos (own_b1 b m), if_pos (own_b2 b m)]
/-- the i-th word behind the call -/
def own_aft (w nv : Int64) (i k : Int32) : Int64 := if i = k then nv else w
theorem own_ok {bit : Int32} (h : 0 ≤ bit.toInt ∧ bit.toInt < 192) (w W : Int64) (k : Int32) (hW : own_idx bit = k → W = w) :
    own_word w (own_aft w (own_nv W bit) (own_idx bit) k) (if own_idx bit = k then (1 : Int32) else (0 : Int32)) (((-9223372036854775808 : Int64).toUInt64 >>> (((63 : Int32) - (bit - ((64 : Int32) * own_idx bit))) &&& 0x3f).toInt64.toUInt64).toInt64) = 1 := by
  rw [own_sub h, own_mask _ (own_off h)]
  unfold own_aft
  by_cases q : own_idx bit = k
  · rw [if_pos q, if_pos q, hW q]
    exact own_word1 w _
  · rw [if_neg q, if_neg q]
    exact own_word0 w _
theorem own_set {bit : Int32} (h : 0 ≤ bit.toInt ∧ bit.toInt < 192) (w0 w1 w2 nv : Int64) : [Value.long w0, Value.long w1, Value.long w2].set (own_idx bit).toNatClampNeg (.long nv) = [Value.long (own_aft w0 nv (own_idx bit) 0), Value.long (own_aft w1 nv (own_idx bit) 1), Value.long (own_aft w2 nv (own_idx bit) 2)] := by
  rcases own_cases h with ⟨e, r⟩ | ⟨e, r⟩ | ⟨e, r⟩ <;> rw [e] <;> rfl
theorem own_lt3 {bit : Int32} (h : 0 ≤ bit.toInt ∧ bit.toInt < 192) : (own_idx bit).toNatClampNeg < 3 := by
  rcases own_cases h with ⟨e, r⟩ | ⟨e, r⟩ | ⟨e, r⟩ <;> rw [e] <;> decide
theorem ef_rm0 (m : MethodId) (x0 : Int64) (x1 : Int64) (x2 : Int64) (x3 : Int32) : entryFrame m #[(.long x0), (.long x1), (.long x2), (.int x3)] maxLocals = mkF m 0 #[.val (.long x0), .second, .val (.long x1), .second, .val (.long x2), .second, .val (.int x3), .unset, .unset, .unset, .unset, .unset, .unset] [] := by first | (simp [entryFrame, mkF, argsToLocals, Value.category, maxLocals]; done) | rfl
def Q_rm0 (Z : State) (q0 : Int64) (q1 : Int64) (q2 : Int64) (p3 : Int32) (h0 : Heap) (n0 : Nat) (v : Option Value) (h : Heap) (L : List Loc) : Prop := v = some (.int 1) ∧ Fr n0 L
set_option maxRecDepth 65536 in
set_option maxHeartbeats 40000000 in
theorem rm0 (l : Launch) (Z : State) (a0 : Array Value) (hw : ∀ d ∈ tables_1, d.before a0 Z = true) (ws : List Jvm.Cond) (q0 : Int64) (q1 : Int64) (q2 : Int64) (p3 : Int32) (h0 : Heap) (n0 : Nat) (Z0 : n0 ≤ h0.size) :
    MetFree l x (head1 (Jvm.Cond.code x code maxLocals ret :: ws) room_1) (fun a U => a = #[(.long q0), (.long q1), (.long q2), (.int p3)] ∧ Z.Warmed39 U.vm ∧ U.heap = h0) (fun _ _ _ _ _ => True) (fun _ U o U' => ∃ v L, o = .returned v ∧ Q_rm0 Z q0 q1 q2 p3 h0 n0 v U'.heap L ∧ FrameEnd U o U' L room_1.cells room_1.slots) := by
  refine MetFree.of_bodySF (plainFor_of_name pn_1) hisR ?_
  intro p e s m args below meth c s₁ Bd hml0 hP hK
  obtain ⟨rfl, hZ, hh⟩ := hP
  have hx := Bd.exec
  have hby := Bd.bytes
  have hml : c.maxLocals = 13 := hml0
  have hown : s.vm.findClass "com/example/arvio/arvio/lang/BitsClearPinLaw" = some m.cls := findClass_of_methodNamed Bd.named
  have hnm := (name_of_methodNamed Bd.named Bd.method).1
  have X0 : Stand p l e room_1 s m #[(.long q0), (.long q1), (.long q2), (.int p3)] below meth c s₁ [] 0 0 := Stand.of_body Bd
  have e0 : s₁.heap = h0 := by rw [← hh, Bd.state]; rfl
  have N0 := Fr.nil n0
  have pre0 : ∀ t, Steps p.tables e below (s₁.setTop (mkF m 0 #[.val (.long q0), .second, .val (.long q1), .second, .val (.long q2), .second, .val (.int p3), .unset, .unset, .unset, .unset, .unset, .unset] [])) t → Steps p.tables e below (s₁.setTop (entryFrame m #[(.long q0), (.long q1), (.long q2), (.int p3)] maxLocals)) t := fun t k => castTop (ef_rm0 m q0 q1 q2 p3) k
  have st1 : ∀ target, Steps p.tables e below (s₁.setTop (mkF m 11 #[.val (.long q0), .second, .val (.long q1), .second, .val (.long q2), .second, .val (.int p3), .val (.int ((p3 &&& (2147483647 : Int32)) % (192 : Int32))), .unset, .unset, .unset, .unset, .unset] [])) target → Steps p.tables e below (s₁.setTop (mkF m 0 #[.val (.long q0), .second, .val (.long q1), .second, .val (.long q2), .second, .val (.int p3), .unset, .unset, .unset, .unset, .unset, .unset] [])) target := by
    intro target kt
    show Steps p.tables e below (s₁.setTop (mkF m 0 #[.val (.long q0), .second, .val (.long q1), .second, .val (.long q2), .second, .val (.int p3), .unset, .unset, .unset, .unset, .unset, .unset] [])) _
    refine XS.iload X0.here hx rfl (hb hby at_0) rfl ?_
    show Steps p.tables e below (s₁.setTop (mkF m 2 #[.val (.long q0), .second, .val (.long q1), .second, .val (.long q2), .second, .val (.int p3), .unset, .unset, .unset, .unset, .unset, .unset] [(.int p3)])) _
    refine X0.ldcInt hx hown (mvT hZ (hw _ (List.mem_of_getElem? (i := 0) rfl))) (g := (mkF m 2 #[.val (.long q0), .second, .val (.long q1), .second, .val (.long q2), .second, .val (.int p3), .unset, .unset, .unset, .unset, .unset, .unset] [(.int p3)])) rfl (hb hby at_2) _ ?_
    show Steps p.tables e below (s₁.setTop (mkF m 4 #[.val (.long q0), .second, .val (.long q1), .second, .val (.long q2), .second, .val (.int p3), .unset, .unset, .unset, .unset, .unset, .unset] [(.int (2147483647 : Int32)), (.int p3)])) _
    refine XS.iand X0.here hx rfl (hb hby at_4) rfl ?_
    show Steps p.tables e below (s₁.setTop (mkF m 5 #[.val (.long q0), .second, .val (.long q1), .second, .val (.long q2), .second, .val (.int p3), .unset, .unset, .unset, .unset, .unset, .unset] [(.int (p3 &&& (2147483647 : Int32)))])) _
    refine XS.sipush X0.here hx rfl (hb hby at_5) ?_
    show Steps p.tables e below (s₁.setTop (mkF m 8 #[.val (.long q0), .second, .val (.long q1), .second, .val (.long q2), .second, .val (.int p3), .unset, .unset, .unset, .unset, .unset, .unset] [(.int (192 : Int32)), (.int (p3 &&& (2147483647 : Int32)))])) _
    refine iremM (g := (mkF m 8 #[.val (.long q0), .second, .val (.long q1), .second, .val (.long q2), .second, .val (.int p3), .unset, .unset, .unset, .unset, .unset, .unset] [(.int (192 : Int32)), (.int (p3 &&& (2147483647 : Int32)))])) X0 hx rfl (hb hby at_8) rfl (by decide) ?_
    show Steps p.tables e below (s₁.setTop (mkF m 9 #[.val (.long q0), .second, .val (.long q1), .second, .val (.long q2), .second, .val (.int p3), .unset, .unset, .unset, .unset, .unset, .unset] [(.int ((p3 &&& (2147483647 : Int32)) % (192 : Int32)))])) _
    refine XS.istore X0.here hx rfl (hb hby at_9) rfl (l' := #[.val (.long q0), .second, .val (.long q1), .second, .val (.long q2), .second, .val (.int p3), .val (.int ((p3 &&& (2147483647 : Int32)) % (192 : Int32))), .unset, .unset, .unset, .unset, .unset]) rfl ?_
    exact kt
  obtain ⟨bit, hbit⟩ : ∃ z : Int32, z = ((p3 &&& (2147483647 : Int32)) % (192 : Int32)) := ⟨_, rfl⟩
  rw [← hbit] at st1
  have hrng : 0 ≤ bit.toInt ∧ bit.toInt < 192 := hbit ▸ own_rng p3
  have st2 : ∀ target, Steps p.tables e below (s₁.setTop (mkF m 12 #[.val (.long q0), .second, .val (.long q1), .second, .val (.long q2), .second, .val (.int p3), .val (.int bit), .unset, .unset, .unset, .unset, .unset] [(.int (3 : Int32))])) target → Steps p.tables e below (s₁.setTop (mkF m 11 #[.val (.long q0), .second, .val (.long q1), .second, .val (.long q2), .second, .val (.int p3), .val (.int bit), .unset, .unset, .unset, .unset, .unset] [])) target := by
    intro target kt
    show Steps p.tables e below (s₁.setTop (mkF m 11 #[.val (.long q0), .second, .val (.long q1), .second, .val (.long q2), .second, .val (.int p3), .val (.int bit), .unset, .unset, .unset, .unset, .unset] [])) _
    refine XS.iconst X0.here hx rfl (hb hby at_11) ?_
    exact kt
  obtain ⟨T3, h3, k3, X3, e3, E3, A3, st3⟩ := newP X0 hx hZ (hw _ (List.mem_of_getElem? (i := 1) rfl)) e0 (g := (mkF m 12 #[.val (.long q0), .second, .val (.long q1), .second, .val (.long q2), .second, .val (.int p3), .val (.int bit), .unset, .unset, .unset, .unset, .unset] [(.int (3 : Int32))])) rfl (hb hby at_12) rfl (by decide) (cap := 3) (by decide) (by decide) (by decide) (by decide)
  obtain ⟨b, g3⟩ : ∃ z, z = h0.size := ⟨_, rfl⟩
  rw [← g3] at A3 st3
  have g_b : n0 ≤ b := Nat.le_trans Z0 (Nat.le_of_eq g3.symm)
  have Z_3 : n0 ≤ h3.size := Nat.le_trans Z0 E3.1
  have V_b : Arv Z h3 b k3 .long (3 : Int32) [(.long (0 : Int64)), (.long (0 : Int64)), (.long (0 : Int64))] (.long (0 : Int64)) := (Arv.new A3 (by decide)).pad (pad_rep [] (.long (0 : Int64)) 3)
  have st4 : ∀ target, Steps p.tables e below (T3.setTop (mkF m 17 #[.val (.long q0), .second, .val (.long q1), .second, .val (.long q2), .second, .val (.int p3), .val (.int bit), .unset, .unset, .unset, .unset, .unset] [(.long q0), (.int (0 : Int32)), (.ref b), (.ref b)])) target → Steps p.tables e below (T3.setTop (mkF m 14 #[.val (.long q0), .second, .val (.long q1), .second, .val (.long q2), .second, .val (.int p3), .val (.int bit), .unset, .unset, .unset, .unset, .unset] [(.ref b)])) target := by
    intro target kt
    show Steps p.tables e below (T3.setTop (mkF m 14 #[.val (.long q0), .second, .val (.long q1), .second, .val (.long q2), .second, .val (.int p3), .val (.int bit), .unset, .unset, .unset, .unset, .unset] [(.ref b)])) _
    refine XS.dup X3.here hx rfl (hb hby at_14) rfl rfl ?_
    show Steps p.tables e below (T3.setTop (mkF m 15 #[.val (.long q0), .second, .val (.long q1), .second, .val (.long q2), .second, .val (.int p3), .val (.int bit), .unset, .unset, .unset, .unset, .unset] [(.ref b), (.ref b)])) _
    refine XS.iconst X3.here hx rfl (hb hby at_15) ?_
    show Steps p.tables e below (T3.setTop (mkF m 16 #[.val (.long q0), .second, .val (.long q1), .second, .val (.long q2), .second, .val (.int p3), .val (.int bit), .unset, .unset, .unset, .unset, .unset] [(.int (0 : Int32)), (.ref b), (.ref b)])) _
    refine XS.lloadN X3.here hx rfl (hb hby at_16) rfl ?_
    exact kt
  obtain ⟨cl5, Ar5, qc5, Sz5, Mn5, Hs5, Gs5⟩ := id V_b
  have hin5 : ¬ ((0 : Int32) < 0 ∨ cl5.slots.size ≤ ((0 : Int32)).toNatClampNeg) := inb_of Sz5 ⟨by decide, by decide⟩
  obtain ⟨T5, h5, X5, e5, W5, st5⟩ := stJ X3 hx hZ e3 Ar5 (j := (0 : Int32)) hin5 (g := (mkF m 17 #[.val (.long q0), .second, .val (.long q1), .second, .val (.long q2), .second, .val (.int p3), .val (.int bit), .unset, .unset, .unset, .unset, .unset] [(.long q0), (.int (0 : Int32)), (.ref b), (.ref b)])) rfl rfl (hb hby at_17)
  have V_b_5 : Arv Z h5 b k3 .long (3 : Int32) [(.long q0), (.long (0 : Int64)), (.long (0 : Int64))] (.long (0 : Int64)) := Arv.set Ar5 qc5 Sz5 Mn5 Hs5 Gs5 rfl W5 0 rfl (Nat.le_of_ble_eq_true rfl)
  have Z_5 : n0 ≤ h5.size := Nat.le_trans Z_3 (Keep.of_wr W5).1
  have N5 := Fr.snoc X5 N0 g_b
  have st6 : ∀ target, Steps p.tables e below (T5.setTop (mkF m 21 #[.val (.long q0), .second, .val (.long q1), .second, .val (.long q2), .second, .val (.int p3), .val (.int bit), .unset, .unset, .unset, .unset, .unset] [(.long q1), (.int (1 : Int32)), (.ref b), (.ref b)])) target → Steps p.tables e below (T5.setTop (mkF m 18 #[.val (.long q0), .second, .val (.long q1), .second, .val (.long q2), .second, .val (.int p3), .val (.int bit), .unset, .unset, .unset, .unset, .unset] [(.ref b)])) target := by
    intro target kt
    show Steps p.tables e below (T5.setTop (mkF m 18 #[.val (.long q0), .second, .val (.long q1), .second, .val (.long q2), .second, .val (.int p3), .val (.int bit), .unset, .unset, .unset, .unset, .unset] [(.ref b)])) _
    refine XS.dup X5.here hx rfl (hb hby at_18) rfl rfl ?_
    show Steps p.tables e below (T5.setTop (mkF m 19 #[.val (.long q0), .second, .val (.long q1), .second, .val (.long q2), .second, .val (.int p3), .val (.int bit), .unset, .unset, .unset, .unset, .unset] [(.ref b), (.ref b)])) _
    refine XS.iconst X5.here hx rfl (hb hby at_19) ?_
    show Steps p.tables e below (T5.setTop (mkF m 20 #[.val (.long q0), .second, .val (.long q1), .second, .val (.long q2), .second, .val (.int p3), .val (.int bit), .unset, .unset, .unset, .unset, .unset] [(.int (1 : Int32)), (.ref b), (.ref b)])) _
    refine XS.lloadN X5.here hx rfl (hb hby at_20) rfl ?_
    exact kt
  obtain ⟨cl7, Ar7, qc7, Sz7, Mn7, Hs7, Gs7⟩ := id V_b_5
  have hin7 : ¬ ((1 : Int32) < 0 ∨ cl7.slots.size ≤ ((1 : Int32)).toNatClampNeg) := inb_of Sz7 ⟨by decide, by decide⟩
  obtain ⟨T7, h7, X7, e7, W7, st7⟩ := stJ X5 hx hZ e5 Ar7 (j := (1 : Int32)) hin7 (g := (mkF m 21 #[.val (.long q0), .second, .val (.long q1), .second, .val (.long q2), .second, .val (.int p3), .val (.int bit), .unset, .unset, .unset, .unset, .unset] [(.long q1), (.int (1 : Int32)), (.ref b), (.ref b)])) rfl rfl (hb hby at_21)
  have V_b_7 : Arv Z h7 b k3 .long (3 : Int32) [(.long q0), (.long q1), (.long (0 : Int64))] (.long (0 : Int64)) := Arv.set Ar7 qc7 Sz7 Mn7 Hs7 Gs7 rfl W7 1 rfl (Nat.le_of_ble_eq_true rfl)
  have Z_7 : n0 ≤ h7.size := Nat.le_trans Z_5 (Keep.of_wr W7).1
  have N7 := Fr.snoc X7 N5 g_b
  have st8 : ∀ target, Steps p.tables e below (T7.setTop (mkF m 26 #[.val (.long q0), .second, .val (.long q1), .second, .val (.long q2), .second, .val (.int p3), .val (.int bit), .unset, .unset, .unset, .unset, .unset] [(.long q2), (.int (2 : Int32)), (.ref b), (.ref b)])) target → Steps p.tables e below (T7.setTop (mkF m 22 #[.val (.long q0), .second, .val (.long q1), .second, .val (.long q2), .second, .val (.int p3), .val (.int bit), .unset, .unset, .unset, .unset, .unset] [(.ref b)])) target := by
    intro target kt
    show Steps p.tables e below (T7.setTop (mkF m 22 #[.val (.long q0), .second, .val (.long q1), .second, .val (.long q2), .second, .val (.int p3), .val (.int bit), .unset, .unset, .unset, .unset, .unset] [(.ref b)])) _
    refine XS.dup X7.here hx rfl (hb hby at_22) rfl rfl ?_
    show Steps p.tables e below (T7.setTop (mkF m 23 #[.val (.long q0), .second, .val (.long q1), .second, .val (.long q2), .second, .val (.int p3), .val (.int bit), .unset, .unset, .unset, .unset, .unset] [(.ref b), (.ref b)])) _
    refine XS.iconst X7.here hx rfl (hb hby at_23) ?_
    show Steps p.tables e below (T7.setTop (mkF m 24 #[.val (.long q0), .second, .val (.long q1), .second, .val (.long q2), .second, .val (.int p3), .val (.int bit), .unset, .unset, .unset, .unset, .unset] [(.int (2 : Int32)), (.ref b), (.ref b)])) _
    refine XS.lload X7.here hx rfl (hb hby at_24) rfl ?_
    exact kt
  obtain ⟨cl9, Ar9, qc9, Sz9, Mn9, Hs9, Gs9⟩ := id V_b_7
  have hin9 : ¬ ((2 : Int32) < 0 ∨ cl9.slots.size ≤ ((2 : Int32)).toNatClampNeg) := inb_of Sz9 ⟨by decide, by decide⟩
  obtain ⟨T9, h9, X9, e9, W9, st9⟩ := stJ X7 hx hZ e7 Ar9 (j := (2 : Int32)) hin9 (g := (mkF m 26 #[.val (.long q0), .second, .val (.long q1), .second, .val (.long q2), .second, .val (.int p3), .val (.int bit), .unset, .unset, .unset, .unset, .unset] [(.long q2), (.int (2 : Int32)), (.ref b), (.ref b)])) rfl rfl (hb hby at_26)
  have V_b_9 : Arv Z h9 b k3 .long (3 : Int32) [(.long q0), (.long q1), (.long q2)] (.long (0 : Int64)) := Arv.set Ar9 qc9 Sz9 Mn9 Hs9 Gs9 rfl W9 2 rfl (Nat.le_of_ble_eq_true rfl)
  have Z_9 : n0 ≤ h9.size := Nat.le_trans Z_7 (Keep.of_wr W9).1
  have N9 := Fr.snoc X9 N7 g_b
  have st10 : ∀ target, Steps p.tables e below (T9.setTop (mkF m 33 #[.val (.long q0), .second, .val (.long q1), .second, .val (.long q2), .second, .val (.int p3), .val (.int bit), .val (.ref b), .unset, .unset, .unset, .unset] [(.int bit), (.ref b)])) target → Steps p.tables e below (T9.setTop (mkF m 27 #[.val (.long q0), .second, .val (.long q1), .second, .val (.long q2), .second, .val (.int p3), .val (.int bit), .unset, .unset, .unset, .unset, .unset] [(.ref b)])) target := by
    intro target kt
    show Steps p.tables e below (T9.setTop (mkF m 27 #[.val (.long q0), .second, .val (.long q1), .second, .val (.long q2), .second, .val (.int p3), .val (.int bit), .unset, .unset, .unset, .unset, .unset] [(.ref b)])) _
    refine XS.astore X9.here hx rfl (hb hby at_27) rfl rfl (l' := #[.val (.long q0), .second, .val (.long q1), .second, .val (.long q2), .second, .val (.int p3), .val (.int bit), .val (.ref b), .unset, .unset, .unset, .unset]) rfl ?_
    show Steps p.tables e below (T9.setTop (mkF m 29 #[.val (.long q0), .second, .val (.long q1), .second, .val (.long q2), .second, .val (.int p3), .val (.int bit), .val (.ref b), .unset, .unset, .unset, .unset] [])) _
    refine XS.aload X9.here hx rfl (hb hby at_29) rfl rfl ?_
    show Steps p.tables e below (T9.setTop (mkF m 31 #[.val (.long q0), .second, .val (.long q1), .second, .val (.long q2), .second, .val (.int p3), .val (.int bit), .val (.ref b), .unset, .unset, .unset, .unset] [(.ref b)])) _
    refine XS.iload X9.here hx rfl (hb hby at_31) rfl ?_
    exact kt
  obtain ⟨cl0, Ar0, qc0, Sz0, Mn0, Hs0, Gs0⟩ := id V_b_9
  have hin0 : ¬ (bit / (64 : Int32) < 0 ∨ cl0.slots.size ≤ (bit / (64 : Int32)).toNatClampNeg) := by rw [own_div hrng]; exact inb_of Sz0 (own_in hrng)
  have hat0 : cl0.slots[(bit / (64 : Int32)).toNatClampNeg]? = some (.long (own_pick q0 q1 q2 (own_idx bit))) := Hs0.at hin0 (by rw [own_div hrng]; exact own_get hrng _ _ _ _)
  obtain ⟨_, _, ⟨T11, L11, k11, n11⟩, -, X11, ⟨Lc11, hQ11, l11, y11, z11⟩, st11⟩ := Jvm.LawKit.callS X9 hx (y := (⟨"com/example/arvio/arvio/lang/Bits", "clear", "([JI)V"⟩ : MethodName)) hown (mvT hZ (hw _ (List.mem_of_getElem? (i := 2) rfl))) (mvT hZ (hw _ (List.mem_of_getElem? (i := 3) rfl))) (mvT hZ (hw _ (List.mem_of_getElem? (i := 4) rfl))) (mvT hZ (hw _ (List.mem_of_getElem? (i := 5) rfl))) (by decide) (backOf (W := 0) (rm1 l Z a0 hw [] b bit cl0 (own_pick q0 q1 q2 (own_idx bit)) h9 n0 Z_9 Ar0 hin0 hat0 g_b) hZ (hw _ (List.mem_of_getElem? (i := 5) rfl)) (hw _ (List.mem_of_getElem? (i := 4) rfl)) (by decide) (by decide)) (g := (mkF m 33 #[.val (.long q0), .second, .val (.long q1), .second, .val (.long q2), .second, .val (.int p3), .val (.int bit), .val (.ref b), .unset, .unset, .unset, .unset] [(.int bit), (.ref b)])) rfl (by rw [hml]; rfl) (argsL := [(.ref b), (.int bit)]) (rest := []) (lenOf pd_0 rfl) rfl (by show 2 * 0 + _ ≤ _; exact Nat.le_of_eq rfl) (hb hby at_33) (fun _ _ => ⟨rfl, e9, (by decide : 1 + 0 ≤ _), (by decide : 3 + 0 ≤ _)⟩)
  dsimp only [Pt.U, Pt.locs, Pt.cells, Pt.slots] at X11 l11 y11 z11 st11 hQ11
  subst l11 y11 z11
  obtain ⟨rfl, Nq11, W11⟩ := hQ11
  have N11 := Fr.app N9 Nq11
  have Vz : Arv Z T11.heap b k3 .long (3 : Int32) [(.long (own_aft q0 (own_nv (own_pick q0 q1 q2 (own_idx bit)) bit) (own_idx bit) 0)), (.long (own_aft q1 (own_nv (own_pick q0 q1 q2 (own_idx bit)) bit) (own_idx bit) 1)), (.long (own_aft q2 (own_nv (own_pick q0 q1 q2 (own_idx bit)) bit) (own_idx bit) 2))] (.long (0 : Int64)) := by
    have q := Arv.set (j := bit / (64 : Int32)) Ar0 qc0 Sz0 Mn0 Hs0 Gs0 rfl W11 (own_idx bit).toNatClampNeg (by rw [own_div hrng]) (own_lt3 hrng)
    rw [own_set hrng] at q
    exact q
  have Z_11 : n0 ≤ T11.heap.size := Nat.le_trans Z_9 (Keep.of_wr W11).1
  obtain ⟨i, hi, st12⟩ : ∃ (i : Int32), i = (if bit < (64 : Int32) then (0 : Int32) else (if bit < (128 : Int32) then (1 : Int32) else (2 : Int32))) ∧ ∀ target, Steps p.tables e below (T11.setTop (mkF m 60 #[.val (.long q0), .second, .val (.long q1), .second, .val (.long q2), .second, .val (.int p3), .val (.int bit), .val (.ref b), .unset, .unset, .unset, .unset] [(.int i)])) target → Steps p.tables e below (T11.setTop (mkF m 36 #[.val (.long q0), .second, .val (.long q1), .second, .val (.long q2), .second, .val (.int p3), .val (.int bit), .val (.ref b), .unset, .unset, .unset, .unset] [])) target := by
    refine ⟨_, rfl, fun target kt => ?_⟩
    show Steps p.tables e below (T11.setTop (mkF m 36 #[.val (.long q0), .second, .val (.long q1), .second, .val (.long q2), .second, .val (.int p3), .val (.int bit), .val (.ref b), .unset, .unset, .unset, .unset] [])) _
    refine XS.iload X11.here hx rfl (hb hby at_36) rfl ?_
    show Steps p.tables e below (T11.setTop (mkF m 38 #[.val (.long q0), .second, .val (.long q1), .second, .val (.long q2), .second, .val (.int p3), .val (.int bit), .val (.ref b), .unset, .unset, .unset, .unset] [(.int bit)])) _
    refine XS.bipush X11.here hx rfl (hb hby at_38) ?_
    by_cases hc40 : bit < (64 : Int32)
    · rw [if_pos hc40] at kt
      show Steps p.tables e below (T11.setTop (mkF m 40 #[.val (.long q0), .second, .val (.long q1), .second, .val (.long q2), .second, .val (.int p3), .val (.int bit), .val (.ref b), .unset, .unset, .unset, .unset] [(.int (64 : Int32)), (.int bit)])) _
      refine XS.icmpNo X11.here hx rfl (hb hby at_40) rfl (tlt hc40).2.1 ?_
      show Steps p.tables e below (T11.setTop (mkF m 43 #[.val (.long q0), .second, .val (.long q1), .second, .val (.long q2), .second, .val (.int p3), .val (.int bit), .val (.ref b), .unset, .unset, .unset, .unset] [])) _
      refine XS.iconst X11.here hx rfl (hb hby at_43) ?_
      show Steps p.tables e below (T11.setTop (mkF m 44 #[.val (.long q0), .second, .val (.long q1), .second, .val (.long q2), .second, .val (.int p3), .val (.int bit), .val (.ref b), .unset, .unset, .unset, .unset] [(.int (0 : Int32))])) _
      refine XS.goto X11.here hx rfl (pc0 := 44) (pc' := 60) rfl (hb hby at_44) (by decide) (by decide) ?_
      exact kt
    · rw [if_neg hc40] at kt
      show Steps p.tables e below (T11.setTop (mkF m 40 #[.val (.long q0), .second, .val (.long q1), .second, .val (.long q2), .second, .val (.int p3), .val (.int bit), .val (.ref b), .unset, .unset, .unset, .unset] [(.int (64 : Int32)), (.int bit)])) _
      refine XS.icmpYes X11.here hx rfl (pc0 := 40) (pc' := 47) rfl (hb hby at_40) rfl (flt hc40).2.1 (by decide) (by decide) ?_
      show Steps p.tables e below (T11.setTop (mkF m 47 #[.val (.long q0), .second, .val (.long q1), .second, .val (.long q2), .second, .val (.int p3), .val (.int bit), .val (.ref b), .unset, .unset, .unset, .unset] [])) _
      refine XS.iload X11.here hx rfl (hb hby at_47) rfl ?_
      show Steps p.tables e below (T11.setTop (mkF m 49 #[.val (.long q0), .second, .val (.long q1), .second, .val (.long q2), .second, .val (.int p3), .val (.int bit), .val (.ref b), .unset, .unset, .unset, .unset] [(.int bit)])) _
      refine XS.sipush X11.here hx rfl (hb hby at_49) ?_
      by_cases hc52 : bit < (128 : Int32)
      · rw [if_pos hc52] at kt
        show Steps p.tables e below (T11.setTop (mkF m 52 #[.val (.long q0), .second, .val (.long q1), .second, .val (.long q2), .second, .val (.int p3), .val (.int bit), .val (.ref b), .unset, .unset, .unset, .unset] [(.int (128 : Int32)), (.int bit)])) _
        refine XS.icmpNo X11.here hx rfl (hb hby at_52) rfl (tlt hc52).2.1 ?_
        show Steps p.tables e below (T11.setTop (mkF m 55 #[.val (.long q0), .second, .val (.long q1), .second, .val (.long q2), .second, .val (.int p3), .val (.int bit), .val (.ref b), .unset, .unset, .unset, .unset] [])) _
        refine XS.iconst X11.here hx rfl (hb hby at_55) ?_
        show Steps p.tables e below (T11.setTop (mkF m 56 #[.val (.long q0), .second, .val (.long q1), .second, .val (.long q2), .second, .val (.int p3), .val (.int bit), .val (.ref b), .unset, .unset, .unset, .unset] [(.int (1 : Int32))])) _
        refine XS.goto X11.here hx rfl (pc0 := 56) (pc' := 60) rfl (hb hby at_56) (by decide) (by decide) ?_
        exact kt
      · rw [if_neg hc52] at kt
        show Steps p.tables e below (T11.setTop (mkF m 52 #[.val (.long q0), .second, .val (.long q1), .second, .val (.long q2), .second, .val (.int p3), .val (.int bit), .val (.ref b), .unset, .unset, .unset, .unset] [(.int (128 : Int32)), (.int bit)])) _
        refine XS.icmpYes X11.here hx rfl (pc0 := 52) (pc' := 59) rfl (hb hby at_52) rfl (flt hc52).2.1 (by decide) (by decide) ?_
        show Steps p.tables e below (T11.setTop (mkF m 59 #[.val (.long q0), .second, .val (.long q1), .second, .val (.long q2), .second, .val (.int p3), .val (.int bit), .val (.ref b), .unset, .unset, .unset, .unset] [])) _
        refine XS.iconst X11.here hx rfl (hb hby at_59) ?_
        exact kt
  have hi' : i = own_idx bit := hi
  have st13 : ∀ target, Steps p.tables e below (T11.setTop (mkF m 83 #[.val (.long q0), .second, .val (.long q1), .second, .val (.long q2), .second, .val (.int p3), .val (.int bit), .val (.ref b), .val (.int i), .val (.int (bit - ((64 : Int32) * i))), .val (.long (((-9223372036854775808 : Int64).toUInt64 >>> (((63 : Int32) - (bit - ((64 : Int32) * i))) &&& 0x3f).toInt64.toUInt64).toInt64)), .second] [])) target → Steps p.tables e below (T11.setTop (mkF m 60 #[.val (.long q0), .second, .val (.long q1), .second, .val (.long q2), .second, .val (.int p3), .val (.int bit), .val (.ref b), .unset, .unset, .unset, .unset] [(.int i)])) target := by
    intro target kt
    show Steps p.tables e below (T11.setTop (mkF m 60 #[.val (.long q0), .second, .val (.long q1), .second, .val (.long q2), .second, .val (.int p3), .val (.int bit), .val (.ref b), .unset, .unset, .unset, .unset] [(.int i)])) _
    refine XS.istore X11.here hx rfl (hb hby at_60) rfl (l' := #[.val (.long q0), .second, .val (.long q1), .second, .val (.long q2), .second, .val (.int p3), .val (.int bit), .val (.ref b), .val (.int i), .unset, .unset, .unset]) rfl ?_
    show Steps p.tables e below (T11.setTop (mkF m 62 #[.val (.long q0), .second, .val (.long q1), .second, .val (.long q2), .second, .val (.int p3), .val (.int bit), .val (.ref b), .val (.int i), .unset, .unset, .unset] [])) _
    refine XS.iload X11.here hx rfl (hb hby at_62) rfl ?_
    show Steps p.tables e below (T11.setTop (mkF m 64 #[.val (.long q0), .second, .val (.long q1), .second, .val (.long q2), .second, .val (.int p3), .val (.int bit), .val (.ref b), .val (.int i), .unset, .unset, .unset] [(.int bit)])) _
    refine XS.bipush X11.here hx rfl (hb hby at_64) ?_
    show Steps p.tables e below (T11.setTop (mkF m 66 #[.val (.long q0), .second, .val (.long q1), .second, .val (.long q2), .second, .val (.int p3), .val (.int bit), .val (.ref b), .val (.int i), .unset, .unset, .unset] [(.int (64 : Int32)), (.int bit)])) _
    refine XS.iload X11.here hx rfl (hb hby at_66) rfl ?_
    show Steps p.tables e below (T11.setTop (mkF m 68 #[.val (.long q0), .second, .val (.long q1), .second, .val (.long q2), .second, .val (.int p3), .val (.int bit), .val (.ref b), .val (.int i), .unset, .unset, .unset] [(.int i), (.int (64 : Int32)), (.int bit)])) _
    refine XS.imul X11.here hx rfl (hb hby at_68) rfl ?_
    show Steps p.tables e below (T11.setTop (mkF m 69 #[.val (.long q0), .second, .val (.long q1), .second, .val (.long q2), .second, .val (.int p3), .val (.int bit), .val (.ref b), .val (.int i), .unset, .unset, .unset] [(.int ((64 : Int32) * i)), (.int bit)])) _
    refine XS.isub X11.here hx rfl (hb hby at_69) rfl ?_
    show Steps p.tables e below (T11.setTop (mkF m 70 #[.val (.long q0), .second, .val (.long q1), .second, .val (.long q2), .second, .val (.int p3), .val (.int bit), .val (.ref b), .val (.int i), .unset, .unset, .unset] [(.int (bit - ((64 : Int32) * i)))])) _
    refine XS.istore X11.here hx rfl (hb hby at_70) rfl (l' := #[.val (.long q0), .second, .val (.long q1), .second, .val (.long q2), .second, .val (.int p3), .val (.int bit), .val (.ref b), .val (.int i), .val (.int (bit - ((64 : Int32) * i))), .unset, .unset]) rfl ?_
    show Steps p.tables e below (T11.setTop (mkF m 72 #[.val (.long q0), .second, .val (.long q1), .second, .val (.long q2), .second, .val (.int p3), .val (.int bit), .val (.ref b), .val (.int i), .val (.int (bit - ((64 : Int32) * i))), .unset, .unset] [])) _
    refine X11.ldc2Long hx hown (mvT hZ (hw _ (List.mem_of_getElem? (i := 7) rfl))) (g := (mkF m 72 #[.val (.long q0), .second, .val (.long q1), .second, .val (.long q2), .second, .val (.int p3), .val (.int bit), .val (.ref b), .val (.int i), .val (.int (bit - ((64 : Int32) * i))), .unset, .unset] [])) rfl (hb hby at_72) _ ?_
    show Steps p.tables e below (T11.setTop (mkF m 75 #[.val (.long q0), .second, .val (.long q1), .second, .val (.long q2), .second, .val (.int p3), .val (.int bit), .val (.ref b), .val (.int i), .val (.int (bit - ((64 : Int32) * i))), .unset, .unset] [(.long (-9223372036854775808 : Int64))])) _
    refine XS.bipush X11.here hx rfl (hb hby at_75) ?_
    show Steps p.tables e below (T11.setTop (mkF m 77 #[.val (.long q0), .second, .val (.long q1), .second, .val (.long q2), .second, .val (.int p3), .val (.int bit), .val (.ref b), .val (.int i), .val (.int (bit - ((64 : Int32) * i))), .unset, .unset] [(.int (63 : Int32)), (.long (-9223372036854775808 : Int64))])) _
    refine XS.iload X11.here hx rfl (hb hby at_77) rfl ?_
    show Steps p.tables e below (T11.setTop (mkF m 79 #[.val (.long q0), .second, .val (.long q1), .second, .val (.long q2), .second, .val (.int p3), .val (.int bit), .val (.ref b), .val (.int i), .val (.int (bit - ((64 : Int32) * i))), .unset, .unset] [(.int (bit - ((64 : Int32) * i))), (.int (63 : Int32)), (.long (-9223372036854775808 : Int64))])) _
    refine XS.isub X11.here hx rfl (hb hby at_79) rfl ?_
    show Steps p.tables e below (T11.setTop (mkF m 80 #[.val (.long q0), .second, .val (.long q1), .second, .val (.long q2), .second, .val (.int p3), .val (.int bit), .val (.ref b), .val (.int i), .val (.int (bit - ((64 : Int32) * i))), .unset, .unset] [(.int ((63 : Int32) - (bit - ((64 : Int32) * i)))), (.long (-9223372036854775808 : Int64))])) _
    refine XS.lushr X11.here hx rfl (hb hby at_80) rfl ?_
    show Steps p.tables e below (T11.setTop (mkF m 81 #[.val (.long q0), .second, .val (.long q1), .second, .val (.long q2), .second, .val (.int p3), .val (.int bit), .val (.ref b), .val (.int i), .val (.int (bit - ((64 : Int32) * i))), .unset, .unset] [(.long (((-9223372036854775808 : Int64).toUInt64 >>> (((63 : Int32) - (bit - ((64 : Int32) * i))) &&& 0x3f).toInt64.toUInt64).toInt64))])) _
    refine XS.lstore X11.here hx rfl (hb hby at_81) rfl (l' := #[.val (.long q0), .second, .val (.long q1), .second, .val (.long q2), .second, .val (.int p3), .val (.int bit), .val (.ref b), .val (.int i), .val (.int (bit - ((64 : Int32) * i))), .val (.long (((-9223372036854775808 : Int64).toUInt64 >>> (((63 : Int32) - (bit - ((64 : Int32) * i))) &&& 0x3f).toInt64.toUInt64).toInt64)), .second]) rfl ?_
    exact kt
  obtain ⟨mm, hmm⟩ : ∃ z : Int64, z = (((-9223372036854775808 : Int64).toUInt64 >>> (((63 : Int32) - (bit - ((64 : Int32) * i))) &&& 0x3f).toInt64.toUInt64).toInt64) := ⟨_, rfl⟩
  rw [← hmm] at st13
  have st14 : ∀ target, Steps p.tables e below (T11.setTop (mkF m 87 #[.val (.long q0), .second, .val (.long q1), .second, .val (.long q2), .second, .val (.int p3), .val (.int bit), .val (.ref b), .val (.int i), .val (.int (bit - ((64 : Int32) * i))), .val (.long mm), .second] [(.int (0 : Int32)), (.ref b), (.long q0)])) target → Steps p.tables e below (T11.setTop (mkF m 83 #[.val (.long q0), .second, .val (.long q1), .second, .val (.long q2), .second, .val (.int p3), .val (.int bit), .val (.ref b), .val (.int i), .val (.int (bit - ((64 : Int32) * i))), .val (.long mm), .second] [])) target := by
    intro target kt
    show Steps p.tables e below (T11.setTop (mkF m 83 #[.val (.long q0), .second, .val (.long q1), .second, .val (.long q2), .second, .val (.int p3), .val (.int bit), .val (.ref b), .val (.int i), .val (.int (bit - ((64 : Int32) * i))), .val (.long mm), .second] [])) _
    refine XS.lloadN X11.here hx rfl (hb hby at_83) rfl ?_
    show Steps p.tables e below (T11.setTop (mkF m 84 #[.val (.long q0), .second, .val (.long q1), .second, .val (.long q2), .second, .val (.int p3), .val (.int bit), .val (.ref b), .val (.int i), .val (.int (bit - ((64 : Int32) * i))), .val (.long mm), .second] [(.long q0)])) _
    refine XS.aload X11.here hx rfl (hb hby at_84) rfl rfl ?_
    show Steps p.tables e below (T11.setTop (mkF m 86 #[.val (.long q0), .second, .val (.long q1), .second, .val (.long q2), .second, .val (.int p3), .val (.int bit), .val (.ref b), .val (.int i), .val (.int (bit - ((64 : Int32) * i))), .val (.long mm), .second] [(.ref b), (.long q0)])) _
    refine XS.iconst X11.here hx rfl (hb hby at_86) ?_
    exact kt
  obtain ⟨cl15, Ar15, qc15, Sz15, Mn15, Hs15, Gs15⟩ := id Vz
  have hin15 : ¬ ((0 : Int32) < 0 ∨ cl15.slots.size ≤ ((0 : Int32)).toNatClampNeg) := inb_of Sz15 ⟨by decide, by decide⟩
  have hat15 : cl15.slots[((0 : Int32)).toNatClampNeg]? = some (.long (own_aft q0 (own_nv (own_pick q0 q1 q2 (own_idx bit)) bit) (own_idx bit) 0)) := Hs15.at hin15 rfl
  have st15 : ∀ target, Steps p.tables e below (T11.setTop (mkF m 88 #[.val (.long q0), .second, .val (.long q1), .second, .val (.long q2), .second, .val (.int p3), .val (.int bit), .val (.ref b), .val (.int i), .val (.int (bit - ((64 : Int32) * i))), .val (.long mm), .second] [(.long (own_aft q0 (own_nv (own_pick q0 q1 q2 (own_idx bit)) bit) (own_idx bit) 0)), (.long q0)])) target → Steps p.tables e below (T11.setTop (mkF m 87 #[.val (.long q0), .second, .val (.long q1), .second, .val (.long q2), .second, .val (.int p3), .val (.int bit), .val (.ref b), .val (.int i), .val (.int (bit - ((64 : Int32) * i))), .val (.long mm), .second] [(.int (0 : Int32)), (.ref b), (.long q0)])) target := fun target kt => X11.laload hx (j := (0 : Int32)) (v := (.long (own_aft q0 (own_nv (own_pick q0 q1 q2 (own_idx bit)) bit) (own_idx bit) 0))) Ar15.1 (State.isArrayOf_alike hZ.alike Ar15.2.1) Ar15.2.2 hin15 hat15 (g := (mkF m 87 #[.val (.long q0), .second, .val (.long q1), .second, .val (.long q2), .second, .val (.int p3), .val (.int bit), .val (.ref b), .val (.int i), .val (.int (bit - ((64 : Int32) * i))), .val (.long mm), .second] [(.int (0 : Int32)), (.ref b), (.long q0)])) rfl rfl (hb hby at_87) _ kt
  obtain ⟨t0, ht0, st16⟩ : ∃ (t0 : Int32), t0 = (if i = (0 : Int32) then (1 : Int32) else (0 : Int32)) ∧ ∀ target, Steps p.tables e below (T11.setTop (mkF m 98 #[.val (.long q0), .second, .val (.long q1), .second, .val (.long q2), .second, .val (.int p3), .val (.int bit), .val (.ref b), .val (.int i), .val (.int (bit - ((64 : Int32) * i))), .val (.long mm), .second] [(.int t0), (.long (own_aft q0 (own_nv (own_pick q0 q1 q2 (own_idx bit)) bit) (own_idx bit) 0)), (.long q0)])) target → Steps p.tables e below (T11.setTop (mkF m 88 #[.val (.long q0), .second, .val (.long q1), .second, .val (.long q2), .second, .val (.int p3), .val (.int bit), .val (.ref b), .val (.int i), .val (.int (bit - ((64 : Int32) * i))), .val (.long mm), .second] [(.long (own_aft q0 (own_nv (own_pick q0 q1 q2 (own_idx bit)) bit) (own_idx bit) 0)), (.long q0)])) target := by
    refine ⟨_, rfl, fun target kt => ?_⟩
    show Steps p.tables e below (T11.setTop (mkF m 88 #[.val (.long q0), .second, .val (.long q1), .second, .val (.long q2), .second, .val (.int p3), .val (.int bit), .val (.ref b), .val (.int i), .val (.int (bit - ((64 : Int32) * i))), .val (.long mm), .second] [(.long (own_aft q0 (own_nv (own_pick q0 q1 q2 (own_idx bit)) bit) (own_idx bit) 0)), (.long q0)])) _
    refine XS.iload X11.here hx rfl (hb hby at_88) rfl ?_
    by_cases hc90 : i = (0 : Int32)
    · rw [if_pos hc90] at kt
      show Steps p.tables e below (T11.setTop (mkF m 90 #[.val (.long q0), .second, .val (.long q1), .second, .val (.long q2), .second, .val (.int p3), .val (.int bit), .val (.ref b), .val (.int i), .val (.int (bit - ((64 : Int32) * i))), .val (.long mm), .second] [(.int i), (.long (own_aft q0 (own_nv (own_pick q0 q1 q2 (own_idx bit)) bit) (own_idx bit) 0)), (.long q0)])) _
      refine XS.ifNo X11.here hx rfl (hb hby at_90) rfl ((if0 _ _).trans (teq hc90).2) ?_
      show Steps p.tables e below (T11.setTop (mkF m 93 #[.val (.long q0), .second, .val (.long q1), .second, .val (.long q2), .second, .val (.int p3), .val (.int bit), .val (.ref b), .val (.int i), .val (.int (bit - ((64 : Int32) * i))), .val (.long mm), .second] [(.long (own_aft q0 (own_nv (own_pick q0 q1 q2 (own_idx bit)) bit) (own_idx bit) 0)), (.long q0)])) _
      refine XS.iconst X11.here hx rfl (hb hby at_93) ?_
      show Steps p.tables e below (T11.setTop (mkF m 94 #[.val (.long q0), .second, .val (.long q1), .second, .val (.long q2), .second, .val (.int p3), .val (.int bit), .val (.ref b), .val (.int i), .val (.int (bit - ((64 : Int32) * i))), .val (.long mm), .second] [(.int (1 : Int32)), (.long (own_aft q0 (own_nv (own_pick q0 q1 q2 (own_idx bit)) bit) (own_idx bit) 0)), (.long q0)])) _
      refine XS.goto X11.here hx rfl (pc0 := 94) (pc' := 98) rfl (hb hby at_94) (by decide) (by decide) ?_
      exact kt
    · rw [if_neg hc90] at kt
      show Steps p.tables e below (T11.setTop (mkF m 90 #[.val (.long q0), .second, .val (.long q1), .second, .val (.long q2), .second, .val (.int p3), .val (.int bit), .val (.ref b), .val (.int i), .val (.int (bit - ((64 : Int32) * i))), .val (.long mm), .second] [(.int i), (.long (own_aft q0 (own_nv (own_pick q0 q1 q2 (own_idx bit)) bit) (own_idx bit) 0)), (.long q0)])) _
      refine XS.ifYes X11.here hx rfl (pc0 := 90) (pc' := 97) rfl (hb hby at_90) rfl ((if0 _ _).trans (feq hc90).2) (by decide) (by decide) ?_
      show Steps p.tables e below (T11.setTop (mkF m 97 #[.val (.long q0), .second, .val (.long q1), .second, .val (.long q2), .second, .val (.int p3), .val (.int bit), .val (.ref b), .val (.int i), .val (.int (bit - ((64 : Int32) * i))), .val (.long mm), .second] [(.long (own_aft q0 (own_nv (own_pick q0 q1 q2 (own_idx bit)) bit) (own_idx bit) 0)), (.long q0)])) _
      refine XS.iconst X11.here hx rfl (hb hby at_97) ?_
      exact kt
  have st17 : ∀ target, Steps p.tables e below (T11.setTop (mkF m 100 #[.val (.long q0), .second, .val (.long q1), .second, .val (.long q2), .second, .val (.int p3), .val (.int bit), .val (.ref b), .val (.int i), .val (.int (bit - ((64 : Int32) * i))), .val (.long mm), .second] [(.long mm), (.int t0), (.long (own_aft q0 (own_nv (own_pick q0 q1 q2 (own_idx bit)) bit) (own_idx bit) 0)), (.long q0)])) target → Steps p.tables e below (T11.setTop (mkF m 98 #[.val (.long q0), .second, .val (.long q1), .second, .val (.long q2), .second, .val (.int p3), .val (.int bit), .val (.ref b), .val (.int i), .val (.int (bit - ((64 : Int32) * i))), .val (.long mm), .second] [(.int t0), (.long (own_aft q0 (own_nv (own_pick q0 q1 q2 (own_idx bit)) bit) (own_idx bit) 0)), (.long q0)])) target := by
    intro target kt
    show Steps p.tables e below (T11.setTop (mkF m 98 #[.val (.long q0), .second, .val (.long q1), .second, .val (.long q2), .second, .val (.int p3), .val (.int bit), .val (.ref b), .val (.int i), .val (.int (bit - ((64 : Int32) * i))), .val (.long mm), .second] [(.int t0), (.long (own_aft q0 (own_nv (own_pick q0 q1 q2 (own_idx bit)) bit) (own_idx bit) 0)), (.long q0)])) _
    refine XS.lload X11.here hx rfl (hb hby at_98) rfl ?_
    exact kt
  have ht0' : own_word q0 (own_aft q0 (own_nv (own_pick q0 q1 q2 (own_idx bit)) bit) (own_idx bit) 0) t0 mm = 1 := by rw [ht0, hmm, hi']; exact own_ok hrng _ _ _ (fun q => by rw [q]; rfl)
  obtain ⟨_, _, ⟨T18, L18, k18, n18⟩, -, X18, ⟨Lc18, hQ18, l18, y18, z18⟩, st18⟩ := Jvm.LawKit.callS X11 hx (y := (⟨"com/example/arvio/arvio/lang/BitsClearPinLaw", "word", "(JJZJ)Z"⟩ : MethodName)) hown (mvT hZ (hw _ (List.mem_of_getElem? (i := 8) rfl))) (mvT hZ (hw _ (List.mem_of_getElem? (i := 9) rfl))) (mvT hZ (hw _ (List.mem_of_getElem? (i := 10) rfl))) (mvT hZ (hw _ (List.mem_of_getElem? (i := 11) rfl))) (by decide) (backOf (W := 0) (rm2 l Z a0 hw [] q0 (own_aft q0 (own_nv (own_pick q0 q1 q2 (own_idx bit)) bit) (own_idx bit) 0) t0 mm  T11.heap n0 Z_11 ) hZ (hw _ (List.mem_of_getElem? (i := 11) rfl)) (hw _ (List.mem_of_getElem? (i := 10) rfl)) (by decide) (by decide)) (g := (mkF m 100 #[.val (.long q0), .second, .val (.long q1), .second, .val (.long q2), .second, .val (.int p3), .val (.int bit), .val (.ref b), .val (.int i), .val (.int (bit - ((64 : Int32) * i))), .val (.long mm), .second] [(.long mm), (.int t0), (.long (own_aft q0 (own_nv (own_pick q0 q1 q2 (own_idx bit)) bit) (own_idx bit) 0)), (.long q0)])) rfl (by rw [hml]; rfl) (argsL := [(.long q0), (.long (own_aft q0 (own_nv (own_pick q0 q1 q2 (own_idx bit)) bit) (own_idx bit) 0)), (.int t0), (.long mm)]) (rest := []) (lenOf pd_1 rfl) rfl (by show 2 * 0 + _ ≤ _; exact Nat.le_of_eq rfl) (hb hby at_100) (fun _ _ => ⟨rfl, rfl, (by decide : 1 + 0 ≤ _), (by decide : 3 + 0 ≤ _)⟩)
  dsimp only [Pt.U, Pt.locs, Pt.cells, Pt.slots] at X18 l18 y18 z18 st18 hQ18
  subst l18 y18 z18
  obtain ⟨rfl, Nq18, e18⟩ := hQ18
  have N18 := Fr.app N11 Nq18
  rw [ht0'] at st18
  have st19 : ∀ target, Steps p.tables e below (T18.setTop (mkF m 110 #[.val (.long q0), .second, .val (.long q1), .second, .val (.long q2), .second, .val (.int p3), .val (.int bit), .val (.ref b), .val (.int i), .val (.int (bit - ((64 : Int32) * i))), .val (.long mm), .second] [(.int (1 : Int32)), (.ref b), (.long q1)])) target → Steps p.tables e below (T18.setTop (mkF m 103 #[.val (.long q0), .second, .val (.long q1), .second, .val (.long q2), .second, .val (.int p3), .val (.int bit), .val (.ref b), .val (.int i), .val (.int (bit - ((64 : Int32) * i))), .val (.long mm), .second] [(.int (1 : Int32))])) target := by
    intro target kt
    show Steps p.tables e below (T18.setTop (mkF m 103 #[.val (.long q0), .second, .val (.long q1), .second, .val (.long q2), .second, .val (.int p3), .val (.int bit), .val (.ref b), .val (.int i), .val (.int (bit - ((64 : Int32) * i))), .val (.long mm), .second] [(.int (1 : Int32))])) _
    refine XS.ifNo X18.here hx rfl (hb hby at_103) rfl ((if0 _ _).trans (feq (by decide : ¬ ((1 : Int32) = (0 : Int32)))).1) ?_
    show Steps p.tables e below (T18.setTop (mkF m 106 #[.val (.long q0), .second, .val (.long q1), .second, .val (.long q2), .second, .val (.int p3), .val (.int bit), .val (.ref b), .val (.int i), .val (.int (bit - ((64 : Int32) * i))), .val (.long mm), .second] [])) _
    refine XS.lloadN X18.here hx rfl (hb hby at_106) rfl ?_
    show Steps p.tables e below (T18.setTop (mkF m 107 #[.val (.long q0), .second, .val (.long q1), .second, .val (.long q2), .second, .val (.int p3), .val (.int bit), .val (.ref b), .val (.int i), .val (.int (bit - ((64 : Int32) * i))), .val (.long mm), .second] [(.long q1)])) _
    refine XS.aload X18.here hx rfl (hb hby at_107) rfl rfl ?_
    show Steps p.tables e below (T18.setTop (mkF m 109 #[.val (.long q0), .second, .val (.long q1), .second, .val (.long q2), .second, .val (.int p3), .val (.int bit), .val (.ref b), .val (.int i), .val (.int (bit - ((64 : Int32) * i))), .val (.long mm), .second] [(.ref b), (.long q1)])) _
    refine XS.iconst X18.here hx rfl (hb hby at_109) ?_
    exact kt
  obtain ⟨cl20, Ar20, qc20, Sz20, Mn20, Hs20, Gs20⟩ := id Vz
  have hin20 : ¬ ((1 : Int32) < 0 ∨ cl20.slots.size ≤ ((1 : Int32)).toNatClampNeg) := inb_of Sz20 ⟨by decide, by decide⟩
  have hat20 : cl20.slots[((1 : Int32)).toNatClampNeg]? = some (.long (own_aft q1 (own_nv (own_pick q0 q1 q2 (own_idx bit)) bit) (own_idx bit) 1)) := Hs20.at hin20 rfl
  have st20 : ∀ target, Steps p.tables e below (T18.setTop (mkF m 111 #[.val (.long q0), .second, .val (.long q1), .second, .val (.long q2), .second, .val (.int p3), .val (.int bit), .val (.ref b), .val (.int i), .val (.int (bit - ((64 : Int32) * i))), .val (.long mm), .second] [(.long (own_aft q1 (own_nv (own_pick q0 q1 q2 (own_idx bit)) bit) (own_idx bit) 1)), (.long q1)])) target → Steps p.tables e below (T18.setTop (mkF m 110 #[.val (.long q0), .second, .val (.long q1), .second, .val (.long q2), .second, .val (.int p3), .val (.int bit), .val (.ref b), .val (.int i), .val (.int (bit - ((64 : Int32) * i))), .val (.long mm), .second] [(.int (1 : Int32)), (.ref b), (.long q1)])) target := fun target kt => X18.laload hx (j := (1 : Int32)) (v := (.long (own_aft q1 (own_nv (own_pick q0 q1 q2 (own_idx bit)) bit) (own_idx bit) 1))) (by rw [e18]; exact Ar20.1) (State.isArrayOf_alike hZ.alike Ar20.2.1) Ar20.2.2 hin20 hat20 (g := (mkF m 110 #[.val (.long q0), .second, .val (.long q1), .second, .val (.long q2), .second, .val (.int p3), .val (.int bit), .val (.ref b), .val (.int i), .val (.int (bit - ((64 : Int32) * i))), .val (.long mm), .second] [(.int (1 : Int32)), (.ref b), (.long q1)])) rfl rfl (hb hby at_110) _ kt
  obtain ⟨t1, ht1, st21⟩ : ∃ (t1 : Int32), t1 = (if i = (1 : Int32) then (1 : Int32) else (0 : Int32)) ∧ ∀ target, Steps p.tables e below (T18.setTop (mkF m 122 #[.val (.long q0), .second, .val (.long q1), .second, .val (.long q2), .second, .val (.int p3), .val (.int bit), .val (.ref b), .val (.int i), .val (.int (bit - ((64 : Int32) * i))), .val (.long mm), .second] [(.int t1), (.long (own_aft q1 (own_nv (own_pick q0 q1 q2 (own_idx bit)) bit) (own_idx bit) 1)), (.long q1)])) target → Steps p.tables e below (T18.setTop (mkF m 111 #[.val (.long q0), .second, .val (.long q1), .second, .val (.long q2), .second, .val (.int p3), .val (.int bit), .val (.ref b), .val (.int i), .val (.int (bit - ((64 : Int32) * i))), .val (.long mm), .second] [(.long (own_aft q1 (own_nv (own_pick q0 q1 q2 (own_idx bit)) bit) (own_idx bit) 1)), (.long q1)])) target := by
    refine ⟨_, rfl, fun target kt => ?_⟩
    show Steps p.tables e below (T18.setTop (mkF m 111 #[.val (.long q0), .second, .val (.long q1), .second, .val (.long q2), .second, .val (.int p3), .val (.int bit), .val (.ref b), .val (.int i), .val (.int (bit - ((64 : Int32) * i))), .val (.long mm), .second] [(.long (own_aft q1 (own_nv (own_pick q0 q1 q2 (own_idx bit)) bit) (own_idx bit) 1)), (.long q1)])) _
    refine XS.iload X18.here hx rfl (hb hby at_111) rfl ?_
    show Steps p.tables e below (T18.setTop (mkF m 113 #[.val (.long q0), .second, .val (.long q1), .second, .val (.long q2), .second, .val (.int p3), .val (.int bit), .val (.ref b), .val (.int i), .val (.int (bit - ((64 : Int32) * i))), .val (.long mm), .second] [(.int i), (.long (own_aft q1 (own_nv (own_pick q0 q1 q2 (own_idx bit)) bit) (own_idx bit) 1)), (.long q1)])) _
    refine XS.iconst X18.here hx rfl (hb hby at_113) ?_
    by_cases hc114 : i = (1 : Int32)
    · rw [if_pos hc114] at kt
      show Steps p.tables e below (T18.setTop (mkF m 114 #[.val (.long q0), .second, .val (.long q1), .second, .val (.long q2), .second, .val (.int p3), .val (.int bit), .val (.ref b), .val (.int i), .val (.int (bit - ((64 : Int32) * i))), .val (.long mm), .second] [(.int (1 : Int32)), (.int i), (.long (own_aft q1 (own_nv (own_pick q0 q1 q2 (own_idx bit)) bit) (own_idx bit) 1)), (.long q1)])) _
      refine XS.icmpNo X18.here hx rfl (hb hby at_114) rfl (teq hc114).2 ?_
      show Steps p.tables e below (T18.setTop (mkF m 117 #[.val (.long q0), .second, .val (.long q1), .second, .val (.long q2), .second, .val (.int p3), .val (.int bit), .val (.ref b), .val (.int i), .val (.int (bit - ((64 : Int32) * i))), .val (.long mm), .second] [(.long (own_aft q1 (own_nv (own_pick q0 q1 q2 (own_idx bit)) bit) (own_idx bit) 1)), (.long q1)])) _
      refine XS.iconst X18.here hx rfl (hb hby at_117) ?_
      show Steps p.tables e below (T18.setTop (mkF m 118 #[.val (.long q0), .second, .val (.long q1), .second, .val (.long q2), .second, .val (.int p3), .val (.int bit), .val (.ref b), .val (.int i), .val (.int (bit - ((64 : Int32) * i))), .val (.long mm), .second] [(.int (1 : Int32)), (.long (own_aft q1 (own_nv (own_pick q0 q1 q2 (own_idx bit)) bit) (own_idx bit) 1)), (.long q1)])) _
      refine XS.goto X18.here hx rfl (pc0 := 118) (pc' := 122) rfl (hb hby at_118) (by decide) (by decide) ?_
      exact kt
    · rw [if_neg hc114] at kt
      show Steps p.tables e below (T18.setTop (mkF m 114 #[.val (.long q0), .second, .val (.long q1), .second, .val (.long q2), .second, .val (.int p3), .val (.int bit), .val (.ref b), .val (.int i), .val (.int (bit - ((64 : Int32) * i))), .val (.long mm), .second] [(.int (1 : Int32)), (.int i), (.long (own_aft q1 (own_nv (own_pick q0 q1 q2 (own_idx bit)) bit) (own_idx bit) 1)), (.long q1)])) _
      refine XS.icmpYes X18.here hx rfl (pc0 := 114) (pc' := 121) rfl (hb hby at_114) rfl (feq hc114).2 (by decide) (by decide) ?_
      show Steps p.tables e below (T18.setTop (mkF m 121 #[.val (.long q0), .second, .val (.long q1), .second, .val (.long q2), .second, .val (.int p3), .val (.int bit), .val (.ref b), .val (.int i), .val (.int (bit - ((64 : Int32) * i))), .val (.long mm), .second] [(.long (own_aft q1 (own_nv (own_pick q0 q1 q2 (own_idx bit)) bit) (own_idx bit) 1)), (.long q1)])) _
      refine XS.iconst X18.here hx rfl (hb hby at_121) ?_
      exact kt
  have st22 : ∀ target, Steps p.tables e below (T18.setTop (mkF m 124 #[.val (.long q0), .second, .val (.long q1), .second, .val (.long q2), .second, .val (.int p3), .val (.int bit), .val (.ref b), .val (.int i), .val (.int (bit - ((64 : Int32) * i))), .val (.long mm), .second] [(.long mm), (.int t1), (.long (own_aft q1 (own_nv (own_pick q0 q1 q2 (own_idx bit)) bit) (own_idx bit) 1)), (.long q1)])) target → Steps p.tables e below (T18.setTop (mkF m 122 #[.val (.long q0), .second, .val (.long q1), .second, .val (.long q2), .second, .val (.int p3), .val (.int bit), .val (.ref b), .val (.int i), .val (.int (bit - ((64 : Int32) * i))), .val (.long mm), .second] [(.int t1), (.long (own_aft q1 (own_nv (own_pick q0 q1 q2 (own_idx bit)) bit) (own_idx bit) 1)), (.long q1)])) target := by
    intro target kt
    show Steps p.tables e below (T18.setTop (mkF m 122 #[.val (.long q0), .second, .val (.long q1), .second, .val (.long q2), .second, .val (.int p3), .val (.int bit), .val (.ref b), .val (.int i), .val (.int (bit - ((64 : Int32) * i))), .val (.long mm), .second] [(.int t1), (.long (own_aft q1 (own_nv (own_pick q0 q1 q2 (own_idx bit)) bit) (own_idx bit) 1)), (.long q1)])) _
    refine XS.lload X18.here hx rfl (hb hby at_122) rfl ?_
    exact kt
  have ht1' : own_word q1 (own_aft q1 (own_nv (own_pick q0 q1 q2 (own_idx bit)) bit) (own_idx bit) 1) t1 mm = 1 := by rw [ht1, hmm, hi']; exact own_ok hrng _ _ _ (fun q => by rw [q]; rfl)
  obtain ⟨_, _, ⟨T23, L23, k23, n23⟩, -, X23, ⟨Lc23, hQ23, l23, y23, z23⟩, st23⟩ := Jvm.LawKit.callS X18 hx (y := (⟨"com/example/arvio/arvio/lang/BitsClearPinLaw", "word", "(JJZJ)Z"⟩ : MethodName)) hown (mvT hZ (hw _ (List.mem_of_getElem? (i := 8) rfl))) (mvT hZ (hw _ (List.mem_of_getElem? (i := 9) rfl))) (mvT hZ (hw _ (List.mem_of_getElem? (i := 10) rfl))) (mvT hZ (hw _ (List.mem_of_getElem? (i := 11) rfl))) (by decide) (backOf (W := 0) (rm2 l Z a0 hw [] q1 (own_aft q1 (own_nv (own_pick q0 q1 q2 (own_idx bit)) bit) (own_idx bit) 1) t1 mm  T11.heap n0 Z_11 ) hZ (hw _ (List.mem_of_getElem? (i := 11) rfl)) (hw _ (List.mem_of_getElem? (i := 10) rfl)) (by decide) (by decide)) (g := (mkF m 124 #[.val (.long q0), .second, .val (.long q1), .second, .val (.long q2), .second, .val (.int p3), .val (.int bit), .val (.ref b), .val (.int i), .val (.int (bit - ((64 : Int32) * i))), .val (.long mm), .second] [(.long mm), (.int t1), (.long (own_aft q1 (own_nv (own_pick q0 q1 q2 (own_idx bit)) bit) (own_idx bit) 1)), (.long q1)])) rfl (by rw [hml]; rfl) (argsL := [(.long q1), (.long (own_aft q1 (own_nv (own_pick q0 q1 q2 (own_idx bit)) bit) (own_idx bit) 1)), (.int t1), (.long mm)]) (rest := []) (lenOf pd_1 rfl) rfl (by show 2 * 0 + _ ≤ _; exact Nat.le_of_eq rfl) (hb hby at_124) (fun _ _ => ⟨rfl, e18, (by decide : 1 + 0 ≤ _), (by decide : 3 + 0 ≤ _)⟩)
  dsimp only [Pt.U, Pt.locs, Pt.cells, Pt.slots] at X23 l23 y23 z23 st23 hQ23
  subst l23 y23 z23
  obtain ⟨rfl, Nq23, e23⟩ := hQ23
  have N23 := Fr.app N18 Nq23
  rw [ht1'] at st23
  have st24 : ∀ target, Steps p.tables e below (T23.setTop (mkF m 135 #[.val (.long q0), .second, .val (.long q1), .second, .val (.long q2), .second, .val (.int p3), .val (.int bit), .val (.ref b), .val (.int i), .val (.int (bit - ((64 : Int32) * i))), .val (.long mm), .second] [(.int (2 : Int32)), (.ref b), (.long q2)])) target → Steps p.tables e below (T23.setTop (mkF m 127 #[.val (.long q0), .second, .val (.long q1), .second, .val (.long q2), .second, .val (.int p3), .val (.int bit), .val (.ref b), .val (.int i), .val (.int (bit - ((64 : Int32) * i))), .val (.long mm), .second] [(.int (1 : Int32))])) target := by
    intro target kt
    show Steps p.tables e below (T23.setTop (mkF m 127 #[.val (.long q0), .second, .val (.long q1), .second, .val (.long q2), .second, .val (.int p3), .val (.int bit), .val (.ref b), .val (.int i), .val (.int (bit - ((64 : Int32) * i))), .val (.long mm), .second] [(.int (1 : Int32))])) _
    refine XS.ifNo X23.here hx rfl (hb hby at_127) rfl ((if0 _ _).trans (feq (by decide : ¬ ((1 : Int32) = (0 : Int32)))).1) ?_
    show Steps p.tables e below (T23.setTop (mkF m 130 #[.val (.long q0), .second, .val (.long q1), .second, .val (.long q2), .second, .val (.int p3), .val (.int bit), .val (.ref b), .val (.int i), .val (.int (bit - ((64 : Int32) * i))), .val (.long mm), .second] [])) _
    refine XS.lload X23.here hx rfl (hb hby at_130) rfl ?_
    show Steps p.tables e below (T23.setTop (mkF m 132 #[.val (.long q0), .second, .val (.long q1), .second, .val (.long q2), .second, .val (.int p3), .val (.int bit), .val (.ref b), .val (.int i), .val (.int (bit - ((64 : Int32) * i))), .val (.long mm), .second] [(.long q2)])) _
    refine XS.aload X23.here hx rfl (hb hby at_132) rfl rfl ?_
    show Steps p.tables e below (T23.setTop (mkF m 134 #[.val (.long q0), .second, .val (.long q1), .second, .val (.long q2), .second, .val (.int p3), .val (.int bit), .val (.ref b), .val (.int i), .val (.int (bit - ((64 : Int32) * i))), .val (.long mm), .second] [(.ref b), (.long q2)])) _
    refine XS.iconst X23.here hx rfl (hb hby at_134) ?_
    exact kt
  obtain ⟨cl25, Ar25, qc25, Sz25, Mn25, Hs25, Gs25⟩ := id Vz
  have hin25 : ¬ ((2 : Int32) < 0 ∨ cl25.slots.size ≤ ((2 : Int32)).toNatClampNeg) := inb_of Sz25 ⟨by decide, by decide⟩
  have hat25 : cl25.slots[((2 : Int32)).toNatClampNeg]? = some (.long (own_aft q2 (own_nv (own_pick q0 q1 q2 (own_idx bit)) bit) (own_idx bit) 2)) := Hs25.at hin25 rfl
  have st25 : ∀ target, Steps p.tables e below (T23.setTop (mkF m 136 #[.val (.long q0), .second, .val (.long q1), .second, .val (.long q2), .second, .val (.int p3), .val (.int bit), .val (.ref b), .val (.int i), .val (.int (bit - ((64 : Int32) * i))), .val (.long mm), .second] [(.long (own_aft q2 (own_nv (own_pick q0 q1 q2 (own_idx bit)) bit) (own_idx bit) 2)), (.long q2)])) target → Steps p.tables e below (T23.setTop (mkF m 135 #[.val (.long q0), .second, .val (.long q1), .second, .val (.long q2), .second, .val (.int p3), .val (.int bit), .val (.ref b), .val (.int i), .val (.int (bit - ((64 : Int32) * i))), .val (.long mm), .second] [(.int (2 : Int32)), (.ref b), (.long q2)])) target := fun target kt => X23.laload hx (j := (2 : Int32)) (v := (.long (own_aft q2 (own_nv (own_pick q0 q1 q2 (own_idx bit)) bit) (own_idx bit) 2))) (by rw [e23]; exact Ar25.1) (State.isArrayOf_alike hZ.alike Ar25.2.1) Ar25.2.2 hin25 hat25 (g := (mkF m 135 #[.val (.long q0), .second, .val (.long q1), .second, .val (.long q2), .second, .val (.int p3), .val (.int bit), .val (.ref b), .val (.int i), .val (.int (bit - ((64 : Int32) * i))), .val (.long mm), .second] [(.int (2 : Int32)), (.ref b), (.long q2)])) rfl rfl (hb hby at_135) _ kt
  obtain ⟨t2, ht2, st26⟩ : ∃ (t2 : Int32), t2 = (if i = (2 : Int32) then (1 : Int32) else (0 : Int32)) ∧ ∀ target, Steps p.tables e below (T23.setTop (mkF m 147 #[.val (.long q0), .second, .val (.long q1), .second, .val (.long q2), .second, .val (.int p3), .val (.int bit), .val (.ref b), .val (.int i), .val (.int (bit - ((64 : Int32) * i))), .val (.long mm), .second] [(.int t2), (.long (own_aft q2 (own_nv (own_pick q0 q1 q2 (own_idx bit)) bit) (own_idx bit) 2)), (.long q2)])) target → Steps p.tables e below (T23.setTop (mkF m 136 #[.val (.long q0), .second, .val (.long q1), .second, .val (.long q2), .second, .val (.int p3), .val (.int bit), .val (.ref b), .val (.int i), .val (.int (bit - ((64 : Int32) * i))), .val (.long mm), .second] [(.long (own_aft q2 (own_nv (own_pick q0 q1 q2 (own_idx bit)) bit) (own_idx bit) 2)), (.long q2)])) target := by
    refine ⟨_, rfl, fun target kt => ?_⟩
    show Steps p.tables e below (T23.setTop (mkF m 136 #[.val (.long q0), .second, .val (.long q1), .second, .val (.long q2), .second, .val (.int p3), .val (.int bit), .val (.ref b), .val (.int i), .val (.int (bit - ((64 : Int32) * i))), .val (.long mm), .second] [(.long (own_aft q2 (own_nv (own_pick q0 q1 q2 (own_idx bit)) bit) (own_idx bit) 2)), (.long q2)])) _
    refine XS.iload X23.here hx rfl (hb hby at_136) rfl ?_
    show Steps p.tables e below (T23.setTop (mkF m 138 #[.val (.long q0), .second, .val (.long q1), .second, .val (.long q2), .second, .val (.int p3), .val (.int bit), .val (.ref b), .val (.int i), .val (.int (bit - ((64 : Int32) * i))), .val (.long mm), .second] [(.int i), (.long (own_aft q2 (own_nv (own_pick q0 q1 q2 (own_idx bit)) bit) (own_idx bit) 2)), (.long q2)])) _
    refine XS.iconst X23.here hx rfl (hb hby at_138) ?_
    by_cases hc139 : i = (2 : Int32)
    · rw [if_pos hc139] at kt
      show Steps p.tables e below (T23.setTop (mkF m 139 #[.val (.long q0), .second, .val (.long q1), .second, .val (.long q2), .second, .val (.int p3), .val (.int bit), .val (.ref b), .val (.int i), .val (.int (bit - ((64 : Int32) * i))), .val (.long mm), .second] [(.int (2 : Int32)), (.int i), (.long (own_aft q2 (own_nv (own_pick q0 q1 q2 (own_idx bit)) bit) (own_idx bit) 2)), (.long q2)])) _
      refine XS.icmpNo X23.here hx rfl (hb hby at_139) rfl (teq hc139).2 ?_
      show Steps p.tables e below (T23.setTop (mkF m 142 #[.val (.long q0), .second, .val (.long q1), .second, .val (.long q2), .second, .val (.int p3), .val (.int bit), .val (.ref b), .val (.int i), .val (.int (bit - ((64 : Int32) * i))), .val (.long mm), .second] [(.long (own_aft q2 (own_nv (own_pick q0 q1 q2 (own_idx bit)) bit) (own_idx bit) 2)), (.long q2)])) _
      refine XS.iconst X23.here hx rfl (hb hby at_142) ?_
      show Steps p.tables e below (T23.setTop (mkF m 143 #[.val (.long q0), .second, .val (.long q1), .second, .val (.long q2), .second, .val (.int p3), .val (.int bit), .val (.ref b), .val (.int i), .val (.int (bit - ((64 : Int32) * i))), .val (.long mm), .second] [(.int (1 : Int32)), (.long (own_aft q2 (own_nv (own_pick q0 q1 q2 (own_idx bit)) bit) (own_idx bit) 2)), (.long q2)])) _
      refine XS.goto X23.here hx rfl (pc0 := 143) (pc' := 147) rfl (hb hby at_143) (by decide) (by decide) ?_
      exact kt
    · rw [if_neg hc139] at kt
      show Steps p.tables e below (T23.setTop (mkF m 139 #[.val (.long q0), .second, .val (.long q1), .second, .val (.long q2), .second, .val (.int p3), .val (.int bit), .val (.ref b), .val (.int i), .val (.int (bit - ((64 : Int32) * i))), .val (.long mm), .second] [(.int (2 : Int32)), (.int i), (.long (own_aft q2 (own_nv (own_pick q0 q1 q2 (own_idx bit)) bit) (own_idx bit) 2)), (.long q2)])) _
      refine XS.icmpYes X23.here hx rfl (pc0 := 139) (pc' := 146) rfl (hb hby at_139) rfl (feq hc139).2 (by decide) (by decide) ?_
      show Steps p.tables e below (T23.setTop (mkF m 146 #[.val (.long q0), .second, .val (.long q1), .second, .val (.long q2), .second, .val (.int p3), .val (.int bit), .val (.ref b), .val (.int i), .val (.int (bit - ((64 : Int32) * i))), .val (.long mm), .second] [(.long (own_aft q2 (own_nv (own_pick q0 q1 q2 (own_idx bit)) bit) (own_idx bit) 2)), (.long q2)])) _
      refine XS.iconst X23.here hx rfl (hb hby at_146) ?_
      exact kt
  have st27 : ∀ target, Steps p.tables e below (T23.setTop (mkF m 149 #[.val (.long q0), .second, .val (.long q1), .second, .val (.long q2), .second, .val (.int p3), .val (.int bit), .val (.ref b), .val (.int i), .val (.int (bit - ((64 : Int32) * i))), .val (.long mm), .second] [(.long mm), (.int t2), (.long (own_aft q2 (own_nv (own_pick q0 q1 q2 (own_idx bit)) bit) (own_idx bit) 2)), (.long q2)])) target → Steps p.tables e below (T23.setTop (mkF m 147 #[.val (.long q0), .second, .val (.long q1), .second, .val (.long q2), .second, .val (.int p3), .val (.int bit), .val (.ref b), .val (.int i), .val (.int (bit - ((64 : Int32) * i))), .val (.long mm), .second] [(.int t2), (.long (own_aft q2 (own_nv (own_pick q0 q1 q2 (own_idx bit)) bit) (own_idx bit) 2)), (.long q2)])) target := by
    intro target kt
    show Steps p.tables e below (T23.setTop (mkF m 147 #[.val (.long q0), .second, .val (.long q1), .second, .val (.long q2), .second, .val (.int p3), .val (.int bit), .val (.ref b), .val (.int i), .val (.int (bit - ((64 : Int32) * i))), .val (.long mm), .second] [(.int t2), (.long (own_aft q2 (own_nv (own_pick q0 q1 q2 (own_idx bit)) bit) (own_idx bit) 2)), (.long q2)])) _
    refine XS.lload X23.here hx rfl (hb hby at_147) rfl ?_
    exact kt
  have ht2' : own_word q2 (own_aft q2 (own_nv (own_pick q0 q1 q2 (own_idx bit)) bit) (own_idx bit) 2) t2 mm = 1 := by rw [ht2, hmm, hi']; exact own_ok hrng _ _ _ (fun q => by rw [q]; rfl)
  obtain ⟨_, _, ⟨T28, L28, k28, n28⟩, -, X28, ⟨Lc28, hQ28, l28, y28, z28⟩, st28⟩ := Jvm.LawKit.callS X23 hx (y := (⟨"com/example/arvio/arvio/lang/BitsClearPinLaw", "word", "(JJZJ)Z"⟩ : MethodName)) hown (mvT hZ (hw _ (List.mem_of_getElem? (i := 8) rfl))) (mvT hZ (hw _ (List.mem_of_getElem? (i := 9) rfl))) (mvT hZ (hw _ (List.mem_of_getElem? (i := 10) rfl))) (mvT hZ (hw _ (List.mem_of_getElem? (i := 11) rfl))) (by decide) (backOf (W := 0) (rm2 l Z a0 hw [] q2 (own_aft q2 (own_nv (own_pick q0 q1 q2 (own_idx bit)) bit) (own_idx bit) 2) t2 mm  T11.heap n0 Z_11 ) hZ (hw _ (List.mem_of_getElem? (i := 11) rfl)) (hw _ (List.mem_of_getElem? (i := 10) rfl)) (by decide) (by decide)) (g := (mkF m 149 #[.val (.long q0), .second, .val (.long q1), .second, .val (.long q2), .second, .val (.int p3), .val (.int bit), .val (.ref b), .val (.int i), .val (.int (bit - ((64 : Int32) * i))), .val (.long mm), .second] [(.long mm), (.int t2), (.long (own_aft q2 (own_nv (own_pick q0 q1 q2 (own_idx bit)) bit) (own_idx bit) 2)), (.long q2)])) rfl (by rw [hml]; rfl) (argsL := [(.long q2), (.long (own_aft q2 (own_nv (own_pick q0 q1 q2 (own_idx bit)) bit) (own_idx bit) 2)), (.int t2), (.long mm)]) (rest := []) (lenOf pd_1 rfl) rfl (by show 2 * 0 + _ ≤ _; exact Nat.le_of_eq rfl) (hb hby at_149) (fun _ _ => ⟨rfl, e23, (by decide : 1 + 0 ≤ _), (by decide : 3 + 0 ≤ _)⟩)
  dsimp only [Pt.U, Pt.locs, Pt.cells, Pt.slots] at X28 l28 y28 z28 st28 hQ28
  subst l28 y28 z28
  obtain ⟨rfl, Nq28, e28⟩ := hQ28
  have N28 := Fr.app N23 Nq28
  rw [ht2'] at st28
  obtain ⟨fs, hr, hrun, hended, hW, hsame⟩ := X28.leave (v := some (.int (1 : Int32))) (fun h => by rw [Bd.returns] at h; cases h)
  refine ⟨_, _, pre0 _ (st1 _ (st2 _ (st3 _ (st4 _ (st5 _ (st6 _ (st7 _ (st8 _ (st9 _ (st10 _ (st11 _ (st12 _ (st13 _ (st14 _ (st15 _ (st16 _ (st17 _ (st18 _ (st19 _ (st20 _ (st21 _ (st22 _ (st23 _ (st24 _ (st25 _ (st26 _ (st27 _ (st28 _ ?_)))))))))))))))))))))))))))), hrun, hended, _, _, rfl, ?_, ⟨_, rfl⟩, hW, hsame.mono (by decide) (by decide)⟩
  · show Steps p.tables e below (T28.setTop (mkF m 152 #[.val (.long q0), .second, .val (.long q1), .second, .val (.long q2), .second, .val (.int p3), .val (.int bit), .val (.ref b), .val (.int i), .val (.int (bit - ((64 : Int32) * i))), .val (.long mm), .second] [(.int (1 : Int32))])) _
    refine XS.ifNo X28.here hx rfl (hb hby at_152) rfl ((if0 _ _).trans (feq (by decide : ¬ ((1 : Int32) = (0 : Int32)))).1) ?_
    show Steps p.tables e below (T28.setTop (mkF m 155 #[.val (.long q0), .second, .val (.long q1), .second, .val (.long q2), .second, .val (.int p3), .val (.int bit), .val (.ref b), .val (.int i), .val (.int (bit - ((64 : Int32) * i))), .val (.long mm), .second] [])) _
    refine XS.iconst X28.here hx rfl (hb hby at_155) ?_
    show Steps p.tables e below (T28.setTop (mkF m 156 #[.val (.long q0), .second, .val (.long q1), .second, .val (.long q2), .second, .val (.int p3), .val (.int bit), .val (.ref b), .val (.int i), .val (.int (bit - ((64 : Int32) * i))), .val (.long mm), .second] [(.int (1 : Int32))])) _
    refine XS.goto X28.here hx rfl (pc0 := 156) (pc' := 160) rfl (hb hby at_156) (by decide) (by decide) ?_
    show Steps p.tables e below (T28.setTop (mkF m 160 #[.val (.long q0), .second, .val (.long q1), .second, .val (.long q2), .second, .val (.int p3), .val (.int bit), .val (.ref b), .val (.int i), .val (.int (bit - ((64 : Int32) * i))), .val (.long mm), .second] [(.int (1 : Int32))])) _
    exact retN X28 hx (t := .boolean) Bd.returns (by simp) (hb hby at_160) hr
  · show Q_rm0 Z q0 q1 q2 p3 h0 n0 _ T28.heap _
    rw [e28]
    exact ⟨rfl, N28⟩
set_option maxRecDepth 65536 in
set_option maxHeartbeats 40000000 in
theorem comes_1 {Post : Tables → Env → Array Value → State → Outcome → State → Prop} (hpost : ∀ tb e args s v u, (limb_1_1.after args s (.returned v) u = true ∧ limb_1_2.after args s (.returned v) u = true ∧ True) → FrameEnd s (.returned v) u (Jvm.fieldLocs frame_1_writes args s ++ Jvm.arrayLocs frame_1_arrays args s ++ Jvm.staticLocs frame_1_statics s) 16 128 → Post tb e args s (.returned v) u) :
    ArmFor flags0 classFile x code maxLocals ret World_1 tables_1 room_1 Calls_1 rest_1 Pre_1 Post := by
  intro l hfl _ _ p e ha hc hk s m args below hf hA hF happ hP
  obtain ⟨hcalls, hrest, hpre⟩ := hP
  obtain ⟨-, -, -, hnamed, -, -, -, hat⟩ := (Spec.applies_iff hf).mp happ
  obtain ⟨hg, hn⟩ := and_e (Cond.before_iff.mp (show (Jvm.Cond.and given_1 narrow_1).before args s = true from hpre))
  obtain ⟨gg1, gg2⟩ := and_e hg
  obtain ⟨gg3, gg4⟩ := and_e gg2
  obtain ⟨gg5, gg6⟩ := and_e gg4
  obtain ⟨gg7, gg8⟩ := and_e gg6
  obtain ⟨w0, w1, w2, w3, rfl⟩ : ∃ w0 w1 w2 w3 : Value, args = #[w0, w1, w2, w3] := by
    have hs : args.size = 4 := by simpa [Cond.value, given_1] using gg1
    obtain ⟨L⟩ := args
    match L, hs with
    | [w0, w1, w2, w3], _ => exact ⟨w0, w1, w2, w3, rfl⟩
  have hw := fun d (hd : d ∈ tables_1) => atoms_spec (ws := Jvm.Cond.code x code maxLocals ret :: tables_1) hat d (List.mem_cons_of_mem _ hd)
  have hfit : Fit s := fun {y c} hc i hi => by
    obtain ⟨ha, rfl⟩ := Array.getElem?_eq_some_iff.mp hc
    have q := List.all_eq_true.mp ((Array.all_eq_true_iff_forall_mem.mp hF) _ (Array.getElem_mem ha)) i (List.mem_range.mpr hi)
    simpa [Array.getElem?_eq_getElem hi] using q
  obtain ⟨i0, ei0⟩ := isL_v gg3
  obtain rfl : w0 = (.long i0) := Option.some.inj ei0
  obtain ⟨i1, ei1⟩ := isL_v gg5
  obtain rfl : w1 = (.long i1) := Option.some.inj ei1
  obtain ⟨i2, ei2⟩ := isL_v gg7
  obtain rfl : w2 = (.long i2) := Option.some.inj ei2
  obtain ⟨i3, ei3⟩ := is_v gg8
  obtain rfl : w3 = (.int i3) := Option.some.inj ei3
  obtain ⟨n, o, h1, h2, h3, _, L, rfl, ⟨rfl, N⟩, hq⟩ := rm0 l s _ hw tables_1 i0 i1 i2 i3 s.heap s.heap.size (Nat.le_refl _)  p e ha hc hk s m _ below hf ((Spec.applies_iff_loose hf).mp happ).1 ⟨rfl, State.Warmed39.refl s, rfl⟩ trivial
  refine ⟨n, _, h1, h2, h3, hpost _ _ _ _ _ _ ⟨Cond.after_iff.mpr rfl, Cond.after_iff.mpr (eq_i res_at (Term.int_eval (1)) rfl), trivial⟩ ⟨hq.1, hq.2.1, (hq.2.2.sift fun y hy => Or.inr (N y hy)).mono (by decide) (by decide)⟩⟩
theorem main_1_1 : Claimed_1_1 := comes_1 fun _ _ _ _ _ _ h hF => ⟨h.1, hF⟩
theorem main_1_2 : Claimed_1_2 := comes_1 fun _ _ _ _ _ _ h hF => ⟨h.2.1, hF⟩
end Jvm.Pilot.@@N@@
namespace Jvm.Pilot.@@N@@
open Jvm Jvm.ClassFile Sem Op Lib Jvm.Free Jvm.Stand Jvm.Pilot.@@N@@.Jvm.D
/-! MADE BY PROGRAM (witnessworld.py) out of the Statement's table words and the real class files: 11 classes; the members and pool entries that the words name. The judged class is class 1, her method 1. -/
namespace start1
open Jvm.ClassFile
def u (s : String) : CpInfo := .utf8 (stringToUtf16 s)
/-- a pool by its gaps: so many unusable entries, then the entry; so many at the end -/
def gap : Nat → List CpInfo → List CpInfo
  | 0, r => r
  | n + 1, r => .unusable :: gap n r
def poolList (es : List (Nat × CpInfo)) (last : Nat) : List CpInfo := es.foldr (fun e r => gap e.1 (e.2 :: r)) (gap last [])
def pool (es : List (Nat × CpInfo)) (last : Nat) : Array CpInfo := ⟨poolList es last⟩
def fileOf (pool : Array CpInfo) (this : Nat) (attrs : Array Attribute := #[]) (ms : Array MethodInfo := #[]) (fl : Nat := 33) (sup : Nat := 0) (ifs : Array Nat := #[]) (fds : Array FieldInfo := #[]) : ClassFile where
  minorVersion := 0
  majorVersion := 65
  constantPool := pool
  accessFlags := fl
  thisClass := this
  superClass := sup
  interfaces := ifs
  fields := fds
  methods := ms
  attributes := attrs
def plain (name : String) (sup : Option ClassId) : Class where
  name := name
  kind := .ordinary
  loader := none
  accessFlags := 33
  super := sup
  interfaces := #[]
  cf := none
  fields := #[]
  methods := #[]
  instanceTypes := #[]
  staticTypes := #[]
  resolved := #[]
  callSites := []
  init := .initialized
  statics := none
  mirror := none

def pool0 : Array CpInfo := pool [(5, u "<init>"), (0, u "()V"), (1, .class_ 10), (1, u "java/lang/Object")] 113

def k0m0 : Method := { name := "<init>", desc := "()V", sig := { parameters := [], returnType := none }, accessFlags := 1, code := none }
/-- java/lang/Object -/
def k0 : Class := { plain "java/lang/Object" none with
  accessFlags := 33
  interfaces := #[]
  cf := some (fileOf pool0 8 #[] #[{ accessFlags := 1, nameIndex := 5, descriptorIndex := 6, attributes := #[] }] 33 0 #[] #[])
  fields := #[]
  methods := #[k0m0]
  instanceTypes := #[]
  staticTypes := #[]
  resolved := Array.replicate 124 none
  statics := none }

def pool1 : Array CpInfo := pool [(2, .class_ 4), (1, u "java/lang/Object"), (0, u "<init>"), (0, u "()V"), (0, .integer 2147483647), (0, .methodref 9 10), (0, .class_ 11), (0, .nameAndType 12 13), (0, u "com/example/arvio/arvio/lang/Bits"), (0, u "clear"), (0, u "([JI)V"), (2, .long 9223372036854775808), (1, .methodref 19 20), (0, .class_ 21), (0, .nameAndType 22 23), (0, u "com/example/arvio/arvio/lang/BitsClearPinLaw"), (0, u "word"), (0, u "(JJZJ)Z"), (2, u "law"), (0, u "(JJJI)Z")] 5

def k1m0 : Method := { name := "<init>", desc := "()V", sig := { parameters := [], returnType := none }, accessFlags := 1, code := none }
def k1c1 : Code := { maxStack := 7, maxLocals := 13, code := code, exceptionTable := #[], attributes := #[] }
def k1m1 : Method := { name := "law", desc := "(JJJI)Z", sig := { parameters := [.long, .long, .long, .int], returnType := some .boolean }, accessFlags := 9, code := some k1c1 }
def k1c2 : Code := { maxStack := 6, maxLocals := 7, code := method_3_code, exceptionTable := #[], attributes := #[] }
def k1m2 : Method := { name := "word", desc := "(JJZJ)Z", sig := { parameters := [.long, .long, .boolean, .long], returnType := some .boolean }, accessFlags := 10, code := some k1c2 }
/-- com/example/arvio/arvio/lang/BitsClearPinLaw -/
def k1 : Class := { plain "com/example/arvio/arvio/lang/BitsClearPinLaw" (some 0) with
  accessFlags := 49
  interfaces := #[]
  cf := some (fileOf pool1 19 #[] #[{ accessFlags := 1, nameIndex := 5, descriptorIndex := 6, attributes := #[] }, { accessFlags := 9, nameIndex := 26, descriptorIndex := 27, attributes := #[] }, { accessFlags := 10, nameIndex := 22, descriptorIndex := 23, attributes := #[] }] 49 2 #[] #[])
  fields := #[]
  methods := #[k1m0, k1m1, k1m2]
  instanceTypes := #[]
  staticTypes := #[]
  resolved := Array.replicate 33 none
  statics := none }

def pool2 : Array CpInfo := pool [(2, .class_ 4), (1, u "java/lang/Object"), (0, u "<init>"), (0, u "()V"), (2, .long 18446744073709551615), (1, .class_ 12), (0, u "com/example/arvio/arvio/lang/Bits"), (8, u "([JI)V"), (0, u "clear")] 2

def k2m0 : Method := { name := "<init>", desc := "()V", sig := { parameters := [], returnType := none }, accessFlags := 2, code := none }
def k2c1 : Code := { maxStack := 8, maxLocals := 2, code := prog_85_method_5_code, exceptionTable := #[], attributes := #[] }
def k2m1 : Method := { name := "clear", desc := "([JI)V", sig := { parameters := [(.array .long), .int], returnType := none }, accessFlags := 9, code := some k2c1 }
/-- com/example/arvio/arvio/lang/Bits -/
def k2 : Class := { plain "com/example/arvio/arvio/lang/Bits" (some 0) with
  accessFlags := 33
  interfaces := #[]
  cf := some (fileOf pool2 11 #[] #[{ accessFlags := 2, nameIndex := 5, descriptorIndex := 6, attributes := #[] }, { accessFlags := 9, nameIndex := 22, descriptorIndex := 21, attributes := #[] }] 33 2 #[] #[])
  fields := #[]
  methods := #[k2m0, k2m1]
  instanceTypes := #[]
  staticTypes := #[]
  resolved := Array.replicate 25 none
  statics := none }

def pool3 : Array CpInfo := pool [(1, u "java/lang/Cloneable"), (0, .class_ 1), (0, u "java/lang/Object"), (0, .class_ 3)] 3

/-- java/lang/Cloneable -/
def k3 : Class := { plain "java/lang/Cloneable" (some 0) with
  accessFlags := 1537
  interfaces := #[]
  cf := some (fileOf pool3 2 #[] #[] 1537 4 #[] #[])
  fields := #[]
  methods := #[]
  instanceTypes := #[]
  staticTypes := #[]
  resolved := Array.replicate 8 none
  statics := none }

def pool4 : Array CpInfo := pool [(1, u "java/io/Serializable"), (0, .class_ 1), (0, u "java/lang/Object"), (0, .class_ 3)] 3

/-- java/io/Serializable -/
def k4 : Class := { plain "java/io/Serializable" (some 0) with
  accessFlags := 1537
  interfaces := #[]
  cf := some (fileOf pool4 2 #[] #[] 1537 4 #[] #[])
  fields := #[]
  methods := #[]
  instanceTypes := #[]
  staticTypes := #[]
  resolved := Array.replicate 8 none
  statics := none }

/-- the primitive byte -/
def k5 : Class := { plain "byte" none with kind := .primitive 'B', accessFlags := 0x411 }
/-- [B -/
def k6 : Class := { plain "[B" (some 0) with kind := .array 5 .byte, interfaces := #[3, 4], accessFlags := 1041 }

/-- the primitive int -/
def k7 : Class := { plain "int" none with kind := .primitive 'I', accessFlags := 0x411 }
/-- [I -/
def k8 : Class := { plain "[I" (some 0) with kind := .array 7 .int, interfaces := #[3, 4], accessFlags := 1041 }

/-- the primitive long -/
def k9 : Class := { plain "long" none with kind := .primitive 'J', accessFlags := 0x411 }
/-- [J -/
def k10 : Class := { plain "[J" (some 0) with kind := .array 9 .long, interfaces := #[3, 4], accessFlags := 1041 }

def heap : Heap := #[]
def classes : Array Class := #[k0, k1, k2, k3, k4, k5, k6, k7, k8, k9, k10]
def interned : List (Array UInt16 × Addr) := []
def slotsUsed : Nat := 0
def theMethod : MethodId := ⟨1, 1⟩
def args0 : Array Value := #[.long 5, .long 5, .long 5, .int 5]
def aboutOver (below : List Frame) : State where
  vm := { classes := classes, interned := interned.toArray }
  heap := heap
  slotsUsed := slotsUsed
  threads := #[{ frames := .invoking theMethod args0 :: below }]
def below0 : List Frame := [.native { method := ⟨0, 0⟩, args := #[] }]
def about1 : State := aboutOver below0
def p0 : Program := .bare "" "" ""
def e0 : Env := launch0.env 0 0 0
theorem w_frames : about1.frames = Frame.invoking theMethod args0 :: below0 := rfl
set_option maxRecDepth 65536 in
theorem w_args : argsFit about1.vm theMethod args0 = true := by decide +kernel
set_option maxRecDepth 65536 in
theorem w_heap : heapFits about1 = true := by decide +kernel
set_option maxRecDepth 65536 in
theorem w_runnable : about1.curStatus? = some .runnable := by decide +kernel
set_option maxRecDepth 65536 in
theorem w_alone : about1.alone = true := by decide +kernel
set_option maxRecDepth 65536 in
theorem w_named : about1.methodNamed? x = some theMethod := by decide +kernel
set_option maxRecDepth 65536 in
theorem w_hears : about1.hears theMethod below0 = true := by decide +kernel
set_option maxRecDepth 65536 in
theorem w_ripe : about1.ripe theMethod args0 below0 = true := by decide +kernel
theorem w_running : about1.status = .running := rfl
set_option maxRecDepth 65536 in
theorem w_room : about1.hasRoom e0.platform room_1 = true :=
  launch0.hasRoom_least _ room_1 (by decide +kernel) (by decide +kernel) (by decide +kernel) (by decide +kernel) (by decide +kernel) (by decide +kernel)
theorem allAtoms_all (ts : List Jvm.Cond) (a : Array Jvm.Value) (st : Jvm.State) : (allAtoms ts).before a st = ts.all (fun c => c.before a st) := by
  induction ts with
  | nil => rfl
  | cons c t ih =>
    show (Jvm.Cond.and c (allAtoms t)).before a st = _
    rw [Jvm.Cond.before_and, ih, List.all_cons]
def words1 : List Jvm.Cond := Jvm.Cond.code x code maxLocals ret :: tables_1
/-- a 'code' word, met by the world's own term for the bytes: nothing is compared byte by byte -/
theorem code_word {y : MethodName} {bytes : ByteArray} {mx : Nat} {rt : Option FieldType} {a : Array Value} {s : State} {m : MethodId} {meth : Method} {c : Code} (h1 : s.methodNamed? y = some m) (h2 : s.vm.method? m = some meth) (h3 : meth.code = some c) (h4 : c.code = bytes)
    (h5 : (c.maxLocals == mx && c.exceptionTable.isEmpty && decide (c.maxStack ≤ mostOperands) && decide (meth.sig.returnType = rt) && !meth.locks && decide (parseMethodDescriptor y.desc = some meth.sig)) = true) : (Jvm.Cond.code y bytes mx rt).before a s = true := by
  simp only [Bool.and_eq_true, beq_iff_eq, Bool.not_eq_true', decide_eq_true_eq] at h5
  obtain ⟨⟨⟨⟨⟨g1, g2⟩, g3⟩, g4⟩, g5⟩, g6⟩ := h5
  simp [Cond.before, Cond.holds, Cond.value, h1, h2, h3, h4, g1, g2, g3, g4, g5, g6]
def isCode : Jvm.Cond → Bool
  | .code _ _ _ _ => true
  | _ => false
theorem all_split {L : List Jvm.Cond} {P : Jvm.Cond → Bool} (h1 : L.all (fun c => isCode c || P c) = true) (h2 : ∀ c ∈ L.filter isCode, P c = true) : L.all P = true := by
  refine List.all_eq_true.mpr fun c hc => ?_
  have h := List.all_eq_true.mp h1 c hc
  rcases Bool.eq_false_or_eq_true (isCode c) with hi | hi
  · exact h2 c (List.mem_filter.mpr ⟨hc, hi⟩)
  · simpa [hi] using h
set_option maxRecDepth 65536 in
theorem w_c0 : (Jvm.Cond.code x code maxLocals ret).before args0 about1 = true := code_word (m := ⟨1, 1⟩) (meth := k1m1) (c := k1c1) (by decide +kernel) rfl rfl rfl (by decide +kernel)
set_option maxRecDepth 65536 in
theorem w_c1 : (Jvm.Cond.code ({ cls := "com/example/arvio/arvio/lang/Bits", name := "clear", desc := "([JI)V" } : Jvm.MethodName) prog_85_method_5_code (2 : Nat) (Option.none : Option Jvm.ClassFile.FieldType)).before args0 about1 = true := code_word (m := ⟨2, 1⟩) (meth := k2m1) (c := k2c1) (by decide +kernel) rfl rfl rfl (by decide +kernel)
set_option maxRecDepth 65536 in
theorem w_c2 : (Jvm.Cond.code ({ cls := "com/example/arvio/arvio/lang/BitsClearPinLaw", name := "word", desc := "(JJZJ)Z" } : Jvm.MethodName) method_3_code (7 : Nat) (Option.some Jvm.ClassFile.FieldType.boolean)).before args0 about1 = true := code_word (m := ⟨1, 2⟩) (meth := k1m2) (c := k1c2) (by decide +kernel) rfl rfl rfl (by decide +kernel)
def codes1 : List Jvm.Cond := [Jvm.Cond.code x code maxLocals ret, Jvm.Cond.code ({ cls := "com/example/arvio/arvio/lang/Bits", name := "clear", desc := "([JI)V" } : Jvm.MethodName) prog_85_method_5_code (2 : Nat) (Option.none : Option Jvm.ClassFile.FieldType), Jvm.Cond.code ({ cls := "com/example/arvio/arvio/lang/BitsClearPinLaw", name := "word", desc := "(JJZJ)Z" } : Jvm.MethodName) method_3_code (7 : Nat) (Option.some Jvm.ClassFile.FieldType.boolean)]
set_option maxRecDepth 65536 in
theorem codes_eq : words1.filter isCode = codes1 := rfl
theorem w_codes : ∀ c ∈ words1.filter isCode, c.before args0 about1 = true := by
  rw [codes_eq]
  intro c hc
  simp only [codes1, List.mem_cons, List.not_mem_nil, or_false] at hc
  rcases hc with rfl | rfl | rfl
  · exact w_c0
  · exact w_c1
  · exact w_c2
set_option maxRecDepth 65536 in
theorem w_t1 : words1.all (fun c => isCode c || c.before args0 about1) = true := by decide +kernel
theorem w_tables : (allAtoms (Jvm.Cond.code x code maxLocals ret :: tables_1)).before args0 about1 = true := by
  rw [allAtoms_all]
  show words1.all (fun c => c.before args0 about1) = true
  refine all_split ?_ w_codes
  rw [w_t1]
set_option maxRecDepth 65536 in
theorem w_case : (Jvm.Cond.and given_1 narrow_1).before args0 about1 = true := by decide +kernel
theorem w_applies : (headSpec (Jvm.Cond.code x code maxLocals ret :: tables_1) room_1).applies x e0.platform about1 = true :=
  (Spec.applies_iff w_frames).mpr ⟨w_running, w_runnable, w_alone, w_named, w_hears, w_ripe, w_room, w_tables⟩
theorem atStart : AtStart classFile x code maxLocals ret World_1 tables_1 room_1 Calls_1 rest_1 Pre_1 launch0 p0 e0 about1 theMethod args0 below0 :=
  ⟨lists_1, trivial, launch0.admits_env _ _ _, launch0.least_env, fairChoices_fair.cas, fairChoices_fair.clock, w_frames, w_args, w_heap, w_applies, trivial, trivial, w_case⟩
end start1
theorem witness_1 : WitnessClaimed_1 := ⟨start1.p0, start1.e0, start1.about1, start1.theMethod, start1.args0, start1.below0, start1.atStart⟩
end Jvm.Pilot.@@N@@
