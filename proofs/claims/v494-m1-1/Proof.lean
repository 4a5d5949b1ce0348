import JvmDerived
import JvmDerived.Pilot.@@N@@Statement
import JvmDerived.Pilot.@@N@@Code
set_option linter.unusedVariables false
set_option linter.unusedSimpArgs false
namespace Jvm.RoadKit
open Sem ClassFile Op Lib Jvm.Stand Jvm.Free Jvm.LawKit
section New
variable {p : Program} {l : Launch} {e : Env} {R : Room} {s : State} {m : MethodId} {args : Array Value} {below : List Frame} {meth : Method} {c : Code} {T : State} {locs : List Loc} {cells slots : Nat}
theorem retI (X : Stand p l e R s m args below meth c T locs cells slots) (hx : p.tables.exec = Jvm.exec) {pc : Nat} {Ls : Array Slot} {z : Int32} {rest : List Value} (hret : meth.sig.returnType = some .int) (hd : decode c.code pc = .ok (.ireturn, 1)) {fs : List Frame}
    (hl : ∀ (f : JFrame) (acts : List Action), f.method = m → f.locked = none → f.entered = [] → (doReturn e (T.setTop f) acts (some (.int z))).1 = T.setFrames fs) : Steps p.tables e below (T.setTop (mkF m pc Ls (.int z :: rest))) (T.setFrames fs) := by
  have hm' : T.vm.method? m = some meth := X.method'
  have hn : narrow .int (.int z) = .int z := rfl
  show Steps p.tables e below (T.setTop { method := m, pc := pc, locals := Ls, stack := _ :: rest, locked := none }) _
  jvm_step X.here [X.here.top, hx, hd, hm', hret, hn]
  first | (intro acts; rw [hl _ acts rfl rfl rfl]) | rw [hl _ _ rfl rfl rfl]
  exact Steps.refl _
end New
end Jvm.RoadKit
namespace Jvm.Pilot.@@N@@
open Jvm Jvm.ClassFile Sem Op Lib Jvm.Free Jvm.Stand Jvm.LawKit Jvm.RoadKit Bundle Jvm.Pilot.@@N@@.Jvm.D
theorem own_lc_lt (x y : Int64) : lcmpW x y < 0 ↔ x < y := by rw [lcW]; exact lc_lt x y
theorem own_lc_gt (x y : Int64) : 0 < lcmpW x y ↔ y < x := by rw [lcW]; exact lc_gt x y
theorem own_lc_eq (x y : Int64) : lcmpW x y = 0 ↔ x = y := by rw [lcW]; exact lc_eq x y
theorem own_ri {P : Prop} [Decidable P] {a b : Value} (h1 : a.isRef = true) (h2 : b.isRef = true) : (if P then a else b).isRef = true := by
  by_cases h : P
  · rw [if_pos h]; exact h1
  · rw [if_neg h]; exact h2
theorem own_sta_keep {Z : State} {h h' : Heap} {C n d : String} {w : Value} {ws : List Addr} (F : Sta Z h C n d w) (K : Keep h h' ws) (q : ∀ x ∈ ws, ∀ cell : Cell, h[x]? = some cell → cell.vm.isStatics = false) : Sta Z h' C n d w := by
  obtain ⟨cf, i, k, f, st, cell, h1, h2, h3, h4, h5, h6, h7⟩ := F
  exact ⟨cf, i, k, f, st, cell, h1, h2, h3, h4, K.2.1 st cell h5 (fun z => by rw [q st z cell h5] at h6; cases h6), h6, h7⟩
theorem pd_0 : parseMethodDescriptor "([JI)Z" = some ⟨[(.array .long), .int], some .boolean⟩ := by decide +kernel
theorem own_shl (x : Int64) (q : Int32) (k : Nat) (hk : q.toBitVec.toNat % 64 = k) : (x <<< (q &&& 0x3f).toInt64).toBitVec = x.toBitVec <<< k := by
  show x.toBitVec <<< ((q &&& 0x3f).toInt64.toBitVec.smod 64) = _
  rw [BitVec.shiftLeft_eq', (sm64 q k hk).1, smod64 k (sm64 q k hk).2]
theorem own_ushr (x : Int64) (q : Int32) (k : Nat) (hk : q.toBitVec.toNat % 64 = k) : ((x.toUInt64 >>> (q &&& 0x3f).toInt64.toUInt64).toInt64).toBitVec = x.toBitVec >>> k := by
  show x.toBitVec >>> ((q &&& 0x3f).toInt64.toBitVec % 64) = _
  have h5 := (sm64 q k hk).2
  rw [BitVec.ushiftRight_eq', BitVec.toNat_umod, (sm64 q k hk).1, BitVec.toNat_ofNat]
  congr 1
  show k % 2 ^ 64 % 64 = k
  omega
theorem own_bit (w : Int64) (q : Int32) (k : Nat) (hk : q.toBitVec.toNat % 64 = k) : (w &&& ((1 : Int64) <<< (q &&& 0x3f).toInt64)) = 0 ↔ w.toBitVec.getLsbD k = false := by
  have h5 := (sm64 q k hk).2
  rw [← Int64.toBitVec_inj, Int64.toBitVec_and, own_shl _ q k hk]
  show w.toBitVec &&& (1#64 <<< k) = 0#64 ↔ _
  rw [show 1#64 <<< k = BitVec.twoPow 64 k from rfl, BitVec.and_twoPow]
  cases h : w.toBitVec.getLsbD k
  · simp
  · simp only [if_true]
    constructor
    · intro q
      have := congrArg (fun b => b.getLsbD k) q
      simp [h5] at this
    · intro q; cases q
theorem own_bit' (w : Int64) (q : Int32) (k : Nat) (hk : q.toBitVec.toNat % 64 = k) : (((w.toUInt64 >>> (q &&& 0x3f).toInt64.toUInt64).toInt64) &&& (1 : Int64)) = 0 ↔ w.toBitVec.getLsbD k = false := by
  rw [← Int64.toBitVec_inj, Int64.toBitVec_and, own_ushr _ q k hk]
  show (w.toBitVec >>> k) &&& 1#64 = 0#64 ↔ _
  rw [show 1#64 = BitVec.twoPow 64 0 from rfl, BitVec.and_twoPow, BitVec.getLsbD_ushiftRight, Nat.add_zero]
  cases h : w.toBitVec.getLsbD k
  · simp
  · simp only [if_true]
    constructor
    · intro q; exact absurd q (by decide)
    · intro q; cases q
theorem own_rng (b : Int32) : 0 ≤ ((b &&& (2147483647 : Int32)) % (192 : Int32)).toInt ∧ ((b &&& (2147483647 : Int32)) % (192 : Int32)).toInt < 192 := by
  have h := c_and b (2147483647 : Int32) (by decide)
  have q := (c_irem (b &&& (2147483647 : Int32)) (192 : Int32) 192 rfl).1 h.1
  omega
/-- which word -/
def own_idx (bit : Int32) : Int32 := (if bit < (64 : Int32) then (0 : Int32) else (if bit < (128 : Int32) then (1 : Int32) else (2 : Int32)))
def own_pick (w0 w1 w2 : Int64) (i : Int32) : Int64 := (if i = (0 : Int32) then w0 else (if i = (1 : Int32) then w1 else w2))
theorem own_cases {bit : Int32} (h : 0 ≤ bit.toInt ∧ bit.toInt < 192) : (own_idx bit = 0 ∧ bit.toInt < 64) ∨ (own_idx bit = 1 ∧ 64 ≤ bit.toInt ∧ bit.toInt < 128) ∨ (own_idx bit = 2 ∧ 128 ≤ bit.toInt) := by
  unfold own_idx
  simp only [Int32.lt_iff_toInt_lt, show (64 : Int32).toInt = 64 from rfl, show (128 : Int32).toInt = 128 from rfl]
  by_cases h1 : bit.toInt < 64
  · exact Or.inl ⟨if_pos h1, h1⟩
  · rw [if_neg h1]
    by_cases h2 : bit.toInt < 128
    · exact Or.inr (Or.inl ⟨if_pos h2, by omega, h2⟩)
    · exact Or.inr (Or.inr ⟨if_neg h2, by omega⟩)
theorem own_div {bit : Int32} (h : 0 ≤ bit.toInt ∧ bit.toInt < 192) : bit / (64 : Int32) = own_idx bit := by
  have q := (c_idiv bit (64 : Int32) 64 rfl (by decide)).1 h.1
  rcases own_cases h with ⟨e, r⟩ | ⟨e, r⟩ | ⟨e, r⟩ <;> rw [e] <;> apply Int32.toInt_inj.mp
  · rw [q]; show bit.toInt / 64 = 0; omega
  · rw [q]; show bit.toInt / 64 = 1; omega
  · rw [q]; show bit.toInt / 64 = 2; omega
theorem own_sub {bit : Int32} (h : 0 ≤ bit.toInt ∧ bit.toInt < 192) : bit - (64 : Int32) * own_idx bit = bit % (64 : Int32) := by
  have q := (c_irem bit (64 : Int32) 64 rfl).1 h.1
  have r1 := Int32.le_toInt (bit - (64 : Int32) * own_idx bit)
  have r2 := Int32.toInt_lt (bit - (64 : Int32) * own_idx bit)
  apply Int32.toInt_inj.mp
  rw [q]
  rcases own_cases h with ⟨e, r⟩ | ⟨e, r⟩ | ⟨e, r⟩ <;> rw [e] at r1 r2 ⊢
  · have := c_isub bit ((64 : Int32) * 0); rw [show ((64 : Int32) * 0).toInt = 0 from rfl] at this; omega
  · have := c_isub bit ((64 : Int32) * 1); rw [show ((64 : Int32) * 1).toInt = 64 from rfl] at this; omega
  · have := c_isub bit ((64 : Int32) * 2); rw [show ((64 : Int32) * 2).toInt = 128 from rfl] at this; omega
theorem own_in {bit : Int32} (h : 0 ≤ bit.toInt ∧ bit.toInt < 192) : ¬ own_idx bit < 0 ∧ own_idx bit < (3 : Int32) := by
  rcases own_cases h with ⟨e, r⟩ | ⟨e, r⟩ | ⟨e, r⟩ <;> rw [e] <;> decide
theorem own_get {bit : Int32} (h : 0 ≤ bit.toInt ∧ bit.toInt < 192) (w0 w1 w2 : Int64) (d : Value) : [Value.long w0, Value.long w1, Value.long w2].getD (own_idx bit).toNatClampNeg d = .long (own_pick w0 w1 w2 (own_idx bit)) := by
  rcases own_cases h with ⟨e, r⟩ | ⟨e, r⟩ | ⟨e, r⟩ <;> rw [e] <;> rfl
def own_is (w3 : Int64) (p1 : Int32) : Int32 := (if (w3 &&& ((1 : Int64) <<< ((p1 % (64 : Int32)) &&& 0x3f).toInt64)) = (0 : Int64) then (0 : Int32) else (1 : Int32))
theorem d1_0 : decode prog_85_method_3_code 0 = .ok (.aload_n 0, 1) := by decide +kernel
theorem d1_1 : decode prog_85_method_3_code 1 = .ok (.iload_n 1, 1) := by decide +kernel
theorem d1_2 : decode prog_85_method_3_code 2 = .ok (.bipush 64, 2) := by decide +kernel
theorem d1_4 : decode prog_85_method_3_code 4 = .ok (.idiv, 1) := by decide +kernel
theorem d1_5 : decode prog_85_method_3_code 5 = .ok (.laload, 1) := by decide +kernel
theorem d1_6 : decode prog_85_method_3_code 6 = .ok (.lconst 1, 1) := by decide +kernel
theorem d1_7 : decode prog_85_method_3_code 7 = .ok (.iload_n 1, 1) := by decide +kernel
theorem d1_8 : decode prog_85_method_3_code 8 = .ok (.bipush 64, 2) := by decide +kernel
theorem d1_10 : decode prog_85_method_3_code 10 = .ok (.irem, 1) := by decide +kernel
theorem d1_11 : decode prog_85_method_3_code 11 = .ok (.lshl, 1) := by decide +kernel
theorem d1_12 : decode prog_85_method_3_code 12 = .ok (.land, 1) := by decide +kernel
theorem d1_13 : decode prog_85_method_3_code 13 = .ok (.lconst 0, 1) := by decide +kernel
theorem d1_14 : decode prog_85_method_3_code 14 = .ok (.lcmp, 1) := by decide +kernel
theorem d1_15 : decode prog_85_method_3_code 15 = .ok (.ifCond .eq 7, 3) := by decide +kernel
theorem d1_18 : decode prog_85_method_3_code 18 = .ok (.iconst 1, 1) := by decide +kernel
theorem d1_19 : decode prog_85_method_3_code 19 = .ok (.goto 4, 3) := by decide +kernel
theorem d1_22 : decode prog_85_method_3_code 22 = .ok (.iconst 0, 1) := by decide +kernel
theorem d1_23 : decode prog_85_method_3_code 23 = .ok (.ireturn, 1) := by decide +kernel
theorem pn_0 : plainName "com/example/arvio/arvio/lang/Bits" = true := by first | (simp [plainName, overriddenIn]; done) | decide +kernel
theorem ef_rm1 (m : MethodId) (x0 : Addr) (x1 : Int32) : entryFrame m #[(.ref x0), (.int x1)] 2 = mkF m 0 #[.val (.ref x0), .val (.int x1)] [] := by first | (simp [entryFrame, mkF, argsToLocals, Value.category]; done) | rfl
def Q_rm1 (Z : State) (r0 : Addr) (p1 : Int32) (cl : Cell) (w3 : Int64) (h0 : Heap) (n0 : Nat) (v : Option Value) (h : Heap) (L : List Loc) : Prop := v = some (.int (own_is w3 p1)) ∧ Fr n0 L ∧ h = h0
set_option maxRecDepth 65536 in
set_option maxHeartbeats 40000000 in
theorem rm1 (l : Launch) (Z : State) (a0 : Array Value) (hw : ∀ d ∈ tables_1, d.before a0 Z = true) (ws : List Jvm.Cond) (r0 : Addr) (p1 : Int32) (cl : Cell) (w3 : Int64) (h0 : Heap) (n0 : Nat) (Z0 : n0 ≤ h0.size) (Ar : Arr Z h0 r0 cl .long) (hin : ¬ (p1 / (64 : Int32) < 0 ∨ cl.slots.size ≤ (p1 / (64 : Int32)).toNatClampNeg)) (hat : cl.slots[(p1 / (64 : Int32)).toNatClampNeg]? = some (.long w3)) :
    MetFree l (⟨"com/example/arvio/arvio/lang/Bits", "isSet", "([JI)Z"⟩ : MethodName) (head1 (Jvm.Cond.code (⟨"com/example/arvio/arvio/lang/Bits", "isSet", "([JI)Z"⟩ : MethodName) prog_85_method_3_code 2 (some .boolean) :: ws) ({ frames := 0, cells := 0, slots := 0, locals := 0 } : Room)) (fun a U => a = #[(.ref r0), (.int p1)] ∧ Z.Warmed39 U.vm ∧ U.heap = h0) (fun _ _ _ _ _ => True) (fun _ U o U' => ∃ v L, o = .returned v ∧ Q_rm1 Z r0 p1 cl w3 h0 n0 v U'.heap L ∧ FrameEnd U o U' L ({ frames := 0, cells := 0, slots := 0, locals := 0 } : Room).cells ({ frames := 0, cells := 0, slots := 0, locals := 0 } : Room).slots) := by
  refine MetFree.of_bodySF (plainFor_of_name pn_0) hisR ?_
  intro p e s m args below meth c s₁ Bd hml0 hP hK
  obtain ⟨rfl, hZ, hh⟩ := hP
  have hx := Bd.exec
  have hby := Bd.bytes
  have hml : c.maxLocals = 2 := hml0
  have hown : s.vm.findClass "com/example/arvio/arvio/lang/Bits" = some m.cls := findClass_of_methodNamed Bd.named
  have hnm := (name_of_methodNamed Bd.named Bd.method).1
  have X0 : Stand p l e ({ frames := 0, cells := 0, slots := 0, locals := 0 } : Room) s m #[(.ref r0), (.int p1)] below meth c s₁ [] 0 0 := Stand.of_body Bd
  have e0 : s₁.heap = h0 := by rw [← hh, Bd.state]; rfl
  have N0 := Fr.nil n0
  have pre0 : ∀ t, Steps p.tables e below (s₁.setTop (mkF m 0 #[.val (.ref r0), .val (.int p1)] [])) t → Steps p.tables e below (s₁.setTop (entryFrame m #[(.ref r0), (.int p1)] 2)) t := fun t k => castTop (ef_rm1 m r0 p1) k
  have st1 : ∀ target, Steps p.tables e below (s₁.setTop (mkF m 5 #[.val (.ref r0), .val (.int p1)] [(.int (p1 / (64 : Int32))), (.ref r0)])) target → Steps p.tables e below (s₁.setTop (mkF m 0 #[.val (.ref r0), .val (.int p1)] [])) target := by
    intro target kt
    show Steps p.tables e below (s₁.setTop (mkF m 0 #[.val (.ref r0), .val (.int p1)] [])) _
    refine XS.aloadN X0.here hx rfl (hb hby d1_0) rfl rfl ?_
    show Steps p.tables e below (s₁.setTop (mkF m 1 #[.val (.ref r0), .val (.int p1)] [(.ref r0)])) _
    refine XS.iloadN X0.here hx rfl (hb hby d1_1) rfl ?_
    show Steps p.tables e below (s₁.setTop (mkF m 2 #[.val (.ref r0), .val (.int p1)] [(.int p1), (.ref r0)])) _
    refine XS.bipush X0.here hx rfl (hb hby d1_2) ?_
    show Steps p.tables e below (s₁.setTop (mkF m 4 #[.val (.ref r0), .val (.int p1)] [(.int (64 : Int32)), (.int p1), (.ref r0)])) _
    refine XS.idiv X0.here hx rfl (hb hby d1_4) rfl (by decide) ?_
    exact kt
  have st2 : ∀ target, Steps p.tables e below (s₁.setTop (mkF m 6 #[.val (.ref r0), .val (.int p1)] [(.long w3)])) target → Steps p.tables e below (s₁.setTop (mkF m 5 #[.val (.ref r0), .val (.int p1)] [(.int (p1 / (64 : Int32))), (.ref r0)])) target := fun target kt => X0.laload hx (j := (p1 / (64 : Int32))) (v := (.long w3)) (by rw [e0]; exact Ar.1) (State.isArrayOf_alike hZ.alike Ar.2.1) Ar.2.2 hin hat (g := (mkF m 5 #[.val (.ref r0), .val (.int p1)] [(.int (p1 / (64 : Int32))), (.ref r0)])) rfl rfl (hb hby d1_5) _ kt
  obtain ⟨fs, hr, hrun, hended, hW, hsame⟩ := X0.leave (v := some (.int (if (w3 &&& ((1 : Int64) <<< ((p1 % (64 : Int32)) &&& 0x3f).toInt64)) = (0 : Int64) then (0 : Int32) else (1 : Int32)))) (fun h => by rw [Bd.returns] at h; cases h)
  refine ⟨_, _, pre0 _ (st1 _ (st2 _ ?_)), hrun, hended, _, _, rfl, ?_, ⟨_, rfl⟩, hW, hsame.mono (by decide) (by decide)⟩
  · show Steps p.tables e below (s₁.setTop (mkF m 6 #[.val (.ref r0), .val (.int p1)] [(.long w3)])) _
    refine XS.lconst X0.here hx rfl (hb hby d1_6) ?_
    show Steps p.tables e below (s₁.setTop (mkF m 7 #[.val (.ref r0), .val (.int p1)] [(.long (1 : Int64)), (.long w3)])) _
    refine XS.iloadN X0.here hx rfl (hb hby d1_7) rfl ?_
    show Steps p.tables e below (s₁.setTop (mkF m 8 #[.val (.ref r0), .val (.int p1)] [(.int p1), (.long (1 : Int64)), (.long w3)])) _
    refine XS.bipush X0.here hx rfl (hb hby d1_8) ?_
    show Steps p.tables e below (s₁.setTop (mkF m 10 #[.val (.ref r0), .val (.int p1)] [(.int (64 : Int32)), (.int p1), (.long (1 : Int64)), (.long w3)])) _
    refine iremM (g := (mkF m 10 #[.val (.ref r0), .val (.int p1)] [(.int (64 : Int32)), (.int p1), (.long (1 : Int64)), (.long w3)])) X0 hx rfl (hb hby d1_10) rfl (by decide) ?_
    show Steps p.tables e below (s₁.setTop (mkF m 11 #[.val (.ref r0), .val (.int p1)] [(.int (p1 % (64 : Int32))), (.long (1 : Int64)), (.long w3)])) _
    refine XS.lshl X0.here hx rfl (hb hby d1_11) rfl ?_
    show Steps p.tables e below (s₁.setTop (mkF m 12 #[.val (.ref r0), .val (.int p1)] [(.long ((1 : Int64) <<< ((p1 % (64 : Int32)) &&& 0x3f).toInt64)), (.long w3)])) _
    refine XS.land X0.here hx rfl (hb hby d1_12) rfl ?_
    show Steps p.tables e below (s₁.setTop (mkF m 13 #[.val (.ref r0), .val (.int p1)] [(.long (w3 &&& ((1 : Int64) <<< ((p1 % (64 : Int32)) &&& 0x3f).toInt64)))])) _
    refine XS.lconst X0.here hx rfl (hb hby d1_13) ?_
    show Steps p.tables e below (s₁.setTop (mkF m 14 #[.val (.ref r0), .val (.int p1)] [(.long (0 : Int64)), (.long (w3 &&& ((1 : Int64) <<< ((p1 % (64 : Int32)) &&& 0x3f).toInt64)))])) _
    refine XS.lcmp X0.here hx rfl (hb hby d1_14) rfl ?_
    by_cases hc15 : (w3 &&& ((1 : Int64) <<< ((p1 % (64 : Int32)) &&& 0x3f).toInt64)) = (0 : Int64)
    · rw [if_pos hc15] at hr
      show Steps p.tables e below (s₁.setTop (mkF m 15 #[.val (.ref r0), .val (.int p1)] [(.int (lcmpW (w3 &&& ((1 : Int64) <<< ((p1 % (64 : Int32)) &&& 0x3f).toInt64)) (0 : Int64)))])) _
      refine XS.ifYes X0.here hx rfl (pc0 := 15) (pc' := 22) rfl (hb hby d1_15) rfl ((if0 _ _).trans (teq ((own_lc_eq _ _).mpr hc15)).1) (by decide) (by decide) ?_
      show Steps p.tables e below (s₁.setTop (mkF m 22 #[.val (.ref r0), .val (.int p1)] [])) _
      refine XS.iconst X0.here hx rfl (hb hby d1_22) ?_
      show Steps p.tables e below (s₁.setTop (mkF m 23 #[.val (.ref r0), .val (.int p1)] [(.int (0 : Int32))])) _
      exact retN X0 hx (t := .boolean) Bd.returns (by simp) (hb hby d1_23) hr
    · rw [if_neg hc15] at hr
      show Steps p.tables e below (s₁.setTop (mkF m 15 #[.val (.ref r0), .val (.int p1)] [(.int (lcmpW (w3 &&& ((1 : Int64) <<< ((p1 % (64 : Int32)) &&& 0x3f).toInt64)) (0 : Int64)))])) _
      refine XS.ifNo X0.here hx rfl (hb hby d1_15) rfl ((if0 _ _).trans (feq (mt (own_lc_eq _ _).mp hc15)).1) ?_
      show Steps p.tables e below (s₁.setTop (mkF m 18 #[.val (.ref r0), .val (.int p1)] [])) _
      refine XS.iconst X0.here hx rfl (hb hby d1_18) ?_
      show Steps p.tables e below (s₁.setTop (mkF m 19 #[.val (.ref r0), .val (.int p1)] [(.int (1 : Int32))])) _
      refine XS.goto X0.here hx rfl (pc0 := 19) (pc' := 23) rfl (hb hby d1_19) (by decide) (by decide) ?_
      show Steps p.tables e below (s₁.setTop (mkF m 23 #[.val (.ref r0), .val (.int p1)] [(.int (1 : Int32))])) _
      exact retN X0 hx (t := .boolean) Bd.returns (by simp) (hb hby d1_23) hr
  · show Q_rm1 Z r0 p1 cl w3 h0 n0 _ s₁.heap _
    rw [e0]
    exact ⟨rfl, N0, rfl⟩
theorem own_law {bit : Int32} (h : 0 ≤ bit.toInt ∧ bit.toInt < 192) (w : Int64) : own_is w bit = (if (((w.toUInt64 >>> ((bit - ((64 : Int32) * own_idx bit)) &&& 0x3f).toInt64.toUInt64).toInt64) &&& (1 : Int64)) = (0 : Int64) then (0 : Int32) else (1 : Int32)) := by
  rw [own_sub h]
  unfold own_is
  cases q : w.toBitVec.getLsbD ((bit % (64 : Int32)).toBitVec.toNat % 64)
  · rw [if_pos ((own_bit w _ _ rfl).mpr q), if_pos ((own_bit' w _ _ rfl).mpr q)]
  · rw [if_neg (fun r => by rw [(own_bit w _ _ rfl).mp r] at q; cases q), if_neg (fun r => by rw [(own_bit' w _ _ rfl).mp r] at q; cases q)]
theorem pn_1 : plainName "com/example/arvio/arvio/lang/BitsIsSetPinLaw" = true := by first | (simp [plainName, overriddenIn]; done) | decide +kernel
theorem ef_rm0 (m : MethodId) (x0 : Int64) (x1 : Int64) (x2 : Int64) (x3 : Int32) : entryFrame m #[(.long x0), (.long x1), (.long x2), (.int x3)] maxLocals = mkF m 0 #[.val (.long x0), .second, .val (.long x1), .second, .val (.long x2), .second, .val (.int x3), .unset, .unset, .unset, .unset, .unset, .unset, .unset, .unset, .unset] [] := by first | (simp [entryFrame, mkF, argsToLocals, Value.category, maxLocals]; done) | rfl
def Q_rm0 (Z : State) (q0 : Int64) (q1 : Int64) (q2 : Int64) (p3 : Int32) (h0 : Heap) (n0 : Nat) (v : Option Value) (h : Heap) (L : List Loc) : Prop := v = some (.int 1) ∧ Fr n0 L
set_option maxRecDepth 65536 in
set_option maxHeartbeats 40000000 in
theorem rm0 (l : Launch) (Z : State) (a0 : Array Value) (hw : ∀ d ∈ tables_1, d.before a0 Z = true) (ws : List Jvm.Cond) (q0 : Int64) (q1 : Int64) (q2 : Int64) (p3 : Int32) (h0 : Heap) (n0 : Nat) (Z0 : n0 ≤ h0.size) :
    MetFree l x (head1 (Jvm.Cond.code x code maxLocals ret :: ws) room_1) (fun a U => a = #[(.long q0), (.long q1), (.long q2), (.int p3)] ∧ Z.Warmed39 U.vm ∧ U.heap = h0) (fun _ _ _ _ _ => True) (fun _ U o U' => ∃ v L, o = .returned v ∧ Q_rm0 Z q0 q1 q2 p3 h0 n0 v U'.heap L ∧ FrameEnd U o U' L room_1.cells room_1.slots) := by
  refine MetFree.of_bodySF (plainFor_of_name pn_1) hisR ?_
  intro p e s m args below meth c s₁ Bd hml0 hP hK
  obtain ⟨rfl, hZ, hh⟩ := hP
  have hx := Bd.exec
  have hby := Bd.bytes
  have hml : c.maxLocals = 16 := hml0
  have hown : s.vm.findClass "com/example/arvio/arvio/lang/BitsIsSetPinLaw" = some m.cls := findClass_of_methodNamed Bd.named
  have hnm := (name_of_methodNamed Bd.named Bd.method).1
  have X0 : Stand p l e room_1 s m #[(.long q0), (.long q1), (.long q2), (.int p3)] below meth c s₁ [] 0 0 := Stand.of_body Bd
  have e0 : s₁.heap = h0 := by rw [← hh, Bd.state]; rfl
  have N0 := Fr.nil n0
  have pre0 : ∀ t, Steps p.tables e below (s₁.setTop (mkF m 0 #[.val (.long q0), .second, .val (.long q1), .second, .val (.long q2), .second, .val (.int p3), .unset, .unset, .unset, .unset, .unset, .unset, .unset, .unset, .unset] [])) t → Steps p.tables e below (s₁.setTop (entryFrame m #[(.long q0), (.long q1), (.long q2), (.int p3)] maxLocals)) t := fun t k => castTop (ef_rm0 m q0 q1 q2 p3) k
  have st1 : ∀ target, Steps p.tables e below (s₁.setTop (mkF m 11 #[.val (.long q0), .second, .val (.long q1), .second, .val (.long q2), .second, .val (.int p3), .val (.int ((p3 &&& (2147483647 : Int32)) % (192 : Int32))), .unset, .unset, .unset, .unset, .unset, .unset, .unset, .unset] [])) target → Steps p.tables e below (s₁.setTop (mkF m 0 #[.val (.long q0), .second, .val (.long q1), .second, .val (.long q2), .second, .val (.int p3), .unset, .unset, .unset, .unset, .unset, .unset, .unset, .unset, .unset] [])) target := by
    intro target kt
    show Steps p.tables e below (s₁.setTop (mkF m 0 #[.val (.long q0), .second, .val (.long q1), .second, .val (.long q2), .second, .val (.int p3), .unset, .unset, .unset, .unset, .unset, .unset, .unset, .unset, .unset] [])) _
    refine XS.iload X0.here hx rfl (hb hby at_0) rfl ?_
    show Steps p.tables e below (s₁.setTop (mkF m 2 #[.val (.long q0), .second, .val (.long q1), .second, .val (.long q2), .second, .val (.int p3), .unset, .unset, .unset, .unset, .unset, .unset, .unset, .unset, .unset] [(.int p3)])) _
    refine X0.ldcInt hx hown (mvT hZ (hw _ (List.mem_of_getElem? (i := 0) rfl))) (g := (mkF m 2 #[.val (.long q0), .second, .val (.long q1), .second, .val (.long q2), .second, .val (.int p3), .unset, .unset, .unset, .unset, .unset, .unset, .unset, .unset, .unset] [(.int p3)])) rfl (hb hby at_2) _ ?_
    show Steps p.tables e below (s₁.setTop (mkF m 4 #[.val (.long q0), .second, .val (.long q1), .second, .val (.long q2), .second, .val (.int p3), .unset, .unset, .unset, .unset, .unset, .unset, .unset, .unset, .unset] [(.int (2147483647 : Int32)), (.int p3)])) _
    refine XS.iand X0.here hx rfl (hb hby at_4) rfl ?_
    show Steps p.tables e below (s₁.setTop (mkF m 5 #[.val (.long q0), .second, .val (.long q1), .second, .val (.long q2), .second, .val (.int p3), .unset, .unset, .unset, .unset, .unset, .unset, .unset, .unset, .unset] [(.int (p3 &&& (2147483647 : Int32)))])) _
    refine XS.sipush X0.here hx rfl (hb hby at_5) ?_
    show Steps p.tables e below (s₁.setTop (mkF m 8 #[.val (.long q0), .second, .val (.long q1), .second, .val (.long q2), .second, .val (.int p3), .unset, .unset, .unset, .unset, .unset, .unset, .unset, .unset, .unset] [(.int (192 : Int32)), (.int (p3 &&& (2147483647 : Int32)))])) _
    refine iremM (g := (mkF m 8 #[.val (.long q0), .second, .val (.long q1), .second, .val (.long q2), .second, .val (.int p3), .unset, .unset, .unset, .unset, .unset, .unset, .unset, .unset, .unset] [(.int (192 : Int32)), (.int (p3 &&& (2147483647 : Int32)))])) X0 hx rfl (hb hby at_8) rfl (by decide) ?_
    show Steps p.tables e below (s₁.setTop (mkF m 9 #[.val (.long q0), .second, .val (.long q1), .second, .val (.long q2), .second, .val (.int p3), .unset, .unset, .unset, .unset, .unset, .unset, .unset, .unset, .unset] [(.int ((p3 &&& (2147483647 : Int32)) % (192 : Int32)))])) _
    refine XS.istore X0.here hx rfl (hb hby at_9) rfl (l' := #[.val (.long q0), .second, .val (.long q1), .second, .val (.long q2), .second, .val (.int p3), .val (.int ((p3 &&& (2147483647 : Int32)) % (192 : Int32))), .unset, .unset, .unset, .unset, .unset, .unset, .unset, .unset]) rfl ?_
    exact kt
  obtain ⟨bit, hbit⟩ : ∃ z : Int32, z = ((p3 &&& (2147483647 : Int32)) % (192 : Int32)) := ⟨_, rfl⟩
  rw [← hbit] at st1
  have hrng : 0 ≤ bit.toInt ∧ bit.toInt < 192 := hbit ▸ own_rng p3
  have st2 : ∀ target, Steps p.tables e below (s₁.setTop (mkF m 12 #[.val (.long q0), .second, .val (.long q1), .second, .val (.long q2), .second, .val (.int p3), .val (.int bit), .unset, .unset, .unset, .unset, .unset, .unset, .unset, .unset] [(.int (3 : Int32))])) target → Steps p.tables e below (s₁.setTop (mkF m 11 #[.val (.long q0), .second, .val (.long q1), .second, .val (.long q2), .second, .val (.int p3), .val (.int bit), .unset, .unset, .unset, .unset, .unset, .unset, .unset, .unset] [])) target := by
    intro target kt
    show Steps p.tables e below (s₁.setTop (mkF m 11 #[.val (.long q0), .second, .val (.long q1), .second, .val (.long q2), .second, .val (.int p3), .val (.int bit), .unset, .unset, .unset, .unset, .unset, .unset, .unset, .unset] [])) _
    refine XS.iconst X0.here hx rfl (hb hby at_11) ?_
    exact kt
  obtain ⟨T3, h3, k3, X3, e3, E3, A3, st3⟩ := newP X0 hx hZ (hw _ (List.mem_of_getElem? (i := 1) rfl)) e0 (g := (mkF m 12 #[.val (.long q0), .second, .val (.long q1), .second, .val (.long q2), .second, .val (.int p3), .val (.int bit), .unset, .unset, .unset, .unset, .unset, .unset, .unset, .unset] [(.int (3 : Int32))])) rfl (hb hby at_12) rfl (by decide) (cap := 3) (by decide) (by decide) (by decide) (by decide)
  obtain ⟨b, g3⟩ : ∃ z, z = h0.size := ⟨_, rfl⟩
  rw [← g3] at A3 st3
  have g_b : n0 ≤ b := Nat.le_trans Z0 (Nat.le_of_eq g3.symm)
  have Z_3 : n0 ≤ h3.size := Nat.le_trans Z0 E3.1
  have V_b : Arv Z h3 b k3 .long (3 : Int32) [(.long (0 : Int64)), (.long (0 : Int64)), (.long (0 : Int64))] (.long (0 : Int64)) := (Arv.new A3 (by decide)).pad (pad_rep [] (.long (0 : Int64)) 3)
  have st4 : ∀ target, Steps p.tables e below (T3.setTop (mkF m 17 #[.val (.long q0), .second, .val (.long q1), .second, .val (.long q2), .second, .val (.int p3), .val (.int bit), .unset, .unset, .unset, .unset, .unset, .unset, .unset, .unset] [(.long q0), (.int (0 : Int32)), (.ref b), (.ref b)])) target → Steps p.tables e below (T3.setTop (mkF m 14 #[.val (.long q0), .second, .val (.long q1), .second, .val (.long q2), .second, .val (.int p3), .val (.int bit), .unset, .unset, .unset, .unset, .unset, .unset, .unset, .unset] [(.ref b)])) target := by
    intro target kt
    show Steps p.tables e below (T3.setTop (mkF m 14 #[.val (.long q0), .second, .val (.long q1), .second, .val (.long q2), .second, .val (.int p3), .val (.int bit), .unset, .unset, .unset, .unset, .unset, .unset, .unset, .unset] [(.ref b)])) _
    refine XS.dup X3.here hx rfl (hb hby at_14) rfl rfl ?_
    show Steps p.tables e below (T3.setTop (mkF m 15 #[.val (.long q0), .second, .val (.long q1), .second, .val (.long q2), .second, .val (.int p3), .val (.int bit), .unset, .unset, .unset, .unset, .unset, .unset, .unset, .unset] [(.ref b), (.ref b)])) _
    refine XS.iconst X3.here hx rfl (hb hby at_15) ?_
    show Steps p.tables e below (T3.setTop (mkF m 16 #[.val (.long q0), .second, .val (.long q1), .second, .val (.long q2), .second, .val (.int p3), .val (.int bit), .unset, .unset, .unset, .unset, .unset, .unset, .unset, .unset] [(.int (0 : Int32)), (.ref b), (.ref b)])) _
    refine XS.lloadN X3.here hx rfl (hb hby at_16) rfl ?_
    exact kt
  obtain ⟨cl5, Ar5, qc5, Sz5, Mn5, Hs5, Gs5⟩ := id V_b
  have hin5 : ¬ ((0 : Int32) < 0 ∨ cl5.slots.size ≤ ((0 : Int32)).toNatClampNeg) := inb_of Sz5 ⟨by decide, by decide⟩
  obtain ⟨T5, h5, X5, e5, W5, st5⟩ := stJ X3 hx hZ e3 Ar5 (j := (0 : Int32)) hin5 (g := (mkF m 17 #[.val (.long q0), .second, .val (.long q1), .second, .val (.long q2), .second, .val (.int p3), .val (.int bit), .unset, .unset, .unset, .unset, .unset, .unset, .unset, .unset] [(.long q0), (.int (0 : Int32)), (.ref b), (.ref b)])) rfl rfl (hb hby at_17)
  have V_b_5 : Arv Z h5 b k3 .long (3 : Int32) [(.long q0), (.long (0 : Int64)), (.long (0 : Int64))] (.long (0 : Int64)) := Arv.set Ar5 qc5 Sz5 Mn5 Hs5 Gs5 rfl W5 0 rfl (Nat.le_of_ble_eq_true rfl)
  have Z_5 : n0 ≤ h5.size := Nat.le_trans Z_3 (Keep.of_wr W5).1
  have N5 := Fr.snoc X5 N0 g_b
  have st6 : ∀ target, Steps p.tables e below (T5.setTop (mkF m 21 #[.val (.long q0), .second, .val (.long q1), .second, .val (.long q2), .second, .val (.int p3), .val (.int bit), .unset, .unset, .unset, .unset, .unset, .unset, .unset, .unset] [(.long q1), (.int (1 : Int32)), (.ref b), (.ref b)])) target → Steps p.tables e below (T5.setTop (mkF m 18 #[.val (.long q0), .second, .val (.long q1), .second, .val (.long q2), .second, .val (.int p3), .val (.int bit), .unset, .unset, .unset, .unset, .unset, .unset, .unset, .unset] [(.ref b)])) target := by
    intro target kt
    show Steps p.tables e below (T5.setTop (mkF m 18 #[.val (.long q0), .second, .val (.long q1), .second, .val (.long q2), .second, .val (.int p3), .val (.int bit), .unset, .unset, .unset, .unset, .unset, .unset, .unset, .unset] [(.ref b)])) _
    refine XS.dup X5.here hx rfl (hb hby at_18) rfl rfl ?_
    show Steps p.tables e below (T5.setTop (mkF m 19 #[.val (.long q0), .second, .val (.long q1), .second, .val (.long q2), .second, .val (.int p3), .val (.int bit), .unset, .unset, .unset, .unset, .unset, .unset, .unset, .unset] [(.ref b), (.ref b)])) _
    refine XS.iconst X5.here hx rfl (hb hby at_19) ?_
    show Steps p.tables e below (T5.setTop (mkF m 20 #[.val (.long q0), .second, .val (.long q1), .second, .val (.long q2), .second, .val (.int p3), .val (.int bit), .unset, .unset, .unset, .unset, .unset, .unset, .unset, .unset] [(.int (1 : Int32)), (.ref b), (.ref b)])) _
    refine XS.lloadN X5.here hx rfl (hb hby at_20) rfl ?_
    exact kt
  obtain ⟨cl7, Ar7, qc7, Sz7, Mn7, Hs7, Gs7⟩ := id V_b_5
  have hin7 : ¬ ((1 : Int32) < 0 ∨ cl7.slots.size ≤ ((1 : Int32)).toNatClampNeg) := inb_of Sz7 ⟨by decide, by decide⟩
  obtain ⟨T7, h7, X7, e7, W7, st7⟩ := stJ X5 hx hZ e5 Ar7 (j := (1 : Int32)) hin7 (g := (mkF m 21 #[.val (.long q0), .second, .val (.long q1), .second, .val (.long q2), .second, .val (.int p3), .val (.int bit), .unset, .unset, .unset, .unset, .unset, .unset, .unset, .unset] [(.long q1), (.int (1 : Int32)), (.ref b), (.ref b)])) rfl rfl (hb hby at_21)
  have V_b_7 : Arv Z h7 b k3 .long (3 : Int32) [(.long q0), (.long q1), (.long (0 : Int64))] (.long (0 : Int64)) := Arv.set Ar7 qc7 Sz7 Mn7 Hs7 Gs7 rfl W7 1 rfl (Nat.le_of_ble_eq_true rfl)
  have Z_7 : n0 ≤ h7.size := Nat.le_trans Z_5 (Keep.of_wr W7).1
  have N7 := Fr.snoc X7 N5 g_b
  have st8 : ∀ target, Steps p.tables e below (T7.setTop (mkF m 26 #[.val (.long q0), .second, .val (.long q1), .second, .val (.long q2), .second, .val (.int p3), .val (.int bit), .unset, .unset, .unset, .unset, .unset, .unset, .unset, .unset] [(.long q2), (.int (2 : Int32)), (.ref b), (.ref b)])) target → Steps p.tables e below (T7.setTop (mkF m 22 #[.val (.long q0), .second, .val (.long q1), .second, .val (.long q2), .second, .val (.int p3), .val (.int bit), .unset, .unset, .unset, .unset, .unset, .unset, .unset, .unset] [(.ref b)])) target := by
    intro target kt
    show Steps p.tables e below (T7.setTop (mkF m 22 #[.val (.long q0), .second, .val (.long q1), .second, .val (.long q2), .second, .val (.int p3), .val (.int bit), .unset, .unset, .unset, .unset, .unset, .unset, .unset, .unset] [(.ref b)])) _
    refine XS.dup X7.here hx rfl (hb hby at_22) rfl rfl ?_
    show Steps p.tables e below (T7.setTop (mkF m 23 #[.val (.long q0), .second, .val (.long q1), .second, .val (.long q2), .second, .val (.int p3), .val (.int bit), .unset, .unset, .unset, .unset, .unset, .unset, .unset, .unset] [(.ref b), (.ref b)])) _
    refine XS.iconst X7.here hx rfl (hb hby at_23) ?_
    show Steps p.tables e below (T7.setTop (mkF m 24 #[.val (.long q0), .second, .val (.long q1), .second, .val (.long q2), .second, .val (.int p3), .val (.int bit), .unset, .unset, .unset, .unset, .unset, .unset, .unset, .unset] [(.int (2 : Int32)), (.ref b), (.ref b)])) _
    refine XS.lload X7.here hx rfl (hb hby at_24) rfl ?_
    exact kt
  obtain ⟨cl9, Ar9, qc9, Sz9, Mn9, Hs9, Gs9⟩ := id V_b_7
  have hin9 : ¬ ((2 : Int32) < 0 ∨ cl9.slots.size ≤ ((2 : Int32)).toNatClampNeg) := inb_of Sz9 ⟨by decide, by decide⟩
  obtain ⟨T9, h9, X9, e9, W9, st9⟩ := stJ X7 hx hZ e7 Ar9 (j := (2 : Int32)) hin9 (g := (mkF m 26 #[.val (.long q0), .second, .val (.long q1), .second, .val (.long q2), .second, .val (.int p3), .val (.int bit), .unset, .unset, .unset, .unset, .unset, .unset, .unset, .unset] [(.long q2), (.int (2 : Int32)), (.ref b), (.ref b)])) rfl rfl (hb hby at_26)
  have V_b_9 : Arv Z h9 b k3 .long (3 : Int32) [(.long q0), (.long q1), (.long q2)] (.long (0 : Int64)) := Arv.set Ar9 qc9 Sz9 Mn9 Hs9 Gs9 rfl W9 2 rfl (Nat.le_of_ble_eq_true rfl)
  have Z_9 : n0 ≤ h9.size := Nat.le_trans Z_7 (Keep.of_wr W9).1
  have N9 := Fr.snoc X9 N7 g_b
  have st10 : ∀ target, Steps p.tables e below (T9.setTop (mkF m 33 #[.val (.long q0), .second, .val (.long q1), .second, .val (.long q2), .second, .val (.int p3), .val (.int bit), .val (.ref b), .unset, .unset, .unset, .unset, .unset, .unset, .unset] [(.int bit), (.ref b)])) target → Steps p.tables e below (T9.setTop (mkF m 27 #[.val (.long q0), .second, .val (.long q1), .second, .val (.long q2), .second, .val (.int p3), .val (.int bit), .unset, .unset, .unset, .unset, .unset, .unset, .unset, .unset] [(.ref b)])) target := by
    intro target kt
    show Steps p.tables e below (T9.setTop (mkF m 27 #[.val (.long q0), .second, .val (.long q1), .second, .val (.long q2), .second, .val (.int p3), .val (.int bit), .unset, .unset, .unset, .unset, .unset, .unset, .unset, .unset] [(.ref b)])) _
    refine XS.astore X9.here hx rfl (hb hby at_27) rfl rfl (l' := #[.val (.long q0), .second, .val (.long q1), .second, .val (.long q2), .second, .val (.int p3), .val (.int bit), .val (.ref b), .unset, .unset, .unset, .unset, .unset, .unset, .unset]) rfl ?_
    show Steps p.tables e below (T9.setTop (mkF m 29 #[.val (.long q0), .second, .val (.long q1), .second, .val (.long q2), .second, .val (.int p3), .val (.int bit), .val (.ref b), .unset, .unset, .unset, .unset, .unset, .unset, .unset] [])) _
    refine XS.aload X9.here hx rfl (hb hby at_29) rfl rfl ?_
    show Steps p.tables e below (T9.setTop (mkF m 31 #[.val (.long q0), .second, .val (.long q1), .second, .val (.long q2), .second, .val (.int p3), .val (.int bit), .val (.ref b), .unset, .unset, .unset, .unset, .unset, .unset, .unset] [(.ref b)])) _
    refine XS.iload X9.here hx rfl (hb hby at_31) rfl ?_
    exact kt
  obtain ⟨cl0, Ar0, qc0, Sz0, Mn0, Hs0, Gs0⟩ := id V_b_9
  have hin0 : ¬ (bit / (64 : Int32) < 0 ∨ cl0.slots.size ≤ (bit / (64 : Int32)).toNatClampNeg) := by rw [own_div hrng]; exact inb_of Sz0 (own_in hrng)
  have hat0 : cl0.slots[(bit / (64 : Int32)).toNatClampNeg]? = some (.long (own_pick q0 q1 q2 (own_idx bit))) := Hs0.at hin0 (by rw [own_div hrng]; exact own_get hrng _ _ _ _)
  obtain ⟨_, _, ⟨T11, L11, k11, n11⟩, -, X11, ⟨Lc11, hQ11, l11, y11, z11⟩, st11⟩ := Jvm.LawKit.callS X9 hx (y := (⟨"com/example/arvio/arvio/lang/Bits", "isSet", "([JI)Z"⟩ : MethodName)) hown (mvT hZ (hw _ (List.mem_of_getElem? (i := 2) rfl))) (mvT hZ (hw _ (List.mem_of_getElem? (i := 3) rfl))) (mvT hZ (hw _ (List.mem_of_getElem? (i := 4) rfl))) (mvT hZ (hw _ (List.mem_of_getElem? (i := 5) rfl))) (by decide) (backOf (W := 0) (rm1 l Z a0 hw [] b bit cl0 (own_pick q0 q1 q2 (own_idx bit)) h9 n0 Z_9 Ar0 hin0 hat0) hZ (hw _ (List.mem_of_getElem? (i := 5) rfl)) (hw _ (List.mem_of_getElem? (i := 4) rfl)) (by decide) (by decide)) (g := (mkF m 33 #[.val (.long q0), .second, .val (.long q1), .second, .val (.long q2), .second, .val (.int p3), .val (.int bit), .val (.ref b), .unset, .unset, .unset, .unset, .unset, .unset, .unset] [(.int bit), (.ref b)])) rfl (by rw [hml]; rfl) (argsL := [(.ref b), (.int bit)]) (rest := []) (lenOf pd_0 rfl) rfl (by show 2 * 0 + _ ≤ _; exact Nat.le_of_eq rfl) (hb hby at_33) (fun _ _ => ⟨rfl, e9, (by decide : 1 + 0 ≤ _), (by decide : 3 + 0 ≤ _)⟩)
  dsimp only [Pt.U, Pt.locs, Pt.cells, Pt.slots] at X11 l11 y11 z11 st11 hQ11
  subst l11 y11 z11
  obtain ⟨rfl, Nq11, e11⟩ := hQ11
  have N11 := Fr.app N9 Nq11
  have st12 : ∀ target, Steps p.tables e below (T11.setTop (mkF m 38 #[.val (.long q0), .second, .val (.long q1), .second, .val (.long q2), .second, .val (.int p3), .val (.int bit), .val (.ref b), .val (.int (own_is (own_pick q0 q1 q2 (own_idx bit)) bit)), .unset, .unset, .unset, .unset, .unset, .unset] [])) target → Steps p.tables e below (T11.setTop (mkF m 36 #[.val (.long q0), .second, .val (.long q1), .second, .val (.long q2), .second, .val (.int p3), .val (.int bit), .val (.ref b), .unset, .unset, .unset, .unset, .unset, .unset, .unset] [(.int (own_is (own_pick q0 q1 q2 (own_idx bit)) bit))])) target := by
    intro target kt
    show Steps p.tables e below (T11.setTop (mkF m 36 #[.val (.long q0), .second, .val (.long q1), .second, .val (.long q2), .second, .val (.int p3), .val (.int bit), .val (.ref b), .unset, .unset, .unset, .unset, .unset, .unset, .unset] [(.int (own_is (own_pick q0 q1 q2 (own_idx bit)) bit))])) _
    refine XS.istore X11.here hx rfl (hb hby at_36) rfl (l' := #[.val (.long q0), .second, .val (.long q1), .second, .val (.long q2), .second, .val (.int p3), .val (.int bit), .val (.ref b), .val (.int (own_is (own_pick q0 q1 q2 (own_idx bit)) bit)), .unset, .unset, .unset, .unset, .unset, .unset]) rfl ?_
    exact kt
  obtain ⟨i, hi, st13⟩ : ∃ (i : Int32), i = (if bit < (64 : Int32) then (0 : Int32) else (if bit < (128 : Int32) then (1 : Int32) else (2 : Int32))) ∧ ∀ target, Steps p.tables e below (T11.setTop (mkF m 62 #[.val (.long q0), .second, .val (.long q1), .second, .val (.long q2), .second, .val (.int p3), .val (.int bit), .val (.ref b), .val (.int (own_is (own_pick q0 q1 q2 (own_idx bit)) bit)), .unset, .unset, .unset, .unset, .unset, .unset] [(.int i)])) target → Steps p.tables e below (T11.setTop (mkF m 38 #[.val (.long q0), .second, .val (.long q1), .second, .val (.long q2), .second, .val (.int p3), .val (.int bit), .val (.ref b), .val (.int (own_is (own_pick q0 q1 q2 (own_idx bit)) bit)), .unset, .unset, .unset, .unset, .unset, .unset] [])) target := by
    refine ⟨_, rfl, fun target kt => ?_⟩
    show Steps p.tables e below (T11.setTop (mkF m 38 #[.val (.long q0), .second, .val (.long q1), .second, .val (.long q2), .second, .val (.int p3), .val (.int bit), .val (.ref b), .val (.int (own_is (own_pick q0 q1 q2 (own_idx bit)) bit)), .unset, .unset, .unset, .unset, .unset, .unset] [])) _
    refine XS.iload X11.here hx rfl (hb hby at_38) rfl ?_
    show Steps p.tables e below (T11.setTop (mkF m 40 #[.val (.long q0), .second, .val (.long q1), .second, .val (.long q2), .second, .val (.int p3), .val (.int bit), .val (.ref b), .val (.int (own_is (own_pick q0 q1 q2 (own_idx bit)) bit)), .unset, .unset, .unset, .unset, .unset, .unset] [(.int bit)])) _
    refine XS.bipush X11.here hx rfl (hb hby at_40) ?_
    by_cases hc42 : bit < (64 : Int32)
    · rw [if_pos hc42] at kt
      show Steps p.tables e below (T11.setTop (mkF m 42 #[.val (.long q0), .second, .val (.long q1), .second, .val (.long q2), .second, .val (.int p3), .val (.int bit), .val (.ref b), .val (.int (own_is (own_pick q0 q1 q2 (own_idx bit)) bit)), .unset, .unset, .unset, .unset, .unset, .unset] [(.int (64 : Int32)), (.int bit)])) _
      refine XS.icmpNo X11.here hx rfl (hb hby at_42) rfl (tlt hc42).2.1 ?_
      show Steps p.tables e below (T11.setTop (mkF m 45 #[.val (.long q0), .second, .val (.long q1), .second, .val (.long q2), .second, .val (.int p3), .val (.int bit), .val (.ref b), .val (.int (own_is (own_pick q0 q1 q2 (own_idx bit)) bit)), .unset, .unset, .unset, .unset, .unset, .unset] [])) _
      refine XS.iconst X11.here hx rfl (hb hby at_45) ?_
      show Steps p.tables e below (T11.setTop (mkF m 46 #[.val (.long q0), .second, .val (.long q1), .second, .val (.long q2), .second, .val (.int p3), .val (.int bit), .val (.ref b), .val (.int (own_is (own_pick q0 q1 q2 (own_idx bit)) bit)), .unset, .unset, .unset, .unset, .unset, .unset] [(.int (0 : Int32))])) _
      refine XS.goto X11.here hx rfl (pc0 := 46) (pc' := 62) rfl (hb hby at_46) (by decide) (by decide) ?_
      exact kt
    · rw [if_neg hc42] at kt
      show Steps p.tables e below (T11.setTop (mkF m 42 #[.val (.long q0), .second, .val (.long q1), .second, .val (.long q2), .second, .val (.int p3), .val (.int bit), .val (.ref b), .val (.int (own_is (own_pick q0 q1 q2 (own_idx bit)) bit)), .unset, .unset, .unset, .unset, .unset, .unset] [(.int (64 : Int32)), (.int bit)])) _
      refine XS.icmpYes X11.here hx rfl (pc0 := 42) (pc' := 49) rfl (hb hby at_42) rfl (flt hc42).2.1 (by decide) (by decide) ?_
      show Steps p.tables e below (T11.setTop (mkF m 49 #[.val (.long q0), .second, .val (.long q1), .second, .val (.long q2), .second, .val (.int p3), .val (.int bit), .val (.ref b), .val (.int (own_is (own_pick q0 q1 q2 (own_idx bit)) bit)), .unset, .unset, .unset, .unset, .unset, .unset] [])) _
      refine XS.iload X11.here hx rfl (hb hby at_49) rfl ?_
      show Steps p.tables e below (T11.setTop (mkF m 51 #[.val (.long q0), .second, .val (.long q1), .second, .val (.long q2), .second, .val (.int p3), .val (.int bit), .val (.ref b), .val (.int (own_is (own_pick q0 q1 q2 (own_idx bit)) bit)), .unset, .unset, .unset, .unset, .unset, .unset] [(.int bit)])) _
      refine XS.sipush X11.here hx rfl (hb hby at_51) ?_
      by_cases hc54 : bit < (128 : Int32)
      · rw [if_pos hc54] at kt
        show Steps p.tables e below (T11.setTop (mkF m 54 #[.val (.long q0), .second, .val (.long q1), .second, .val (.long q2), .second, .val (.int p3), .val (.int bit), .val (.ref b), .val (.int (own_is (own_pick q0 q1 q2 (own_idx bit)) bit)), .unset, .unset, .unset, .unset, .unset, .unset] [(.int (128 : Int32)), (.int bit)])) _
        refine XS.icmpNo X11.here hx rfl (hb hby at_54) rfl (tlt hc54).2.1 ?_
        show Steps p.tables e below (T11.setTop (mkF m 57 #[.val (.long q0), .second, .val (.long q1), .second, .val (.long q2), .second, .val (.int p3), .val (.int bit), .val (.ref b), .val (.int (own_is (own_pick q0 q1 q2 (own_idx bit)) bit)), .unset, .unset, .unset, .unset, .unset, .unset] [])) _
        refine XS.iconst X11.here hx rfl (hb hby at_57) ?_
        show Steps p.tables e below (T11.setTop (mkF m 58 #[.val (.long q0), .second, .val (.long q1), .second, .val (.long q2), .second, .val (.int p3), .val (.int bit), .val (.ref b), .val (.int (own_is (own_pick q0 q1 q2 (own_idx bit)) bit)), .unset, .unset, .unset, .unset, .unset, .unset] [(.int (1 : Int32))])) _
        refine XS.goto X11.here hx rfl (pc0 := 58) (pc' := 62) rfl (hb hby at_58) (by decide) (by decide) ?_
        exact kt
      · rw [if_neg hc54] at kt
        show Steps p.tables e below (T11.setTop (mkF m 54 #[.val (.long q0), .second, .val (.long q1), .second, .val (.long q2), .second, .val (.int p3), .val (.int bit), .val (.ref b), .val (.int (own_is (own_pick q0 q1 q2 (own_idx bit)) bit)), .unset, .unset, .unset, .unset, .unset, .unset] [(.int (128 : Int32)), (.int bit)])) _
        refine XS.icmpYes X11.here hx rfl (pc0 := 54) (pc' := 61) rfl (hb hby at_54) rfl (flt hc54).2.1 (by decide) (by decide) ?_
        show Steps p.tables e below (T11.setTop (mkF m 61 #[.val (.long q0), .second, .val (.long q1), .second, .val (.long q2), .second, .val (.int p3), .val (.int bit), .val (.ref b), .val (.int (own_is (own_pick q0 q1 q2 (own_idx bit)) bit)), .unset, .unset, .unset, .unset, .unset, .unset] [])) _
        refine XS.iconst X11.here hx rfl (hb hby at_61) ?_
        exact kt
  have hi' : i = own_idx bit := hi
  obtain ⟨ww, hww, st14⟩ : ∃ (ww : Int64), ww = (if i = (0 : Int32) then q0 else (if i = (1 : Int32) then q1 else q2)) ∧ ∀ target, Steps p.tables e below (T11.setTop (mkF m 85 #[.val (.long q0), .second, .val (.long q1), .second, .val (.long q2), .second, .val (.int p3), .val (.int bit), .val (.ref b), .val (.int (own_is (own_pick q0 q1 q2 (own_idx bit)) bit)), .val (.int i), .unset, .unset, .unset, .unset, .unset] [(.long ww)])) target → Steps p.tables e below (T11.setTop (mkF m 62 #[.val (.long q0), .second, .val (.long q1), .second, .val (.long q2), .second, .val (.int p3), .val (.int bit), .val (.ref b), .val (.int (own_is (own_pick q0 q1 q2 (own_idx bit)) bit)), .unset, .unset, .unset, .unset, .unset, .unset] [(.int i)])) target := by
    refine ⟨_, rfl, fun target kt => ?_⟩
    show Steps p.tables e below (T11.setTop (mkF m 62 #[.val (.long q0), .second, .val (.long q1), .second, .val (.long q2), .second, .val (.int p3), .val (.int bit), .val (.ref b), .val (.int (own_is (own_pick q0 q1 q2 (own_idx bit)) bit)), .unset, .unset, .unset, .unset, .unset, .unset] [(.int i)])) _
    refine XS.istore X11.here hx rfl (hb hby at_62) rfl (l' := #[.val (.long q0), .second, .val (.long q1), .second, .val (.long q2), .second, .val (.int p3), .val (.int bit), .val (.ref b), .val (.int (own_is (own_pick q0 q1 q2 (own_idx bit)) bit)), .val (.int i), .unset, .unset, .unset, .unset, .unset]) rfl ?_
    show Steps p.tables e below (T11.setTop (mkF m 64 #[.val (.long q0), .second, .val (.long q1), .second, .val (.long q2), .second, .val (.int p3), .val (.int bit), .val (.ref b), .val (.int (own_is (own_pick q0 q1 q2 (own_idx bit)) bit)), .val (.int i), .unset, .unset, .unset, .unset, .unset] [])) _
    refine XS.iload X11.here hx rfl (hb hby at_64) rfl ?_
    by_cases hc66 : i = (0 : Int32)
    · rw [if_pos hc66] at kt
      show Steps p.tables e below (T11.setTop (mkF m 66 #[.val (.long q0), .second, .val (.long q1), .second, .val (.long q2), .second, .val (.int p3), .val (.int bit), .val (.ref b), .val (.int (own_is (own_pick q0 q1 q2 (own_idx bit)) bit)), .val (.int i), .unset, .unset, .unset, .unset, .unset] [(.int i)])) _
      refine XS.ifNo X11.here hx rfl (hb hby at_66) rfl ((if0 _ _).trans (teq hc66).2) ?_
      show Steps p.tables e below (T11.setTop (mkF m 69 #[.val (.long q0), .second, .val (.long q1), .second, .val (.long q2), .second, .val (.int p3), .val (.int bit), .val (.ref b), .val (.int (own_is (own_pick q0 q1 q2 (own_idx bit)) bit)), .val (.int i), .unset, .unset, .unset, .unset, .unset] [])) _
      refine XS.lloadN X11.here hx rfl (hb hby at_69) rfl ?_
      show Steps p.tables e below (T11.setTop (mkF m 70 #[.val (.long q0), .second, .val (.long q1), .second, .val (.long q2), .second, .val (.int p3), .val (.int bit), .val (.ref b), .val (.int (own_is (own_pick q0 q1 q2 (own_idx bit)) bit)), .val (.int i), .unset, .unset, .unset, .unset, .unset] [(.long q0)])) _
      refine XS.goto X11.here hx rfl (pc0 := 70) (pc' := 85) rfl (hb hby at_70) (by decide) (by decide) ?_
      exact kt
    · rw [if_neg hc66] at kt
      show Steps p.tables e below (T11.setTop (mkF m 66 #[.val (.long q0), .second, .val (.long q1), .second, .val (.long q2), .second, .val (.int p3), .val (.int bit), .val (.ref b), .val (.int (own_is (own_pick q0 q1 q2 (own_idx bit)) bit)), .val (.int i), .unset, .unset, .unset, .unset, .unset] [(.int i)])) _
      refine XS.ifYes X11.here hx rfl (pc0 := 66) (pc' := 73) rfl (hb hby at_66) rfl ((if0 _ _).trans (feq hc66).2) (by decide) (by decide) ?_
      show Steps p.tables e below (T11.setTop (mkF m 73 #[.val (.long q0), .second, .val (.long q1), .second, .val (.long q2), .second, .val (.int p3), .val (.int bit), .val (.ref b), .val (.int (own_is (own_pick q0 q1 q2 (own_idx bit)) bit)), .val (.int i), .unset, .unset, .unset, .unset, .unset] [])) _
      refine XS.iload X11.here hx rfl (hb hby at_73) rfl ?_
      show Steps p.tables e below (T11.setTop (mkF m 75 #[.val (.long q0), .second, .val (.long q1), .second, .val (.long q2), .second, .val (.int p3), .val (.int bit), .val (.ref b), .val (.int (own_is (own_pick q0 q1 q2 (own_idx bit)) bit)), .val (.int i), .unset, .unset, .unset, .unset, .unset] [(.int i)])) _
      refine XS.iconst X11.here hx rfl (hb hby at_75) ?_
      by_cases hc76 : i = (1 : Int32)
      · rw [if_pos hc76] at kt
        show Steps p.tables e below (T11.setTop (mkF m 76 #[.val (.long q0), .second, .val (.long q1), .second, .val (.long q2), .second, .val (.int p3), .val (.int bit), .val (.ref b), .val (.int (own_is (own_pick q0 q1 q2 (own_idx bit)) bit)), .val (.int i), .unset, .unset, .unset, .unset, .unset] [(.int (1 : Int32)), (.int i)])) _
        refine XS.icmpNo X11.here hx rfl (hb hby at_76) rfl (teq hc76).2 ?_
        show Steps p.tables e below (T11.setTop (mkF m 79 #[.val (.long q0), .second, .val (.long q1), .second, .val (.long q2), .second, .val (.int p3), .val (.int bit), .val (.ref b), .val (.int (own_is (own_pick q0 q1 q2 (own_idx bit)) bit)), .val (.int i), .unset, .unset, .unset, .unset, .unset] [])) _
        refine XS.lloadN X11.here hx rfl (hb hby at_79) rfl ?_
        show Steps p.tables e below (T11.setTop (mkF m 80 #[.val (.long q0), .second, .val (.long q1), .second, .val (.long q2), .second, .val (.int p3), .val (.int bit), .val (.ref b), .val (.int (own_is (own_pick q0 q1 q2 (own_idx bit)) bit)), .val (.int i), .unset, .unset, .unset, .unset, .unset] [(.long q1)])) _
        refine XS.goto X11.here hx rfl (pc0 := 80) (pc' := 85) rfl (hb hby at_80) (by decide) (by decide) ?_
        exact kt
      · rw [if_neg hc76] at kt
        show Steps p.tables e below (T11.setTop (mkF m 76 #[.val (.long q0), .second, .val (.long q1), .second, .val (.long q2), .second, .val (.int p3), .val (.int bit), .val (.ref b), .val (.int (own_is (own_pick q0 q1 q2 (own_idx bit)) bit)), .val (.int i), .unset, .unset, .unset, .unset, .unset] [(.int (1 : Int32)), (.int i)])) _
        refine XS.icmpYes X11.here hx rfl (pc0 := 76) (pc' := 83) rfl (hb hby at_76) rfl (feq hc76).2 (by decide) (by decide) ?_
        show Steps p.tables e below (T11.setTop (mkF m 83 #[.val (.long q0), .second, .val (.long q1), .second, .val (.long q2), .second, .val (.int p3), .val (.int bit), .val (.ref b), .val (.int (own_is (own_pick q0 q1 q2 (own_idx bit)) bit)), .val (.int i), .unset, .unset, .unset, .unset, .unset] [])) _
        refine XS.lload X11.here hx rfl (hb hby at_83) rfl ?_
        exact kt
  have hww' : ww = own_pick q0 q1 q2 i := hww
  obtain ⟨want, hwant, st15⟩ : ∃ (want : Int32), want = (if (((ww.toUInt64 >>> ((bit - ((64 : Int32) * i)) &&& 0x3f).toInt64.toUInt64).toInt64) &&& (1 : Int64)) = (0 : Int64) then (0 : Int32) else (1 : Int32)) ∧ ∀ target, Steps p.tables e below (T11.setTop (mkF m 114 #[.val (.long q0), .second, .val (.long q1), .second, .val (.long q2), .second, .val (.int p3), .val (.int bit), .val (.ref b), .val (.int (own_is (own_pick q0 q1 q2 (own_idx bit)) bit)), .val (.int i), .val (.long ww), .second, .val (.int (bit - ((64 : Int32) * i))), .unset, .unset] [(.int want)])) target → Steps p.tables e below (T11.setTop (mkF m 85 #[.val (.long q0), .second, .val (.long q1), .second, .val (.long q2), .second, .val (.int p3), .val (.int bit), .val (.ref b), .val (.int (own_is (own_pick q0 q1 q2 (own_idx bit)) bit)), .val (.int i), .unset, .unset, .unset, .unset, .unset] [(.long ww)])) target := by
    refine ⟨_, rfl, fun target kt => ?_⟩
    show Steps p.tables e below (T11.setTop (mkF m 85 #[.val (.long q0), .second, .val (.long q1), .second, .val (.long q2), .second, .val (.int p3), .val (.int bit), .val (.ref b), .val (.int (own_is (own_pick q0 q1 q2 (own_idx bit)) bit)), .val (.int i), .unset, .unset, .unset, .unset, .unset] [(.long ww)])) _
    refine XS.lstore X11.here hx rfl (hb hby at_85) rfl (l' := #[.val (.long q0), .second, .val (.long q1), .second, .val (.long q2), .second, .val (.int p3), .val (.int bit), .val (.ref b), .val (.int (own_is (own_pick q0 q1 q2 (own_idx bit)) bit)), .val (.int i), .val (.long ww), .second, .unset, .unset, .unset]) rfl ?_
    show Steps p.tables e below (T11.setTop (mkF m 87 #[.val (.long q0), .second, .val (.long q1), .second, .val (.long q2), .second, .val (.int p3), .val (.int bit), .val (.ref b), .val (.int (own_is (own_pick q0 q1 q2 (own_idx bit)) bit)), .val (.int i), .val (.long ww), .second, .unset, .unset, .unset] [])) _
    refine XS.iload X11.here hx rfl (hb hby at_87) rfl ?_
    show Steps p.tables e below (T11.setTop (mkF m 89 #[.val (.long q0), .second, .val (.long q1), .second, .val (.long q2), .second, .val (.int p3), .val (.int bit), .val (.ref b), .val (.int (own_is (own_pick q0 q1 q2 (own_idx bit)) bit)), .val (.int i), .val (.long ww), .second, .unset, .unset, .unset] [(.int bit)])) _
    refine XS.bipush X11.here hx rfl (hb hby at_89) ?_
    show Steps p.tables e below (T11.setTop (mkF m 91 #[.val (.long q0), .second, .val (.long q1), .second, .val (.long q2), .second, .val (.int p3), .val (.int bit), .val (.ref b), .val (.int (own_is (own_pick q0 q1 q2 (own_idx bit)) bit)), .val (.int i), .val (.long ww), .second, .unset, .unset, .unset] [(.int (64 : Int32)), (.int bit)])) _
    refine XS.iload X11.here hx rfl (hb hby at_91) rfl ?_
    show Steps p.tables e below (T11.setTop (mkF m 93 #[.val (.long q0), .second, .val (.long q1), .second, .val (.long q2), .second, .val (.int p3), .val (.int bit), .val (.ref b), .val (.int (own_is (own_pick q0 q1 q2 (own_idx bit)) bit)), .val (.int i), .val (.long ww), .second, .unset, .unset, .unset] [(.int i), (.int (64 : Int32)), (.int bit)])) _
    refine XS.imul X11.here hx rfl (hb hby at_93) rfl ?_
    show Steps p.tables e below (T11.setTop (mkF m 94 #[.val (.long q0), .second, .val (.long q1), .second, .val (.long q2), .second, .val (.int p3), .val (.int bit), .val (.ref b), .val (.int (own_is (own_pick q0 q1 q2 (own_idx bit)) bit)), .val (.int i), .val (.long ww), .second, .unset, .unset, .unset] [(.int ((64 : Int32) * i)), (.int bit)])) _
    refine XS.isub X11.here hx rfl (hb hby at_94) rfl ?_
    show Steps p.tables e below (T11.setTop (mkF m 95 #[.val (.long q0), .second, .val (.long q1), .second, .val (.long q2), .second, .val (.int p3), .val (.int bit), .val (.ref b), .val (.int (own_is (own_pick q0 q1 q2 (own_idx bit)) bit)), .val (.int i), .val (.long ww), .second, .unset, .unset, .unset] [(.int (bit - ((64 : Int32) * i)))])) _
    refine XS.istore X11.here hx rfl (hb hby at_95) rfl (l' := #[.val (.long q0), .second, .val (.long q1), .second, .val (.long q2), .second, .val (.int p3), .val (.int bit), .val (.ref b), .val (.int (own_is (own_pick q0 q1 q2 (own_idx bit)) bit)), .val (.int i), .val (.long ww), .second, .val (.int (bit - ((64 : Int32) * i))), .unset, .unset]) rfl ?_
    show Steps p.tables e below (T11.setTop (mkF m 97 #[.val (.long q0), .second, .val (.long q1), .second, .val (.long q2), .second, .val (.int p3), .val (.int bit), .val (.ref b), .val (.int (own_is (own_pick q0 q1 q2 (own_idx bit)) bit)), .val (.int i), .val (.long ww), .second, .val (.int (bit - ((64 : Int32) * i))), .unset, .unset] [])) _
    refine XS.lload X11.here hx rfl (hb hby at_97) rfl ?_
    show Steps p.tables e below (T11.setTop (mkF m 99 #[.val (.long q0), .second, .val (.long q1), .second, .val (.long q2), .second, .val (.int p3), .val (.int bit), .val (.ref b), .val (.int (own_is (own_pick q0 q1 q2 (own_idx bit)) bit)), .val (.int i), .val (.long ww), .second, .val (.int (bit - ((64 : Int32) * i))), .unset, .unset] [(.long ww)])) _
    refine XS.iload X11.here hx rfl (hb hby at_99) rfl ?_
    show Steps p.tables e below (T11.setTop (mkF m 101 #[.val (.long q0), .second, .val (.long q1), .second, .val (.long q2), .second, .val (.int p3), .val (.int bit), .val (.ref b), .val (.int (own_is (own_pick q0 q1 q2 (own_idx bit)) bit)), .val (.int i), .val (.long ww), .second, .val (.int (bit - ((64 : Int32) * i))), .unset, .unset] [(.int (bit - ((64 : Int32) * i))), (.long ww)])) _
    refine XS.lushr X11.here hx rfl (hb hby at_101) rfl ?_
    show Steps p.tables e below (T11.setTop (mkF m 102 #[.val (.long q0), .second, .val (.long q1), .second, .val (.long q2), .second, .val (.int p3), .val (.int bit), .val (.ref b), .val (.int (own_is (own_pick q0 q1 q2 (own_idx bit)) bit)), .val (.int i), .val (.long ww), .second, .val (.int (bit - ((64 : Int32) * i))), .unset, .unset] [(.long ((ww.toUInt64 >>> ((bit - ((64 : Int32) * i)) &&& 0x3f).toInt64.toUInt64).toInt64))])) _
    refine XS.lconst X11.here hx rfl (hb hby at_102) ?_
    show Steps p.tables e below (T11.setTop (mkF m 103 #[.val (.long q0), .second, .val (.long q1), .second, .val (.long q2), .second, .val (.int p3), .val (.int bit), .val (.ref b), .val (.int (own_is (own_pick q0 q1 q2 (own_idx bit)) bit)), .val (.int i), .val (.long ww), .second, .val (.int (bit - ((64 : Int32) * i))), .unset, .unset] [(.long (1 : Int64)), (.long ((ww.toUInt64 >>> ((bit - ((64 : Int32) * i)) &&& 0x3f).toInt64.toUInt64).toInt64))])) _
    refine XS.land X11.here hx rfl (hb hby at_103) rfl ?_
    show Steps p.tables e below (T11.setTop (mkF m 104 #[.val (.long q0), .second, .val (.long q1), .second, .val (.long q2), .second, .val (.int p3), .val (.int bit), .val (.ref b), .val (.int (own_is (own_pick q0 q1 q2 (own_idx bit)) bit)), .val (.int i), .val (.long ww), .second, .val (.int (bit - ((64 : Int32) * i))), .unset, .unset] [(.long (((ww.toUInt64 >>> ((bit - ((64 : Int32) * i)) &&& 0x3f).toInt64.toUInt64).toInt64) &&& (1 : Int64)))])) _
    refine XS.lconst X11.here hx rfl (hb hby at_104) ?_
    show Steps p.tables e below (T11.setTop (mkF m 105 #[.val (.long q0), .second, .val (.long q1), .second, .val (.long q2), .second, .val (.int p3), .val (.int bit), .val (.ref b), .val (.int (own_is (own_pick q0 q1 q2 (own_idx bit)) bit)), .val (.int i), .val (.long ww), .second, .val (.int (bit - ((64 : Int32) * i))), .unset, .unset] [(.long (0 : Int64)), (.long (((ww.toUInt64 >>> ((bit - ((64 : Int32) * i)) &&& 0x3f).toInt64.toUInt64).toInt64) &&& (1 : Int64)))])) _
    refine XS.lcmp X11.here hx rfl (hb hby at_105) rfl ?_
    by_cases hc106 : (((ww.toUInt64 >>> ((bit - ((64 : Int32) * i)) &&& 0x3f).toInt64.toUInt64).toInt64) &&& (1 : Int64)) = (0 : Int64)
    · rw [if_pos hc106] at kt
      show Steps p.tables e below (T11.setTop (mkF m 106 #[.val (.long q0), .second, .val (.long q1), .second, .val (.long q2), .second, .val (.int p3), .val (.int bit), .val (.ref b), .val (.int (own_is (own_pick q0 q1 q2 (own_idx bit)) bit)), .val (.int i), .val (.long ww), .second, .val (.int (bit - ((64 : Int32) * i))), .unset, .unset] [(.int (lcmpW (((ww.toUInt64 >>> ((bit - ((64 : Int32) * i)) &&& 0x3f).toInt64.toUInt64).toInt64) &&& (1 : Int64)) (0 : Int64)))])) _
      refine XS.ifYes X11.here hx rfl (pc0 := 106) (pc' := 113) rfl (hb hby at_106) rfl ((if0 _ _).trans (teq ((own_lc_eq _ _).mpr hc106)).1) (by decide) (by decide) ?_
      show Steps p.tables e below (T11.setTop (mkF m 113 #[.val (.long q0), .second, .val (.long q1), .second, .val (.long q2), .second, .val (.int p3), .val (.int bit), .val (.ref b), .val (.int (own_is (own_pick q0 q1 q2 (own_idx bit)) bit)), .val (.int i), .val (.long ww), .second, .val (.int (bit - ((64 : Int32) * i))), .unset, .unset] [])) _
      refine XS.iconst X11.here hx rfl (hb hby at_113) ?_
      exact kt
    · rw [if_neg hc106] at kt
      show Steps p.tables e below (T11.setTop (mkF m 106 #[.val (.long q0), .second, .val (.long q1), .second, .val (.long q2), .second, .val (.int p3), .val (.int bit), .val (.ref b), .val (.int (own_is (own_pick q0 q1 q2 (own_idx bit)) bit)), .val (.int i), .val (.long ww), .second, .val (.int (bit - ((64 : Int32) * i))), .unset, .unset] [(.int (lcmpW (((ww.toUInt64 >>> ((bit - ((64 : Int32) * i)) &&& 0x3f).toInt64.toUInt64).toInt64) &&& (1 : Int64)) (0 : Int64)))])) _
      refine XS.ifNo X11.here hx rfl (hb hby at_106) rfl ((if0 _ _).trans (feq (mt (own_lc_eq _ _).mp hc106)).1) ?_
      show Steps p.tables e below (T11.setTop (mkF m 109 #[.val (.long q0), .second, .val (.long q1), .second, .val (.long q2), .second, .val (.int p3), .val (.int bit), .val (.ref b), .val (.int (own_is (own_pick q0 q1 q2 (own_idx bit)) bit)), .val (.int i), .val (.long ww), .second, .val (.int (bit - ((64 : Int32) * i))), .unset, .unset] [])) _
      refine XS.iconst X11.here hx rfl (hb hby at_109) ?_
      show Steps p.tables e below (T11.setTop (mkF m 110 #[.val (.long q0), .second, .val (.long q1), .second, .val (.long q2), .second, .val (.int p3), .val (.int bit), .val (.ref b), .val (.int (own_is (own_pick q0 q1 q2 (own_idx bit)) bit)), .val (.int i), .val (.long ww), .second, .val (.int (bit - ((64 : Int32) * i))), .unset, .unset] [(.int (1 : Int32))])) _
      refine XS.goto X11.here hx rfl (pc0 := 110) (pc' := 114) rfl (hb hby at_110) (by decide) (by decide) ?_
      exact kt
  have hwant' : own_is (own_pick q0 q1 q2 (own_idx bit)) bit = want := by rw [hwant, hww', hi']; exact own_law hrng _
  have st16 : ∀ target, Steps p.tables e below (T11.setTop (mkF m 119 #[.val (.long q0), .second, .val (.long q1), .second, .val (.long q2), .second, .val (.int p3), .val (.int bit), .val (.ref b), .val (.int (own_is (own_pick q0 q1 q2 (own_idx bit)) bit)), .val (.int i), .val (.long ww), .second, .val (.int (bit - ((64 : Int32) * i))), .val (.int want), .unset] [(.int (0 : Int32)), (.ref b)])) target → Steps p.tables e below (T11.setTop (mkF m 114 #[.val (.long q0), .second, .val (.long q1), .second, .val (.long q2), .second, .val (.int p3), .val (.int bit), .val (.ref b), .val (.int (own_is (own_pick q0 q1 q2 (own_idx bit)) bit)), .val (.int i), .val (.long ww), .second, .val (.int (bit - ((64 : Int32) * i))), .unset, .unset] [(.int want)])) target := by
    intro target kt
    show Steps p.tables e below (T11.setTop (mkF m 114 #[.val (.long q0), .second, .val (.long q1), .second, .val (.long q2), .second, .val (.int p3), .val (.int bit), .val (.ref b), .val (.int (own_is (own_pick q0 q1 q2 (own_idx bit)) bit)), .val (.int i), .val (.long ww), .second, .val (.int (bit - ((64 : Int32) * i))), .unset, .unset] [(.int want)])) _
    refine XS.istore X11.here hx rfl (hb hby at_114) rfl (l' := #[.val (.long q0), .second, .val (.long q1), .second, .val (.long q2), .second, .val (.int p3), .val (.int bit), .val (.ref b), .val (.int (own_is (own_pick q0 q1 q2 (own_idx bit)) bit)), .val (.int i), .val (.long ww), .second, .val (.int (bit - ((64 : Int32) * i))), .val (.int want), .unset]) rfl ?_
    show Steps p.tables e below (T11.setTop (mkF m 116 #[.val (.long q0), .second, .val (.long q1), .second, .val (.long q2), .second, .val (.int p3), .val (.int bit), .val (.ref b), .val (.int (own_is (own_pick q0 q1 q2 (own_idx bit)) bit)), .val (.int i), .val (.long ww), .second, .val (.int (bit - ((64 : Int32) * i))), .val (.int want), .unset] [])) _
    refine XS.aload X11.here hx rfl (hb hby at_116) rfl rfl ?_
    show Steps p.tables e below (T11.setTop (mkF m 118 #[.val (.long q0), .second, .val (.long q1), .second, .val (.long q2), .second, .val (.int p3), .val (.int bit), .val (.ref b), .val (.int (own_is (own_pick q0 q1 q2 (own_idx bit)) bit)), .val (.int i), .val (.long ww), .second, .val (.int (bit - ((64 : Int32) * i))), .val (.int want), .unset] [(.ref b)])) _
    refine XS.iconst X11.here hx rfl (hb hby at_118) ?_
    exact kt
  obtain ⟨cl17, Ar17, qc17, Sz17, Mn17, Hs17, Gs17⟩ := id V_b_9
  have hin17 : ¬ ((0 : Int32) < 0 ∨ cl17.slots.size ≤ ((0 : Int32)).toNatClampNeg) := inb_of Sz17 ⟨by decide, by decide⟩
  have hat17 : cl17.slots[((0 : Int32)).toNatClampNeg]? = some (.long q0) := Hs17.at hin17 rfl
  have st17 : ∀ target, Steps p.tables e below (T11.setTop (mkF m 120 #[.val (.long q0), .second, .val (.long q1), .second, .val (.long q2), .second, .val (.int p3), .val (.int bit), .val (.ref b), .val (.int (own_is (own_pick q0 q1 q2 (own_idx bit)) bit)), .val (.int i), .val (.long ww), .second, .val (.int (bit - ((64 : Int32) * i))), .val (.int want), .unset] [(.long q0)])) target → Steps p.tables e below (T11.setTop (mkF m 119 #[.val (.long q0), .second, .val (.long q1), .second, .val (.long q2), .second, .val (.int p3), .val (.int bit), .val (.ref b), .val (.int (own_is (own_pick q0 q1 q2 (own_idx bit)) bit)), .val (.int i), .val (.long ww), .second, .val (.int (bit - ((64 : Int32) * i))), .val (.int want), .unset] [(.int (0 : Int32)), (.ref b)])) target := fun target kt => X11.laload hx (j := (0 : Int32)) (v := (.long q0)) (by rw [e11]; exact Ar17.1) (State.isArrayOf_alike hZ.alike Ar17.2.1) Ar17.2.2 hin17 hat17 (g := (mkF m 119 #[.val (.long q0), .second, .val (.long q1), .second, .val (.long q2), .second, .val (.int p3), .val (.int bit), .val (.ref b), .val (.int (own_is (own_pick q0 q1 q2 (own_idx bit)) bit)), .val (.int i), .val (.long ww), .second, .val (.int (bit - ((64 : Int32) * i))), .val (.int want), .unset] [(.int (0 : Int32)), (.ref b)])) rfl rfl (hb hby at_119) _ kt
  have st18 : ∀ target, Steps p.tables e below (T11.setTop (mkF m 128 #[.val (.long q0), .second, .val (.long q1), .second, .val (.long q2), .second, .val (.int p3), .val (.int bit), .val (.ref b), .val (.int (own_is (own_pick q0 q1 q2 (own_idx bit)) bit)), .val (.int i), .val (.long ww), .second, .val (.int (bit - ((64 : Int32) * i))), .val (.int want), .unset] [(.int (1 : Int32)), (.ref b)])) target → Steps p.tables e below (T11.setTop (mkF m 120 #[.val (.long q0), .second, .val (.long q1), .second, .val (.long q2), .second, .val (.int p3), .val (.int bit), .val (.ref b), .val (.int (own_is (own_pick q0 q1 q2 (own_idx bit)) bit)), .val (.int i), .val (.long ww), .second, .val (.int (bit - ((64 : Int32) * i))), .val (.int want), .unset] [(.long q0)])) target := by
    intro target kt
    show Steps p.tables e below (T11.setTop (mkF m 120 #[.val (.long q0), .second, .val (.long q1), .second, .val (.long q2), .second, .val (.int p3), .val (.int bit), .val (.ref b), .val (.int (own_is (own_pick q0 q1 q2 (own_idx bit)) bit)), .val (.int i), .val (.long ww), .second, .val (.int (bit - ((64 : Int32) * i))), .val (.int want), .unset] [(.long q0)])) _
    refine XS.lloadN X11.here hx rfl (hb hby at_120) rfl ?_
    show Steps p.tables e below (T11.setTop (mkF m 121 #[.val (.long q0), .second, .val (.long q1), .second, .val (.long q2), .second, .val (.int p3), .val (.int bit), .val (.ref b), .val (.int (own_is (own_pick q0 q1 q2 (own_idx bit)) bit)), .val (.int i), .val (.long ww), .second, .val (.int (bit - ((64 : Int32) * i))), .val (.int want), .unset] [(.long q0), (.long q0)])) _
    refine XS.lcmp X11.here hx rfl (hb hby at_121) rfl ?_
    show Steps p.tables e below (T11.setTop (mkF m 122 #[.val (.long q0), .second, .val (.long q1), .second, .val (.long q2), .second, .val (.int p3), .val (.int bit), .val (.ref b), .val (.int (own_is (own_pick q0 q1 q2 (own_idx bit)) bit)), .val (.int i), .val (.long ww), .second, .val (.int (bit - ((64 : Int32) * i))), .val (.int want), .unset] [(.int (lcmpW q0 q0))])) _
    refine XS.ifNo X11.here hx rfl (hb hby at_122) rfl ((if0 _ _).trans (teq ((own_lc_eq _ _).mpr rfl)).2) ?_
    show Steps p.tables e below (T11.setTop (mkF m 125 #[.val (.long q0), .second, .val (.long q1), .second, .val (.long q2), .second, .val (.int p3), .val (.int bit), .val (.ref b), .val (.int (own_is (own_pick q0 q1 q2 (own_idx bit)) bit)), .val (.int i), .val (.long ww), .second, .val (.int (bit - ((64 : Int32) * i))), .val (.int want), .unset] [])) _
    refine XS.aload X11.here hx rfl (hb hby at_125) rfl rfl ?_
    show Steps p.tables e below (T11.setTop (mkF m 127 #[.val (.long q0), .second, .val (.long q1), .second, .val (.long q2), .second, .val (.int p3), .val (.int bit), .val (.ref b), .val (.int (own_is (own_pick q0 q1 q2 (own_idx bit)) bit)), .val (.int i), .val (.long ww), .second, .val (.int (bit - ((64 : Int32) * i))), .val (.int want), .unset] [(.ref b)])) _
    refine XS.iconst X11.here hx rfl (hb hby at_127) ?_
    exact kt
  obtain ⟨cl19, Ar19, qc19, Sz19, Mn19, Hs19, Gs19⟩ := id V_b_9
  have hin19 : ¬ ((1 : Int32) < 0 ∨ cl19.slots.size ≤ ((1 : Int32)).toNatClampNeg) := inb_of Sz19 ⟨by decide, by decide⟩
  have hat19 : cl19.slots[((1 : Int32)).toNatClampNeg]? = some (.long q1) := Hs19.at hin19 rfl
  have st19 : ∀ target, Steps p.tables e below (T11.setTop (mkF m 129 #[.val (.long q0), .second, .val (.long q1), .second, .val (.long q2), .second, .val (.int p3), .val (.int bit), .val (.ref b), .val (.int (own_is (own_pick q0 q1 q2 (own_idx bit)) bit)), .val (.int i), .val (.long ww), .second, .val (.int (bit - ((64 : Int32) * i))), .val (.int want), .unset] [(.long q1)])) target → Steps p.tables e below (T11.setTop (mkF m 128 #[.val (.long q0), .second, .val (.long q1), .second, .val (.long q2), .second, .val (.int p3), .val (.int bit), .val (.ref b), .val (.int (own_is (own_pick q0 q1 q2 (own_idx bit)) bit)), .val (.int i), .val (.long ww), .second, .val (.int (bit - ((64 : Int32) * i))), .val (.int want), .unset] [(.int (1 : Int32)), (.ref b)])) target := fun target kt => X11.laload hx (j := (1 : Int32)) (v := (.long q1)) (by rw [e11]; exact Ar19.1) (State.isArrayOf_alike hZ.alike Ar19.2.1) Ar19.2.2 hin19 hat19 (g := (mkF m 128 #[.val (.long q0), .second, .val (.long q1), .second, .val (.long q2), .second, .val (.int p3), .val (.int bit), .val (.ref b), .val (.int (own_is (own_pick q0 q1 q2 (own_idx bit)) bit)), .val (.int i), .val (.long ww), .second, .val (.int (bit - ((64 : Int32) * i))), .val (.int want), .unset] [(.int (1 : Int32)), (.ref b)])) rfl rfl (hb hby at_128) _ kt
  have st20 : ∀ target, Steps p.tables e below (T11.setTop (mkF m 137 #[.val (.long q0), .second, .val (.long q1), .second, .val (.long q2), .second, .val (.int p3), .val (.int bit), .val (.ref b), .val (.int (own_is (own_pick q0 q1 q2 (own_idx bit)) bit)), .val (.int i), .val (.long ww), .second, .val (.int (bit - ((64 : Int32) * i))), .val (.int want), .unset] [(.int (2 : Int32)), (.ref b)])) target → Steps p.tables e below (T11.setTop (mkF m 129 #[.val (.long q0), .second, .val (.long q1), .second, .val (.long q2), .second, .val (.int p3), .val (.int bit), .val (.ref b), .val (.int (own_is (own_pick q0 q1 q2 (own_idx bit)) bit)), .val (.int i), .val (.long ww), .second, .val (.int (bit - ((64 : Int32) * i))), .val (.int want), .unset] [(.long q1)])) target := by
    intro target kt
    show Steps p.tables e below (T11.setTop (mkF m 129 #[.val (.long q0), .second, .val (.long q1), .second, .val (.long q2), .second, .val (.int p3), .val (.int bit), .val (.ref b), .val (.int (own_is (own_pick q0 q1 q2 (own_idx bit)) bit)), .val (.int i), .val (.long ww), .second, .val (.int (bit - ((64 : Int32) * i))), .val (.int want), .unset] [(.long q1)])) _
    refine XS.lloadN X11.here hx rfl (hb hby at_129) rfl ?_
    show Steps p.tables e below (T11.setTop (mkF m 130 #[.val (.long q0), .second, .val (.long q1), .second, .val (.long q2), .second, .val (.int p3), .val (.int bit), .val (.ref b), .val (.int (own_is (own_pick q0 q1 q2 (own_idx bit)) bit)), .val (.int i), .val (.long ww), .second, .val (.int (bit - ((64 : Int32) * i))), .val (.int want), .unset] [(.long q1), (.long q1)])) _
    refine XS.lcmp X11.here hx rfl (hb hby at_130) rfl ?_
    show Steps p.tables e below (T11.setTop (mkF m 131 #[.val (.long q0), .second, .val (.long q1), .second, .val (.long q2), .second, .val (.int p3), .val (.int bit), .val (.ref b), .val (.int (own_is (own_pick q0 q1 q2 (own_idx bit)) bit)), .val (.int i), .val (.long ww), .second, .val (.int (bit - ((64 : Int32) * i))), .val (.int want), .unset] [(.int (lcmpW q1 q1))])) _
    refine XS.ifNo X11.here hx rfl (hb hby at_131) rfl ((if0 _ _).trans (teq ((own_lc_eq _ _).mpr rfl)).2) ?_
    show Steps p.tables e below (T11.setTop (mkF m 134 #[.val (.long q0), .second, .val (.long q1), .second, .val (.long q2), .second, .val (.int p3), .val (.int bit), .val (.ref b), .val (.int (own_is (own_pick q0 q1 q2 (own_idx bit)) bit)), .val (.int i), .val (.long ww), .second, .val (.int (bit - ((64 : Int32) * i))), .val (.int want), .unset] [])) _
    refine XS.aload X11.here hx rfl (hb hby at_134) rfl rfl ?_
    show Steps p.tables e below (T11.setTop (mkF m 136 #[.val (.long q0), .second, .val (.long q1), .second, .val (.long q2), .second, .val (.int p3), .val (.int bit), .val (.ref b), .val (.int (own_is (own_pick q0 q1 q2 (own_idx bit)) bit)), .val (.int i), .val (.long ww), .second, .val (.int (bit - ((64 : Int32) * i))), .val (.int want), .unset] [(.ref b)])) _
    refine XS.iconst X11.here hx rfl (hb hby at_136) ?_
    exact kt
  obtain ⟨cl21, Ar21, qc21, Sz21, Mn21, Hs21, Gs21⟩ := id V_b_9
  have hin21 : ¬ ((2 : Int32) < 0 ∨ cl21.slots.size ≤ ((2 : Int32)).toNatClampNeg) := inb_of Sz21 ⟨by decide, by decide⟩
  have hat21 : cl21.slots[((2 : Int32)).toNatClampNeg]? = some (.long q2) := Hs21.at hin21 rfl
  have st21 : ∀ target, Steps p.tables e below (T11.setTop (mkF m 138 #[.val (.long q0), .second, .val (.long q1), .second, .val (.long q2), .second, .val (.int p3), .val (.int bit), .val (.ref b), .val (.int (own_is (own_pick q0 q1 q2 (own_idx bit)) bit)), .val (.int i), .val (.long ww), .second, .val (.int (bit - ((64 : Int32) * i))), .val (.int want), .unset] [(.long q2)])) target → Steps p.tables e below (T11.setTop (mkF m 137 #[.val (.long q0), .second, .val (.long q1), .second, .val (.long q2), .second, .val (.int p3), .val (.int bit), .val (.ref b), .val (.int (own_is (own_pick q0 q1 q2 (own_idx bit)) bit)), .val (.int i), .val (.long ww), .second, .val (.int (bit - ((64 : Int32) * i))), .val (.int want), .unset] [(.int (2 : Int32)), (.ref b)])) target := fun target kt => X11.laload hx (j := (2 : Int32)) (v := (.long q2)) (by rw [e11]; exact Ar21.1) (State.isArrayOf_alike hZ.alike Ar21.2.1) Ar21.2.2 hin21 hat21 (g := (mkF m 137 #[.val (.long q0), .second, .val (.long q1), .second, .val (.long q2), .second, .val (.int p3), .val (.int bit), .val (.ref b), .val (.int (own_is (own_pick q0 q1 q2 (own_idx bit)) bit)), .val (.int i), .val (.long ww), .second, .val (.int (bit - ((64 : Int32) * i))), .val (.int want), .unset] [(.int (2 : Int32)), (.ref b)])) rfl rfl (hb hby at_137) _ kt
  obtain ⟨fs, hr, hrun, hended, hW, hsame⟩ := X11.leave (v := some (.int (1 : Int32))) (fun h => by rw [Bd.returns] at h; cases h)
  refine ⟨_, _, pre0 _ (st1 _ (st2 _ (st3 _ (st4 _ (st5 _ (st6 _ (st7 _ (st8 _ (st9 _ (st10 _ (st11 _ (st12 _ (st13 _ (st14 _ (st15 _ (st16 _ (st17 _ (st18 _ (st19 _ (st20 _ (st21 _ ?_))))))))))))))))))))), hrun, hended, _, _, rfl, ?_, ⟨_, rfl⟩, hW, hsame.mono (by decide) (by decide)⟩
  · show Steps p.tables e below (T11.setTop (mkF m 138 #[.val (.long q0), .second, .val (.long q1), .second, .val (.long q2), .second, .val (.int p3), .val (.int bit), .val (.ref b), .val (.int (own_is (own_pick q0 q1 q2 (own_idx bit)) bit)), .val (.int i), .val (.long ww), .second, .val (.int (bit - ((64 : Int32) * i))), .val (.int want), .unset] [(.long q2)])) _
    refine XS.lload X11.here hx rfl (hb hby at_138) rfl ?_
    show Steps p.tables e below (T11.setTop (mkF m 140 #[.val (.long q0), .second, .val (.long q1), .second, .val (.long q2), .second, .val (.int p3), .val (.int bit), .val (.ref b), .val (.int (own_is (own_pick q0 q1 q2 (own_idx bit)) bit)), .val (.int i), .val (.long ww), .second, .val (.int (bit - ((64 : Int32) * i))), .val (.int want), .unset] [(.long q2), (.long q2)])) _
    refine XS.lcmp X11.here hx rfl (hb hby at_140) rfl ?_
    show Steps p.tables e below (T11.setTop (mkF m 141 #[.val (.long q0), .second, .val (.long q1), .second, .val (.long q2), .second, .val (.int p3), .val (.int bit), .val (.ref b), .val (.int (own_is (own_pick q0 q1 q2 (own_idx bit)) bit)), .val (.int i), .val (.long ww), .second, .val (.int (bit - ((64 : Int32) * i))), .val (.int want), .unset] [(.int (lcmpW q2 q2))])) _
    refine XS.ifNo X11.here hx rfl (hb hby at_141) rfl ((if0 _ _).trans (teq ((own_lc_eq _ _).mpr rfl)).2) ?_
    show Steps p.tables e below (T11.setTop (mkF m 144 #[.val (.long q0), .second, .val (.long q1), .second, .val (.long q2), .second, .val (.int p3), .val (.int bit), .val (.ref b), .val (.int (own_is (own_pick q0 q1 q2 (own_idx bit)) bit)), .val (.int i), .val (.long ww), .second, .val (.int (bit - ((64 : Int32) * i))), .val (.int want), .unset] [])) _
    refine XS.iconst X11.here hx rfl (hb hby at_144) ?_
    show Steps p.tables e below (T11.setTop (mkF m 145 #[.val (.long q0), .second, .val (.long q1), .second, .val (.long q2), .second, .val (.int p3), .val (.int bit), .val (.ref b), .val (.int (own_is (own_pick q0 q1 q2 (own_idx bit)) bit)), .val (.int i), .val (.long ww), .second, .val (.int (bit - ((64 : Int32) * i))), .val (.int want), .unset] [(.int (1 : Int32))])) _
    refine XS.goto X11.here hx rfl (pc0 := 145) (pc' := 149) rfl (hb hby at_145) (by decide) (by decide) ?_
    show Steps p.tables e below (T11.setTop (mkF m 149 #[.val (.long q0), .second, .val (.long q1), .second, .val (.long q2), .second, .val (.int p3), .val (.int bit), .val (.ref b), .val (.int (own_is (own_pick q0 q1 q2 (own_idx bit)) bit)), .val (.int i), .val (.long ww), .second, .val (.int (bit - ((64 : Int32) * i))), .val (.int want), .unset] [(.int (1 : Int32))])) _
    refine XS.istore X11.here hx rfl (hb hby at_149) rfl (l' := #[.val (.long q0), .second, .val (.long q1), .second, .val (.long q2), .second, .val (.int p3), .val (.int bit), .val (.ref b), .val (.int (own_is (own_pick q0 q1 q2 (own_idx bit)) bit)), .val (.int i), .val (.long ww), .second, .val (.int (bit - ((64 : Int32) * i))), .val (.int want), .val (.int (1 : Int32))]) rfl ?_
    show Steps p.tables e below (T11.setTop (mkF m 151 #[.val (.long q0), .second, .val (.long q1), .second, .val (.long q2), .second, .val (.int p3), .val (.int bit), .val (.ref b), .val (.int (own_is (own_pick q0 q1 q2 (own_idx bit)) bit)), .val (.int i), .val (.long ww), .second, .val (.int (bit - ((64 : Int32) * i))), .val (.int want), .val (.int (1 : Int32))] [])) _
    refine XS.iload X11.here hx rfl (hb hby at_151) rfl ?_
    show Steps p.tables e below (T11.setTop (mkF m 153 #[.val (.long q0), .second, .val (.long q1), .second, .val (.long q2), .second, .val (.int p3), .val (.int bit), .val (.ref b), .val (.int (own_is (own_pick q0 q1 q2 (own_idx bit)) bit)), .val (.int i), .val (.long ww), .second, .val (.int (bit - ((64 : Int32) * i))), .val (.int want), .val (.int (1 : Int32))] [(.int (own_is (own_pick q0 q1 q2 (own_idx bit)) bit))])) _
    refine XS.iload X11.here hx rfl (hb hby at_153) rfl ?_
    show Steps p.tables e below (T11.setTop (mkF m 155 #[.val (.long q0), .second, .val (.long q1), .second, .val (.long q2), .second, .val (.int p3), .val (.int bit), .val (.ref b), .val (.int (own_is (own_pick q0 q1 q2 (own_idx bit)) bit)), .val (.int i), .val (.long ww), .second, .val (.int (bit - ((64 : Int32) * i))), .val (.int want), .val (.int (1 : Int32))] [(.int want), (.int (own_is (own_pick q0 q1 q2 (own_idx bit)) bit))])) _
    refine XS.icmpNo X11.here hx rfl (hb hby at_155) rfl (teq hwant').2 ?_
    show Steps p.tables e below (T11.setTop (mkF m 158 #[.val (.long q0), .second, .val (.long q1), .second, .val (.long q2), .second, .val (.int p3), .val (.int bit), .val (.ref b), .val (.int (own_is (own_pick q0 q1 q2 (own_idx bit)) bit)), .val (.int i), .val (.long ww), .second, .val (.int (bit - ((64 : Int32) * i))), .val (.int want), .val (.int (1 : Int32))] [])) _
    refine XS.iload X11.here hx rfl (hb hby at_158) rfl ?_
    show Steps p.tables e below (T11.setTop (mkF m 160 #[.val (.long q0), .second, .val (.long q1), .second, .val (.long q2), .second, .val (.int p3), .val (.int bit), .val (.ref b), .val (.int (own_is (own_pick q0 q1 q2 (own_idx bit)) bit)), .val (.int i), .val (.long ww), .second, .val (.int (bit - ((64 : Int32) * i))), .val (.int want), .val (.int (1 : Int32))] [(.int (1 : Int32))])) _
    refine XS.ifNo X11.here hx rfl (hb hby at_160) rfl ((if0 _ _).trans (feq (by decide : ¬ ((1 : Int32) = (0 : Int32)))).1) ?_
    show Steps p.tables e below (T11.setTop (mkF m 163 #[.val (.long q0), .second, .val (.long q1), .second, .val (.long q2), .second, .val (.int p3), .val (.int bit), .val (.ref b), .val (.int (own_is (own_pick q0 q1 q2 (own_idx bit)) bit)), .val (.int i), .val (.long ww), .second, .val (.int (bit - ((64 : Int32) * i))), .val (.int want), .val (.int (1 : Int32))] [])) _
    refine XS.iconst X11.here hx rfl (hb hby at_163) ?_
    show Steps p.tables e below (T11.setTop (mkF m 164 #[.val (.long q0), .second, .val (.long q1), .second, .val (.long q2), .second, .val (.int p3), .val (.int bit), .val (.ref b), .val (.int (own_is (own_pick q0 q1 q2 (own_idx bit)) bit)), .val (.int i), .val (.long ww), .second, .val (.int (bit - ((64 : Int32) * i))), .val (.int want), .val (.int (1 : Int32))] [(.int (1 : Int32))])) _
    refine XS.goto X11.here hx rfl (pc0 := 164) (pc' := 168) rfl (hb hby at_164) (by decide) (by decide) ?_
    show Steps p.tables e below (T11.setTop (mkF m 168 #[.val (.long q0), .second, .val (.long q1), .second, .val (.long q2), .second, .val (.int p3), .val (.int bit), .val (.ref b), .val (.int (own_is (own_pick q0 q1 q2 (own_idx bit)) bit)), .val (.int i), .val (.long ww), .second, .val (.int (bit - ((64 : Int32) * i))), .val (.int want), .val (.int (1 : Int32))] [(.int (1 : Int32))])) _
    exact retN X11 hx (t := .boolean) Bd.returns (by simp) (hb hby at_168) hr
  · show Q_rm0 Z q0 q1 q2 p3 h0 n0 _ T11.heap _
    rw [e11]
    exact ⟨rfl, N11⟩
set_option maxRecDepth 65536 in
set_option maxHeartbeats 40000000 in
theorem comes_1 {Post : Tables → Env → Array Value → State → Outcome → State → Prop} (hpost : ∀ tb e args s v u, (limb_1_1.after args s (.returned v) u = true ∧ limb_1_2.after args s (.returned v) u = true ∧ True) → FrameEnd s (.returned v) u (Jvm.fieldLocs frame_1_writes args s ++ Jvm.arrayLocs frame_1_arrays args s ++ Jvm.staticLocs frame_1_statics s) 16 128 → Post tb e args s (.returned v) u) :
    ArmFor flags0 classFile x code maxLocals ret World_1 tables_1 room_1 Calls_1 rest_1 Pre_1 Post := by
  intro l hfl _ _ p e ha hc hk s m args below hf hA hF happ hP
  obtain ⟨hcalls, hrest, hpre⟩ := hP
  obtain ⟨-, -, -, hnamed, -, -, -, hat⟩ := (Spec.applies_iff hf).mp happ
  obtain ⟨hg, hn⟩ := and_e (Cond.before_iff.mp (show (Jvm.Cond.and given_1 narrow_1).before args s = true from hpre))
  obtain ⟨gg1, gg2⟩ := and_e hg
  obtain ⟨gg3, gg4⟩ := and_e gg2
  obtain ⟨gg5, gg6⟩ := and_e gg4
  obtain ⟨gg7, gg8⟩ := and_e gg6
  obtain ⟨w0, w1, w2, w3, rfl⟩ : ∃ w0 w1 w2 w3 : Value, args = #[w0, w1, w2, w3] := by
    have hs : args.size = 4 := by simpa [Cond.value, given_1] using gg1
    obtain ⟨L⟩ := args
    match L, hs with
    | [w0, w1, w2, w3], _ => exact ⟨w0, w1, w2, w3, rfl⟩
  have hw := fun d (hd : d ∈ tables_1) => atoms_spec (ws := Jvm.Cond.code x code maxLocals ret :: tables_1) hat d (List.mem_cons_of_mem _ hd)
  have hfit : Fit s := fun {y c} hc i hi => by
    obtain ⟨ha, rfl⟩ := Array.getElem?_eq_some_iff.mp hc
    have q := List.all_eq_true.mp ((Array.all_eq_true_iff_forall_mem.mp hF) _ (Array.getElem_mem ha)) i (List.mem_range.mpr hi)
    simpa [Array.getElem?_eq_getElem hi] using q
  obtain ⟨i0, ei0⟩ := isL_v gg3
  obtain rfl : w0 = (.long i0) := Option.some.inj ei0
  obtain ⟨i1, ei1⟩ := isL_v gg5
  obtain rfl : w1 = (.long i1) := Option.some.inj ei1
  obtain ⟨i2, ei2⟩ := isL_v gg7
  obtain rfl : w2 = (.long i2) := Option.some.inj ei2
  obtain ⟨i3, ei3⟩ := is_v gg8
  obtain rfl : w3 = (.int i3) := Option.some.inj ei3
  obtain ⟨n, o, h1, h2, h3, _, L, rfl, ⟨rfl, N⟩, hq⟩ := rm0 l s _ hw tables_1 i0 i1 i2 i3 s.heap s.heap.size (Nat.le_refl _)  p e ha hc hk s m _ below hf ((Spec.applies_iff_loose hf).mp happ).1 ⟨rfl, State.Warmed39.refl s, rfl⟩ trivial
  refine ⟨n, _, h1, h2, h3, hpost _ _ _ _ _ _ ⟨Cond.after_iff.mpr rfl, Cond.after_iff.mpr (eq_i res_at (Term.int_eval (1)) rfl), trivial⟩ ⟨hq.1, hq.2.1, (hq.2.2.sift fun y hy => Or.inr (N y hy)).mono (by decide) (by decide)⟩⟩
theorem main_1_1 : Claimed_1_1 := comes_1 fun _ _ _ _ _ _ h hF => ⟨h.1, hF⟩
theorem main_1_2 : Claimed_1_2 := comes_1 fun _ _ _ _ _ _ h hF => ⟨h.2.1, hF⟩
end Jvm.Pilot.@@N@@
namespace Jvm.Pilot.@@N@@
open Jvm Jvm.ClassFile Sem Op Lib Jvm.Free Jvm.Stand Jvm.Pilot.@@N@@.Jvm.D
/-! MADE BY PROGRAM (witnessworld.py) out of the Statement's table words and the real class files: 11 classes; the members and pool entries that the words name. The judged class is class 1, her method 1. -/
namespace start1
open Jvm.ClassFile
def u (s : String) : CpInfo := .utf8 (stringToUtf16 s)
/-- a pool by its gaps: so many unusable entries, then the entry; so many at the end -/
def gap : Nat → List CpInfo → List CpInfo
  | 0, r => r
  | n + 1, r => .unusable :: gap n r
def poolList (es : List (Nat × CpInfo)) (last : Nat) : List CpInfo := es.foldr (fun e r => gap e.1 (e.2 :: r)) (gap last [])
def pool (es : List (Nat × CpInfo)) (last : Nat) : Array CpInfo := ⟨poolList es last⟩
def fileOf (pool : Array CpInfo) (this : Nat) (attrs : Array Attribute := #[]) (ms : Array MethodInfo := #[]) (fl : Nat := 33) (sup : Nat := 0) (ifs : Array Nat := #[]) (fds : Array FieldInfo := #[]) : ClassFile where
  minorVersion := 0
  majorVersion := 65
  constantPool := pool
  accessFlags := fl
  thisClass := this
  superClass := sup
  interfaces := ifs
  fields := fds
  methods := ms
  attributes := attrs
def plain (name : String) (sup : Option ClassId) : Class where
  name := name
  kind := .ordinary
  loader := none
  accessFlags := 33
  super := sup
  interfaces := #[]
  cf := none
  fields := #[]
  methods := #[]
  instanceTypes := #[]
  staticTypes := #[]
  resolved := #[]
  callSites := []
  init := .initialized
  statics := none
  mirror := none

def pool0 : Array CpInfo := pool [(5, u "<init>"), (0, u "()V"), (1, .class_ 10), (1, u "java/lang/Object")] 113

def k0m0 : Method := { name := "<init>", desc := "()V", sig := { parameters := [], returnType := none }, accessFlags := 1, code := none }
/-- java/lang/Object -/
def k0 : Class := { plain "java/lang/Object" none with
  accessFlags := 33
  interfaces := #[]
  cf := some (fileOf pool0 8 #[] #[{ accessFlags := 1, nameIndex := 5, descriptorIndex := 6, attributes := #[] }] 33 0 #[] #[])
  fields := #[]
  methods := #[k0m0]
  instanceTypes := #[]
  staticTypes := #[]
  resolved := Array.replicate 124 none
  statics := none }

def pool1 : Array CpInfo := pool [(2, .class_ 4), (1, u "java/lang/Object"), (0, u "<init>"), (0, u "()V"), (0, .integer 2147483647), (0, .methodref 9 10), (0, .class_ 11), (0, .nameAndType 12 13), (0, u "com/example/arvio/arvio/lang/Bits"), (0, u "isSet"), (0, u "([JI)Z"), (0, .class_ 15), (0, u "com/example/arvio/arvio/lang/BitsIsSetPinLaw"), (2, u "law"), (0, u "(JJJI)Z")] 5

def k1m0 : Method := { name := "<init>", desc := "()V", sig := { parameters := [], returnType := none }, accessFlags := 1, code := none }
def k1c1 : Code := { maxStack := 5, maxLocals := 16, code := code, exceptionTable := #[], attributes := #[] }
def k1m1 : Method := { name := "law", desc := "(JJJI)Z", sig := { parameters := [.long, .long, .long, .int], returnType := some .boolean }, accessFlags := 9, code := some k1c1 }
/-- com/example/arvio/arvio/lang/BitsIsSetPinLaw -/
def k1 : Class := { plain "com/example/arvio/arvio/lang/BitsIsSetPinLaw" (some 0) with
  accessFlags := 49
  interfaces := #[]
  cf := some (fileOf pool1 14 #[] #[{ accessFlags := 1, nameIndex := 5, descriptorIndex := 6, attributes := #[] }, { accessFlags := 9, nameIndex := 18, descriptorIndex := 19, attributes := #[] }] 49 2 #[] #[])
  fields := #[]
  methods := #[k1m0, k1m1]
  instanceTypes := #[]
  staticTypes := #[]
  resolved := Array.replicate 25 none
  statics := none }

def pool2 : Array CpInfo := pool [(2, .class_ 4), (1, u "java/lang/Object"), (0, u "<init>"), (0, u "()V"), (4, .class_ 12), (0, u "com/example/arvio/arvio/lang/Bits"), (4, u "isSet"), (0, u "([JI)Z")] 6

def k2m0 : Method := { name := "<init>", desc := "()V", sig := { parameters := [], returnType := none }, accessFlags := 2, code := none }
def k2c1 : Code := { maxStack := 6, maxLocals := 2, code := prog_85_method_3_code, exceptionTable := #[], attributes := #[] }
def k2m1 : Method := { name := "isSet", desc := "([JI)Z", sig := { parameters := [(.array .long), .int], returnType := some .boolean }, accessFlags := 9, code := some k2c1 }
/-- com/example/arvio/arvio/lang/Bits -/
def k2 : Class := { plain "com/example/arvio/arvio/lang/Bits" (some 0) with
  accessFlags := 33
  interfaces := #[]
  cf := some (fileOf pool2 11 #[] #[{ accessFlags := 2, nameIndex := 5, descriptorIndex := 6, attributes := #[] }, { accessFlags := 9, nameIndex := 17, descriptorIndex := 18, attributes := #[] }] 33 2 #[] #[])
  fields := #[]
  methods := #[k2m0, k2m1]
  instanceTypes := #[]
  staticTypes := #[]
  resolved := Array.replicate 25 none
  statics := none }

def pool3 : Array CpInfo := pool [(1, u "java/lang/Cloneable"), (0, .class_ 1), (0, u "java/lang/Object"), (0, .class_ 3)] 3

/-- java/lang/Cloneable -/
def k3 : Class := { plain "java/lang/Cloneable" (some 0) with
  accessFlags := 1537
  interfaces := #[]
  cf := some (fileOf pool3 2 #[] #[] 1537 4 #[] #[])
  fields := #[]
  methods := #[]
  instanceTypes := #[]
  staticTypes := #[]
  resolved := Array.replicate 8 none
  statics := none }

def pool4 : Array CpInfo := pool [(1, u "java/io/Serializable"), (0, .class_ 1), (0, u "java/lang/Object"), (0, .class_ 3)] 3

/-- java/io/Serializable -/
def k4 : Class := { plain "java/io/Serializable" (some 0) with
  accessFlags := 1537
  interfaces := #[]
  cf := some (fileOf pool4 2 #[] #[] 1537 4 #[] #[])
  fields := #[]
  methods := #[]
  instanceTypes := #[]
  staticTypes := #[]
  resolved := Array.replicate 8 none
  statics := none }

/-- the primitive byte -/
def k5 : Class := { plain "byte" none with kind := .primitive 'B', accessFlags := 0x411 }
/-- [B -/
def k6 : Class := { plain "[B" (some 0) with kind := .array 5 .byte, interfaces := #[3, 4], accessFlags := 1041 }

/-- the primitive int -/
def k7 : Class := { plain "int" none with kind := .primitive 'I', accessFlags := 0x411 }
/-- [I -/
def k8 : Class := { plain "[I" (some 0) with kind := .array 7 .int, interfaces := #[3, 4], accessFlags := 1041 }

/-- the primitive long -/
def k9 : Class := { plain "long" none with kind := .primitive 'J', accessFlags := 0x411 }
/-- [J -/
def k10 : Class := { plain "[J" (some 0) with kind := .array 9 .long, interfaces := #[3, 4], accessFlags := 1041 }

def heap : Heap := #[]
def classes : Array Class := #[k0, k1, k2, k3, k4, k5, k6, k7, k8, k9, k10]
def interned : List (Array UInt16 × Addr) := []
def slotsUsed : Nat := 0
def theMethod : MethodId := ⟨1, 1⟩
def args0 : Array Value := #[.long 5, .long 5, .long 5, .int 5]
def aboutOver (below : List Frame) : State where
  vm := { classes := classes, interned := interned.toArray }
  heap := heap
  slotsUsed := slotsUsed
  threads := #[{ frames := .invoking theMethod args0 :: below }]
def below0 : List Frame := [.native { method := ⟨0, 0⟩, args := #[] }]
def about1 : State := aboutOver below0
def p0 : Program := .bare "" "" ""
def e0 : Env := launch0.env 0 0 0
theorem w_frames : about1.frames = Frame.invoking theMethod args0 :: below0 := rfl
set_option maxRecDepth 65536 in
theorem w_args : argsFit about1.vm theMethod args0 = true := by decide +kernel
set_option maxRecDepth 65536 in
theorem w_heap : heapFits about1 = true := by decide +kernel
set_option maxRecDepth 65536 in
theorem w_runnable : about1.curStatus? = some .runnable := by decide +kernel
set_option maxRecDepth 65536 in
theorem w_alone : about1.alone = true := by decide +kernel
set_option maxRecDepth 65536 in
theorem w_named : about1.methodNamed? x = some theMethod := by decide +kernel
set_option maxRecDepth 65536 in
theorem w_hears : about1.hears theMethod below0 = true := by decide +kernel
set_option maxRecDepth 65536 in
theorem w_ripe : about1.ripe theMethod args0 below0 = true := by decide +kernel
theorem w_running : about1.status = .running := rfl
set_option maxRecDepth 65536 in
theorem w_room : about1.hasRoom e0.platform room_1 = true :=
  launch0.hasRoom_least _ room_1 (by decide +kernel) (by decide +kernel) (by decide +kernel) (by decide +kernel) (by decide +kernel) (by decide +kernel)
theorem allAtoms_all (ts : List Jvm.Cond) (a : Array Jvm.Value) (st : Jvm.State) : (allAtoms ts).before a st = ts.all (fun c => c.before a st) := by
  induction ts with
  | nil => rfl
  | cons c t ih =>
    show (Jvm.Cond.and c (allAtoms t)).before a st = _
    rw [Jvm.Cond.before_and, ih, List.all_cons]
def words1 : List Jvm.Cond := Jvm.Cond.code x code maxLocals ret :: tables_1
/-- a 'code' word, met by the world's own term for the bytes: nothing is compared byte by byte -/
theorem code_word {y : MethodName} {bytes : ByteArray} {mx : Nat} {rt : Option FieldType} {a : Array Value} {s : State} {m : MethodId} {meth : Method} {c : Code} (h1 : s.methodNamed? y = some m) (h2 : s.vm.method? m = some meth) (h3 : meth.code = some c) (h4 : c.code = bytes)
    (h5 : (c.maxLocals == mx && c.exceptionTable.isEmpty && decide (c.maxStack ≤ mostOperands) && decide (meth.sig.returnType = rt) && !meth.locks && decide (parseMethodDescriptor y.desc = some meth.sig)) = true) : (Jvm.Cond.code y bytes mx rt).before a s = true := by
  simp only [Bool.and_eq_true, beq_iff_eq, Bool.not_eq_true', decide_eq_true_eq] at h5
  obtain ⟨⟨⟨⟨⟨g1, g2⟩, g3⟩, g4⟩, g5⟩, g6⟩ := h5
  simp [Cond.before, Cond.holds, Cond.value, h1, h2, h3, h4, g1, g2, g3, g4, g5, g6]
def isCode : Jvm.Cond → Bool
  | .code _ _ _ _ => true
  | _ => false
theorem all_split {L : List Jvm.Cond} {P : Jvm.Cond → Bool} (h1 : L.all (fun c => isCode c || P c) = true) (h2 : ∀ c ∈ L.filter isCode, P c = true) : L.all P = true := by
  refine List.all_eq_true.mpr fun c hc => ?_
  have h := List.all_eq_true.mp h1 c hc
  rcases Bool.eq_false_or_eq_true (isCode c) with hi | hi
  · exact h2 c (List.mem_filter.mpr ⟨hc, hi⟩)
  · simpa [hi] using h
set_option maxRecDepth 65536 in
theorem w_c0 : (Jvm.Cond.code x code maxLocals ret).before args0 about1 = true := code_word (m := ⟨1, 1⟩) (meth := k1m1) (c := k1c1) (by decide +kernel) rfl rfl rfl (by decide +kernel)
set_option maxRecDepth 65536 in
theorem w_c1 : (Jvm.Cond.code ({ cls := "com/example/arvio/arvio/lang/Bits", name := "isSet", desc := "([JI)Z" } : Jvm.MethodName) prog_85_method_3_code (2 : Nat) (Option.some Jvm.ClassFile.FieldType.boolean)).before args0 about1 = true := code_word (m := ⟨2, 1⟩) (meth := k2m1) (c := k2c1) (by decide +kernel) rfl rfl rfl (by decide +kernel)
def codes1 : List Jvm.Cond := [Jvm.Cond.code x code maxLocals ret, Jvm.Cond.code ({ cls := "com/example/arvio/arvio/lang/Bits", name := "isSet", desc := "([JI)Z" } : Jvm.MethodName) prog_85_method_3_code (2 : Nat) (Option.some Jvm.ClassFile.FieldType.boolean)]
set_option maxRecDepth 65536 in
theorem codes_eq : words1.filter isCode = codes1 := rfl
theorem w_codes : ∀ c ∈ words1.filter isCode, c.before args0 about1 = true := by
  rw [codes_eq]
  intro c hc
  simp only [codes1, List.mem_cons, List.not_mem_nil, or_false] at hc
  rcases hc with rfl | rfl
  · exact w_c0
  · exact w_c1
set_option maxRecDepth 65536 in
theorem w_t1 : words1.all (fun c => isCode c || c.before args0 about1) = true := by decide +kernel
theorem w_tables : (allAtoms (Jvm.Cond.code x code maxLocals ret :: tables_1)).before args0 about1 = true := by
  rw [allAtoms_all]
  show words1.all (fun c => c.before args0 about1) = true
  refine all_split ?_ w_codes
  rw [w_t1]
set_option maxRecDepth 65536 in
theorem w_case : (Jvm.Cond.and given_1 narrow_1).before args0 about1 = true := by decide +kernel
theorem w_applies : (headSpec (Jvm.Cond.code x code maxLocals ret :: tables_1) room_1).applies x e0.platform about1 = true :=
  (Spec.applies_iff w_frames).mpr ⟨w_running, w_runnable, w_alone, w_named, w_hears, w_ripe, w_room, w_tables⟩
theorem atStart : AtStart classFile x code maxLocals ret World_1 tables_1 room_1 Calls_1 rest_1 Pre_1 launch0 p0 e0 about1 theMethod args0 below0 :=
  ⟨lists_1, trivial, launch0.admits_env _ _ _, launch0.least_env, fairChoices_fair.cas, fairChoices_fair.clock, w_frames, w_args, w_heap, w_applies, trivial, trivial, w_case⟩
end start1
theorem witness_1 : WitnessClaimed_1 := ⟨start1.p0, start1.e0, start1.about1, start1.theMethod, start1.args0, start1.below0, start1.atStart⟩
end Jvm.Pilot.@@N@@
