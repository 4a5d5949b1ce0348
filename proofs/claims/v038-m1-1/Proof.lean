import JvmDerived
import JvmDerived.Pilot.@@N@@Statement
import JvmDerived.Pilot.@@N@@Code
set_option linter.unusedVariables false
set_option linter.unusedSimpArgs false
namespace Jvm.RoadKit
open Sem ClassFile Op Lib Jvm.Stand Jvm.Free Jvm.LawKit
section New
variable {p : Program} {l : Launch} {e : Env} {R : Room} {s : State} {m : MethodId} {args : Array Value} {below : List Frame} {meth : Method} {c : Code} {T : State} {locs : List Loc} {cells slots : Nat}
theorem retI (X : Stand p l e R s m args below meth c T locs cells slots) (hx : p.tables.exec = Jvm.exec) {pc : Nat} {Ls : Array Slot} {z : Int32} {rest : List Value} (hret : meth.sig.returnType = some .int) (hd : decode c.code pc = .ok (.ireturn, 1)) {fs : List Frame}
    (hl : ∀ (f : JFrame) (acts : List Action), f.method = m → f.locked = none → f.entered = [] → (doReturn e (T.setTop f) acts (some (.int z))).1 = T.setFrames fs) : Steps p.tables e below (T.setTop (mkF m pc Ls (.int z :: rest))) (T.setFrames fs) := by
  have hm' : T.vm.method? m = some meth := X.method'
  have hn : narrow .int (.int z) = .int z := rfl
  show Steps p.tables e below (T.setTop { method := m, pc := pc, locals := Ls, stack := _ :: rest, locked := none }) _
  jvm_step X.here [X.here.top, hx, hd, hm', hret, hn]
  first | (intro acts; rw [hl _ acts rfl rfl rfl]) | rw [hl _ _ rfl rfl rfl]
  exact Steps.refl _
end New
end Jvm.RoadKit
namespace Jvm.Pilot.@@N@@
open Jvm Jvm.ClassFile Sem Op Lib Jvm.Free Jvm.Stand Jvm.LawKit Jvm.RoadKit Bundle Jvm.Pilot.@@N@@.Jvm.D
theorem own_lc_lt (x y : Int64) : lcmpW x y < 0 ↔ x < y := by rw [lcW]; exact lc_lt x y
theorem own_lc_gt (x y : Int64) : 0 < lcmpW x y ↔ y < x := by rw [lcW]; exact lc_gt x y
theorem own_lc_eq (x y : Int64) : lcmpW x y = 0 ↔ x = y := by rw [lcW]; exact lc_eq x y
theorem own_ri {P : Prop} [Decidable P] {a b : Value} (h1 : a.isRef = true) (h2 : b.isRef = true) : (if P then a else b).isRef = true := by
  by_cases h : P
  · rw [if_pos h]; exact h1
  · rw [if_neg h]; exact h2
theorem own_sta_keep {Z : State} {h h' : Heap} {C n d : String} {w : Value} {ws : List Addr} (F : Sta Z h C n d w) (K : Keep h h' ws) (q : ∀ x ∈ ws, ∀ cell : Cell, h[x]? = some cell → cell.vm.isStatics = false) : Sta Z h' C n d w := by
  obtain ⟨cf, i, k, f, st, cell, h1, h2, h3, h4, h5, h6, h7⟩ := F
  exact ⟨cf, i, k, f, st, cell, h1, h2, h3, h4, K.2.1 st cell h5 (fun z => by rw [q st z cell h5] at h6; cases h6), h6, h7⟩
theorem pd_0 : parseMethodDescriptor "(J)V" = some ⟨[.long], none⟩ := by decide +kernel
theorem pd_1 : parseMethodDescriptor "()V" = some ⟨[], none⟩ := by decide +kernel
theorem pd_2 : parseMethodDescriptor "(Ljava/lang/String;)V" = some ⟨[(.object "java/lang/String")], none⟩ := by decide +kernel
theorem pd_3 : parseMethodDescriptor "(Lcom/example/nomlog/nomlog/lang/Term;)V" = some ⟨[(.object "com/example/nomlog/nomlog/lang/Term")], none⟩ := by decide +kernel
theorem pd_4 : parseMethodDescriptor "()Lcom/example/nomlog/nomlog/lang/Term;" = some ⟨[], some (.object "com/example/nomlog/nomlog/lang/Term")⟩ := by decide +kernel
theorem own_noins {Z : State} {h : Heap} {a : Addr} {a0 : Array Value} {K : String} {n : Nat} (E : Exa Z h a "com/example/nomlog/nomlog/lang/Atom") (w1 : (Cond.superclass "com/example/nomlog/nomlog/lang/Atom" "com/example/nomlog/nomlog/lang/Term").before a0 Z = true) (w2 : (Cond.superclass "com/example/nomlog/nomlog/lang/Term" "java/lang/Object").before a0 Z = true) (w3 : (Cond.noSuperclass "java/lang/Object").before a0 Z = true) (w4 : (Cond.instantiable K n).before a0 Z = true) (n1 : K ≠ "com/example/nomlog/nomlog/lang/Atom") (n2 : K ≠ "com/example/nomlog/nomlog/lang/Term") (n3 : K ≠ "java/lang/Object") : Ins Z h a K false := by
  obtain ⟨cell, k, h1, h2, h3, h4, h5⟩ := E
  obtain ⟨cN, kL, kN, fN, gL, gN, sL, oL, oN, iL⟩ := Cond.superclass_spec h2 w1
  obtain ⟨cO, kN', kO, fO, gN', gO, sN, -, oO, -⟩ := Cond.superclass_spec fN w2
  obtain ⟨cO', kO', fO', gO', sO, -, -⟩ := Cond.noSuperclass_spec w3
  obtain ⟨cK, kK, fK, gK, oK, iK, -⟩ := Cond.instantiable_spec w4
  cases fO.symm.trans fO'
  cases gO.symm.trans gO'
  cases gN.symm.trans gN'
  have ne : ∀ {A B : String} {c d : ClassId}, Z.vm.findClass A = some c → Z.vm.findClass B = some d → A ≠ B → c ≠ d := fun p q r e => by
    subst e
    obtain ⟨k1, a1, a2⟩ := Vm.findClass_spec p
    obtain ⟨k2, b1, b2⟩ := Vm.findClass_spec q
    cases a1.symm.trans b1
    exact r (a2.symm.trans b2)
  have hLK := ne h2 fK (Ne.symm n1)
  have hNK := ne fN fK (Ne.symm n2)
  have hOK := ne fO fK (Ne.symm n3)
  have iK' : kK.isInterface = false := by
    cases hi : kK.isInterface
    · rfl
    · rw [hi] at iK; simp at iK
  have sub : ∀ fuel, Z.vm.isSubclassAux fuel cell.cls cK = false := fun fuel => by
    rcases fuel with _ | _ | _ | fuel
    · rfl
    · simp [Vm.isSubclassAux, hLK, gL, sL]
    · simp [Vm.isSubclassAux, hLK, hNK, gL, sL, gN, sN]
    · simp [Vm.isSubclassAux, hLK, hNK, hOK, gL, sL, gN, sN, gO, sO]
  refine ⟨cell, cK, h1, fK, ?_⟩
  have q : Z.vm.assignable cell.cls cK = false := by
    show Z.vm.assignableAux (255 + 1) cell.cls cK = false
    simp [Vm.assignableAux, hLK, gL, gK, oL, oK, iK', Vm.isSubclass, sub]
  simp [q]
def own_f2 (W2 : Value) (c2 at_ : Addr) : Value := if W2 = .null then .ref c2 else .ref at_
def own_f1 (W1 W2 : Value) (c1 c2 at_ : Addr) : Value := if W1 = .null then .ref c1 else if W1 = .ref at_ then .ref at_ else own_f2 W2 c2 at_
def own_f0 (W0 W1 W2 : Value) (c0 c1 c2 at_ : Addr) : Value := if W0 = .null then .ref c0 else if W0 = .ref at_ then .ref at_ else own_f1 W1 W2 c1 c2 at_
def own_V0 (b ae : Int32) (c1 at_ : Addr) : Value := if (0 : Int32) < b then (if b = (1 : Int32) then (if ae = (0 : Int32) then .ref c1 else .ref at_) else .ref c1) else .null
def own_V1 (b ae : Int32) (c2 at_ : Addr) : Value := if (1 : Int32) < b then (if b = (2 : Int32) then (if ae = (0 : Int32) then .ref c2 else .ref at_) else .ref c2) else .null
def own_V2 (b : Int32) (at_ : Addr) : Value := if (2 : Int32) < b then .ref at_ else .null
def own_cut (u k : Int32) (V : Value) : Value := if u = k then .null else V
def own_pick (i : Int32) (c0 c1 c2 : Addr) : Addr := if i = (0 : Int32) then c0 else if i = (1 : Int32) then c1 else c2
/-- what the law expects -/
def own_e (st b u ae : Int32) (c0 c1 c2 at_ : Addr) : Addr := if st < b then (if u < st then (if ae = (0 : Int32) then (if b = (3 : Int32) then at_ else own_pick b c0 c1 c2) else at_) else (if u < b then own_pick u c0 c1 c2 else (if ae = (0 : Int32) then (if b = (3 : Int32) then at_ else own_pick b c0 c1 c2) else at_))) else own_pick st c0 c1 c2
theorem own_f2r (W2 : Value) (c2 at_ : Addr) : (own_f2 W2 c2 at_).isRef = true := by unfold own_f2; repeat' first | apply own_ri | rfl
theorem own_f1r (W1 W2 : Value) (c1 c2 at_ : Addr) : (own_f1 W1 W2 c1 c2 at_).isRef = true := by unfold own_f1; exact own_ri rfl (own_ri rfl (own_f2r _ _ _))
theorem own_f0r (W0 W1 W2 : Value) (c0 c1 c2 at_ : Addr) : (own_f0 W0 W1 W2 c0 c1 c2 at_).isRef = true := by unfold own_f0; exact own_ri rfl (own_ri rfl (own_f1r _ _ _ _ _))
theorem own_b4 (x : Int32) : (x &&& (3 : Int32)) = 0 ∨ (x &&& (3 : Int32)) = 1 ∨ (x &&& (3 : Int32)) = 2 ∨ (x &&& (3 : Int32)) = 3 := by
  have e : (x &&& (3 : Int32)).toInt = x.toInt % 4 := c_mask _ 3 2 (by decide) rfl
  simp only [← Int32.toInt_inj, show (0 : Int32).toInt = 0 from rfl, show (1 : Int32).toInt = 1 from rfl, show (2 : Int32).toInt = 2 from rfl, show (3 : Int32).toInt = 3 from rfl]
  omega
theorem own_s3 (x : Int32) : ((x &&& (2147483647 : Int32)) % (3 : Int32)) = 0 ∨ ((x &&& (2147483647 : Int32)) % (3 : Int32)) = 1 ∨ ((x &&& (2147483647 : Int32)) % (3 : Int32)) = 2 := by
  have a := (c_and x (2147483647 : Int32) (by decide)).1
  have e := (c_irem (x &&& (2147483647 : Int32)) (3 : Int32) 3 rfl).1 a
  simp only [← Int32.toInt_inj, show (0 : Int32).toInt = 0 from rfl, show (1 : Int32).toInt = 1 from rfl, show (2 : Int32).toInt = 2 from rfl]
  omega
theorem own_d0 {b ae u : Int32} {c1 at_ : Addr} : own_cut u 0 (own_V0 b ae c1 at_) = .null ∨ own_cut u 0 (own_V0 b ae c1 at_) = .ref at_ ∨ own_cut u 0 (own_V0 b ae c1 at_) = .ref c1 := by
  unfold own_cut own_V0; repeat' split
  all_goals simp
theorem own_d1 {b ae u : Int32} {c2 at_ : Addr} : own_cut u 1 (own_V1 b ae c2 at_) = .null ∨ own_cut u 1 (own_V1 b ae c2 at_) = .ref at_ ∨ own_cut u 1 (own_V1 b ae c2 at_) = .ref c2 := by
  unfold own_cut own_V1; repeat' split
  all_goals simp
theorem own_d2 {b u : Int32} {at_ : Addr} : own_cut u 2 (own_V2 b at_) = .null ∨ own_cut u 2 (own_V2 b at_) = .ref at_ := by
  unfold own_cut own_V2; repeat' split
  all_goals simp
theorem own_in3 {c : Cell} (S : c.slots.size = (3 : Int32).toNatClampNeg) {j : Int32} (q : j = 0 ∨ j = 1 ∨ j = 2) : ¬ (j < 0 ∨ c.slots.size ≤ j.toNatClampNeg) := by
  rcases q with rfl | rfl | rfl <;> exact inb_of S ⟨by decide, by decide⟩
theorem own_at3 {c0 c1 c2 : Addr} {j : Int32} (q : j = 0 ∨ j = 1 ∨ j = 2) : [Value.ref c0, Value.ref c1, Value.ref c2].getD j.toNatClampNeg .null = .ref (own_pick j c0 c1 c2) := by
  rcases q with rfl | rfl | rfl <;> rfl
theorem own_u3 {b u : Int32} (hb : b = 0 ∨ b = 1 ∨ b = 2 ∨ b = 3) (hu : u = 0 ∨ u = 1 ∨ u = 2 ∨ u = 3) (h : u < b) : u = 0 ∨ u = 1 ∨ u = 2 := by
  rcases hb with rfl | rfl | rfl | rfl <;> rcases hu with rfl | rfl | rfl | rfl <;> first | (simp; done) | exact absurd h (by decide)
theorem own_b3 {b : Int32} (hb : b = 0 ∨ b = 1 ∨ b = 2 ∨ b = 3) (h : ¬ b = 3) : b = 0 ∨ b = 1 ∨ b = 2 := by
  rcases hb with q | q | q | q
  · exact Or.inl q
  · exact Or.inr (Or.inl q)
  · exact Or.inr (Or.inr q)
  · exact absurd q h
section Plain
variable {b u ae : Int32} {c0 c1 c2 at_ : Addr}
theorem own_x2 (hb : b = 0 ∨ b = 1 ∨ b = 2 ∨ b = 3) (hu : u = 0 ∨ u = 1 ∨ u = 2 ∨ u = 3) (ha : ae = 0 ∨ ae = 1) (n1 : c1 ≠ at_) (n2 : c2 ≠ at_) : own_f2 (own_cut u 2 (own_V2 b at_)) c2 at_ = .ref (own_e 2 b u ae c0 c1 c2 at_) := by
  rcases hb with rfl | rfl | rfl | rfl <;> rcases hu with rfl | rfl | rfl | rfl <;> rcases ha with rfl | rfl <;> rfl
theorem own_x1 (hb : b = 0 ∨ b = 1 ∨ b = 2 ∨ b = 3) (hu : u = 0 ∨ u = 1 ∨ u = 2 ∨ u = 3) (ha : ae = 0 ∨ ae = 1) (n1 : c1 ≠ at_) (n2 : c2 ≠ at_) : own_f1 (own_cut u 1 (own_V1 b ae c2 at_)) (own_cut u 2 (own_V2 b at_)) c1 c2 at_ = .ref (own_e 1 b u ae c0 c1 c2 at_) := by
  have m2 : ¬ (Value.ref c2 = .ref at_) := fun q => n2 (Value.ref.inj q)
  rcases hb with rfl | rfl | rfl | rfl <;> rcases hu with rfl | rfl | rfl | rfl <;> rcases ha with rfl | rfl <;> simp [own_f1, own_f2, own_cut, own_V1, own_V2, own_e, own_pick, n1, n2]
theorem own_x0 (hb : b = 0 ∨ b = 1 ∨ b = 2 ∨ b = 3) (hu : u = 0 ∨ u = 1 ∨ u = 2 ∨ u = 3) (ha : ae = 0 ∨ ae = 1) (n1 : c1 ≠ at_) (n2 : c2 ≠ at_) : own_f0 (own_cut u 0 (own_V0 b ae c1 at_)) (own_cut u 1 (own_V1 b ae c2 at_)) (own_cut u 2 (own_V2 b at_)) c0 c1 c2 at_ = .ref (own_e 0 b u ae c0 c1 c2 at_) := by
  rcases hb with rfl | rfl | rfl | rfl <;> rcases hu with rfl | rfl | rfl | rfl <;> rcases ha with rfl | rfl <;> simp [own_f0, own_f1, own_f2, own_cut, own_V0, own_V1, own_V2, own_e, own_pick, n1, n2]
end Plain
theorem d2_0 : decode prog_78_method_1_code 0 = .ok (.aload_n 0, 1) := by decide +kernel
theorem d2_1 : decode prog_78_method_1_code 1 = .ok (.invokespecial 1, 3) := by decide +kernel
theorem d2_4 : decode prog_78_method_1_code 4 = .ok (.return_, 1) := by decide +kernel
theorem pn_0 : plainName "com/example/nomlog/nomlog/lang/Term" = true := by first | (simp [plainName, overriddenIn]; done) | decide +kernel
theorem ef_rm2 (m : MethodId) (x0 : Addr) : entryFrame m #[(.ref x0)] 1 = mkF m 0 #[.val (.ref x0)] [] := by first | (simp [entryFrame, mkF, argsToLocals, Value.category]; done) | rfl
def Q_rm2 (Z : State) (r0 : Addr) (h0 : Heap) (n0 : Nat) (v : Option Value) (h : Heap) (L : List Loc) : Prop := v = none ∧ Fr n0 L ∧ h = h0
set_option maxRecDepth 65536 in
set_option maxHeartbeats 40000000 in
theorem rm2 (l : Launch) (Z : State) (a0 : Array Value) (hw : ∀ d ∈ tables_1, d.before a0 Z = true) (ws : List Jvm.Cond) (r0 : Addr) (h0 : Heap) (n0 : Nat) (Z0 : n0 ≤ h0.size) :
    MetFree l (⟨"com/example/nomlog/nomlog/lang/Term", "<init>", "()V"⟩ : MethodName) (head1 (Jvm.Cond.code (⟨"com/example/nomlog/nomlog/lang/Term", "<init>", "()V"⟩ : MethodName) prog_78_method_1_code 1 none :: ws) ({ frames := 1, cells := 0, slots := 0, locals := 12 } : Room)) (fun a U => a = #[(.ref r0)] ∧ Z.Warmed39 U.vm ∧ U.heap = h0) (fun _ _ _ _ _ => True) (fun _ U o U' => ∃ v L, o = .returned v ∧ Q_rm2 Z r0 h0 n0 v U'.heap L ∧ FrameEnd U o U' L ({ frames := 1, cells := 0, slots := 0, locals := 12 } : Room).cells ({ frames := 1, cells := 0, slots := 0, locals := 12 } : Room).slots) := by
  refine MetFree.of_bodySF (plainFor_of_name pn_0) hisR ?_
  intro p e s m args below meth c s₁ Bd hml0 hP hK
  obtain ⟨rfl, hZ, hh⟩ := hP
  have hx := Bd.exec
  have hby := Bd.bytes
  have hml : c.maxLocals = 1 := hml0
  have hown : s.vm.findClass "com/example/nomlog/nomlog/lang/Term" = some m.cls := findClass_of_methodNamed Bd.named
  have hnm := (name_of_methodNamed Bd.named Bd.method).1
  have X0 : Stand p l e ({ frames := 1, cells := 0, slots := 0, locals := 12 } : Room) s m #[(.ref r0)] below meth c s₁ [] 0 0 := Stand.of_body Bd
  have e0 : s₁.heap = h0 := by rw [← hh, Bd.state]; rfl
  have N0 := Fr.nil n0
  have pre0 : ∀ t, Steps p.tables e below (s₁.setTop (mkF m 0 #[.val (.ref r0)] [])) t → Steps p.tables e below (s₁.setTop (entryFrame m #[(.ref r0)] 1)) t := fun t k => castTop (ef_rm2 m r0) k
  have st1 : ∀ target, Steps p.tables e below (s₁.setTop (mkF m 1 #[.val (.ref r0)] [(.ref r0)])) target → Steps p.tables e below (s₁.setTop (mkF m 0 #[.val (.ref r0)] [])) target := by
    intro target kt
    refine XS.aloadN X0.here hx rfl (hb hby d2_0) rfl rfl ?_
    exact kt
  obtain ⟨T2, X2, e2, st2⟩ := initO X0 hx hZ hown (hw _ (List.mem_of_getElem? (i := 12) rfl)) (hw _ (List.mem_of_getElem? (i := 13) rfl)) (hw _ (List.mem_of_getElem? (i := 14) rfl)) e0 (g := (mkF m 1 #[.val (.ref r0)] [(.ref r0)])) rfl (by rw [hml]; rfl) rfl (hb hby d2_1) (by decide) (W := 0) (by show 2 * 0 + _ ≤ _; exact Nat.le_of_eq rfl) (by decide)
  obtain ⟨fs, hr, hrun, hended, hW, hsame⟩ := X2.leave (v := none) (fun _ => rfl)
  refine ⟨_, _, pre0 _ (st1 _ (st2 _ ?_)), hrun, hended, _, _, rfl, ?_, ⟨_, rfl⟩, hW, hsame.mono (by decide) (by decide)⟩
  · show Steps p.tables e below (T2.setTop (mkF m 4 #[.val (.ref r0)] [])) _
    exact X2.returnOut hx Bd.returns (hb hby d2_4) hr
  · show Q_rm2 Z r0 h0 n0 _ T2.heap _
    rw [e2]
    exact ⟨rfl, N0, rfl⟩
theorem d1_0 : decode prog_49_method_1_code 0 = .ok (.aload_n 0, 1) := by decide +kernel
theorem d1_1 : decode prog_49_method_1_code 1 = .ok (.invokespecial 1, 3) := by decide +kernel
theorem d1_4 : decode prog_49_method_1_code 4 = .ok (.aload_n 0, 1) := by decide +kernel
theorem d1_5 : decode prog_49_method_1_code 5 = .ok (.lload_n 1, 1) := by decide +kernel
theorem d1_6 : decode prog_49_method_1_code 6 = .ok (.putfield 7, 3) := by decide +kernel
theorem d1_9 : decode prog_49_method_1_code 9 = .ok (.return_, 1) := by decide +kernel
theorem pn_1 : plainName "com/example/nomlog/nomlog/lang/Cell" = true := by first | (simp [plainName, overriddenIn]; done) | decide +kernel
theorem ef_rm1 (m : MethodId) (x0 : Addr) (x1 : Int64) : entryFrame m #[(.ref x0), (.long x1)] 3 = mkF m 0 #[.val (.ref x0), .val (.long x1), .second] [] := by first | (simp [entryFrame, mkF, argsToLocals, Value.category]; done) | rfl
def Q_rm1 (Z : State) (r0 : Addr) (q1 : Int64) (h0 : Heap) (n0 : Nat) (v : Option Value) (h : Heap) (L : List Loc) : Prop := v = none ∧ Fr n0 L ∧ Keep h0 h [r0] ∧ Exa Z h r0 "com/example/nomlog/nomlog/lang/Cell" ∧ Fld Z h r0 "com/example/nomlog/nomlog/lang/Cell" "serial" "J" (.long q1) ∧ Fld Z h r0 "com/example/nomlog/nomlog/lang/Cell" "value" "Lcom/example/nomlog/nomlog/lang/Term;" .null
set_option maxRecDepth 65536 in
set_option maxHeartbeats 40000000 in
theorem rm1 (l : Launch) (Z : State) (a0 : Array Value) (hw : ∀ d ∈ tables_1, d.before a0 Z = true) (ws : List Jvm.Cond) (r0 : Addr) (q1 : Int64) (h0 : Heap) (n0 : Nat) (Z0 : n0 ≤ h0.size) (F_serial : Fld Z h0 r0 "com/example/nomlog/nomlog/lang/Cell" "serial" "J" (.long (0 : Int64))) (F_value : Fld Z h0 r0 "com/example/nomlog/nomlog/lang/Cell" "value" "Lcom/example/nomlog/nomlog/lang/Term;" .null) (E_o : Exa Z h0 r0 "com/example/nomlog/nomlog/lang/Cell") (g_r0 : n0 ≤ r0) :
    MetFree l (⟨"com/example/nomlog/nomlog/lang/Cell", "<init>", "(J)V"⟩ : MethodName) (head1 (Jvm.Cond.code (⟨"com/example/nomlog/nomlog/lang/Cell", "<init>", "(J)V"⟩ : MethodName) prog_49_method_1_code 3 none :: ws) ({ frames := 2, cells := 0, slots := 0, locals := 24 } : Room)) (fun a U => a = #[(.ref r0), (.long q1)] ∧ Z.Warmed39 U.vm ∧ U.heap = h0) (fun _ _ _ _ _ => True) (fun _ U o U' => ∃ v L, o = .returned v ∧ Q_rm1 Z r0 q1 h0 n0 v U'.heap L ∧ FrameEnd U o U' L ({ frames := 2, cells := 0, slots := 0, locals := 24 } : Room).cells ({ frames := 2, cells := 0, slots := 0, locals := 24 } : Room).slots) := by
  refine MetFree.of_bodySF (plainFor_of_name pn_1) hisR ?_
  intro p e s m args below meth c s₁ Bd hml0 hP hK
  obtain ⟨rfl, hZ, hh⟩ := hP
  have hx := Bd.exec
  have hby := Bd.bytes
  have hml : c.maxLocals = 3 := hml0
  have hown : s.vm.findClass "com/example/nomlog/nomlog/lang/Cell" = some m.cls := findClass_of_methodNamed Bd.named
  have hnm := (name_of_methodNamed Bd.named Bd.method).1
  have X0 : Stand p l e ({ frames := 2, cells := 0, slots := 0, locals := 24 } : Room) s m #[(.ref r0), (.long q1)] below meth c s₁ [] 0 0 := Stand.of_body Bd
  have e0 : s₁.heap = h0 := by rw [← hh, Bd.state]; rfl
  have N0 := Fr.nil n0
  have pre0 : ∀ t, Steps p.tables e below (s₁.setTop (mkF m 0 #[.val (.ref r0), .val (.long q1), .second] [])) t → Steps p.tables e below (s₁.setTop (entryFrame m #[(.ref r0), (.long q1)] 3)) t := fun t k => castTop (ef_rm1 m r0 q1) k
  have Kp : Keep h0 h0 [r0] := Keep.refl _ _
  have st1 : ∀ target, Steps p.tables e below (s₁.setTop (mkF m 1 #[.val (.ref r0), .val (.long q1), .second] [(.ref r0)])) target → Steps p.tables e below (s₁.setTop (mkF m 0 #[.val (.ref r0), .val (.long q1), .second] [])) target := by
    intro target kt
    refine XS.aloadN X0.here hx rfl (hb hby d1_0) rfl rfl ?_
    exact kt
  obtain ⟨_, _, ⟨T2, L2, k2, n2⟩, -, X2, ⟨Lc2, hQ2, l2, y2, z2⟩, st2⟩ := X0.specialBack hx (y := (⟨"com/example/nomlog/nomlog/lang/Term", "<init>", "()V"⟩ : MethodName)) rfl hown (mvT hZ (hw _ (List.mem_of_getElem? (i := 7) rfl))) (mvT hZ (hw _ (List.mem_of_getElem? (i := 8) rfl))) (mvT hZ (hw _ (List.mem_of_getElem? (i := 11) rfl))) (by decide) (backOf (W := 0) (rm2 l Z a0 hw [] r0  h0 n0 Z0 ) hZ (hw _ (List.mem_of_getElem? (i := 11) rfl)) (hw _ (List.mem_of_getElem? (i := 10) rfl)) (by decide) (by decide)) (g := (mkF m 1 #[.val (.ref r0), .val (.long q1), .second] [(.ref r0)])) rfl (by rw [hml]; rfl) (Steps.refl _) (a := r0) (argsL := []) (rest := []) (lenOf pd_1 rfl) rfl (by show 2 * 0 + _ ≤ _; exact Nat.le_of_eq rfl) (hb hby d1_1) (fun _ _ => ⟨rfl, e0, (by decide : 0 + 0 ≤ _), (by decide : 0 + 0 ≤ _)⟩)
  dsimp only [Pt.U, Pt.locs, Pt.cells, Pt.slots] at X2 l2 y2 z2 st2 hQ2
  subst l2 y2 z2
  obtain ⟨rfl, Nq2, e2⟩ := hQ2
  have N2 := Fr.app N0 Nq2
  have st3 : ∀ target, Steps p.tables e below (T2.setTop (mkF m 6 #[.val (.ref r0), .val (.long q1), .second] [(.long q1), (.ref r0)])) target → Steps p.tables e below (T2.setTop (mkF m 4 #[.val (.ref r0), .val (.long q1), .second] [])) target := by
    intro target kt
    refine XS.aloadN X2.here hx rfl (hb hby d1_4) rfl rfl ?_
    refine XS.lloadN X2.here hx rfl (hb hby d1_5) rfl ?_
    exact kt
  obtain ⟨T4, h4, X4, e4, W4, st4⟩ := putF X2 hx hZ hown (host := "") (Or.inl (hw _ (List.mem_of_getElem? (i := 15) rfl))) Via.refl e2 F_serial E_o (Or.inr ⟨(hw _ (List.mem_of_getElem? (i := 16) rfl)), rfl, hnm⟩) (hw _ (List.mem_of_getElem? (i := 2) rfl)) (ty := .long) (by decide) rfl rfl (g := (mkF m 6 #[.val (.ref r0), .val (.long q1), .second] [(.long q1), (.ref r0)])) rfl rfl (hb hby d1_6)
  have F_serial_r0_4 : Fld Z h4 r0 "com/example/nomlog/nomlog/lang/Cell" "serial" "J" (.long q1) := F_serial.same W4
  have E_o_4 := E_o.wr W4
  have F_value_4 := F_value.other W4 (Or.inr (slot_ne (Or.inl (hw _ (List.mem_of_getElem? (i := 42) rfl))) (Or.inr (hw _ (List.mem_of_getElem? (i := 16) rfl))) (by decide) (t := (.object "com/example/nomlog/nomlog/lang/Term")) (t' := .long) (by decide) (by decide)))
  have Z_4 : n0 ≤ h4.size := Nat.le_trans Z0 (Keep.of_wr W4).1
  have Kp_4 : Keep h0 h4 [r0] := Kp.wr W4 (Or.inl (List.mem_of_getElem? (i := 0) rfl))
  have N4 := Fr.snoc X4 N2 g_r0
  obtain ⟨fs, hr, hrun, hended, hW, hsame⟩ := X4.leave (v := none) (fun _ => rfl)
  refine ⟨_, _, pre0 _ (st1 _ (st2.trans (st3 _ (st4 _ ?_)))), hrun, hended, _, _, rfl, ?_, ⟨_, rfl⟩, hW, hsame.mono (by decide) (by decide)⟩
  · show Steps p.tables e below (T4.setTop (mkF m 9 #[.val (.ref r0), .val (.long q1), .second] [])) _
    exact X4.returnOut hx Bd.returns (hb hby d1_9) hr
  · show Q_rm1 Z r0 q1 h0 n0 _ T4.heap _
    rw [e4]
    exact ⟨rfl, N4, Kp_4, E_o_4, F_serial_r0_4, F_value_4⟩
theorem d4_0 : decode prog_48_method_1_code 0 = .ok (.aload_n 0, 1) := by decide +kernel
theorem d4_1 : decode prog_48_method_1_code 1 = .ok (.invokespecial 1, 3) := by decide +kernel
theorem d4_4 : decode prog_48_method_1_code 4 = .ok (.aload_n 0, 1) := by decide +kernel
theorem d4_5 : decode prog_48_method_1_code 5 = .ok (.aload_n 1, 1) := by decide +kernel
theorem d4_6 : decode prog_48_method_1_code 6 = .ok (.putfield 7, 3) := by decide +kernel
theorem d4_9 : decode prog_48_method_1_code 9 = .ok (.return_, 1) := by decide +kernel
theorem pn_2 : plainName "com/example/nomlog/nomlog/lang/Atom" = true := by first | (simp [plainName, overriddenIn]; done) | decide +kernel
theorem ef_rm4 (m : MethodId) (x0 : Addr) (x1 : Addr) : entryFrame m #[(.ref x0), (.ref x1)] 2 = mkF m 0 #[.val (.ref x0), .val (.ref x1)] [] := by first | (simp [entryFrame, mkF, argsToLocals, Value.category]; done) | rfl
def Q_rm4 (Z : State) (r0 : Addr) (r1 : Addr) (h0 : Heap) (n0 : Nat) (v : Option Value) (h : Heap) (L : List Loc) : Prop := v = none ∧ Fr n0 L ∧ Keep h0 h [r0] ∧ Exa Z h r0 "com/example/nomlog/nomlog/lang/Atom" ∧ Fld Z h r0 "com/example/nomlog/nomlog/lang/Atom" "name" "Ljava/lang/String;" (.ref r1)
set_option maxRecDepth 65536 in
set_option maxHeartbeats 40000000 in
theorem rm4 (l : Launch) (Z : State) (a0 : Array Value) (hw : ∀ d ∈ tables_1, d.before a0 Z = true) (ws : List Jvm.Cond) (r0 : Addr) (r1 : Addr) (h0 : Heap) (n0 : Nat) (Z0 : n0 ≤ h0.size) (F_name : Fld Z h0 r0 "com/example/nomlog/nomlog/lang/Atom" "name" "Ljava/lang/String;" .null) (E_o : Exa Z h0 r0 "com/example/nomlog/nomlog/lang/Atom") (g_r0 : n0 ≤ r0) :
    MetFree l (⟨"com/example/nomlog/nomlog/lang/Atom", "<init>", "(Ljava/lang/String;)V"⟩ : MethodName) (head1 (Jvm.Cond.code (⟨"com/example/nomlog/nomlog/lang/Atom", "<init>", "(Ljava/lang/String;)V"⟩ : MethodName) prog_48_method_1_code 2 none :: ws) ({ frames := 2, cells := 0, slots := 0, locals := 24 } : Room)) (fun a U => a = #[(.ref r0), (.ref r1)] ∧ Z.Warmed39 U.vm ∧ U.heap = h0) (fun _ _ _ _ _ => True) (fun _ U o U' => ∃ v L, o = .returned v ∧ Q_rm4 Z r0 r1 h0 n0 v U'.heap L ∧ FrameEnd U o U' L ({ frames := 2, cells := 0, slots := 0, locals := 24 } : Room).cells ({ frames := 2, cells := 0, slots := 0, locals := 24 } : Room).slots) := by
  refine MetFree.of_bodySF (plainFor_of_name pn_2) hisR ?_
  intro p e s m args below meth c s₁ Bd hml0 hP hK
  obtain ⟨rfl, hZ, hh⟩ := hP
  have hx := Bd.exec
  have hby := Bd.bytes
  have hml : c.maxLocals = 2 := hml0
  have hown : s.vm.findClass "com/example/nomlog/nomlog/lang/Atom" = some m.cls := findClass_of_methodNamed Bd.named
  have hnm := (name_of_methodNamed Bd.named Bd.method).1
  have X0 : Stand p l e ({ frames := 2, cells := 0, slots := 0, locals := 24 } : Room) s m #[(.ref r0), (.ref r1)] below meth c s₁ [] 0 0 := Stand.of_body Bd
  have e0 : s₁.heap = h0 := by rw [← hh, Bd.state]; rfl
  have N0 := Fr.nil n0
  have pre0 : ∀ t, Steps p.tables e below (s₁.setTop (mkF m 0 #[.val (.ref r0), .val (.ref r1)] [])) t → Steps p.tables e below (s₁.setTop (entryFrame m #[(.ref r0), (.ref r1)] 2)) t := fun t k => castTop (ef_rm4 m r0 r1) k
  have Kp : Keep h0 h0 [r0] := Keep.refl _ _
  have st1 : ∀ target, Steps p.tables e below (s₁.setTop (mkF m 1 #[.val (.ref r0), .val (.ref r1)] [(.ref r0)])) target → Steps p.tables e below (s₁.setTop (mkF m 0 #[.val (.ref r0), .val (.ref r1)] [])) target := by
    intro target kt
    refine XS.aloadN X0.here hx rfl (hb hby d4_0) rfl rfl ?_
    exact kt
  obtain ⟨_, _, ⟨T2, L2, k2, n2⟩, -, X2, ⟨Lc2, hQ2, l2, y2, z2⟩, st2⟩ := X0.specialBack hx (y := (⟨"com/example/nomlog/nomlog/lang/Term", "<init>", "()V"⟩ : MethodName)) rfl hown (mvT hZ (hw _ (List.mem_of_getElem? (i := 31) rfl))) (mvT hZ (hw _ (List.mem_of_getElem? (i := 8) rfl))) (mvT hZ (hw _ (List.mem_of_getElem? (i := 11) rfl))) (by decide) (backOf (W := 0) (rm2 l Z a0 hw [] r0  h0 n0 Z0 ) hZ (hw _ (List.mem_of_getElem? (i := 11) rfl)) (hw _ (List.mem_of_getElem? (i := 10) rfl)) (by decide) (by decide)) (g := (mkF m 1 #[.val (.ref r0), .val (.ref r1)] [(.ref r0)])) rfl (by rw [hml]; rfl) (Steps.refl _) (a := r0) (argsL := []) (rest := []) (lenOf pd_1 rfl) rfl (by show 2 * 0 + _ ≤ _; exact Nat.le_of_eq rfl) (hb hby d4_1) (fun _ _ => ⟨rfl, e0, (by decide : 0 + 0 ≤ _), (by decide : 0 + 0 ≤ _)⟩)
  dsimp only [Pt.U, Pt.locs, Pt.cells, Pt.slots] at X2 l2 y2 z2 st2 hQ2
  subst l2 y2 z2
  obtain ⟨rfl, Nq2, e2⟩ := hQ2
  have N2 := Fr.app N0 Nq2
  have st3 : ∀ target, Steps p.tables e below (T2.setTop (mkF m 6 #[.val (.ref r0), .val (.ref r1)] [(.ref r1), (.ref r0)])) target → Steps p.tables e below (T2.setTop (mkF m 4 #[.val (.ref r0), .val (.ref r1)] [])) target := by
    intro target kt
    refine XS.aloadN X2.here hx rfl (hb hby d4_4) rfl rfl ?_
    refine XS.aloadN X2.here hx rfl (hb hby d4_5) rfl rfl ?_
    exact kt
  obtain ⟨T4, h4, X4, e4, W4, st4⟩ := putF X2 hx hZ hown (host := "") (Or.inl (hw _ (List.mem_of_getElem? (i := 32) rfl))) Via.refl e2 F_name E_o (Or.inr ⟨(hw _ (List.mem_of_getElem? (i := 33) rfl)), rfl, hnm⟩) (hw _ (List.mem_of_getElem? (i := 18) rfl)) (ty := (.object "java/lang/String")) (by decide) rfl rfl (g := (mkF m 6 #[.val (.ref r0), .val (.ref r1)] [(.ref r1), (.ref r0)])) rfl rfl (hb hby d4_6)
  have F_name_r0_4 : Fld Z h4 r0 "com/example/nomlog/nomlog/lang/Atom" "name" "Ljava/lang/String;" (.ref r1) := F_name.same W4
  have E_o_4 := E_o.wr W4
  have Z_4 : n0 ≤ h4.size := Nat.le_trans Z0 (Keep.of_wr W4).1
  have Kp_4 : Keep h0 h4 [r0] := Kp.wr W4 (Or.inl (List.mem_of_getElem? (i := 0) rfl))
  have N4 := Fr.snoc X4 N2 g_r0
  obtain ⟨fs, hr, hrun, hended, hW, hsame⟩ := X4.leave (v := none) (fun _ => rfl)
  refine ⟨_, _, pre0 _ (st1 _ (st2.trans (st3 _ (st4 _ ?_)))), hrun, hended, _, _, rfl, ?_, ⟨_, rfl⟩, hW, hsame.mono (by decide) (by decide)⟩
  · show Steps p.tables e below (T4.setTop (mkF m 9 #[.val (.ref r0), .val (.ref r1)] [])) _
    exact X4.returnOut hx Bd.returns (hb hby d4_9) hr
  · show Q_rm4 Z r0 r1 h0 n0 _ T4.heap _
    rw [e4]
    exact ⟨rfl, N4, Kp_4, E_o_4, F_name_r0_4⟩
theorem d5_0 : decode prog_49_method_3_code 0 = .ok (.aload_n 0, 1) := by decide +kernel
theorem d5_1 : decode prog_49_method_3_code 1 = .ok (.aload_n 1, 1) := by decide +kernel
theorem d5_2 : decode prog_49_method_3_code 2 = .ok (.putfield 13, 3) := by decide +kernel
theorem d5_5 : decode prog_49_method_3_code 5 = .ok (.return_, 1) := by decide +kernel
theorem ef_rm5 (m : MethodId) (x0 : Addr) (x1 : Addr) : entryFrame m #[(.ref x0), (.ref x1)] 2 = mkF m 0 #[.val (.ref x0), .val (.ref x1)] [] := by first | (simp [entryFrame, mkF, argsToLocals, Value.category]; done) | rfl
def Q_rm5 (Z : State) (r0 : Addr) (r1 : Addr) (uo : Value) (h0 : Heap) (n0 : Nat) (v : Option Value) (h : Heap) (L : List Loc) : Prop := v = none ∧ Fr n0 L ∧ Keep h0 h [r0] ∧ Fld Z h r0 "com/example/nomlog/nomlog/lang/Cell" "value" "Lcom/example/nomlog/nomlog/lang/Term;" (.ref r1)
set_option maxRecDepth 65536 in
set_option maxHeartbeats 40000000 in
theorem rm5 (l : Launch) (Z : State) (a0 : Array Value) (hw : ∀ d ∈ tables_1, d.before a0 Z = true) (ws : List Jvm.Cond) (r0 : Addr) (r1 : Addr) (uo : Value) (h0 : Heap) (n0 : Nat) (Z0 : n0 ≤ h0.size) (F_v : Fld Z h0 r0 "com/example/nomlog/nomlog/lang/Cell" "value" "Lcom/example/nomlog/nomlog/lang/Term;" uo) (E_o : Exa Z h0 r0 "com/example/nomlog/nomlog/lang/Cell") (g_r0 : n0 ≤ r0) :
    MetFree l (⟨"com/example/nomlog/nomlog/lang/Cell", "bind", "(Lcom/example/nomlog/nomlog/lang/Term;)V"⟩ : MethodName) (head1 (Jvm.Cond.code (⟨"com/example/nomlog/nomlog/lang/Cell", "bind", "(Lcom/example/nomlog/nomlog/lang/Term;)V"⟩ : MethodName) prog_49_method_3_code 2 none :: ws) ({ frames := 0, cells := 0, slots := 0, locals := 0 } : Room)) (fun a U => a = #[(.ref r0), (.ref r1)] ∧ Z.Warmed39 U.vm ∧ U.heap = h0) (fun _ _ _ _ _ => True) (fun _ U o U' => ∃ v L, o = .returned v ∧ Q_rm5 Z r0 r1 uo h0 n0 v U'.heap L ∧ FrameEnd U o U' L ({ frames := 0, cells := 0, slots := 0, locals := 0 } : Room).cells ({ frames := 0, cells := 0, slots := 0, locals := 0 } : Room).slots) := by
  refine MetFree.of_bodySF (plainFor_of_name pn_1) hisR ?_
  intro p e s m args below meth c s₁ Bd hml0 hP hK
  obtain ⟨rfl, hZ, hh⟩ := hP
  have hx := Bd.exec
  have hby := Bd.bytes
  have hml : c.maxLocals = 2 := hml0
  have hown : s.vm.findClass "com/example/nomlog/nomlog/lang/Cell" = some m.cls := findClass_of_methodNamed Bd.named
  have hnm := (name_of_methodNamed Bd.named Bd.method).1
  have X0 : Stand p l e ({ frames := 0, cells := 0, slots := 0, locals := 0 } : Room) s m #[(.ref r0), (.ref r1)] below meth c s₁ [] 0 0 := Stand.of_body Bd
  have e0 : s₁.heap = h0 := by rw [← hh, Bd.state]; rfl
  have N0 := Fr.nil n0
  have pre0 : ∀ t, Steps p.tables e below (s₁.setTop (mkF m 0 #[.val (.ref r0), .val (.ref r1)] [])) t → Steps p.tables e below (s₁.setTop (entryFrame m #[(.ref r0), (.ref r1)] 2)) t := fun t k => castTop (ef_rm5 m r0 r1) k
  have Kp : Keep h0 h0 [r0] := Keep.refl _ _
  have st1 : ∀ target, Steps p.tables e below (s₁.setTop (mkF m 2 #[.val (.ref r0), .val (.ref r1)] [(.ref r1), (.ref r0)])) target → Steps p.tables e below (s₁.setTop (mkF m 0 #[.val (.ref r0), .val (.ref r1)] [])) target := by
    intro target kt
    refine XS.aloadN X0.here hx rfl (hb hby d5_0) rfl rfl ?_
    refine XS.aloadN X0.here hx rfl (hb hby d5_1) rfl rfl ?_
    exact kt
  obtain ⟨T2, h2, X2, e2, W2, st2⟩ := putF X0 hx hZ hown (host := "") (Or.inl (hw _ (List.mem_of_getElem? (i := 41) rfl))) Via.refl e0 F_v E_o (Or.inl (hw _ (List.mem_of_getElem? (i := 42) rfl))) (hw _ (List.mem_of_getElem? (i := 2) rfl)) (ty := (.object "com/example/nomlog/nomlog/lang/Term")) (by decide) rfl rfl (g := (mkF m 2 #[.val (.ref r0), .val (.ref r1)] [(.ref r1), (.ref r0)])) rfl rfl (hb hby d5_2)
  have F_value_r0_2 : Fld Z h2 r0 "com/example/nomlog/nomlog/lang/Cell" "value" "Lcom/example/nomlog/nomlog/lang/Term;" (.ref r1) := F_v.same W2
  have E_o_2 := E_o.wr W2
  have Z_2 : n0 ≤ h2.size := Nat.le_trans Z0 (Keep.of_wr W2).1
  have Kp_2 : Keep h0 h2 [r0] := Kp.wr W2 (Or.inl (List.mem_of_getElem? (i := 0) rfl))
  have N2 := Fr.snoc X2 N0 g_r0
  obtain ⟨fs, hr, hrun, hended, hW, hsame⟩ := X2.leave (v := none) (fun _ => rfl)
  refine ⟨_, _, pre0 _ (st1 _ (st2 _ ?_)), hrun, hended, _, _, rfl, ?_, ⟨_, rfl⟩, hW, hsame.mono (by decide) (by decide)⟩
  · show Steps p.tables e below (T2.setTop (mkF m 5 #[.val (.ref r0), .val (.ref r1)] [])) _
    exact X2.returnOut hx Bd.returns (hb hby d5_5) hr
  · show Q_rm5 Z r0 r1 uo h0 n0 _ T2.heap _
    rw [e2]
    exact ⟨rfl, N2, Kp_2, F_value_r0_2⟩
theorem d7_0 : decode prog_49_method_4_code 0 = .ok (.aload_n 0, 1) := by decide +kernel
theorem d7_1 : decode prog_49_method_4_code 1 = .ok (.aconst_null, 1) := by decide +kernel
theorem d7_2 : decode prog_49_method_4_code 2 = .ok (.putfield 13, 3) := by decide +kernel
theorem d7_5 : decode prog_49_method_4_code 5 = .ok (.return_, 1) := by decide +kernel
theorem ef_rm7 (m : MethodId) (x0 : Addr) : entryFrame m #[(.ref x0)] 1 = mkF m 0 #[.val (.ref x0)] [] := by first | (simp [entryFrame, mkF, argsToLocals, Value.category]; done) | rfl
def Q_rm7 (Z : State) (r0 : Addr) (uo : Value) (h0 : Heap) (n0 : Nat) (v : Option Value) (h : Heap) (L : List Loc) : Prop := v = none ∧ Fr n0 L ∧ Keep h0 h [r0] ∧ Fld Z h r0 "com/example/nomlog/nomlog/lang/Cell" "value" "Lcom/example/nomlog/nomlog/lang/Term;" .null
set_option maxRecDepth 65536 in
set_option maxHeartbeats 40000000 in
theorem rm7 (l : Launch) (Z : State) (a0 : Array Value) (hw : ∀ d ∈ tables_1, d.before a0 Z = true) (ws : List Jvm.Cond) (r0 : Addr) (uo : Value) (h0 : Heap) (n0 : Nat) (Z0 : n0 ≤ h0.size) (F_v : Fld Z h0 r0 "com/example/nomlog/nomlog/lang/Cell" "value" "Lcom/example/nomlog/nomlog/lang/Term;" uo) (E_o : Exa Z h0 r0 "com/example/nomlog/nomlog/lang/Cell") (g_r0 : n0 ≤ r0) :
    MetFree l (⟨"com/example/nomlog/nomlog/lang/Cell", "unbind", "()V"⟩ : MethodName) (head1 (Jvm.Cond.code (⟨"com/example/nomlog/nomlog/lang/Cell", "unbind", "()V"⟩ : MethodName) prog_49_method_4_code 1 none :: ws) ({ frames := 0, cells := 0, slots := 0, locals := 0 } : Room)) (fun a U => a = #[(.ref r0)] ∧ Z.Warmed39 U.vm ∧ U.heap = h0) (fun _ _ _ _ _ => True) (fun _ U o U' => ∃ v L, o = .returned v ∧ Q_rm7 Z r0 uo h0 n0 v U'.heap L ∧ FrameEnd U o U' L ({ frames := 0, cells := 0, slots := 0, locals := 0 } : Room).cells ({ frames := 0, cells := 0, slots := 0, locals := 0 } : Room).slots) := by
  refine MetFree.of_bodySF (plainFor_of_name pn_1) hisR ?_
  intro p e s m args below meth c s₁ Bd hml0 hP hK
  obtain ⟨rfl, hZ, hh⟩ := hP
  have hx := Bd.exec
  have hby := Bd.bytes
  have hml : c.maxLocals = 1 := hml0
  have hown : s.vm.findClass "com/example/nomlog/nomlog/lang/Cell" = some m.cls := findClass_of_methodNamed Bd.named
  have hnm := (name_of_methodNamed Bd.named Bd.method).1
  have X0 : Stand p l e ({ frames := 0, cells := 0, slots := 0, locals := 0 } : Room) s m #[(.ref r0)] below meth c s₁ [] 0 0 := Stand.of_body Bd
  have e0 : s₁.heap = h0 := by rw [← hh, Bd.state]; rfl
  have N0 := Fr.nil n0
  have pre0 : ∀ t, Steps p.tables e below (s₁.setTop (mkF m 0 #[.val (.ref r0)] [])) t → Steps p.tables e below (s₁.setTop (entryFrame m #[(.ref r0)] 1)) t := fun t k => castTop (ef_rm7 m r0) k
  have Kp : Keep h0 h0 [r0] := Keep.refl _ _
  have st1 : ∀ target, Steps p.tables e below (s₁.setTop (mkF m 2 #[.val (.ref r0)] [.null, (.ref r0)])) target → Steps p.tables e below (s₁.setTop (mkF m 0 #[.val (.ref r0)] [])) target := by
    intro target kt
    refine XS.aloadN X0.here hx rfl (hb hby d7_0) rfl rfl ?_
    refine XS.aconstNull X0.here hx rfl (hb hby d7_1) ?_
    exact kt
  obtain ⟨T2, h2, X2, e2, W2, st2⟩ := putF X0 hx hZ hown (host := "") (Or.inl (hw _ (List.mem_of_getElem? (i := 41) rfl))) Via.refl e0 F_v E_o (Or.inl (hw _ (List.mem_of_getElem? (i := 42) rfl))) (hw _ (List.mem_of_getElem? (i := 2) rfl)) (ty := (.object "com/example/nomlog/nomlog/lang/Term")) (by decide) rfl rfl (g := (mkF m 2 #[.val (.ref r0)] [.null, (.ref r0)])) rfl rfl (hb hby d7_2)
  have F_value_r0_2 : Fld Z h2 r0 "com/example/nomlog/nomlog/lang/Cell" "value" "Lcom/example/nomlog/nomlog/lang/Term;" .null := F_v.same W2
  have E_o_2 := E_o.wr W2
  have Z_2 : n0 ≤ h2.size := Nat.le_trans Z0 (Keep.of_wr W2).1
  have Kp_2 : Keep h0 h2 [r0] := Kp.wr W2 (Or.inl (List.mem_of_getElem? (i := 0) rfl))
  have N2 := Fr.snoc X2 N0 g_r0
  obtain ⟨fs, hr, hrun, hended, hW, hsame⟩ := X2.leave (v := none) (fun _ => rfl)
  refine ⟨_, _, pre0 _ (st1 _ (st2 _ ?_)), hrun, hended, _, _, rfl, ?_, ⟨_, rfl⟩, hW, hsame.mono (by decide) (by decide)⟩
  · show Steps p.tables e below (T2.setTop (mkF m 5 #[.val (.ref r0)] [])) _
    exact X2.returnOut hx Bd.returns (hb hby d7_5) hr
  · show Q_rm7 Z r0 uo h0 n0 _ T2.heap _
    rw [e2]
    exact ⟨rfl, N2, Kp_2, F_value_r0_2⟩
theorem d6_0 : decode prog_49_method_8_code 0 = .ok (.aload_n 0, 1) := by decide +kernel
theorem d6_1 : decode prog_49_method_8_code 1 = .ok (.astore_n 1, 1) := by decide +kernel
theorem d6_2 : decode prog_49_method_8_code 2 = .ok (.aload_n 1, 1) := by decide +kernel
theorem d6_3 : decode prog_49_method_8_code 3 = .ok (.instanceof 8, 3) := by decide +kernel
theorem d6_6 : decode prog_49_method_8_code 6 = .ok (.ifCond .eq 23, 3) := by decide +kernel
theorem d6_9 : decode prog_49_method_8_code 9 = .ok (.aload_n 1, 1) := by decide +kernel
theorem d6_10 : decode prog_49_method_8_code 10 = .ok (.checkcast 8, 3) := by decide +kernel
theorem d6_13 : decode prog_49_method_8_code 13 = .ok (.astore_n 2, 1) := by decide +kernel
theorem d6_14 : decode prog_49_method_8_code 14 = .ok (.aload_n 2, 1) := by decide +kernel
theorem d6_15 : decode prog_49_method_8_code 15 = .ok (.getfield 13, 3) := by decide +kernel
theorem d6_18 : decode prog_49_method_8_code 18 = .ok (.ifnull 11, 3) := by decide +kernel
theorem d6_21 : decode prog_49_method_8_code 21 = .ok (.aload_n 2, 1) := by decide +kernel
theorem d6_22 : decode prog_49_method_8_code 22 = .ok (.getfield 13, 3) := by decide +kernel
theorem d6_25 : decode prog_49_method_8_code 25 = .ok (.astore_n 1, 1) := by decide +kernel
theorem d6_26 : decode prog_49_method_8_code 26 = .ok (.goto (-24), 3) := by decide +kernel
theorem d6_29 : decode prog_49_method_8_code 29 = .ok (.aload_n 1, 1) := by decide +kernel
theorem d6_30 : decode prog_49_method_8_code 30 = .ok (.areturn, 1) := by decide +kernel
theorem ef_rmF0 (m : MethodId) (x0 : Addr) : entryFrame m #[(.ref x0)] 3 = mkF m 0 #[.val (.ref x0), .unset, .unset] [] := by first | (simp [entryFrame, mkF, argsToLocals, Value.category]; done) | rfl
def Q_rmF0 (Z : State) (c0 : Addr) (c1 : Addr) (c2 : Addr) (at_ : Addr) (W0 : Value) (W1 : Value) (W2 : Value) (h0 : Heap) (n0 : Nat) (v : Option Value) (h : Heap) (L : List Loc) : Prop := v = some (own_f0 W0 W1 W2 c0 c1 c2 at_) ∧ Fr n0 L ∧ h = h0
set_option maxRecDepth 65536 in
set_option maxHeartbeats 40000000 in
theorem rmF0 (l : Launch) (Z : State) (a0 : Array Value) (hw : ∀ d ∈ tables_1, d.before a0 Z = true) (ws : List Jvm.Cond) (c0 : Addr) (c1 : Addr) (c2 : Addr) (at_ : Addr) (W0 : Value) (W1 : Value) (W2 : Value) (h0 : Heap) (n0 : Nat) (Z0 : n0 ≤ h0.size) (E_c0 : Exa Z h0 c0 "com/example/nomlog/nomlog/lang/Cell") (E_c1 : Exa Z h0 c1 "com/example/nomlog/nomlog/lang/Cell") (E_c2 : Exa Z h0 c2 "com/example/nomlog/nomlog/lang/Cell") (E_at_ : Exa Z h0 at_ "com/example/nomlog/nomlog/lang/Atom") (F_c0 : Fld Z h0 c0 "com/example/nomlog/nomlog/lang/Cell" "value" "Lcom/example/nomlog/nomlog/lang/Term;" W0) (F_c1 : Fld Z h0 c1 "com/example/nomlog/nomlog/lang/Cell" "value" "Lcom/example/nomlog/nomlog/lang/Term;" W1) (F_c2 : Fld Z h0 c2 "com/example/nomlog/nomlog/lang/Cell" "value" "Lcom/example/nomlog/nomlog/lang/Term;" W2) (dd0 : W0 = .null ∨ W0 = .ref at_ ∨ W0 = .ref c1) (dd1 : W1 = .null ∨ W1 = .ref at_ ∨ W1 = .ref c2) (dd2 : W2 = .null ∨ W2 = .ref at_) (na1 : c1 ≠ at_) (na2 : c2 ≠ at_) :
    MetFree l (⟨"com/example/nomlog/nomlog/lang/Cell", "follow", "()Lcom/example/nomlog/nomlog/lang/Term;"⟩ : MethodName) (head1 (Jvm.Cond.code (⟨"com/example/nomlog/nomlog/lang/Cell", "follow", "()Lcom/example/nomlog/nomlog/lang/Term;"⟩ : MethodName) prog_49_method_8_code 3 (some (.object "com/example/nomlog/nomlog/lang/Term")) :: ws) ({ frames := 0, cells := 0, slots := 0, locals := 0 } : Room)) (fun a U => a = #[(.ref c0)] ∧ Z.Warmed39 U.vm ∧ U.heap = h0) (fun _ _ _ _ _ => True) (fun _ U o U' => ∃ v L, o = .returned v ∧ Q_rmF0 Z c0 c1 c2 at_ W0 W1 W2 h0 n0 v U'.heap L ∧ FrameEnd U o U' L ({ frames := 0, cells := 0, slots := 0, locals := 0 } : Room).cells ({ frames := 0, cells := 0, slots := 0, locals := 0 } : Room).slots) := by
  refine MetFree.of_bodySF (plainFor_of_name pn_1) hisR ?_
  intro p e s m args below meth c s₁ Bd hml0 hP hK
  obtain ⟨rfl, hZ, hh⟩ := hP
  have hx := Bd.exec
  have hby := Bd.bytes
  have hml : c.maxLocals = 3 := hml0
  have hown : s.vm.findClass "com/example/nomlog/nomlog/lang/Cell" = some m.cls := findClass_of_methodNamed Bd.named
  have hnm := (name_of_methodNamed Bd.named Bd.method).1
  have X0 : Stand p l e ({ frames := 0, cells := 0, slots := 0, locals := 0 } : Room) s m #[(.ref c0)] below meth c s₁ [] 0 0 := Stand.of_body Bd
  have e0 : s₁.heap = h0 := by rw [← hh, Bd.state]; rfl
  have N0 := Fr.nil n0
  have pre0 : ∀ t, Steps p.tables e below (s₁.setTop (mkF m 0 #[.val (.ref c0), .unset, .unset] [])) t → Steps p.tables e below (s₁.setTop (entryFrame m #[(.ref c0)] 3)) t := fun t k => castTop (ef_rmF0 m c0) k
  have Nx : Ins Z h0 at_ "com/example/nomlog/nomlog/lang/Cell" false := own_noins E_at_ (hw _ (List.mem_of_getElem? (i := 54) rfl)) (hw _ (List.mem_of_getElem? (i := 55) rfl)) (hw _ (List.mem_of_getElem? (i := 56) rfl)) (hw _ (List.mem_of_getElem? (i := 2) rfl)) (by decide) (by decide) (by decide)
  rcases dd0 with rfl | rfl | rfl
  · have st1 : ∀ target, Steps p.tables e below (s₁.setTop (mkF m 3 #[.val (.ref c0), .val (.ref c0), .unset] [(.ref c0)])) target → Steps p.tables e below (s₁.setTop (mkF m 0 #[.val (.ref c0), .unset, .unset] [])) target := by
      intro target kt
      refine XS.aloadN X0.here hx rfl (hb hby d6_0) rfl rfl ?_
      refine XS.astoreN X0.here hx rfl (hb hby d6_1) rfl rfl (l' := #[.val (.ref c0), .val (.ref c0), .unset]) rfl ?_
      refine XS.aloadN X0.here hx rfl (hb hby d6_2) rfl rfl ?_
      exact kt
    obtain ⟨T2, X2, e2, st2⟩ := instY X0 hx hZ hown (hw _ (List.mem_of_getElem? (i := 48) rfl)) e0 (Ins.self E_c0) (g := (mkF m 3 #[.val (.ref c0), .val (.ref c0), .unset] [(.ref c0)])) rfl rfl (hb hby d6_3)
    have st3 : ∀ target, Steps p.tables e below (T2.setTop (mkF m 10 #[.val (.ref c0), .val (.ref c0), .unset] [(.ref c0)])) target → Steps p.tables e below (T2.setTop (mkF m 6 #[.val (.ref c0), .val (.ref c0), .unset] [(.int (1 : Int32))])) target := by
      intro target kt
      refine XS.ifNo X2.here hx rfl (hb hby d6_6) rfl ((if0 _ _).trans (feq (by decide : ¬ ((1 : Int32) = (0 : Int32)))).1) ?_
      refine XS.aloadN X2.here hx rfl (hb hby d6_9) rfl rfl ?_
      exact kt
    obtain ⟨T4, X4, e4, st4⟩ := castY X2 hx hZ hown (hw _ (List.mem_of_getElem? (i := 48) rfl)) e2 (Ins.self E_c0) (g := (mkF m 10 #[.val (.ref c0), .val (.ref c0), .unset] [(.ref c0)])) rfl rfl (hb hby d6_10)
    have st5 : ∀ target, Steps p.tables e below (T4.setTop (mkF m 15 #[.val (.ref c0), .val (.ref c0), .val (.ref c0)] [(.ref c0)])) target → Steps p.tables e below (T4.setTop (mkF m 13 #[.val (.ref c0), .val (.ref c0), .unset] [(.ref c0)])) target := by
      intro target kt
      refine XS.astoreN X4.here hx rfl (hb hby d6_13) rfl rfl (l' := #[.val (.ref c0), .val (.ref c0), .val (.ref c0)]) rfl ?_
      refine XS.aloadN X4.here hx rfl (hb hby d6_14) rfl rfl ?_
      exact kt
    obtain ⟨T6, X6, e6, st6⟩ := getF X4 hx hZ hown (host := "") (Or.inl (hw _ (List.mem_of_getElem? (i := 41) rfl))) Via.refl e4 F_c0 (g := (mkF m 15 #[.val (.ref c0), .val (.ref c0), .val (.ref c0)] [(.ref c0)])) rfl rfl (hb hby d6_15)
    have st7 : ∀ target, Steps p.tables e below (T6.setTop (mkF m 30 #[.val (.ref c0), .val (.ref c0), .val (.ref c0)] [(.ref c0)])) target → Steps p.tables e below (T6.setTop (mkF m 18 #[.val (.ref c0), .val (.ref c0), .val (.ref c0)] [.null])) target := by
      intro target kt
      show Steps p.tables e below (T6.setTop (mkF m 18 #[.val (.ref c0), .val (.ref c0), .val (.ref c0)] [.null])) _
      refine XS.ifnullYes X6.here hx rfl (pc0 := 18) (pc' := 29) rfl (hb hby d6_18) rfl (by decide) (by decide) ?_
      refine XS.aloadN X6.here hx rfl (hb hby d6_29) rfl rfl ?_
      exact kt
    obtain ⟨fs, hr, hrun, hended, hW, hsame⟩ := X6.leave (v := some (.ref c0)) (fun h => by rw [Bd.returns] at h; cases h)
    refine ⟨_, _, pre0 _ (st1 _ (st2 _ (st3 _ (st4 _ (st5 _ (st6 _ (st7 _ ?_))))))), hrun, hended, _, _, rfl, ?_, ⟨_, rfl⟩, hW, hsame.mono (by decide) (by decide)⟩
    · show Steps p.tables e below (T6.setTop (mkF m 30 #[.val (.ref c0), .val (.ref c0), .val (.ref c0)] [(.ref c0)])) _
      jvm_step X6.here [X6.here.top, hx, (hb hby d6_30), X6.method', Bd.returns, Value.isRef, FieldType.isReference]
      first | (intro acts; rw [hr _ acts rfl rfl rfl]) | rw [hr _ _ rfl rfl rfl]
      exact Steps.refl _
    · show Q_rmF0 Z c0 c1 c2 at_ .null W1 W2 h0 n0 _ T6.heap _
      rw [e6]
      exact ⟨by unfold own_f0; rw [if_pos rfl], N0, rfl⟩
  · have st8 : ∀ target, Steps p.tables e below (s₁.setTop (mkF m 3 #[.val (.ref c0), .val (.ref c0), .unset] [(.ref c0)])) target → Steps p.tables e below (s₁.setTop (mkF m 0 #[.val (.ref c0), .unset, .unset] [])) target := by
      intro target kt
      refine XS.aloadN X0.here hx rfl (hb hby d6_0) rfl rfl ?_
      refine XS.astoreN X0.here hx rfl (hb hby d6_1) rfl rfl (l' := #[.val (.ref c0), .val (.ref c0), .unset]) rfl ?_
      refine XS.aloadN X0.here hx rfl (hb hby d6_2) rfl rfl ?_
      exact kt
    obtain ⟨T9, X9, e9, st9⟩ := instY X0 hx hZ hown (hw _ (List.mem_of_getElem? (i := 48) rfl)) e0 (Ins.self E_c0) (g := (mkF m 3 #[.val (.ref c0), .val (.ref c0), .unset] [(.ref c0)])) rfl rfl (hb hby d6_3)
    have st10 : ∀ target, Steps p.tables e below (T9.setTop (mkF m 10 #[.val (.ref c0), .val (.ref c0), .unset] [(.ref c0)])) target → Steps p.tables e below (T9.setTop (mkF m 6 #[.val (.ref c0), .val (.ref c0), .unset] [(.int (1 : Int32))])) target := by
      intro target kt
      refine XS.ifNo X9.here hx rfl (hb hby d6_6) rfl ((if0 _ _).trans (feq (by decide : ¬ ((1 : Int32) = (0 : Int32)))).1) ?_
      refine XS.aloadN X9.here hx rfl (hb hby d6_9) rfl rfl ?_
      exact kt
    obtain ⟨T11, X11, e11, st11⟩ := castY X9 hx hZ hown (hw _ (List.mem_of_getElem? (i := 48) rfl)) e9 (Ins.self E_c0) (g := (mkF m 10 #[.val (.ref c0), .val (.ref c0), .unset] [(.ref c0)])) rfl rfl (hb hby d6_10)
    have st12 : ∀ target, Steps p.tables e below (T11.setTop (mkF m 15 #[.val (.ref c0), .val (.ref c0), .val (.ref c0)] [(.ref c0)])) target → Steps p.tables e below (T11.setTop (mkF m 13 #[.val (.ref c0), .val (.ref c0), .unset] [(.ref c0)])) target := by
      intro target kt
      refine XS.astoreN X11.here hx rfl (hb hby d6_13) rfl rfl (l' := #[.val (.ref c0), .val (.ref c0), .val (.ref c0)]) rfl ?_
      show Steps p.tables e below (T11.setTop (mkF m 14 #[.val (.ref c0), .val (.ref c0), .val (.ref c0)] [])) _
      refine XS.aloadN X11.here hx rfl (hb hby d6_14) rfl rfl ?_
      exact kt
    obtain ⟨T13, X13, e13, st13⟩ := getF X11 hx hZ hown (host := "") (Or.inl (hw _ (List.mem_of_getElem? (i := 41) rfl))) Via.refl e11 F_c0 (g := (mkF m 15 #[.val (.ref c0), .val (.ref c0), .val (.ref c0)] [(.ref c0)])) rfl rfl (hb hby d6_15)
    have st14 : ∀ target, Steps p.tables e below (T13.setTop (mkF m 22 #[.val (.ref c0), .val (.ref c0), .val (.ref c0)] [(.ref c0)])) target → Steps p.tables e below (T13.setTop (mkF m 18 #[.val (.ref c0), .val (.ref c0), .val (.ref c0)] [(.ref at_)])) target := by
      intro target kt
      refine XS.ifnullNo X13.here hx rfl (hb hby d6_18) rfl ?_
      refine XS.aloadN X13.here hx rfl (hb hby d6_21) rfl rfl ?_
      exact kt
    obtain ⟨T15, X15, e15, st15⟩ := getF X13 hx hZ hown (host := "") (Or.inl (hw _ (List.mem_of_getElem? (i := 41) rfl))) Via.refl e13 F_c0 (g := (mkF m 22 #[.val (.ref c0), .val (.ref c0), .val (.ref c0)] [(.ref c0)])) rfl rfl (hb hby d6_22)
    have st16 : ∀ target, Steps p.tables e below (T15.setTop (mkF m 3 #[.val (.ref c0), .val (.ref at_), .val (.ref c0)] [(.ref at_)])) target → Steps p.tables e below (T15.setTop (mkF m 25 #[.val (.ref c0), .val (.ref c0), .val (.ref c0)] [(.ref at_)])) target := by
      intro target kt
      refine XS.astoreN X15.here hx rfl (hb hby d6_25) rfl rfl (l' := #[.val (.ref c0), .val (.ref at_), .val (.ref c0)]) rfl ?_
      refine XS.goto X15.here hx rfl (pc0 := 26) (pc' := 2) rfl (hb hby d6_26) (by decide) (by decide) ?_
      refine XS.aloadN X15.here hx rfl (hb hby d6_2) rfl rfl ?_
      exact kt
    obtain ⟨T17, X17, e17, st17⟩ := instN X15 hx hZ hown (hw _ (List.mem_of_getElem? (i := 48) rfl)) e15 (by rw [hh]; exact Nx) (by rw [hh]; exact E_at_) (g := (mkF m 3 #[.val (.ref c0), .val (.ref at_), .val (.ref c0)] [(.ref at_)])) rfl rfl (hb hby d6_3)
    obtain ⟨fs, hr, hrun, hended, hW, hsame⟩ := X17.leave (v := some (.ref at_)) (fun h => by rw [Bd.returns] at h; cases h)
    refine ⟨_, _, pre0 _ (st8 _ (st9 _ (st10 _ (st11 _ (st12 _ (st13 _ (st14 _ (st15 _ (st16 _ (st17 _ ?_)))))))))), hrun, hended, _, _, rfl, ?_, ⟨_, rfl⟩, hW, hsame.mono (by decide) (by decide)⟩
    · refine XS.ifYes X17.here hx rfl (pc0 := 6) (pc' := 29) rfl (hb hby d6_6) rfl ((if0 _ _).trans (teq (rfl : (0 : Int32) = (0 : Int32))).1) (by decide) (by decide) ?_
      refine XS.aloadN X17.here hx rfl (hb hby d6_29) rfl rfl ?_
      show Steps p.tables e below (T17.setTop (mkF m 30 #[.val (.ref c0), .val (.ref at_), .val (.ref c0)] [(.ref at_)])) _
      jvm_step X17.here [X17.here.top, hx, (hb hby d6_30), X17.method', Bd.returns, Value.isRef, FieldType.isReference]
      first | (intro acts; rw [hr _ acts rfl rfl rfl]) | rw [hr _ _ rfl rfl rfl]
      exact Steps.refl _
    · show Q_rmF0 Z c0 c1 c2 at_ (.ref at_) W1 W2 h0 n0 _ T17.heap _
      rw [e17]
      exact ⟨by unfold own_f0; rw [if_neg (by nofun), if_pos rfl], N0, rfl⟩
  · have st18 : ∀ target, Steps p.tables e below (s₁.setTop (mkF m 3 #[.val (.ref c0), .val (.ref c0), .unset] [(.ref c0)])) target → Steps p.tables e below (s₁.setTop (mkF m 0 #[.val (.ref c0), .unset, .unset] [])) target := by
      intro target kt
      show Steps p.tables e below (s₁.setTop (mkF m 0 #[.val (.ref c0), .unset, .unset] [])) _
      refine XS.aloadN X0.here hx rfl (hb hby d6_0) rfl rfl ?_
      refine XS.astoreN X0.here hx rfl (hb hby d6_1) rfl rfl (l' := #[.val (.ref c0), .val (.ref c0), .unset]) rfl ?_
      refine XS.aloadN X0.here hx rfl (hb hby d6_2) rfl rfl ?_
      exact kt
    obtain ⟨T19, X19, e19, st19⟩ := instY X0 hx hZ hown (hw _ (List.mem_of_getElem? (i := 48) rfl)) e0 (Ins.self E_c0) (g := (mkF m 3 #[.val (.ref c0), .val (.ref c0), .unset] [(.ref c0)])) rfl rfl (hb hby d6_3)
    have st20 : ∀ target, Steps p.tables e below (T19.setTop (mkF m 10 #[.val (.ref c0), .val (.ref c0), .unset] [(.ref c0)])) target → Steps p.tables e below (T19.setTop (mkF m 6 #[.val (.ref c0), .val (.ref c0), .unset] [(.int (1 : Int32))])) target := by
      intro target kt
      refine XS.ifNo X19.here hx rfl (hb hby d6_6) rfl ((if0 _ _).trans (feq (by decide : ¬ ((1 : Int32) = (0 : Int32)))).1) ?_
      refine XS.aloadN X19.here hx rfl (hb hby d6_9) rfl rfl ?_
      exact kt
    obtain ⟨T21, X21, e21, st21⟩ := castY X19 hx hZ hown (hw _ (List.mem_of_getElem? (i := 48) rfl)) e19 (Ins.self E_c0) (g := (mkF m 10 #[.val (.ref c0), .val (.ref c0), .unset] [(.ref c0)])) rfl rfl (hb hby d6_10)
    have st22 : ∀ target, Steps p.tables e below (T21.setTop (mkF m 15 #[.val (.ref c0), .val (.ref c0), .val (.ref c0)] [(.ref c0)])) target → Steps p.tables e below (T21.setTop (mkF m 13 #[.val (.ref c0), .val (.ref c0), .unset] [(.ref c0)])) target := by
      intro target kt
      refine XS.astoreN X21.here hx rfl (hb hby d6_13) rfl rfl (l' := #[.val (.ref c0), .val (.ref c0), .val (.ref c0)]) rfl ?_
      refine XS.aloadN X21.here hx rfl (hb hby d6_14) rfl rfl ?_
      exact kt
    obtain ⟨T23, X23, e23, st23⟩ := getF X21 hx hZ hown (host := "") (Or.inl (hw _ (List.mem_of_getElem? (i := 41) rfl))) Via.refl e21 F_c0 (g := (mkF m 15 #[.val (.ref c0), .val (.ref c0), .val (.ref c0)] [(.ref c0)])) rfl rfl (hb hby d6_15)
    have st24 : ∀ target, Steps p.tables e below (T23.setTop (mkF m 22 #[.val (.ref c0), .val (.ref c0), .val (.ref c0)] [(.ref c0)])) target → Steps p.tables e below (T23.setTop (mkF m 18 #[.val (.ref c0), .val (.ref c0), .val (.ref c0)] [(.ref c1)])) target := by
      intro target kt
      refine XS.ifnullNo X23.here hx rfl (hb hby d6_18) rfl ?_
      show Steps p.tables e below (T23.setTop (mkF m 21 #[.val (.ref c0), .val (.ref c0), .val (.ref c0)] [])) _
      refine XS.aloadN X23.here hx rfl (hb hby d6_21) rfl rfl ?_
      exact kt
    obtain ⟨T25, X25, e25, st25⟩ := getF X23 hx hZ hown (host := "") (Or.inl (hw _ (List.mem_of_getElem? (i := 41) rfl))) Via.refl e23 F_c0 (g := (mkF m 22 #[.val (.ref c0), .val (.ref c0), .val (.ref c0)] [(.ref c0)])) rfl rfl (hb hby d6_22)
    rcases dd1 with rfl | rfl | rfl
    · have st26 : ∀ target, Steps p.tables e below (T25.setTop (mkF m 3 #[.val (.ref c0), .val (.ref c1), .val (.ref c0)] [(.ref c1)])) target → Steps p.tables e below (T25.setTop (mkF m 25 #[.val (.ref c0), .val (.ref c0), .val (.ref c0)] [(.ref c1)])) target := by
        intro target kt
        refine XS.astoreN X25.here hx rfl (hb hby d6_25) rfl rfl (l' := #[.val (.ref c0), .val (.ref c1), .val (.ref c0)]) rfl ?_
        refine XS.goto X25.here hx rfl (pc0 := 26) (pc' := 2) rfl (hb hby d6_26) (by decide) (by decide) ?_
        refine XS.aloadN X25.here hx rfl (hb hby d6_2) rfl rfl ?_
        exact kt
      obtain ⟨T27, X27, e27, st27⟩ := instY X25 hx hZ hown (hw _ (List.mem_of_getElem? (i := 48) rfl)) e25 (Ins.self E_c1) (g := (mkF m 3 #[.val (.ref c0), .val (.ref c1), .val (.ref c0)] [(.ref c1)])) rfl rfl (hb hby d6_3)
      have st28 : ∀ target, Steps p.tables e below (T27.setTop (mkF m 10 #[.val (.ref c0), .val (.ref c1), .val (.ref c0)] [(.ref c1)])) target → Steps p.tables e below (T27.setTop (mkF m 6 #[.val (.ref c0), .val (.ref c1), .val (.ref c0)] [(.int (1 : Int32))])) target := by
        intro target kt
        refine XS.ifNo X27.here hx rfl (hb hby d6_6) rfl ((if0 _ _).trans (feq (by decide : ¬ ((1 : Int32) = (0 : Int32)))).1) ?_
        refine XS.aloadN X27.here hx rfl (hb hby d6_9) rfl rfl ?_
        exact kt
      obtain ⟨T29, X29, e29, st29⟩ := castY X27 hx hZ hown (hw _ (List.mem_of_getElem? (i := 48) rfl)) e27 (Ins.self E_c1) (g := (mkF m 10 #[.val (.ref c0), .val (.ref c1), .val (.ref c0)] [(.ref c1)])) rfl rfl (hb hby d6_10)
      have st30 : ∀ target, Steps p.tables e below (T29.setTop (mkF m 15 #[.val (.ref c0), .val (.ref c1), .val (.ref c1)] [(.ref c1)])) target → Steps p.tables e below (T29.setTop (mkF m 13 #[.val (.ref c0), .val (.ref c1), .val (.ref c0)] [(.ref c1)])) target := by
        intro target kt
        refine XS.astoreN X29.here hx rfl (hb hby d6_13) rfl rfl (l' := #[.val (.ref c0), .val (.ref c1), .val (.ref c1)]) rfl ?_
        refine XS.aloadN X29.here hx rfl (hb hby d6_14) rfl rfl ?_
        exact kt
      obtain ⟨T31, X31, e31, st31⟩ := getF X29 hx hZ hown (host := "") (Or.inl (hw _ (List.mem_of_getElem? (i := 41) rfl))) Via.refl e29 F_c1 (g := (mkF m 15 #[.val (.ref c0), .val (.ref c1), .val (.ref c1)] [(.ref c1)])) rfl rfl (hb hby d6_15)
      have st32 : ∀ target, Steps p.tables e below (T31.setTop (mkF m 30 #[.val (.ref c0), .val (.ref c1), .val (.ref c1)] [(.ref c1)])) target → Steps p.tables e below (T31.setTop (mkF m 18 #[.val (.ref c0), .val (.ref c1), .val (.ref c1)] [.null])) target := by
        intro target kt
        show Steps p.tables e below (T31.setTop (mkF m 18 #[.val (.ref c0), .val (.ref c1), .val (.ref c1)] [.null])) _
        refine XS.ifnullYes X31.here hx rfl (pc0 := 18) (pc' := 29) rfl (hb hby d6_18) rfl (by decide) (by decide) ?_
        refine XS.aloadN X31.here hx rfl (hb hby d6_29) rfl rfl ?_
        exact kt
      obtain ⟨fs, hr, hrun, hended, hW, hsame⟩ := X31.leave (v := some (.ref c1)) (fun h => by rw [Bd.returns] at h; cases h)
      refine ⟨_, _, pre0 _ (st18 _ (st19 _ (st20 _ (st21 _ (st22 _ (st23 _ (st24 _ (st25 _ (st26 _ (st27 _ (st28 _ (st29 _ (st30 _ (st31 _ (st32 _ ?_))))))))))))))), hrun, hended, _, _, rfl, ?_, ⟨_, rfl⟩, hW, hsame.mono (by decide) (by decide)⟩
      · show Steps p.tables e below (T31.setTop (mkF m 30 #[.val (.ref c0), .val (.ref c1), .val (.ref c1)] [(.ref c1)])) _
        jvm_step X31.here [X31.here.top, hx, (hb hby d6_30), X31.method', Bd.returns, Value.isRef, FieldType.isReference]
        first | (intro acts; rw [hr _ acts rfl rfl rfl]) | rw [hr _ _ rfl rfl rfl]
        exact Steps.refl _
      · show Q_rmF0 Z c0 c1 c2 at_ (.ref c1) .null W2 h0 n0 _ T31.heap _
        rw [e31]
        exact ⟨by unfold own_f0; rw [if_neg (by nofun), if_neg (fun q => na1 (Value.ref.inj q))]; unfold own_f1; rw [if_pos rfl], N0, rfl⟩
    · have st33 : ∀ target, Steps p.tables e below (T25.setTop (mkF m 3 #[.val (.ref c0), .val (.ref c1), .val (.ref c0)] [(.ref c1)])) target → Steps p.tables e below (T25.setTop (mkF m 25 #[.val (.ref c0), .val (.ref c0), .val (.ref c0)] [(.ref c1)])) target := by
        intro target kt
        refine XS.astoreN X25.here hx rfl (hb hby d6_25) rfl rfl (l' := #[.val (.ref c0), .val (.ref c1), .val (.ref c0)]) rfl ?_
        refine XS.goto X25.here hx rfl (pc0 := 26) (pc' := 2) rfl (hb hby d6_26) (by decide) (by decide) ?_
        refine XS.aloadN X25.here hx rfl (hb hby d6_2) rfl rfl ?_
        exact kt
      obtain ⟨T34, X34, e34, st34⟩ := instY X25 hx hZ hown (hw _ (List.mem_of_getElem? (i := 48) rfl)) e25 (Ins.self E_c1) (g := (mkF m 3 #[.val (.ref c0), .val (.ref c1), .val (.ref c0)] [(.ref c1)])) rfl rfl (hb hby d6_3)
      have st35 : ∀ target, Steps p.tables e below (T34.setTop (mkF m 10 #[.val (.ref c0), .val (.ref c1), .val (.ref c0)] [(.ref c1)])) target → Steps p.tables e below (T34.setTop (mkF m 6 #[.val (.ref c0), .val (.ref c1), .val (.ref c0)] [(.int (1 : Int32))])) target := by
        intro target kt
        refine XS.ifNo X34.here hx rfl (hb hby d6_6) rfl ((if0 _ _).trans (feq (by decide : ¬ ((1 : Int32) = (0 : Int32)))).1) ?_
        refine XS.aloadN X34.here hx rfl (hb hby d6_9) rfl rfl ?_
        exact kt
      obtain ⟨T36, X36, e36, st36⟩ := castY X34 hx hZ hown (hw _ (List.mem_of_getElem? (i := 48) rfl)) e34 (Ins.self E_c1) (g := (mkF m 10 #[.val (.ref c0), .val (.ref c1), .val (.ref c0)] [(.ref c1)])) rfl rfl (hb hby d6_10)
      have st37 : ∀ target, Steps p.tables e below (T36.setTop (mkF m 15 #[.val (.ref c0), .val (.ref c1), .val (.ref c1)] [(.ref c1)])) target → Steps p.tables e below (T36.setTop (mkF m 13 #[.val (.ref c0), .val (.ref c1), .val (.ref c0)] [(.ref c1)])) target := by
        intro target kt
        refine XS.astoreN X36.here hx rfl (hb hby d6_13) rfl rfl (l' := #[.val (.ref c0), .val (.ref c1), .val (.ref c1)]) rfl ?_
        show Steps p.tables e below (T36.setTop (mkF m 14 #[.val (.ref c0), .val (.ref c1), .val (.ref c1)] [])) _
        refine XS.aloadN X36.here hx rfl (hb hby d6_14) rfl rfl ?_
        exact kt
      obtain ⟨T38, X38, e38, st38⟩ := getF X36 hx hZ hown (host := "") (Or.inl (hw _ (List.mem_of_getElem? (i := 41) rfl))) Via.refl e36 F_c1 (g := (mkF m 15 #[.val (.ref c0), .val (.ref c1), .val (.ref c1)] [(.ref c1)])) rfl rfl (hb hby d6_15)
      have st39 : ∀ target, Steps p.tables e below (T38.setTop (mkF m 22 #[.val (.ref c0), .val (.ref c1), .val (.ref c1)] [(.ref c1)])) target → Steps p.tables e below (T38.setTop (mkF m 18 #[.val (.ref c0), .val (.ref c1), .val (.ref c1)] [(.ref at_)])) target := by
        intro target kt
        refine XS.ifnullNo X38.here hx rfl (hb hby d6_18) rfl ?_
        refine XS.aloadN X38.here hx rfl (hb hby d6_21) rfl rfl ?_
        exact kt
      obtain ⟨T40, X40, e40, st40⟩ := getF X38 hx hZ hown (host := "") (Or.inl (hw _ (List.mem_of_getElem? (i := 41) rfl))) Via.refl e38 F_c1 (g := (mkF m 22 #[.val (.ref c0), .val (.ref c1), .val (.ref c1)] [(.ref c1)])) rfl rfl (hb hby d6_22)
      have st41 : ∀ target, Steps p.tables e below (T40.setTop (mkF m 3 #[.val (.ref c0), .val (.ref at_), .val (.ref c1)] [(.ref at_)])) target → Steps p.tables e below (T40.setTop (mkF m 25 #[.val (.ref c0), .val (.ref c1), .val (.ref c1)] [(.ref at_)])) target := by
        intro target kt
        refine XS.astoreN X40.here hx rfl (hb hby d6_25) rfl rfl (l' := #[.val (.ref c0), .val (.ref at_), .val (.ref c1)]) rfl ?_
        refine XS.goto X40.here hx rfl (pc0 := 26) (pc' := 2) rfl (hb hby d6_26) (by decide) (by decide) ?_
        refine XS.aloadN X40.here hx rfl (hb hby d6_2) rfl rfl ?_
        exact kt
      obtain ⟨T42, X42, e42, st42⟩ := instN X40 hx hZ hown (hw _ (List.mem_of_getElem? (i := 48) rfl)) e40 (by rw [hh]; exact Nx) (by rw [hh]; exact E_at_) (g := (mkF m 3 #[.val (.ref c0), .val (.ref at_), .val (.ref c1)] [(.ref at_)])) rfl rfl (hb hby d6_3)
      obtain ⟨fs, hr, hrun, hended, hW, hsame⟩ := X42.leave (v := some (.ref at_)) (fun h => by rw [Bd.returns] at h; cases h)
      refine ⟨_, _, pre0 _ (st18 _ (st19 _ (st20 _ (st21 _ (st22 _ (st23 _ (st24 _ (st25 _ (st33 _ (st34 _ (st35 _ (st36 _ (st37 _ (st38 _ (st39 _ (st40 _ (st41 _ (st42 _ ?_)))))))))))))))))), hrun, hended, _, _, rfl, ?_, ⟨_, rfl⟩, hW, hsame.mono (by decide) (by decide)⟩
      · refine XS.ifYes X42.here hx rfl (pc0 := 6) (pc' := 29) rfl (hb hby d6_6) rfl ((if0 _ _).trans (teq (rfl : (0 : Int32) = (0 : Int32))).1) (by decide) (by decide) ?_
        refine XS.aloadN X42.here hx rfl (hb hby d6_29) rfl rfl ?_
        show Steps p.tables e below (T42.setTop (mkF m 30 #[.val (.ref c0), .val (.ref at_), .val (.ref c1)] [(.ref at_)])) _
        jvm_step X42.here [X42.here.top, hx, (hb hby d6_30), X42.method', Bd.returns, Value.isRef, FieldType.isReference]
        first | (intro acts; rw [hr _ acts rfl rfl rfl]) | rw [hr _ _ rfl rfl rfl]
        exact Steps.refl _
      · show Q_rmF0 Z c0 c1 c2 at_ (.ref c1) (.ref at_) W2 h0 n0 _ T42.heap _
        rw [e42]
        exact ⟨by unfold own_f0; rw [if_neg (by nofun), if_neg (fun q => na1 (Value.ref.inj q))]; unfold own_f1; rw [if_neg (by nofun), if_pos rfl], N0, rfl⟩
    · have st43 : ∀ target, Steps p.tables e below (T25.setTop (mkF m 3 #[.val (.ref c0), .val (.ref c1), .val (.ref c0)] [(.ref c1)])) target → Steps p.tables e below (T25.setTop (mkF m 25 #[.val (.ref c0), .val (.ref c0), .val (.ref c0)] [(.ref c1)])) target := by
        intro target kt
        show Steps p.tables e below (T25.setTop (mkF m 25 #[.val (.ref c0), .val (.ref c0), .val (.ref c0)] [(.ref c1)])) _
        refine XS.astoreN X25.here hx rfl (hb hby d6_25) rfl rfl (l' := #[.val (.ref c0), .val (.ref c1), .val (.ref c0)]) rfl ?_
        refine XS.goto X25.here hx rfl (pc0 := 26) (pc' := 2) rfl (hb hby d6_26) (by decide) (by decide) ?_
        refine XS.aloadN X25.here hx rfl (hb hby d6_2) rfl rfl ?_
        exact kt
      obtain ⟨T44, X44, e44, st44⟩ := instY X25 hx hZ hown (hw _ (List.mem_of_getElem? (i := 48) rfl)) e25 (Ins.self E_c1) (g := (mkF m 3 #[.val (.ref c0), .val (.ref c1), .val (.ref c0)] [(.ref c1)])) rfl rfl (hb hby d6_3)
      have st45 : ∀ target, Steps p.tables e below (T44.setTop (mkF m 10 #[.val (.ref c0), .val (.ref c1), .val (.ref c0)] [(.ref c1)])) target → Steps p.tables e below (T44.setTop (mkF m 6 #[.val (.ref c0), .val (.ref c1), .val (.ref c0)] [(.int (1 : Int32))])) target := by
        intro target kt
        refine XS.ifNo X44.here hx rfl (hb hby d6_6) rfl ((if0 _ _).trans (feq (by decide : ¬ ((1 : Int32) = (0 : Int32)))).1) ?_
        refine XS.aloadN X44.here hx rfl (hb hby d6_9) rfl rfl ?_
        exact kt
      obtain ⟨T46, X46, e46, st46⟩ := castY X44 hx hZ hown (hw _ (List.mem_of_getElem? (i := 48) rfl)) e44 (Ins.self E_c1) (g := (mkF m 10 #[.val (.ref c0), .val (.ref c1), .val (.ref c0)] [(.ref c1)])) rfl rfl (hb hby d6_10)
      have st47 : ∀ target, Steps p.tables e below (T46.setTop (mkF m 15 #[.val (.ref c0), .val (.ref c1), .val (.ref c1)] [(.ref c1)])) target → Steps p.tables e below (T46.setTop (mkF m 13 #[.val (.ref c0), .val (.ref c1), .val (.ref c0)] [(.ref c1)])) target := by
        intro target kt
        refine XS.astoreN X46.here hx rfl (hb hby d6_13) rfl rfl (l' := #[.val (.ref c0), .val (.ref c1), .val (.ref c1)]) rfl ?_
        refine XS.aloadN X46.here hx rfl (hb hby d6_14) rfl rfl ?_
        exact kt
      obtain ⟨T48, X48, e48, st48⟩ := getF X46 hx hZ hown (host := "") (Or.inl (hw _ (List.mem_of_getElem? (i := 41) rfl))) Via.refl e46 F_c1 (g := (mkF m 15 #[.val (.ref c0), .val (.ref c1), .val (.ref c1)] [(.ref c1)])) rfl rfl (hb hby d6_15)
      have st49 : ∀ target, Steps p.tables e below (T48.setTop (mkF m 22 #[.val (.ref c0), .val (.ref c1), .val (.ref c1)] [(.ref c1)])) target → Steps p.tables e below (T48.setTop (mkF m 18 #[.val (.ref c0), .val (.ref c1), .val (.ref c1)] [(.ref c2)])) target := by
        intro target kt
        refine XS.ifnullNo X48.here hx rfl (hb hby d6_18) rfl ?_
        show Steps p.tables e below (T48.setTop (mkF m 21 #[.val (.ref c0), .val (.ref c1), .val (.ref c1)] [])) _
        refine XS.aloadN X48.here hx rfl (hb hby d6_21) rfl rfl ?_
        exact kt
      obtain ⟨T50, X50, e50, st50⟩ := getF X48 hx hZ hown (host := "") (Or.inl (hw _ (List.mem_of_getElem? (i := 41) rfl))) Via.refl e48 F_c1 (g := (mkF m 22 #[.val (.ref c0), .val (.ref c1), .val (.ref c1)] [(.ref c1)])) rfl rfl (hb hby d6_22)
      rcases dd2 with rfl | rfl
      · have st51 : ∀ target, Steps p.tables e below (T50.setTop (mkF m 3 #[.val (.ref c0), .val (.ref c2), .val (.ref c1)] [(.ref c2)])) target → Steps p.tables e below (T50.setTop (mkF m 25 #[.val (.ref c0), .val (.ref c1), .val (.ref c1)] [(.ref c2)])) target := by
          intro target kt
          refine XS.astoreN X50.here hx rfl (hb hby d6_25) rfl rfl (l' := #[.val (.ref c0), .val (.ref c2), .val (.ref c1)]) rfl ?_
          refine XS.goto X50.here hx rfl (pc0 := 26) (pc' := 2) rfl (hb hby d6_26) (by decide) (by decide) ?_
          refine XS.aloadN X50.here hx rfl (hb hby d6_2) rfl rfl ?_
          exact kt
        obtain ⟨T52, X52, e52, st52⟩ := instY X50 hx hZ hown (hw _ (List.mem_of_getElem? (i := 48) rfl)) e50 (Ins.self E_c2) (g := (mkF m 3 #[.val (.ref c0), .val (.ref c2), .val (.ref c1)] [(.ref c2)])) rfl rfl (hb hby d6_3)
        have st53 : ∀ target, Steps p.tables e below (T52.setTop (mkF m 10 #[.val (.ref c0), .val (.ref c2), .val (.ref c1)] [(.ref c2)])) target → Steps p.tables e below (T52.setTop (mkF m 6 #[.val (.ref c0), .val (.ref c2), .val (.ref c1)] [(.int (1 : Int32))])) target := by
          intro target kt
          refine XS.ifNo X52.here hx rfl (hb hby d6_6) rfl ((if0 _ _).trans (feq (by decide : ¬ ((1 : Int32) = (0 : Int32)))).1) ?_
          refine XS.aloadN X52.here hx rfl (hb hby d6_9) rfl rfl ?_
          exact kt
        obtain ⟨T54, X54, e54, st54⟩ := castY X52 hx hZ hown (hw _ (List.mem_of_getElem? (i := 48) rfl)) e52 (Ins.self E_c2) (g := (mkF m 10 #[.val (.ref c0), .val (.ref c2), .val (.ref c1)] [(.ref c2)])) rfl rfl (hb hby d6_10)
        have st55 : ∀ target, Steps p.tables e below (T54.setTop (mkF m 15 #[.val (.ref c0), .val (.ref c2), .val (.ref c2)] [(.ref c2)])) target → Steps p.tables e below (T54.setTop (mkF m 13 #[.val (.ref c0), .val (.ref c2), .val (.ref c1)] [(.ref c2)])) target := by
          intro target kt
          refine XS.astoreN X54.here hx rfl (hb hby d6_13) rfl rfl (l' := #[.val (.ref c0), .val (.ref c2), .val (.ref c2)]) rfl ?_
          refine XS.aloadN X54.here hx rfl (hb hby d6_14) rfl rfl ?_
          exact kt
        obtain ⟨T56, X56, e56, st56⟩ := getF X54 hx hZ hown (host := "") (Or.inl (hw _ (List.mem_of_getElem? (i := 41) rfl))) Via.refl e54 F_c2 (g := (mkF m 15 #[.val (.ref c0), .val (.ref c2), .val (.ref c2)] [(.ref c2)])) rfl rfl (hb hby d6_15)
        have st57 : ∀ target, Steps p.tables e below (T56.setTop (mkF m 30 #[.val (.ref c0), .val (.ref c2), .val (.ref c2)] [(.ref c2)])) target → Steps p.tables e below (T56.setTop (mkF m 18 #[.val (.ref c0), .val (.ref c2), .val (.ref c2)] [.null])) target := by
          intro target kt
          show Steps p.tables e below (T56.setTop (mkF m 18 #[.val (.ref c0), .val (.ref c2), .val (.ref c2)] [.null])) _
          refine XS.ifnullYes X56.here hx rfl (pc0 := 18) (pc' := 29) rfl (hb hby d6_18) rfl (by decide) (by decide) ?_
          refine XS.aloadN X56.here hx rfl (hb hby d6_29) rfl rfl ?_
          exact kt
        obtain ⟨fs, hr, hrun, hended, hW, hsame⟩ := X56.leave (v := some (.ref c2)) (fun h => by rw [Bd.returns] at h; cases h)
        refine ⟨_, _, pre0 _ (st18 _ (st19 _ (st20 _ (st21 _ (st22 _ (st23 _ (st24 _ (st25 _ (st43 _ (st44 _ (st45 _ (st46 _ (st47 _ (st48 _ (st49 _ (st50 _ (st51 _ (st52 _ (st53 _ (st54 _ (st55 _ (st56 _ (st57 _ ?_))))))))))))))))))))))), hrun, hended, _, _, rfl, ?_, ⟨_, rfl⟩, hW, hsame.mono (by decide) (by decide)⟩
        · show Steps p.tables e below (T56.setTop (mkF m 30 #[.val (.ref c0), .val (.ref c2), .val (.ref c2)] [(.ref c2)])) _
          jvm_step X56.here [X56.here.top, hx, (hb hby d6_30), X56.method', Bd.returns, Value.isRef, FieldType.isReference]
          first | (intro acts; rw [hr _ acts rfl rfl rfl]) | rw [hr _ _ rfl rfl rfl]
          exact Steps.refl _
        · show Q_rmF0 Z c0 c1 c2 at_ (.ref c1) (.ref c2) .null h0 n0 _ T56.heap _
          rw [e56]
          exact ⟨by unfold own_f0; rw [if_neg (by nofun), if_neg (fun q => na1 (Value.ref.inj q))]; unfold own_f1; rw [if_neg (by nofun), if_neg (fun q => na2 (Value.ref.inj q))]; unfold own_f2; rw [if_pos rfl], N0, rfl⟩
      · have st58 : ∀ target, Steps p.tables e below (T50.setTop (mkF m 3 #[.val (.ref c0), .val (.ref c2), .val (.ref c1)] [(.ref c2)])) target → Steps p.tables e below (T50.setTop (mkF m 25 #[.val (.ref c0), .val (.ref c1), .val (.ref c1)] [(.ref c2)])) target := by
          intro target kt
          refine XS.astoreN X50.here hx rfl (hb hby d6_25) rfl rfl (l' := #[.val (.ref c0), .val (.ref c2), .val (.ref c1)]) rfl ?_
          refine XS.goto X50.here hx rfl (pc0 := 26) (pc' := 2) rfl (hb hby d6_26) (by decide) (by decide) ?_
          refine XS.aloadN X50.here hx rfl (hb hby d6_2) rfl rfl ?_
          exact kt
        obtain ⟨T59, X59, e59, st59⟩ := instY X50 hx hZ hown (hw _ (List.mem_of_getElem? (i := 48) rfl)) e50 (Ins.self E_c2) (g := (mkF m 3 #[.val (.ref c0), .val (.ref c2), .val (.ref c1)] [(.ref c2)])) rfl rfl (hb hby d6_3)
        have st60 : ∀ target, Steps p.tables e below (T59.setTop (mkF m 10 #[.val (.ref c0), .val (.ref c2), .val (.ref c1)] [(.ref c2)])) target → Steps p.tables e below (T59.setTop (mkF m 6 #[.val (.ref c0), .val (.ref c2), .val (.ref c1)] [(.int (1 : Int32))])) target := by
          intro target kt
          refine XS.ifNo X59.here hx rfl (hb hby d6_6) rfl ((if0 _ _).trans (feq (by decide : ¬ ((1 : Int32) = (0 : Int32)))).1) ?_
          refine XS.aloadN X59.here hx rfl (hb hby d6_9) rfl rfl ?_
          exact kt
        obtain ⟨T61, X61, e61, st61⟩ := castY X59 hx hZ hown (hw _ (List.mem_of_getElem? (i := 48) rfl)) e59 (Ins.self E_c2) (g := (mkF m 10 #[.val (.ref c0), .val (.ref c2), .val (.ref c1)] [(.ref c2)])) rfl rfl (hb hby d6_10)
        have st62 : ∀ target, Steps p.tables e below (T61.setTop (mkF m 15 #[.val (.ref c0), .val (.ref c2), .val (.ref c2)] [(.ref c2)])) target → Steps p.tables e below (T61.setTop (mkF m 13 #[.val (.ref c0), .val (.ref c2), .val (.ref c1)] [(.ref c2)])) target := by
          intro target kt
          refine XS.astoreN X61.here hx rfl (hb hby d6_13) rfl rfl (l' := #[.val (.ref c0), .val (.ref c2), .val (.ref c2)]) rfl ?_
          show Steps p.tables e below (T61.setTop (mkF m 14 #[.val (.ref c0), .val (.ref c2), .val (.ref c2)] [])) _
          refine XS.aloadN X61.here hx rfl (hb hby d6_14) rfl rfl ?_
          exact kt
        obtain ⟨T63, X63, e63, st63⟩ := getF X61 hx hZ hown (host := "") (Or.inl (hw _ (List.mem_of_getElem? (i := 41) rfl))) Via.refl e61 F_c2 (g := (mkF m 15 #[.val (.ref c0), .val (.ref c2), .val (.ref c2)] [(.ref c2)])) rfl rfl (hb hby d6_15)
        have st64 : ∀ target, Steps p.tables e below (T63.setTop (mkF m 22 #[.val (.ref c0), .val (.ref c2), .val (.ref c2)] [(.ref c2)])) target → Steps p.tables e below (T63.setTop (mkF m 18 #[.val (.ref c0), .val (.ref c2), .val (.ref c2)] [(.ref at_)])) target := by
          intro target kt
          refine XS.ifnullNo X63.here hx rfl (hb hby d6_18) rfl ?_
          refine XS.aloadN X63.here hx rfl (hb hby d6_21) rfl rfl ?_
          exact kt
        obtain ⟨T65, X65, e65, st65⟩ := getF X63 hx hZ hown (host := "") (Or.inl (hw _ (List.mem_of_getElem? (i := 41) rfl))) Via.refl e63 F_c2 (g := (mkF m 22 #[.val (.ref c0), .val (.ref c2), .val (.ref c2)] [(.ref c2)])) rfl rfl (hb hby d6_22)
        have st66 : ∀ target, Steps p.tables e below (T65.setTop (mkF m 3 #[.val (.ref c0), .val (.ref at_), .val (.ref c2)] [(.ref at_)])) target → Steps p.tables e below (T65.setTop (mkF m 25 #[.val (.ref c0), .val (.ref c2), .val (.ref c2)] [(.ref at_)])) target := by
          intro target kt
          refine XS.astoreN X65.here hx rfl (hb hby d6_25) rfl rfl (l' := #[.val (.ref c0), .val (.ref at_), .val (.ref c2)]) rfl ?_
          refine XS.goto X65.here hx rfl (pc0 := 26) (pc' := 2) rfl (hb hby d6_26) (by decide) (by decide) ?_
          refine XS.aloadN X65.here hx rfl (hb hby d6_2) rfl rfl ?_
          exact kt
        obtain ⟨T67, X67, e67, st67⟩ := instN X65 hx hZ hown (hw _ (List.mem_of_getElem? (i := 48) rfl)) e65 (by rw [hh]; exact Nx) (by rw [hh]; exact E_at_) (g := (mkF m 3 #[.val (.ref c0), .val (.ref at_), .val (.ref c2)] [(.ref at_)])) rfl rfl (hb hby d6_3)
        obtain ⟨fs, hr, hrun, hended, hW, hsame⟩ := X67.leave (v := some (.ref at_)) (fun h => by rw [Bd.returns] at h; cases h)
        refine ⟨_, _, pre0 _ (st18 _ (st19 _ (st20 _ (st21 _ (st22 _ (st23 _ (st24 _ (st25 _ (st43 _ (st44 _ (st45 _ (st46 _ (st47 _ (st48 _ (st49 _ (st50 _ (st58 _ (st59 _ (st60 _ (st61 _ (st62 _ (st63 _ (st64 _ (st65 _ (st66 _ (st67 _ ?_)))))))))))))))))))))))))), hrun, hended, _, _, rfl, ?_, ⟨_, rfl⟩, hW, hsame.mono (by decide) (by decide)⟩
        · refine XS.ifYes X67.here hx rfl (pc0 := 6) (pc' := 29) rfl (hb hby d6_6) rfl ((if0 _ _).trans (teq (rfl : (0 : Int32) = (0 : Int32))).1) (by decide) (by decide) ?_
          refine XS.aloadN X67.here hx rfl (hb hby d6_29) rfl rfl ?_
          show Steps p.tables e below (T67.setTop (mkF m 30 #[.val (.ref c0), .val (.ref at_), .val (.ref c2)] [(.ref at_)])) _
          jvm_step X67.here [X67.here.top, hx, (hb hby d6_30), X67.method', Bd.returns, Value.isRef, FieldType.isReference]
          first | (intro acts; rw [hr _ acts rfl rfl rfl]) | rw [hr _ _ rfl rfl rfl]
          exact Steps.refl _
        · show Q_rmF0 Z c0 c1 c2 at_ (.ref c1) (.ref c2) (.ref at_) h0 n0 _ T67.heap _
          rw [e67]
          exact ⟨by unfold own_f0; rw [if_neg (by nofun), if_neg (fun q => na1 (Value.ref.inj q))]; unfold own_f1; rw [if_neg (by nofun), if_neg (fun q => na2 (Value.ref.inj q))]; unfold own_f2; rw [if_neg (by nofun)], N0, rfl⟩
theorem ef_rmF1 (m : MethodId) (x0 : Addr) : entryFrame m #[(.ref x0)] 3 = mkF m 0 #[.val (.ref x0), .unset, .unset] [] := by first | (simp [entryFrame, mkF, argsToLocals, Value.category]; done) | rfl
def Q_rmF1 (Z : State) (c1 : Addr) (c2 : Addr) (at_ : Addr) (W1 : Value) (W2 : Value) (h0 : Heap) (n0 : Nat) (v : Option Value) (h : Heap) (L : List Loc) : Prop := v = some (own_f1 W1 W2 c1 c2 at_) ∧ Fr n0 L ∧ h = h0
set_option maxRecDepth 65536 in
set_option maxHeartbeats 40000000 in
theorem rmF1 (l : Launch) (Z : State) (a0 : Array Value) (hw : ∀ d ∈ tables_1, d.before a0 Z = true) (ws : List Jvm.Cond) (c1 : Addr) (c2 : Addr) (at_ : Addr) (W1 : Value) (W2 : Value) (h0 : Heap) (n0 : Nat) (Z0 : n0 ≤ h0.size) (E_c1 : Exa Z h0 c1 "com/example/nomlog/nomlog/lang/Cell") (E_c2 : Exa Z h0 c2 "com/example/nomlog/nomlog/lang/Cell") (E_at_ : Exa Z h0 at_ "com/example/nomlog/nomlog/lang/Atom") (F_c1 : Fld Z h0 c1 "com/example/nomlog/nomlog/lang/Cell" "value" "Lcom/example/nomlog/nomlog/lang/Term;" W1) (F_c2 : Fld Z h0 c2 "com/example/nomlog/nomlog/lang/Cell" "value" "Lcom/example/nomlog/nomlog/lang/Term;" W2) (dd1 : W1 = .null ∨ W1 = .ref at_ ∨ W1 = .ref c2) (dd2 : W2 = .null ∨ W2 = .ref at_) (na2 : c2 ≠ at_) :
    MetFree l (⟨"com/example/nomlog/nomlog/lang/Cell", "follow", "()Lcom/example/nomlog/nomlog/lang/Term;"⟩ : MethodName) (head1 (Jvm.Cond.code (⟨"com/example/nomlog/nomlog/lang/Cell", "follow", "()Lcom/example/nomlog/nomlog/lang/Term;"⟩ : MethodName) prog_49_method_8_code 3 (some (.object "com/example/nomlog/nomlog/lang/Term")) :: ws) ({ frames := 0, cells := 0, slots := 0, locals := 0 } : Room)) (fun a U => a = #[(.ref c1)] ∧ Z.Warmed39 U.vm ∧ U.heap = h0) (fun _ _ _ _ _ => True) (fun _ U o U' => ∃ v L, o = .returned v ∧ Q_rmF1 Z c1 c2 at_ W1 W2 h0 n0 v U'.heap L ∧ FrameEnd U o U' L ({ frames := 0, cells := 0, slots := 0, locals := 0 } : Room).cells ({ frames := 0, cells := 0, slots := 0, locals := 0 } : Room).slots) := by
  refine MetFree.of_bodySF (plainFor_of_name pn_1) hisR ?_
  intro p e s m args below meth c s₁ Bd hml0 hP hK
  obtain ⟨rfl, hZ, hh⟩ := hP
  have hx := Bd.exec
  have hby := Bd.bytes
  have hml : c.maxLocals = 3 := hml0
  have hown : s.vm.findClass "com/example/nomlog/nomlog/lang/Cell" = some m.cls := findClass_of_methodNamed Bd.named
  have hnm := (name_of_methodNamed Bd.named Bd.method).1
  have X0 : Stand p l e ({ frames := 0, cells := 0, slots := 0, locals := 0 } : Room) s m #[(.ref c1)] below meth c s₁ [] 0 0 := Stand.of_body Bd
  have e0 : s₁.heap = h0 := by rw [← hh, Bd.state]; rfl
  have N0 := Fr.nil n0
  have pre0 : ∀ t, Steps p.tables e below (s₁.setTop (mkF m 0 #[.val (.ref c1), .unset, .unset] [])) t → Steps p.tables e below (s₁.setTop (entryFrame m #[(.ref c1)] 3)) t := fun t k => castTop (ef_rmF1 m c1) k
  have Nx : Ins Z h0 at_ "com/example/nomlog/nomlog/lang/Cell" false := own_noins E_at_ (hw _ (List.mem_of_getElem? (i := 54) rfl)) (hw _ (List.mem_of_getElem? (i := 55) rfl)) (hw _ (List.mem_of_getElem? (i := 56) rfl)) (hw _ (List.mem_of_getElem? (i := 2) rfl)) (by decide) (by decide) (by decide)
  rcases dd1 with rfl | rfl | rfl
  · have st1 : ∀ target, Steps p.tables e below (s₁.setTop (mkF m 3 #[.val (.ref c1), .val (.ref c1), .unset] [(.ref c1)])) target → Steps p.tables e below (s₁.setTop (mkF m 0 #[.val (.ref c1), .unset, .unset] [])) target := by
      intro target kt
      refine XS.aloadN X0.here hx rfl (hb hby d6_0) rfl rfl ?_
      refine XS.astoreN X0.here hx rfl (hb hby d6_1) rfl rfl (l' := #[.val (.ref c1), .val (.ref c1), .unset]) rfl ?_
      refine XS.aloadN X0.here hx rfl (hb hby d6_2) rfl rfl ?_
      exact kt
    obtain ⟨T2, X2, e2, st2⟩ := instY X0 hx hZ hown (hw _ (List.mem_of_getElem? (i := 48) rfl)) e0 (Ins.self E_c1) (g := (mkF m 3 #[.val (.ref c1), .val (.ref c1), .unset] [(.ref c1)])) rfl rfl (hb hby d6_3)
    have st3 : ∀ target, Steps p.tables e below (T2.setTop (mkF m 10 #[.val (.ref c1), .val (.ref c1), .unset] [(.ref c1)])) target → Steps p.tables e below (T2.setTop (mkF m 6 #[.val (.ref c1), .val (.ref c1), .unset] [(.int (1 : Int32))])) target := by
      intro target kt
      refine XS.ifNo X2.here hx rfl (hb hby d6_6) rfl ((if0 _ _).trans (feq (by decide : ¬ ((1 : Int32) = (0 : Int32)))).1) ?_
      refine XS.aloadN X2.here hx rfl (hb hby d6_9) rfl rfl ?_
      exact kt
    obtain ⟨T4, X4, e4, st4⟩ := castY X2 hx hZ hown (hw _ (List.mem_of_getElem? (i := 48) rfl)) e2 (Ins.self E_c1) (g := (mkF m 10 #[.val (.ref c1), .val (.ref c1), .unset] [(.ref c1)])) rfl rfl (hb hby d6_10)
    have st5 : ∀ target, Steps p.tables e below (T4.setTop (mkF m 15 #[.val (.ref c1), .val (.ref c1), .val (.ref c1)] [(.ref c1)])) target → Steps p.tables e below (T4.setTop (mkF m 13 #[.val (.ref c1), .val (.ref c1), .unset] [(.ref c1)])) target := by
      intro target kt
      refine XS.astoreN X4.here hx rfl (hb hby d6_13) rfl rfl (l' := #[.val (.ref c1), .val (.ref c1), .val (.ref c1)]) rfl ?_
      refine XS.aloadN X4.here hx rfl (hb hby d6_14) rfl rfl ?_
      exact kt
    obtain ⟨T6, X6, e6, st6⟩ := getF X4 hx hZ hown (host := "") (Or.inl (hw _ (List.mem_of_getElem? (i := 41) rfl))) Via.refl e4 F_c1 (g := (mkF m 15 #[.val (.ref c1), .val (.ref c1), .val (.ref c1)] [(.ref c1)])) rfl rfl (hb hby d6_15)
    have st7 : ∀ target, Steps p.tables e below (T6.setTop (mkF m 30 #[.val (.ref c1), .val (.ref c1), .val (.ref c1)] [(.ref c1)])) target → Steps p.tables e below (T6.setTop (mkF m 18 #[.val (.ref c1), .val (.ref c1), .val (.ref c1)] [.null])) target := by
      intro target kt
      show Steps p.tables e below (T6.setTop (mkF m 18 #[.val (.ref c1), .val (.ref c1), .val (.ref c1)] [.null])) _
      refine XS.ifnullYes X6.here hx rfl (pc0 := 18) (pc' := 29) rfl (hb hby d6_18) rfl (by decide) (by decide) ?_
      refine XS.aloadN X6.here hx rfl (hb hby d6_29) rfl rfl ?_
      exact kt
    obtain ⟨fs, hr, hrun, hended, hW, hsame⟩ := X6.leave (v := some (.ref c1)) (fun h => by rw [Bd.returns] at h; cases h)
    refine ⟨_, _, pre0 _ (st1 _ (st2 _ (st3 _ (st4 _ (st5 _ (st6 _ (st7 _ ?_))))))), hrun, hended, _, _, rfl, ?_, ⟨_, rfl⟩, hW, hsame.mono (by decide) (by decide)⟩
    · show Steps p.tables e below (T6.setTop (mkF m 30 #[.val (.ref c1), .val (.ref c1), .val (.ref c1)] [(.ref c1)])) _
      jvm_step X6.here [X6.here.top, hx, (hb hby d6_30), X6.method', Bd.returns, Value.isRef, FieldType.isReference]
      first | (intro acts; rw [hr _ acts rfl rfl rfl]) | rw [hr _ _ rfl rfl rfl]
      exact Steps.refl _
    · show Q_rmF1 Z c1 c2 at_ .null W2 h0 n0 _ T6.heap _
      rw [e6]
      exact ⟨by unfold own_f1; rw [if_pos rfl], N0, rfl⟩
  · have st8 : ∀ target, Steps p.tables e below (s₁.setTop (mkF m 3 #[.val (.ref c1), .val (.ref c1), .unset] [(.ref c1)])) target → Steps p.tables e below (s₁.setTop (mkF m 0 #[.val (.ref c1), .unset, .unset] [])) target := by
      intro target kt
      refine XS.aloadN X0.here hx rfl (hb hby d6_0) rfl rfl ?_
      refine XS.astoreN X0.here hx rfl (hb hby d6_1) rfl rfl (l' := #[.val (.ref c1), .val (.ref c1), .unset]) rfl ?_
      refine XS.aloadN X0.here hx rfl (hb hby d6_2) rfl rfl ?_
      exact kt
    obtain ⟨T9, X9, e9, st9⟩ := instY X0 hx hZ hown (hw _ (List.mem_of_getElem? (i := 48) rfl)) e0 (Ins.self E_c1) (g := (mkF m 3 #[.val (.ref c1), .val (.ref c1), .unset] [(.ref c1)])) rfl rfl (hb hby d6_3)
    have st10 : ∀ target, Steps p.tables e below (T9.setTop (mkF m 10 #[.val (.ref c1), .val (.ref c1), .unset] [(.ref c1)])) target → Steps p.tables e below (T9.setTop (mkF m 6 #[.val (.ref c1), .val (.ref c1), .unset] [(.int (1 : Int32))])) target := by
      intro target kt
      refine XS.ifNo X9.here hx rfl (hb hby d6_6) rfl ((if0 _ _).trans (feq (by decide : ¬ ((1 : Int32) = (0 : Int32)))).1) ?_
      refine XS.aloadN X9.here hx rfl (hb hby d6_9) rfl rfl ?_
      exact kt
    obtain ⟨T11, X11, e11, st11⟩ := castY X9 hx hZ hown (hw _ (List.mem_of_getElem? (i := 48) rfl)) e9 (Ins.self E_c1) (g := (mkF m 10 #[.val (.ref c1), .val (.ref c1), .unset] [(.ref c1)])) rfl rfl (hb hby d6_10)
    have st12 : ∀ target, Steps p.tables e below (T11.setTop (mkF m 15 #[.val (.ref c1), .val (.ref c1), .val (.ref c1)] [(.ref c1)])) target → Steps p.tables e below (T11.setTop (mkF m 13 #[.val (.ref c1), .val (.ref c1), .unset] [(.ref c1)])) target := by
      intro target kt
      refine XS.astoreN X11.here hx rfl (hb hby d6_13) rfl rfl (l' := #[.val (.ref c1), .val (.ref c1), .val (.ref c1)]) rfl ?_
      show Steps p.tables e below (T11.setTop (mkF m 14 #[.val (.ref c1), .val (.ref c1), .val (.ref c1)] [])) _
      refine XS.aloadN X11.here hx rfl (hb hby d6_14) rfl rfl ?_
      exact kt
    obtain ⟨T13, X13, e13, st13⟩ := getF X11 hx hZ hown (host := "") (Or.inl (hw _ (List.mem_of_getElem? (i := 41) rfl))) Via.refl e11 F_c1 (g := (mkF m 15 #[.val (.ref c1), .val (.ref c1), .val (.ref c1)] [(.ref c1)])) rfl rfl (hb hby d6_15)
    have st14 : ∀ target, Steps p.tables e below (T13.setTop (mkF m 22 #[.val (.ref c1), .val (.ref c1), .val (.ref c1)] [(.ref c1)])) target → Steps p.tables e below (T13.setTop (mkF m 18 #[.val (.ref c1), .val (.ref c1), .val (.ref c1)] [(.ref at_)])) target := by
      intro target kt
      refine XS.ifnullNo X13.here hx rfl (hb hby d6_18) rfl ?_
      refine XS.aloadN X13.here hx rfl (hb hby d6_21) rfl rfl ?_
      exact kt
    obtain ⟨T15, X15, e15, st15⟩ := getF X13 hx hZ hown (host := "") (Or.inl (hw _ (List.mem_of_getElem? (i := 41) rfl))) Via.refl e13 F_c1 (g := (mkF m 22 #[.val (.ref c1), .val (.ref c1), .val (.ref c1)] [(.ref c1)])) rfl rfl (hb hby d6_22)
    have st16 : ∀ target, Steps p.tables e below (T15.setTop (mkF m 3 #[.val (.ref c1), .val (.ref at_), .val (.ref c1)] [(.ref at_)])) target → Steps p.tables e below (T15.setTop (mkF m 25 #[.val (.ref c1), .val (.ref c1), .val (.ref c1)] [(.ref at_)])) target := by
      intro target kt
      refine XS.astoreN X15.here hx rfl (hb hby d6_25) rfl rfl (l' := #[.val (.ref c1), .val (.ref at_), .val (.ref c1)]) rfl ?_
      refine XS.goto X15.here hx rfl (pc0 := 26) (pc' := 2) rfl (hb hby d6_26) (by decide) (by decide) ?_
      refine XS.aloadN X15.here hx rfl (hb hby d6_2) rfl rfl ?_
      exact kt
    obtain ⟨T17, X17, e17, st17⟩ := instN X15 hx hZ hown (hw _ (List.mem_of_getElem? (i := 48) rfl)) e15 (by rw [hh]; exact Nx) (by rw [hh]; exact E_at_) (g := (mkF m 3 #[.val (.ref c1), .val (.ref at_), .val (.ref c1)] [(.ref at_)])) rfl rfl (hb hby d6_3)
    obtain ⟨fs, hr, hrun, hended, hW, hsame⟩ := X17.leave (v := some (.ref at_)) (fun h => by rw [Bd.returns] at h; cases h)
    refine ⟨_, _, pre0 _ (st8 _ (st9 _ (st10 _ (st11 _ (st12 _ (st13 _ (st14 _ (st15 _ (st16 _ (st17 _ ?_)))))))))), hrun, hended, _, _, rfl, ?_, ⟨_, rfl⟩, hW, hsame.mono (by decide) (by decide)⟩
    · refine XS.ifYes X17.here hx rfl (pc0 := 6) (pc' := 29) rfl (hb hby d6_6) rfl ((if0 _ _).trans (teq (rfl : (0 : Int32) = (0 : Int32))).1) (by decide) (by decide) ?_
      refine XS.aloadN X17.here hx rfl (hb hby d6_29) rfl rfl ?_
      show Steps p.tables e below (T17.setTop (mkF m 30 #[.val (.ref c1), .val (.ref at_), .val (.ref c1)] [(.ref at_)])) _
      jvm_step X17.here [X17.here.top, hx, (hb hby d6_30), X17.method', Bd.returns, Value.isRef, FieldType.isReference]
      first | (intro acts; rw [hr _ acts rfl rfl rfl]) | rw [hr _ _ rfl rfl rfl]
      exact Steps.refl _
    · show Q_rmF1 Z c1 c2 at_ (.ref at_) W2 h0 n0 _ T17.heap _
      rw [e17]
      exact ⟨by unfold own_f1; rw [if_neg (by nofun), if_pos rfl], N0, rfl⟩
  · have st18 : ∀ target, Steps p.tables e below (s₁.setTop (mkF m 3 #[.val (.ref c1), .val (.ref c1), .unset] [(.ref c1)])) target → Steps p.tables e below (s₁.setTop (mkF m 0 #[.val (.ref c1), .unset, .unset] [])) target := by
      intro target kt
      show Steps p.tables e below (s₁.setTop (mkF m 0 #[.val (.ref c1), .unset, .unset] [])) _
      refine XS.aloadN X0.here hx rfl (hb hby d6_0) rfl rfl ?_
      refine XS.astoreN X0.here hx rfl (hb hby d6_1) rfl rfl (l' := #[.val (.ref c1), .val (.ref c1), .unset]) rfl ?_
      refine XS.aloadN X0.here hx rfl (hb hby d6_2) rfl rfl ?_
      exact kt
    obtain ⟨T19, X19, e19, st19⟩ := instY X0 hx hZ hown (hw _ (List.mem_of_getElem? (i := 48) rfl)) e0 (Ins.self E_c1) (g := (mkF m 3 #[.val (.ref c1), .val (.ref c1), .unset] [(.ref c1)])) rfl rfl (hb hby d6_3)
    have st20 : ∀ target, Steps p.tables e below (T19.setTop (mkF m 10 #[.val (.ref c1), .val (.ref c1), .unset] [(.ref c1)])) target → Steps p.tables e below (T19.setTop (mkF m 6 #[.val (.ref c1), .val (.ref c1), .unset] [(.int (1 : Int32))])) target := by
      intro target kt
      refine XS.ifNo X19.here hx rfl (hb hby d6_6) rfl ((if0 _ _).trans (feq (by decide : ¬ ((1 : Int32) = (0 : Int32)))).1) ?_
      refine XS.aloadN X19.here hx rfl (hb hby d6_9) rfl rfl ?_
      exact kt
    obtain ⟨T21, X21, e21, st21⟩ := castY X19 hx hZ hown (hw _ (List.mem_of_getElem? (i := 48) rfl)) e19 (Ins.self E_c1) (g := (mkF m 10 #[.val (.ref c1), .val (.ref c1), .unset] [(.ref c1)])) rfl rfl (hb hby d6_10)
    have st22 : ∀ target, Steps p.tables e below (T21.setTop (mkF m 15 #[.val (.ref c1), .val (.ref c1), .val (.ref c1)] [(.ref c1)])) target → Steps p.tables e below (T21.setTop (mkF m 13 #[.val (.ref c1), .val (.ref c1), .unset] [(.ref c1)])) target := by
      intro target kt
      refine XS.astoreN X21.here hx rfl (hb hby d6_13) rfl rfl (l' := #[.val (.ref c1), .val (.ref c1), .val (.ref c1)]) rfl ?_
      refine XS.aloadN X21.here hx rfl (hb hby d6_14) rfl rfl ?_
      exact kt
    obtain ⟨T23, X23, e23, st23⟩ := getF X21 hx hZ hown (host := "") (Or.inl (hw _ (List.mem_of_getElem? (i := 41) rfl))) Via.refl e21 F_c1 (g := (mkF m 15 #[.val (.ref c1), .val (.ref c1), .val (.ref c1)] [(.ref c1)])) rfl rfl (hb hby d6_15)
    have st24 : ∀ target, Steps p.tables e below (T23.setTop (mkF m 22 #[.val (.ref c1), .val (.ref c1), .val (.ref c1)] [(.ref c1)])) target → Steps p.tables e below (T23.setTop (mkF m 18 #[.val (.ref c1), .val (.ref c1), .val (.ref c1)] [(.ref c2)])) target := by
      intro target kt
      refine XS.ifnullNo X23.here hx rfl (hb hby d6_18) rfl ?_
      show Steps p.tables e below (T23.setTop (mkF m 21 #[.val (.ref c1), .val (.ref c1), .val (.ref c1)] [])) _
      refine XS.aloadN X23.here hx rfl (hb hby d6_21) rfl rfl ?_
      exact kt
    obtain ⟨T25, X25, e25, st25⟩ := getF X23 hx hZ hown (host := "") (Or.inl (hw _ (List.mem_of_getElem? (i := 41) rfl))) Via.refl e23 F_c1 (g := (mkF m 22 #[.val (.ref c1), .val (.ref c1), .val (.ref c1)] [(.ref c1)])) rfl rfl (hb hby d6_22)
    rcases dd2 with rfl | rfl
    · have st26 : ∀ target, Steps p.tables e below (T25.setTop (mkF m 3 #[.val (.ref c1), .val (.ref c2), .val (.ref c1)] [(.ref c2)])) target → Steps p.tables e below (T25.setTop (mkF m 25 #[.val (.ref c1), .val (.ref c1), .val (.ref c1)] [(.ref c2)])) target := by
        intro target kt
        refine XS.astoreN X25.here hx rfl (hb hby d6_25) rfl rfl (l' := #[.val (.ref c1), .val (.ref c2), .val (.ref c1)]) rfl ?_
        refine XS.goto X25.here hx rfl (pc0 := 26) (pc' := 2) rfl (hb hby d6_26) (by decide) (by decide) ?_
        refine XS.aloadN X25.here hx rfl (hb hby d6_2) rfl rfl ?_
        exact kt
      obtain ⟨T27, X27, e27, st27⟩ := instY X25 hx hZ hown (hw _ (List.mem_of_getElem? (i := 48) rfl)) e25 (Ins.self E_c2) (g := (mkF m 3 #[.val (.ref c1), .val (.ref c2), .val (.ref c1)] [(.ref c2)])) rfl rfl (hb hby d6_3)
      have st28 : ∀ target, Steps p.tables e below (T27.setTop (mkF m 10 #[.val (.ref c1), .val (.ref c2), .val (.ref c1)] [(.ref c2)])) target → Steps p.tables e below (T27.setTop (mkF m 6 #[.val (.ref c1), .val (.ref c2), .val (.ref c1)] [(.int (1 : Int32))])) target := by
        intro target kt
        refine XS.ifNo X27.here hx rfl (hb hby d6_6) rfl ((if0 _ _).trans (feq (by decide : ¬ ((1 : Int32) = (0 : Int32)))).1) ?_
        refine XS.aloadN X27.here hx rfl (hb hby d6_9) rfl rfl ?_
        exact kt
      obtain ⟨T29, X29, e29, st29⟩ := castY X27 hx hZ hown (hw _ (List.mem_of_getElem? (i := 48) rfl)) e27 (Ins.self E_c2) (g := (mkF m 10 #[.val (.ref c1), .val (.ref c2), .val (.ref c1)] [(.ref c2)])) rfl rfl (hb hby d6_10)
      have st30 : ∀ target, Steps p.tables e below (T29.setTop (mkF m 15 #[.val (.ref c1), .val (.ref c2), .val (.ref c2)] [(.ref c2)])) target → Steps p.tables e below (T29.setTop (mkF m 13 #[.val (.ref c1), .val (.ref c2), .val (.ref c1)] [(.ref c2)])) target := by
        intro target kt
        refine XS.astoreN X29.here hx rfl (hb hby d6_13) rfl rfl (l' := #[.val (.ref c1), .val (.ref c2), .val (.ref c2)]) rfl ?_
        refine XS.aloadN X29.here hx rfl (hb hby d6_14) rfl rfl ?_
        exact kt
      obtain ⟨T31, X31, e31, st31⟩ := getF X29 hx hZ hown (host := "") (Or.inl (hw _ (List.mem_of_getElem? (i := 41) rfl))) Via.refl e29 F_c2 (g := (mkF m 15 #[.val (.ref c1), .val (.ref c2), .val (.ref c2)] [(.ref c2)])) rfl rfl (hb hby d6_15)
      have st32 : ∀ target, Steps p.tables e below (T31.setTop (mkF m 30 #[.val (.ref c1), .val (.ref c2), .val (.ref c2)] [(.ref c2)])) target → Steps p.tables e below (T31.setTop (mkF m 18 #[.val (.ref c1), .val (.ref c2), .val (.ref c2)] [.null])) target := by
        intro target kt
        show Steps p.tables e below (T31.setTop (mkF m 18 #[.val (.ref c1), .val (.ref c2), .val (.ref c2)] [.null])) _
        refine XS.ifnullYes X31.here hx rfl (pc0 := 18) (pc' := 29) rfl (hb hby d6_18) rfl (by decide) (by decide) ?_
        refine XS.aloadN X31.here hx rfl (hb hby d6_29) rfl rfl ?_
        exact kt
      obtain ⟨fs, hr, hrun, hended, hW, hsame⟩ := X31.leave (v := some (.ref c2)) (fun h => by rw [Bd.returns] at h; cases h)
      refine ⟨_, _, pre0 _ (st18 _ (st19 _ (st20 _ (st21 _ (st22 _ (st23 _ (st24 _ (st25 _ (st26 _ (st27 _ (st28 _ (st29 _ (st30 _ (st31 _ (st32 _ ?_))))))))))))))), hrun, hended, _, _, rfl, ?_, ⟨_, rfl⟩, hW, hsame.mono (by decide) (by decide)⟩
      · show Steps p.tables e below (T31.setTop (mkF m 30 #[.val (.ref c1), .val (.ref c2), .val (.ref c2)] [(.ref c2)])) _
        jvm_step X31.here [X31.here.top, hx, (hb hby d6_30), X31.method', Bd.returns, Value.isRef, FieldType.isReference]
        first | (intro acts; rw [hr _ acts rfl rfl rfl]) | rw [hr _ _ rfl rfl rfl]
        exact Steps.refl _
      · show Q_rmF1 Z c1 c2 at_ (.ref c2) .null h0 n0 _ T31.heap _
        rw [e31]
        exact ⟨by unfold own_f1; rw [if_neg (by nofun), if_neg (fun q => na2 (Value.ref.inj q))]; unfold own_f2; rw [if_pos rfl], N0, rfl⟩
    · have st33 : ∀ target, Steps p.tables e below (T25.setTop (mkF m 3 #[.val (.ref c1), .val (.ref c2), .val (.ref c1)] [(.ref c2)])) target → Steps p.tables e below (T25.setTop (mkF m 25 #[.val (.ref c1), .val (.ref c1), .val (.ref c1)] [(.ref c2)])) target := by
        intro target kt
        refine XS.astoreN X25.here hx rfl (hb hby d6_25) rfl rfl (l' := #[.val (.ref c1), .val (.ref c2), .val (.ref c1)]) rfl ?_
        refine XS.goto X25.here hx rfl (pc0 := 26) (pc' := 2) rfl (hb hby d6_26) (by decide) (by decide) ?_
        refine XS.aloadN X25.here hx rfl (hb hby d6_2) rfl rfl ?_
        exact kt
      obtain ⟨T34, X34, e34, st34⟩ := instY X25 hx hZ hown (hw _ (List.mem_of_getElem? (i := 48) rfl)) e25 (Ins.self E_c2) (g := (mkF m 3 #[.val (.ref c1), .val (.ref c2), .val (.ref c1)] [(.ref c2)])) rfl rfl (hb hby d6_3)
      have st35 : ∀ target, Steps p.tables e below (T34.setTop (mkF m 10 #[.val (.ref c1), .val (.ref c2), .val (.ref c1)] [(.ref c2)])) target → Steps p.tables e below (T34.setTop (mkF m 6 #[.val (.ref c1), .val (.ref c2), .val (.ref c1)] [(.int (1 : Int32))])) target := by
        intro target kt
        refine XS.ifNo X34.here hx rfl (hb hby d6_6) rfl ((if0 _ _).trans (feq (by decide : ¬ ((1 : Int32) = (0 : Int32)))).1) ?_
        refine XS.aloadN X34.here hx rfl (hb hby d6_9) rfl rfl ?_
        exact kt
      obtain ⟨T36, X36, e36, st36⟩ := castY X34 hx hZ hown (hw _ (List.mem_of_getElem? (i := 48) rfl)) e34 (Ins.self E_c2) (g := (mkF m 10 #[.val (.ref c1), .val (.ref c2), .val (.ref c1)] [(.ref c2)])) rfl rfl (hb hby d6_10)
      have st37 : ∀ target, Steps p.tables e below (T36.setTop (mkF m 15 #[.val (.ref c1), .val (.ref c2), .val (.ref c2)] [(.ref c2)])) target → Steps p.tables e below (T36.setTop (mkF m 13 #[.val (.ref c1), .val (.ref c2), .val (.ref c1)] [(.ref c2)])) target := by
        intro target kt
        refine XS.astoreN X36.here hx rfl (hb hby d6_13) rfl rfl (l' := #[.val (.ref c1), .val (.ref c2), .val (.ref c2)]) rfl ?_
        show Steps p.tables e below (T36.setTop (mkF m 14 #[.val (.ref c1), .val (.ref c2), .val (.ref c2)] [])) _
        refine XS.aloadN X36.here hx rfl (hb hby d6_14) rfl rfl ?_
        exact kt
      obtain ⟨T38, X38, e38, st38⟩ := getF X36 hx hZ hown (host := "") (Or.inl (hw _ (List.mem_of_getElem? (i := 41) rfl))) Via.refl e36 F_c2 (g := (mkF m 15 #[.val (.ref c1), .val (.ref c2), .val (.ref c2)] [(.ref c2)])) rfl rfl (hb hby d6_15)
      have st39 : ∀ target, Steps p.tables e below (T38.setTop (mkF m 22 #[.val (.ref c1), .val (.ref c2), .val (.ref c2)] [(.ref c2)])) target → Steps p.tables e below (T38.setTop (mkF m 18 #[.val (.ref c1), .val (.ref c2), .val (.ref c2)] [(.ref at_)])) target := by
        intro target kt
        refine XS.ifnullNo X38.here hx rfl (hb hby d6_18) rfl ?_
        refine XS.aloadN X38.here hx rfl (hb hby d6_21) rfl rfl ?_
        exact kt
      obtain ⟨T40, X40, e40, st40⟩ := getF X38 hx hZ hown (host := "") (Or.inl (hw _ (List.mem_of_getElem? (i := 41) rfl))) Via.refl e38 F_c2 (g := (mkF m 22 #[.val (.ref c1), .val (.ref c2), .val (.ref c2)] [(.ref c2)])) rfl rfl (hb hby d6_22)
      have st41 : ∀ target, Steps p.tables e below (T40.setTop (mkF m 3 #[.val (.ref c1), .val (.ref at_), .val (.ref c2)] [(.ref at_)])) target → Steps p.tables e below (T40.setTop (mkF m 25 #[.val (.ref c1), .val (.ref c2), .val (.ref c2)] [(.ref at_)])) target := by
        intro target kt
        refine XS.astoreN X40.here hx rfl (hb hby d6_25) rfl rfl (l' := #[.val (.ref c1), .val (.ref at_), .val (.ref c2)]) rfl ?_
        refine XS.goto X40.here hx rfl (pc0 := 26) (pc' := 2) rfl (hb hby d6_26) (by decide) (by decide) ?_
        refine XS.aloadN X40.here hx rfl (hb hby d6_2) rfl rfl ?_
        exact kt
      obtain ⟨T42, X42, e42, st42⟩ := instN X40 hx hZ hown (hw _ (List.mem_of_getElem? (i := 48) rfl)) e40 (by rw [hh]; exact Nx) (by rw [hh]; exact E_at_) (g := (mkF m 3 #[.val (.ref c1), .val (.ref at_), .val (.ref c2)] [(.ref at_)])) rfl rfl (hb hby d6_3)
      obtain ⟨fs, hr, hrun, hended, hW, hsame⟩ := X42.leave (v := some (.ref at_)) (fun h => by rw [Bd.returns] at h; cases h)
      refine ⟨_, _, pre0 _ (st18 _ (st19 _ (st20 _ (st21 _ (st22 _ (st23 _ (st24 _ (st25 _ (st33 _ (st34 _ (st35 _ (st36 _ (st37 _ (st38 _ (st39 _ (st40 _ (st41 _ (st42 _ ?_)))))))))))))))))), hrun, hended, _, _, rfl, ?_, ⟨_, rfl⟩, hW, hsame.mono (by decide) (by decide)⟩
      · refine XS.ifYes X42.here hx rfl (pc0 := 6) (pc' := 29) rfl (hb hby d6_6) rfl ((if0 _ _).trans (teq (rfl : (0 : Int32) = (0 : Int32))).1) (by decide) (by decide) ?_
        refine XS.aloadN X42.here hx rfl (hb hby d6_29) rfl rfl ?_
        show Steps p.tables e below (T42.setTop (mkF m 30 #[.val (.ref c1), .val (.ref at_), .val (.ref c2)] [(.ref at_)])) _
        jvm_step X42.here [X42.here.top, hx, (hb hby d6_30), X42.method', Bd.returns, Value.isRef, FieldType.isReference]
        first | (intro acts; rw [hr _ acts rfl rfl rfl]) | rw [hr _ _ rfl rfl rfl]
        exact Steps.refl _
      · show Q_rmF1 Z c1 c2 at_ (.ref c2) (.ref at_) h0 n0 _ T42.heap _
        rw [e42]
        exact ⟨by unfold own_f1; rw [if_neg (by nofun), if_neg (fun q => na2 (Value.ref.inj q))]; unfold own_f2; rw [if_neg (by nofun)], N0, rfl⟩
theorem ef_rmF2 (m : MethodId) (x0 : Addr) : entryFrame m #[(.ref x0)] 3 = mkF m 0 #[.val (.ref x0), .unset, .unset] [] := by first | (simp [entryFrame, mkF, argsToLocals, Value.category]; done) | rfl
def Q_rmF2 (Z : State) (c2 : Addr) (at_ : Addr) (W2 : Value) (h0 : Heap) (n0 : Nat) (v : Option Value) (h : Heap) (L : List Loc) : Prop := v = some (own_f2 W2 c2 at_) ∧ Fr n0 L ∧ h = h0
set_option maxRecDepth 65536 in
set_option maxHeartbeats 40000000 in
theorem rmF2 (l : Launch) (Z : State) (a0 : Array Value) (hw : ∀ d ∈ tables_1, d.before a0 Z = true) (ws : List Jvm.Cond) (c2 : Addr) (at_ : Addr) (W2 : Value) (h0 : Heap) (n0 : Nat) (Z0 : n0 ≤ h0.size) (E_c2 : Exa Z h0 c2 "com/example/nomlog/nomlog/lang/Cell") (E_at_ : Exa Z h0 at_ "com/example/nomlog/nomlog/lang/Atom") (F_c2 : Fld Z h0 c2 "com/example/nomlog/nomlog/lang/Cell" "value" "Lcom/example/nomlog/nomlog/lang/Term;" W2) (dd2 : W2 = .null ∨ W2 = .ref at_) :
    MetFree l (⟨"com/example/nomlog/nomlog/lang/Cell", "follow", "()Lcom/example/nomlog/nomlog/lang/Term;"⟩ : MethodName) (head1 (Jvm.Cond.code (⟨"com/example/nomlog/nomlog/lang/Cell", "follow", "()Lcom/example/nomlog/nomlog/lang/Term;"⟩ : MethodName) prog_49_method_8_code 3 (some (.object "com/example/nomlog/nomlog/lang/Term")) :: ws) ({ frames := 0, cells := 0, slots := 0, locals := 0 } : Room)) (fun a U => a = #[(.ref c2)] ∧ Z.Warmed39 U.vm ∧ U.heap = h0) (fun _ _ _ _ _ => True) (fun _ U o U' => ∃ v L, o = .returned v ∧ Q_rmF2 Z c2 at_ W2 h0 n0 v U'.heap L ∧ FrameEnd U o U' L ({ frames := 0, cells := 0, slots := 0, locals := 0 } : Room).cells ({ frames := 0, cells := 0, slots := 0, locals := 0 } : Room).slots) := by
  refine MetFree.of_bodySF (plainFor_of_name pn_1) hisR ?_
  intro p e s m args below meth c s₁ Bd hml0 hP hK
  obtain ⟨rfl, hZ, hh⟩ := hP
  have hx := Bd.exec
  have hby := Bd.bytes
  have hml : c.maxLocals = 3 := hml0
  have hown : s.vm.findClass "com/example/nomlog/nomlog/lang/Cell" = some m.cls := findClass_of_methodNamed Bd.named
  have hnm := (name_of_methodNamed Bd.named Bd.method).1
  have X0 : Stand p l e ({ frames := 0, cells := 0, slots := 0, locals := 0 } : Room) s m #[(.ref c2)] below meth c s₁ [] 0 0 := Stand.of_body Bd
  have e0 : s₁.heap = h0 := by rw [← hh, Bd.state]; rfl
  have N0 := Fr.nil n0
  have pre0 : ∀ t, Steps p.tables e below (s₁.setTop (mkF m 0 #[.val (.ref c2), .unset, .unset] [])) t → Steps p.tables e below (s₁.setTop (entryFrame m #[(.ref c2)] 3)) t := fun t k => castTop (ef_rmF2 m c2) k
  have Nx : Ins Z h0 at_ "com/example/nomlog/nomlog/lang/Cell" false := own_noins E_at_ (hw _ (List.mem_of_getElem? (i := 54) rfl)) (hw _ (List.mem_of_getElem? (i := 55) rfl)) (hw _ (List.mem_of_getElem? (i := 56) rfl)) (hw _ (List.mem_of_getElem? (i := 2) rfl)) (by decide) (by decide) (by decide)
  rcases dd2 with rfl | rfl
  · have st1 : ∀ target, Steps p.tables e below (s₁.setTop (mkF m 3 #[.val (.ref c2), .val (.ref c2), .unset] [(.ref c2)])) target → Steps p.tables e below (s₁.setTop (mkF m 0 #[.val (.ref c2), .unset, .unset] [])) target := by
      intro target kt
      refine XS.aloadN X0.here hx rfl (hb hby d6_0) rfl rfl ?_
      refine XS.astoreN X0.here hx rfl (hb hby d6_1) rfl rfl (l' := #[.val (.ref c2), .val (.ref c2), .unset]) rfl ?_
      refine XS.aloadN X0.here hx rfl (hb hby d6_2) rfl rfl ?_
      exact kt
    obtain ⟨T2, X2, e2, st2⟩ := instY X0 hx hZ hown (hw _ (List.mem_of_getElem? (i := 48) rfl)) e0 (Ins.self E_c2) (g := (mkF m 3 #[.val (.ref c2), .val (.ref c2), .unset] [(.ref c2)])) rfl rfl (hb hby d6_3)
    have st3 : ∀ target, Steps p.tables e below (T2.setTop (mkF m 10 #[.val (.ref c2), .val (.ref c2), .unset] [(.ref c2)])) target → Steps p.tables e below (T2.setTop (mkF m 6 #[.val (.ref c2), .val (.ref c2), .unset] [(.int (1 : Int32))])) target := by
      intro target kt
      refine XS.ifNo X2.here hx rfl (hb hby d6_6) rfl ((if0 _ _).trans (feq (by decide : ¬ ((1 : Int32) = (0 : Int32)))).1) ?_
      refine XS.aloadN X2.here hx rfl (hb hby d6_9) rfl rfl ?_
      exact kt
    obtain ⟨T4, X4, e4, st4⟩ := castY X2 hx hZ hown (hw _ (List.mem_of_getElem? (i := 48) rfl)) e2 (Ins.self E_c2) (g := (mkF m 10 #[.val (.ref c2), .val (.ref c2), .unset] [(.ref c2)])) rfl rfl (hb hby d6_10)
    have st5 : ∀ target, Steps p.tables e below (T4.setTop (mkF m 15 #[.val (.ref c2), .val (.ref c2), .val (.ref c2)] [(.ref c2)])) target → Steps p.tables e below (T4.setTop (mkF m 13 #[.val (.ref c2), .val (.ref c2), .unset] [(.ref c2)])) target := by
      intro target kt
      refine XS.astoreN X4.here hx rfl (hb hby d6_13) rfl rfl (l' := #[.val (.ref c2), .val (.ref c2), .val (.ref c2)]) rfl ?_
      refine XS.aloadN X4.here hx rfl (hb hby d6_14) rfl rfl ?_
      exact kt
    obtain ⟨T6, X6, e6, st6⟩ := getF X4 hx hZ hown (host := "") (Or.inl (hw _ (List.mem_of_getElem? (i := 41) rfl))) Via.refl e4 F_c2 (g := (mkF m 15 #[.val (.ref c2), .val (.ref c2), .val (.ref c2)] [(.ref c2)])) rfl rfl (hb hby d6_15)
    have st7 : ∀ target, Steps p.tables e below (T6.setTop (mkF m 30 #[.val (.ref c2), .val (.ref c2), .val (.ref c2)] [(.ref c2)])) target → Steps p.tables e below (T6.setTop (mkF m 18 #[.val (.ref c2), .val (.ref c2), .val (.ref c2)] [.null])) target := by
      intro target kt
      show Steps p.tables e below (T6.setTop (mkF m 18 #[.val (.ref c2), .val (.ref c2), .val (.ref c2)] [.null])) _
      refine XS.ifnullYes X6.here hx rfl (pc0 := 18) (pc' := 29) rfl (hb hby d6_18) rfl (by decide) (by decide) ?_
      refine XS.aloadN X6.here hx rfl (hb hby d6_29) rfl rfl ?_
      exact kt
    obtain ⟨fs, hr, hrun, hended, hW, hsame⟩ := X6.leave (v := some (.ref c2)) (fun h => by rw [Bd.returns] at h; cases h)
    refine ⟨_, _, pre0 _ (st1 _ (st2 _ (st3 _ (st4 _ (st5 _ (st6 _ (st7 _ ?_))))))), hrun, hended, _, _, rfl, ?_, ⟨_, rfl⟩, hW, hsame.mono (by decide) (by decide)⟩
    · show Steps p.tables e below (T6.setTop (mkF m 30 #[.val (.ref c2), .val (.ref c2), .val (.ref c2)] [(.ref c2)])) _
      jvm_step X6.here [X6.here.top, hx, (hb hby d6_30), X6.method', Bd.returns, Value.isRef, FieldType.isReference]
      first | (intro acts; rw [hr _ acts rfl rfl rfl]) | rw [hr _ _ rfl rfl rfl]
      exact Steps.refl _
    · show Q_rmF2 Z c2 at_ .null h0 n0 _ T6.heap _
      rw [e6]
      exact ⟨by unfold own_f2; rw [if_pos rfl], N0, rfl⟩
  · have st8 : ∀ target, Steps p.tables e below (s₁.setTop (mkF m 3 #[.val (.ref c2), .val (.ref c2), .unset] [(.ref c2)])) target → Steps p.tables e below (s₁.setTop (mkF m 0 #[.val (.ref c2), .unset, .unset] [])) target := by
      intro target kt
      refine XS.aloadN X0.here hx rfl (hb hby d6_0) rfl rfl ?_
      refine XS.astoreN X0.here hx rfl (hb hby d6_1) rfl rfl (l' := #[.val (.ref c2), .val (.ref c2), .unset]) rfl ?_
      refine XS.aloadN X0.here hx rfl (hb hby d6_2) rfl rfl ?_
      exact kt
    obtain ⟨T9, X9, e9, st9⟩ := instY X0 hx hZ hown (hw _ (List.mem_of_getElem? (i := 48) rfl)) e0 (Ins.self E_c2) (g := (mkF m 3 #[.val (.ref c2), .val (.ref c2), .unset] [(.ref c2)])) rfl rfl (hb hby d6_3)
    have st10 : ∀ target, Steps p.tables e below (T9.setTop (mkF m 10 #[.val (.ref c2), .val (.ref c2), .unset] [(.ref c2)])) target → Steps p.tables e below (T9.setTop (mkF m 6 #[.val (.ref c2), .val (.ref c2), .unset] [(.int (1 : Int32))])) target := by
      intro target kt
      refine XS.ifNo X9.here hx rfl (hb hby d6_6) rfl ((if0 _ _).trans (feq (by decide : ¬ ((1 : Int32) = (0 : Int32)))).1) ?_
      refine XS.aloadN X9.here hx rfl (hb hby d6_9) rfl rfl ?_
      exact kt
    obtain ⟨T11, X11, e11, st11⟩ := castY X9 hx hZ hown (hw _ (List.mem_of_getElem? (i := 48) rfl)) e9 (Ins.self E_c2) (g := (mkF m 10 #[.val (.ref c2), .val (.ref c2), .unset] [(.ref c2)])) rfl rfl (hb hby d6_10)
    have st12 : ∀ target, Steps p.tables e below (T11.setTop (mkF m 15 #[.val (.ref c2), .val (.ref c2), .val (.ref c2)] [(.ref c2)])) target → Steps p.tables e below (T11.setTop (mkF m 13 #[.val (.ref c2), .val (.ref c2), .unset] [(.ref c2)])) target := by
      intro target kt
      refine XS.astoreN X11.here hx rfl (hb hby d6_13) rfl rfl (l' := #[.val (.ref c2), .val (.ref c2), .val (.ref c2)]) rfl ?_
      show Steps p.tables e below (T11.setTop (mkF m 14 #[.val (.ref c2), .val (.ref c2), .val (.ref c2)] [])) _
      refine XS.aloadN X11.here hx rfl (hb hby d6_14) rfl rfl ?_
      exact kt
    obtain ⟨T13, X13, e13, st13⟩ := getF X11 hx hZ hown (host := "") (Or.inl (hw _ (List.mem_of_getElem? (i := 41) rfl))) Via.refl e11 F_c2 (g := (mkF m 15 #[.val (.ref c2), .val (.ref c2), .val (.ref c2)] [(.ref c2)])) rfl rfl (hb hby d6_15)
    have st14 : ∀ target, Steps p.tables e below (T13.setTop (mkF m 22 #[.val (.ref c2), .val (.ref c2), .val (.ref c2)] [(.ref c2)])) target → Steps p.tables e below (T13.setTop (mkF m 18 #[.val (.ref c2), .val (.ref c2), .val (.ref c2)] [(.ref at_)])) target := by
      intro target kt
      refine XS.ifnullNo X13.here hx rfl (hb hby d6_18) rfl ?_
      refine XS.aloadN X13.here hx rfl (hb hby d6_21) rfl rfl ?_
      exact kt
    obtain ⟨T15, X15, e15, st15⟩ := getF X13 hx hZ hown (host := "") (Or.inl (hw _ (List.mem_of_getElem? (i := 41) rfl))) Via.refl e13 F_c2 (g := (mkF m 22 #[.val (.ref c2), .val (.ref c2), .val (.ref c2)] [(.ref c2)])) rfl rfl (hb hby d6_22)
    have st16 : ∀ target, Steps p.tables e below (T15.setTop (mkF m 3 #[.val (.ref c2), .val (.ref at_), .val (.ref c2)] [(.ref at_)])) target → Steps p.tables e below (T15.setTop (mkF m 25 #[.val (.ref c2), .val (.ref c2), .val (.ref c2)] [(.ref at_)])) target := by
      intro target kt
      refine XS.astoreN X15.here hx rfl (hb hby d6_25) rfl rfl (l' := #[.val (.ref c2), .val (.ref at_), .val (.ref c2)]) rfl ?_
      refine XS.goto X15.here hx rfl (pc0 := 26) (pc' := 2) rfl (hb hby d6_26) (by decide) (by decide) ?_
      refine XS.aloadN X15.here hx rfl (hb hby d6_2) rfl rfl ?_
      exact kt
    obtain ⟨T17, X17, e17, st17⟩ := instN X15 hx hZ hown (hw _ (List.mem_of_getElem? (i := 48) rfl)) e15 (by rw [hh]; exact Nx) (by rw [hh]; exact E_at_) (g := (mkF m 3 #[.val (.ref c2), .val (.ref at_), .val (.ref c2)] [(.ref at_)])) rfl rfl (hb hby d6_3)
    obtain ⟨fs, hr, hrun, hended, hW, hsame⟩ := X17.leave (v := some (.ref at_)) (fun h => by rw [Bd.returns] at h; cases h)
    refine ⟨_, _, pre0 _ (st8 _ (st9 _ (st10 _ (st11 _ (st12 _ (st13 _ (st14 _ (st15 _ (st16 _ (st17 _ ?_)))))))))), hrun, hended, _, _, rfl, ?_, ⟨_, rfl⟩, hW, hsame.mono (by decide) (by decide)⟩
    · refine XS.ifYes X17.here hx rfl (pc0 := 6) (pc' := 29) rfl (hb hby d6_6) rfl ((if0 _ _).trans (teq (rfl : (0 : Int32) = (0 : Int32))).1) (by decide) (by decide) ?_
      refine XS.aloadN X17.here hx rfl (hb hby d6_29) rfl rfl ?_
      show Steps p.tables e below (T17.setTop (mkF m 30 #[.val (.ref c2), .val (.ref at_), .val (.ref c2)] [(.ref at_)])) _
      jvm_step X17.here [X17.here.top, hx, (hb hby d6_30), X17.method', Bd.returns, Value.isRef, FieldType.isReference]
      first | (intro acts; rw [hr _ acts rfl rfl rfl]) | rw [hr _ _ rfl rfl rfl]
      exact Steps.refl _
    · show Q_rmF2 Z c2 at_ (.ref at_) h0 n0 _ T17.heap _
      rw [e17]
      exact ⟨by unfold own_f2; rw [if_neg (by nofun)], N0, rfl⟩
theorem pn_3 : plainName "com/example/nomlog/nomlog/lang/CellFollowPinLaw" = true := by first | (simp [plainName, overriddenIn]; done) | decide +kernel
theorem ef_rm0 (m : MethodId) (x0 : Int64) (x1 : Int64) (x2 : Int64) (x3 : Int32) (x4 : Int32) (x5 : Int32) : entryFrame m #[(.long x0), (.long x1), (.long x2), (.int x3), (.int x4), (.int x5)] maxLocals = mkF m 0 #[.val (.long x0), .second, .val (.long x1), .second, .val (.long x2), .second, .val (.int x3), .val (.int x4), .val (.int x5), .unset, .unset, .unset, .unset, .unset, .unset, .unset, .unset, .unset, .unset, .unset] [] := by first | (simp [entryFrame, mkF, argsToLocals, Value.category, maxLocals]; done) | rfl
def Q_rm0 (Z : State) (q0 : Int64) (q1 : Int64) (q2 : Int64) (p3 : Int32) (p4 : Int32) (p5 : Int32) (h0 : Heap) (n0 : Nat) (v : Option Value) (h : Heap) (L : List Loc) : Prop := v = some (.int 1) ∧ Fr n0 L
set_option maxRecDepth 65536 in
set_option maxHeartbeats 40000000 in
theorem rm0 (l : Launch) (Z : State) (a0 : Array Value) (hw : ∀ d ∈ tables_1, d.before a0 Z = true) (ws : List Jvm.Cond) (q0 : Int64) (q1 : Int64) (q2 : Int64) (p3 : Int32) (p4 : Int32) (p5 : Int32) (h0 : Heap) (n0 : Nat) (Z0 : n0 ≤ h0.size) :
    MetFree l x (head1 (Jvm.Cond.code x code maxLocals ret :: ws) room_1) (fun a U => a = #[(.long q0), (.long q1), (.long q2), (.int p3), (.int p4), (.int p5)] ∧ Z.Warmed39 U.vm ∧ U.heap = h0) (fun _ _ _ _ _ => True) (fun _ U o U' => ∃ v L, o = .returned v ∧ Q_rm0 Z q0 q1 q2 p3 p4 p5 h0 n0 v U'.heap L ∧ ReturnedEndW U o U' L room_1.cells room_1.slots) := by
  refine MetFree.of_bodySF (plainFor_of_name pn_3) hisR ?_
  intro p e s m args below meth c s₁ Bd hml0 hP hK
  obtain ⟨rfl, hZ, hh⟩ := hP
  have hx := Bd.exec
  have hby := Bd.bytes
  have hml : c.maxLocals = 20 := hml0
  have hown : s.vm.findClass "com/example/nomlog/nomlog/lang/CellFollowPinLaw" = some m.cls := findClass_of_methodNamed Bd.named
  have hnm := (name_of_methodNamed Bd.named Bd.method).1
  have X0 : Stand p l e room_1 s m #[(.long q0), (.long q1), (.long q2), (.int p3), (.int p4), (.int p5)] below meth c s₁ [] 0 0 := Stand.of_body Bd
  have e0 : s₁.heap = h0 := by rw [← hh, Bd.state]; rfl
  have N0 := Fr.nil n0
  have pre0 : ∀ t, Steps p.tables e below (s₁.setTop (mkF m 0 #[.val (.long q0), .second, .val (.long q1), .second, .val (.long q2), .second, .val (.int p3), .val (.int p4), .val (.int p5), .unset, .unset, .unset, .unset, .unset, .unset, .unset, .unset, .unset, .unset, .unset] [])) t → Steps p.tables e below (s₁.setTop (entryFrame m #[(.long q0), (.long q1), (.long q2), (.int p3), (.int p4), (.int p5)] maxLocals)) t := fun t k => castTop (ef_rm0 m q0 q1 q2 p3 p4 p5) k
  have st1 : ∀ target, Steps p.tables e below (s₁.setTop (mkF m 6 #[.val (.long q0), .second, .val (.long q1), .second, .val (.long q2), .second, .val (.int p3), .val (.int p4), .val (.int p5), .val (.int (p3 &&& (3 : Int32))), .unset, .unset, .unset, .unset, .unset, .unset, .unset, .unset, .unset, .unset] [])) target → Steps p.tables e below (s₁.setTop (mkF m 0 #[.val (.long q0), .second, .val (.long q1), .second, .val (.long q2), .second, .val (.int p3), .val (.int p4), .val (.int p5), .unset, .unset, .unset, .unset, .unset, .unset, .unset, .unset, .unset, .unset, .unset] [])) target := by
    intro target kt
    refine XS.iload X0.here hx rfl (hb hby at_0) rfl ?_
    refine XS.iconst X0.here hx rfl (hb hby at_2) ?_
    refine XS.iand X0.here hx rfl (hb hby at_3) rfl ?_
    refine XS.istore X0.here hx rfl (hb hby at_4) rfl (l' := #[.val (.long q0), .second, .val (.long q1), .second, .val (.long q2), .second, .val (.int p3), .val (.int p4), .val (.int p5), .val (.int (p3 &&& (3 : Int32))), .unset, .unset, .unset, .unset, .unset, .unset, .unset, .unset, .unset, .unset]) rfl ?_
    exact kt
  obtain ⟨bb, hbb⟩ : ∃ z : Int32, z = (p3 &&& (3 : Int32)) := ⟨_, rfl⟩
  rw [← hbb] at st1
  have hb4 := hbb ▸ own_b4 p3
  obtain ⟨ae, hae, st2⟩ : ∃ (ae : Int32), ae = (if (p3 &&& (4 : Int32)) = (0 : Int32) then (0 : Int32) else (1 : Int32)) ∧ ∀ target, Steps p.tables e below (s₁.setTop (mkF m 18 #[.val (.long q0), .second, .val (.long q1), .second, .val (.long q2), .second, .val (.int p3), .val (.int p4), .val (.int p5), .val (.int bb), .unset, .unset, .unset, .unset, .unset, .unset, .unset, .unset, .unset, .unset] [(.int ae)])) target → Steps p.tables e below (s₁.setTop (mkF m 6 #[.val (.long q0), .second, .val (.long q1), .second, .val (.long q2), .second, .val (.int p3), .val (.int p4), .val (.int p5), .val (.int bb), .unset, .unset, .unset, .unset, .unset, .unset, .unset, .unset, .unset, .unset] [])) target := by
    refine ⟨_, rfl, fun target kt => ?_⟩
    refine XS.iload X0.here hx rfl (hb hby at_6) rfl ?_
    refine XS.iconst X0.here hx rfl (hb hby at_8) ?_
    refine XS.iand X0.here hx rfl (hb hby at_9) rfl ?_
    by_cases hc10 : (p3 &&& (4 : Int32)) = (0 : Int32)
    · rw [if_pos hc10] at kt
      show Steps p.tables e below (s₁.setTop (mkF m 10 #[.val (.long q0), .second, .val (.long q1), .second, .val (.long q2), .second, .val (.int p3), .val (.int p4), .val (.int p5), .val (.int bb), .unset, .unset, .unset, .unset, .unset, .unset, .unset, .unset, .unset, .unset] [(.int (p3 &&& (4 : Int32)))])) _
      refine XS.ifYes X0.here hx rfl (pc0 := 10) (pc' := 17) rfl (hb hby at_10) rfl ((if0 _ _).trans (teq hc10).1) (by decide) (by decide) ?_
      refine XS.iconst X0.here hx rfl (hb hby at_17) ?_
      exact kt
    · rw [if_neg hc10] at kt
      refine XS.ifNo X0.here hx rfl (hb hby at_10) rfl ((if0 _ _).trans (feq hc10).1) ?_
      refine XS.iconst X0.here hx rfl (hb hby at_13) ?_
      refine XS.goto X0.here hx rfl (pc0 := 14) (pc' := 18) rfl (hb hby at_14) (by decide) (by decide) ?_
      exact kt
  have ha2 : ae = 0 ∨ ae = 1 := by rw [hae]; split <;> simp
  have st3 : ∀ target, Steps p.tables e below (s₁.setTop (mkF m 26 #[.val (.long q0), .second, .val (.long q1), .second, .val (.long q2), .second, .val (.int p3), .val (.int p4), .val (.int p5), .val (.int bb), .val (.int ae), .val (.int (p4 &&& (3 : Int32))), .unset, .unset, .unset, .unset, .unset, .unset, .unset, .unset] [])) target → Steps p.tables e below (s₁.setTop (mkF m 18 #[.val (.long q0), .second, .val (.long q1), .second, .val (.long q2), .second, .val (.int p3), .val (.int p4), .val (.int p5), .val (.int bb), .unset, .unset, .unset, .unset, .unset, .unset, .unset, .unset, .unset, .unset] [(.int ae)])) target := by
    intro target kt
    refine XS.istore X0.here hx rfl (hb hby at_18) rfl (l' := #[.val (.long q0), .second, .val (.long q1), .second, .val (.long q2), .second, .val (.int p3), .val (.int p4), .val (.int p5), .val (.int bb), .val (.int ae), .unset, .unset, .unset, .unset, .unset, .unset, .unset, .unset, .unset]) rfl ?_
    refine XS.iload X0.here hx rfl (hb hby at_20) rfl ?_
    refine XS.iconst X0.here hx rfl (hb hby at_22) ?_
    show Steps p.tables e below (s₁.setTop (mkF m 23 #[.val (.long q0), .second, .val (.long q1), .second, .val (.long q2), .second, .val (.int p3), .val (.int p4), .val (.int p5), .val (.int bb), .val (.int ae), .unset, .unset, .unset, .unset, .unset, .unset, .unset, .unset, .unset] [(.int (3 : Int32)), (.int p4)])) _
    refine XS.iand X0.here hx rfl (hb hby at_23) rfl ?_
    refine XS.istore X0.here hx rfl (hb hby at_24) rfl (l' := #[.val (.long q0), .second, .val (.long q1), .second, .val (.long q2), .second, .val (.int p3), .val (.int p4), .val (.int p5), .val (.int bb), .val (.int ae), .val (.int (p4 &&& (3 : Int32))), .unset, .unset, .unset, .unset, .unset, .unset, .unset, .unset]) rfl ?_
    exact kt
  obtain ⟨u, hu⟩ : ∃ z : Int32, z = (p4 &&& (3 : Int32)) := ⟨_, rfl⟩
  rw [← hu] at st3
  have hu4 := hu ▸ own_b4 p4
  have st4 : ∀ target, Steps p.tables e below (s₁.setTop (mkF m 35 #[.val (.long q0), .second, .val (.long q1), .second, .val (.long q2), .second, .val (.int p3), .val (.int p4), .val (.int p5), .val (.int bb), .val (.int ae), .val (.int u), .val (.int ((p5 &&& (2147483647 : Int32)) % (3 : Int32))), .unset, .unset, .unset, .unset, .unset, .unset, .unset] [])) target → Steps p.tables e below (s₁.setTop (mkF m 26 #[.val (.long q0), .second, .val (.long q1), .second, .val (.long q2), .second, .val (.int p3), .val (.int p4), .val (.int p5), .val (.int bb), .val (.int ae), .val (.int u), .unset, .unset, .unset, .unset, .unset, .unset, .unset, .unset] [])) target := by
    intro target kt
    refine XS.iload X0.here hx rfl (hb hby at_26) rfl ?_
    refine X0.ldcInt hx hown (mvT hZ (hw _ (List.mem_of_getElem? (i := 0) rfl))) (g := (mkF m 28 #[.val (.long q0), .second, .val (.long q1), .second, .val (.long q2), .second, .val (.int p3), .val (.int p4), .val (.int p5), .val (.int bb), .val (.int ae), .val (.int u), .unset, .unset, .unset, .unset, .unset, .unset, .unset, .unset] [(.int p5)])) rfl (hb hby at_28) _ ?_
    refine XS.iand X0.here hx rfl (hb hby at_30) rfl ?_
    refine XS.iconst X0.here hx rfl (hb hby at_31) ?_
    refine iremM (g := (mkF m 32 #[.val (.long q0), .second, .val (.long q1), .second, .val (.long q2), .second, .val (.int p3), .val (.int p4), .val (.int p5), .val (.int bb), .val (.int ae), .val (.int u), .unset, .unset, .unset, .unset, .unset, .unset, .unset, .unset] [(.int (3 : Int32)), (.int (p5 &&& (2147483647 : Int32)))])) X0 hx rfl (hb hby at_32) rfl (by decide) ?_
    refine XS.istore X0.here hx rfl (hb hby at_33) rfl (l' := #[.val (.long q0), .second, .val (.long q1), .second, .val (.long q2), .second, .val (.int p3), .val (.int p4), .val (.int p5), .val (.int bb), .val (.int ae), .val (.int u), .val (.int ((p5 &&& (2147483647 : Int32)) % (3 : Int32))), .unset, .unset, .unset, .unset, .unset, .unset, .unset]) rfl ?_
    exact kt
  obtain ⟨sx, hsx⟩ : ∃ z : Int32, z = ((p5 &&& (2147483647 : Int32)) % (3 : Int32)) := ⟨_, rfl⟩
  rw [← hsx] at st4
  have hs3 := hsx ▸ own_s3 p5
  clear hbb hae hu hsx
  obtain ⟨T5, h5, X5, e5, E5, A5, D5, -, st5⟩ := newO X0 hx hZ hown (hw _ (List.mem_of_getElem? (i := 1) rfl)) (hw _ (List.mem_of_getElem? (i := 2) rfl)) (hw _ (List.mem_of_getElem? (i := 3) rfl)) e0 (g := (mkF m 35 #[.val (.long q0), .second, .val (.long q1), .second, .val (.long q2), .second, .val (.int p3), .val (.int p4), .val (.int p5), .val (.int bb), .val (.int ae), .val (.int u), .val (.int sx), .unset, .unset, .unset, .unset, .unset, .unset, .unset] [])) rfl (hb hby at_35) (by decide) (by decide)
  obtain ⟨c0, g5⟩ : ∃ z, z = h0.size := ⟨_, rfl⟩
  rw [← g5] at A5 D5 st5
  have g_c0 : n0 ≤ c0 := Nat.le_trans Z0 (Nat.le_of_eq g5.symm)
  have Z_5 : n0 ≤ h5.size := Nat.le_trans Z0 E5.1
  have E_c0 : Exa Z h5 c0 "com/example/nomlog/nomlog/lang/Cell" := A5
  have F_serial_c0 : Fld Z h5 c0 "com/example/nomlog/nomlog/lang/Cell" "serial" "J" (.long (0 : Int64)) := D5 (Or.inr (hw _ (List.mem_of_getElem? (i := 16) rfl))) (ty := .long) (by decide)
  have F_value_c0 : Fld Z h5 c0 "com/example/nomlog/nomlog/lang/Cell" "value" "Lcom/example/nomlog/nomlog/lang/Term;" .null := D5 (Or.inl (hw _ (List.mem_of_getElem? (i := 42) rfl))) (ty := (.object "com/example/nomlog/nomlog/lang/Term")) (by decide)
  have st6 : ∀ target, Steps p.tables e below (T5.setTop (mkF m 40 #[.val (.long q0), .second, .val (.long q1), .second, .val (.long q2), .second, .val (.int p3), .val (.int p4), .val (.int p5), .val (.int bb), .val (.int ae), .val (.int u), .val (.int sx), .unset, .unset, .unset, .unset, .unset, .unset, .unset] [(.long q0), (.ref c0), (.ref c0)])) target → Steps p.tables e below (T5.setTop (mkF m 38 #[.val (.long q0), .second, .val (.long q1), .second, .val (.long q2), .second, .val (.int p3), .val (.int p4), .val (.int p5), .val (.int bb), .val (.int ae), .val (.int u), .val (.int sx), .unset, .unset, .unset, .unset, .unset, .unset, .unset] [(.ref c0)])) target := by
    intro target kt
    show Steps p.tables e below (T5.setTop (mkF m 38 #[.val (.long q0), .second, .val (.long q1), .second, .val (.long q2), .second, .val (.int p3), .val (.int p4), .val (.int p5), .val (.int bb), .val (.int ae), .val (.int u), .val (.int sx), .unset, .unset, .unset, .unset, .unset, .unset, .unset] [(.ref c0)])) _
    refine XS.dup X5.here hx rfl (hb hby at_38) rfl rfl ?_
    refine XS.lloadN X5.here hx rfl (hb hby at_39) rfl ?_
    exact kt
  obtain ⟨_, _, ⟨T7, L7, k7, n7⟩, -, X7, ⟨Lc7, hQ7, l7, y7, z7⟩, st7⟩ := X5.specialBack hx (y := (⟨"com/example/nomlog/nomlog/lang/Cell", "<init>", "(J)V"⟩ : MethodName)) rfl hown (mvT hZ (hw _ (List.mem_of_getElem? (i := 4) rfl))) (mvT hZ (hw _ (List.mem_of_getElem? (i := 5) rfl))) (mvT hZ (hw _ (List.mem_of_getElem? (i := 6) rfl))) (by decide) (backOf (W := 1) (rm1 l Z a0 hw [] c0 q0  h5 n0 Z_5 F_serial_c0 F_value_c0 E_c0 g_c0) hZ (hw _ (List.mem_of_getElem? (i := 6) rfl)) (hw _ (List.mem_of_getElem? (i := 3) rfl)) (by decide) (by decide)) (g := (mkF m 40 #[.val (.long q0), .second, .val (.long q1), .second, .val (.long q2), .second, .val (.int p3), .val (.int p4), .val (.int p5), .val (.int bb), .val (.int ae), .val (.int u), .val (.int sx), .unset, .unset, .unset, .unset, .unset, .unset, .unset] [(.long q0), (.ref c0), (.ref c0)])) rfl (by rw [hml]; rfl) (Steps.refl _) (a := c0) (argsL := [(.long q0)]) (rest := [(.ref c0)]) (lenOf pd_0 rfl) rfl (by show 2 * 0 + _ ≤ _; exact Nat.le_of_eq rfl) (hb hby at_40) (fun _ _ => ⟨rfl, e5, (by decide : 1 + 0 ≤ _), (by decide : 2 + 0 ≤ _)⟩)
  dsimp only [Pt.U, Pt.locs, Pt.cells, Pt.slots] at X7 l7 y7 z7 st7 hQ7
  subst l7 y7 z7
  obtain ⟨rfl, Nq7, K7, E_c0_i, F_serial_c0_i, F_value_c0_i⟩ := hQ7
  have N7 := Fr.app N0 Nq7
  have E_c0_7 := E_c0.keep K7
  have Z_7 : n0 ≤ T7.heap.size := Nat.le_trans Z_5 K7.1
  have st8 : ∀ target, Steps p.tables e below (T7.setTop (mkF m 45 #[.val (.long q0), .second, .val (.long q1), .second, .val (.long q2), .second, .val (.int p3), .val (.int p4), .val (.int p5), .val (.int bb), .val (.int ae), .val (.int u), .val (.int sx), .val (.ref c0), .unset, .unset, .unset, .unset, .unset, .unset] [])) target → Steps p.tables e below (T7.setTop (mkF m 43 #[.val (.long q0), .second, .val (.long q1), .second, .val (.long q2), .second, .val (.int p3), .val (.int p4), .val (.int p5), .val (.int bb), .val (.int ae), .val (.int u), .val (.int sx), .unset, .unset, .unset, .unset, .unset, .unset, .unset] [(.ref c0)])) target := by
    intro target kt
    refine XS.astore X7.here hx rfl (hb hby at_43) rfl rfl (l' := #[.val (.long q0), .second, .val (.long q1), .second, .val (.long q2), .second, .val (.int p3), .val (.int p4), .val (.int p5), .val (.int bb), .val (.int ae), .val (.int u), .val (.int sx), .val (.ref c0), .unset, .unset, .unset, .unset, .unset, .unset]) rfl ?_
    exact kt
  obtain ⟨T9, h9, X9, e9, E9, A9, D9, -, st9⟩ := newO X7 hx hZ hown (hw _ (List.mem_of_getElem? (i := 1) rfl)) (hw _ (List.mem_of_getElem? (i := 2) rfl)) (hw _ (List.mem_of_getElem? (i := 3) rfl)) rfl (g := (mkF m 45 #[.val (.long q0), .second, .val (.long q1), .second, .val (.long q2), .second, .val (.int p3), .val (.int p4), .val (.int p5), .val (.int bb), .val (.int ae), .val (.int u), .val (.int sx), .val (.ref c0), .unset, .unset, .unset, .unset, .unset, .unset] [])) rfl (hb hby at_45) (by decide) (by decide)
  obtain ⟨c1, g9⟩ : ∃ z, z = T7.heap.size := ⟨_, rfl⟩
  rw [← g9] at A9 D9 st9
  have g_c1 : n0 ≤ c1 := Nat.le_trans Z_7 (Nat.le_of_eq g9.symm)
  have ne_c0_c1 : c0 ≠ c1 := Nat.ne_of_lt (Nat.lt_of_lt_of_le E_c0_i.lt (Nat.le_of_eq g9.symm))
  have E_c0_i_9 := E_c0_i.ext E9
  have F_serial_c0_i_9 := F_serial_c0_i.ext E9
  have F_value_c0_i_9 := F_value_c0_i.ext E9
  have Z_9 : n0 ≤ h9.size := Nat.le_trans Z_7 E9.1
  have E_c1 : Exa Z h9 c1 "com/example/nomlog/nomlog/lang/Cell" := A9
  have F_serial_c1 : Fld Z h9 c1 "com/example/nomlog/nomlog/lang/Cell" "serial" "J" (.long (0 : Int64)) := D9 (Or.inr (hw _ (List.mem_of_getElem? (i := 16) rfl))) (ty := .long) (by decide)
  have F_value_c1 : Fld Z h9 c1 "com/example/nomlog/nomlog/lang/Cell" "value" "Lcom/example/nomlog/nomlog/lang/Term;" .null := D9 (Or.inl (hw _ (List.mem_of_getElem? (i := 42) rfl))) (ty := (.object "com/example/nomlog/nomlog/lang/Term")) (by decide)
  have st10 : ∀ target, Steps p.tables e below (T9.setTop (mkF m 50 #[.val (.long q0), .second, .val (.long q1), .second, .val (.long q2), .second, .val (.int p3), .val (.int p4), .val (.int p5), .val (.int bb), .val (.int ae), .val (.int u), .val (.int sx), .val (.ref c0), .unset, .unset, .unset, .unset, .unset, .unset] [(.long q1), (.ref c1), (.ref c1)])) target → Steps p.tables e below (T9.setTop (mkF m 48 #[.val (.long q0), .second, .val (.long q1), .second, .val (.long q2), .second, .val (.int p3), .val (.int p4), .val (.int p5), .val (.int bb), .val (.int ae), .val (.int u), .val (.int sx), .val (.ref c0), .unset, .unset, .unset, .unset, .unset, .unset] [(.ref c1)])) target := by
    intro target kt
    refine XS.dup X9.here hx rfl (hb hby at_48) rfl rfl ?_
    refine XS.lloadN X9.here hx rfl (hb hby at_49) rfl ?_
    exact kt
  obtain ⟨_, _, ⟨T11, L11, k11, n11⟩, -, X11, ⟨Lc11, hQ11, l11, y11, z11⟩, st11⟩ := X9.specialBack hx (y := (⟨"com/example/nomlog/nomlog/lang/Cell", "<init>", "(J)V"⟩ : MethodName)) rfl hown (mvT hZ (hw _ (List.mem_of_getElem? (i := 4) rfl))) (mvT hZ (hw _ (List.mem_of_getElem? (i := 5) rfl))) (mvT hZ (hw _ (List.mem_of_getElem? (i := 6) rfl))) (by decide) (backOf (W := 1) (rm1 l Z a0 hw [] c1 q1  h9 n0 Z_9 F_serial_c1 F_value_c1 E_c1 g_c1) hZ (hw _ (List.mem_of_getElem? (i := 6) rfl)) (hw _ (List.mem_of_getElem? (i := 3) rfl)) (by decide) (by decide)) (g := (mkF m 50 #[.val (.long q0), .second, .val (.long q1), .second, .val (.long q2), .second, .val (.int p3), .val (.int p4), .val (.int p5), .val (.int bb), .val (.int ae), .val (.int u), .val (.int sx), .val (.ref c0), .unset, .unset, .unset, .unset, .unset, .unset] [(.long q1), (.ref c1), (.ref c1)])) rfl (by rw [hml]; rfl) (Steps.refl _) (a := c1) (argsL := [(.long q1)]) (rest := [(.ref c1)]) (lenOf pd_0 rfl) rfl (by show 2 * 0 + _ ≤ _; exact Nat.le_of_eq rfl) (hb hby at_50) (fun _ _ => ⟨rfl, e9, (by decide : 2 + 0 ≤ _), (by decide : 4 + 0 ≤ _)⟩)
  dsimp only [Pt.U, Pt.locs, Pt.cells, Pt.slots] at X11 l11 y11 z11 st11 hQ11
  subst l11 y11 z11
  obtain ⟨rfl, Nq11, K11, E_c1_i, F_serial_c1_i, F_value_c1_i⟩ := hQ11
  have N11 := Fr.app N7 Nq11
  have E_c0_i_11 := E_c0_i_9.keep K11
  have F_serial_c0_i_11 := F_serial_c0_i_9.keep K11 (ninS ne_c0_c1 nin0)
  have F_value_c0_i_11 := F_value_c0_i_9.keep K11 (ninS ne_c0_c1 nin0)
  have E_c1_11 := E_c1.keep K11
  have Z_11 : n0 ≤ T11.heap.size := Nat.le_trans Z_9 K11.1
  have st12 : ∀ target, Steps p.tables e below (T11.setTop (mkF m 55 #[.val (.long q0), .second, .val (.long q1), .second, .val (.long q2), .second, .val (.int p3), .val (.int p4), .val (.int p5), .val (.int bb), .val (.int ae), .val (.int u), .val (.int sx), .val (.ref c0), .val (.ref c1), .unset, .unset, .unset, .unset, .unset] [])) target → Steps p.tables e below (T11.setTop (mkF m 53 #[.val (.long q0), .second, .val (.long q1), .second, .val (.long q2), .second, .val (.int p3), .val (.int p4), .val (.int p5), .val (.int bb), .val (.int ae), .val (.int u), .val (.int sx), .val (.ref c0), .unset, .unset, .unset, .unset, .unset, .unset] [(.ref c1)])) target := by
    intro target kt
    refine XS.astore X11.here hx rfl (hb hby at_53) rfl rfl (l' := #[.val (.long q0), .second, .val (.long q1), .second, .val (.long q2), .second, .val (.int p3), .val (.int p4), .val (.int p5), .val (.int bb), .val (.int ae), .val (.int u), .val (.int sx), .val (.ref c0), .val (.ref c1), .unset, .unset, .unset, .unset, .unset]) rfl ?_
    exact kt
  obtain ⟨T13, h13, X13, e13, E13, A13, D13, -, st13⟩ := newO X11 hx hZ hown (hw _ (List.mem_of_getElem? (i := 1) rfl)) (hw _ (List.mem_of_getElem? (i := 2) rfl)) (hw _ (List.mem_of_getElem? (i := 3) rfl)) rfl (g := (mkF m 55 #[.val (.long q0), .second, .val (.long q1), .second, .val (.long q2), .second, .val (.int p3), .val (.int p4), .val (.int p5), .val (.int bb), .val (.int ae), .val (.int u), .val (.int sx), .val (.ref c0), .val (.ref c1), .unset, .unset, .unset, .unset, .unset] [])) rfl (hb hby at_55) (by decide) (by decide)
  obtain ⟨c2, g13⟩ : ∃ z, z = T11.heap.size := ⟨_, rfl⟩
  rw [← g13] at A13 D13 st13
  have g_c2 : n0 ≤ c2 := Nat.le_trans Z_11 (Nat.le_of_eq g13.symm)
  have ne_c0_c2 : c0 ≠ c2 := Nat.ne_of_lt (Nat.lt_of_lt_of_le E_c0_i_11.lt (Nat.le_of_eq g13.symm))
  have ne_c1_c2 : c1 ≠ c2 := Nat.ne_of_lt (Nat.lt_of_lt_of_le E_c1_i.lt (Nat.le_of_eq g13.symm))
  have E_c0_i_13 := E_c0_i_11.ext E13
  have F_serial_c0_i_13 := F_serial_c0_i_11.ext E13
  have F_value_c0_i_13 := F_value_c0_i_11.ext E13
  have E_c1_i_13 := E_c1_i.ext E13
  have F_serial_c1_i_13 := F_serial_c1_i.ext E13
  have F_value_c1_i_13 := F_value_c1_i.ext E13
  have Z_13 : n0 ≤ h13.size := Nat.le_trans Z_11 E13.1
  have E_c2 : Exa Z h13 c2 "com/example/nomlog/nomlog/lang/Cell" := A13
  have F_serial_c2 : Fld Z h13 c2 "com/example/nomlog/nomlog/lang/Cell" "serial" "J" (.long (0 : Int64)) := D13 (Or.inr (hw _ (List.mem_of_getElem? (i := 16) rfl))) (ty := .long) (by decide)
  have F_value_c2 : Fld Z h13 c2 "com/example/nomlog/nomlog/lang/Cell" "value" "Lcom/example/nomlog/nomlog/lang/Term;" .null := D13 (Or.inl (hw _ (List.mem_of_getElem? (i := 42) rfl))) (ty := (.object "com/example/nomlog/nomlog/lang/Term")) (by decide)
  have st14 : ∀ target, Steps p.tables e below (T13.setTop (mkF m 61 #[.val (.long q0), .second, .val (.long q1), .second, .val (.long q2), .second, .val (.int p3), .val (.int p4), .val (.int p5), .val (.int bb), .val (.int ae), .val (.int u), .val (.int sx), .val (.ref c0), .val (.ref c1), .unset, .unset, .unset, .unset, .unset] [(.long q2), (.ref c2), (.ref c2)])) target → Steps p.tables e below (T13.setTop (mkF m 58 #[.val (.long q0), .second, .val (.long q1), .second, .val (.long q2), .second, .val (.int p3), .val (.int p4), .val (.int p5), .val (.int bb), .val (.int ae), .val (.int u), .val (.int sx), .val (.ref c0), .val (.ref c1), .unset, .unset, .unset, .unset, .unset] [(.ref c2)])) target := by
    intro target kt
    refine XS.dup X13.here hx rfl (hb hby at_58) rfl rfl ?_
    refine XS.lload X13.here hx rfl (hb hby at_59) rfl ?_
    exact kt
  obtain ⟨_, _, ⟨T15, L15, k15, n15⟩, -, X15, ⟨Lc15, hQ15, l15, y15, z15⟩, st15⟩ := X13.specialBack hx (y := (⟨"com/example/nomlog/nomlog/lang/Cell", "<init>", "(J)V"⟩ : MethodName)) rfl hown (mvT hZ (hw _ (List.mem_of_getElem? (i := 4) rfl))) (mvT hZ (hw _ (List.mem_of_getElem? (i := 5) rfl))) (mvT hZ (hw _ (List.mem_of_getElem? (i := 6) rfl))) (by decide) (backOf (W := 1) (rm1 l Z a0 hw [] c2 q2  h13 n0 Z_13 F_serial_c2 F_value_c2 E_c2 g_c2) hZ (hw _ (List.mem_of_getElem? (i := 6) rfl)) (hw _ (List.mem_of_getElem? (i := 3) rfl)) (by decide) (by decide)) (g := (mkF m 61 #[.val (.long q0), .second, .val (.long q1), .second, .val (.long q2), .second, .val (.int p3), .val (.int p4), .val (.int p5), .val (.int bb), .val (.int ae), .val (.int u), .val (.int sx), .val (.ref c0), .val (.ref c1), .unset, .unset, .unset, .unset, .unset] [(.long q2), (.ref c2), (.ref c2)])) rfl (by rw [hml]; rfl) (Steps.refl _) (a := c2) (argsL := [(.long q2)]) (rest := [(.ref c2)]) (lenOf pd_0 rfl) rfl (by show 2 * 0 + _ ≤ _; exact Nat.le_of_eq rfl) (hb hby at_61) (fun _ _ => ⟨rfl, e13, (by decide : 3 + 0 ≤ _), (by decide : 6 + 0 ≤ _)⟩)
  dsimp only [Pt.U, Pt.locs, Pt.cells, Pt.slots] at X15 l15 y15 z15 st15 hQ15
  subst l15 y15 z15
  obtain ⟨rfl, Nq15, K15, E_c2_i, F_serial_c2_i, F_value_c2_i⟩ := hQ15
  have N15 := Fr.app N11 Nq15
  have E_c0_i_15 := E_c0_i_13.keep K15
  have F_serial_c0_i_15 := F_serial_c0_i_13.keep K15 (ninS ne_c0_c2 nin0)
  have F_value_c0_i_15 := F_value_c0_i_13.keep K15 (ninS ne_c0_c2 nin0)
  have E_c1_i_15 := E_c1_i_13.keep K15
  have F_serial_c1_i_15 := F_serial_c1_i_13.keep K15 (ninS ne_c1_c2 nin0)
  have F_value_c1_i_15 := F_value_c1_i_13.keep K15 (ninS ne_c1_c2 nin0)
  have E_c2_15 := E_c2.keep K15
  have Z_15 : n0 ≤ T15.heap.size := Nat.le_trans Z_13 K15.1
  have st16 : ∀ target, Steps p.tables e below (T15.setTop (mkF m 66 #[.val (.long q0), .second, .val (.long q1), .second, .val (.long q2), .second, .val (.int p3), .val (.int p4), .val (.int p5), .val (.int bb), .val (.int ae), .val (.int u), .val (.int sx), .val (.ref c0), .val (.ref c1), .val (.ref c2), .unset, .unset, .unset, .unset] [])) target → Steps p.tables e below (T15.setTop (mkF m 64 #[.val (.long q0), .second, .val (.long q1), .second, .val (.long q2), .second, .val (.int p3), .val (.int p4), .val (.int p5), .val (.int bb), .val (.int ae), .val (.int u), .val (.int sx), .val (.ref c0), .val (.ref c1), .unset, .unset, .unset, .unset, .unset] [(.ref c2)])) target := by
    intro target kt
    show Steps p.tables e below (T15.setTop (mkF m 64 #[.val (.long q0), .second, .val (.long q1), .second, .val (.long q2), .second, .val (.int p3), .val (.int p4), .val (.int p5), .val (.int bb), .val (.int ae), .val (.int u), .val (.int sx), .val (.ref c0), .val (.ref c1), .unset, .unset, .unset, .unset, .unset] [(.ref c2)])) _
    refine XS.astore X15.here hx rfl (hb hby at_64) rfl rfl (l' := #[.val (.long q0), .second, .val (.long q1), .second, .val (.long q2), .second, .val (.int p3), .val (.int p4), .val (.int p5), .val (.int bb), .val (.int ae), .val (.int u), .val (.int sx), .val (.ref c0), .val (.ref c1), .val (.ref c2), .unset, .unset, .unset, .unset]) rfl ?_
    exact kt
  obtain ⟨T17, h17, X17, e17, E17, A17, D17, -, st17⟩ := newO X15 hx hZ hown (hw _ (List.mem_of_getElem? (i := 17) rfl)) (hw _ (List.mem_of_getElem? (i := 18) rfl)) (hw _ (List.mem_of_getElem? (i := 19) rfl)) rfl (g := (mkF m 66 #[.val (.long q0), .second, .val (.long q1), .second, .val (.long q2), .second, .val (.int p3), .val (.int p4), .val (.int p5), .val (.int bb), .val (.int ae), .val (.int u), .val (.int sx), .val (.ref c0), .val (.ref c1), .val (.ref c2), .unset, .unset, .unset, .unset] [])) rfl (hb hby at_66) (by decide) (by decide)
  obtain ⟨at_, g17⟩ : ∃ z, z = T15.heap.size := ⟨_, rfl⟩
  rw [← g17] at A17 D17 st17
  have g_at_ : n0 ≤ at_ := Nat.le_trans Z_15 (Nat.le_of_eq g17.symm)
  have ne_c0_at_ : c0 ≠ at_ := Nat.ne_of_lt (Nat.lt_of_lt_of_le E_c0_i_15.lt (Nat.le_of_eq g17.symm))
  have ne_c1_at_ : c1 ≠ at_ := Nat.ne_of_lt (Nat.lt_of_lt_of_le E_c1_i_15.lt (Nat.le_of_eq g17.symm))
  have ne_c2_at_ : c2 ≠ at_ := Nat.ne_of_lt (Nat.lt_of_lt_of_le E_c2_i.lt (Nat.le_of_eq g17.symm))
  have E_c0_i_17 := E_c0_i_15.ext E17
  have F_serial_c0_i_17 := F_serial_c0_i_15.ext E17
  have F_value_c0_i_17 := F_value_c0_i_15.ext E17
  have E_c1_i_17 := E_c1_i_15.ext E17
  have F_serial_c1_i_17 := F_serial_c1_i_15.ext E17
  have F_value_c1_i_17 := F_value_c1_i_15.ext E17
  have E_c2_i_17 := E_c2_i.ext E17
  have F_serial_c2_i_17 := F_serial_c2_i.ext E17
  have F_value_c2_i_17 := F_value_c2_i.ext E17
  have Z_17 : n0 ≤ h17.size := Nat.le_trans Z_15 E17.1
  have E_at_ : Exa Z h17 at_ "com/example/nomlog/nomlog/lang/Atom" := A17
  have F_name_at_ : Fld Z h17 at_ "com/example/nomlog/nomlog/lang/Atom" "name" "Ljava/lang/String;" .null := D17 (Or.inr (hw _ (List.mem_of_getElem? (i := 33) rfl))) (ty := (.object "java/lang/String")) (by decide)
  have st18 : ∀ target, Steps p.tables e below (T17.setTop (mkF m 70 #[.val (.long q0), .second, .val (.long q1), .second, .val (.long q2), .second, .val (.int p3), .val (.int p4), .val (.int p5), .val (.int bb), .val (.int ae), .val (.int u), .val (.int sx), .val (.ref c0), .val (.ref c1), .val (.ref c2), .unset, .unset, .unset, .unset] [(.ref at_), (.ref at_)])) target → Steps p.tables e below (T17.setTop (mkF m 69 #[.val (.long q0), .second, .val (.long q1), .second, .val (.long q2), .second, .val (.int p3), .val (.int p4), .val (.int p5), .val (.int bb), .val (.int ae), .val (.int u), .val (.int sx), .val (.ref c0), .val (.ref c1), .val (.ref c2), .unset, .unset, .unset, .unset] [(.ref at_)])) target := by
    intro target kt
    refine XS.dup X17.here hx rfl (hb hby at_69) rfl rfl ?_
    exact kt
  have wS : ∀ a ∈ Bundle.stringAtoms, a.before a0 Z = true := fun d hd => hw d ((by decide +kernel : ∀ d ∈ Bundle.stringAtoms, d ∈ tables_1) d hd)
  obtain ⟨tx, T19, h19, k1_19, X19, e19, E19, hS, kz_19, hZ, hown, st19⟩ := Jvm.RoadKit.ldcS (s := s) (vm0 := s.vm) X17 hx hZ hown (hw _ (List.mem_of_getElem? (i := 20) rfl)) wS e17 ((State.WarmedH.refl s).since 0) (Nat.zero_le _) (g := (mkF m 70 #[.val (.long q0), .second, .val (.long q1), .second, .val (.long q2), .second, .val (.int p3), .val (.int p4), .val (.int p5), .val (.int bb), .val (.int ae), .val (.int u), .val (.int sx), .val (.ref c0), .val (.ref c1), .val (.ref c2), .unset, .unset, .unset, .unset] [(.ref at_), (.ref at_)])) rfl (hb hby at_70) (n := 4) (by decide) (by decide) (by decide) (by decide)
  have E_c0_i_19 := E_c0_i_17.ext E19
  have F_serial_c0_i_19 := F_serial_c0_i_17.ext E19
  have F_value_c0_i_19 := F_value_c0_i_17.ext E19
  have E_c1_i_19 := E_c1_i_17.ext E19
  have F_serial_c1_i_19 := F_serial_c1_i_17.ext E19
  have F_value_c1_i_19 := F_value_c1_i_17.ext E19
  have E_c2_i_19 := E_c2_i_17.ext E19
  have F_serial_c2_i_19 := F_serial_c2_i_17.ext E19
  have F_value_c2_i_19 := F_value_c2_i_17.ext E19
  have E_at__19 := E_at_.ext E19
  have F_name_at__19 := F_name_at_.ext E19
  have Z_19 : n0 ≤ h19.size := Nat.le_trans Z_17 E19.1
  obtain ⟨_, _, ⟨T20, L20, k20, n20⟩, -, X20, ⟨Lc20, hQ20, l20, y20, z20⟩, st20⟩ := X19.specialBack hx (y := (⟨"com/example/nomlog/nomlog/lang/Atom", "<init>", "(Ljava/lang/String;)V"⟩ : MethodName)) rfl hown (mvT hZ (hw _ (List.mem_of_getElem? (i := 28) rfl))) (mvT hZ (hw _ (List.mem_of_getElem? (i := 29) rfl))) (mvT hZ (hw _ (List.mem_of_getElem? (i := 30) rfl))) (by decide) (backOf (W := 1) (rm4 l Z a0 hw [] at_ tx  h19 n0 Z_19 F_name_at__19 E_at__19 g_at_) hZ (hw _ (List.mem_of_getElem? (i := 30) rfl)) (hw _ (List.mem_of_getElem? (i := 19) rfl)) (by decide) (by decide)) (g := (mkF m 72 #[.val (.long q0), .second, .val (.long q1), .second, .val (.long q2), .second, .val (.int p3), .val (.int p4), .val (.int p5), .val (.int bb), .val (.int ae), .val (.int u), .val (.int sx), .val (.ref c0), .val (.ref c1), .val (.ref c2), .unset, .unset, .unset, .unset] [(.ref tx), (.ref at_), (.ref at_)])) rfl (by rw [hml]; rfl) (Steps.refl _) (a := at_) (argsL := [(.ref tx)]) (rest := [(.ref at_)]) (lenOf pd_2 rfl) rfl (by show 2 * 0 + _ ≤ _; exact Nat.le_of_eq rfl) (hb hby at_72) (fun _ _ => ⟨rfl, e19, (by decide : 6 + 0 ≤ _), (by decide : 15 + 0 ≤ _)⟩)
  dsimp only [Pt.U, Pt.locs, Pt.cells, Pt.slots] at X20 l20 y20 z20 st20 hQ20
  subst l20 y20 z20
  obtain ⟨rfl, Nq20, K20, E_at__i, F_name_at__i⟩ := hQ20
  have N20 := Fr.app N15 Nq20
  have E_c0_i_20 := E_c0_i_19.keep K20
  have F_serial_c0_i_20 := F_serial_c0_i_19.keep K20 (ninS ne_c0_at_ nin0)
  have F_value_c0_i_20 := F_value_c0_i_19.keep K20 (ninS ne_c0_at_ nin0)
  have E_c1_i_20 := E_c1_i_19.keep K20
  have F_serial_c1_i_20 := F_serial_c1_i_19.keep K20 (ninS ne_c1_at_ nin0)
  have F_value_c1_i_20 := F_value_c1_i_19.keep K20 (ninS ne_c1_at_ nin0)
  have E_c2_i_20 := E_c2_i_19.keep K20
  have F_serial_c2_i_20 := F_serial_c2_i_19.keep K20 (ninS ne_c2_at_ nin0)
  have F_value_c2_i_20 := F_value_c2_i_19.keep K20 (ninS ne_c2_at_ nin0)
  have E_at__20 := E_at__19.keep K20
  have Z_20 : n0 ≤ T20.heap.size := Nat.le_trans Z_19 K20.1
  have kz_20 : k1_19 ≤ T20.heap.size := Nat.le_trans kz_19 K20.1
  have st21 : ∀ target, Steps p.tables e below (T20.setTop (mkF m 78 #[.val (.long q0), .second, .val (.long q1), .second, .val (.long q2), .second, .val (.int p3), .val (.int p4), .val (.int p5), .val (.int bb), .val (.int ae), .val (.int u), .val (.int sx), .val (.ref c0), .val (.ref c1), .val (.ref c2), .val (.ref at_), .unset, .unset, .unset] [(.int (3 : Int32))])) target → Steps p.tables e below (T20.setTop (mkF m 75 #[.val (.long q0), .second, .val (.long q1), .second, .val (.long q2), .second, .val (.int p3), .val (.int p4), .val (.int p5), .val (.int bb), .val (.int ae), .val (.int u), .val (.int sx), .val (.ref c0), .val (.ref c1), .val (.ref c2), .unset, .unset, .unset, .unset] [(.ref at_)])) target := by
    intro target kt
    refine XS.astore X20.here hx rfl (hb hby at_75) rfl rfl (l' := #[.val (.long q0), .second, .val (.long q1), .second, .val (.long q2), .second, .val (.int p3), .val (.int p4), .val (.int p5), .val (.int bb), .val (.int ae), .val (.int u), .val (.int sx), .val (.ref c0), .val (.ref c1), .val (.ref c2), .val (.ref at_), .unset, .unset, .unset]) rfl ?_
    refine XS.iconst X20.here hx rfl (hb hby at_77) ?_
    exact kt
  obtain ⟨T22, h22, k22, X22, e22, E22, A22, O22, st22⟩ := newR X20 hx hZ hown (hw _ (List.mem_of_getElem? (i := 1) rfl)) (hw _ (List.mem_of_getElem? (i := 34) rfl)) rfl (g := (mkF m 78 #[.val (.long q0), .second, .val (.long q1), .second, .val (.long q2), .second, .val (.int p3), .val (.int p4), .val (.int p5), .val (.int bb), .val (.int ae), .val (.int u), .val (.int sx), .val (.ref c0), .val (.ref c1), .val (.ref c2), .val (.ref at_), .unset, .unset, .unset] [(.int (3 : Int32))])) rfl (hb hby at_78) rfl (by decide) (cap := 3) (by decide) (by decide) (by decide) (by decide)
  obtain ⟨cs, g22⟩ : ∃ z, z = T20.heap.size := ⟨_, rfl⟩
  rw [← g22] at A22 st22
  have g_cs : n0 ≤ cs := Nat.le_trans Z_20 (Nat.le_of_eq g22.symm)
  have ne_c0_cs : c0 ≠ cs := Nat.ne_of_lt (Nat.lt_of_lt_of_le E_c0_i_20.lt (Nat.le_of_eq g22.symm))
  have ne_c1_cs : c1 ≠ cs := Nat.ne_of_lt (Nat.lt_of_lt_of_le E_c1_i_20.lt (Nat.le_of_eq g22.symm))
  have ne_c2_cs : c2 ≠ cs := Nat.ne_of_lt (Nat.lt_of_lt_of_le E_c2_i_20.lt (Nat.le_of_eq g22.symm))
  have ne_at__cs : at_ ≠ cs := Nat.ne_of_lt (Nat.lt_of_lt_of_le E_at__i.lt (Nat.le_of_eq g22.symm))
  have E_c0_i_22 := E_c0_i_20.ext E22
  have F_serial_c0_i_22 := F_serial_c0_i_20.ext E22
  have F_value_c0_i_22 := F_value_c0_i_20.ext E22
  have E_c1_i_22 := E_c1_i_20.ext E22
  have F_serial_c1_i_22 := F_serial_c1_i_20.ext E22
  have F_value_c1_i_22 := F_value_c1_i_20.ext E22
  have E_c2_i_22 := E_c2_i_20.ext E22
  have F_serial_c2_i_22 := F_serial_c2_i_20.ext E22
  have F_value_c2_i_22 := F_value_c2_i_20.ext E22
  have E_at__i_22 := E_at__i.ext E22
  have F_name_at__i_22 := F_name_at__i.ext E22
  have Z_22 : n0 ≤ h22.size := Nat.le_trans Z_20 E22.1
  have kz_22 : k1_19 ≤ h22.size := Nat.le_trans kz_20 E22.1
  have V_cs : Arv Z h22 cs k22 (.object "com/example/nomlog/nomlog/lang/Cell") (3 : Int32) [.null, .null, .null] .null := (Arv.new A22 (by decide)).pad (pad_rep [] .null 3)
  have st23 : ∀ target, Steps p.tables e below (T22.setTop (mkF m 85 #[.val (.long q0), .second, .val (.long q1), .second, .val (.long q2), .second, .val (.int p3), .val (.int p4), .val (.int p5), .val (.int bb), .val (.int ae), .val (.int u), .val (.int sx), .val (.ref c0), .val (.ref c1), .val (.ref c2), .val (.ref at_), .unset, .unset, .unset] [(.ref c0), (.int (0 : Int32)), (.ref cs), (.ref cs)])) target → Steps p.tables e below (T22.setTop (mkF m 81 #[.val (.long q0), .second, .val (.long q1), .second, .val (.long q2), .second, .val (.int p3), .val (.int p4), .val (.int p5), .val (.int bb), .val (.int ae), .val (.int u), .val (.int sx), .val (.ref c0), .val (.ref c1), .val (.ref c2), .val (.ref at_), .unset, .unset, .unset] [(.ref cs)])) target := by
    intro target kt
    refine XS.dup X22.here hx rfl (hb hby at_81) rfl rfl ?_
    refine XS.iconst X22.here hx rfl (hb hby at_82) ?_
    refine XS.aload X22.here hx rfl (hb hby at_83) rfl rfl ?_
    exact kt
  obtain ⟨cl24, Ar24, qc24, Sz24, Mn24, Hs24, Gs24⟩ := id V_cs
  have hin24 : ¬ ((0 : Int32) < 0 ∨ cl24.slots.size ≤ ((0 : Int32)).toNatClampNeg) := inb_of Sz24 ⟨by decide, by decide⟩
  obtain ⟨T24, h24, X24, e24, W24, st24⟩ := stR X22 hx hZ e22 Ar24 (j := (0 : Int32)) hin24 rfl (Sto.ofV Ar24 qc24 O22 (Ins.self E_c0_i_22)) (g := (mkF m 85 #[.val (.long q0), .second, .val (.long q1), .second, .val (.long q2), .second, .val (.int p3), .val (.int p4), .val (.int p5), .val (.int bb), .val (.int ae), .val (.int u), .val (.int sx), .val (.ref c0), .val (.ref c1), .val (.ref c2), .val (.ref at_), .unset, .unset, .unset] [(.ref c0), (.int (0 : Int32)), (.ref cs), (.ref cs)])) rfl rfl (hb hby at_85)
  have V_cs_24 : Arv Z h24 cs k22 (.object "com/example/nomlog/nomlog/lang/Cell") (3 : Int32) [(.ref c0), .null, .null] .null := Arv.set Ar24 qc24 Sz24 Mn24 Hs24 Gs24 rfl W24 0 rfl (Nat.le_of_ble_eq_true rfl)
  have E_c0_i_24 := E_c0_i_22.wr W24
  have F_serial_c0_i_24 := F_serial_c0_i_22.other W24 (Or.inl ne_c0_cs)
  have F_value_c0_i_24 := F_value_c0_i_22.other W24 (Or.inl ne_c0_cs)
  have E_c1_i_24 := E_c1_i_22.wr W24
  have F_serial_c1_i_24 := F_serial_c1_i_22.other W24 (Or.inl ne_c1_cs)
  have F_value_c1_i_24 := F_value_c1_i_22.other W24 (Or.inl ne_c1_cs)
  have E_c2_i_24 := E_c2_i_22.wr W24
  have F_serial_c2_i_24 := F_serial_c2_i_22.other W24 (Or.inl ne_c2_cs)
  have F_value_c2_i_24 := F_value_c2_i_22.other W24 (Or.inl ne_c2_cs)
  have E_at__i_24 := E_at__i_22.wr W24
  have F_name_at__i_24 := F_name_at__i_22.other W24 (Or.inl ne_at__cs)
  have Z_24 : n0 ≤ h24.size := Nat.le_trans Z_22 (Keep.of_wr W24).1
  have kz_24 : k1_19 ≤ h24.size := Nat.le_trans kz_22 (Keep.of_wr W24).1
  have N24 := Fr.snoc X24 N20 g_cs
  have st25 : ∀ target, Steps p.tables e below (T24.setTop (mkF m 90 #[.val (.long q0), .second, .val (.long q1), .second, .val (.long q2), .second, .val (.int p3), .val (.int p4), .val (.int p5), .val (.int bb), .val (.int ae), .val (.int u), .val (.int sx), .val (.ref c0), .val (.ref c1), .val (.ref c2), .val (.ref at_), .unset, .unset, .unset] [(.ref c1), (.int (1 : Int32)), (.ref cs), (.ref cs)])) target → Steps p.tables e below (T24.setTop (mkF m 86 #[.val (.long q0), .second, .val (.long q1), .second, .val (.long q2), .second, .val (.int p3), .val (.int p4), .val (.int p5), .val (.int bb), .val (.int ae), .val (.int u), .val (.int sx), .val (.ref c0), .val (.ref c1), .val (.ref c2), .val (.ref at_), .unset, .unset, .unset] [(.ref cs)])) target := by
    intro target kt
    refine XS.dup X24.here hx rfl (hb hby at_86) rfl rfl ?_
    show Steps p.tables e below (T24.setTop (mkF m 87 #[.val (.long q0), .second, .val (.long q1), .second, .val (.long q2), .second, .val (.int p3), .val (.int p4), .val (.int p5), .val (.int bb), .val (.int ae), .val (.int u), .val (.int sx), .val (.ref c0), .val (.ref c1), .val (.ref c2), .val (.ref at_), .unset, .unset, .unset] [(.ref cs), (.ref cs)])) _
    refine XS.iconst X24.here hx rfl (hb hby at_87) ?_
    refine XS.aload X24.here hx rfl (hb hby at_88) rfl rfl ?_
    exact kt
  obtain ⟨cl26, Ar26, qc26, Sz26, Mn26, Hs26, Gs26⟩ := id V_cs_24
  have hin26 : ¬ ((1 : Int32) < 0 ∨ cl26.slots.size ≤ ((1 : Int32)).toNatClampNeg) := inb_of Sz26 ⟨by decide, by decide⟩
  obtain ⟨T26, h26, X26, e26, W26, st26⟩ := stR X24 hx hZ e24 Ar26 (j := (1 : Int32)) hin26 rfl (Sto.ofV Ar26 qc26 O22 (Ins.self E_c1_i_24)) (g := (mkF m 90 #[.val (.long q0), .second, .val (.long q1), .second, .val (.long q2), .second, .val (.int p3), .val (.int p4), .val (.int p5), .val (.int bb), .val (.int ae), .val (.int u), .val (.int sx), .val (.ref c0), .val (.ref c1), .val (.ref c2), .val (.ref at_), .unset, .unset, .unset] [(.ref c1), (.int (1 : Int32)), (.ref cs), (.ref cs)])) rfl rfl (hb hby at_90)
  have V_cs_26 : Arv Z h26 cs k22 (.object "com/example/nomlog/nomlog/lang/Cell") (3 : Int32) [(.ref c0), (.ref c1), .null] .null := Arv.set Ar26 qc26 Sz26 Mn26 Hs26 Gs26 rfl W26 1 rfl (Nat.le_of_ble_eq_true rfl)
  have E_c0_i_26 := E_c0_i_24.wr W26
  have F_serial_c0_i_26 := F_serial_c0_i_24.other W26 (Or.inl ne_c0_cs)
  have F_value_c0_i_26 := F_value_c0_i_24.other W26 (Or.inl ne_c0_cs)
  have E_c1_i_26 := E_c1_i_24.wr W26
  have F_serial_c1_i_26 := F_serial_c1_i_24.other W26 (Or.inl ne_c1_cs)
  have F_value_c1_i_26 := F_value_c1_i_24.other W26 (Or.inl ne_c1_cs)
  have E_c2_i_26 := E_c2_i_24.wr W26
  have F_serial_c2_i_26 := F_serial_c2_i_24.other W26 (Or.inl ne_c2_cs)
  have F_value_c2_i_26 := F_value_c2_i_24.other W26 (Or.inl ne_c2_cs)
  have E_at__i_26 := E_at__i_24.wr W26
  have F_name_at__i_26 := F_name_at__i_24.other W26 (Or.inl ne_at__cs)
  have Z_26 : n0 ≤ h26.size := Nat.le_trans Z_24 (Keep.of_wr W26).1
  have kz_26 : k1_19 ≤ h26.size := Nat.le_trans kz_24 (Keep.of_wr W26).1
  have N26 := Fr.snoc X26 N24 g_cs
  have st27 : ∀ target, Steps p.tables e below (T26.setTop (mkF m 95 #[.val (.long q0), .second, .val (.long q1), .second, .val (.long q2), .second, .val (.int p3), .val (.int p4), .val (.int p5), .val (.int bb), .val (.int ae), .val (.int u), .val (.int sx), .val (.ref c0), .val (.ref c1), .val (.ref c2), .val (.ref at_), .unset, .unset, .unset] [(.ref c2), (.int (2 : Int32)), (.ref cs), (.ref cs)])) target → Steps p.tables e below (T26.setTop (mkF m 91 #[.val (.long q0), .second, .val (.long q1), .second, .val (.long q2), .second, .val (.int p3), .val (.int p4), .val (.int p5), .val (.int bb), .val (.int ae), .val (.int u), .val (.int sx), .val (.ref c0), .val (.ref c1), .val (.ref c2), .val (.ref at_), .unset, .unset, .unset] [(.ref cs)])) target := by
    intro target kt
    refine XS.dup X26.here hx rfl (hb hby at_91) rfl rfl ?_
    refine XS.iconst X26.here hx rfl (hb hby at_92) ?_
    refine XS.aload X26.here hx rfl (hb hby at_93) rfl rfl ?_
    exact kt
  obtain ⟨cl28, Ar28, qc28, Sz28, Mn28, Hs28, Gs28⟩ := id V_cs_26
  have hin28 : ¬ ((2 : Int32) < 0 ∨ cl28.slots.size ≤ ((2 : Int32)).toNatClampNeg) := inb_of Sz28 ⟨by decide, by decide⟩
  obtain ⟨T28, h28, X28, e28, W28, st28⟩ := stR X26 hx hZ e26 Ar28 (j := (2 : Int32)) hin28 rfl (Sto.ofV Ar28 qc28 O22 (Ins.self E_c2_i_26)) (g := (mkF m 95 #[.val (.long q0), .second, .val (.long q1), .second, .val (.long q2), .second, .val (.int p3), .val (.int p4), .val (.int p5), .val (.int bb), .val (.int ae), .val (.int u), .val (.int sx), .val (.ref c0), .val (.ref c1), .val (.ref c2), .val (.ref at_), .unset, .unset, .unset] [(.ref c2), (.int (2 : Int32)), (.ref cs), (.ref cs)])) rfl rfl (hb hby at_95)
  have V_cs_28 : Arv Z h28 cs k22 (.object "com/example/nomlog/nomlog/lang/Cell") (3 : Int32) [(.ref c0), (.ref c1), (.ref c2)] .null := Arv.set Ar28 qc28 Sz28 Mn28 Hs28 Gs28 rfl W28 2 rfl (Nat.le_of_ble_eq_true rfl)
  have E_c0_i_28 := E_c0_i_26.wr W28
  have F_serial_c0_i_28 := F_serial_c0_i_26.other W28 (Or.inl ne_c0_cs)
  have F_value_c0_i_28 := F_value_c0_i_26.other W28 (Or.inl ne_c0_cs)
  have E_c1_i_28 := E_c1_i_26.wr W28
  have F_serial_c1_i_28 := F_serial_c1_i_26.other W28 (Or.inl ne_c1_cs)
  have F_value_c1_i_28 := F_value_c1_i_26.other W28 (Or.inl ne_c1_cs)
  have E_c2_i_28 := E_c2_i_26.wr W28
  have F_serial_c2_i_28 := F_serial_c2_i_26.other W28 (Or.inl ne_c2_cs)
  have F_value_c2_i_28 := F_value_c2_i_26.other W28 (Or.inl ne_c2_cs)
  have E_at__i_28 := E_at__i_26.wr W28
  have F_name_at__i_28 := F_name_at__i_26.other W28 (Or.inl ne_at__cs)
  have Z_28 : n0 ≤ h28.size := Nat.le_trans Z_26 (Keep.of_wr W28).1
  have kz_28 : k1_19 ≤ h28.size := Nat.le_trans kz_26 (Keep.of_wr W28).1
  have N28 := Fr.snoc X28 N26 g_cs
  have st29 : ∀ target, Steps p.tables e below (T28.setTop (mkF m 98 #[.val (.long q0), .second, .val (.long q1), .second, .val (.long q2), .second, .val (.int p3), .val (.int p4), .val (.int p5), .val (.int bb), .val (.int ae), .val (.int u), .val (.int sx), .val (.ref c0), .val (.ref c1), .val (.ref c2), .val (.ref at_), .val (.ref cs), .unset, .unset] [])) target → Steps p.tables e below (T28.setTop (mkF m 96 #[.val (.long q0), .second, .val (.long q1), .second, .val (.long q2), .second, .val (.int p3), .val (.int p4), .val (.int p5), .val (.int bb), .val (.int ae), .val (.int u), .val (.int sx), .val (.ref c0), .val (.ref c1), .val (.ref c2), .val (.ref at_), .unset, .unset, .unset] [(.ref cs)])) target := by
    intro target kt
    refine XS.astore X28.here hx rfl (hb hby at_96) rfl rfl (l' := #[.val (.long q0), .second, .val (.long q1), .second, .val (.long q2), .second, .val (.int p3), .val (.int p4), .val (.int p5), .val (.int bb), .val (.int ae), .val (.int u), .val (.int sx), .val (.ref c0), .val (.ref c1), .val (.ref c2), .val (.ref at_), .val (.ref cs), .unset, .unset]) rfl ?_
    exact kt
  obtain ⟨T30, h30, L30, p30_0, X30, e30, K30, N30, st30⟩ : ∃ (T' : State) (h' : Heap) (L' : List Loc), (Fld Z h' c0 "com/example/nomlog/nomlog/lang/Cell" "value" "Lcom/example/nomlog/nomlog/lang/Term;" (own_V0 bb ae c1 at_)) ∧ Stand p l e room_1 (s.setVm T19.vm) m #[(.long q0), (.long q1), (.long q2), (.int p3), (.int p4), (.int p5)] below meth c T' L' 7 18 ∧ T'.heap = h' ∧ Keep h28 h' [c0] ∧ Fr n0 L' ∧ ∀ target, Steps p.tables e below (T'.setTop (mkF m 131 #[.val (.long q0), .second, .val (.long q1), .second, .val (.long q2), .second, .val (.int p3), .val (.int p4), .val (.int p5), .val (.int bb), .val (.int ae), .val (.int u), .val (.int sx), .val (.ref c0), .val (.ref c1), .val (.ref c2), .val (.ref at_), .val (.ref cs), .unset, .unset] [])) target → Steps p.tables e below (T28.setTop (mkF m 98 #[.val (.long q0), .second, .val (.long q1), .second, .val (.long q2), .second, .val (.int p3), .val (.int p4), .val (.int p5), .val (.int bb), .val (.int ae), .val (.int u), .val (.int sx), .val (.ref c0), .val (.ref c1), .val (.ref c2), .val (.ref at_), .val (.ref cs), .unset, .unset] [])) target := by
    have Km : Keep h28 h28 [c0] := Keep.refl _ _
    have st31 : ∀ target, Steps p.tables e below (T28.setTop (mkF m 100 #[.val (.long q0), .second, .val (.long q1), .second, .val (.long q2), .second, .val (.int p3), .val (.int p4), .val (.int p5), .val (.int bb), .val (.int ae), .val (.int u), .val (.int sx), .val (.ref c0), .val (.ref c1), .val (.ref c2), .val (.ref at_), .val (.ref cs), .unset, .unset] [(.int bb)])) target → Steps p.tables e below (T28.setTop (mkF m 98 #[.val (.long q0), .second, .val (.long q1), .second, .val (.long q2), .second, .val (.int p3), .val (.int p4), .val (.int p5), .val (.int bb), .val (.int ae), .val (.int u), .val (.int sx), .val (.ref c0), .val (.ref c1), .val (.ref c2), .val (.ref at_), .val (.ref cs), .unset, .unset] [])) target := by
      intro target kt
      refine XS.iload X28.here hx rfl (hb hby at_98) rfl ?_
      exact kt
    by_cases m1 : (0 : Int32) < bb
    · have st32 : ∀ target, Steps p.tables e below (T28.setTop (mkF m 103 #[.val (.long q0), .second, .val (.long q1), .second, .val (.long q2), .second, .val (.int p3), .val (.int p4), .val (.int p5), .val (.int bb), .val (.int ae), .val (.int u), .val (.int sx), .val (.ref c0), .val (.ref c1), .val (.ref c2), .val (.ref at_), .val (.ref cs), .unset, .unset] [])) target → Steps p.tables e below (T28.setTop (mkF m 100 #[.val (.long q0), .second, .val (.long q1), .second, .val (.long q2), .second, .val (.int p3), .val (.int p4), .val (.int p5), .val (.int bb), .val (.int ae), .val (.int u), .val (.int sx), .val (.ref c0), .val (.ref c1), .val (.ref c2), .val (.ref at_), .val (.ref cs), .unset, .unset] [(.int bb)])) target := by
        intro target kt
        refine XS.ifNo X28.here hx rfl (hb hby at_100) rfl ((if0 _ _).trans (tlt m1).2.2.2) ?_
        exact kt
      have st33 : ∀ target, Steps p.tables e below (T28.setTop (mkF m 106 #[.val (.long q0), .second, .val (.long q1), .second, .val (.long q2), .second, .val (.int p3), .val (.int p4), .val (.int p5), .val (.int bb), .val (.int ae), .val (.int u), .val (.int sx), .val (.ref c0), .val (.ref c1), .val (.ref c2), .val (.ref at_), .val (.ref cs), .unset, .unset] [(.int (1 : Int32)), (.int bb)])) target → Steps p.tables e below (T28.setTop (mkF m 103 #[.val (.long q0), .second, .val (.long q1), .second, .val (.long q2), .second, .val (.int p3), .val (.int p4), .val (.int p5), .val (.int bb), .val (.int ae), .val (.int u), .val (.int sx), .val (.ref c0), .val (.ref c1), .val (.ref c2), .val (.ref at_), .val (.ref cs), .unset, .unset] [])) target := by
        intro target kt
        show Steps p.tables e below (T28.setTop (mkF m 103 #[.val (.long q0), .second, .val (.long q1), .second, .val (.long q2), .second, .val (.int p3), .val (.int p4), .val (.int p5), .val (.int bb), .val (.int ae), .val (.int u), .val (.int sx), .val (.ref c0), .val (.ref c1), .val (.ref c2), .val (.ref at_), .val (.ref cs), .unset, .unset] [])) _
        refine XS.iload X28.here hx rfl (hb hby at_103) rfl ?_
        refine XS.iconst X28.here hx rfl (hb hby at_105) ?_
        exact kt
      by_cases m2 : bb = (1 : Int32)
      · have st34 : ∀ target, Steps p.tables e below (T28.setTop (mkF m 109 #[.val (.long q0), .second, .val (.long q1), .second, .val (.long q2), .second, .val (.int p3), .val (.int p4), .val (.int p5), .val (.int bb), .val (.int ae), .val (.int u), .val (.int sx), .val (.ref c0), .val (.ref c1), .val (.ref c2), .val (.ref at_), .val (.ref cs), .unset, .unset] [])) target → Steps p.tables e below (T28.setTop (mkF m 106 #[.val (.long q0), .second, .val (.long q1), .second, .val (.long q2), .second, .val (.int p3), .val (.int p4), .val (.int p5), .val (.int bb), .val (.int ae), .val (.int u), .val (.int sx), .val (.ref c0), .val (.ref c1), .val (.ref c2), .val (.ref at_), .val (.ref cs), .unset, .unset] [(.int (1 : Int32)), (.int bb)])) target := by
          intro target kt
          refine XS.icmpNo X28.here hx rfl (hb hby at_106) rfl (teq m2).2 ?_
          exact kt
        have st35 : ∀ target, Steps p.tables e below (T28.setTop (mkF m 111 #[.val (.long q0), .second, .val (.long q1), .second, .val (.long q2), .second, .val (.int p3), .val (.int p4), .val (.int p5), .val (.int bb), .val (.int ae), .val (.int u), .val (.int sx), .val (.ref c0), .val (.ref c1), .val (.ref c2), .val (.ref at_), .val (.ref cs), .unset, .unset] [(.int ae)])) target → Steps p.tables e below (T28.setTop (mkF m 109 #[.val (.long q0), .second, .val (.long q1), .second, .val (.long q2), .second, .val (.int p3), .val (.int p4), .val (.int p5), .val (.int bb), .val (.int ae), .val (.int u), .val (.int sx), .val (.ref c0), .val (.ref c1), .val (.ref c2), .val (.ref at_), .val (.ref cs), .unset, .unset] [])) target := by
          intro target kt
          refine XS.iload X28.here hx rfl (hb hby at_109) rfl ?_
          exact kt
        by_cases m3 : ae = (0 : Int32)
        · have st36 : ∀ target, Steps p.tables e below (T28.setTop (mkF m 124 #[.val (.long q0), .second, .val (.long q1), .second, .val (.long q2), .second, .val (.int p3), .val (.int p4), .val (.int p5), .val (.int bb), .val (.int ae), .val (.int u), .val (.int sx), .val (.ref c0), .val (.ref c1), .val (.ref c2), .val (.ref at_), .val (.ref cs), .unset, .unset] [])) target → Steps p.tables e below (T28.setTop (mkF m 111 #[.val (.long q0), .second, .val (.long q1), .second, .val (.long q2), .second, .val (.int p3), .val (.int p4), .val (.int p5), .val (.int bb), .val (.int ae), .val (.int u), .val (.int sx), .val (.ref c0), .val (.ref c1), .val (.ref c2), .val (.ref at_), .val (.ref cs), .unset, .unset] [(.int ae)])) target := by
            intro target kt
            refine XS.ifYes X28.here hx rfl (pc0 := 111) (pc' := 124) rfl (hb hby at_111) rfl ((if0 _ _).trans (teq m3).1) (by decide) (by decide) ?_
            exact kt
          have st37 : ∀ target, Steps p.tables e below (T28.setTop (mkF m 128 #[.val (.long q0), .second, .val (.long q1), .second, .val (.long q2), .second, .val (.int p3), .val (.int p4), .val (.int p5), .val (.int bb), .val (.int ae), .val (.int u), .val (.int sx), .val (.ref c0), .val (.ref c1), .val (.ref c2), .val (.ref at_), .val (.ref cs), .unset, .unset] [(.ref c1), (.ref c0)])) target → Steps p.tables e below (T28.setTop (mkF m 124 #[.val (.long q0), .second, .val (.long q1), .second, .val (.long q2), .second, .val (.int p3), .val (.int p4), .val (.int p5), .val (.int bb), .val (.int ae), .val (.int u), .val (.int sx), .val (.ref c0), .val (.ref c1), .val (.ref c2), .val (.ref at_), .val (.ref cs), .unset, .unset] [])) target := by
            intro target kt
            refine XS.aload X28.here hx rfl (hb hby at_124) rfl rfl ?_
            refine XS.aload X28.here hx rfl (hb hby at_126) rfl rfl ?_
            exact kt
          obtain ⟨cq38, kq38, qv38a, qv38b, qv38c⟩ := isOf hZ e28 E_c0_i_28
          obtain ⟨_, _, ⟨T38, L38, k38, n38⟩, -, X38, ⟨Lc38, hQ38, l38, y38, z38⟩, st38⟩ := X28.virtualBack hx (y := (⟨"com/example/nomlog/nomlog/lang/Cell", "bind", "(Lcom/example/nomlog/nomlog/lang/Term;)V"⟩ : MethodName)) (z := (⟨"com/example/nomlog/nomlog/lang/Cell", "bind", "(Lcom/example/nomlog/nomlog/lang/Term;)V"⟩ : MethodName)) hown (mvT hZ (hw _ (List.mem_of_getElem? (i := 36) rfl))) (mvT hZ (hw _ (List.mem_of_getElem? (i := 37) rfl))) (notFace_of_selects (args := #[]) (mvT hZ (hw _ (List.mem_of_getElem? (i := 39) rfl)))) (mvT hZ (hw _ (List.mem_of_getElem? (i := 39) rfl))) (mvT hZ (hw _ (List.mem_of_getElem? (i := 38) rfl))) (by decide) (backOf (W := 0) (rm5 l Z a0 hw [] c0 c1 .null h28 n0 Z_28 F_value_c0_i_28 E_c0_i_28 g_c0) hZ (hw _ (List.mem_of_getElem? (i := 40) rfl)) (hw _ (List.mem_of_getElem? (i := 3) rfl)) (by decide) (by decide)) qv38a qv38c (g := (mkF m 128 #[.val (.long q0), .second, .val (.long q1), .second, .val (.long q2), .second, .val (.int p3), .val (.int p4), .val (.int p5), .val (.int bb), .val (.int ae), .val (.int u), .val (.int sx), .val (.ref c0), .val (.ref c1), .val (.ref c2), .val (.ref at_), .val (.ref cs), .unset, .unset] [(.ref c1), (.ref c0)])) rfl (by rw [hml]; rfl) (Steps.refl _) (argsL := [(.ref c1)]) (rest := []) (lenOf pd_3 rfl) rfl (by show 2 * 0 + _ ≤ _; exact Nat.le_of_eq rfl) (hb hby at_128) (fun _ _ => ⟨rfl, e28, (by decide : 7 + 0 ≤ _), (by decide : 18 + 0 ≤ _)⟩)
          dsimp only [Pt.U, Pt.locs, Pt.cells, Pt.slots] at X38 l38 y38 z38 st38 hQ38
          subst l38 y38 z38
          obtain ⟨rfl, Nq38, K38, Fv38⟩ := hQ38
          have N38 := Fr.app N28 Nq38
          have E_c0_i_38 := E_c0_i_28.keep K38
          have E_c1_i_38 := E_c1_i_28.keep K38
          have F_value_c1_i_38 := F_value_c1_i_28.keep K38 (ninS (Ne.symm ne_c0_c1) nin0)
          have E_c2_i_38 := E_c2_i_28.keep K38
          have F_value_c2_i_38 := F_value_c2_i_28.keep K38 (ninS (Ne.symm ne_c0_c2) nin0)
          have E_at__i_38 := E_at__i_28.keep K38
          have V_cs_38 := V_cs_28.keep K38 (ninS (Ne.symm ne_c0_cs) nin0)
          have Z_38 : n0 ≤ T38.heap.size := Nat.le_trans Z_28 K38.1
          have kz_38 : k1_19 ≤ T38.heap.size := Nat.le_trans kz_28 K38.1
          have Kp_38 : Keep h28 T38.heap [c0] := Km.trans K38 (allS (Or.inl (List.mem_of_getElem? (i := 0) rfl)) (all0))
          exact ⟨_, _, _, (by rw [own_V0, if_pos m1, if_pos m2, if_pos m3]; exact Fv38), X38, rfl, Kp_38, N38, fun target kt => (st31 _ (st32 _ (st33 _ (st34 _ (st35 _ (st36 _ (st37 _ (st38.trans kt))))))))⟩
        · have st39 : ∀ target, Steps p.tables e below (T28.setTop (mkF m 114 #[.val (.long q0), .second, .val (.long q1), .second, .val (.long q2), .second, .val (.int p3), .val (.int p4), .val (.int p5), .val (.int bb), .val (.int ae), .val (.int u), .val (.int sx), .val (.ref c0), .val (.ref c1), .val (.ref c2), .val (.ref at_), .val (.ref cs), .unset, .unset] [])) target → Steps p.tables e below (T28.setTop (mkF m 111 #[.val (.long q0), .second, .val (.long q1), .second, .val (.long q2), .second, .val (.int p3), .val (.int p4), .val (.int p5), .val (.int bb), .val (.int ae), .val (.int u), .val (.int sx), .val (.ref c0), .val (.ref c1), .val (.ref c2), .val (.ref at_), .val (.ref cs), .unset, .unset] [(.int ae)])) target := by
            intro target kt
            refine XS.ifNo X28.here hx rfl (hb hby at_111) rfl ((if0 _ _).trans (feq m3).1) ?_
            exact kt
          have st40 : ∀ target, Steps p.tables e below (T28.setTop (mkF m 118 #[.val (.long q0), .second, .val (.long q1), .second, .val (.long q2), .second, .val (.int p3), .val (.int p4), .val (.int p5), .val (.int bb), .val (.int ae), .val (.int u), .val (.int sx), .val (.ref c0), .val (.ref c1), .val (.ref c2), .val (.ref at_), .val (.ref cs), .unset, .unset] [(.ref at_), (.ref c0)])) target → Steps p.tables e below (T28.setTop (mkF m 114 #[.val (.long q0), .second, .val (.long q1), .second, .val (.long q2), .second, .val (.int p3), .val (.int p4), .val (.int p5), .val (.int bb), .val (.int ae), .val (.int u), .val (.int sx), .val (.ref c0), .val (.ref c1), .val (.ref c2), .val (.ref at_), .val (.ref cs), .unset, .unset] [])) target := by
            intro target kt
            show Steps p.tables e below (T28.setTop (mkF m 114 #[.val (.long q0), .second, .val (.long q1), .second, .val (.long q2), .second, .val (.int p3), .val (.int p4), .val (.int p5), .val (.int bb), .val (.int ae), .val (.int u), .val (.int sx), .val (.ref c0), .val (.ref c1), .val (.ref c2), .val (.ref at_), .val (.ref cs), .unset, .unset] [])) _
            refine XS.aload X28.here hx rfl (hb hby at_114) rfl rfl ?_
            refine XS.aload X28.here hx rfl (hb hby at_116) rfl rfl ?_
            exact kt
          obtain ⟨cq41, kq41, qv41a, qv41b, qv41c⟩ := isOf hZ e28 E_c0_i_28
          obtain ⟨_, _, ⟨T41, L41, k41, n41⟩, -, X41, ⟨Lc41, hQ41, l41, y41, z41⟩, st41⟩ := X28.virtualBack hx (y := (⟨"com/example/nomlog/nomlog/lang/Cell", "bind", "(Lcom/example/nomlog/nomlog/lang/Term;)V"⟩ : MethodName)) (z := (⟨"com/example/nomlog/nomlog/lang/Cell", "bind", "(Lcom/example/nomlog/nomlog/lang/Term;)V"⟩ : MethodName)) hown (mvT hZ (hw _ (List.mem_of_getElem? (i := 36) rfl))) (mvT hZ (hw _ (List.mem_of_getElem? (i := 37) rfl))) (notFace_of_selects (args := #[]) (mvT hZ (hw _ (List.mem_of_getElem? (i := 39) rfl)))) (mvT hZ (hw _ (List.mem_of_getElem? (i := 39) rfl))) (mvT hZ (hw _ (List.mem_of_getElem? (i := 38) rfl))) (by decide) (backOf (W := 0) (rm5 l Z a0 hw [] c0 at_ .null h28 n0 Z_28 F_value_c0_i_28 E_c0_i_28 g_c0) hZ (hw _ (List.mem_of_getElem? (i := 40) rfl)) (hw _ (List.mem_of_getElem? (i := 3) rfl)) (by decide) (by decide)) qv41a qv41c (g := (mkF m 118 #[.val (.long q0), .second, .val (.long q1), .second, .val (.long q2), .second, .val (.int p3), .val (.int p4), .val (.int p5), .val (.int bb), .val (.int ae), .val (.int u), .val (.int sx), .val (.ref c0), .val (.ref c1), .val (.ref c2), .val (.ref at_), .val (.ref cs), .unset, .unset] [(.ref at_), (.ref c0)])) rfl (by rw [hml]; rfl) (Steps.refl _) (argsL := [(.ref at_)]) (rest := []) (lenOf pd_3 rfl) rfl (by show 2 * 0 + _ ≤ _; exact Nat.le_of_eq rfl) (hb hby at_118) (fun _ _ => ⟨rfl, e28, (by decide : 7 + 0 ≤ _), (by decide : 18 + 0 ≤ _)⟩)
          dsimp only [Pt.U, Pt.locs, Pt.cells, Pt.slots] at X41 l41 y41 z41 st41 hQ41
          subst l41 y41 z41
          obtain ⟨rfl, Nq41, K41, Fv41⟩ := hQ41
          have N41 := Fr.app N28 Nq41
          have E_c0_i_41 := E_c0_i_28.keep K41
          have E_c1_i_41 := E_c1_i_28.keep K41
          have F_value_c1_i_41 := F_value_c1_i_28.keep K41 (ninS (Ne.symm ne_c0_c1) nin0)
          have E_c2_i_41 := E_c2_i_28.keep K41
          have F_value_c2_i_41 := F_value_c2_i_28.keep K41 (ninS (Ne.symm ne_c0_c2) nin0)
          have E_at__i_41 := E_at__i_28.keep K41
          have V_cs_41 := V_cs_28.keep K41 (ninS (Ne.symm ne_c0_cs) nin0)
          have Z_41 : n0 ≤ T41.heap.size := Nat.le_trans Z_28 K41.1
          have kz_41 : k1_19 ≤ T41.heap.size := Nat.le_trans kz_28 K41.1
          have Kp_41 : Keep h28 T41.heap [c0] := Km.trans K41 (allS (Or.inl (List.mem_of_getElem? (i := 0) rfl)) (all0))
          have st42 : ∀ target, Steps p.tables e below (T41.setTop (mkF m 131 #[.val (.long q0), .second, .val (.long q1), .second, .val (.long q2), .second, .val (.int p3), .val (.int p4), .val (.int p5), .val (.int bb), .val (.int ae), .val (.int u), .val (.int sx), .val (.ref c0), .val (.ref c1), .val (.ref c2), .val (.ref at_), .val (.ref cs), .unset, .unset] [])) target → Steps p.tables e below (T41.setTop (mkF m 121 #[.val (.long q0), .second, .val (.long q1), .second, .val (.long q2), .second, .val (.int p3), .val (.int p4), .val (.int p5), .val (.int bb), .val (.int ae), .val (.int u), .val (.int sx), .val (.ref c0), .val (.ref c1), .val (.ref c2), .val (.ref at_), .val (.ref cs), .unset, .unset] [])) target := by
            intro target kt
            refine XS.goto X41.here hx rfl (pc0 := 121) (pc' := 131) rfl (hb hby at_121) (by decide) (by decide) ?_
            exact kt
          exact ⟨_, _, _, (by rw [own_V0, if_pos m1, if_pos m2, if_neg m3]; exact Fv41), X41, rfl, Kp_41, N41, fun target kt => (st31 _ (st32 _ (st33 _ (st34 _ (st35 _ (st39 _ (st40 _ (st41.trans (st42 _ kt)))))))))⟩
      · have st43 : ∀ target, Steps p.tables e below (T28.setTop (mkF m 124 #[.val (.long q0), .second, .val (.long q1), .second, .val (.long q2), .second, .val (.int p3), .val (.int p4), .val (.int p5), .val (.int bb), .val (.int ae), .val (.int u), .val (.int sx), .val (.ref c0), .val (.ref c1), .val (.ref c2), .val (.ref at_), .val (.ref cs), .unset, .unset] [])) target → Steps p.tables e below (T28.setTop (mkF m 106 #[.val (.long q0), .second, .val (.long q1), .second, .val (.long q2), .second, .val (.int p3), .val (.int p4), .val (.int p5), .val (.int bb), .val (.int ae), .val (.int u), .val (.int sx), .val (.ref c0), .val (.ref c1), .val (.ref c2), .val (.ref at_), .val (.ref cs), .unset, .unset] [(.int (1 : Int32)), (.int bb)])) target := by
          intro target kt
          refine XS.icmpYes X28.here hx rfl (pc0 := 106) (pc' := 124) rfl (hb hby at_106) rfl (feq m2).2 (by decide) (by decide) ?_
          exact kt
        have st44 : ∀ target, Steps p.tables e below (T28.setTop (mkF m 128 #[.val (.long q0), .second, .val (.long q1), .second, .val (.long q2), .second, .val (.int p3), .val (.int p4), .val (.int p5), .val (.int bb), .val (.int ae), .val (.int u), .val (.int sx), .val (.ref c0), .val (.ref c1), .val (.ref c2), .val (.ref at_), .val (.ref cs), .unset, .unset] [(.ref c1), (.ref c0)])) target → Steps p.tables e below (T28.setTop (mkF m 124 #[.val (.long q0), .second, .val (.long q1), .second, .val (.long q2), .second, .val (.int p3), .val (.int p4), .val (.int p5), .val (.int bb), .val (.int ae), .val (.int u), .val (.int sx), .val (.ref c0), .val (.ref c1), .val (.ref c2), .val (.ref at_), .val (.ref cs), .unset, .unset] [])) target := by
          intro target kt
          refine XS.aload X28.here hx rfl (hb hby at_124) rfl rfl ?_
          refine XS.aload X28.here hx rfl (hb hby at_126) rfl rfl ?_
          exact kt
        obtain ⟨cq45, kq45, qv45a, qv45b, qv45c⟩ := isOf hZ e28 E_c0_i_28
        obtain ⟨_, _, ⟨T45, L45, k45, n45⟩, -, X45, ⟨Lc45, hQ45, l45, y45, z45⟩, st45⟩ := X28.virtualBack hx (y := (⟨"com/example/nomlog/nomlog/lang/Cell", "bind", "(Lcom/example/nomlog/nomlog/lang/Term;)V"⟩ : MethodName)) (z := (⟨"com/example/nomlog/nomlog/lang/Cell", "bind", "(Lcom/example/nomlog/nomlog/lang/Term;)V"⟩ : MethodName)) hown (mvT hZ (hw _ (List.mem_of_getElem? (i := 36) rfl))) (mvT hZ (hw _ (List.mem_of_getElem? (i := 37) rfl))) (notFace_of_selects (args := #[]) (mvT hZ (hw _ (List.mem_of_getElem? (i := 39) rfl)))) (mvT hZ (hw _ (List.mem_of_getElem? (i := 39) rfl))) (mvT hZ (hw _ (List.mem_of_getElem? (i := 38) rfl))) (by decide) (backOf (W := 0) (rm5 l Z a0 hw [] c0 c1 .null h28 n0 Z_28 F_value_c0_i_28 E_c0_i_28 g_c0) hZ (hw _ (List.mem_of_getElem? (i := 40) rfl)) (hw _ (List.mem_of_getElem? (i := 3) rfl)) (by decide) (by decide)) qv45a qv45c (g := (mkF m 128 #[.val (.long q0), .second, .val (.long q1), .second, .val (.long q2), .second, .val (.int p3), .val (.int p4), .val (.int p5), .val (.int bb), .val (.int ae), .val (.int u), .val (.int sx), .val (.ref c0), .val (.ref c1), .val (.ref c2), .val (.ref at_), .val (.ref cs), .unset, .unset] [(.ref c1), (.ref c0)])) rfl (by rw [hml]; rfl) (Steps.refl _) (argsL := [(.ref c1)]) (rest := []) (lenOf pd_3 rfl) rfl (by show 2 * 0 + _ ≤ _; exact Nat.le_of_eq rfl) (hb hby at_128) (fun _ _ => ⟨rfl, e28, (by decide : 7 + 0 ≤ _), (by decide : 18 + 0 ≤ _)⟩)
        dsimp only [Pt.U, Pt.locs, Pt.cells, Pt.slots] at X45 l45 y45 z45 st45 hQ45
        subst l45 y45 z45
        obtain ⟨rfl, Nq45, K45, Fv45⟩ := hQ45
        have N45 := Fr.app N28 Nq45
        have E_c0_i_45 := E_c0_i_28.keep K45
        have E_c1_i_45 := E_c1_i_28.keep K45
        have F_value_c1_i_45 := F_value_c1_i_28.keep K45 (ninS (Ne.symm ne_c0_c1) nin0)
        have E_c2_i_45 := E_c2_i_28.keep K45
        have F_value_c2_i_45 := F_value_c2_i_28.keep K45 (ninS (Ne.symm ne_c0_c2) nin0)
        have E_at__i_45 := E_at__i_28.keep K45
        have V_cs_45 := V_cs_28.keep K45 (ninS (Ne.symm ne_c0_cs) nin0)
        have Z_45 : n0 ≤ T45.heap.size := Nat.le_trans Z_28 K45.1
        have kz_45 : k1_19 ≤ T45.heap.size := Nat.le_trans kz_28 K45.1
        have Kp_45 : Keep h28 T45.heap [c0] := Km.trans K45 (allS (Or.inl (List.mem_of_getElem? (i := 0) rfl)) (all0))
        exact ⟨_, _, _, (by rw [own_V0, if_pos m1, if_neg m2]; exact Fv45), X45, rfl, Kp_45, N45, fun target kt => (st31 _ (st32 _ (st33 _ (st43 _ (st44 _ (st45.trans kt))))))⟩
    · have st46 : ∀ target, Steps p.tables e below (T28.setTop (mkF m 131 #[.val (.long q0), .second, .val (.long q1), .second, .val (.long q2), .second, .val (.int p3), .val (.int p4), .val (.int p5), .val (.int bb), .val (.int ae), .val (.int u), .val (.int sx), .val (.ref c0), .val (.ref c1), .val (.ref c2), .val (.ref at_), .val (.ref cs), .unset, .unset] [])) target → Steps p.tables e below (T28.setTop (mkF m 100 #[.val (.long q0), .second, .val (.long q1), .second, .val (.long q2), .second, .val (.int p3), .val (.int p4), .val (.int p5), .val (.int bb), .val (.int ae), .val (.int u), .val (.int sx), .val (.ref c0), .val (.ref c1), .val (.ref c2), .val (.ref at_), .val (.ref cs), .unset, .unset] [(.int bb)])) target := by
        intro target kt
        refine XS.ifYes X28.here hx rfl (pc0 := 100) (pc' := 131) rfl (hb hby at_100) rfl ((if0 _ _).trans (flt m1).2.2.2) (by decide) (by decide) ?_
        exact kt
      exact ⟨_, _, _, (by rw [own_V0, if_neg m1]; exact F_value_c0_i_28), X28, e28, Km, N28, fun target kt => (st31 _ (st46 _ kt))⟩
  have E_c0_i_30 := E_c0_i_28.keep K30
  have E_c1_i_30 := E_c1_i_28.keep K30
  have F_value_c1_i_30 := F_value_c1_i_28.keep K30 (ninS (Ne.symm ne_c0_c1) nin0)
  have E_c2_i_30 := E_c2_i_28.keep K30
  have F_value_c2_i_30 := F_value_c2_i_28.keep K30 (ninS (Ne.symm ne_c0_c2) nin0)
  have E_at__i_30 := E_at__i_28.keep K30
  have V_cs_30 := V_cs_28.keep K30 (ninS (Ne.symm ne_c0_cs) nin0)
  have Z_30 : n0 ≤ h30.size := Nat.le_trans Z_28 K30.1
  have kz_30 : k1_19 ≤ h30.size := Nat.le_trans kz_28 K30.1
  obtain ⟨T47, h47, L47, p47_0, X47, e47, K47, N47, st47⟩ : ∃ (T' : State) (h' : Heap) (L' : List Loc), (Fld Z h' c1 "com/example/nomlog/nomlog/lang/Cell" "value" "Lcom/example/nomlog/nomlog/lang/Term;" (own_V1 bb ae c2 at_)) ∧ Stand p l e room_1 (s.setVm T19.vm) m #[(.long q0), (.long q1), (.long q2), (.int p3), (.int p4), (.int p5)] below meth c T' L' 7 18 ∧ T'.heap = h' ∧ Keep h30 h' [c1] ∧ Fr n0 L' ∧ ∀ target, Steps p.tables e below (T'.setTop (mkF m 165 #[.val (.long q0), .second, .val (.long q1), .second, .val (.long q2), .second, .val (.int p3), .val (.int p4), .val (.int p5), .val (.int bb), .val (.int ae), .val (.int u), .val (.int sx), .val (.ref c0), .val (.ref c1), .val (.ref c2), .val (.ref at_), .val (.ref cs), .unset, .unset] [])) target → Steps p.tables e below (T30.setTop (mkF m 131 #[.val (.long q0), .second, .val (.long q1), .second, .val (.long q2), .second, .val (.int p3), .val (.int p4), .val (.int p5), .val (.int bb), .val (.int ae), .val (.int u), .val (.int sx), .val (.ref c0), .val (.ref c1), .val (.ref c2), .val (.ref at_), .val (.ref cs), .unset, .unset] [])) target := by
    have Km : Keep h30 h30 [c1] := Keep.refl _ _
    have st48 : ∀ target, Steps p.tables e below (T30.setTop (mkF m 134 #[.val (.long q0), .second, .val (.long q1), .second, .val (.long q2), .second, .val (.int p3), .val (.int p4), .val (.int p5), .val (.int bb), .val (.int ae), .val (.int u), .val (.int sx), .val (.ref c0), .val (.ref c1), .val (.ref c2), .val (.ref at_), .val (.ref cs), .unset, .unset] [(.int (1 : Int32)), (.int bb)])) target → Steps p.tables e below (T30.setTop (mkF m 131 #[.val (.long q0), .second, .val (.long q1), .second, .val (.long q2), .second, .val (.int p3), .val (.int p4), .val (.int p5), .val (.int bb), .val (.int ae), .val (.int u), .val (.int sx), .val (.ref c0), .val (.ref c1), .val (.ref c2), .val (.ref at_), .val (.ref cs), .unset, .unset] [])) target := by
      intro target kt
      refine XS.iload X30.here hx rfl (hb hby at_131) rfl ?_
      show Steps p.tables e below (T30.setTop (mkF m 133 #[.val (.long q0), .second, .val (.long q1), .second, .val (.long q2), .second, .val (.int p3), .val (.int p4), .val (.int p5), .val (.int bb), .val (.int ae), .val (.int u), .val (.int sx), .val (.ref c0), .val (.ref c1), .val (.ref c2), .val (.ref at_), .val (.ref cs), .unset, .unset] [(.int bb)])) _
      refine XS.iconst X30.here hx rfl (hb hby at_133) ?_
      exact kt
    by_cases m1 : (1 : Int32) < bb
    · have st49 : ∀ target, Steps p.tables e below (T30.setTop (mkF m 137 #[.val (.long q0), .second, .val (.long q1), .second, .val (.long q2), .second, .val (.int p3), .val (.int p4), .val (.int p5), .val (.int bb), .val (.int ae), .val (.int u), .val (.int sx), .val (.ref c0), .val (.ref c1), .val (.ref c2), .val (.ref at_), .val (.ref cs), .unset, .unset] [])) target → Steps p.tables e below (T30.setTop (mkF m 134 #[.val (.long q0), .second, .val (.long q1), .second, .val (.long q2), .second, .val (.int p3), .val (.int p4), .val (.int p5), .val (.int bb), .val (.int ae), .val (.int u), .val (.int sx), .val (.ref c0), .val (.ref c1), .val (.ref c2), .val (.ref at_), .val (.ref cs), .unset, .unset] [(.int (1 : Int32)), (.int bb)])) target := by
        intro target kt
        refine XS.icmpNo X30.here hx rfl (hb hby at_134) rfl (tlt m1).2.2.2 ?_
        exact kt
      have st50 : ∀ target, Steps p.tables e below (T30.setTop (mkF m 140 #[.val (.long q0), .second, .val (.long q1), .second, .val (.long q2), .second, .val (.int p3), .val (.int p4), .val (.int p5), .val (.int bb), .val (.int ae), .val (.int u), .val (.int sx), .val (.ref c0), .val (.ref c1), .val (.ref c2), .val (.ref at_), .val (.ref cs), .unset, .unset] [(.int (2 : Int32)), (.int bb)])) target → Steps p.tables e below (T30.setTop (mkF m 137 #[.val (.long q0), .second, .val (.long q1), .second, .val (.long q2), .second, .val (.int p3), .val (.int p4), .val (.int p5), .val (.int bb), .val (.int ae), .val (.int u), .val (.int sx), .val (.ref c0), .val (.ref c1), .val (.ref c2), .val (.ref at_), .val (.ref cs), .unset, .unset] [])) target := by
        intro target kt
        refine XS.iload X30.here hx rfl (hb hby at_137) rfl ?_
        refine XS.iconst X30.here hx rfl (hb hby at_139) ?_
        exact kt
      by_cases m2 : bb = (2 : Int32)
      · have st51 : ∀ target, Steps p.tables e below (T30.setTop (mkF m 143 #[.val (.long q0), .second, .val (.long q1), .second, .val (.long q2), .second, .val (.int p3), .val (.int p4), .val (.int p5), .val (.int bb), .val (.int ae), .val (.int u), .val (.int sx), .val (.ref c0), .val (.ref c1), .val (.ref c2), .val (.ref at_), .val (.ref cs), .unset, .unset] [])) target → Steps p.tables e below (T30.setTop (mkF m 140 #[.val (.long q0), .second, .val (.long q1), .second, .val (.long q2), .second, .val (.int p3), .val (.int p4), .val (.int p5), .val (.int bb), .val (.int ae), .val (.int u), .val (.int sx), .val (.ref c0), .val (.ref c1), .val (.ref c2), .val (.ref at_), .val (.ref cs), .unset, .unset] [(.int (2 : Int32)), (.int bb)])) target := by
          intro target kt
          refine XS.icmpNo X30.here hx rfl (hb hby at_140) rfl (teq m2).2 ?_
          exact kt
        have st52 : ∀ target, Steps p.tables e below (T30.setTop (mkF m 145 #[.val (.long q0), .second, .val (.long q1), .second, .val (.long q2), .second, .val (.int p3), .val (.int p4), .val (.int p5), .val (.int bb), .val (.int ae), .val (.int u), .val (.int sx), .val (.ref c0), .val (.ref c1), .val (.ref c2), .val (.ref at_), .val (.ref cs), .unset, .unset] [(.int ae)])) target → Steps p.tables e below (T30.setTop (mkF m 143 #[.val (.long q0), .second, .val (.long q1), .second, .val (.long q2), .second, .val (.int p3), .val (.int p4), .val (.int p5), .val (.int bb), .val (.int ae), .val (.int u), .val (.int sx), .val (.ref c0), .val (.ref c1), .val (.ref c2), .val (.ref at_), .val (.ref cs), .unset, .unset] [])) target := by
          intro target kt
          refine XS.iload X30.here hx rfl (hb hby at_143) rfl ?_
          exact kt
        by_cases m3 : ae = (0 : Int32)
        · have st53 : ∀ target, Steps p.tables e below (T30.setTop (mkF m 158 #[.val (.long q0), .second, .val (.long q1), .second, .val (.long q2), .second, .val (.int p3), .val (.int p4), .val (.int p5), .val (.int bb), .val (.int ae), .val (.int u), .val (.int sx), .val (.ref c0), .val (.ref c1), .val (.ref c2), .val (.ref at_), .val (.ref cs), .unset, .unset] [])) target → Steps p.tables e below (T30.setTop (mkF m 145 #[.val (.long q0), .second, .val (.long q1), .second, .val (.long q2), .second, .val (.int p3), .val (.int p4), .val (.int p5), .val (.int bb), .val (.int ae), .val (.int u), .val (.int sx), .val (.ref c0), .val (.ref c1), .val (.ref c2), .val (.ref at_), .val (.ref cs), .unset, .unset] [(.int ae)])) target := by
            intro target kt
            refine XS.ifYes X30.here hx rfl (pc0 := 145) (pc' := 158) rfl (hb hby at_145) rfl ((if0 _ _).trans (teq m3).1) (by decide) (by decide) ?_
            exact kt
          have st54 : ∀ target, Steps p.tables e below (T30.setTop (mkF m 162 #[.val (.long q0), .second, .val (.long q1), .second, .val (.long q2), .second, .val (.int p3), .val (.int p4), .val (.int p5), .val (.int bb), .val (.int ae), .val (.int u), .val (.int sx), .val (.ref c0), .val (.ref c1), .val (.ref c2), .val (.ref at_), .val (.ref cs), .unset, .unset] [(.ref c2), (.ref c1)])) target → Steps p.tables e below (T30.setTop (mkF m 158 #[.val (.long q0), .second, .val (.long q1), .second, .val (.long q2), .second, .val (.int p3), .val (.int p4), .val (.int p5), .val (.int bb), .val (.int ae), .val (.int u), .val (.int sx), .val (.ref c0), .val (.ref c1), .val (.ref c2), .val (.ref at_), .val (.ref cs), .unset, .unset] [])) target := by
            intro target kt
            refine XS.aload X30.here hx rfl (hb hby at_158) rfl rfl ?_
            show Steps p.tables e below (T30.setTop (mkF m 160 #[.val (.long q0), .second, .val (.long q1), .second, .val (.long q2), .second, .val (.int p3), .val (.int p4), .val (.int p5), .val (.int bb), .val (.int ae), .val (.int u), .val (.int sx), .val (.ref c0), .val (.ref c1), .val (.ref c2), .val (.ref at_), .val (.ref cs), .unset, .unset] [(.ref c1)])) _
            refine XS.aload X30.here hx rfl (hb hby at_160) rfl rfl ?_
            exact kt
          obtain ⟨cq55, kq55, qv55a, qv55b, qv55c⟩ := isOf hZ e30 E_c1_i_30
          obtain ⟨_, _, ⟨T55, L55, k55, n55⟩, -, X55, ⟨Lc55, hQ55, l55, y55, z55⟩, st55⟩ := X30.virtualBack hx (y := (⟨"com/example/nomlog/nomlog/lang/Cell", "bind", "(Lcom/example/nomlog/nomlog/lang/Term;)V"⟩ : MethodName)) (z := (⟨"com/example/nomlog/nomlog/lang/Cell", "bind", "(Lcom/example/nomlog/nomlog/lang/Term;)V"⟩ : MethodName)) hown (mvT hZ (hw _ (List.mem_of_getElem? (i := 36) rfl))) (mvT hZ (hw _ (List.mem_of_getElem? (i := 37) rfl))) (notFace_of_selects (args := #[]) (mvT hZ (hw _ (List.mem_of_getElem? (i := 39) rfl)))) (mvT hZ (hw _ (List.mem_of_getElem? (i := 39) rfl))) (mvT hZ (hw _ (List.mem_of_getElem? (i := 38) rfl))) (by decide) (backOf (W := 0) (rm5 l Z a0 hw [] c1 c2 .null h30 n0 Z_30 F_value_c1_i_30 E_c1_i_30 g_c1) hZ (hw _ (List.mem_of_getElem? (i := 40) rfl)) (hw _ (List.mem_of_getElem? (i := 3) rfl)) (by decide) (by decide)) qv55a qv55c (g := (mkF m 162 #[.val (.long q0), .second, .val (.long q1), .second, .val (.long q2), .second, .val (.int p3), .val (.int p4), .val (.int p5), .val (.int bb), .val (.int ae), .val (.int u), .val (.int sx), .val (.ref c0), .val (.ref c1), .val (.ref c2), .val (.ref at_), .val (.ref cs), .unset, .unset] [(.ref c2), (.ref c1)])) rfl (by rw [hml]; rfl) (Steps.refl _) (argsL := [(.ref c2)]) (rest := []) (lenOf pd_3 rfl) rfl (by show 2 * 0 + _ ≤ _; exact Nat.le_of_eq rfl) (hb hby at_162) (fun _ _ => ⟨rfl, e30, (by decide : 7 + 0 ≤ _), (by decide : 18 + 0 ≤ _)⟩)
          dsimp only [Pt.U, Pt.locs, Pt.cells, Pt.slots] at X55 l55 y55 z55 st55 hQ55
          subst l55 y55 z55
          obtain ⟨rfl, Nq55, K55, Fv55⟩ := hQ55
          have N55 := Fr.app N30 Nq55
          have E_c0_i_55 := E_c0_i_30.keep K55
          have E_c1_i_55 := E_c1_i_30.keep K55
          have E_c2_i_55 := E_c2_i_30.keep K55
          have F_value_c2_i_55 := F_value_c2_i_30.keep K55 (ninS (Ne.symm ne_c1_c2) nin0)
          have E_at__i_55 := E_at__i_30.keep K55
          have V_cs_55 := V_cs_30.keep K55 (ninS (Ne.symm ne_c1_cs) nin0)
          have p30_55 := p30_0.keep K55 (ninS ne_c0_c1 nin0)
          have Z_55 : n0 ≤ T55.heap.size := Nat.le_trans Z_30 K55.1
          have kz_55 : k1_19 ≤ T55.heap.size := Nat.le_trans kz_30 K55.1
          have Kp_55 : Keep h30 T55.heap [c1] := Km.trans K55 (allS (Or.inl (List.mem_of_getElem? (i := 0) rfl)) (all0))
          exact ⟨_, _, _, (by rw [own_V1, if_pos m1, if_pos m2, if_pos m3]; exact Fv55), X55, rfl, Kp_55, N55, fun target kt => (st48 _ (st49 _ (st50 _ (st51 _ (st52 _ (st53 _ (st54 _ (st55.trans kt))))))))⟩
        · have st56 : ∀ target, Steps p.tables e below (T30.setTop (mkF m 148 #[.val (.long q0), .second, .val (.long q1), .second, .val (.long q2), .second, .val (.int p3), .val (.int p4), .val (.int p5), .val (.int bb), .val (.int ae), .val (.int u), .val (.int sx), .val (.ref c0), .val (.ref c1), .val (.ref c2), .val (.ref at_), .val (.ref cs), .unset, .unset] [])) target → Steps p.tables e below (T30.setTop (mkF m 145 #[.val (.long q0), .second, .val (.long q1), .second, .val (.long q2), .second, .val (.int p3), .val (.int p4), .val (.int p5), .val (.int bb), .val (.int ae), .val (.int u), .val (.int sx), .val (.ref c0), .val (.ref c1), .val (.ref c2), .val (.ref at_), .val (.ref cs), .unset, .unset] [(.int ae)])) target := by
            intro target kt
            refine XS.ifNo X30.here hx rfl (hb hby at_145) rfl ((if0 _ _).trans (feq m3).1) ?_
            exact kt
          have st57 : ∀ target, Steps p.tables e below (T30.setTop (mkF m 152 #[.val (.long q0), .second, .val (.long q1), .second, .val (.long q2), .second, .val (.int p3), .val (.int p4), .val (.int p5), .val (.int bb), .val (.int ae), .val (.int u), .val (.int sx), .val (.ref c0), .val (.ref c1), .val (.ref c2), .val (.ref at_), .val (.ref cs), .unset, .unset] [(.ref at_), (.ref c1)])) target → Steps p.tables e below (T30.setTop (mkF m 148 #[.val (.long q0), .second, .val (.long q1), .second, .val (.long q2), .second, .val (.int p3), .val (.int p4), .val (.int p5), .val (.int bb), .val (.int ae), .val (.int u), .val (.int sx), .val (.ref c0), .val (.ref c1), .val (.ref c2), .val (.ref at_), .val (.ref cs), .unset, .unset] [])) target := by
            intro target kt
            refine XS.aload X30.here hx rfl (hb hby at_148) rfl rfl ?_
            refine XS.aload X30.here hx rfl (hb hby at_150) rfl rfl ?_
            exact kt
          obtain ⟨cq58, kq58, qv58a, qv58b, qv58c⟩ := isOf hZ e30 E_c1_i_30
          obtain ⟨_, _, ⟨T58, L58, k58, n58⟩, -, X58, ⟨Lc58, hQ58, l58, y58, z58⟩, st58⟩ := X30.virtualBack hx (y := (⟨"com/example/nomlog/nomlog/lang/Cell", "bind", "(Lcom/example/nomlog/nomlog/lang/Term;)V"⟩ : MethodName)) (z := (⟨"com/example/nomlog/nomlog/lang/Cell", "bind", "(Lcom/example/nomlog/nomlog/lang/Term;)V"⟩ : MethodName)) hown (mvT hZ (hw _ (List.mem_of_getElem? (i := 36) rfl))) (mvT hZ (hw _ (List.mem_of_getElem? (i := 37) rfl))) (notFace_of_selects (args := #[]) (mvT hZ (hw _ (List.mem_of_getElem? (i := 39) rfl)))) (mvT hZ (hw _ (List.mem_of_getElem? (i := 39) rfl))) (mvT hZ (hw _ (List.mem_of_getElem? (i := 38) rfl))) (by decide) (backOf (W := 0) (rm5 l Z a0 hw [] c1 at_ .null h30 n0 Z_30 F_value_c1_i_30 E_c1_i_30 g_c1) hZ (hw _ (List.mem_of_getElem? (i := 40) rfl)) (hw _ (List.mem_of_getElem? (i := 3) rfl)) (by decide) (by decide)) qv58a qv58c (g := (mkF m 152 #[.val (.long q0), .second, .val (.long q1), .second, .val (.long q2), .second, .val (.int p3), .val (.int p4), .val (.int p5), .val (.int bb), .val (.int ae), .val (.int u), .val (.int sx), .val (.ref c0), .val (.ref c1), .val (.ref c2), .val (.ref at_), .val (.ref cs), .unset, .unset] [(.ref at_), (.ref c1)])) rfl (by rw [hml]; rfl) (Steps.refl _) (argsL := [(.ref at_)]) (rest := []) (lenOf pd_3 rfl) rfl (by show 2 * 0 + _ ≤ _; exact Nat.le_of_eq rfl) (hb hby at_152) (fun _ _ => ⟨rfl, e30, (by decide : 7 + 0 ≤ _), (by decide : 18 + 0 ≤ _)⟩)
          dsimp only [Pt.U, Pt.locs, Pt.cells, Pt.slots] at X58 l58 y58 z58 st58 hQ58
          subst l58 y58 z58
          obtain ⟨rfl, Nq58, K58, Fv58⟩ := hQ58
          have N58 := Fr.app N30 Nq58
          have E_c0_i_58 := E_c0_i_30.keep K58
          have E_c1_i_58 := E_c1_i_30.keep K58
          have E_c2_i_58 := E_c2_i_30.keep K58
          have F_value_c2_i_58 := F_value_c2_i_30.keep K58 (ninS (Ne.symm ne_c1_c2) nin0)
          have E_at__i_58 := E_at__i_30.keep K58
          have V_cs_58 := V_cs_30.keep K58 (ninS (Ne.symm ne_c1_cs) nin0)
          have p30_58 := p30_0.keep K58 (ninS ne_c0_c1 nin0)
          have Z_58 : n0 ≤ T58.heap.size := Nat.le_trans Z_30 K58.1
          have kz_58 : k1_19 ≤ T58.heap.size := Nat.le_trans kz_30 K58.1
          have Kp_58 : Keep h30 T58.heap [c1] := Km.trans K58 (allS (Or.inl (List.mem_of_getElem? (i := 0) rfl)) (all0))
          have st59 : ∀ target, Steps p.tables e below (T58.setTop (mkF m 165 #[.val (.long q0), .second, .val (.long q1), .second, .val (.long q2), .second, .val (.int p3), .val (.int p4), .val (.int p5), .val (.int bb), .val (.int ae), .val (.int u), .val (.int sx), .val (.ref c0), .val (.ref c1), .val (.ref c2), .val (.ref at_), .val (.ref cs), .unset, .unset] [])) target → Steps p.tables e below (T58.setTop (mkF m 155 #[.val (.long q0), .second, .val (.long q1), .second, .val (.long q2), .second, .val (.int p3), .val (.int p4), .val (.int p5), .val (.int bb), .val (.int ae), .val (.int u), .val (.int sx), .val (.ref c0), .val (.ref c1), .val (.ref c2), .val (.ref at_), .val (.ref cs), .unset, .unset] [])) target := by
            intro target kt
            refine XS.goto X58.here hx rfl (pc0 := 155) (pc' := 165) rfl (hb hby at_155) (by decide) (by decide) ?_
            exact kt
          exact ⟨_, _, _, (by rw [own_V1, if_pos m1, if_pos m2, if_neg m3]; exact Fv58), X58, rfl, Kp_58, N58, fun target kt => (st48 _ (st49 _ (st50 _ (st51 _ (st52 _ (st56 _ (st57 _ (st58.trans (st59 _ kt)))))))))⟩
      · have st60 : ∀ target, Steps p.tables e below (T30.setTop (mkF m 158 #[.val (.long q0), .second, .val (.long q1), .second, .val (.long q2), .second, .val (.int p3), .val (.int p4), .val (.int p5), .val (.int bb), .val (.int ae), .val (.int u), .val (.int sx), .val (.ref c0), .val (.ref c1), .val (.ref c2), .val (.ref at_), .val (.ref cs), .unset, .unset] [])) target → Steps p.tables e below (T30.setTop (mkF m 140 #[.val (.long q0), .second, .val (.long q1), .second, .val (.long q2), .second, .val (.int p3), .val (.int p4), .val (.int p5), .val (.int bb), .val (.int ae), .val (.int u), .val (.int sx), .val (.ref c0), .val (.ref c1), .val (.ref c2), .val (.ref at_), .val (.ref cs), .unset, .unset] [(.int (2 : Int32)), (.int bb)])) target := by
          intro target kt
          refine XS.icmpYes X30.here hx rfl (pc0 := 140) (pc' := 158) rfl (hb hby at_140) rfl (feq m2).2 (by decide) (by decide) ?_
          exact kt
        have st61 : ∀ target, Steps p.tables e below (T30.setTop (mkF m 162 #[.val (.long q0), .second, .val (.long q1), .second, .val (.long q2), .second, .val (.int p3), .val (.int p4), .val (.int p5), .val (.int bb), .val (.int ae), .val (.int u), .val (.int sx), .val (.ref c0), .val (.ref c1), .val (.ref c2), .val (.ref at_), .val (.ref cs), .unset, .unset] [(.ref c2), (.ref c1)])) target → Steps p.tables e below (T30.setTop (mkF m 158 #[.val (.long q0), .second, .val (.long q1), .second, .val (.long q2), .second, .val (.int p3), .val (.int p4), .val (.int p5), .val (.int bb), .val (.int ae), .val (.int u), .val (.int sx), .val (.ref c0), .val (.ref c1), .val (.ref c2), .val (.ref at_), .val (.ref cs), .unset, .unset] [])) target := by
          intro target kt
          refine XS.aload X30.here hx rfl (hb hby at_158) rfl rfl ?_
          refine XS.aload X30.here hx rfl (hb hby at_160) rfl rfl ?_
          exact kt
        obtain ⟨cq62, kq62, qv62a, qv62b, qv62c⟩ := isOf hZ e30 E_c1_i_30
        obtain ⟨_, _, ⟨T62, L62, k62, n62⟩, -, X62, ⟨Lc62, hQ62, l62, y62, z62⟩, st62⟩ := X30.virtualBack hx (y := (⟨"com/example/nomlog/nomlog/lang/Cell", "bind", "(Lcom/example/nomlog/nomlog/lang/Term;)V"⟩ : MethodName)) (z := (⟨"com/example/nomlog/nomlog/lang/Cell", "bind", "(Lcom/example/nomlog/nomlog/lang/Term;)V"⟩ : MethodName)) hown (mvT hZ (hw _ (List.mem_of_getElem? (i := 36) rfl))) (mvT hZ (hw _ (List.mem_of_getElem? (i := 37) rfl))) (notFace_of_selects (args := #[]) (mvT hZ (hw _ (List.mem_of_getElem? (i := 39) rfl)))) (mvT hZ (hw _ (List.mem_of_getElem? (i := 39) rfl))) (mvT hZ (hw _ (List.mem_of_getElem? (i := 38) rfl))) (by decide) (backOf (W := 0) (rm5 l Z a0 hw [] c1 c2 .null h30 n0 Z_30 F_value_c1_i_30 E_c1_i_30 g_c1) hZ (hw _ (List.mem_of_getElem? (i := 40) rfl)) (hw _ (List.mem_of_getElem? (i := 3) rfl)) (by decide) (by decide)) qv62a qv62c (g := (mkF m 162 #[.val (.long q0), .second, .val (.long q1), .second, .val (.long q2), .second, .val (.int p3), .val (.int p4), .val (.int p5), .val (.int bb), .val (.int ae), .val (.int u), .val (.int sx), .val (.ref c0), .val (.ref c1), .val (.ref c2), .val (.ref at_), .val (.ref cs), .unset, .unset] [(.ref c2), (.ref c1)])) rfl (by rw [hml]; rfl) (Steps.refl _) (argsL := [(.ref c2)]) (rest := []) (lenOf pd_3 rfl) rfl (by show 2 * 0 + _ ≤ _; exact Nat.le_of_eq rfl) (hb hby at_162) (fun _ _ => ⟨rfl, e30, (by decide : 7 + 0 ≤ _), (by decide : 18 + 0 ≤ _)⟩)
        dsimp only [Pt.U, Pt.locs, Pt.cells, Pt.slots] at X62 l62 y62 z62 st62 hQ62
        subst l62 y62 z62
        obtain ⟨rfl, Nq62, K62, Fv62⟩ := hQ62
        have N62 := Fr.app N30 Nq62
        have E_c0_i_62 := E_c0_i_30.keep K62
        have E_c1_i_62 := E_c1_i_30.keep K62
        have E_c2_i_62 := E_c2_i_30.keep K62
        have F_value_c2_i_62 := F_value_c2_i_30.keep K62 (ninS (Ne.symm ne_c1_c2) nin0)
        have E_at__i_62 := E_at__i_30.keep K62
        have V_cs_62 := V_cs_30.keep K62 (ninS (Ne.symm ne_c1_cs) nin0)
        have p30_62 := p30_0.keep K62 (ninS ne_c0_c1 nin0)
        have Z_62 : n0 ≤ T62.heap.size := Nat.le_trans Z_30 K62.1
        have kz_62 : k1_19 ≤ T62.heap.size := Nat.le_trans kz_30 K62.1
        have Kp_62 : Keep h30 T62.heap [c1] := Km.trans K62 (allS (Or.inl (List.mem_of_getElem? (i := 0) rfl)) (all0))
        exact ⟨_, _, _, (by rw [own_V1, if_pos m1, if_neg m2]; exact Fv62), X62, rfl, Kp_62, N62, fun target kt => (st48 _ (st49 _ (st50 _ (st60 _ (st61 _ (st62.trans kt))))))⟩
    · have st63 : ∀ target, Steps p.tables e below (T30.setTop (mkF m 165 #[.val (.long q0), .second, .val (.long q1), .second, .val (.long q2), .second, .val (.int p3), .val (.int p4), .val (.int p5), .val (.int bb), .val (.int ae), .val (.int u), .val (.int sx), .val (.ref c0), .val (.ref c1), .val (.ref c2), .val (.ref at_), .val (.ref cs), .unset, .unset] [])) target → Steps p.tables e below (T30.setTop (mkF m 134 #[.val (.long q0), .second, .val (.long q1), .second, .val (.long q2), .second, .val (.int p3), .val (.int p4), .val (.int p5), .val (.int bb), .val (.int ae), .val (.int u), .val (.int sx), .val (.ref c0), .val (.ref c1), .val (.ref c2), .val (.ref at_), .val (.ref cs), .unset, .unset] [(.int (1 : Int32)), (.int bb)])) target := by
        intro target kt
        show Steps p.tables e below (T30.setTop (mkF m 134 #[.val (.long q0), .second, .val (.long q1), .second, .val (.long q2), .second, .val (.int p3), .val (.int p4), .val (.int p5), .val (.int bb), .val (.int ae), .val (.int u), .val (.int sx), .val (.ref c0), .val (.ref c1), .val (.ref c2), .val (.ref at_), .val (.ref cs), .unset, .unset] [(.int (1 : Int32)), (.int bb)])) _
        refine XS.icmpYes X30.here hx rfl (pc0 := 134) (pc' := 165) rfl (hb hby at_134) rfl (flt m1).2.2.2 (by decide) (by decide) ?_
        exact kt
      exact ⟨_, _, _, (by rw [own_V1, if_neg m1]; exact F_value_c1_i_30), X30, e30, Km, N30, fun target kt => (st48 _ (st63 _ kt))⟩
  have E_c0_i_47 := E_c0_i_30.keep K47
  have E_c1_i_47 := E_c1_i_30.keep K47
  have E_c2_i_47 := E_c2_i_30.keep K47
  have F_value_c2_i_47 := F_value_c2_i_30.keep K47 (ninS (Ne.symm ne_c1_c2) nin0)
  have E_at__i_47 := E_at__i_30.keep K47
  have V_cs_47 := V_cs_30.keep K47 (ninS (Ne.symm ne_c1_cs) nin0)
  have p30_47 := p30_0.keep K47 (ninS ne_c0_c1 nin0)
  have Z_47 : n0 ≤ h47.size := Nat.le_trans Z_30 K47.1
  have kz_47 : k1_19 ≤ h47.size := Nat.le_trans kz_30 K47.1
  obtain ⟨T64, h64, L64, p64_0, X64, e64, K64, N64, st64⟩ : ∃ (T' : State) (h' : Heap) (L' : List Loc), (Fld Z h' c2 "com/example/nomlog/nomlog/lang/Cell" "value" "Lcom/example/nomlog/nomlog/lang/Term;" (own_V2 bb at_)) ∧ Stand p l e room_1 (s.setVm T19.vm) m #[(.long q0), (.long q1), (.long q2), (.int p3), (.int p4), (.int p5)] below meth c T' L' 7 18 ∧ T'.heap = h' ∧ Keep h47 h' [c2] ∧ Fr n0 L' ∧ ∀ target, Steps p.tables e below (T'.setTop (mkF m 178 #[.val (.long q0), .second, .val (.long q1), .second, .val (.long q2), .second, .val (.int p3), .val (.int p4), .val (.int p5), .val (.int bb), .val (.int ae), .val (.int u), .val (.int sx), .val (.ref c0), .val (.ref c1), .val (.ref c2), .val (.ref at_), .val (.ref cs), .unset, .unset] [])) target → Steps p.tables e below (T47.setTop (mkF m 165 #[.val (.long q0), .second, .val (.long q1), .second, .val (.long q2), .second, .val (.int p3), .val (.int p4), .val (.int p5), .val (.int bb), .val (.int ae), .val (.int u), .val (.int sx), .val (.ref c0), .val (.ref c1), .val (.ref c2), .val (.ref at_), .val (.ref cs), .unset, .unset] [])) target := by
    have Km : Keep h47 h47 [c2] := Keep.refl _ _
    have st65 : ∀ target, Steps p.tables e below (T47.setTop (mkF m 168 #[.val (.long q0), .second, .val (.long q1), .second, .val (.long q2), .second, .val (.int p3), .val (.int p4), .val (.int p5), .val (.int bb), .val (.int ae), .val (.int u), .val (.int sx), .val (.ref c0), .val (.ref c1), .val (.ref c2), .val (.ref at_), .val (.ref cs), .unset, .unset] [(.int (2 : Int32)), (.int bb)])) target → Steps p.tables e below (T47.setTop (mkF m 165 #[.val (.long q0), .second, .val (.long q1), .second, .val (.long q2), .second, .val (.int p3), .val (.int p4), .val (.int p5), .val (.int bb), .val (.int ae), .val (.int u), .val (.int sx), .val (.ref c0), .val (.ref c1), .val (.ref c2), .val (.ref at_), .val (.ref cs), .unset, .unset] [])) target := by
      intro target kt
      refine XS.iload X47.here hx rfl (hb hby at_165) rfl ?_
      refine XS.iconst X47.here hx rfl (hb hby at_167) ?_
      exact kt
    by_cases m1 : (2 : Int32) < bb
    · have st66 : ∀ target, Steps p.tables e below (T47.setTop (mkF m 171 #[.val (.long q0), .second, .val (.long q1), .second, .val (.long q2), .second, .val (.int p3), .val (.int p4), .val (.int p5), .val (.int bb), .val (.int ae), .val (.int u), .val (.int sx), .val (.ref c0), .val (.ref c1), .val (.ref c2), .val (.ref at_), .val (.ref cs), .unset, .unset] [])) target → Steps p.tables e below (T47.setTop (mkF m 168 #[.val (.long q0), .second, .val (.long q1), .second, .val (.long q2), .second, .val (.int p3), .val (.int p4), .val (.int p5), .val (.int bb), .val (.int ae), .val (.int u), .val (.int sx), .val (.ref c0), .val (.ref c1), .val (.ref c2), .val (.ref at_), .val (.ref cs), .unset, .unset] [(.int (2 : Int32)), (.int bb)])) target := by
        intro target kt
        refine XS.icmpNo X47.here hx rfl (hb hby at_168) rfl (tlt m1).2.2.2 ?_
        exact kt
      have st67 : ∀ target, Steps p.tables e below (T47.setTop (mkF m 175 #[.val (.long q0), .second, .val (.long q1), .second, .val (.long q2), .second, .val (.int p3), .val (.int p4), .val (.int p5), .val (.int bb), .val (.int ae), .val (.int u), .val (.int sx), .val (.ref c0), .val (.ref c1), .val (.ref c2), .val (.ref at_), .val (.ref cs), .unset, .unset] [(.ref at_), (.ref c2)])) target → Steps p.tables e below (T47.setTop (mkF m 171 #[.val (.long q0), .second, .val (.long q1), .second, .val (.long q2), .second, .val (.int p3), .val (.int p4), .val (.int p5), .val (.int bb), .val (.int ae), .val (.int u), .val (.int sx), .val (.ref c0), .val (.ref c1), .val (.ref c2), .val (.ref at_), .val (.ref cs), .unset, .unset] [])) target := by
        intro target kt
        refine XS.aload X47.here hx rfl (hb hby at_171) rfl rfl ?_
        refine XS.aload X47.here hx rfl (hb hby at_173) rfl rfl ?_
        exact kt
      obtain ⟨cq68, kq68, qv68a, qv68b, qv68c⟩ := isOf hZ e47 E_c2_i_47
      obtain ⟨_, _, ⟨T68, L68, k68, n68⟩, -, X68, ⟨Lc68, hQ68, l68, y68, z68⟩, st68⟩ := X47.virtualBack hx (y := (⟨"com/example/nomlog/nomlog/lang/Cell", "bind", "(Lcom/example/nomlog/nomlog/lang/Term;)V"⟩ : MethodName)) (z := (⟨"com/example/nomlog/nomlog/lang/Cell", "bind", "(Lcom/example/nomlog/nomlog/lang/Term;)V"⟩ : MethodName)) hown (mvT hZ (hw _ (List.mem_of_getElem? (i := 36) rfl))) (mvT hZ (hw _ (List.mem_of_getElem? (i := 37) rfl))) (notFace_of_selects (args := #[]) (mvT hZ (hw _ (List.mem_of_getElem? (i := 39) rfl)))) (mvT hZ (hw _ (List.mem_of_getElem? (i := 39) rfl))) (mvT hZ (hw _ (List.mem_of_getElem? (i := 38) rfl))) (by decide) (backOf (W := 0) (rm5 l Z a0 hw [] c2 at_ .null h47 n0 Z_47 F_value_c2_i_47 E_c2_i_47 g_c2) hZ (hw _ (List.mem_of_getElem? (i := 40) rfl)) (hw _ (List.mem_of_getElem? (i := 3) rfl)) (by decide) (by decide)) qv68a qv68c (g := (mkF m 175 #[.val (.long q0), .second, .val (.long q1), .second, .val (.long q2), .second, .val (.int p3), .val (.int p4), .val (.int p5), .val (.int bb), .val (.int ae), .val (.int u), .val (.int sx), .val (.ref c0), .val (.ref c1), .val (.ref c2), .val (.ref at_), .val (.ref cs), .unset, .unset] [(.ref at_), (.ref c2)])) rfl (by rw [hml]; rfl) (Steps.refl _) (argsL := [(.ref at_)]) (rest := []) (lenOf pd_3 rfl) rfl (by show 2 * 0 + _ ≤ _; exact Nat.le_of_eq rfl) (hb hby at_175) (fun _ _ => ⟨rfl, e47, (by decide : 7 + 0 ≤ _), (by decide : 18 + 0 ≤ _)⟩)
      dsimp only [Pt.U, Pt.locs, Pt.cells, Pt.slots] at X68 l68 y68 z68 st68 hQ68
      subst l68 y68 z68
      obtain ⟨rfl, Nq68, K68, Fv68⟩ := hQ68
      have N68 := Fr.app N47 Nq68
      have E_c0_i_68 := E_c0_i_47.keep K68
      have E_c1_i_68 := E_c1_i_47.keep K68
      have E_c2_i_68 := E_c2_i_47.keep K68
      have E_at__i_68 := E_at__i_47.keep K68
      have V_cs_68 := V_cs_47.keep K68 (ninS (Ne.symm ne_c2_cs) nin0)
      have p30_68 := p30_47.keep K68 (ninS ne_c0_c2 nin0)
      have p47_68 := p47_0.keep K68 (ninS ne_c1_c2 nin0)
      have Z_68 : n0 ≤ T68.heap.size := Nat.le_trans Z_47 K68.1
      have kz_68 : k1_19 ≤ T68.heap.size := Nat.le_trans kz_47 K68.1
      have Kp_68 : Keep h47 T68.heap [c2] := Km.trans K68 (allS (Or.inl (List.mem_of_getElem? (i := 0) rfl)) (all0))
      exact ⟨_, _, _, (by rw [own_V2, if_pos m1]; exact Fv68), X68, rfl, Kp_68, N68, fun target kt => (st65 _ (st66 _ (st67 _ (st68.trans kt))))⟩
    · have st69 : ∀ target, Steps p.tables e below (T47.setTop (mkF m 178 #[.val (.long q0), .second, .val (.long q1), .second, .val (.long q2), .second, .val (.int p3), .val (.int p4), .val (.int p5), .val (.int bb), .val (.int ae), .val (.int u), .val (.int sx), .val (.ref c0), .val (.ref c1), .val (.ref c2), .val (.ref at_), .val (.ref cs), .unset, .unset] [])) target → Steps p.tables e below (T47.setTop (mkF m 168 #[.val (.long q0), .second, .val (.long q1), .second, .val (.long q2), .second, .val (.int p3), .val (.int p4), .val (.int p5), .val (.int bb), .val (.int ae), .val (.int u), .val (.int sx), .val (.ref c0), .val (.ref c1), .val (.ref c2), .val (.ref at_), .val (.ref cs), .unset, .unset] [(.int (2 : Int32)), (.int bb)])) target := by
        intro target kt
        refine XS.icmpYes X47.here hx rfl (pc0 := 168) (pc' := 178) rfl (hb hby at_168) rfl (flt m1).2.2.2 (by decide) (by decide) ?_
        exact kt
      exact ⟨_, _, _, (by rw [own_V2, if_neg m1]; exact F_value_c2_i_47), X47, e47, Km, N47, fun target kt => (st65 _ (st69 _ kt))⟩
  have E_c0_i_64 := E_c0_i_47.keep K64
  have E_c1_i_64 := E_c1_i_47.keep K64
  have E_c2_i_64 := E_c2_i_47.keep K64
  have E_at__i_64 := E_at__i_47.keep K64
  have V_cs_64 := V_cs_47.keep K64 (ninS (Ne.symm ne_c2_cs) nin0)
  have p30_64 := p30_47.keep K64 (ninS ne_c0_c2 nin0)
  have p47_64 := p47_0.keep K64 (ninS ne_c1_c2 nin0)
  have Z_64 : n0 ≤ h64.size := Nat.le_trans Z_47 K64.1
  have kz_64 : k1_19 ≤ h64.size := Nat.le_trans kz_47 K64.1
  obtain ⟨T70, h70, L70, p70_0, p70_1, p70_2, X70, e70, K70, N70, st70⟩ : ∃ (T' : State) (h' : Heap) (L' : List Loc), (Fld Z h' c0 "com/example/nomlog/nomlog/lang/Cell" "value" "Lcom/example/nomlog/nomlog/lang/Term;" (own_cut u 0 (own_V0 bb ae c1 at_))) ∧ (Fld Z h' c1 "com/example/nomlog/nomlog/lang/Cell" "value" "Lcom/example/nomlog/nomlog/lang/Term;" (own_cut u 1 (own_V1 bb ae c2 at_))) ∧ (Fld Z h' c2 "com/example/nomlog/nomlog/lang/Cell" "value" "Lcom/example/nomlog/nomlog/lang/Term;" (own_cut u 2 (own_V2 bb at_))) ∧ Stand p l e room_1 (s.setVm T19.vm) m #[(.long q0), (.long q1), (.long q2), (.int p3), (.int p4), (.int p5)] below meth c T' L' 7 18 ∧ T'.heap = h' ∧ Keep h64 h' [c0, c1, c2] ∧ Fr n0 L' ∧ ∀ target, Steps p.tables e below (T'.setTop (mkF m 192 #[.val (.long q0), .second, .val (.long q1), .second, .val (.long q2), .second, .val (.int p3), .val (.int p4), .val (.int p5), .val (.int bb), .val (.int ae), .val (.int u), .val (.int sx), .val (.ref c0), .val (.ref c1), .val (.ref c2), .val (.ref at_), .val (.ref cs), .unset, .unset] [])) target → Steps p.tables e below (T64.setTop (mkF m 178 #[.val (.long q0), .second, .val (.long q1), .second, .val (.long q2), .second, .val (.int p3), .val (.int p4), .val (.int p5), .val (.int bb), .val (.int ae), .val (.int u), .val (.int sx), .val (.ref c0), .val (.ref c1), .val (.ref c2), .val (.ref at_), .val (.ref cs), .unset, .unset] [])) target := by
    have Km : Keep h64 h64 [c0, c1, c2] := Keep.refl _ _
    rcases hu4 with rfl | rfl | rfl | rfl
    · have st71 : ∀ target, Steps p.tables e below (T64.setTop (mkF m 188 #[.val (.long q0), .second, .val (.long q1), .second, .val (.long q2), .second, .val (.int p3), .val (.int p4), .val (.int p5), .val (.int bb), .val (.int ae), .val (.int (0 : Int32)), .val (.int sx), .val (.ref c0), .val (.ref c1), .val (.ref c2), .val (.ref at_), .val (.ref cs), .unset, .unset] [(.int (0 : Int32)), (.ref cs)])) target → Steps p.tables e below (T64.setTop (mkF m 178 #[.val (.long q0), .second, .val (.long q1), .second, .val (.long q2), .second, .val (.int p3), .val (.int p4), .val (.int p5), .val (.int bb), .val (.int ae), .val (.int (0 : Int32)), .val (.int sx), .val (.ref c0), .val (.ref c1), .val (.ref c2), .val (.ref at_), .val (.ref cs), .unset, .unset] [])) target := by
        intro target kt
        refine XS.iload X64.here hx rfl (hb hby at_178) rfl ?_
        show Steps p.tables e below (T64.setTop (mkF m 180 #[.val (.long q0), .second, .val (.long q1), .second, .val (.long q2), .second, .val (.int p3), .val (.int p4), .val (.int p5), .val (.int bb), .val (.int ae), .val (.int (0 : Int32)), .val (.int sx), .val (.ref c0), .val (.ref c1), .val (.ref c2), .val (.ref at_), .val (.ref cs), .unset, .unset] [(.int (0 : Int32))])) _
        refine XS.iconst X64.here hx rfl (hb hby at_180) ?_
        refine XS.icmpNo X64.here hx rfl (hb hby at_181) rfl (tlt (by decide : ((0 : Int32) < (3 : Int32)))).2.1 ?_
        refine XS.aload X64.here hx rfl (hb hby at_184) rfl rfl ?_
        refine XS.iload X64.here hx rfl (hb hby at_186) rfl ?_
        exact kt
      obtain ⟨cl72, Ar72, qc72, Sz72, Mn72, Hs72, Gs72⟩ := id V_cs_64
      have hin72 : ¬ ((0 : Int32) < 0 ∨ cl72.slots.size ≤ ((0 : Int32)).toNatClampNeg) := inb_of Sz72 ⟨by decide, by decide⟩
      have hat72 : cl72.slots[((0 : Int32)).toNatClampNeg]? = some (.ref c0) := Hs72.at hin72 rfl
      have st72 : ∀ target, Steps p.tables e below (T64.setTop (mkF m 189 #[.val (.long q0), .second, .val (.long q1), .second, .val (.long q2), .second, .val (.int p3), .val (.int p4), .val (.int p5), .val (.int bb), .val (.int ae), .val (.int (0 : Int32)), .val (.int sx), .val (.ref c0), .val (.ref c1), .val (.ref c2), .val (.ref at_), .val (.ref cs), .unset, .unset] [(.ref c0)])) target → Steps p.tables e below (T64.setTop (mkF m 188 #[.val (.long q0), .second, .val (.long q1), .second, .val (.long q2), .second, .val (.int p3), .val (.int p4), .val (.int p5), .val (.int bb), .val (.int ae), .val (.int (0 : Int32)), .val (.int sx), .val (.ref c0), .val (.ref c1), .val (.ref c2), .val (.ref at_), .val (.ref cs), .unset, .unset] [(.int (0 : Int32)), (.ref cs)])) target := fun target kt => X64.aaload hx (j := (0 : Int32)) (v := (.ref c0)) (by rw [e64]; exact Ar72.1) (State.isArrayOf_alike hZ.alike Ar72.2.1) rfl Ar72.2.2 hin72 hat72 (g := (mkF m 188 #[.val (.long q0), .second, .val (.long q1), .second, .val (.long q2), .second, .val (.int p3), .val (.int p4), .val (.int p5), .val (.int bb), .val (.int ae), .val (.int (0 : Int32)), .val (.int sx), .val (.ref c0), .val (.ref c1), .val (.ref c2), .val (.ref at_), .val (.ref cs), .unset, .unset] [(.int (0 : Int32)), (.ref cs)])) rfl rfl (hb hby at_188) _ kt
      obtain ⟨cq73, kq73, qv73a, qv73b, qv73c⟩ := isOf hZ e64 E_c0_i_64
      obtain ⟨_, _, ⟨T73, L73, k73, n73⟩, -, X73, ⟨Lc73, hQ73, l73, y73, z73⟩, st73⟩ := X64.virtualBack hx (y := (⟨"com/example/nomlog/nomlog/lang/Cell", "unbind", "()V"⟩ : MethodName)) (z := (⟨"com/example/nomlog/nomlog/lang/Cell", "unbind", "()V"⟩ : MethodName)) hown (mvT hZ (hw _ (List.mem_of_getElem? (i := 49) rfl))) (mvT hZ (hw _ (List.mem_of_getElem? (i := 50) rfl))) (notFace_of_selects (args := #[]) (mvT hZ (hw _ (List.mem_of_getElem? (i := 52) rfl)))) (mvT hZ (hw _ (List.mem_of_getElem? (i := 52) rfl))) (mvT hZ (hw _ (List.mem_of_getElem? (i := 51) rfl))) (by decide) (backOf (W := 0) (rm7 l Z a0 hw [] c0 (own_V0 bb ae c1 at_) h64 n0 Z_64 p30_64 E_c0_i_64 g_c0) hZ (hw _ (List.mem_of_getElem? (i := 53) rfl)) (hw _ (List.mem_of_getElem? (i := 3) rfl)) (by decide) (by decide)) qv73a qv73c (g := (mkF m 189 #[.val (.long q0), .second, .val (.long q1), .second, .val (.long q2), .second, .val (.int p3), .val (.int p4), .val (.int p5), .val (.int bb), .val (.int ae), .val (.int (0 : Int32)), .val (.int sx), .val (.ref c0), .val (.ref c1), .val (.ref c2), .val (.ref at_), .val (.ref cs), .unset, .unset] [(.ref c0)])) rfl (by rw [hml]; rfl) (Steps.refl _) (argsL := []) (rest := []) (lenOf pd_1 rfl) rfl (by show 2 * 0 + _ ≤ _; exact Nat.le_of_eq rfl) (hb hby at_189) (fun _ _ => ⟨rfl, e64, (by decide : 7 + 0 ≤ _), (by decide : 18 + 0 ≤ _)⟩)
      dsimp only [Pt.U, Pt.locs, Pt.cells, Pt.slots] at X73 l73 y73 z73 st73 hQ73
      subst l73 y73 z73
      obtain ⟨rfl, Nq73, K73, Fv73⟩ := hQ73
      have N73 := Fr.app N64 Nq73
      have E_c0_i_73 := E_c0_i_64.keep K73
      have E_c1_i_73 := E_c1_i_64.keep K73
      have E_c2_i_73 := E_c2_i_64.keep K73
      have E_at__i_73 := E_at__i_64.keep K73
      have V_cs_73 := V_cs_64.keep K73 (ninS (Ne.symm ne_c0_cs) nin0)
      have p47_73 := p47_64.keep K73 (ninS (Ne.symm ne_c0_c1) nin0)
      have p64_73 := p64_0.keep K73 (ninS (Ne.symm ne_c0_c2) nin0)
      have Z_73 : n0 ≤ T73.heap.size := Nat.le_trans Z_64 K73.1
      have kz_73 : k1_19 ≤ T73.heap.size := Nat.le_trans kz_64 K73.1
      have Kp_73 : Keep h64 T73.heap [c0, c1, c2] := Km.trans K73 (allS (Or.inl (List.mem_of_getElem? (i := 0) rfl)) (all0))
      exact ⟨_, _, _, (by rw [own_cut, if_pos rfl]; exact Fv73), (by rw [own_cut, if_neg (by decide)]; exact p47_73), (by rw [own_cut, if_neg (by decide)]; exact p64_73), X73, rfl, Kp_73, N73, fun target kt => (st71 _ (st72 _ (st73.trans kt)))⟩
    · have st74 : ∀ target, Steps p.tables e below (T64.setTop (mkF m 188 #[.val (.long q0), .second, .val (.long q1), .second, .val (.long q2), .second, .val (.int p3), .val (.int p4), .val (.int p5), .val (.int bb), .val (.int ae), .val (.int (1 : Int32)), .val (.int sx), .val (.ref c0), .val (.ref c1), .val (.ref c2), .val (.ref at_), .val (.ref cs), .unset, .unset] [(.int (1 : Int32)), (.ref cs)])) target → Steps p.tables e below (T64.setTop (mkF m 178 #[.val (.long q0), .second, .val (.long q1), .second, .val (.long q2), .second, .val (.int p3), .val (.int p4), .val (.int p5), .val (.int bb), .val (.int ae), .val (.int (1 : Int32)), .val (.int sx), .val (.ref c0), .val (.ref c1), .val (.ref c2), .val (.ref at_), .val (.ref cs), .unset, .unset] [])) target := by
        intro target kt
        refine XS.iload X64.here hx rfl (hb hby at_178) rfl ?_
        refine XS.iconst X64.here hx rfl (hb hby at_180) ?_
        refine XS.icmpNo X64.here hx rfl (hb hby at_181) rfl (tlt (by decide : ((1 : Int32) < (3 : Int32)))).2.1 ?_
        refine XS.aload X64.here hx rfl (hb hby at_184) rfl rfl ?_
        show Steps p.tables e below (T64.setTop (mkF m 186 #[.val (.long q0), .second, .val (.long q1), .second, .val (.long q2), .second, .val (.int p3), .val (.int p4), .val (.int p5), .val (.int bb), .val (.int ae), .val (.int (1 : Int32)), .val (.int sx), .val (.ref c0), .val (.ref c1), .val (.ref c2), .val (.ref at_), .val (.ref cs), .unset, .unset] [(.ref cs)])) _
        refine XS.iload X64.here hx rfl (hb hby at_186) rfl ?_
        exact kt
      obtain ⟨cl75, Ar75, qc75, Sz75, Mn75, Hs75, Gs75⟩ := id V_cs_64
      have hin75 : ¬ ((1 : Int32) < 0 ∨ cl75.slots.size ≤ ((1 : Int32)).toNatClampNeg) := inb_of Sz75 ⟨by decide, by decide⟩
      have hat75 : cl75.slots[((1 : Int32)).toNatClampNeg]? = some (.ref c1) := Hs75.at hin75 rfl
      have st75 : ∀ target, Steps p.tables e below (T64.setTop (mkF m 189 #[.val (.long q0), .second, .val (.long q1), .second, .val (.long q2), .second, .val (.int p3), .val (.int p4), .val (.int p5), .val (.int bb), .val (.int ae), .val (.int (1 : Int32)), .val (.int sx), .val (.ref c0), .val (.ref c1), .val (.ref c2), .val (.ref at_), .val (.ref cs), .unset, .unset] [(.ref c1)])) target → Steps p.tables e below (T64.setTop (mkF m 188 #[.val (.long q0), .second, .val (.long q1), .second, .val (.long q2), .second, .val (.int p3), .val (.int p4), .val (.int p5), .val (.int bb), .val (.int ae), .val (.int (1 : Int32)), .val (.int sx), .val (.ref c0), .val (.ref c1), .val (.ref c2), .val (.ref at_), .val (.ref cs), .unset, .unset] [(.int (1 : Int32)), (.ref cs)])) target := fun target kt => X64.aaload hx (j := (1 : Int32)) (v := (.ref c1)) (by rw [e64]; exact Ar75.1) (State.isArrayOf_alike hZ.alike Ar75.2.1) rfl Ar75.2.2 hin75 hat75 (g := (mkF m 188 #[.val (.long q0), .second, .val (.long q1), .second, .val (.long q2), .second, .val (.int p3), .val (.int p4), .val (.int p5), .val (.int bb), .val (.int ae), .val (.int (1 : Int32)), .val (.int sx), .val (.ref c0), .val (.ref c1), .val (.ref c2), .val (.ref at_), .val (.ref cs), .unset, .unset] [(.int (1 : Int32)), (.ref cs)])) rfl rfl (hb hby at_188) _ kt
      obtain ⟨cq76, kq76, qv76a, qv76b, qv76c⟩ := isOf hZ e64 E_c1_i_64
      obtain ⟨_, _, ⟨T76, L76, k76, n76⟩, -, X76, ⟨Lc76, hQ76, l76, y76, z76⟩, st76⟩ := X64.virtualBack hx (y := (⟨"com/example/nomlog/nomlog/lang/Cell", "unbind", "()V"⟩ : MethodName)) (z := (⟨"com/example/nomlog/nomlog/lang/Cell", "unbind", "()V"⟩ : MethodName)) hown (mvT hZ (hw _ (List.mem_of_getElem? (i := 49) rfl))) (mvT hZ (hw _ (List.mem_of_getElem? (i := 50) rfl))) (notFace_of_selects (args := #[]) (mvT hZ (hw _ (List.mem_of_getElem? (i := 52) rfl)))) (mvT hZ (hw _ (List.mem_of_getElem? (i := 52) rfl))) (mvT hZ (hw _ (List.mem_of_getElem? (i := 51) rfl))) (by decide) (backOf (W := 0) (rm7 l Z a0 hw [] c1 (own_V1 bb ae c2 at_) h64 n0 Z_64 p47_64 E_c1_i_64 g_c1) hZ (hw _ (List.mem_of_getElem? (i := 53) rfl)) (hw _ (List.mem_of_getElem? (i := 3) rfl)) (by decide) (by decide)) qv76a qv76c (g := (mkF m 189 #[.val (.long q0), .second, .val (.long q1), .second, .val (.long q2), .second, .val (.int p3), .val (.int p4), .val (.int p5), .val (.int bb), .val (.int ae), .val (.int (1 : Int32)), .val (.int sx), .val (.ref c0), .val (.ref c1), .val (.ref c2), .val (.ref at_), .val (.ref cs), .unset, .unset] [(.ref c1)])) rfl (by rw [hml]; rfl) (Steps.refl _) (argsL := []) (rest := []) (lenOf pd_1 rfl) rfl (by show 2 * 0 + _ ≤ _; exact Nat.le_of_eq rfl) (hb hby at_189) (fun _ _ => ⟨rfl, e64, (by decide : 7 + 0 ≤ _), (by decide : 18 + 0 ≤ _)⟩)
      dsimp only [Pt.U, Pt.locs, Pt.cells, Pt.slots] at X76 l76 y76 z76 st76 hQ76
      subst l76 y76 z76
      obtain ⟨rfl, Nq76, K76, Fv76⟩ := hQ76
      have N76 := Fr.app N64 Nq76
      have E_c0_i_76 := E_c0_i_64.keep K76
      have E_c1_i_76 := E_c1_i_64.keep K76
      have E_c2_i_76 := E_c2_i_64.keep K76
      have E_at__i_76 := E_at__i_64.keep K76
      have V_cs_76 := V_cs_64.keep K76 (ninS (Ne.symm ne_c1_cs) nin0)
      have p30_76 := p30_64.keep K76 (ninS ne_c0_c1 nin0)
      have p64_76 := p64_0.keep K76 (ninS (Ne.symm ne_c1_c2) nin0)
      have Z_76 : n0 ≤ T76.heap.size := Nat.le_trans Z_64 K76.1
      have kz_76 : k1_19 ≤ T76.heap.size := Nat.le_trans kz_64 K76.1
      have Kp_76 : Keep h64 T76.heap [c0, c1, c2] := Km.trans K76 (allS (Or.inl (List.mem_of_getElem? (i := 1) rfl)) (all0))
      exact ⟨_, _, _, (by rw [own_cut, if_neg (by decide)]; exact p30_76), (by rw [own_cut, if_pos rfl]; exact Fv76), (by rw [own_cut, if_neg (by decide)]; exact p64_76), X76, rfl, Kp_76, N76, fun target kt => (st74 _ (st75 _ (st76.trans kt)))⟩
    · have st77 : ∀ target, Steps p.tables e below (T64.setTop (mkF m 188 #[.val (.long q0), .second, .val (.long q1), .second, .val (.long q2), .second, .val (.int p3), .val (.int p4), .val (.int p5), .val (.int bb), .val (.int ae), .val (.int (2 : Int32)), .val (.int sx), .val (.ref c0), .val (.ref c1), .val (.ref c2), .val (.ref at_), .val (.ref cs), .unset, .unset] [(.int (2 : Int32)), (.ref cs)])) target → Steps p.tables e below (T64.setTop (mkF m 178 #[.val (.long q0), .second, .val (.long q1), .second, .val (.long q2), .second, .val (.int p3), .val (.int p4), .val (.int p5), .val (.int bb), .val (.int ae), .val (.int (2 : Int32)), .val (.int sx), .val (.ref c0), .val (.ref c1), .val (.ref c2), .val (.ref at_), .val (.ref cs), .unset, .unset] [])) target := by
        intro target kt
        refine XS.iload X64.here hx rfl (hb hby at_178) rfl ?_
        refine XS.iconst X64.here hx rfl (hb hby at_180) ?_
        refine XS.icmpNo X64.here hx rfl (hb hby at_181) rfl (tlt (by decide : ((2 : Int32) < (3 : Int32)))).2.1 ?_
        refine XS.aload X64.here hx rfl (hb hby at_184) rfl rfl ?_
        refine XS.iload X64.here hx rfl (hb hby at_186) rfl ?_
        exact kt
      obtain ⟨cl78, Ar78, qc78, Sz78, Mn78, Hs78, Gs78⟩ := id V_cs_64
      have hin78 : ¬ ((2 : Int32) < 0 ∨ cl78.slots.size ≤ ((2 : Int32)).toNatClampNeg) := inb_of Sz78 ⟨by decide, by decide⟩
      have hat78 : cl78.slots[((2 : Int32)).toNatClampNeg]? = some (.ref c2) := Hs78.at hin78 rfl
      have st78 : ∀ target, Steps p.tables e below (T64.setTop (mkF m 189 #[.val (.long q0), .second, .val (.long q1), .second, .val (.long q2), .second, .val (.int p3), .val (.int p4), .val (.int p5), .val (.int bb), .val (.int ae), .val (.int (2 : Int32)), .val (.int sx), .val (.ref c0), .val (.ref c1), .val (.ref c2), .val (.ref at_), .val (.ref cs), .unset, .unset] [(.ref c2)])) target → Steps p.tables e below (T64.setTop (mkF m 188 #[.val (.long q0), .second, .val (.long q1), .second, .val (.long q2), .second, .val (.int p3), .val (.int p4), .val (.int p5), .val (.int bb), .val (.int ae), .val (.int (2 : Int32)), .val (.int sx), .val (.ref c0), .val (.ref c1), .val (.ref c2), .val (.ref at_), .val (.ref cs), .unset, .unset] [(.int (2 : Int32)), (.ref cs)])) target := fun target kt => X64.aaload hx (j := (2 : Int32)) (v := (.ref c2)) (by rw [e64]; exact Ar78.1) (State.isArrayOf_alike hZ.alike Ar78.2.1) rfl Ar78.2.2 hin78 hat78 (g := (mkF m 188 #[.val (.long q0), .second, .val (.long q1), .second, .val (.long q2), .second, .val (.int p3), .val (.int p4), .val (.int p5), .val (.int bb), .val (.int ae), .val (.int (2 : Int32)), .val (.int sx), .val (.ref c0), .val (.ref c1), .val (.ref c2), .val (.ref at_), .val (.ref cs), .unset, .unset] [(.int (2 : Int32)), (.ref cs)])) rfl rfl (hb hby at_188) _ kt
      obtain ⟨cq79, kq79, qv79a, qv79b, qv79c⟩ := isOf hZ e64 E_c2_i_64
      obtain ⟨_, _, ⟨T79, L79, k79, n79⟩, -, X79, ⟨Lc79, hQ79, l79, y79, z79⟩, st79⟩ := X64.virtualBack hx (y := (⟨"com/example/nomlog/nomlog/lang/Cell", "unbind", "()V"⟩ : MethodName)) (z := (⟨"com/example/nomlog/nomlog/lang/Cell", "unbind", "()V"⟩ : MethodName)) hown (mvT hZ (hw _ (List.mem_of_getElem? (i := 49) rfl))) (mvT hZ (hw _ (List.mem_of_getElem? (i := 50) rfl))) (notFace_of_selects (args := #[]) (mvT hZ (hw _ (List.mem_of_getElem? (i := 52) rfl)))) (mvT hZ (hw _ (List.mem_of_getElem? (i := 52) rfl))) (mvT hZ (hw _ (List.mem_of_getElem? (i := 51) rfl))) (by decide) (backOf (W := 0) (rm7 l Z a0 hw [] c2 (own_V2 bb at_) h64 n0 Z_64 p64_0 E_c2_i_64 g_c2) hZ (hw _ (List.mem_of_getElem? (i := 53) rfl)) (hw _ (List.mem_of_getElem? (i := 3) rfl)) (by decide) (by decide)) qv79a qv79c (g := (mkF m 189 #[.val (.long q0), .second, .val (.long q1), .second, .val (.long q2), .second, .val (.int p3), .val (.int p4), .val (.int p5), .val (.int bb), .val (.int ae), .val (.int (2 : Int32)), .val (.int sx), .val (.ref c0), .val (.ref c1), .val (.ref c2), .val (.ref at_), .val (.ref cs), .unset, .unset] [(.ref c2)])) rfl (by rw [hml]; rfl) (Steps.refl _) (argsL := []) (rest := []) (lenOf pd_1 rfl) rfl (by show 2 * 0 + _ ≤ _; exact Nat.le_of_eq rfl) (hb hby at_189) (fun _ _ => ⟨rfl, e64, (by decide : 7 + 0 ≤ _), (by decide : 18 + 0 ≤ _)⟩)
      dsimp only [Pt.U, Pt.locs, Pt.cells, Pt.slots] at X79 l79 y79 z79 st79 hQ79
      subst l79 y79 z79
      obtain ⟨rfl, Nq79, K79, Fv79⟩ := hQ79
      have N79 := Fr.app N64 Nq79
      have E_c0_i_79 := E_c0_i_64.keep K79
      have E_c1_i_79 := E_c1_i_64.keep K79
      have E_c2_i_79 := E_c2_i_64.keep K79
      have E_at__i_79 := E_at__i_64.keep K79
      have V_cs_79 := V_cs_64.keep K79 (ninS (Ne.symm ne_c2_cs) nin0)
      have p30_79 := p30_64.keep K79 (ninS ne_c0_c2 nin0)
      have p47_79 := p47_64.keep K79 (ninS ne_c1_c2 nin0)
      have Z_79 : n0 ≤ T79.heap.size := Nat.le_trans Z_64 K79.1
      have kz_79 : k1_19 ≤ T79.heap.size := Nat.le_trans kz_64 K79.1
      have Kp_79 : Keep h64 T79.heap [c0, c1, c2] := Km.trans K79 (allS (Or.inl (List.mem_of_getElem? (i := 2) rfl)) (all0))
      exact ⟨_, _, _, (by rw [own_cut, if_neg (by decide)]; exact p30_79), (by rw [own_cut, if_neg (by decide)]; exact p47_79), (by rw [own_cut, if_pos rfl]; exact Fv79), X79, rfl, Kp_79, N79, fun target kt => (st77 _ (st78 _ (st79.trans kt)))⟩
    · have st80 : ∀ target, Steps p.tables e below (T64.setTop (mkF m 192 #[.val (.long q0), .second, .val (.long q1), .second, .val (.long q2), .second, .val (.int p3), .val (.int p4), .val (.int p5), .val (.int bb), .val (.int ae), .val (.int (3 : Int32)), .val (.int sx), .val (.ref c0), .val (.ref c1), .val (.ref c2), .val (.ref at_), .val (.ref cs), .unset, .unset] [])) target → Steps p.tables e below (T64.setTop (mkF m 178 #[.val (.long q0), .second, .val (.long q1), .second, .val (.long q2), .second, .val (.int p3), .val (.int p4), .val (.int p5), .val (.int bb), .val (.int ae), .val (.int (3 : Int32)), .val (.int sx), .val (.ref c0), .val (.ref c1), .val (.ref c2), .val (.ref at_), .val (.ref cs), .unset, .unset] [])) target := by
        intro target kt
        refine XS.iload X64.here hx rfl (hb hby at_178) rfl ?_
        refine XS.iconst X64.here hx rfl (hb hby at_180) ?_
        show Steps p.tables e below (T64.setTop (mkF m 181 #[.val (.long q0), .second, .val (.long q1), .second, .val (.long q2), .second, .val (.int p3), .val (.int p4), .val (.int p5), .val (.int bb), .val (.int ae), .val (.int (3 : Int32)), .val (.int sx), .val (.ref c0), .val (.ref c1), .val (.ref c2), .val (.ref at_), .val (.ref cs), .unset, .unset] [(.int (3 : Int32)), (.int (3 : Int32))])) _
        refine XS.icmpYes X64.here hx rfl (pc0 := 181) (pc' := 192) rfl (hb hby at_181) rfl (flt (by decide : ¬ ((3 : Int32) < (3 : Int32)))).2.1 (by decide) (by decide) ?_
        exact kt
      exact ⟨_, _, _, (by rw [own_cut, if_neg (by decide)]; exact p30_64), (by rw [own_cut, if_neg (by decide)]; exact p47_64), (by rw [own_cut, if_neg (by decide)]; exact p64_0), X64, e64, Km, N64, fun target kt => (st80 _ kt)⟩
  have E_c0_i_70 := E_c0_i_64.keep K70
  have E_c1_i_70 := E_c1_i_64.keep K70
  have E_c2_i_70 := E_c2_i_64.keep K70
  have E_at__i_70 := E_at__i_64.keep K70
  have V_cs_70 := V_cs_64.keep K70 (ninS (Ne.symm ne_c0_cs) (ninS (Ne.symm ne_c1_cs) (ninS (Ne.symm ne_c2_cs) nin0)))
  have Z_70 : n0 ≤ h70.size := Nat.le_trans Z_64 K70.1
  have kz_70 : k1_19 ≤ h70.size := Nat.le_trans kz_64 K70.1
  rcases hs3 with rfl | rfl | rfl
  · have st81 : ∀ target, Steps p.tables e below (T70.setTop (mkF m 196 #[.val (.long q0), .second, .val (.long q1), .second, .val (.long q2), .second, .val (.int p3), .val (.int p4), .val (.int p5), .val (.int bb), .val (.int ae), .val (.int u), .val (.int (0 : Int32)), .val (.ref c0), .val (.ref c1), .val (.ref c2), .val (.ref at_), .val (.ref cs), .unset, .unset] [(.int (0 : Int32)), (.ref cs)])) target → Steps p.tables e below (T70.setTop (mkF m 192 #[.val (.long q0), .second, .val (.long q1), .second, .val (.long q2), .second, .val (.int p3), .val (.int p4), .val (.int p5), .val (.int bb), .val (.int ae), .val (.int u), .val (.int (0 : Int32)), .val (.ref c0), .val (.ref c1), .val (.ref c2), .val (.ref at_), .val (.ref cs), .unset, .unset] [])) target := by
      intro target kt
      refine XS.aload X70.here hx rfl (hb hby at_192) rfl rfl ?_
      refine XS.iload X70.here hx rfl (hb hby at_194) rfl ?_
      exact kt
    obtain ⟨cl82, Ar82, qc82, Sz82, Mn82, Hs82, Gs82⟩ := id V_cs_70
    have hin82 : ¬ ((0 : Int32) < 0 ∨ cl82.slots.size ≤ ((0 : Int32)).toNatClampNeg) := inb_of Sz82 ⟨by decide, by decide⟩
    have hat82 : cl82.slots[((0 : Int32)).toNatClampNeg]? = some (.ref c0) := Hs82.at hin82 rfl
    have st82 : ∀ target, Steps p.tables e below (T70.setTop (mkF m 197 #[.val (.long q0), .second, .val (.long q1), .second, .val (.long q2), .second, .val (.int p3), .val (.int p4), .val (.int p5), .val (.int bb), .val (.int ae), .val (.int u), .val (.int (0 : Int32)), .val (.ref c0), .val (.ref c1), .val (.ref c2), .val (.ref at_), .val (.ref cs), .unset, .unset] [(.ref c0)])) target → Steps p.tables e below (T70.setTop (mkF m 196 #[.val (.long q0), .second, .val (.long q1), .second, .val (.long q2), .second, .val (.int p3), .val (.int p4), .val (.int p5), .val (.int bb), .val (.int ae), .val (.int u), .val (.int (0 : Int32)), .val (.ref c0), .val (.ref c1), .val (.ref c2), .val (.ref at_), .val (.ref cs), .unset, .unset] [(.int (0 : Int32)), (.ref cs)])) target := fun target kt => X70.aaload hx (j := (0 : Int32)) (v := (.ref c0)) (by rw [e70]; exact Ar82.1) (State.isArrayOf_alike hZ.alike Ar82.2.1) rfl Ar82.2.2 hin82 hat82 (g := (mkF m 196 #[.val (.long q0), .second, .val (.long q1), .second, .val (.long q2), .second, .val (.int p3), .val (.int p4), .val (.int p5), .val (.int bb), .val (.int ae), .val (.int u), .val (.int (0 : Int32)), .val (.ref c0), .val (.ref c1), .val (.ref c2), .val (.ref at_), .val (.ref cs), .unset, .unset] [(.int (0 : Int32)), (.ref cs)])) rfl rfl (hb hby at_196) _ kt
    obtain ⟨cq83, kq83, qv83a, qv83b, qv83c⟩ := isOf hZ e70 E_c0_i_70
    obtain ⟨_, _, ⟨T83, L83, k83, n83⟩, -, X83, ⟨Lc83, hQ83, l83, y83, z83⟩, st83⟩ := X70.virtualBack hx (y := (⟨"com/example/nomlog/nomlog/lang/Cell", "follow", "()Lcom/example/nomlog/nomlog/lang/Term;"⟩ : MethodName)) (z := (⟨"com/example/nomlog/nomlog/lang/Cell", "follow", "()Lcom/example/nomlog/nomlog/lang/Term;"⟩ : MethodName)) hown (mvT hZ (hw _ (List.mem_of_getElem? (i := 43) rfl))) (mvT hZ (hw _ (List.mem_of_getElem? (i := 44) rfl))) (notFace_of_selects (args := #[]) (mvT hZ (hw _ (List.mem_of_getElem? (i := 46) rfl)))) (mvT hZ (hw _ (List.mem_of_getElem? (i := 46) rfl))) (mvT hZ (hw _ (List.mem_of_getElem? (i := 45) rfl))) (by decide) (backOf (W := 0) (rmF0 l Z a0 hw [] c0 c1 c2 at_ (own_cut u 0 (own_V0 bb ae c1 at_)) (own_cut u 1 (own_V1 bb ae c2 at_)) (own_cut u 2 (own_V2 bb at_)) h70 n0 Z_70 E_c0_i_70 E_c1_i_70 E_c2_i_70 E_at__i_70 p70_0 p70_1 p70_2 own_d0 own_d1 own_d2 ne_c1_at_ ne_c2_at_) hZ (hw _ (List.mem_of_getElem? (i := 47) rfl)) (hw _ (List.mem_of_getElem? (i := 3) rfl)) (by decide) (by decide)) qv83a qv83c (g := (mkF m 197 #[.val (.long q0), .second, .val (.long q1), .second, .val (.long q2), .second, .val (.int p3), .val (.int p4), .val (.int p5), .val (.int bb), .val (.int ae), .val (.int u), .val (.int (0 : Int32)), .val (.ref c0), .val (.ref c1), .val (.ref c2), .val (.ref at_), .val (.ref cs), .unset, .unset] [(.ref c0)])) rfl (by rw [hml]; rfl) (Steps.refl _) (argsL := []) (rest := []) (lenOf pd_4 rfl) rfl (by show 2 * 0 + _ ≤ _; exact Nat.le_of_eq rfl) (hb hby at_197) (fun _ _ => ⟨rfl, e70, (by decide : 7 + 0 ≤ _), (by decide : 18 + 0 ≤ _)⟩)
    dsimp only [Pt.U, Pt.locs, Pt.cells, Pt.slots] at X83 l83 y83 z83 st83 hQ83
    subst l83 y83 z83
    obtain ⟨rfl, Nq83, e83⟩ := hQ83
    have N83 := Fr.app N70 Nq83
    have xq := own_x0 (c0 := c0) (c1 := c1) (c2 := c2) (at_ := at_) hb4 hu4 ha2 ne_c1_at_ ne_c2_at_
    rw [xq] at st83
    have st84 : ∀ target, Steps p.tables e below (T83.setTop (mkF m 202 #[.val (.long q0), .second, .val (.long q1), .second, .val (.long q2), .second, .val (.int p3), .val (.int p4), .val (.int p5), .val (.int bb), .val (.int ae), .val (.int u), .val (.int (0 : Int32)), .val (.ref c0), .val (.ref c1), .val (.ref c2), .val (.ref at_), .val (.ref cs), .val (.ref (own_e (0 : Int32) bb u ae c0 c1 c2 at_)), .unset] [])) target → Steps p.tables e below (T83.setTop (mkF m 200 #[.val (.long q0), .second, .val (.long q1), .second, .val (.long q2), .second, .val (.int p3), .val (.int p4), .val (.int p5), .val (.int bb), .val (.int ae), .val (.int u), .val (.int (0 : Int32)), .val (.ref c0), .val (.ref c1), .val (.ref c2), .val (.ref at_), .val (.ref cs), .unset, .unset] [(.ref (own_e (0 : Int32) bb u ae c0 c1 c2 at_))])) target := by
      intro target kt
      refine XS.astore X83.here hx rfl (hb hby at_200) rfl rfl (l' := #[.val (.long q0), .second, .val (.long q1), .second, .val (.long q2), .second, .val (.int p3), .val (.int p4), .val (.int p5), .val (.int bb), .val (.int ae), .val (.int u), .val (.int (0 : Int32)), .val (.ref c0), .val (.ref c1), .val (.ref c2), .val (.ref at_), .val (.ref cs), .val (.ref (own_e (0 : Int32) bb u ae c0 c1 c2 at_)), .unset]) rfl ?_
      exact kt
    have st85 : ∀ target, Steps p.tables e below (T83.setTop (mkF m 206 #[.val (.long q0), .second, .val (.long q1), .second, .val (.long q2), .second, .val (.int p3), .val (.int p4), .val (.int p5), .val (.int bb), .val (.int ae), .val (.int u), .val (.int (0 : Int32)), .val (.ref c0), .val (.ref c1), .val (.ref c2), .val (.ref at_), .val (.ref cs), .val (.ref (own_e (0 : Int32) bb u ae c0 c1 c2 at_)), .unset] [(.int bb), (.int (0 : Int32))])) target → Steps p.tables e below (T83.setTop (mkF m 202 #[.val (.long q0), .second, .val (.long q1), .second, .val (.long q2), .second, .val (.int p3), .val (.int p4), .val (.int p5), .val (.int bb), .val (.int ae), .val (.int u), .val (.int (0 : Int32)), .val (.ref c0), .val (.ref c1), .val (.ref c2), .val (.ref at_), .val (.ref cs), .val (.ref (own_e (0 : Int32) bb u ae c0 c1 c2 at_)), .unset] [])) target := by
      intro target kt
      refine XS.iload X83.here hx rfl (hb hby at_202) rfl ?_
      refine XS.iload X83.here hx rfl (hb hby at_204) rfl ?_
      exact kt
    by_cases x1 : (0 : Int32) < bb
    · have st86 : ∀ target, Steps p.tables e below (T83.setTop (mkF m 219 #[.val (.long q0), .second, .val (.long q1), .second, .val (.long q2), .second, .val (.int p3), .val (.int p4), .val (.int p5), .val (.int bb), .val (.int ae), .val (.int u), .val (.int (0 : Int32)), .val (.ref c0), .val (.ref c1), .val (.ref c2), .val (.ref at_), .val (.ref cs), .val (.ref (own_e (0 : Int32) bb u ae c0 c1 c2 at_)), .unset] [])) target → Steps p.tables e below (T83.setTop (mkF m 206 #[.val (.long q0), .second, .val (.long q1), .second, .val (.long q2), .second, .val (.int p3), .val (.int p4), .val (.int p5), .val (.int bb), .val (.int ae), .val (.int u), .val (.int (0 : Int32)), .val (.ref c0), .val (.ref c1), .val (.ref c2), .val (.ref at_), .val (.ref cs), .val (.ref (own_e (0 : Int32) bb u ae c0 c1 c2 at_)), .unset] [(.int bb), (.int (0 : Int32))])) target := by
        intro target kt
        refine XS.icmpYes X83.here hx rfl (pc0 := 206) (pc' := 219) rfl (hb hby at_206) rfl (tlt x1).1 (by decide) (by decide) ?_
        exact kt
      have st87 : ∀ target, Steps p.tables e below (T83.setTop (mkF m 223 #[.val (.long q0), .second, .val (.long q1), .second, .val (.long q2), .second, .val (.int p3), .val (.int p4), .val (.int p5), .val (.int bb), .val (.int ae), .val (.int u), .val (.int (0 : Int32)), .val (.ref c0), .val (.ref c1), .val (.ref c2), .val (.ref at_), .val (.ref cs), .val (.ref (own_e (0 : Int32) bb u ae c0 c1 c2 at_)), .unset] [(.int (0 : Int32)), (.int u)])) target → Steps p.tables e below (T83.setTop (mkF m 219 #[.val (.long q0), .second, .val (.long q1), .second, .val (.long q2), .second, .val (.int p3), .val (.int p4), .val (.int p5), .val (.int bb), .val (.int ae), .val (.int u), .val (.int (0 : Int32)), .val (.ref c0), .val (.ref c1), .val (.ref c2), .val (.ref at_), .val (.ref cs), .val (.ref (own_e (0 : Int32) bb u ae c0 c1 c2 at_)), .unset] [])) target := by
        intro target kt
        refine XS.iload X83.here hx rfl (hb hby at_219) rfl ?_
        show Steps p.tables e below (T83.setTop (mkF m 221 #[.val (.long q0), .second, .val (.long q1), .second, .val (.long q2), .second, .val (.int p3), .val (.int p4), .val (.int p5), .val (.int bb), .val (.int ae), .val (.int u), .val (.int (0 : Int32)), .val (.ref c0), .val (.ref c1), .val (.ref c2), .val (.ref at_), .val (.ref cs), .val (.ref (own_e (0 : Int32) bb u ae c0 c1 c2 at_)), .unset] [(.int u)])) _
        refine XS.iload X83.here hx rfl (hb hby at_221) rfl ?_
        exact kt
      by_cases y1 : u < (0 : Int32)
      · have st88 : ∀ target, Steps p.tables e below (T83.setTop (mkF m 243 #[.val (.long q0), .second, .val (.long q1), .second, .val (.long q2), .second, .val (.int p3), .val (.int p4), .val (.int p5), .val (.int bb), .val (.int ae), .val (.int u), .val (.int (0 : Int32)), .val (.ref c0), .val (.ref c1), .val (.ref c2), .val (.ref at_), .val (.ref cs), .val (.ref (own_e (0 : Int32) bb u ae c0 c1 c2 at_)), .unset] [])) target → Steps p.tables e below (T83.setTop (mkF m 223 #[.val (.long q0), .second, .val (.long q1), .second, .val (.long q2), .second, .val (.int p3), .val (.int p4), .val (.int p5), .val (.int bb), .val (.int ae), .val (.int u), .val (.int (0 : Int32)), .val (.ref c0), .val (.ref c1), .val (.ref c2), .val (.ref at_), .val (.ref cs), .val (.ref (own_e (0 : Int32) bb u ae c0 c1 c2 at_)), .unset] [(.int (0 : Int32)), (.int u)])) target := by
          intro target kt
          refine XS.icmpYes X83.here hx rfl (pc0 := 223) (pc' := 243) rfl (hb hby at_223) rfl (tlt y1).1 (by decide) (by decide) ?_
          exact kt
        have st89 : ∀ target, Steps p.tables e below (T83.setTop (mkF m 245 #[.val (.long q0), .second, .val (.long q1), .second, .val (.long q2), .second, .val (.int p3), .val (.int p4), .val (.int p5), .val (.int bb), .val (.int ae), .val (.int u), .val (.int (0 : Int32)), .val (.ref c0), .val (.ref c1), .val (.ref c2), .val (.ref at_), .val (.ref cs), .val (.ref (own_e (0 : Int32) bb u ae c0 c1 c2 at_)), .unset] [(.int ae)])) target → Steps p.tables e below (T83.setTop (mkF m 243 #[.val (.long q0), .second, .val (.long q1), .second, .val (.long q2), .second, .val (.int p3), .val (.int p4), .val (.int p5), .val (.int bb), .val (.int ae), .val (.int u), .val (.int (0 : Int32)), .val (.ref c0), .val (.ref c1), .val (.ref c2), .val (.ref at_), .val (.ref cs), .val (.ref (own_e (0 : Int32) bb u ae c0 c1 c2 at_)), .unset] [])) target := by
          intro target kt
          refine XS.iload X83.here hx rfl (hb hby at_243) rfl ?_
          exact kt
        by_cases z1 : ae = (0 : Int32)
        · have st90 : ∀ target, Steps p.tables e below (T83.setTop (mkF m 248 #[.val (.long q0), .second, .val (.long q1), .second, .val (.long q2), .second, .val (.int p3), .val (.int p4), .val (.int p5), .val (.int bb), .val (.int ae), .val (.int u), .val (.int (0 : Int32)), .val (.ref c0), .val (.ref c1), .val (.ref c2), .val (.ref at_), .val (.ref cs), .val (.ref (own_e (0 : Int32) bb u ae c0 c1 c2 at_)), .unset] [])) target → Steps p.tables e below (T83.setTop (mkF m 245 #[.val (.long q0), .second, .val (.long q1), .second, .val (.long q2), .second, .val (.int p3), .val (.int p4), .val (.int p5), .val (.int bb), .val (.int ae), .val (.int u), .val (.int (0 : Int32)), .val (.ref c0), .val (.ref c1), .val (.ref c2), .val (.ref at_), .val (.ref cs), .val (.ref (own_e (0 : Int32) bb u ae c0 c1 c2 at_)), .unset] [(.int ae)])) target := by
            intro target kt
            refine XS.ifNo X83.here hx rfl (hb hby at_245) rfl ((if0 _ _).trans (teq z1).2) ?_
            exact kt
          have st91 : ∀ target, Steps p.tables e below (T83.setTop (mkF m 251 #[.val (.long q0), .second, .val (.long q1), .second, .val (.long q2), .second, .val (.int p3), .val (.int p4), .val (.int p5), .val (.int bb), .val (.int ae), .val (.int u), .val (.int (0 : Int32)), .val (.ref c0), .val (.ref c1), .val (.ref c2), .val (.ref at_), .val (.ref cs), .val (.ref (own_e (0 : Int32) bb u ae c0 c1 c2 at_)), .unset] [(.int (3 : Int32)), (.int bb)])) target → Steps p.tables e below (T83.setTop (mkF m 248 #[.val (.long q0), .second, .val (.long q1), .second, .val (.long q2), .second, .val (.int p3), .val (.int p4), .val (.int p5), .val (.int bb), .val (.int ae), .val (.int u), .val (.int (0 : Int32)), .val (.ref c0), .val (.ref c1), .val (.ref c2), .val (.ref at_), .val (.ref cs), .val (.ref (own_e (0 : Int32) bb u ae c0 c1 c2 at_)), .unset] [])) target := by
            intro target kt
            refine XS.iload X83.here hx rfl (hb hby at_248) rfl ?_
            refine XS.iconst X83.here hx rfl (hb hby at_250) ?_
            exact kt
          by_cases z2 : bb = (3 : Int32)
          · have st92 : ∀ target, Steps p.tables e below (T83.setTop (mkF m 254 #[.val (.long q0), .second, .val (.long q1), .second, .val (.long q2), .second, .val (.int p3), .val (.int p4), .val (.int p5), .val (.int bb), .val (.int ae), .val (.int u), .val (.int (0 : Int32)), .val (.ref c0), .val (.ref c1), .val (.ref c2), .val (.ref at_), .val (.ref cs), .val (.ref (own_e (0 : Int32) bb u ae c0 c1 c2 at_)), .unset] [])) target → Steps p.tables e below (T83.setTop (mkF m 251 #[.val (.long q0), .second, .val (.long q1), .second, .val (.long q2), .second, .val (.int p3), .val (.int p4), .val (.int p5), .val (.int bb), .val (.int ae), .val (.int u), .val (.int (0 : Int32)), .val (.ref c0), .val (.ref c1), .val (.ref c2), .val (.ref at_), .val (.ref cs), .val (.ref (own_e (0 : Int32) bb u ae c0 c1 c2 at_)), .unset] [(.int (3 : Int32)), (.int bb)])) target := by
              intro target kt
              refine XS.icmpNo X83.here hx rfl (hb hby at_251) rfl (teq z2).2 ?_
              exact kt
            have st93 : ∀ target, Steps p.tables e below (T83.setTop (mkF m 268 #[.val (.long q0), .second, .val (.long q1), .second, .val (.long q2), .second, .val (.int p3), .val (.int p4), .val (.int p5), .val (.int bb), .val (.int ae), .val (.int u), .val (.int (0 : Int32)), .val (.ref c0), .val (.ref c1), .val (.ref c2), .val (.ref at_), .val (.ref cs), .val (.ref (own_e (0 : Int32) bb u ae c0 c1 c2 at_)), .val (.ref at_)] [])) target → Steps p.tables e below (T83.setTop (mkF m 254 #[.val (.long q0), .second, .val (.long q1), .second, .val (.long q2), .second, .val (.int p3), .val (.int p4), .val (.int p5), .val (.int bb), .val (.int ae), .val (.int u), .val (.int (0 : Int32)), .val (.ref c0), .val (.ref c1), .val (.ref c2), .val (.ref at_), .val (.ref cs), .val (.ref (own_e (0 : Int32) bb u ae c0 c1 c2 at_)), .unset] [])) target := by
              intro target kt
              refine XS.aload X83.here hx rfl (hb hby at_254) rfl rfl ?_
              show Steps p.tables e below (T83.setTop (mkF m 256 #[.val (.long q0), .second, .val (.long q1), .second, .val (.long q2), .second, .val (.int p3), .val (.int p4), .val (.int p5), .val (.int bb), .val (.int ae), .val (.int u), .val (.int (0 : Int32)), .val (.ref c0), .val (.ref c1), .val (.ref c2), .val (.ref at_), .val (.ref cs), .val (.ref (own_e (0 : Int32) bb u ae c0 c1 c2 at_)), .unset] [(.ref at_)])) _
              refine XS.astore X83.here hx rfl (hb hby at_256) rfl rfl (l' := #[.val (.long q0), .second, .val (.long q1), .second, .val (.long q2), .second, .val (.int p3), .val (.int p4), .val (.int p5), .val (.int bb), .val (.int ae), .val (.int u), .val (.int (0 : Int32)), .val (.ref c0), .val (.ref c1), .val (.ref c2), .val (.ref at_), .val (.ref cs), .val (.ref (own_e (0 : Int32) bb u ae c0 c1 c2 at_)), .val (.ref at_)]) rfl ?_
              refine XS.goto X83.here hx rfl (pc0 := 258) (pc' := 268) rfl (hb hby at_258) (by decide) (by decide) ?_
              exact kt
            obtain ⟨fs, hr, hrun, hended, hRW⟩ := Jvm.Stand.leaveW (s := s) X83 hS (by rw [e83]; exact kz_70) (v := some (.int (1 : Int32))) (fun h => by rw [Bd.returns] at h; cases h)
            refine ⟨_, _, pre0 _ (st1 _ (st2 _ (st3 _ (st4 _ (st5 _ (st6 _ (st7.trans (st8 _ (st9 _ (st10 _ (st11.trans (st12 _ (st13 _ (st14 _ (st15.trans (st16 _ (st17 _ (st18 _ (st19 _ (st20.trans (st21 _ (st22 _ (st23 _ (st24 _ (st25 _ (st26 _ (st27 _ (st28 _ (st29 _ (st30 _ (st47 _ (st64 _ (st70 _ (st81 _ (st82 _ (st83.trans (st84 _ (st85 _ (st86 _ (st87 _ (st88 _ (st89 _ (st90 _ (st91 _ (st92 _ (st93 _ ?_)))))))))))))))))))))))))))))))))))))))))))))), hrun, hended, _, _, rfl, ?_, hRW.1, hRW.2.1, hRW.2.2.1, hRW.2.2.2.mono (by decide) (by decide)⟩
            · refine XS.aload X83.here hx rfl (hb hby at_268) rfl rfl ?_
              refine XS.aload X83.here hx rfl (hb hby at_270) rfl rfl ?_
              refine Jvm.RoadKit.acmp (g := (mkF m 272 #[.val (.long q0), .second, .val (.long q1), .second, .val (.long q2), .second, .val (.int p3), .val (.int p4), .val (.int p5), .val (.int bb), .val (.int ae), .val (.int u), .val (.int (0 : Int32)), .val (.ref c0), .val (.ref c1), .val (.ref c2), .val (.ref at_), .val (.ref cs), .val (.ref (own_e (0 : Int32) bb u ae c0 c1 c2 at_)), .val (.ref at_)] [(.ref at_), (.ref (own_e (0 : Int32) bb u ae c0 c1 c2 at_))])) X83 hx rfl rfl rfl (pc0 := 272) (pc' := 275) (same := true) rfl (hb hby at_272) rfl (decide_eq_true (congrArg Value.ref (by rw [own_e, if_pos x1, if_pos y1, if_pos z1, if_pos z2]))) (by decide) (by decide) ?_
              refine XS.iconst X83.here hx rfl (hb hby at_275) ?_
              refine XS.goto X83.here hx rfl (pc0 := 276) (pc' := 280) rfl (hb hby at_276) (by decide) (by decide) ?_
              show Steps p.tables e below (T83.setTop (mkF m 280 #[.val (.long q0), .second, .val (.long q1), .second, .val (.long q2), .second, .val (.int p3), .val (.int p4), .val (.int p5), .val (.int bb), .val (.int ae), .val (.int u), .val (.int (0 : Int32)), .val (.ref c0), .val (.ref c1), .val (.ref c2), .val (.ref at_), .val (.ref cs), .val (.ref (own_e (0 : Int32) bb u ae c0 c1 c2 at_)), .val (.ref at_)] [(.int (1 : Int32))])) _
              exact retN X83 hx (t := .boolean) Bd.returns (by simp) (hb hby at_280) hr
            · show Q_rm0 Z q0 q1 q2 p3 p4 p5 h0 n0 _ T83.heap _
              rw [e83]
              exact ⟨rfl, N83⟩
          · have st94 : ∀ target, Steps p.tables e below (T83.setTop (mkF m 261 #[.val (.long q0), .second, .val (.long q1), .second, .val (.long q2), .second, .val (.int p3), .val (.int p4), .val (.int p5), .val (.int bb), .val (.int ae), .val (.int u), .val (.int (0 : Int32)), .val (.ref c0), .val (.ref c1), .val (.ref c2), .val (.ref at_), .val (.ref cs), .val (.ref (own_e (0 : Int32) bb u ae c0 c1 c2 at_)), .unset] [])) target → Steps p.tables e below (T83.setTop (mkF m 251 #[.val (.long q0), .second, .val (.long q1), .second, .val (.long q2), .second, .val (.int p3), .val (.int p4), .val (.int p5), .val (.int bb), .val (.int ae), .val (.int u), .val (.int (0 : Int32)), .val (.ref c0), .val (.ref c1), .val (.ref c2), .val (.ref at_), .val (.ref cs), .val (.ref (own_e (0 : Int32) bb u ae c0 c1 c2 at_)), .unset] [(.int (3 : Int32)), (.int bb)])) target := by
              intro target kt
              refine XS.icmpYes X83.here hx rfl (pc0 := 251) (pc' := 261) rfl (hb hby at_251) rfl (feq z2).2 (by decide) (by decide) ?_
              exact kt
            have st95 : ∀ target, Steps p.tables e below (T83.setTop (mkF m 265 #[.val (.long q0), .second, .val (.long q1), .second, .val (.long q2), .second, .val (.int p3), .val (.int p4), .val (.int p5), .val (.int bb), .val (.int ae), .val (.int u), .val (.int (0 : Int32)), .val (.ref c0), .val (.ref c1), .val (.ref c2), .val (.ref at_), .val (.ref cs), .val (.ref (own_e (0 : Int32) bb u ae c0 c1 c2 at_)), .unset] [(.int bb), (.ref cs)])) target → Steps p.tables e below (T83.setTop (mkF m 261 #[.val (.long q0), .second, .val (.long q1), .second, .val (.long q2), .second, .val (.int p3), .val (.int p4), .val (.int p5), .val (.int bb), .val (.int ae), .val (.int u), .val (.int (0 : Int32)), .val (.ref c0), .val (.ref c1), .val (.ref c2), .val (.ref at_), .val (.ref cs), .val (.ref (own_e (0 : Int32) bb u ae c0 c1 c2 at_)), .unset] [])) target := by
              intro target kt
              show Steps p.tables e below (T83.setTop (mkF m 261 #[.val (.long q0), .second, .val (.long q1), .second, .val (.long q2), .second, .val (.int p3), .val (.int p4), .val (.int p5), .val (.int bb), .val (.int ae), .val (.int u), .val (.int (0 : Int32)), .val (.ref c0), .val (.ref c1), .val (.ref c2), .val (.ref at_), .val (.ref cs), .val (.ref (own_e (0 : Int32) bb u ae c0 c1 c2 at_)), .unset] [])) _
              refine XS.aload X83.here hx rfl (hb hby at_261) rfl rfl ?_
              refine XS.iload X83.here hx rfl (hb hby at_263) rfl ?_
              exact kt
            obtain ⟨cl96, Ar96, qc96, Sz96, Mn96, Hs96, Gs96⟩ := id V_cs_70
            have hin96 : ¬ (bb < 0 ∨ cl96.slots.size ≤ (bb).toNatClampNeg) := own_in3 Sz96 (own_b3 hb4 z2)
            have hat96 : cl96.slots[(bb).toNatClampNeg]? = some (.ref (own_pick bb c0 c1 c2)) := Hs96.at hin96 (own_at3 (own_b3 hb4 z2))
            have st96 : ∀ target, Steps p.tables e below (T83.setTop (mkF m 266 #[.val (.long q0), .second, .val (.long q1), .second, .val (.long q2), .second, .val (.int p3), .val (.int p4), .val (.int p5), .val (.int bb), .val (.int ae), .val (.int u), .val (.int (0 : Int32)), .val (.ref c0), .val (.ref c1), .val (.ref c2), .val (.ref at_), .val (.ref cs), .val (.ref (own_e (0 : Int32) bb u ae c0 c1 c2 at_)), .unset] [(.ref (own_pick bb c0 c1 c2))])) target → Steps p.tables e below (T83.setTop (mkF m 265 #[.val (.long q0), .second, .val (.long q1), .second, .val (.long q2), .second, .val (.int p3), .val (.int p4), .val (.int p5), .val (.int bb), .val (.int ae), .val (.int u), .val (.int (0 : Int32)), .val (.ref c0), .val (.ref c1), .val (.ref c2), .val (.ref at_), .val (.ref cs), .val (.ref (own_e (0 : Int32) bb u ae c0 c1 c2 at_)), .unset] [(.int bb), (.ref cs)])) target := fun target kt => X83.aaload hx (j := bb) (v := (.ref (own_pick bb c0 c1 c2))) (by rw [e83]; exact Ar96.1) (State.isArrayOf_alike hZ.alike Ar96.2.1) rfl Ar96.2.2 hin96 hat96 (g := (mkF m 265 #[.val (.long q0), .second, .val (.long q1), .second, .val (.long q2), .second, .val (.int p3), .val (.int p4), .val (.int p5), .val (.int bb), .val (.int ae), .val (.int u), .val (.int (0 : Int32)), .val (.ref c0), .val (.ref c1), .val (.ref c2), .val (.ref at_), .val (.ref cs), .val (.ref (own_e (0 : Int32) bb u ae c0 c1 c2 at_)), .unset] [(.int bb), (.ref cs)])) rfl rfl (hb hby at_265) _ kt
            have st97 : ∀ target, Steps p.tables e below (T83.setTop (mkF m 268 #[.val (.long q0), .second, .val (.long q1), .second, .val (.long q2), .second, .val (.int p3), .val (.int p4), .val (.int p5), .val (.int bb), .val (.int ae), .val (.int u), .val (.int (0 : Int32)), .val (.ref c0), .val (.ref c1), .val (.ref c2), .val (.ref at_), .val (.ref cs), .val (.ref (own_e (0 : Int32) bb u ae c0 c1 c2 at_)), .val (.ref (own_pick bb c0 c1 c2))] [])) target → Steps p.tables e below (T83.setTop (mkF m 266 #[.val (.long q0), .second, .val (.long q1), .second, .val (.long q2), .second, .val (.int p3), .val (.int p4), .val (.int p5), .val (.int bb), .val (.int ae), .val (.int u), .val (.int (0 : Int32)), .val (.ref c0), .val (.ref c1), .val (.ref c2), .val (.ref at_), .val (.ref cs), .val (.ref (own_e (0 : Int32) bb u ae c0 c1 c2 at_)), .unset] [(.ref (own_pick bb c0 c1 c2))])) target := by
              intro target kt
              refine XS.astore X83.here hx rfl (hb hby at_266) rfl rfl (l' := #[.val (.long q0), .second, .val (.long q1), .second, .val (.long q2), .second, .val (.int p3), .val (.int p4), .val (.int p5), .val (.int bb), .val (.int ae), .val (.int u), .val (.int (0 : Int32)), .val (.ref c0), .val (.ref c1), .val (.ref c2), .val (.ref at_), .val (.ref cs), .val (.ref (own_e (0 : Int32) bb u ae c0 c1 c2 at_)), .val (.ref (own_pick bb c0 c1 c2))]) rfl ?_
              exact kt
            obtain ⟨fs, hr, hrun, hended, hRW⟩ := Jvm.Stand.leaveW (s := s) X83 hS (by rw [e83]; exact kz_70) (v := some (.int (1 : Int32))) (fun h => by rw [Bd.returns] at h; cases h)
            refine ⟨_, _, pre0 _ (st1 _ (st2 _ (st3 _ (st4 _ (st5 _ (st6 _ (st7.trans (st8 _ (st9 _ (st10 _ (st11.trans (st12 _ (st13 _ (st14 _ (st15.trans (st16 _ (st17 _ (st18 _ (st19 _ (st20.trans (st21 _ (st22 _ (st23 _ (st24 _ (st25 _ (st26 _ (st27 _ (st28 _ (st29 _ (st30 _ (st47 _ (st64 _ (st70 _ (st81 _ (st82 _ (st83.trans (st84 _ (st85 _ (st86 _ (st87 _ (st88 _ (st89 _ (st90 _ (st91 _ (st94 _ (st95 _ (st96 _ (st97 _ ?_)))))))))))))))))))))))))))))))))))))))))))))))), hrun, hended, _, _, rfl, ?_, hRW.1, hRW.2.1, hRW.2.2.1, hRW.2.2.2.mono (by decide) (by decide)⟩
            · refine XS.aload X83.here hx rfl (hb hby at_268) rfl rfl ?_
              refine XS.aload X83.here hx rfl (hb hby at_270) rfl rfl ?_
              refine Jvm.RoadKit.acmp (g := (mkF m 272 #[.val (.long q0), .second, .val (.long q1), .second, .val (.long q2), .second, .val (.int p3), .val (.int p4), .val (.int p5), .val (.int bb), .val (.int ae), .val (.int u), .val (.int (0 : Int32)), .val (.ref c0), .val (.ref c1), .val (.ref c2), .val (.ref at_), .val (.ref cs), .val (.ref (own_e (0 : Int32) bb u ae c0 c1 c2 at_)), .val (.ref (own_pick bb c0 c1 c2))] [(.ref (own_pick bb c0 c1 c2)), (.ref (own_e (0 : Int32) bb u ae c0 c1 c2 at_))])) X83 hx rfl rfl rfl (pc0 := 272) (pc' := 275) (same := true) rfl (hb hby at_272) rfl (decide_eq_true (congrArg Value.ref (by rw [own_e, if_pos x1, if_pos y1, if_pos z1, if_neg z2]))) (by decide) (by decide) ?_
              refine XS.iconst X83.here hx rfl (hb hby at_275) ?_
              refine XS.goto X83.here hx rfl (pc0 := 276) (pc' := 280) rfl (hb hby at_276) (by decide) (by decide) ?_
              show Steps p.tables e below (T83.setTop (mkF m 280 #[.val (.long q0), .second, .val (.long q1), .second, .val (.long q2), .second, .val (.int p3), .val (.int p4), .val (.int p5), .val (.int bb), .val (.int ae), .val (.int u), .val (.int (0 : Int32)), .val (.ref c0), .val (.ref c1), .val (.ref c2), .val (.ref at_), .val (.ref cs), .val (.ref (own_e (0 : Int32) bb u ae c0 c1 c2 at_)), .val (.ref (own_pick bb c0 c1 c2))] [(.int (1 : Int32))])) _
              exact retN X83 hx (t := .boolean) Bd.returns (by simp) (hb hby at_280) hr
            · show Q_rm0 Z q0 q1 q2 p3 p4 p5 h0 n0 _ T83.heap _
              rw [e83]
              exact ⟨rfl, N83⟩
        · have st98 : ∀ target, Steps p.tables e below (T83.setTop (mkF m 254 #[.val (.long q0), .second, .val (.long q1), .second, .val (.long q2), .second, .val (.int p3), .val (.int p4), .val (.int p5), .val (.int bb), .val (.int ae), .val (.int u), .val (.int (0 : Int32)), .val (.ref c0), .val (.ref c1), .val (.ref c2), .val (.ref at_), .val (.ref cs), .val (.ref (own_e (0 : Int32) bb u ae c0 c1 c2 at_)), .unset] [])) target → Steps p.tables e below (T83.setTop (mkF m 245 #[.val (.long q0), .second, .val (.long q1), .second, .val (.long q2), .second, .val (.int p3), .val (.int p4), .val (.int p5), .val (.int bb), .val (.int ae), .val (.int u), .val (.int (0 : Int32)), .val (.ref c0), .val (.ref c1), .val (.ref c2), .val (.ref at_), .val (.ref cs), .val (.ref (own_e (0 : Int32) bb u ae c0 c1 c2 at_)), .unset] [(.int ae)])) target := by
            intro target kt
            show Steps p.tables e below (T83.setTop (mkF m 245 #[.val (.long q0), .second, .val (.long q1), .second, .val (.long q2), .second, .val (.int p3), .val (.int p4), .val (.int p5), .val (.int bb), .val (.int ae), .val (.int u), .val (.int (0 : Int32)), .val (.ref c0), .val (.ref c1), .val (.ref c2), .val (.ref at_), .val (.ref cs), .val (.ref (own_e (0 : Int32) bb u ae c0 c1 c2 at_)), .unset] [(.int ae)])) _
            refine XS.ifYes X83.here hx rfl (pc0 := 245) (pc' := 254) rfl (hb hby at_245) rfl ((if0 _ _).trans (feq z1).2) (by decide) (by decide) ?_
            exact kt
          have st99 : ∀ target, Steps p.tables e below (T83.setTop (mkF m 268 #[.val (.long q0), .second, .val (.long q1), .second, .val (.long q2), .second, .val (.int p3), .val (.int p4), .val (.int p5), .val (.int bb), .val (.int ae), .val (.int u), .val (.int (0 : Int32)), .val (.ref c0), .val (.ref c1), .val (.ref c2), .val (.ref at_), .val (.ref cs), .val (.ref (own_e (0 : Int32) bb u ae c0 c1 c2 at_)), .val (.ref at_)] [])) target → Steps p.tables e below (T83.setTop (mkF m 254 #[.val (.long q0), .second, .val (.long q1), .second, .val (.long q2), .second, .val (.int p3), .val (.int p4), .val (.int p5), .val (.int bb), .val (.int ae), .val (.int u), .val (.int (0 : Int32)), .val (.ref c0), .val (.ref c1), .val (.ref c2), .val (.ref at_), .val (.ref cs), .val (.ref (own_e (0 : Int32) bb u ae c0 c1 c2 at_)), .unset] [])) target := by
            intro target kt
            refine XS.aload X83.here hx rfl (hb hby at_254) rfl rfl ?_
            refine XS.astore X83.here hx rfl (hb hby at_256) rfl rfl (l' := #[.val (.long q0), .second, .val (.long q1), .second, .val (.long q2), .second, .val (.int p3), .val (.int p4), .val (.int p5), .val (.int bb), .val (.int ae), .val (.int u), .val (.int (0 : Int32)), .val (.ref c0), .val (.ref c1), .val (.ref c2), .val (.ref at_), .val (.ref cs), .val (.ref (own_e (0 : Int32) bb u ae c0 c1 c2 at_)), .val (.ref at_)]) rfl ?_
            refine XS.goto X83.here hx rfl (pc0 := 258) (pc' := 268) rfl (hb hby at_258) (by decide) (by decide) ?_
            exact kt
          obtain ⟨fs, hr, hrun, hended, hRW⟩ := Jvm.Stand.leaveW (s := s) X83 hS (by rw [e83]; exact kz_70) (v := some (.int (1 : Int32))) (fun h => by rw [Bd.returns] at h; cases h)
          refine ⟨_, _, pre0 _ (st1 _ (st2 _ (st3 _ (st4 _ (st5 _ (st6 _ (st7.trans (st8 _ (st9 _ (st10 _ (st11.trans (st12 _ (st13 _ (st14 _ (st15.trans (st16 _ (st17 _ (st18 _ (st19 _ (st20.trans (st21 _ (st22 _ (st23 _ (st24 _ (st25 _ (st26 _ (st27 _ (st28 _ (st29 _ (st30 _ (st47 _ (st64 _ (st70 _ (st81 _ (st82 _ (st83.trans (st84 _ (st85 _ (st86 _ (st87 _ (st88 _ (st89 _ (st98 _ (st99 _ ?_)))))))))))))))))))))))))))))))))))))))))))), hrun, hended, _, _, rfl, ?_, hRW.1, hRW.2.1, hRW.2.2.1, hRW.2.2.2.mono (by decide) (by decide)⟩
          · refine XS.aload X83.here hx rfl (hb hby at_268) rfl rfl ?_
            refine XS.aload X83.here hx rfl (hb hby at_270) rfl rfl ?_
            refine Jvm.RoadKit.acmp (g := (mkF m 272 #[.val (.long q0), .second, .val (.long q1), .second, .val (.long q2), .second, .val (.int p3), .val (.int p4), .val (.int p5), .val (.int bb), .val (.int ae), .val (.int u), .val (.int (0 : Int32)), .val (.ref c0), .val (.ref c1), .val (.ref c2), .val (.ref at_), .val (.ref cs), .val (.ref (own_e (0 : Int32) bb u ae c0 c1 c2 at_)), .val (.ref at_)] [(.ref at_), (.ref (own_e (0 : Int32) bb u ae c0 c1 c2 at_))])) X83 hx rfl rfl rfl (pc0 := 272) (pc' := 275) (same := true) rfl (hb hby at_272) rfl (decide_eq_true (congrArg Value.ref (by rw [own_e, if_pos x1, if_pos y1, if_neg z1]))) (by decide) (by decide) ?_
            refine XS.iconst X83.here hx rfl (hb hby at_275) ?_
            show Steps p.tables e below (T83.setTop (mkF m 276 #[.val (.long q0), .second, .val (.long q1), .second, .val (.long q2), .second, .val (.int p3), .val (.int p4), .val (.int p5), .val (.int bb), .val (.int ae), .val (.int u), .val (.int (0 : Int32)), .val (.ref c0), .val (.ref c1), .val (.ref c2), .val (.ref at_), .val (.ref cs), .val (.ref (own_e (0 : Int32) bb u ae c0 c1 c2 at_)), .val (.ref at_)] [(.int (1 : Int32))])) _
            refine XS.goto X83.here hx rfl (pc0 := 276) (pc' := 280) rfl (hb hby at_276) (by decide) (by decide) ?_
            show Steps p.tables e below (T83.setTop (mkF m 280 #[.val (.long q0), .second, .val (.long q1), .second, .val (.long q2), .second, .val (.int p3), .val (.int p4), .val (.int p5), .val (.int bb), .val (.int ae), .val (.int u), .val (.int (0 : Int32)), .val (.ref c0), .val (.ref c1), .val (.ref c2), .val (.ref at_), .val (.ref cs), .val (.ref (own_e (0 : Int32) bb u ae c0 c1 c2 at_)), .val (.ref at_)] [(.int (1 : Int32))])) _
            exact retN X83 hx (t := .boolean) Bd.returns (by simp) (hb hby at_280) hr
          · show Q_rm0 Z q0 q1 q2 p3 p4 p5 h0 n0 _ T83.heap _
            rw [e83]
            exact ⟨rfl, N83⟩
      · have st100 : ∀ target, Steps p.tables e below (T83.setTop (mkF m 226 #[.val (.long q0), .second, .val (.long q1), .second, .val (.long q2), .second, .val (.int p3), .val (.int p4), .val (.int p5), .val (.int bb), .val (.int ae), .val (.int u), .val (.int (0 : Int32)), .val (.ref c0), .val (.ref c1), .val (.ref c2), .val (.ref at_), .val (.ref cs), .val (.ref (own_e (0 : Int32) bb u ae c0 c1 c2 at_)), .unset] [])) target → Steps p.tables e below (T83.setTop (mkF m 223 #[.val (.long q0), .second, .val (.long q1), .second, .val (.long q2), .second, .val (.int p3), .val (.int p4), .val (.int p5), .val (.int bb), .val (.int ae), .val (.int u), .val (.int (0 : Int32)), .val (.ref c0), .val (.ref c1), .val (.ref c2), .val (.ref at_), .val (.ref cs), .val (.ref (own_e (0 : Int32) bb u ae c0 c1 c2 at_)), .unset] [(.int (0 : Int32)), (.int u)])) target := by
          intro target kt
          refine XS.icmpNo X83.here hx rfl (hb hby at_223) rfl (flt y1).1 ?_
          exact kt
        have st101 : ∀ target, Steps p.tables e below (T83.setTop (mkF m 230 #[.val (.long q0), .second, .val (.long q1), .second, .val (.long q2), .second, .val (.int p3), .val (.int p4), .val (.int p5), .val (.int bb), .val (.int ae), .val (.int u), .val (.int (0 : Int32)), .val (.ref c0), .val (.ref c1), .val (.ref c2), .val (.ref at_), .val (.ref cs), .val (.ref (own_e (0 : Int32) bb u ae c0 c1 c2 at_)), .unset] [(.int bb), (.int u)])) target → Steps p.tables e below (T83.setTop (mkF m 226 #[.val (.long q0), .second, .val (.long q1), .second, .val (.long q2), .second, .val (.int p3), .val (.int p4), .val (.int p5), .val (.int bb), .val (.int ae), .val (.int u), .val (.int (0 : Int32)), .val (.ref c0), .val (.ref c1), .val (.ref c2), .val (.ref at_), .val (.ref cs), .val (.ref (own_e (0 : Int32) bb u ae c0 c1 c2 at_)), .unset] [])) target := by
          intro target kt
          refine XS.iload X83.here hx rfl (hb hby at_226) rfl ?_
          refine XS.iload X83.here hx rfl (hb hby at_228) rfl ?_
          exact kt
        by_cases y2 : u < bb
        · have st102 : ∀ target, Steps p.tables e below (T83.setTop (mkF m 233 #[.val (.long q0), .second, .val (.long q1), .second, .val (.long q2), .second, .val (.int p3), .val (.int p4), .val (.int p5), .val (.int bb), .val (.int ae), .val (.int u), .val (.int (0 : Int32)), .val (.ref c0), .val (.ref c1), .val (.ref c2), .val (.ref at_), .val (.ref cs), .val (.ref (own_e (0 : Int32) bb u ae c0 c1 c2 at_)), .unset] [])) target → Steps p.tables e below (T83.setTop (mkF m 230 #[.val (.long q0), .second, .val (.long q1), .second, .val (.long q2), .second, .val (.int p3), .val (.int p4), .val (.int p5), .val (.int bb), .val (.int ae), .val (.int u), .val (.int (0 : Int32)), .val (.ref c0), .val (.ref c1), .val (.ref c2), .val (.ref at_), .val (.ref cs), .val (.ref (own_e (0 : Int32) bb u ae c0 c1 c2 at_)), .unset] [(.int bb), (.int u)])) target := by
            intro target kt
            refine XS.icmpNo X83.here hx rfl (hb hby at_230) rfl (tlt y2).2.1 ?_
            exact kt
          have st103 : ∀ target, Steps p.tables e below (T83.setTop (mkF m 237 #[.val (.long q0), .second, .val (.long q1), .second, .val (.long q2), .second, .val (.int p3), .val (.int p4), .val (.int p5), .val (.int bb), .val (.int ae), .val (.int u), .val (.int (0 : Int32)), .val (.ref c0), .val (.ref c1), .val (.ref c2), .val (.ref at_), .val (.ref cs), .val (.ref (own_e (0 : Int32) bb u ae c0 c1 c2 at_)), .unset] [(.int u), (.ref cs)])) target → Steps p.tables e below (T83.setTop (mkF m 233 #[.val (.long q0), .second, .val (.long q1), .second, .val (.long q2), .second, .val (.int p3), .val (.int p4), .val (.int p5), .val (.int bb), .val (.int ae), .val (.int u), .val (.int (0 : Int32)), .val (.ref c0), .val (.ref c1), .val (.ref c2), .val (.ref at_), .val (.ref cs), .val (.ref (own_e (0 : Int32) bb u ae c0 c1 c2 at_)), .unset] [])) target := by
            intro target kt
            refine XS.aload X83.here hx rfl (hb hby at_233) rfl rfl ?_
            refine XS.iload X83.here hx rfl (hb hby at_235) rfl ?_
            exact kt
          obtain ⟨cl104, Ar104, qc104, Sz104, Mn104, Hs104, Gs104⟩ := id V_cs_70
          have hin104 : ¬ (u < 0 ∨ cl104.slots.size ≤ (u).toNatClampNeg) := own_in3 Sz104 (own_u3 hb4 hu4 y2)
          have hat104 : cl104.slots[(u).toNatClampNeg]? = some (.ref (own_pick u c0 c1 c2)) := Hs104.at hin104 (own_at3 (own_u3 hb4 hu4 y2))
          have st104 : ∀ target, Steps p.tables e below (T83.setTop (mkF m 238 #[.val (.long q0), .second, .val (.long q1), .second, .val (.long q2), .second, .val (.int p3), .val (.int p4), .val (.int p5), .val (.int bb), .val (.int ae), .val (.int u), .val (.int (0 : Int32)), .val (.ref c0), .val (.ref c1), .val (.ref c2), .val (.ref at_), .val (.ref cs), .val (.ref (own_e (0 : Int32) bb u ae c0 c1 c2 at_)), .unset] [(.ref (own_pick u c0 c1 c2))])) target → Steps p.tables e below (T83.setTop (mkF m 237 #[.val (.long q0), .second, .val (.long q1), .second, .val (.long q2), .second, .val (.int p3), .val (.int p4), .val (.int p5), .val (.int bb), .val (.int ae), .val (.int u), .val (.int (0 : Int32)), .val (.ref c0), .val (.ref c1), .val (.ref c2), .val (.ref at_), .val (.ref cs), .val (.ref (own_e (0 : Int32) bb u ae c0 c1 c2 at_)), .unset] [(.int u), (.ref cs)])) target := fun target kt => X83.aaload hx (j := u) (v := (.ref (own_pick u c0 c1 c2))) (by rw [e83]; exact Ar104.1) (State.isArrayOf_alike hZ.alike Ar104.2.1) rfl Ar104.2.2 hin104 hat104 (g := (mkF m 237 #[.val (.long q0), .second, .val (.long q1), .second, .val (.long q2), .second, .val (.int p3), .val (.int p4), .val (.int p5), .val (.int bb), .val (.int ae), .val (.int u), .val (.int (0 : Int32)), .val (.ref c0), .val (.ref c1), .val (.ref c2), .val (.ref at_), .val (.ref cs), .val (.ref (own_e (0 : Int32) bb u ae c0 c1 c2 at_)), .unset] [(.int u), (.ref cs)])) rfl rfl (hb hby at_237) _ kt
          have st105 : ∀ target, Steps p.tables e below (T83.setTop (mkF m 268 #[.val (.long q0), .second, .val (.long q1), .second, .val (.long q2), .second, .val (.int p3), .val (.int p4), .val (.int p5), .val (.int bb), .val (.int ae), .val (.int u), .val (.int (0 : Int32)), .val (.ref c0), .val (.ref c1), .val (.ref c2), .val (.ref at_), .val (.ref cs), .val (.ref (own_e (0 : Int32) bb u ae c0 c1 c2 at_)), .val (.ref (own_pick u c0 c1 c2))] [])) target → Steps p.tables e below (T83.setTop (mkF m 238 #[.val (.long q0), .second, .val (.long q1), .second, .val (.long q2), .second, .val (.int p3), .val (.int p4), .val (.int p5), .val (.int bb), .val (.int ae), .val (.int u), .val (.int (0 : Int32)), .val (.ref c0), .val (.ref c1), .val (.ref c2), .val (.ref at_), .val (.ref cs), .val (.ref (own_e (0 : Int32) bb u ae c0 c1 c2 at_)), .unset] [(.ref (own_pick u c0 c1 c2))])) target := by
            intro target kt
            refine XS.astore X83.here hx rfl (hb hby at_238) rfl rfl (l' := #[.val (.long q0), .second, .val (.long q1), .second, .val (.long q2), .second, .val (.int p3), .val (.int p4), .val (.int p5), .val (.int bb), .val (.int ae), .val (.int u), .val (.int (0 : Int32)), .val (.ref c0), .val (.ref c1), .val (.ref c2), .val (.ref at_), .val (.ref cs), .val (.ref (own_e (0 : Int32) bb u ae c0 c1 c2 at_)), .val (.ref (own_pick u c0 c1 c2))]) rfl ?_
            show Steps p.tables e below (T83.setTop (mkF m 240 #[.val (.long q0), .second, .val (.long q1), .second, .val (.long q2), .second, .val (.int p3), .val (.int p4), .val (.int p5), .val (.int bb), .val (.int ae), .val (.int u), .val (.int (0 : Int32)), .val (.ref c0), .val (.ref c1), .val (.ref c2), .val (.ref at_), .val (.ref cs), .val (.ref (own_e (0 : Int32) bb u ae c0 c1 c2 at_)), .val (.ref (own_pick u c0 c1 c2))] [])) _
            refine XS.goto X83.here hx rfl (pc0 := 240) (pc' := 268) rfl (hb hby at_240) (by decide) (by decide) ?_
            exact kt
          obtain ⟨fs, hr, hrun, hended, hRW⟩ := Jvm.Stand.leaveW (s := s) X83 hS (by rw [e83]; exact kz_70) (v := some (.int (1 : Int32))) (fun h => by rw [Bd.returns] at h; cases h)
          refine ⟨_, _, pre0 _ (st1 _ (st2 _ (st3 _ (st4 _ (st5 _ (st6 _ (st7.trans (st8 _ (st9 _ (st10 _ (st11.trans (st12 _ (st13 _ (st14 _ (st15.trans (st16 _ (st17 _ (st18 _ (st19 _ (st20.trans (st21 _ (st22 _ (st23 _ (st24 _ (st25 _ (st26 _ (st27 _ (st28 _ (st29 _ (st30 _ (st47 _ (st64 _ (st70 _ (st81 _ (st82 _ (st83.trans (st84 _ (st85 _ (st86 _ (st87 _ (st100 _ (st101 _ (st102 _ (st103 _ (st104 _ (st105 _ ?_)))))))))))))))))))))))))))))))))))))))))))))), hrun, hended, _, _, rfl, ?_, hRW.1, hRW.2.1, hRW.2.2.1, hRW.2.2.2.mono (by decide) (by decide)⟩
          · refine XS.aload X83.here hx rfl (hb hby at_268) rfl rfl ?_
            refine XS.aload X83.here hx rfl (hb hby at_270) rfl rfl ?_
            refine Jvm.RoadKit.acmp (g := (mkF m 272 #[.val (.long q0), .second, .val (.long q1), .second, .val (.long q2), .second, .val (.int p3), .val (.int p4), .val (.int p5), .val (.int bb), .val (.int ae), .val (.int u), .val (.int (0 : Int32)), .val (.ref c0), .val (.ref c1), .val (.ref c2), .val (.ref at_), .val (.ref cs), .val (.ref (own_e (0 : Int32) bb u ae c0 c1 c2 at_)), .val (.ref (own_pick u c0 c1 c2))] [(.ref (own_pick u c0 c1 c2)), (.ref (own_e (0 : Int32) bb u ae c0 c1 c2 at_))])) X83 hx rfl rfl rfl (pc0 := 272) (pc' := 275) (same := true) rfl (hb hby at_272) rfl (decide_eq_true (congrArg Value.ref (by rw [own_e, if_pos x1, if_neg y1, if_pos y2]))) (by decide) (by decide) ?_
            refine XS.iconst X83.here hx rfl (hb hby at_275) ?_
            refine XS.goto X83.here hx rfl (pc0 := 276) (pc' := 280) rfl (hb hby at_276) (by decide) (by decide) ?_
            show Steps p.tables e below (T83.setTop (mkF m 280 #[.val (.long q0), .second, .val (.long q1), .second, .val (.long q2), .second, .val (.int p3), .val (.int p4), .val (.int p5), .val (.int bb), .val (.int ae), .val (.int u), .val (.int (0 : Int32)), .val (.ref c0), .val (.ref c1), .val (.ref c2), .val (.ref at_), .val (.ref cs), .val (.ref (own_e (0 : Int32) bb u ae c0 c1 c2 at_)), .val (.ref (own_pick u c0 c1 c2))] [(.int (1 : Int32))])) _
            exact retN X83 hx (t := .boolean) Bd.returns (by simp) (hb hby at_280) hr
          · show Q_rm0 Z q0 q1 q2 p3 p4 p5 h0 n0 _ T83.heap _
            rw [e83]
            exact ⟨rfl, N83⟩
        · have st106 : ∀ target, Steps p.tables e below (T83.setTop (mkF m 243 #[.val (.long q0), .second, .val (.long q1), .second, .val (.long q2), .second, .val (.int p3), .val (.int p4), .val (.int p5), .val (.int bb), .val (.int ae), .val (.int u), .val (.int (0 : Int32)), .val (.ref c0), .val (.ref c1), .val (.ref c2), .val (.ref at_), .val (.ref cs), .val (.ref (own_e (0 : Int32) bb u ae c0 c1 c2 at_)), .unset] [])) target → Steps p.tables e below (T83.setTop (mkF m 230 #[.val (.long q0), .second, .val (.long q1), .second, .val (.long q2), .second, .val (.int p3), .val (.int p4), .val (.int p5), .val (.int bb), .val (.int ae), .val (.int u), .val (.int (0 : Int32)), .val (.ref c0), .val (.ref c1), .val (.ref c2), .val (.ref at_), .val (.ref cs), .val (.ref (own_e (0 : Int32) bb u ae c0 c1 c2 at_)), .unset] [(.int bb), (.int u)])) target := by
            intro target kt
            refine XS.icmpYes X83.here hx rfl (pc0 := 230) (pc' := 243) rfl (hb hby at_230) rfl (flt y2).2.1 (by decide) (by decide) ?_
            exact kt
          have st107 : ∀ target, Steps p.tables e below (T83.setTop (mkF m 245 #[.val (.long q0), .second, .val (.long q1), .second, .val (.long q2), .second, .val (.int p3), .val (.int p4), .val (.int p5), .val (.int bb), .val (.int ae), .val (.int u), .val (.int (0 : Int32)), .val (.ref c0), .val (.ref c1), .val (.ref c2), .val (.ref at_), .val (.ref cs), .val (.ref (own_e (0 : Int32) bb u ae c0 c1 c2 at_)), .unset] [(.int ae)])) target → Steps p.tables e below (T83.setTop (mkF m 243 #[.val (.long q0), .second, .val (.long q1), .second, .val (.long q2), .second, .val (.int p3), .val (.int p4), .val (.int p5), .val (.int bb), .val (.int ae), .val (.int u), .val (.int (0 : Int32)), .val (.ref c0), .val (.ref c1), .val (.ref c2), .val (.ref at_), .val (.ref cs), .val (.ref (own_e (0 : Int32) bb u ae c0 c1 c2 at_)), .unset] [])) target := by
            intro target kt
            refine XS.iload X83.here hx rfl (hb hby at_243) rfl ?_
            exact kt
          by_cases z1 : ae = (0 : Int32)
          · have st108 : ∀ target, Steps p.tables e below (T83.setTop (mkF m 248 #[.val (.long q0), .second, .val (.long q1), .second, .val (.long q2), .second, .val (.int p3), .val (.int p4), .val (.int p5), .val (.int bb), .val (.int ae), .val (.int u), .val (.int (0 : Int32)), .val (.ref c0), .val (.ref c1), .val (.ref c2), .val (.ref at_), .val (.ref cs), .val (.ref (own_e (0 : Int32) bb u ae c0 c1 c2 at_)), .unset] [])) target → Steps p.tables e below (T83.setTop (mkF m 245 #[.val (.long q0), .second, .val (.long q1), .second, .val (.long q2), .second, .val (.int p3), .val (.int p4), .val (.int p5), .val (.int bb), .val (.int ae), .val (.int u), .val (.int (0 : Int32)), .val (.ref c0), .val (.ref c1), .val (.ref c2), .val (.ref at_), .val (.ref cs), .val (.ref (own_e (0 : Int32) bb u ae c0 c1 c2 at_)), .unset] [(.int ae)])) target := by
              intro target kt
              show Steps p.tables e below (T83.setTop (mkF m 245 #[.val (.long q0), .second, .val (.long q1), .second, .val (.long q2), .second, .val (.int p3), .val (.int p4), .val (.int p5), .val (.int bb), .val (.int ae), .val (.int u), .val (.int (0 : Int32)), .val (.ref c0), .val (.ref c1), .val (.ref c2), .val (.ref at_), .val (.ref cs), .val (.ref (own_e (0 : Int32) bb u ae c0 c1 c2 at_)), .unset] [(.int ae)])) _
              refine XS.ifNo X83.here hx rfl (hb hby at_245) rfl ((if0 _ _).trans (teq z1).2) ?_
              exact kt
            have st109 : ∀ target, Steps p.tables e below (T83.setTop (mkF m 251 #[.val (.long q0), .second, .val (.long q1), .second, .val (.long q2), .second, .val (.int p3), .val (.int p4), .val (.int p5), .val (.int bb), .val (.int ae), .val (.int u), .val (.int (0 : Int32)), .val (.ref c0), .val (.ref c1), .val (.ref c2), .val (.ref at_), .val (.ref cs), .val (.ref (own_e (0 : Int32) bb u ae c0 c1 c2 at_)), .unset] [(.int (3 : Int32)), (.int bb)])) target → Steps p.tables e below (T83.setTop (mkF m 248 #[.val (.long q0), .second, .val (.long q1), .second, .val (.long q2), .second, .val (.int p3), .val (.int p4), .val (.int p5), .val (.int bb), .val (.int ae), .val (.int u), .val (.int (0 : Int32)), .val (.ref c0), .val (.ref c1), .val (.ref c2), .val (.ref at_), .val (.ref cs), .val (.ref (own_e (0 : Int32) bb u ae c0 c1 c2 at_)), .unset] [])) target := by
              intro target kt
              refine XS.iload X83.here hx rfl (hb hby at_248) rfl ?_
              refine XS.iconst X83.here hx rfl (hb hby at_250) ?_
              exact kt
            by_cases z2 : bb = (3 : Int32)
            · have st110 : ∀ target, Steps p.tables e below (T83.setTop (mkF m 254 #[.val (.long q0), .second, .val (.long q1), .second, .val (.long q2), .second, .val (.int p3), .val (.int p4), .val (.int p5), .val (.int bb), .val (.int ae), .val (.int u), .val (.int (0 : Int32)), .val (.ref c0), .val (.ref c1), .val (.ref c2), .val (.ref at_), .val (.ref cs), .val (.ref (own_e (0 : Int32) bb u ae c0 c1 c2 at_)), .unset] [])) target → Steps p.tables e below (T83.setTop (mkF m 251 #[.val (.long q0), .second, .val (.long q1), .second, .val (.long q2), .second, .val (.int p3), .val (.int p4), .val (.int p5), .val (.int bb), .val (.int ae), .val (.int u), .val (.int (0 : Int32)), .val (.ref c0), .val (.ref c1), .val (.ref c2), .val (.ref at_), .val (.ref cs), .val (.ref (own_e (0 : Int32) bb u ae c0 c1 c2 at_)), .unset] [(.int (3 : Int32)), (.int bb)])) target := by
                intro target kt
                refine XS.icmpNo X83.here hx rfl (hb hby at_251) rfl (teq z2).2 ?_
                exact kt
              have st111 : ∀ target, Steps p.tables e below (T83.setTop (mkF m 268 #[.val (.long q0), .second, .val (.long q1), .second, .val (.long q2), .second, .val (.int p3), .val (.int p4), .val (.int p5), .val (.int bb), .val (.int ae), .val (.int u), .val (.int (0 : Int32)), .val (.ref c0), .val (.ref c1), .val (.ref c2), .val (.ref at_), .val (.ref cs), .val (.ref (own_e (0 : Int32) bb u ae c0 c1 c2 at_)), .val (.ref at_)] [])) target → Steps p.tables e below (T83.setTop (mkF m 254 #[.val (.long q0), .second, .val (.long q1), .second, .val (.long q2), .second, .val (.int p3), .val (.int p4), .val (.int p5), .val (.int bb), .val (.int ae), .val (.int u), .val (.int (0 : Int32)), .val (.ref c0), .val (.ref c1), .val (.ref c2), .val (.ref at_), .val (.ref cs), .val (.ref (own_e (0 : Int32) bb u ae c0 c1 c2 at_)), .unset] [])) target := by
                intro target kt
                refine XS.aload X83.here hx rfl (hb hby at_254) rfl rfl ?_
                refine XS.astore X83.here hx rfl (hb hby at_256) rfl rfl (l' := #[.val (.long q0), .second, .val (.long q1), .second, .val (.long q2), .second, .val (.int p3), .val (.int p4), .val (.int p5), .val (.int bb), .val (.int ae), .val (.int u), .val (.int (0 : Int32)), .val (.ref c0), .val (.ref c1), .val (.ref c2), .val (.ref at_), .val (.ref cs), .val (.ref (own_e (0 : Int32) bb u ae c0 c1 c2 at_)), .val (.ref at_)]) rfl ?_
                refine XS.goto X83.here hx rfl (pc0 := 258) (pc' := 268) rfl (hb hby at_258) (by decide) (by decide) ?_
                exact kt
              obtain ⟨fs, hr, hrun, hended, hRW⟩ := Jvm.Stand.leaveW (s := s) X83 hS (by rw [e83]; exact kz_70) (v := some (.int (1 : Int32))) (fun h => by rw [Bd.returns] at h; cases h)
              refine ⟨_, _, pre0 _ (st1 _ (st2 _ (st3 _ (st4 _ (st5 _ (st6 _ (st7.trans (st8 _ (st9 _ (st10 _ (st11.trans (st12 _ (st13 _ (st14 _ (st15.trans (st16 _ (st17 _ (st18 _ (st19 _ (st20.trans (st21 _ (st22 _ (st23 _ (st24 _ (st25 _ (st26 _ (st27 _ (st28 _ (st29 _ (st30 _ (st47 _ (st64 _ (st70 _ (st81 _ (st82 _ (st83.trans (st84 _ (st85 _ (st86 _ (st87 _ (st100 _ (st101 _ (st106 _ (st107 _ (st108 _ (st109 _ (st110 _ (st111 _ ?_)))))))))))))))))))))))))))))))))))))))))))))))), hrun, hended, _, _, rfl, ?_, hRW.1, hRW.2.1, hRW.2.2.1, hRW.2.2.2.mono (by decide) (by decide)⟩
              · refine XS.aload X83.here hx rfl (hb hby at_268) rfl rfl ?_
                show Steps p.tables e below (T83.setTop (mkF m 270 #[.val (.long q0), .second, .val (.long q1), .second, .val (.long q2), .second, .val (.int p3), .val (.int p4), .val (.int p5), .val (.int bb), .val (.int ae), .val (.int u), .val (.int (0 : Int32)), .val (.ref c0), .val (.ref c1), .val (.ref c2), .val (.ref at_), .val (.ref cs), .val (.ref (own_e (0 : Int32) bb u ae c0 c1 c2 at_)), .val (.ref at_)] [(.ref (own_e (0 : Int32) bb u ae c0 c1 c2 at_))])) _
                refine XS.aload X83.here hx rfl (hb hby at_270) rfl rfl ?_
                refine Jvm.RoadKit.acmp (g := (mkF m 272 #[.val (.long q0), .second, .val (.long q1), .second, .val (.long q2), .second, .val (.int p3), .val (.int p4), .val (.int p5), .val (.int bb), .val (.int ae), .val (.int u), .val (.int (0 : Int32)), .val (.ref c0), .val (.ref c1), .val (.ref c2), .val (.ref at_), .val (.ref cs), .val (.ref (own_e (0 : Int32) bb u ae c0 c1 c2 at_)), .val (.ref at_)] [(.ref at_), (.ref (own_e (0 : Int32) bb u ae c0 c1 c2 at_))])) X83 hx rfl rfl rfl (pc0 := 272) (pc' := 275) (same := true) rfl (hb hby at_272) rfl (decide_eq_true (congrArg Value.ref (by rw [own_e, if_pos x1, if_neg y1, if_neg y2, if_pos z1, if_pos z2]))) (by decide) (by decide) ?_
                refine XS.iconst X83.here hx rfl (hb hby at_275) ?_
                refine XS.goto X83.here hx rfl (pc0 := 276) (pc' := 280) rfl (hb hby at_276) (by decide) (by decide) ?_
                show Steps p.tables e below (T83.setTop (mkF m 280 #[.val (.long q0), .second, .val (.long q1), .second, .val (.long q2), .second, .val (.int p3), .val (.int p4), .val (.int p5), .val (.int bb), .val (.int ae), .val (.int u), .val (.int (0 : Int32)), .val (.ref c0), .val (.ref c1), .val (.ref c2), .val (.ref at_), .val (.ref cs), .val (.ref (own_e (0 : Int32) bb u ae c0 c1 c2 at_)), .val (.ref at_)] [(.int (1 : Int32))])) _
                exact retN X83 hx (t := .boolean) Bd.returns (by simp) (hb hby at_280) hr
              · show Q_rm0 Z q0 q1 q2 p3 p4 p5 h0 n0 _ T83.heap _
                rw [e83]
                exact ⟨rfl, N83⟩
            · have st112 : ∀ target, Steps p.tables e below (T83.setTop (mkF m 261 #[.val (.long q0), .second, .val (.long q1), .second, .val (.long q2), .second, .val (.int p3), .val (.int p4), .val (.int p5), .val (.int bb), .val (.int ae), .val (.int u), .val (.int (0 : Int32)), .val (.ref c0), .val (.ref c1), .val (.ref c2), .val (.ref at_), .val (.ref cs), .val (.ref (own_e (0 : Int32) bb u ae c0 c1 c2 at_)), .unset] [])) target → Steps p.tables e below (T83.setTop (mkF m 251 #[.val (.long q0), .second, .val (.long q1), .second, .val (.long q2), .second, .val (.int p3), .val (.int p4), .val (.int p5), .val (.int bb), .val (.int ae), .val (.int u), .val (.int (0 : Int32)), .val (.ref c0), .val (.ref c1), .val (.ref c2), .val (.ref at_), .val (.ref cs), .val (.ref (own_e (0 : Int32) bb u ae c0 c1 c2 at_)), .unset] [(.int (3 : Int32)), (.int bb)])) target := by
                intro target kt
                refine XS.icmpYes X83.here hx rfl (pc0 := 251) (pc' := 261) rfl (hb hby at_251) rfl (feq z2).2 (by decide) (by decide) ?_
                exact kt
              have st113 : ∀ target, Steps p.tables e below (T83.setTop (mkF m 265 #[.val (.long q0), .second, .val (.long q1), .second, .val (.long q2), .second, .val (.int p3), .val (.int p4), .val (.int p5), .val (.int bb), .val (.int ae), .val (.int u), .val (.int (0 : Int32)), .val (.ref c0), .val (.ref c1), .val (.ref c2), .val (.ref at_), .val (.ref cs), .val (.ref (own_e (0 : Int32) bb u ae c0 c1 c2 at_)), .unset] [(.int bb), (.ref cs)])) target → Steps p.tables e below (T83.setTop (mkF m 261 #[.val (.long q0), .second, .val (.long q1), .second, .val (.long q2), .second, .val (.int p3), .val (.int p4), .val (.int p5), .val (.int bb), .val (.int ae), .val (.int u), .val (.int (0 : Int32)), .val (.ref c0), .val (.ref c1), .val (.ref c2), .val (.ref at_), .val (.ref cs), .val (.ref (own_e (0 : Int32) bb u ae c0 c1 c2 at_)), .unset] [])) target := by
                intro target kt
                refine XS.aload X83.here hx rfl (hb hby at_261) rfl rfl ?_
                refine XS.iload X83.here hx rfl (hb hby at_263) rfl ?_
                exact kt
              obtain ⟨cl114, Ar114, qc114, Sz114, Mn114, Hs114, Gs114⟩ := id V_cs_70
              have hin114 : ¬ (bb < 0 ∨ cl114.slots.size ≤ (bb).toNatClampNeg) := own_in3 Sz114 (own_b3 hb4 z2)
              have hat114 : cl114.slots[(bb).toNatClampNeg]? = some (.ref (own_pick bb c0 c1 c2)) := Hs114.at hin114 (own_at3 (own_b3 hb4 z2))
              have st114 : ∀ target, Steps p.tables e below (T83.setTop (mkF m 266 #[.val (.long q0), .second, .val (.long q1), .second, .val (.long q2), .second, .val (.int p3), .val (.int p4), .val (.int p5), .val (.int bb), .val (.int ae), .val (.int u), .val (.int (0 : Int32)), .val (.ref c0), .val (.ref c1), .val (.ref c2), .val (.ref at_), .val (.ref cs), .val (.ref (own_e (0 : Int32) bb u ae c0 c1 c2 at_)), .unset] [(.ref (own_pick bb c0 c1 c2))])) target → Steps p.tables e below (T83.setTop (mkF m 265 #[.val (.long q0), .second, .val (.long q1), .second, .val (.long q2), .second, .val (.int p3), .val (.int p4), .val (.int p5), .val (.int bb), .val (.int ae), .val (.int u), .val (.int (0 : Int32)), .val (.ref c0), .val (.ref c1), .val (.ref c2), .val (.ref at_), .val (.ref cs), .val (.ref (own_e (0 : Int32) bb u ae c0 c1 c2 at_)), .unset] [(.int bb), (.ref cs)])) target := fun target kt => X83.aaload hx (j := bb) (v := (.ref (own_pick bb c0 c1 c2))) (by rw [e83]; exact Ar114.1) (State.isArrayOf_alike hZ.alike Ar114.2.1) rfl Ar114.2.2 hin114 hat114 (g := (mkF m 265 #[.val (.long q0), .second, .val (.long q1), .second, .val (.long q2), .second, .val (.int p3), .val (.int p4), .val (.int p5), .val (.int bb), .val (.int ae), .val (.int u), .val (.int (0 : Int32)), .val (.ref c0), .val (.ref c1), .val (.ref c2), .val (.ref at_), .val (.ref cs), .val (.ref (own_e (0 : Int32) bb u ae c0 c1 c2 at_)), .unset] [(.int bb), (.ref cs)])) rfl rfl (hb hby at_265) _ kt
              have st115 : ∀ target, Steps p.tables e below (T83.setTop (mkF m 268 #[.val (.long q0), .second, .val (.long q1), .second, .val (.long q2), .second, .val (.int p3), .val (.int p4), .val (.int p5), .val (.int bb), .val (.int ae), .val (.int u), .val (.int (0 : Int32)), .val (.ref c0), .val (.ref c1), .val (.ref c2), .val (.ref at_), .val (.ref cs), .val (.ref (own_e (0 : Int32) bb u ae c0 c1 c2 at_)), .val (.ref (own_pick bb c0 c1 c2))] [])) target → Steps p.tables e below (T83.setTop (mkF m 266 #[.val (.long q0), .second, .val (.long q1), .second, .val (.long q2), .second, .val (.int p3), .val (.int p4), .val (.int p5), .val (.int bb), .val (.int ae), .val (.int u), .val (.int (0 : Int32)), .val (.ref c0), .val (.ref c1), .val (.ref c2), .val (.ref at_), .val (.ref cs), .val (.ref (own_e (0 : Int32) bb u ae c0 c1 c2 at_)), .unset] [(.ref (own_pick bb c0 c1 c2))])) target := by
                intro target kt
                refine XS.astore X83.here hx rfl (hb hby at_266) rfl rfl (l' := #[.val (.long q0), .second, .val (.long q1), .second, .val (.long q2), .second, .val (.int p3), .val (.int p4), .val (.int p5), .val (.int bb), .val (.int ae), .val (.int u), .val (.int (0 : Int32)), .val (.ref c0), .val (.ref c1), .val (.ref c2), .val (.ref at_), .val (.ref cs), .val (.ref (own_e (0 : Int32) bb u ae c0 c1 c2 at_)), .val (.ref (own_pick bb c0 c1 c2))]) rfl ?_
                exact kt
              obtain ⟨fs, hr, hrun, hended, hRW⟩ := Jvm.Stand.leaveW (s := s) X83 hS (by rw [e83]; exact kz_70) (v := some (.int (1 : Int32))) (fun h => by rw [Bd.returns] at h; cases h)
              refine ⟨_, _, pre0 _ (st1 _ (st2 _ (st3 _ (st4 _ (st5 _ (st6 _ (st7.trans (st8 _ (st9 _ (st10 _ (st11.trans (st12 _ (st13 _ (st14 _ (st15.trans (st16 _ (st17 _ (st18 _ (st19 _ (st20.trans (st21 _ (st22 _ (st23 _ (st24 _ (st25 _ (st26 _ (st27 _ (st28 _ (st29 _ (st30 _ (st47 _ (st64 _ (st70 _ (st81 _ (st82 _ (st83.trans (st84 _ (st85 _ (st86 _ (st87 _ (st100 _ (st101 _ (st106 _ (st107 _ (st108 _ (st109 _ (st112 _ (st113 _ (st114 _ (st115 _ ?_)))))))))))))))))))))))))))))))))))))))))))))))))), hrun, hended, _, _, rfl, ?_, hRW.1, hRW.2.1, hRW.2.2.1, hRW.2.2.2.mono (by decide) (by decide)⟩
              · show Steps p.tables e below (T83.setTop (mkF m 268 #[.val (.long q0), .second, .val (.long q1), .second, .val (.long q2), .second, .val (.int p3), .val (.int p4), .val (.int p5), .val (.int bb), .val (.int ae), .val (.int u), .val (.int (0 : Int32)), .val (.ref c0), .val (.ref c1), .val (.ref c2), .val (.ref at_), .val (.ref cs), .val (.ref (own_e (0 : Int32) bb u ae c0 c1 c2 at_)), .val (.ref (own_pick bb c0 c1 c2))] [])) _
                refine XS.aload X83.here hx rfl (hb hby at_268) rfl rfl ?_
                refine XS.aload X83.here hx rfl (hb hby at_270) rfl rfl ?_
                refine Jvm.RoadKit.acmp (g := (mkF m 272 #[.val (.long q0), .second, .val (.long q1), .second, .val (.long q2), .second, .val (.int p3), .val (.int p4), .val (.int p5), .val (.int bb), .val (.int ae), .val (.int u), .val (.int (0 : Int32)), .val (.ref c0), .val (.ref c1), .val (.ref c2), .val (.ref at_), .val (.ref cs), .val (.ref (own_e (0 : Int32) bb u ae c0 c1 c2 at_)), .val (.ref (own_pick bb c0 c1 c2))] [(.ref (own_pick bb c0 c1 c2)), (.ref (own_e (0 : Int32) bb u ae c0 c1 c2 at_))])) X83 hx rfl rfl rfl (pc0 := 272) (pc' := 275) (same := true) rfl (hb hby at_272) rfl (decide_eq_true (congrArg Value.ref (by rw [own_e, if_pos x1, if_neg y1, if_neg y2, if_pos z1, if_neg z2]))) (by decide) (by decide) ?_
                refine XS.iconst X83.here hx rfl (hb hby at_275) ?_
                refine XS.goto X83.here hx rfl (pc0 := 276) (pc' := 280) rfl (hb hby at_276) (by decide) (by decide) ?_
                show Steps p.tables e below (T83.setTop (mkF m 280 #[.val (.long q0), .second, .val (.long q1), .second, .val (.long q2), .second, .val (.int p3), .val (.int p4), .val (.int p5), .val (.int bb), .val (.int ae), .val (.int u), .val (.int (0 : Int32)), .val (.ref c0), .val (.ref c1), .val (.ref c2), .val (.ref at_), .val (.ref cs), .val (.ref (own_e (0 : Int32) bb u ae c0 c1 c2 at_)), .val (.ref (own_pick bb c0 c1 c2))] [(.int (1 : Int32))])) _
                exact retN X83 hx (t := .boolean) Bd.returns (by simp) (hb hby at_280) hr
              · show Q_rm0 Z q0 q1 q2 p3 p4 p5 h0 n0 _ T83.heap _
                rw [e83]
                exact ⟨rfl, N83⟩
          · have st116 : ∀ target, Steps p.tables e below (T83.setTop (mkF m 254 #[.val (.long q0), .second, .val (.long q1), .second, .val (.long q2), .second, .val (.int p3), .val (.int p4), .val (.int p5), .val (.int bb), .val (.int ae), .val (.int u), .val (.int (0 : Int32)), .val (.ref c0), .val (.ref c1), .val (.ref c2), .val (.ref at_), .val (.ref cs), .val (.ref (own_e (0 : Int32) bb u ae c0 c1 c2 at_)), .unset] [])) target → Steps p.tables e below (T83.setTop (mkF m 245 #[.val (.long q0), .second, .val (.long q1), .second, .val (.long q2), .second, .val (.int p3), .val (.int p4), .val (.int p5), .val (.int bb), .val (.int ae), .val (.int u), .val (.int (0 : Int32)), .val (.ref c0), .val (.ref c1), .val (.ref c2), .val (.ref at_), .val (.ref cs), .val (.ref (own_e (0 : Int32) bb u ae c0 c1 c2 at_)), .unset] [(.int ae)])) target := by
              intro target kt
              refine XS.ifYes X83.here hx rfl (pc0 := 245) (pc' := 254) rfl (hb hby at_245) rfl ((if0 _ _).trans (feq z1).2) (by decide) (by decide) ?_
              exact kt
            have st117 : ∀ target, Steps p.tables e below (T83.setTop (mkF m 268 #[.val (.long q0), .second, .val (.long q1), .second, .val (.long q2), .second, .val (.int p3), .val (.int p4), .val (.int p5), .val (.int bb), .val (.int ae), .val (.int u), .val (.int (0 : Int32)), .val (.ref c0), .val (.ref c1), .val (.ref c2), .val (.ref at_), .val (.ref cs), .val (.ref (own_e (0 : Int32) bb u ae c0 c1 c2 at_)), .val (.ref at_)] [])) target → Steps p.tables e below (T83.setTop (mkF m 254 #[.val (.long q0), .second, .val (.long q1), .second, .val (.long q2), .second, .val (.int p3), .val (.int p4), .val (.int p5), .val (.int bb), .val (.int ae), .val (.int u), .val (.int (0 : Int32)), .val (.ref c0), .val (.ref c1), .val (.ref c2), .val (.ref at_), .val (.ref cs), .val (.ref (own_e (0 : Int32) bb u ae c0 c1 c2 at_)), .unset] [])) target := by
              intro target kt
              refine XS.aload X83.here hx rfl (hb hby at_254) rfl rfl ?_
              refine XS.astore X83.here hx rfl (hb hby at_256) rfl rfl (l' := #[.val (.long q0), .second, .val (.long q1), .second, .val (.long q2), .second, .val (.int p3), .val (.int p4), .val (.int p5), .val (.int bb), .val (.int ae), .val (.int u), .val (.int (0 : Int32)), .val (.ref c0), .val (.ref c1), .val (.ref c2), .val (.ref at_), .val (.ref cs), .val (.ref (own_e (0 : Int32) bb u ae c0 c1 c2 at_)), .val (.ref at_)]) rfl ?_
              show Steps p.tables e below (T83.setTop (mkF m 258 #[.val (.long q0), .second, .val (.long q1), .second, .val (.long q2), .second, .val (.int p3), .val (.int p4), .val (.int p5), .val (.int bb), .val (.int ae), .val (.int u), .val (.int (0 : Int32)), .val (.ref c0), .val (.ref c1), .val (.ref c2), .val (.ref at_), .val (.ref cs), .val (.ref (own_e (0 : Int32) bb u ae c0 c1 c2 at_)), .val (.ref at_)] [])) _
              refine XS.goto X83.here hx rfl (pc0 := 258) (pc' := 268) rfl (hb hby at_258) (by decide) (by decide) ?_
              exact kt
            obtain ⟨fs, hr, hrun, hended, hRW⟩ := Jvm.Stand.leaveW (s := s) X83 hS (by rw [e83]; exact kz_70) (v := some (.int (1 : Int32))) (fun h => by rw [Bd.returns] at h; cases h)
            refine ⟨_, _, pre0 _ (st1 _ (st2 _ (st3 _ (st4 _ (st5 _ (st6 _ (st7.trans (st8 _ (st9 _ (st10 _ (st11.trans (st12 _ (st13 _ (st14 _ (st15.trans (st16 _ (st17 _ (st18 _ (st19 _ (st20.trans (st21 _ (st22 _ (st23 _ (st24 _ (st25 _ (st26 _ (st27 _ (st28 _ (st29 _ (st30 _ (st47 _ (st64 _ (st70 _ (st81 _ (st82 _ (st83.trans (st84 _ (st85 _ (st86 _ (st87 _ (st100 _ (st101 _ (st106 _ (st107 _ (st116 _ (st117 _ ?_)))))))))))))))))))))))))))))))))))))))))))))), hrun, hended, _, _, rfl, ?_, hRW.1, hRW.2.1, hRW.2.2.1, hRW.2.2.2.mono (by decide) (by decide)⟩
            · refine XS.aload X83.here hx rfl (hb hby at_268) rfl rfl ?_
              refine XS.aload X83.here hx rfl (hb hby at_270) rfl rfl ?_
              refine Jvm.RoadKit.acmp (g := (mkF m 272 #[.val (.long q0), .second, .val (.long q1), .second, .val (.long q2), .second, .val (.int p3), .val (.int p4), .val (.int p5), .val (.int bb), .val (.int ae), .val (.int u), .val (.int (0 : Int32)), .val (.ref c0), .val (.ref c1), .val (.ref c2), .val (.ref at_), .val (.ref cs), .val (.ref (own_e (0 : Int32) bb u ae c0 c1 c2 at_)), .val (.ref at_)] [(.ref at_), (.ref (own_e (0 : Int32) bb u ae c0 c1 c2 at_))])) X83 hx rfl rfl rfl (pc0 := 272) (pc' := 275) (same := true) rfl (hb hby at_272) rfl (decide_eq_true (congrArg Value.ref (by rw [own_e, if_pos x1, if_neg y1, if_neg y2, if_neg z1]))) (by decide) (by decide) ?_
              refine XS.iconst X83.here hx rfl (hb hby at_275) ?_
              refine XS.goto X83.here hx rfl (pc0 := 276) (pc' := 280) rfl (hb hby at_276) (by decide) (by decide) ?_
              show Steps p.tables e below (T83.setTop (mkF m 280 #[.val (.long q0), .second, .val (.long q1), .second, .val (.long q2), .second, .val (.int p3), .val (.int p4), .val (.int p5), .val (.int bb), .val (.int ae), .val (.int u), .val (.int (0 : Int32)), .val (.ref c0), .val (.ref c1), .val (.ref c2), .val (.ref at_), .val (.ref cs), .val (.ref (own_e (0 : Int32) bb u ae c0 c1 c2 at_)), .val (.ref at_)] [(.int (1 : Int32))])) _
              exact retN X83 hx (t := .boolean) Bd.returns (by simp) (hb hby at_280) hr
            · show Q_rm0 Z q0 q1 q2 p3 p4 p5 h0 n0 _ T83.heap _
              rw [e83]
              exact ⟨rfl, N83⟩
    · have st118 : ∀ target, Steps p.tables e below (T83.setTop (mkF m 209 #[.val (.long q0), .second, .val (.long q1), .second, .val (.long q2), .second, .val (.int p3), .val (.int p4), .val (.int p5), .val (.int bb), .val (.int ae), .val (.int u), .val (.int (0 : Int32)), .val (.ref c0), .val (.ref c1), .val (.ref c2), .val (.ref at_), .val (.ref cs), .val (.ref (own_e (0 : Int32) bb u ae c0 c1 c2 at_)), .unset] [])) target → Steps p.tables e below (T83.setTop (mkF m 206 #[.val (.long q0), .second, .val (.long q1), .second, .val (.long q2), .second, .val (.int p3), .val (.int p4), .val (.int p5), .val (.int bb), .val (.int ae), .val (.int u), .val (.int (0 : Int32)), .val (.ref c0), .val (.ref c1), .val (.ref c2), .val (.ref at_), .val (.ref cs), .val (.ref (own_e (0 : Int32) bb u ae c0 c1 c2 at_)), .unset] [(.int bb), (.int (0 : Int32))])) target := by
        intro target kt
        refine XS.icmpNo X83.here hx rfl (hb hby at_206) rfl (flt x1).1 ?_
        exact kt
      have st119 : ∀ target, Steps p.tables e below (T83.setTop (mkF m 213 #[.val (.long q0), .second, .val (.long q1), .second, .val (.long q2), .second, .val (.int p3), .val (.int p4), .val (.int p5), .val (.int bb), .val (.int ae), .val (.int u), .val (.int (0 : Int32)), .val (.ref c0), .val (.ref c1), .val (.ref c2), .val (.ref at_), .val (.ref cs), .val (.ref (own_e (0 : Int32) bb u ae c0 c1 c2 at_)), .unset] [(.int (0 : Int32)), (.ref cs)])) target → Steps p.tables e below (T83.setTop (mkF m 209 #[.val (.long q0), .second, .val (.long q1), .second, .val (.long q2), .second, .val (.int p3), .val (.int p4), .val (.int p5), .val (.int bb), .val (.int ae), .val (.int u), .val (.int (0 : Int32)), .val (.ref c0), .val (.ref c1), .val (.ref c2), .val (.ref at_), .val (.ref cs), .val (.ref (own_e (0 : Int32) bb u ae c0 c1 c2 at_)), .unset] [])) target := by
        intro target kt
        refine XS.aload X83.here hx rfl (hb hby at_209) rfl rfl ?_
        show Steps p.tables e below (T83.setTop (mkF m 211 #[.val (.long q0), .second, .val (.long q1), .second, .val (.long q2), .second, .val (.int p3), .val (.int p4), .val (.int p5), .val (.int bb), .val (.int ae), .val (.int u), .val (.int (0 : Int32)), .val (.ref c0), .val (.ref c1), .val (.ref c2), .val (.ref at_), .val (.ref cs), .val (.ref (own_e (0 : Int32) bb u ae c0 c1 c2 at_)), .unset] [(.ref cs)])) _
        refine XS.iload X83.here hx rfl (hb hby at_211) rfl ?_
        exact kt
      obtain ⟨cl120, Ar120, qc120, Sz120, Mn120, Hs120, Gs120⟩ := id V_cs_70
      have hin120 : ¬ ((0 : Int32) < 0 ∨ cl120.slots.size ≤ ((0 : Int32)).toNatClampNeg) := inb_of Sz120 ⟨by decide, by decide⟩
      have hat120 : cl120.slots[((0 : Int32)).toNatClampNeg]? = some (.ref c0) := Hs120.at hin120 rfl
      have st120 : ∀ target, Steps p.tables e below (T83.setTop (mkF m 214 #[.val (.long q0), .second, .val (.long q1), .second, .val (.long q2), .second, .val (.int p3), .val (.int p4), .val (.int p5), .val (.int bb), .val (.int ae), .val (.int u), .val (.int (0 : Int32)), .val (.ref c0), .val (.ref c1), .val (.ref c2), .val (.ref at_), .val (.ref cs), .val (.ref (own_e (0 : Int32) bb u ae c0 c1 c2 at_)), .unset] [(.ref c0)])) target → Steps p.tables e below (T83.setTop (mkF m 213 #[.val (.long q0), .second, .val (.long q1), .second, .val (.long q2), .second, .val (.int p3), .val (.int p4), .val (.int p5), .val (.int bb), .val (.int ae), .val (.int u), .val (.int (0 : Int32)), .val (.ref c0), .val (.ref c1), .val (.ref c2), .val (.ref at_), .val (.ref cs), .val (.ref (own_e (0 : Int32) bb u ae c0 c1 c2 at_)), .unset] [(.int (0 : Int32)), (.ref cs)])) target := fun target kt => X83.aaload hx (j := (0 : Int32)) (v := (.ref c0)) (by rw [e83]; exact Ar120.1) (State.isArrayOf_alike hZ.alike Ar120.2.1) rfl Ar120.2.2 hin120 hat120 (g := (mkF m 213 #[.val (.long q0), .second, .val (.long q1), .second, .val (.long q2), .second, .val (.int p3), .val (.int p4), .val (.int p5), .val (.int bb), .val (.int ae), .val (.int u), .val (.int (0 : Int32)), .val (.ref c0), .val (.ref c1), .val (.ref c2), .val (.ref at_), .val (.ref cs), .val (.ref (own_e (0 : Int32) bb u ae c0 c1 c2 at_)), .unset] [(.int (0 : Int32)), (.ref cs)])) rfl rfl (hb hby at_213) _ kt
      have st121 : ∀ target, Steps p.tables e below (T83.setTop (mkF m 268 #[.val (.long q0), .second, .val (.long q1), .second, .val (.long q2), .second, .val (.int p3), .val (.int p4), .val (.int p5), .val (.int bb), .val (.int ae), .val (.int u), .val (.int (0 : Int32)), .val (.ref c0), .val (.ref c1), .val (.ref c2), .val (.ref at_), .val (.ref cs), .val (.ref (own_e (0 : Int32) bb u ae c0 c1 c2 at_)), .val (.ref c0)] [])) target → Steps p.tables e below (T83.setTop (mkF m 214 #[.val (.long q0), .second, .val (.long q1), .second, .val (.long q2), .second, .val (.int p3), .val (.int p4), .val (.int p5), .val (.int bb), .val (.int ae), .val (.int u), .val (.int (0 : Int32)), .val (.ref c0), .val (.ref c1), .val (.ref c2), .val (.ref at_), .val (.ref cs), .val (.ref (own_e (0 : Int32) bb u ae c0 c1 c2 at_)), .unset] [(.ref c0)])) target := by
        intro target kt
        refine XS.astore X83.here hx rfl (hb hby at_214) rfl rfl (l' := #[.val (.long q0), .second, .val (.long q1), .second, .val (.long q2), .second, .val (.int p3), .val (.int p4), .val (.int p5), .val (.int bb), .val (.int ae), .val (.int u), .val (.int (0 : Int32)), .val (.ref c0), .val (.ref c1), .val (.ref c2), .val (.ref at_), .val (.ref cs), .val (.ref (own_e (0 : Int32) bb u ae c0 c1 c2 at_)), .val (.ref c0)]) rfl ?_
        refine XS.goto X83.here hx rfl (pc0 := 216) (pc' := 268) rfl (hb hby at_216) (by decide) (by decide) ?_
        exact kt
      obtain ⟨fs, hr, hrun, hended, hRW⟩ := Jvm.Stand.leaveW (s := s) X83 hS (by rw [e83]; exact kz_70) (v := some (.int (1 : Int32))) (fun h => by rw [Bd.returns] at h; cases h)
      refine ⟨_, _, pre0 _ (st1 _ (st2 _ (st3 _ (st4 _ (st5 _ (st6 _ (st7.trans (st8 _ (st9 _ (st10 _ (st11.trans (st12 _ (st13 _ (st14 _ (st15.trans (st16 _ (st17 _ (st18 _ (st19 _ (st20.trans (st21 _ (st22 _ (st23 _ (st24 _ (st25 _ (st26 _ (st27 _ (st28 _ (st29 _ (st30 _ (st47 _ (st64 _ (st70 _ (st81 _ (st82 _ (st83.trans (st84 _ (st85 _ (st118 _ (st119 _ (st120 _ (st121 _ ?_)))))))))))))))))))))))))))))))))))))))))), hrun, hended, _, _, rfl, ?_, hRW.1, hRW.2.1, hRW.2.2.1, hRW.2.2.2.mono (by decide) (by decide)⟩
      · refine XS.aload X83.here hx rfl (hb hby at_268) rfl rfl ?_
        refine XS.aload X83.here hx rfl (hb hby at_270) rfl rfl ?_
        refine Jvm.RoadKit.acmp (g := (mkF m 272 #[.val (.long q0), .second, .val (.long q1), .second, .val (.long q2), .second, .val (.int p3), .val (.int p4), .val (.int p5), .val (.int bb), .val (.int ae), .val (.int u), .val (.int (0 : Int32)), .val (.ref c0), .val (.ref c1), .val (.ref c2), .val (.ref at_), .val (.ref cs), .val (.ref (own_e (0 : Int32) bb u ae c0 c1 c2 at_)), .val (.ref c0)] [(.ref c0), (.ref (own_e (0 : Int32) bb u ae c0 c1 c2 at_))])) X83 hx rfl rfl rfl (pc0 := 272) (pc' := 275) (same := true) rfl (hb hby at_272) rfl (decide_eq_true (congrArg Value.ref (by rw [own_e, if_neg x1]; rfl))) (by decide) (by decide) ?_
        refine XS.iconst X83.here hx rfl (hb hby at_275) ?_
        refine XS.goto X83.here hx rfl (pc0 := 276) (pc' := 280) rfl (hb hby at_276) (by decide) (by decide) ?_
        show Steps p.tables e below (T83.setTop (mkF m 280 #[.val (.long q0), .second, .val (.long q1), .second, .val (.long q2), .second, .val (.int p3), .val (.int p4), .val (.int p5), .val (.int bb), .val (.int ae), .val (.int u), .val (.int (0 : Int32)), .val (.ref c0), .val (.ref c1), .val (.ref c2), .val (.ref at_), .val (.ref cs), .val (.ref (own_e (0 : Int32) bb u ae c0 c1 c2 at_)), .val (.ref c0)] [(.int (1 : Int32))])) _
        exact retN X83 hx (t := .boolean) Bd.returns (by simp) (hb hby at_280) hr
      · show Q_rm0 Z q0 q1 q2 p3 p4 p5 h0 n0 _ T83.heap _
        rw [e83]
        exact ⟨rfl, N83⟩
  · have st122 : ∀ target, Steps p.tables e below (T70.setTop (mkF m 196 #[.val (.long q0), .second, .val (.long q1), .second, .val (.long q2), .second, .val (.int p3), .val (.int p4), .val (.int p5), .val (.int bb), .val (.int ae), .val (.int u), .val (.int (1 : Int32)), .val (.ref c0), .val (.ref c1), .val (.ref c2), .val (.ref at_), .val (.ref cs), .unset, .unset] [(.int (1 : Int32)), (.ref cs)])) target → Steps p.tables e below (T70.setTop (mkF m 192 #[.val (.long q0), .second, .val (.long q1), .second, .val (.long q2), .second, .val (.int p3), .val (.int p4), .val (.int p5), .val (.int bb), .val (.int ae), .val (.int u), .val (.int (1 : Int32)), .val (.ref c0), .val (.ref c1), .val (.ref c2), .val (.ref at_), .val (.ref cs), .unset, .unset] [])) target := by
      intro target kt
      show Steps p.tables e below (T70.setTop (mkF m 192 #[.val (.long q0), .second, .val (.long q1), .second, .val (.long q2), .second, .val (.int p3), .val (.int p4), .val (.int p5), .val (.int bb), .val (.int ae), .val (.int u), .val (.int (1 : Int32)), .val (.ref c0), .val (.ref c1), .val (.ref c2), .val (.ref at_), .val (.ref cs), .unset, .unset] [])) _
      refine XS.aload X70.here hx rfl (hb hby at_192) rfl rfl ?_
      refine XS.iload X70.here hx rfl (hb hby at_194) rfl ?_
      exact kt
    obtain ⟨cl123, Ar123, qc123, Sz123, Mn123, Hs123, Gs123⟩ := id V_cs_70
    have hin123 : ¬ ((1 : Int32) < 0 ∨ cl123.slots.size ≤ ((1 : Int32)).toNatClampNeg) := inb_of Sz123 ⟨by decide, by decide⟩
    have hat123 : cl123.slots[((1 : Int32)).toNatClampNeg]? = some (.ref c1) := Hs123.at hin123 rfl
    have st123 : ∀ target, Steps p.tables e below (T70.setTop (mkF m 197 #[.val (.long q0), .second, .val (.long q1), .second, .val (.long q2), .second, .val (.int p3), .val (.int p4), .val (.int p5), .val (.int bb), .val (.int ae), .val (.int u), .val (.int (1 : Int32)), .val (.ref c0), .val (.ref c1), .val (.ref c2), .val (.ref at_), .val (.ref cs), .unset, .unset] [(.ref c1)])) target → Steps p.tables e below (T70.setTop (mkF m 196 #[.val (.long q0), .second, .val (.long q1), .second, .val (.long q2), .second, .val (.int p3), .val (.int p4), .val (.int p5), .val (.int bb), .val (.int ae), .val (.int u), .val (.int (1 : Int32)), .val (.ref c0), .val (.ref c1), .val (.ref c2), .val (.ref at_), .val (.ref cs), .unset, .unset] [(.int (1 : Int32)), (.ref cs)])) target := fun target kt => X70.aaload hx (j := (1 : Int32)) (v := (.ref c1)) (by rw [e70]; exact Ar123.1) (State.isArrayOf_alike hZ.alike Ar123.2.1) rfl Ar123.2.2 hin123 hat123 (g := (mkF m 196 #[.val (.long q0), .second, .val (.long q1), .second, .val (.long q2), .second, .val (.int p3), .val (.int p4), .val (.int p5), .val (.int bb), .val (.int ae), .val (.int u), .val (.int (1 : Int32)), .val (.ref c0), .val (.ref c1), .val (.ref c2), .val (.ref at_), .val (.ref cs), .unset, .unset] [(.int (1 : Int32)), (.ref cs)])) rfl rfl (hb hby at_196) _ kt
    obtain ⟨cq124, kq124, qv124a, qv124b, qv124c⟩ := isOf hZ e70 E_c1_i_70
    obtain ⟨_, _, ⟨T124, L124, k124, n124⟩, -, X124, ⟨Lc124, hQ124, l124, y124, z124⟩, st124⟩ := X70.virtualBack hx (y := (⟨"com/example/nomlog/nomlog/lang/Cell", "follow", "()Lcom/example/nomlog/nomlog/lang/Term;"⟩ : MethodName)) (z := (⟨"com/example/nomlog/nomlog/lang/Cell", "follow", "()Lcom/example/nomlog/nomlog/lang/Term;"⟩ : MethodName)) hown (mvT hZ (hw _ (List.mem_of_getElem? (i := 43) rfl))) (mvT hZ (hw _ (List.mem_of_getElem? (i := 44) rfl))) (notFace_of_selects (args := #[]) (mvT hZ (hw _ (List.mem_of_getElem? (i := 46) rfl)))) (mvT hZ (hw _ (List.mem_of_getElem? (i := 46) rfl))) (mvT hZ (hw _ (List.mem_of_getElem? (i := 45) rfl))) (by decide) (backOf (W := 0) (rmF1 l Z a0 hw [] c1 c2 at_ (own_cut u 1 (own_V1 bb ae c2 at_)) (own_cut u 2 (own_V2 bb at_)) h70 n0 Z_70 E_c1_i_70 E_c2_i_70 E_at__i_70 p70_1 p70_2 own_d1 own_d2 ne_c2_at_) hZ (hw _ (List.mem_of_getElem? (i := 47) rfl)) (hw _ (List.mem_of_getElem? (i := 3) rfl)) (by decide) (by decide)) qv124a qv124c (g := (mkF m 197 #[.val (.long q0), .second, .val (.long q1), .second, .val (.long q2), .second, .val (.int p3), .val (.int p4), .val (.int p5), .val (.int bb), .val (.int ae), .val (.int u), .val (.int (1 : Int32)), .val (.ref c0), .val (.ref c1), .val (.ref c2), .val (.ref at_), .val (.ref cs), .unset, .unset] [(.ref c1)])) rfl (by rw [hml]; rfl) (Steps.refl _) (argsL := []) (rest := []) (lenOf pd_4 rfl) rfl (by show 2 * 0 + _ ≤ _; exact Nat.le_of_eq rfl) (hb hby at_197) (fun _ _ => ⟨rfl, e70, (by decide : 7 + 0 ≤ _), (by decide : 18 + 0 ≤ _)⟩)
    dsimp only [Pt.U, Pt.locs, Pt.cells, Pt.slots] at X124 l124 y124 z124 st124 hQ124
    subst l124 y124 z124
    obtain ⟨rfl, Nq124, e124⟩ := hQ124
    have N124 := Fr.app N70 Nq124
    have xq := own_x1 (c0 := c0) (c1 := c1) (c2 := c2) (at_ := at_) hb4 hu4 ha2 ne_c1_at_ ne_c2_at_
    rw [xq] at st124
    have st125 : ∀ target, Steps p.tables e below (T124.setTop (mkF m 202 #[.val (.long q0), .second, .val (.long q1), .second, .val (.long q2), .second, .val (.int p3), .val (.int p4), .val (.int p5), .val (.int bb), .val (.int ae), .val (.int u), .val (.int (1 : Int32)), .val (.ref c0), .val (.ref c1), .val (.ref c2), .val (.ref at_), .val (.ref cs), .val (.ref (own_e (1 : Int32) bb u ae c0 c1 c2 at_)), .unset] [])) target → Steps p.tables e below (T124.setTop (mkF m 200 #[.val (.long q0), .second, .val (.long q1), .second, .val (.long q2), .second, .val (.int p3), .val (.int p4), .val (.int p5), .val (.int bb), .val (.int ae), .val (.int u), .val (.int (1 : Int32)), .val (.ref c0), .val (.ref c1), .val (.ref c2), .val (.ref at_), .val (.ref cs), .unset, .unset] [(.ref (own_e (1 : Int32) bb u ae c0 c1 c2 at_))])) target := by
      intro target kt
      refine XS.astore X124.here hx rfl (hb hby at_200) rfl rfl (l' := #[.val (.long q0), .second, .val (.long q1), .second, .val (.long q2), .second, .val (.int p3), .val (.int p4), .val (.int p5), .val (.int bb), .val (.int ae), .val (.int u), .val (.int (1 : Int32)), .val (.ref c0), .val (.ref c1), .val (.ref c2), .val (.ref at_), .val (.ref cs), .val (.ref (own_e (1 : Int32) bb u ae c0 c1 c2 at_)), .unset]) rfl ?_
      exact kt
    have st126 : ∀ target, Steps p.tables e below (T124.setTop (mkF m 206 #[.val (.long q0), .second, .val (.long q1), .second, .val (.long q2), .second, .val (.int p3), .val (.int p4), .val (.int p5), .val (.int bb), .val (.int ae), .val (.int u), .val (.int (1 : Int32)), .val (.ref c0), .val (.ref c1), .val (.ref c2), .val (.ref at_), .val (.ref cs), .val (.ref (own_e (1 : Int32) bb u ae c0 c1 c2 at_)), .unset] [(.int bb), (.int (1 : Int32))])) target → Steps p.tables e below (T124.setTop (mkF m 202 #[.val (.long q0), .second, .val (.long q1), .second, .val (.long q2), .second, .val (.int p3), .val (.int p4), .val (.int p5), .val (.int bb), .val (.int ae), .val (.int u), .val (.int (1 : Int32)), .val (.ref c0), .val (.ref c1), .val (.ref c2), .val (.ref at_), .val (.ref cs), .val (.ref (own_e (1 : Int32) bb u ae c0 c1 c2 at_)), .unset] [])) target := by
      intro target kt
      refine XS.iload X124.here hx rfl (hb hby at_202) rfl ?_
      refine XS.iload X124.here hx rfl (hb hby at_204) rfl ?_
      exact kt
    by_cases x1 : (1 : Int32) < bb
    · have st127 : ∀ target, Steps p.tables e below (T124.setTop (mkF m 219 #[.val (.long q0), .second, .val (.long q1), .second, .val (.long q2), .second, .val (.int p3), .val (.int p4), .val (.int p5), .val (.int bb), .val (.int ae), .val (.int u), .val (.int (1 : Int32)), .val (.ref c0), .val (.ref c1), .val (.ref c2), .val (.ref at_), .val (.ref cs), .val (.ref (own_e (1 : Int32) bb u ae c0 c1 c2 at_)), .unset] [])) target → Steps p.tables e below (T124.setTop (mkF m 206 #[.val (.long q0), .second, .val (.long q1), .second, .val (.long q2), .second, .val (.int p3), .val (.int p4), .val (.int p5), .val (.int bb), .val (.int ae), .val (.int u), .val (.int (1 : Int32)), .val (.ref c0), .val (.ref c1), .val (.ref c2), .val (.ref at_), .val (.ref cs), .val (.ref (own_e (1 : Int32) bb u ae c0 c1 c2 at_)), .unset] [(.int bb), (.int (1 : Int32))])) target := by
        intro target kt
        refine XS.icmpYes X124.here hx rfl (pc0 := 206) (pc' := 219) rfl (hb hby at_206) rfl (tlt x1).1 (by decide) (by decide) ?_
        exact kt
      have st128 : ∀ target, Steps p.tables e below (T124.setTop (mkF m 223 #[.val (.long q0), .second, .val (.long q1), .second, .val (.long q2), .second, .val (.int p3), .val (.int p4), .val (.int p5), .val (.int bb), .val (.int ae), .val (.int u), .val (.int (1 : Int32)), .val (.ref c0), .val (.ref c1), .val (.ref c2), .val (.ref at_), .val (.ref cs), .val (.ref (own_e (1 : Int32) bb u ae c0 c1 c2 at_)), .unset] [(.int (1 : Int32)), (.int u)])) target → Steps p.tables e below (T124.setTop (mkF m 219 #[.val (.long q0), .second, .val (.long q1), .second, .val (.long q2), .second, .val (.int p3), .val (.int p4), .val (.int p5), .val (.int bb), .val (.int ae), .val (.int u), .val (.int (1 : Int32)), .val (.ref c0), .val (.ref c1), .val (.ref c2), .val (.ref at_), .val (.ref cs), .val (.ref (own_e (1 : Int32) bb u ae c0 c1 c2 at_)), .unset] [])) target := by
        intro target kt
        refine XS.iload X124.here hx rfl (hb hby at_219) rfl ?_
        refine XS.iload X124.here hx rfl (hb hby at_221) rfl ?_
        exact kt
      by_cases y1 : u < (1 : Int32)
      · have st129 : ∀ target, Steps p.tables e below (T124.setTop (mkF m 243 #[.val (.long q0), .second, .val (.long q1), .second, .val (.long q2), .second, .val (.int p3), .val (.int p4), .val (.int p5), .val (.int bb), .val (.int ae), .val (.int u), .val (.int (1 : Int32)), .val (.ref c0), .val (.ref c1), .val (.ref c2), .val (.ref at_), .val (.ref cs), .val (.ref (own_e (1 : Int32) bb u ae c0 c1 c2 at_)), .unset] [])) target → Steps p.tables e below (T124.setTop (mkF m 223 #[.val (.long q0), .second, .val (.long q1), .second, .val (.long q2), .second, .val (.int p3), .val (.int p4), .val (.int p5), .val (.int bb), .val (.int ae), .val (.int u), .val (.int (1 : Int32)), .val (.ref c0), .val (.ref c1), .val (.ref c2), .val (.ref at_), .val (.ref cs), .val (.ref (own_e (1 : Int32) bb u ae c0 c1 c2 at_)), .unset] [(.int (1 : Int32)), (.int u)])) target := by
          intro target kt
          show Steps p.tables e below (T124.setTop (mkF m 223 #[.val (.long q0), .second, .val (.long q1), .second, .val (.long q2), .second, .val (.int p3), .val (.int p4), .val (.int p5), .val (.int bb), .val (.int ae), .val (.int u), .val (.int (1 : Int32)), .val (.ref c0), .val (.ref c1), .val (.ref c2), .val (.ref at_), .val (.ref cs), .val (.ref (own_e (1 : Int32) bb u ae c0 c1 c2 at_)), .unset] [(.int (1 : Int32)), (.int u)])) _
          refine XS.icmpYes X124.here hx rfl (pc0 := 223) (pc' := 243) rfl (hb hby at_223) rfl (tlt y1).1 (by decide) (by decide) ?_
          exact kt
        have st130 : ∀ target, Steps p.tables e below (T124.setTop (mkF m 245 #[.val (.long q0), .second, .val (.long q1), .second, .val (.long q2), .second, .val (.int p3), .val (.int p4), .val (.int p5), .val (.int bb), .val (.int ae), .val (.int u), .val (.int (1 : Int32)), .val (.ref c0), .val (.ref c1), .val (.ref c2), .val (.ref at_), .val (.ref cs), .val (.ref (own_e (1 : Int32) bb u ae c0 c1 c2 at_)), .unset] [(.int ae)])) target → Steps p.tables e below (T124.setTop (mkF m 243 #[.val (.long q0), .second, .val (.long q1), .second, .val (.long q2), .second, .val (.int p3), .val (.int p4), .val (.int p5), .val (.int bb), .val (.int ae), .val (.int u), .val (.int (1 : Int32)), .val (.ref c0), .val (.ref c1), .val (.ref c2), .val (.ref at_), .val (.ref cs), .val (.ref (own_e (1 : Int32) bb u ae c0 c1 c2 at_)), .unset] [])) target := by
          intro target kt
          refine XS.iload X124.here hx rfl (hb hby at_243) rfl ?_
          exact kt
        by_cases z1 : ae = (0 : Int32)
        · have st131 : ∀ target, Steps p.tables e below (T124.setTop (mkF m 248 #[.val (.long q0), .second, .val (.long q1), .second, .val (.long q2), .second, .val (.int p3), .val (.int p4), .val (.int p5), .val (.int bb), .val (.int ae), .val (.int u), .val (.int (1 : Int32)), .val (.ref c0), .val (.ref c1), .val (.ref c2), .val (.ref at_), .val (.ref cs), .val (.ref (own_e (1 : Int32) bb u ae c0 c1 c2 at_)), .unset] [])) target → Steps p.tables e below (T124.setTop (mkF m 245 #[.val (.long q0), .second, .val (.long q1), .second, .val (.long q2), .second, .val (.int p3), .val (.int p4), .val (.int p5), .val (.int bb), .val (.int ae), .val (.int u), .val (.int (1 : Int32)), .val (.ref c0), .val (.ref c1), .val (.ref c2), .val (.ref at_), .val (.ref cs), .val (.ref (own_e (1 : Int32) bb u ae c0 c1 c2 at_)), .unset] [(.int ae)])) target := by
            intro target kt
            refine XS.ifNo X124.here hx rfl (hb hby at_245) rfl ((if0 _ _).trans (teq z1).2) ?_
            exact kt
          have st132 : ∀ target, Steps p.tables e below (T124.setTop (mkF m 251 #[.val (.long q0), .second, .val (.long q1), .second, .val (.long q2), .second, .val (.int p3), .val (.int p4), .val (.int p5), .val (.int bb), .val (.int ae), .val (.int u), .val (.int (1 : Int32)), .val (.ref c0), .val (.ref c1), .val (.ref c2), .val (.ref at_), .val (.ref cs), .val (.ref (own_e (1 : Int32) bb u ae c0 c1 c2 at_)), .unset] [(.int (3 : Int32)), (.int bb)])) target → Steps p.tables e below (T124.setTop (mkF m 248 #[.val (.long q0), .second, .val (.long q1), .second, .val (.long q2), .second, .val (.int p3), .val (.int p4), .val (.int p5), .val (.int bb), .val (.int ae), .val (.int u), .val (.int (1 : Int32)), .val (.ref c0), .val (.ref c1), .val (.ref c2), .val (.ref at_), .val (.ref cs), .val (.ref (own_e (1 : Int32) bb u ae c0 c1 c2 at_)), .unset] [])) target := by
            intro target kt
            refine XS.iload X124.here hx rfl (hb hby at_248) rfl ?_
            refine XS.iconst X124.here hx rfl (hb hby at_250) ?_
            exact kt
          by_cases z2 : bb = (3 : Int32)
          · have st133 : ∀ target, Steps p.tables e below (T124.setTop (mkF m 254 #[.val (.long q0), .second, .val (.long q1), .second, .val (.long q2), .second, .val (.int p3), .val (.int p4), .val (.int p5), .val (.int bb), .val (.int ae), .val (.int u), .val (.int (1 : Int32)), .val (.ref c0), .val (.ref c1), .val (.ref c2), .val (.ref at_), .val (.ref cs), .val (.ref (own_e (1 : Int32) bb u ae c0 c1 c2 at_)), .unset] [])) target → Steps p.tables e below (T124.setTop (mkF m 251 #[.val (.long q0), .second, .val (.long q1), .second, .val (.long q2), .second, .val (.int p3), .val (.int p4), .val (.int p5), .val (.int bb), .val (.int ae), .val (.int u), .val (.int (1 : Int32)), .val (.ref c0), .val (.ref c1), .val (.ref c2), .val (.ref at_), .val (.ref cs), .val (.ref (own_e (1 : Int32) bb u ae c0 c1 c2 at_)), .unset] [(.int (3 : Int32)), (.int bb)])) target := by
              intro target kt
              refine XS.icmpNo X124.here hx rfl (hb hby at_251) rfl (teq z2).2 ?_
              exact kt
            have st134 : ∀ target, Steps p.tables e below (T124.setTop (mkF m 268 #[.val (.long q0), .second, .val (.long q1), .second, .val (.long q2), .second, .val (.int p3), .val (.int p4), .val (.int p5), .val (.int bb), .val (.int ae), .val (.int u), .val (.int (1 : Int32)), .val (.ref c0), .val (.ref c1), .val (.ref c2), .val (.ref at_), .val (.ref cs), .val (.ref (own_e (1 : Int32) bb u ae c0 c1 c2 at_)), .val (.ref at_)] [])) target → Steps p.tables e below (T124.setTop (mkF m 254 #[.val (.long q0), .second, .val (.long q1), .second, .val (.long q2), .second, .val (.int p3), .val (.int p4), .val (.int p5), .val (.int bb), .val (.int ae), .val (.int u), .val (.int (1 : Int32)), .val (.ref c0), .val (.ref c1), .val (.ref c2), .val (.ref at_), .val (.ref cs), .val (.ref (own_e (1 : Int32) bb u ae c0 c1 c2 at_)), .unset] [])) target := by
              intro target kt
              refine XS.aload X124.here hx rfl (hb hby at_254) rfl rfl ?_
              refine XS.astore X124.here hx rfl (hb hby at_256) rfl rfl (l' := #[.val (.long q0), .second, .val (.long q1), .second, .val (.long q2), .second, .val (.int p3), .val (.int p4), .val (.int p5), .val (.int bb), .val (.int ae), .val (.int u), .val (.int (1 : Int32)), .val (.ref c0), .val (.ref c1), .val (.ref c2), .val (.ref at_), .val (.ref cs), .val (.ref (own_e (1 : Int32) bb u ae c0 c1 c2 at_)), .val (.ref at_)]) rfl ?_
              show Steps p.tables e below (T124.setTop (mkF m 258 #[.val (.long q0), .second, .val (.long q1), .second, .val (.long q2), .second, .val (.int p3), .val (.int p4), .val (.int p5), .val (.int bb), .val (.int ae), .val (.int u), .val (.int (1 : Int32)), .val (.ref c0), .val (.ref c1), .val (.ref c2), .val (.ref at_), .val (.ref cs), .val (.ref (own_e (1 : Int32) bb u ae c0 c1 c2 at_)), .val (.ref at_)] [])) _
              refine XS.goto X124.here hx rfl (pc0 := 258) (pc' := 268) rfl (hb hby at_258) (by decide) (by decide) ?_
              exact kt
            obtain ⟨fs, hr, hrun, hended, hRW⟩ := Jvm.Stand.leaveW (s := s) X124 hS (by rw [e124]; exact kz_70) (v := some (.int (1 : Int32))) (fun h => by rw [Bd.returns] at h; cases h)
            refine ⟨_, _, pre0 _ (st1 _ (st2 _ (st3 _ (st4 _ (st5 _ (st6 _ (st7.trans (st8 _ (st9 _ (st10 _ (st11.trans (st12 _ (st13 _ (st14 _ (st15.trans (st16 _ (st17 _ (st18 _ (st19 _ (st20.trans (st21 _ (st22 _ (st23 _ (st24 _ (st25 _ (st26 _ (st27 _ (st28 _ (st29 _ (st30 _ (st47 _ (st64 _ (st70 _ (st122 _ (st123 _ (st124.trans (st125 _ (st126 _ (st127 _ (st128 _ (st129 _ (st130 _ (st131 _ (st132 _ (st133 _ (st134 _ ?_)))))))))))))))))))))))))))))))))))))))))))))), hrun, hended, _, _, rfl, ?_, hRW.1, hRW.2.1, hRW.2.2.1, hRW.2.2.2.mono (by decide) (by decide)⟩
            · refine XS.aload X124.here hx rfl (hb hby at_268) rfl rfl ?_
              refine XS.aload X124.here hx rfl (hb hby at_270) rfl rfl ?_
              refine Jvm.RoadKit.acmp (g := (mkF m 272 #[.val (.long q0), .second, .val (.long q1), .second, .val (.long q2), .second, .val (.int p3), .val (.int p4), .val (.int p5), .val (.int bb), .val (.int ae), .val (.int u), .val (.int (1 : Int32)), .val (.ref c0), .val (.ref c1), .val (.ref c2), .val (.ref at_), .val (.ref cs), .val (.ref (own_e (1 : Int32) bb u ae c0 c1 c2 at_)), .val (.ref at_)] [(.ref at_), (.ref (own_e (1 : Int32) bb u ae c0 c1 c2 at_))])) X124 hx rfl rfl rfl (pc0 := 272) (pc' := 275) (same := true) rfl (hb hby at_272) rfl (decide_eq_true (congrArg Value.ref (by rw [own_e, if_pos x1, if_pos y1, if_pos z1, if_pos z2]))) (by decide) (by decide) ?_
              refine XS.iconst X124.here hx rfl (hb hby at_275) ?_
              refine XS.goto X124.here hx rfl (pc0 := 276) (pc' := 280) rfl (hb hby at_276) (by decide) (by decide) ?_
              show Steps p.tables e below (T124.setTop (mkF m 280 #[.val (.long q0), .second, .val (.long q1), .second, .val (.long q2), .second, .val (.int p3), .val (.int p4), .val (.int p5), .val (.int bb), .val (.int ae), .val (.int u), .val (.int (1 : Int32)), .val (.ref c0), .val (.ref c1), .val (.ref c2), .val (.ref at_), .val (.ref cs), .val (.ref (own_e (1 : Int32) bb u ae c0 c1 c2 at_)), .val (.ref at_)] [(.int (1 : Int32))])) _
              exact retN X124 hx (t := .boolean) Bd.returns (by simp) (hb hby at_280) hr
            · show Q_rm0 Z q0 q1 q2 p3 p4 p5 h0 n0 _ T124.heap _
              rw [e124]
              exact ⟨rfl, N124⟩
          · have st135 : ∀ target, Steps p.tables e below (T124.setTop (mkF m 261 #[.val (.long q0), .second, .val (.long q1), .second, .val (.long q2), .second, .val (.int p3), .val (.int p4), .val (.int p5), .val (.int bb), .val (.int ae), .val (.int u), .val (.int (1 : Int32)), .val (.ref c0), .val (.ref c1), .val (.ref c2), .val (.ref at_), .val (.ref cs), .val (.ref (own_e (1 : Int32) bb u ae c0 c1 c2 at_)), .unset] [])) target → Steps p.tables e below (T124.setTop (mkF m 251 #[.val (.long q0), .second, .val (.long q1), .second, .val (.long q2), .second, .val (.int p3), .val (.int p4), .val (.int p5), .val (.int bb), .val (.int ae), .val (.int u), .val (.int (1 : Int32)), .val (.ref c0), .val (.ref c1), .val (.ref c2), .val (.ref at_), .val (.ref cs), .val (.ref (own_e (1 : Int32) bb u ae c0 c1 c2 at_)), .unset] [(.int (3 : Int32)), (.int bb)])) target := by
              intro target kt
              refine XS.icmpYes X124.here hx rfl (pc0 := 251) (pc' := 261) rfl (hb hby at_251) rfl (feq z2).2 (by decide) (by decide) ?_
              exact kt
            have st136 : ∀ target, Steps p.tables e below (T124.setTop (mkF m 265 #[.val (.long q0), .second, .val (.long q1), .second, .val (.long q2), .second, .val (.int p3), .val (.int p4), .val (.int p5), .val (.int bb), .val (.int ae), .val (.int u), .val (.int (1 : Int32)), .val (.ref c0), .val (.ref c1), .val (.ref c2), .val (.ref at_), .val (.ref cs), .val (.ref (own_e (1 : Int32) bb u ae c0 c1 c2 at_)), .unset] [(.int bb), (.ref cs)])) target → Steps p.tables e below (T124.setTop (mkF m 261 #[.val (.long q0), .second, .val (.long q1), .second, .val (.long q2), .second, .val (.int p3), .val (.int p4), .val (.int p5), .val (.int bb), .val (.int ae), .val (.int u), .val (.int (1 : Int32)), .val (.ref c0), .val (.ref c1), .val (.ref c2), .val (.ref at_), .val (.ref cs), .val (.ref (own_e (1 : Int32) bb u ae c0 c1 c2 at_)), .unset] [])) target := by
              intro target kt
              refine XS.aload X124.here hx rfl (hb hby at_261) rfl rfl ?_
              show Steps p.tables e below (T124.setTop (mkF m 263 #[.val (.long q0), .second, .val (.long q1), .second, .val (.long q2), .second, .val (.int p3), .val (.int p4), .val (.int p5), .val (.int bb), .val (.int ae), .val (.int u), .val (.int (1 : Int32)), .val (.ref c0), .val (.ref c1), .val (.ref c2), .val (.ref at_), .val (.ref cs), .val (.ref (own_e (1 : Int32) bb u ae c0 c1 c2 at_)), .unset] [(.ref cs)])) _
              refine XS.iload X124.here hx rfl (hb hby at_263) rfl ?_
              exact kt
            obtain ⟨cl137, Ar137, qc137, Sz137, Mn137, Hs137, Gs137⟩ := id V_cs_70
            have hin137 : ¬ (bb < 0 ∨ cl137.slots.size ≤ (bb).toNatClampNeg) := own_in3 Sz137 (own_b3 hb4 z2)
            have hat137 : cl137.slots[(bb).toNatClampNeg]? = some (.ref (own_pick bb c0 c1 c2)) := Hs137.at hin137 (own_at3 (own_b3 hb4 z2))
            have st137 : ∀ target, Steps p.tables e below (T124.setTop (mkF m 266 #[.val (.long q0), .second, .val (.long q1), .second, .val (.long q2), .second, .val (.int p3), .val (.int p4), .val (.int p5), .val (.int bb), .val (.int ae), .val (.int u), .val (.int (1 : Int32)), .val (.ref c0), .val (.ref c1), .val (.ref c2), .val (.ref at_), .val (.ref cs), .val (.ref (own_e (1 : Int32) bb u ae c0 c1 c2 at_)), .unset] [(.ref (own_pick bb c0 c1 c2))])) target → Steps p.tables e below (T124.setTop (mkF m 265 #[.val (.long q0), .second, .val (.long q1), .second, .val (.long q2), .second, .val (.int p3), .val (.int p4), .val (.int p5), .val (.int bb), .val (.int ae), .val (.int u), .val (.int (1 : Int32)), .val (.ref c0), .val (.ref c1), .val (.ref c2), .val (.ref at_), .val (.ref cs), .val (.ref (own_e (1 : Int32) bb u ae c0 c1 c2 at_)), .unset] [(.int bb), (.ref cs)])) target := fun target kt => X124.aaload hx (j := bb) (v := (.ref (own_pick bb c0 c1 c2))) (by rw [e124]; exact Ar137.1) (State.isArrayOf_alike hZ.alike Ar137.2.1) rfl Ar137.2.2 hin137 hat137 (g := (mkF m 265 #[.val (.long q0), .second, .val (.long q1), .second, .val (.long q2), .second, .val (.int p3), .val (.int p4), .val (.int p5), .val (.int bb), .val (.int ae), .val (.int u), .val (.int (1 : Int32)), .val (.ref c0), .val (.ref c1), .val (.ref c2), .val (.ref at_), .val (.ref cs), .val (.ref (own_e (1 : Int32) bb u ae c0 c1 c2 at_)), .unset] [(.int bb), (.ref cs)])) rfl rfl (hb hby at_265) _ kt
            have st138 : ∀ target, Steps p.tables e below (T124.setTop (mkF m 268 #[.val (.long q0), .second, .val (.long q1), .second, .val (.long q2), .second, .val (.int p3), .val (.int p4), .val (.int p5), .val (.int bb), .val (.int ae), .val (.int u), .val (.int (1 : Int32)), .val (.ref c0), .val (.ref c1), .val (.ref c2), .val (.ref at_), .val (.ref cs), .val (.ref (own_e (1 : Int32) bb u ae c0 c1 c2 at_)), .val (.ref (own_pick bb c0 c1 c2))] [])) target → Steps p.tables e below (T124.setTop (mkF m 266 #[.val (.long q0), .second, .val (.long q1), .second, .val (.long q2), .second, .val (.int p3), .val (.int p4), .val (.int p5), .val (.int bb), .val (.int ae), .val (.int u), .val (.int (1 : Int32)), .val (.ref c0), .val (.ref c1), .val (.ref c2), .val (.ref at_), .val (.ref cs), .val (.ref (own_e (1 : Int32) bb u ae c0 c1 c2 at_)), .unset] [(.ref (own_pick bb c0 c1 c2))])) target := by
              intro target kt
              refine XS.astore X124.here hx rfl (hb hby at_266) rfl rfl (l' := #[.val (.long q0), .second, .val (.long q1), .second, .val (.long q2), .second, .val (.int p3), .val (.int p4), .val (.int p5), .val (.int bb), .val (.int ae), .val (.int u), .val (.int (1 : Int32)), .val (.ref c0), .val (.ref c1), .val (.ref c2), .val (.ref at_), .val (.ref cs), .val (.ref (own_e (1 : Int32) bb u ae c0 c1 c2 at_)), .val (.ref (own_pick bb c0 c1 c2))]) rfl ?_
              exact kt
            obtain ⟨fs, hr, hrun, hended, hRW⟩ := Jvm.Stand.leaveW (s := s) X124 hS (by rw [e124]; exact kz_70) (v := some (.int (1 : Int32))) (fun h => by rw [Bd.returns] at h; cases h)
            refine ⟨_, _, pre0 _ (st1 _ (st2 _ (st3 _ (st4 _ (st5 _ (st6 _ (st7.trans (st8 _ (st9 _ (st10 _ (st11.trans (st12 _ (st13 _ (st14 _ (st15.trans (st16 _ (st17 _ (st18 _ (st19 _ (st20.trans (st21 _ (st22 _ (st23 _ (st24 _ (st25 _ (st26 _ (st27 _ (st28 _ (st29 _ (st30 _ (st47 _ (st64 _ (st70 _ (st122 _ (st123 _ (st124.trans (st125 _ (st126 _ (st127 _ (st128 _ (st129 _ (st130 _ (st131 _ (st132 _ (st135 _ (st136 _ (st137 _ (st138 _ ?_)))))))))))))))))))))))))))))))))))))))))))))))), hrun, hended, _, _, rfl, ?_, hRW.1, hRW.2.1, hRW.2.2.1, hRW.2.2.2.mono (by decide) (by decide)⟩
            · refine XS.aload X124.here hx rfl (hb hby at_268) rfl rfl ?_
              refine XS.aload X124.here hx rfl (hb hby at_270) rfl rfl ?_
              refine Jvm.RoadKit.acmp (g := (mkF m 272 #[.val (.long q0), .second, .val (.long q1), .second, .val (.long q2), .second, .val (.int p3), .val (.int p4), .val (.int p5), .val (.int bb), .val (.int ae), .val (.int u), .val (.int (1 : Int32)), .val (.ref c0), .val (.ref c1), .val (.ref c2), .val (.ref at_), .val (.ref cs), .val (.ref (own_e (1 : Int32) bb u ae c0 c1 c2 at_)), .val (.ref (own_pick bb c0 c1 c2))] [(.ref (own_pick bb c0 c1 c2)), (.ref (own_e (1 : Int32) bb u ae c0 c1 c2 at_))])) X124 hx rfl rfl rfl (pc0 := 272) (pc' := 275) (same := true) rfl (hb hby at_272) rfl (decide_eq_true (congrArg Value.ref (by rw [own_e, if_pos x1, if_pos y1, if_pos z1, if_neg z2]))) (by decide) (by decide) ?_
              refine XS.iconst X124.here hx rfl (hb hby at_275) ?_
              refine XS.goto X124.here hx rfl (pc0 := 276) (pc' := 280) rfl (hb hby at_276) (by decide) (by decide) ?_
              show Steps p.tables e below (T124.setTop (mkF m 280 #[.val (.long q0), .second, .val (.long q1), .second, .val (.long q2), .second, .val (.int p3), .val (.int p4), .val (.int p5), .val (.int bb), .val (.int ae), .val (.int u), .val (.int (1 : Int32)), .val (.ref c0), .val (.ref c1), .val (.ref c2), .val (.ref at_), .val (.ref cs), .val (.ref (own_e (1 : Int32) bb u ae c0 c1 c2 at_)), .val (.ref (own_pick bb c0 c1 c2))] [(.int (1 : Int32))])) _
              exact retN X124 hx (t := .boolean) Bd.returns (by simp) (hb hby at_280) hr
            · show Q_rm0 Z q0 q1 q2 p3 p4 p5 h0 n0 _ T124.heap _
              rw [e124]
              exact ⟨rfl, N124⟩
        · have st139 : ∀ target, Steps p.tables e below (T124.setTop (mkF m 254 #[.val (.long q0), .second, .val (.long q1), .second, .val (.long q2), .second, .val (.int p3), .val (.int p4), .val (.int p5), .val (.int bb), .val (.int ae), .val (.int u), .val (.int (1 : Int32)), .val (.ref c0), .val (.ref c1), .val (.ref c2), .val (.ref at_), .val (.ref cs), .val (.ref (own_e (1 : Int32) bb u ae c0 c1 c2 at_)), .unset] [])) target → Steps p.tables e below (T124.setTop (mkF m 245 #[.val (.long q0), .second, .val (.long q1), .second, .val (.long q2), .second, .val (.int p3), .val (.int p4), .val (.int p5), .val (.int bb), .val (.int ae), .val (.int u), .val (.int (1 : Int32)), .val (.ref c0), .val (.ref c1), .val (.ref c2), .val (.ref at_), .val (.ref cs), .val (.ref (own_e (1 : Int32) bb u ae c0 c1 c2 at_)), .unset] [(.int ae)])) target := by
            intro target kt
            refine XS.ifYes X124.here hx rfl (pc0 := 245) (pc' := 254) rfl (hb hby at_245) rfl ((if0 _ _).trans (feq z1).2) (by decide) (by decide) ?_
            exact kt
          have st140 : ∀ target, Steps p.tables e below (T124.setTop (mkF m 268 #[.val (.long q0), .second, .val (.long q1), .second, .val (.long q2), .second, .val (.int p3), .val (.int p4), .val (.int p5), .val (.int bb), .val (.int ae), .val (.int u), .val (.int (1 : Int32)), .val (.ref c0), .val (.ref c1), .val (.ref c2), .val (.ref at_), .val (.ref cs), .val (.ref (own_e (1 : Int32) bb u ae c0 c1 c2 at_)), .val (.ref at_)] [])) target → Steps p.tables e below (T124.setTop (mkF m 254 #[.val (.long q0), .second, .val (.long q1), .second, .val (.long q2), .second, .val (.int p3), .val (.int p4), .val (.int p5), .val (.int bb), .val (.int ae), .val (.int u), .val (.int (1 : Int32)), .val (.ref c0), .val (.ref c1), .val (.ref c2), .val (.ref at_), .val (.ref cs), .val (.ref (own_e (1 : Int32) bb u ae c0 c1 c2 at_)), .unset] [])) target := by
            intro target kt
            show Steps p.tables e below (T124.setTop (mkF m 254 #[.val (.long q0), .second, .val (.long q1), .second, .val (.long q2), .second, .val (.int p3), .val (.int p4), .val (.int p5), .val (.int bb), .val (.int ae), .val (.int u), .val (.int (1 : Int32)), .val (.ref c0), .val (.ref c1), .val (.ref c2), .val (.ref at_), .val (.ref cs), .val (.ref (own_e (1 : Int32) bb u ae c0 c1 c2 at_)), .unset] [])) _
            refine XS.aload X124.here hx rfl (hb hby at_254) rfl rfl ?_
            refine XS.astore X124.here hx rfl (hb hby at_256) rfl rfl (l' := #[.val (.long q0), .second, .val (.long q1), .second, .val (.long q2), .second, .val (.int p3), .val (.int p4), .val (.int p5), .val (.int bb), .val (.int ae), .val (.int u), .val (.int (1 : Int32)), .val (.ref c0), .val (.ref c1), .val (.ref c2), .val (.ref at_), .val (.ref cs), .val (.ref (own_e (1 : Int32) bb u ae c0 c1 c2 at_)), .val (.ref at_)]) rfl ?_
            refine XS.goto X124.here hx rfl (pc0 := 258) (pc' := 268) rfl (hb hby at_258) (by decide) (by decide) ?_
            exact kt
          obtain ⟨fs, hr, hrun, hended, hRW⟩ := Jvm.Stand.leaveW (s := s) X124 hS (by rw [e124]; exact kz_70) (v := some (.int (1 : Int32))) (fun h => by rw [Bd.returns] at h; cases h)
          refine ⟨_, _, pre0 _ (st1 _ (st2 _ (st3 _ (st4 _ (st5 _ (st6 _ (st7.trans (st8 _ (st9 _ (st10 _ (st11.trans (st12 _ (st13 _ (st14 _ (st15.trans (st16 _ (st17 _ (st18 _ (st19 _ (st20.trans (st21 _ (st22 _ (st23 _ (st24 _ (st25 _ (st26 _ (st27 _ (st28 _ (st29 _ (st30 _ (st47 _ (st64 _ (st70 _ (st122 _ (st123 _ (st124.trans (st125 _ (st126 _ (st127 _ (st128 _ (st129 _ (st130 _ (st139 _ (st140 _ ?_)))))))))))))))))))))))))))))))))))))))))))), hrun, hended, _, _, rfl, ?_, hRW.1, hRW.2.1, hRW.2.2.1, hRW.2.2.2.mono (by decide) (by decide)⟩
          · refine XS.aload X124.here hx rfl (hb hby at_268) rfl rfl ?_
            refine XS.aload X124.here hx rfl (hb hby at_270) rfl rfl ?_
            refine Jvm.RoadKit.acmp (g := (mkF m 272 #[.val (.long q0), .second, .val (.long q1), .second, .val (.long q2), .second, .val (.int p3), .val (.int p4), .val (.int p5), .val (.int bb), .val (.int ae), .val (.int u), .val (.int (1 : Int32)), .val (.ref c0), .val (.ref c1), .val (.ref c2), .val (.ref at_), .val (.ref cs), .val (.ref (own_e (1 : Int32) bb u ae c0 c1 c2 at_)), .val (.ref at_)] [(.ref at_), (.ref (own_e (1 : Int32) bb u ae c0 c1 c2 at_))])) X124 hx rfl rfl rfl (pc0 := 272) (pc' := 275) (same := true) rfl (hb hby at_272) rfl (decide_eq_true (congrArg Value.ref (by rw [own_e, if_pos x1, if_pos y1, if_neg z1]))) (by decide) (by decide) ?_
            refine XS.iconst X124.here hx rfl (hb hby at_275) ?_
            refine XS.goto X124.here hx rfl (pc0 := 276) (pc' := 280) rfl (hb hby at_276) (by decide) (by decide) ?_
            show Steps p.tables e below (T124.setTop (mkF m 280 #[.val (.long q0), .second, .val (.long q1), .second, .val (.long q2), .second, .val (.int p3), .val (.int p4), .val (.int p5), .val (.int bb), .val (.int ae), .val (.int u), .val (.int (1 : Int32)), .val (.ref c0), .val (.ref c1), .val (.ref c2), .val (.ref at_), .val (.ref cs), .val (.ref (own_e (1 : Int32) bb u ae c0 c1 c2 at_)), .val (.ref at_)] [(.int (1 : Int32))])) _
            exact retN X124 hx (t := .boolean) Bd.returns (by simp) (hb hby at_280) hr
          · show Q_rm0 Z q0 q1 q2 p3 p4 p5 h0 n0 _ T124.heap _
            rw [e124]
            exact ⟨rfl, N124⟩
      · have st141 : ∀ target, Steps p.tables e below (T124.setTop (mkF m 226 #[.val (.long q0), .second, .val (.long q1), .second, .val (.long q2), .second, .val (.int p3), .val (.int p4), .val (.int p5), .val (.int bb), .val (.int ae), .val (.int u), .val (.int (1 : Int32)), .val (.ref c0), .val (.ref c1), .val (.ref c2), .val (.ref at_), .val (.ref cs), .val (.ref (own_e (1 : Int32) bb u ae c0 c1 c2 at_)), .unset] [])) target → Steps p.tables e below (T124.setTop (mkF m 223 #[.val (.long q0), .second, .val (.long q1), .second, .val (.long q2), .second, .val (.int p3), .val (.int p4), .val (.int p5), .val (.int bb), .val (.int ae), .val (.int u), .val (.int (1 : Int32)), .val (.ref c0), .val (.ref c1), .val (.ref c2), .val (.ref at_), .val (.ref cs), .val (.ref (own_e (1 : Int32) bb u ae c0 c1 c2 at_)), .unset] [(.int (1 : Int32)), (.int u)])) target := by
          intro target kt
          show Steps p.tables e below (T124.setTop (mkF m 223 #[.val (.long q0), .second, .val (.long q1), .second, .val (.long q2), .second, .val (.int p3), .val (.int p4), .val (.int p5), .val (.int bb), .val (.int ae), .val (.int u), .val (.int (1 : Int32)), .val (.ref c0), .val (.ref c1), .val (.ref c2), .val (.ref at_), .val (.ref cs), .val (.ref (own_e (1 : Int32) bb u ae c0 c1 c2 at_)), .unset] [(.int (1 : Int32)), (.int u)])) _
          refine XS.icmpNo X124.here hx rfl (hb hby at_223) rfl (flt y1).1 ?_
          exact kt
        have st142 : ∀ target, Steps p.tables e below (T124.setTop (mkF m 230 #[.val (.long q0), .second, .val (.long q1), .second, .val (.long q2), .second, .val (.int p3), .val (.int p4), .val (.int p5), .val (.int bb), .val (.int ae), .val (.int u), .val (.int (1 : Int32)), .val (.ref c0), .val (.ref c1), .val (.ref c2), .val (.ref at_), .val (.ref cs), .val (.ref (own_e (1 : Int32) bb u ae c0 c1 c2 at_)), .unset] [(.int bb), (.int u)])) target → Steps p.tables e below (T124.setTop (mkF m 226 #[.val (.long q0), .second, .val (.long q1), .second, .val (.long q2), .second, .val (.int p3), .val (.int p4), .val (.int p5), .val (.int bb), .val (.int ae), .val (.int u), .val (.int (1 : Int32)), .val (.ref c0), .val (.ref c1), .val (.ref c2), .val (.ref at_), .val (.ref cs), .val (.ref (own_e (1 : Int32) bb u ae c0 c1 c2 at_)), .unset] [])) target := by
          intro target kt
          refine XS.iload X124.here hx rfl (hb hby at_226) rfl ?_
          refine XS.iload X124.here hx rfl (hb hby at_228) rfl ?_
          exact kt
        by_cases y2 : u < bb
        · have st143 : ∀ target, Steps p.tables e below (T124.setTop (mkF m 233 #[.val (.long q0), .second, .val (.long q1), .second, .val (.long q2), .second, .val (.int p3), .val (.int p4), .val (.int p5), .val (.int bb), .val (.int ae), .val (.int u), .val (.int (1 : Int32)), .val (.ref c0), .val (.ref c1), .val (.ref c2), .val (.ref at_), .val (.ref cs), .val (.ref (own_e (1 : Int32) bb u ae c0 c1 c2 at_)), .unset] [])) target → Steps p.tables e below (T124.setTop (mkF m 230 #[.val (.long q0), .second, .val (.long q1), .second, .val (.long q2), .second, .val (.int p3), .val (.int p4), .val (.int p5), .val (.int bb), .val (.int ae), .val (.int u), .val (.int (1 : Int32)), .val (.ref c0), .val (.ref c1), .val (.ref c2), .val (.ref at_), .val (.ref cs), .val (.ref (own_e (1 : Int32) bb u ae c0 c1 c2 at_)), .unset] [(.int bb), (.int u)])) target := by
            intro target kt
            refine XS.icmpNo X124.here hx rfl (hb hby at_230) rfl (tlt y2).2.1 ?_
            exact kt
          have st144 : ∀ target, Steps p.tables e below (T124.setTop (mkF m 237 #[.val (.long q0), .second, .val (.long q1), .second, .val (.long q2), .second, .val (.int p3), .val (.int p4), .val (.int p5), .val (.int bb), .val (.int ae), .val (.int u), .val (.int (1 : Int32)), .val (.ref c0), .val (.ref c1), .val (.ref c2), .val (.ref at_), .val (.ref cs), .val (.ref (own_e (1 : Int32) bb u ae c0 c1 c2 at_)), .unset] [(.int u), (.ref cs)])) target → Steps p.tables e below (T124.setTop (mkF m 233 #[.val (.long q0), .second, .val (.long q1), .second, .val (.long q2), .second, .val (.int p3), .val (.int p4), .val (.int p5), .val (.int bb), .val (.int ae), .val (.int u), .val (.int (1 : Int32)), .val (.ref c0), .val (.ref c1), .val (.ref c2), .val (.ref at_), .val (.ref cs), .val (.ref (own_e (1 : Int32) bb u ae c0 c1 c2 at_)), .unset] [])) target := by
            intro target kt
            refine XS.aload X124.here hx rfl (hb hby at_233) rfl rfl ?_
            refine XS.iload X124.here hx rfl (hb hby at_235) rfl ?_
            exact kt
          obtain ⟨cl145, Ar145, qc145, Sz145, Mn145, Hs145, Gs145⟩ := id V_cs_70
          have hin145 : ¬ (u < 0 ∨ cl145.slots.size ≤ (u).toNatClampNeg) := own_in3 Sz145 (own_u3 hb4 hu4 y2)
          have hat145 : cl145.slots[(u).toNatClampNeg]? = some (.ref (own_pick u c0 c1 c2)) := Hs145.at hin145 (own_at3 (own_u3 hb4 hu4 y2))
          have st145 : ∀ target, Steps p.tables e below (T124.setTop (mkF m 238 #[.val (.long q0), .second, .val (.long q1), .second, .val (.long q2), .second, .val (.int p3), .val (.int p4), .val (.int p5), .val (.int bb), .val (.int ae), .val (.int u), .val (.int (1 : Int32)), .val (.ref c0), .val (.ref c1), .val (.ref c2), .val (.ref at_), .val (.ref cs), .val (.ref (own_e (1 : Int32) bb u ae c0 c1 c2 at_)), .unset] [(.ref (own_pick u c0 c1 c2))])) target → Steps p.tables e below (T124.setTop (mkF m 237 #[.val (.long q0), .second, .val (.long q1), .second, .val (.long q2), .second, .val (.int p3), .val (.int p4), .val (.int p5), .val (.int bb), .val (.int ae), .val (.int u), .val (.int (1 : Int32)), .val (.ref c0), .val (.ref c1), .val (.ref c2), .val (.ref at_), .val (.ref cs), .val (.ref (own_e (1 : Int32) bb u ae c0 c1 c2 at_)), .unset] [(.int u), (.ref cs)])) target := fun target kt => X124.aaload hx (j := u) (v := (.ref (own_pick u c0 c1 c2))) (by rw [e124]; exact Ar145.1) (State.isArrayOf_alike hZ.alike Ar145.2.1) rfl Ar145.2.2 hin145 hat145 (g := (mkF m 237 #[.val (.long q0), .second, .val (.long q1), .second, .val (.long q2), .second, .val (.int p3), .val (.int p4), .val (.int p5), .val (.int bb), .val (.int ae), .val (.int u), .val (.int (1 : Int32)), .val (.ref c0), .val (.ref c1), .val (.ref c2), .val (.ref at_), .val (.ref cs), .val (.ref (own_e (1 : Int32) bb u ae c0 c1 c2 at_)), .unset] [(.int u), (.ref cs)])) rfl rfl (hb hby at_237) _ kt
          have st146 : ∀ target, Steps p.tables e below (T124.setTop (mkF m 268 #[.val (.long q0), .second, .val (.long q1), .second, .val (.long q2), .second, .val (.int p3), .val (.int p4), .val (.int p5), .val (.int bb), .val (.int ae), .val (.int u), .val (.int (1 : Int32)), .val (.ref c0), .val (.ref c1), .val (.ref c2), .val (.ref at_), .val (.ref cs), .val (.ref (own_e (1 : Int32) bb u ae c0 c1 c2 at_)), .val (.ref (own_pick u c0 c1 c2))] [])) target → Steps p.tables e below (T124.setTop (mkF m 238 #[.val (.long q0), .second, .val (.long q1), .second, .val (.long q2), .second, .val (.int p3), .val (.int p4), .val (.int p5), .val (.int bb), .val (.int ae), .val (.int u), .val (.int (1 : Int32)), .val (.ref c0), .val (.ref c1), .val (.ref c2), .val (.ref at_), .val (.ref cs), .val (.ref (own_e (1 : Int32) bb u ae c0 c1 c2 at_)), .unset] [(.ref (own_pick u c0 c1 c2))])) target := by
            intro target kt
            refine XS.astore X124.here hx rfl (hb hby at_238) rfl rfl (l' := #[.val (.long q0), .second, .val (.long q1), .second, .val (.long q2), .second, .val (.int p3), .val (.int p4), .val (.int p5), .val (.int bb), .val (.int ae), .val (.int u), .val (.int (1 : Int32)), .val (.ref c0), .val (.ref c1), .val (.ref c2), .val (.ref at_), .val (.ref cs), .val (.ref (own_e (1 : Int32) bb u ae c0 c1 c2 at_)), .val (.ref (own_pick u c0 c1 c2))]) rfl ?_
            refine XS.goto X124.here hx rfl (pc0 := 240) (pc' := 268) rfl (hb hby at_240) (by decide) (by decide) ?_
            exact kt
          obtain ⟨fs, hr, hrun, hended, hRW⟩ := Jvm.Stand.leaveW (s := s) X124 hS (by rw [e124]; exact kz_70) (v := some (.int (1 : Int32))) (fun h => by rw [Bd.returns] at h; cases h)
          refine ⟨_, _, pre0 _ (st1 _ (st2 _ (st3 _ (st4 _ (st5 _ (st6 _ (st7.trans (st8 _ (st9 _ (st10 _ (st11.trans (st12 _ (st13 _ (st14 _ (st15.trans (st16 _ (st17 _ (st18 _ (st19 _ (st20.trans (st21 _ (st22 _ (st23 _ (st24 _ (st25 _ (st26 _ (st27 _ (st28 _ (st29 _ (st30 _ (st47 _ (st64 _ (st70 _ (st122 _ (st123 _ (st124.trans (st125 _ (st126 _ (st127 _ (st128 _ (st141 _ (st142 _ (st143 _ (st144 _ (st145 _ (st146 _ ?_)))))))))))))))))))))))))))))))))))))))))))))), hrun, hended, _, _, rfl, ?_, hRW.1, hRW.2.1, hRW.2.2.1, hRW.2.2.2.mono (by decide) (by decide)⟩
          · show Steps p.tables e below (T124.setTop (mkF m 268 #[.val (.long q0), .second, .val (.long q1), .second, .val (.long q2), .second, .val (.int p3), .val (.int p4), .val (.int p5), .val (.int bb), .val (.int ae), .val (.int u), .val (.int (1 : Int32)), .val (.ref c0), .val (.ref c1), .val (.ref c2), .val (.ref at_), .val (.ref cs), .val (.ref (own_e (1 : Int32) bb u ae c0 c1 c2 at_)), .val (.ref (own_pick u c0 c1 c2))] [])) _
            refine XS.aload X124.here hx rfl (hb hby at_268) rfl rfl ?_
            refine XS.aload X124.here hx rfl (hb hby at_270) rfl rfl ?_
            refine Jvm.RoadKit.acmp (g := (mkF m 272 #[.val (.long q0), .second, .val (.long q1), .second, .val (.long q2), .second, .val (.int p3), .val (.int p4), .val (.int p5), .val (.int bb), .val (.int ae), .val (.int u), .val (.int (1 : Int32)), .val (.ref c0), .val (.ref c1), .val (.ref c2), .val (.ref at_), .val (.ref cs), .val (.ref (own_e (1 : Int32) bb u ae c0 c1 c2 at_)), .val (.ref (own_pick u c0 c1 c2))] [(.ref (own_pick u c0 c1 c2)), (.ref (own_e (1 : Int32) bb u ae c0 c1 c2 at_))])) X124 hx rfl rfl rfl (pc0 := 272) (pc' := 275) (same := true) rfl (hb hby at_272) rfl (decide_eq_true (congrArg Value.ref (by rw [own_e, if_pos x1, if_neg y1, if_pos y2]))) (by decide) (by decide) ?_
            refine XS.iconst X124.here hx rfl (hb hby at_275) ?_
            refine XS.goto X124.here hx rfl (pc0 := 276) (pc' := 280) rfl (hb hby at_276) (by decide) (by decide) ?_
            show Steps p.tables e below (T124.setTop (mkF m 280 #[.val (.long q0), .second, .val (.long q1), .second, .val (.long q2), .second, .val (.int p3), .val (.int p4), .val (.int p5), .val (.int bb), .val (.int ae), .val (.int u), .val (.int (1 : Int32)), .val (.ref c0), .val (.ref c1), .val (.ref c2), .val (.ref at_), .val (.ref cs), .val (.ref (own_e (1 : Int32) bb u ae c0 c1 c2 at_)), .val (.ref (own_pick u c0 c1 c2))] [(.int (1 : Int32))])) _
            exact retN X124 hx (t := .boolean) Bd.returns (by simp) (hb hby at_280) hr
          · show Q_rm0 Z q0 q1 q2 p3 p4 p5 h0 n0 _ T124.heap _
            rw [e124]
            exact ⟨rfl, N124⟩
        · have st147 : ∀ target, Steps p.tables e below (T124.setTop (mkF m 243 #[.val (.long q0), .second, .val (.long q1), .second, .val (.long q2), .second, .val (.int p3), .val (.int p4), .val (.int p5), .val (.int bb), .val (.int ae), .val (.int u), .val (.int (1 : Int32)), .val (.ref c0), .val (.ref c1), .val (.ref c2), .val (.ref at_), .val (.ref cs), .val (.ref (own_e (1 : Int32) bb u ae c0 c1 c2 at_)), .unset] [])) target → Steps p.tables e below (T124.setTop (mkF m 230 #[.val (.long q0), .second, .val (.long q1), .second, .val (.long q2), .second, .val (.int p3), .val (.int p4), .val (.int p5), .val (.int bb), .val (.int ae), .val (.int u), .val (.int (1 : Int32)), .val (.ref c0), .val (.ref c1), .val (.ref c2), .val (.ref at_), .val (.ref cs), .val (.ref (own_e (1 : Int32) bb u ae c0 c1 c2 at_)), .unset] [(.int bb), (.int u)])) target := by
            intro target kt
            refine XS.icmpYes X124.here hx rfl (pc0 := 230) (pc' := 243) rfl (hb hby at_230) rfl (flt y2).2.1 (by decide) (by decide) ?_
            exact kt
          have st148 : ∀ target, Steps p.tables e below (T124.setTop (mkF m 245 #[.val (.long q0), .second, .val (.long q1), .second, .val (.long q2), .second, .val (.int p3), .val (.int p4), .val (.int p5), .val (.int bb), .val (.int ae), .val (.int u), .val (.int (1 : Int32)), .val (.ref c0), .val (.ref c1), .val (.ref c2), .val (.ref at_), .val (.ref cs), .val (.ref (own_e (1 : Int32) bb u ae c0 c1 c2 at_)), .unset] [(.int ae)])) target → Steps p.tables e below (T124.setTop (mkF m 243 #[.val (.long q0), .second, .val (.long q1), .second, .val (.long q2), .second, .val (.int p3), .val (.int p4), .val (.int p5), .val (.int bb), .val (.int ae), .val (.int u), .val (.int (1 : Int32)), .val (.ref c0), .val (.ref c1), .val (.ref c2), .val (.ref at_), .val (.ref cs), .val (.ref (own_e (1 : Int32) bb u ae c0 c1 c2 at_)), .unset] [])) target := by
            intro target kt
            refine XS.iload X124.here hx rfl (hb hby at_243) rfl ?_
            exact kt
          by_cases z1 : ae = (0 : Int32)
          · have st149 : ∀ target, Steps p.tables e below (T124.setTop (mkF m 248 #[.val (.long q0), .second, .val (.long q1), .second, .val (.long q2), .second, .val (.int p3), .val (.int p4), .val (.int p5), .val (.int bb), .val (.int ae), .val (.int u), .val (.int (1 : Int32)), .val (.ref c0), .val (.ref c1), .val (.ref c2), .val (.ref at_), .val (.ref cs), .val (.ref (own_e (1 : Int32) bb u ae c0 c1 c2 at_)), .unset] [])) target → Steps p.tables e below (T124.setTop (mkF m 245 #[.val (.long q0), .second, .val (.long q1), .second, .val (.long q2), .second, .val (.int p3), .val (.int p4), .val (.int p5), .val (.int bb), .val (.int ae), .val (.int u), .val (.int (1 : Int32)), .val (.ref c0), .val (.ref c1), .val (.ref c2), .val (.ref at_), .val (.ref cs), .val (.ref (own_e (1 : Int32) bb u ae c0 c1 c2 at_)), .unset] [(.int ae)])) target := by
              intro target kt
              refine XS.ifNo X124.here hx rfl (hb hby at_245) rfl ((if0 _ _).trans (teq z1).2) ?_
              exact kt
            have st150 : ∀ target, Steps p.tables e below (T124.setTop (mkF m 251 #[.val (.long q0), .second, .val (.long q1), .second, .val (.long q2), .second, .val (.int p3), .val (.int p4), .val (.int p5), .val (.int bb), .val (.int ae), .val (.int u), .val (.int (1 : Int32)), .val (.ref c0), .val (.ref c1), .val (.ref c2), .val (.ref at_), .val (.ref cs), .val (.ref (own_e (1 : Int32) bb u ae c0 c1 c2 at_)), .unset] [(.int (3 : Int32)), (.int bb)])) target → Steps p.tables e below (T124.setTop (mkF m 248 #[.val (.long q0), .second, .val (.long q1), .second, .val (.long q2), .second, .val (.int p3), .val (.int p4), .val (.int p5), .val (.int bb), .val (.int ae), .val (.int u), .val (.int (1 : Int32)), .val (.ref c0), .val (.ref c1), .val (.ref c2), .val (.ref at_), .val (.ref cs), .val (.ref (own_e (1 : Int32) bb u ae c0 c1 c2 at_)), .unset] [])) target := by
              intro target kt
              show Steps p.tables e below (T124.setTop (mkF m 248 #[.val (.long q0), .second, .val (.long q1), .second, .val (.long q2), .second, .val (.int p3), .val (.int p4), .val (.int p5), .val (.int bb), .val (.int ae), .val (.int u), .val (.int (1 : Int32)), .val (.ref c0), .val (.ref c1), .val (.ref c2), .val (.ref at_), .val (.ref cs), .val (.ref (own_e (1 : Int32) bb u ae c0 c1 c2 at_)), .unset] [])) _
              refine XS.iload X124.here hx rfl (hb hby at_248) rfl ?_
              refine XS.iconst X124.here hx rfl (hb hby at_250) ?_
              exact kt
            by_cases z2 : bb = (3 : Int32)
            · have st151 : ∀ target, Steps p.tables e below (T124.setTop (mkF m 254 #[.val (.long q0), .second, .val (.long q1), .second, .val (.long q2), .second, .val (.int p3), .val (.int p4), .val (.int p5), .val (.int bb), .val (.int ae), .val (.int u), .val (.int (1 : Int32)), .val (.ref c0), .val (.ref c1), .val (.ref c2), .val (.ref at_), .val (.ref cs), .val (.ref (own_e (1 : Int32) bb u ae c0 c1 c2 at_)), .unset] [])) target → Steps p.tables e below (T124.setTop (mkF m 251 #[.val (.long q0), .second, .val (.long q1), .second, .val (.long q2), .second, .val (.int p3), .val (.int p4), .val (.int p5), .val (.int bb), .val (.int ae), .val (.int u), .val (.int (1 : Int32)), .val (.ref c0), .val (.ref c1), .val (.ref c2), .val (.ref at_), .val (.ref cs), .val (.ref (own_e (1 : Int32) bb u ae c0 c1 c2 at_)), .unset] [(.int (3 : Int32)), (.int bb)])) target := by
                intro target kt
                refine XS.icmpNo X124.here hx rfl (hb hby at_251) rfl (teq z2).2 ?_
                exact kt
              have st152 : ∀ target, Steps p.tables e below (T124.setTop (mkF m 268 #[.val (.long q0), .second, .val (.long q1), .second, .val (.long q2), .second, .val (.int p3), .val (.int p4), .val (.int p5), .val (.int bb), .val (.int ae), .val (.int u), .val (.int (1 : Int32)), .val (.ref c0), .val (.ref c1), .val (.ref c2), .val (.ref at_), .val (.ref cs), .val (.ref (own_e (1 : Int32) bb u ae c0 c1 c2 at_)), .val (.ref at_)] [])) target → Steps p.tables e below (T124.setTop (mkF m 254 #[.val (.long q0), .second, .val (.long q1), .second, .val (.long q2), .second, .val (.int p3), .val (.int p4), .val (.int p5), .val (.int bb), .val (.int ae), .val (.int u), .val (.int (1 : Int32)), .val (.ref c0), .val (.ref c1), .val (.ref c2), .val (.ref at_), .val (.ref cs), .val (.ref (own_e (1 : Int32) bb u ae c0 c1 c2 at_)), .unset] [])) target := by
                intro target kt
                refine XS.aload X124.here hx rfl (hb hby at_254) rfl rfl ?_
                refine XS.astore X124.here hx rfl (hb hby at_256) rfl rfl (l' := #[.val (.long q0), .second, .val (.long q1), .second, .val (.long q2), .second, .val (.int p3), .val (.int p4), .val (.int p5), .val (.int bb), .val (.int ae), .val (.int u), .val (.int (1 : Int32)), .val (.ref c0), .val (.ref c1), .val (.ref c2), .val (.ref at_), .val (.ref cs), .val (.ref (own_e (1 : Int32) bb u ae c0 c1 c2 at_)), .val (.ref at_)]) rfl ?_
                refine XS.goto X124.here hx rfl (pc0 := 258) (pc' := 268) rfl (hb hby at_258) (by decide) (by decide) ?_
                exact kt
              obtain ⟨fs, hr, hrun, hended, hRW⟩ := Jvm.Stand.leaveW (s := s) X124 hS (by rw [e124]; exact kz_70) (v := some (.int (1 : Int32))) (fun h => by rw [Bd.returns] at h; cases h)
              refine ⟨_, _, pre0 _ (st1 _ (st2 _ (st3 _ (st4 _ (st5 _ (st6 _ (st7.trans (st8 _ (st9 _ (st10 _ (st11.trans (st12 _ (st13 _ (st14 _ (st15.trans (st16 _ (st17 _ (st18 _ (st19 _ (st20.trans (st21 _ (st22 _ (st23 _ (st24 _ (st25 _ (st26 _ (st27 _ (st28 _ (st29 _ (st30 _ (st47 _ (st64 _ (st70 _ (st122 _ (st123 _ (st124.trans (st125 _ (st126 _ (st127 _ (st128 _ (st141 _ (st142 _ (st147 _ (st148 _ (st149 _ (st150 _ (st151 _ (st152 _ ?_)))))))))))))))))))))))))))))))))))))))))))))))), hrun, hended, _, _, rfl, ?_, hRW.1, hRW.2.1, hRW.2.2.1, hRW.2.2.2.mono (by decide) (by decide)⟩
              · refine XS.aload X124.here hx rfl (hb hby at_268) rfl rfl ?_
                refine XS.aload X124.here hx rfl (hb hby at_270) rfl rfl ?_
                show Steps p.tables e below (T124.setTop (mkF m 272 #[.val (.long q0), .second, .val (.long q1), .second, .val (.long q2), .second, .val (.int p3), .val (.int p4), .val (.int p5), .val (.int bb), .val (.int ae), .val (.int u), .val (.int (1 : Int32)), .val (.ref c0), .val (.ref c1), .val (.ref c2), .val (.ref at_), .val (.ref cs), .val (.ref (own_e (1 : Int32) bb u ae c0 c1 c2 at_)), .val (.ref at_)] [(.ref at_), (.ref (own_e (1 : Int32) bb u ae c0 c1 c2 at_))])) _
                refine Jvm.RoadKit.acmp (g := (mkF m 272 #[.val (.long q0), .second, .val (.long q1), .second, .val (.long q2), .second, .val (.int p3), .val (.int p4), .val (.int p5), .val (.int bb), .val (.int ae), .val (.int u), .val (.int (1 : Int32)), .val (.ref c0), .val (.ref c1), .val (.ref c2), .val (.ref at_), .val (.ref cs), .val (.ref (own_e (1 : Int32) bb u ae c0 c1 c2 at_)), .val (.ref at_)] [(.ref at_), (.ref (own_e (1 : Int32) bb u ae c0 c1 c2 at_))])) X124 hx rfl rfl rfl (pc0 := 272) (pc' := 275) (same := true) rfl (hb hby at_272) rfl (decide_eq_true (congrArg Value.ref (by rw [own_e, if_pos x1, if_neg y1, if_neg y2, if_pos z1, if_pos z2]))) (by decide) (by decide) ?_
                refine XS.iconst X124.here hx rfl (hb hby at_275) ?_
                refine XS.goto X124.here hx rfl (pc0 := 276) (pc' := 280) rfl (hb hby at_276) (by decide) (by decide) ?_
                show Steps p.tables e below (T124.setTop (mkF m 280 #[.val (.long q0), .second, .val (.long q1), .second, .val (.long q2), .second, .val (.int p3), .val (.int p4), .val (.int p5), .val (.int bb), .val (.int ae), .val (.int u), .val (.int (1 : Int32)), .val (.ref c0), .val (.ref c1), .val (.ref c2), .val (.ref at_), .val (.ref cs), .val (.ref (own_e (1 : Int32) bb u ae c0 c1 c2 at_)), .val (.ref at_)] [(.int (1 : Int32))])) _
                exact retN X124 hx (t := .boolean) Bd.returns (by simp) (hb hby at_280) hr
              · show Q_rm0 Z q0 q1 q2 p3 p4 p5 h0 n0 _ T124.heap _
                rw [e124]
                exact ⟨rfl, N124⟩
            · have st153 : ∀ target, Steps p.tables e below (T124.setTop (mkF m 261 #[.val (.long q0), .second, .val (.long q1), .second, .val (.long q2), .second, .val (.int p3), .val (.int p4), .val (.int p5), .val (.int bb), .val (.int ae), .val (.int u), .val (.int (1 : Int32)), .val (.ref c0), .val (.ref c1), .val (.ref c2), .val (.ref at_), .val (.ref cs), .val (.ref (own_e (1 : Int32) bb u ae c0 c1 c2 at_)), .unset] [])) target → Steps p.tables e below (T124.setTop (mkF m 251 #[.val (.long q0), .second, .val (.long q1), .second, .val (.long q2), .second, .val (.int p3), .val (.int p4), .val (.int p5), .val (.int bb), .val (.int ae), .val (.int u), .val (.int (1 : Int32)), .val (.ref c0), .val (.ref c1), .val (.ref c2), .val (.ref at_), .val (.ref cs), .val (.ref (own_e (1 : Int32) bb u ae c0 c1 c2 at_)), .unset] [(.int (3 : Int32)), (.int bb)])) target := by
                intro target kt
                refine XS.icmpYes X124.here hx rfl (pc0 := 251) (pc' := 261) rfl (hb hby at_251) rfl (feq z2).2 (by decide) (by decide) ?_
                exact kt
              have st154 : ∀ target, Steps p.tables e below (T124.setTop (mkF m 265 #[.val (.long q0), .second, .val (.long q1), .second, .val (.long q2), .second, .val (.int p3), .val (.int p4), .val (.int p5), .val (.int bb), .val (.int ae), .val (.int u), .val (.int (1 : Int32)), .val (.ref c0), .val (.ref c1), .val (.ref c2), .val (.ref at_), .val (.ref cs), .val (.ref (own_e (1 : Int32) bb u ae c0 c1 c2 at_)), .unset] [(.int bb), (.ref cs)])) target → Steps p.tables e below (T124.setTop (mkF m 261 #[.val (.long q0), .second, .val (.long q1), .second, .val (.long q2), .second, .val (.int p3), .val (.int p4), .val (.int p5), .val (.int bb), .val (.int ae), .val (.int u), .val (.int (1 : Int32)), .val (.ref c0), .val (.ref c1), .val (.ref c2), .val (.ref at_), .val (.ref cs), .val (.ref (own_e (1 : Int32) bb u ae c0 c1 c2 at_)), .unset] [])) target := by
                intro target kt
                refine XS.aload X124.here hx rfl (hb hby at_261) rfl rfl ?_
                refine XS.iload X124.here hx rfl (hb hby at_263) rfl ?_
                exact kt
              obtain ⟨cl155, Ar155, qc155, Sz155, Mn155, Hs155, Gs155⟩ := id V_cs_70
              have hin155 : ¬ (bb < 0 ∨ cl155.slots.size ≤ (bb).toNatClampNeg) := own_in3 Sz155 (own_b3 hb4 z2)
              have hat155 : cl155.slots[(bb).toNatClampNeg]? = some (.ref (own_pick bb c0 c1 c2)) := Hs155.at hin155 (own_at3 (own_b3 hb4 z2))
              have st155 : ∀ target, Steps p.tables e below (T124.setTop (mkF m 266 #[.val (.long q0), .second, .val (.long q1), .second, .val (.long q2), .second, .val (.int p3), .val (.int p4), .val (.int p5), .val (.int bb), .val (.int ae), .val (.int u), .val (.int (1 : Int32)), .val (.ref c0), .val (.ref c1), .val (.ref c2), .val (.ref at_), .val (.ref cs), .val (.ref (own_e (1 : Int32) bb u ae c0 c1 c2 at_)), .unset] [(.ref (own_pick bb c0 c1 c2))])) target → Steps p.tables e below (T124.setTop (mkF m 265 #[.val (.long q0), .second, .val (.long q1), .second, .val (.long q2), .second, .val (.int p3), .val (.int p4), .val (.int p5), .val (.int bb), .val (.int ae), .val (.int u), .val (.int (1 : Int32)), .val (.ref c0), .val (.ref c1), .val (.ref c2), .val (.ref at_), .val (.ref cs), .val (.ref (own_e (1 : Int32) bb u ae c0 c1 c2 at_)), .unset] [(.int bb), (.ref cs)])) target := fun target kt => X124.aaload hx (j := bb) (v := (.ref (own_pick bb c0 c1 c2))) (by rw [e124]; exact Ar155.1) (State.isArrayOf_alike hZ.alike Ar155.2.1) rfl Ar155.2.2 hin155 hat155 (g := (mkF m 265 #[.val (.long q0), .second, .val (.long q1), .second, .val (.long q2), .second, .val (.int p3), .val (.int p4), .val (.int p5), .val (.int bb), .val (.int ae), .val (.int u), .val (.int (1 : Int32)), .val (.ref c0), .val (.ref c1), .val (.ref c2), .val (.ref at_), .val (.ref cs), .val (.ref (own_e (1 : Int32) bb u ae c0 c1 c2 at_)), .unset] [(.int bb), (.ref cs)])) rfl rfl (hb hby at_265) _ kt
              have st156 : ∀ target, Steps p.tables e below (T124.setTop (mkF m 268 #[.val (.long q0), .second, .val (.long q1), .second, .val (.long q2), .second, .val (.int p3), .val (.int p4), .val (.int p5), .val (.int bb), .val (.int ae), .val (.int u), .val (.int (1 : Int32)), .val (.ref c0), .val (.ref c1), .val (.ref c2), .val (.ref at_), .val (.ref cs), .val (.ref (own_e (1 : Int32) bb u ae c0 c1 c2 at_)), .val (.ref (own_pick bb c0 c1 c2))] [])) target → Steps p.tables e below (T124.setTop (mkF m 266 #[.val (.long q0), .second, .val (.long q1), .second, .val (.long q2), .second, .val (.int p3), .val (.int p4), .val (.int p5), .val (.int bb), .val (.int ae), .val (.int u), .val (.int (1 : Int32)), .val (.ref c0), .val (.ref c1), .val (.ref c2), .val (.ref at_), .val (.ref cs), .val (.ref (own_e (1 : Int32) bb u ae c0 c1 c2 at_)), .unset] [(.ref (own_pick bb c0 c1 c2))])) target := by
                intro target kt
                refine XS.astore X124.here hx rfl (hb hby at_266) rfl rfl (l' := #[.val (.long q0), .second, .val (.long q1), .second, .val (.long q2), .second, .val (.int p3), .val (.int p4), .val (.int p5), .val (.int bb), .val (.int ae), .val (.int u), .val (.int (1 : Int32)), .val (.ref c0), .val (.ref c1), .val (.ref c2), .val (.ref at_), .val (.ref cs), .val (.ref (own_e (1 : Int32) bb u ae c0 c1 c2 at_)), .val (.ref (own_pick bb c0 c1 c2))]) rfl ?_
                exact kt
              obtain ⟨fs, hr, hrun, hended, hRW⟩ := Jvm.Stand.leaveW (s := s) X124 hS (by rw [e124]; exact kz_70) (v := some (.int (1 : Int32))) (fun h => by rw [Bd.returns] at h; cases h)
              refine ⟨_, _, pre0 _ (st1 _ (st2 _ (st3 _ (st4 _ (st5 _ (st6 _ (st7.trans (st8 _ (st9 _ (st10 _ (st11.trans (st12 _ (st13 _ (st14 _ (st15.trans (st16 _ (st17 _ (st18 _ (st19 _ (st20.trans (st21 _ (st22 _ (st23 _ (st24 _ (st25 _ (st26 _ (st27 _ (st28 _ (st29 _ (st30 _ (st47 _ (st64 _ (st70 _ (st122 _ (st123 _ (st124.trans (st125 _ (st126 _ (st127 _ (st128 _ (st141 _ (st142 _ (st147 _ (st148 _ (st149 _ (st150 _ (st153 _ (st154 _ (st155 _ (st156 _ ?_)))))))))))))))))))))))))))))))))))))))))))))))))), hrun, hended, _, _, rfl, ?_, hRW.1, hRW.2.1, hRW.2.2.1, hRW.2.2.2.mono (by decide) (by decide)⟩
              · refine XS.aload X124.here hx rfl (hb hby at_268) rfl rfl ?_
                show Steps p.tables e below (T124.setTop (mkF m 270 #[.val (.long q0), .second, .val (.long q1), .second, .val (.long q2), .second, .val (.int p3), .val (.int p4), .val (.int p5), .val (.int bb), .val (.int ae), .val (.int u), .val (.int (1 : Int32)), .val (.ref c0), .val (.ref c1), .val (.ref c2), .val (.ref at_), .val (.ref cs), .val (.ref (own_e (1 : Int32) bb u ae c0 c1 c2 at_)), .val (.ref (own_pick bb c0 c1 c2))] [(.ref (own_e (1 : Int32) bb u ae c0 c1 c2 at_))])) _
                refine XS.aload X124.here hx rfl (hb hby at_270) rfl rfl ?_
                refine Jvm.RoadKit.acmp (g := (mkF m 272 #[.val (.long q0), .second, .val (.long q1), .second, .val (.long q2), .second, .val (.int p3), .val (.int p4), .val (.int p5), .val (.int bb), .val (.int ae), .val (.int u), .val (.int (1 : Int32)), .val (.ref c0), .val (.ref c1), .val (.ref c2), .val (.ref at_), .val (.ref cs), .val (.ref (own_e (1 : Int32) bb u ae c0 c1 c2 at_)), .val (.ref (own_pick bb c0 c1 c2))] [(.ref (own_pick bb c0 c1 c2)), (.ref (own_e (1 : Int32) bb u ae c0 c1 c2 at_))])) X124 hx rfl rfl rfl (pc0 := 272) (pc' := 275) (same := true) rfl (hb hby at_272) rfl (decide_eq_true (congrArg Value.ref (by rw [own_e, if_pos x1, if_neg y1, if_neg y2, if_pos z1, if_neg z2]))) (by decide) (by decide) ?_
                refine XS.iconst X124.here hx rfl (hb hby at_275) ?_
                refine XS.goto X124.here hx rfl (pc0 := 276) (pc' := 280) rfl (hb hby at_276) (by decide) (by decide) ?_
                show Steps p.tables e below (T124.setTop (mkF m 280 #[.val (.long q0), .second, .val (.long q1), .second, .val (.long q2), .second, .val (.int p3), .val (.int p4), .val (.int p5), .val (.int bb), .val (.int ae), .val (.int u), .val (.int (1 : Int32)), .val (.ref c0), .val (.ref c1), .val (.ref c2), .val (.ref at_), .val (.ref cs), .val (.ref (own_e (1 : Int32) bb u ae c0 c1 c2 at_)), .val (.ref (own_pick bb c0 c1 c2))] [(.int (1 : Int32))])) _
                exact retN X124 hx (t := .boolean) Bd.returns (by simp) (hb hby at_280) hr
              · show Q_rm0 Z q0 q1 q2 p3 p4 p5 h0 n0 _ T124.heap _
                rw [e124]
                exact ⟨rfl, N124⟩
          · have st157 : ∀ target, Steps p.tables e below (T124.setTop (mkF m 254 #[.val (.long q0), .second, .val (.long q1), .second, .val (.long q2), .second, .val (.int p3), .val (.int p4), .val (.int p5), .val (.int bb), .val (.int ae), .val (.int u), .val (.int (1 : Int32)), .val (.ref c0), .val (.ref c1), .val (.ref c2), .val (.ref at_), .val (.ref cs), .val (.ref (own_e (1 : Int32) bb u ae c0 c1 c2 at_)), .unset] [])) target → Steps p.tables e below (T124.setTop (mkF m 245 #[.val (.long q0), .second, .val (.long q1), .second, .val (.long q2), .second, .val (.int p3), .val (.int p4), .val (.int p5), .val (.int bb), .val (.int ae), .val (.int u), .val (.int (1 : Int32)), .val (.ref c0), .val (.ref c1), .val (.ref c2), .val (.ref at_), .val (.ref cs), .val (.ref (own_e (1 : Int32) bb u ae c0 c1 c2 at_)), .unset] [(.int ae)])) target := by
              intro target kt
              refine XS.ifYes X124.here hx rfl (pc0 := 245) (pc' := 254) rfl (hb hby at_245) rfl ((if0 _ _).trans (feq z1).2) (by decide) (by decide) ?_
              exact kt
            have st158 : ∀ target, Steps p.tables e below (T124.setTop (mkF m 268 #[.val (.long q0), .second, .val (.long q1), .second, .val (.long q2), .second, .val (.int p3), .val (.int p4), .val (.int p5), .val (.int bb), .val (.int ae), .val (.int u), .val (.int (1 : Int32)), .val (.ref c0), .val (.ref c1), .val (.ref c2), .val (.ref at_), .val (.ref cs), .val (.ref (own_e (1 : Int32) bb u ae c0 c1 c2 at_)), .val (.ref at_)] [])) target → Steps p.tables e below (T124.setTop (mkF m 254 #[.val (.long q0), .second, .val (.long q1), .second, .val (.long q2), .second, .val (.int p3), .val (.int p4), .val (.int p5), .val (.int bb), .val (.int ae), .val (.int u), .val (.int (1 : Int32)), .val (.ref c0), .val (.ref c1), .val (.ref c2), .val (.ref at_), .val (.ref cs), .val (.ref (own_e (1 : Int32) bb u ae c0 c1 c2 at_)), .unset] [])) target := by
              intro target kt
              refine XS.aload X124.here hx rfl (hb hby at_254) rfl rfl ?_
              refine XS.astore X124.here hx rfl (hb hby at_256) rfl rfl (l' := #[.val (.long q0), .second, .val (.long q1), .second, .val (.long q2), .second, .val (.int p3), .val (.int p4), .val (.int p5), .val (.int bb), .val (.int ae), .val (.int u), .val (.int (1 : Int32)), .val (.ref c0), .val (.ref c1), .val (.ref c2), .val (.ref at_), .val (.ref cs), .val (.ref (own_e (1 : Int32) bb u ae c0 c1 c2 at_)), .val (.ref at_)]) rfl ?_
              refine XS.goto X124.here hx rfl (pc0 := 258) (pc' := 268) rfl (hb hby at_258) (by decide) (by decide) ?_
              exact kt
            obtain ⟨fs, hr, hrun, hended, hRW⟩ := Jvm.Stand.leaveW (s := s) X124 hS (by rw [e124]; exact kz_70) (v := some (.int (1 : Int32))) (fun h => by rw [Bd.returns] at h; cases h)
            refine ⟨_, _, pre0 _ (st1 _ (st2 _ (st3 _ (st4 _ (st5 _ (st6 _ (st7.trans (st8 _ (st9 _ (st10 _ (st11.trans (st12 _ (st13 _ (st14 _ (st15.trans (st16 _ (st17 _ (st18 _ (st19 _ (st20.trans (st21 _ (st22 _ (st23 _ (st24 _ (st25 _ (st26 _ (st27 _ (st28 _ (st29 _ (st30 _ (st47 _ (st64 _ (st70 _ (st122 _ (st123 _ (st124.trans (st125 _ (st126 _ (st127 _ (st128 _ (st141 _ (st142 _ (st147 _ (st148 _ (st157 _ (st158 _ ?_)))))))))))))))))))))))))))))))))))))))))))))), hrun, hended, _, _, rfl, ?_, hRW.1, hRW.2.1, hRW.2.2.1, hRW.2.2.2.mono (by decide) (by decide)⟩
            · show Steps p.tables e below (T124.setTop (mkF m 268 #[.val (.long q0), .second, .val (.long q1), .second, .val (.long q2), .second, .val (.int p3), .val (.int p4), .val (.int p5), .val (.int bb), .val (.int ae), .val (.int u), .val (.int (1 : Int32)), .val (.ref c0), .val (.ref c1), .val (.ref c2), .val (.ref at_), .val (.ref cs), .val (.ref (own_e (1 : Int32) bb u ae c0 c1 c2 at_)), .val (.ref at_)] [])) _
              refine XS.aload X124.here hx rfl (hb hby at_268) rfl rfl ?_
              refine XS.aload X124.here hx rfl (hb hby at_270) rfl rfl ?_
              refine Jvm.RoadKit.acmp (g := (mkF m 272 #[.val (.long q0), .second, .val (.long q1), .second, .val (.long q2), .second, .val (.int p3), .val (.int p4), .val (.int p5), .val (.int bb), .val (.int ae), .val (.int u), .val (.int (1 : Int32)), .val (.ref c0), .val (.ref c1), .val (.ref c2), .val (.ref at_), .val (.ref cs), .val (.ref (own_e (1 : Int32) bb u ae c0 c1 c2 at_)), .val (.ref at_)] [(.ref at_), (.ref (own_e (1 : Int32) bb u ae c0 c1 c2 at_))])) X124 hx rfl rfl rfl (pc0 := 272) (pc' := 275) (same := true) rfl (hb hby at_272) rfl (decide_eq_true (congrArg Value.ref (by rw [own_e, if_pos x1, if_neg y1, if_neg y2, if_neg z1]))) (by decide) (by decide) ?_
              refine XS.iconst X124.here hx rfl (hb hby at_275) ?_
              refine XS.goto X124.here hx rfl (pc0 := 276) (pc' := 280) rfl (hb hby at_276) (by decide) (by decide) ?_
              show Steps p.tables e below (T124.setTop (mkF m 280 #[.val (.long q0), .second, .val (.long q1), .second, .val (.long q2), .second, .val (.int p3), .val (.int p4), .val (.int p5), .val (.int bb), .val (.int ae), .val (.int u), .val (.int (1 : Int32)), .val (.ref c0), .val (.ref c1), .val (.ref c2), .val (.ref at_), .val (.ref cs), .val (.ref (own_e (1 : Int32) bb u ae c0 c1 c2 at_)), .val (.ref at_)] [(.int (1 : Int32))])) _
              exact retN X124 hx (t := .boolean) Bd.returns (by simp) (hb hby at_280) hr
            · show Q_rm0 Z q0 q1 q2 p3 p4 p5 h0 n0 _ T124.heap _
              rw [e124]
              exact ⟨rfl, N124⟩
    · have st159 : ∀ target, Steps p.tables e below (T124.setTop (mkF m 209 #[.val (.long q0), .second, .val (.long q1), .second, .val (.long q2), .second, .val (.int p3), .val (.int p4), .val (.int p5), .val (.int bb), .val (.int ae), .val (.int u), .val (.int (1 : Int32)), .val (.ref c0), .val (.ref c1), .val (.ref c2), .val (.ref at_), .val (.ref cs), .val (.ref (own_e (1 : Int32) bb u ae c0 c1 c2 at_)), .unset] [])) target → Steps p.tables e below (T124.setTop (mkF m 206 #[.val (.long q0), .second, .val (.long q1), .second, .val (.long q2), .second, .val (.int p3), .val (.int p4), .val (.int p5), .val (.int bb), .val (.int ae), .val (.int u), .val (.int (1 : Int32)), .val (.ref c0), .val (.ref c1), .val (.ref c2), .val (.ref at_), .val (.ref cs), .val (.ref (own_e (1 : Int32) bb u ae c0 c1 c2 at_)), .unset] [(.int bb), (.int (1 : Int32))])) target := by
        intro target kt
        refine XS.icmpNo X124.here hx rfl (hb hby at_206) rfl (flt x1).1 ?_
        exact kt
      have st160 : ∀ target, Steps p.tables e below (T124.setTop (mkF m 213 #[.val (.long q0), .second, .val (.long q1), .second, .val (.long q2), .second, .val (.int p3), .val (.int p4), .val (.int p5), .val (.int bb), .val (.int ae), .val (.int u), .val (.int (1 : Int32)), .val (.ref c0), .val (.ref c1), .val (.ref c2), .val (.ref at_), .val (.ref cs), .val (.ref (own_e (1 : Int32) bb u ae c0 c1 c2 at_)), .unset] [(.int (1 : Int32)), (.ref cs)])) target → Steps p.tables e below (T124.setTop (mkF m 209 #[.val (.long q0), .second, .val (.long q1), .second, .val (.long q2), .second, .val (.int p3), .val (.int p4), .val (.int p5), .val (.int bb), .val (.int ae), .val (.int u), .val (.int (1 : Int32)), .val (.ref c0), .val (.ref c1), .val (.ref c2), .val (.ref at_), .val (.ref cs), .val (.ref (own_e (1 : Int32) bb u ae c0 c1 c2 at_)), .unset] [])) target := by
        intro target kt
        refine XS.aload X124.here hx rfl (hb hby at_209) rfl rfl ?_
        refine XS.iload X124.here hx rfl (hb hby at_211) rfl ?_
        exact kt
      obtain ⟨cl161, Ar161, qc161, Sz161, Mn161, Hs161, Gs161⟩ := id V_cs_70
      have hin161 : ¬ ((1 : Int32) < 0 ∨ cl161.slots.size ≤ ((1 : Int32)).toNatClampNeg) := inb_of Sz161 ⟨by decide, by decide⟩
      have hat161 : cl161.slots[((1 : Int32)).toNatClampNeg]? = some (.ref c1) := Hs161.at hin161 rfl
      have st161 : ∀ target, Steps p.tables e below (T124.setTop (mkF m 214 #[.val (.long q0), .second, .val (.long q1), .second, .val (.long q2), .second, .val (.int p3), .val (.int p4), .val (.int p5), .val (.int bb), .val (.int ae), .val (.int u), .val (.int (1 : Int32)), .val (.ref c0), .val (.ref c1), .val (.ref c2), .val (.ref at_), .val (.ref cs), .val (.ref (own_e (1 : Int32) bb u ae c0 c1 c2 at_)), .unset] [(.ref c1)])) target → Steps p.tables e below (T124.setTop (mkF m 213 #[.val (.long q0), .second, .val (.long q1), .second, .val (.long q2), .second, .val (.int p3), .val (.int p4), .val (.int p5), .val (.int bb), .val (.int ae), .val (.int u), .val (.int (1 : Int32)), .val (.ref c0), .val (.ref c1), .val (.ref c2), .val (.ref at_), .val (.ref cs), .val (.ref (own_e (1 : Int32) bb u ae c0 c1 c2 at_)), .unset] [(.int (1 : Int32)), (.ref cs)])) target := fun target kt => X124.aaload hx (j := (1 : Int32)) (v := (.ref c1)) (by rw [e124]; exact Ar161.1) (State.isArrayOf_alike hZ.alike Ar161.2.1) rfl Ar161.2.2 hin161 hat161 (g := (mkF m 213 #[.val (.long q0), .second, .val (.long q1), .second, .val (.long q2), .second, .val (.int p3), .val (.int p4), .val (.int p5), .val (.int bb), .val (.int ae), .val (.int u), .val (.int (1 : Int32)), .val (.ref c0), .val (.ref c1), .val (.ref c2), .val (.ref at_), .val (.ref cs), .val (.ref (own_e (1 : Int32) bb u ae c0 c1 c2 at_)), .unset] [(.int (1 : Int32)), (.ref cs)])) rfl rfl (hb hby at_213) _ kt
      have st162 : ∀ target, Steps p.tables e below (T124.setTop (mkF m 268 #[.val (.long q0), .second, .val (.long q1), .second, .val (.long q2), .second, .val (.int p3), .val (.int p4), .val (.int p5), .val (.int bb), .val (.int ae), .val (.int u), .val (.int (1 : Int32)), .val (.ref c0), .val (.ref c1), .val (.ref c2), .val (.ref at_), .val (.ref cs), .val (.ref (own_e (1 : Int32) bb u ae c0 c1 c2 at_)), .val (.ref c1)] [])) target → Steps p.tables e below (T124.setTop (mkF m 214 #[.val (.long q0), .second, .val (.long q1), .second, .val (.long q2), .second, .val (.int p3), .val (.int p4), .val (.int p5), .val (.int bb), .val (.int ae), .val (.int u), .val (.int (1 : Int32)), .val (.ref c0), .val (.ref c1), .val (.ref c2), .val (.ref at_), .val (.ref cs), .val (.ref (own_e (1 : Int32) bb u ae c0 c1 c2 at_)), .unset] [(.ref c1)])) target := by
        intro target kt
        show Steps p.tables e below (T124.setTop (mkF m 214 #[.val (.long q0), .second, .val (.long q1), .second, .val (.long q2), .second, .val (.int p3), .val (.int p4), .val (.int p5), .val (.int bb), .val (.int ae), .val (.int u), .val (.int (1 : Int32)), .val (.ref c0), .val (.ref c1), .val (.ref c2), .val (.ref at_), .val (.ref cs), .val (.ref (own_e (1 : Int32) bb u ae c0 c1 c2 at_)), .unset] [(.ref c1)])) _
        refine XS.astore X124.here hx rfl (hb hby at_214) rfl rfl (l' := #[.val (.long q0), .second, .val (.long q1), .second, .val (.long q2), .second, .val (.int p3), .val (.int p4), .val (.int p5), .val (.int bb), .val (.int ae), .val (.int u), .val (.int (1 : Int32)), .val (.ref c0), .val (.ref c1), .val (.ref c2), .val (.ref at_), .val (.ref cs), .val (.ref (own_e (1 : Int32) bb u ae c0 c1 c2 at_)), .val (.ref c1)]) rfl ?_
        refine XS.goto X124.here hx rfl (pc0 := 216) (pc' := 268) rfl (hb hby at_216) (by decide) (by decide) ?_
        exact kt
      obtain ⟨fs, hr, hrun, hended, hRW⟩ := Jvm.Stand.leaveW (s := s) X124 hS (by rw [e124]; exact kz_70) (v := some (.int (1 : Int32))) (fun h => by rw [Bd.returns] at h; cases h)
      refine ⟨_, _, pre0 _ (st1 _ (st2 _ (st3 _ (st4 _ (st5 _ (st6 _ (st7.trans (st8 _ (st9 _ (st10 _ (st11.trans (st12 _ (st13 _ (st14 _ (st15.trans (st16 _ (st17 _ (st18 _ (st19 _ (st20.trans (st21 _ (st22 _ (st23 _ (st24 _ (st25 _ (st26 _ (st27 _ (st28 _ (st29 _ (st30 _ (st47 _ (st64 _ (st70 _ (st122 _ (st123 _ (st124.trans (st125 _ (st126 _ (st159 _ (st160 _ (st161 _ (st162 _ ?_)))))))))))))))))))))))))))))))))))))))))), hrun, hended, _, _, rfl, ?_, hRW.1, hRW.2.1, hRW.2.2.1, hRW.2.2.2.mono (by decide) (by decide)⟩
      · refine XS.aload X124.here hx rfl (hb hby at_268) rfl rfl ?_
        refine XS.aload X124.here hx rfl (hb hby at_270) rfl rfl ?_
        refine Jvm.RoadKit.acmp (g := (mkF m 272 #[.val (.long q0), .second, .val (.long q1), .second, .val (.long q2), .second, .val (.int p3), .val (.int p4), .val (.int p5), .val (.int bb), .val (.int ae), .val (.int u), .val (.int (1 : Int32)), .val (.ref c0), .val (.ref c1), .val (.ref c2), .val (.ref at_), .val (.ref cs), .val (.ref (own_e (1 : Int32) bb u ae c0 c1 c2 at_)), .val (.ref c1)] [(.ref c1), (.ref (own_e (1 : Int32) bb u ae c0 c1 c2 at_))])) X124 hx rfl rfl rfl (pc0 := 272) (pc' := 275) (same := true) rfl (hb hby at_272) rfl (decide_eq_true (congrArg Value.ref (by rw [own_e, if_neg x1]; rfl))) (by decide) (by decide) ?_
        refine XS.iconst X124.here hx rfl (hb hby at_275) ?_
        refine XS.goto X124.here hx rfl (pc0 := 276) (pc' := 280) rfl (hb hby at_276) (by decide) (by decide) ?_
        show Steps p.tables e below (T124.setTop (mkF m 280 #[.val (.long q0), .second, .val (.long q1), .second, .val (.long q2), .second, .val (.int p3), .val (.int p4), .val (.int p5), .val (.int bb), .val (.int ae), .val (.int u), .val (.int (1 : Int32)), .val (.ref c0), .val (.ref c1), .val (.ref c2), .val (.ref at_), .val (.ref cs), .val (.ref (own_e (1 : Int32) bb u ae c0 c1 c2 at_)), .val (.ref c1)] [(.int (1 : Int32))])) _
        exact retN X124 hx (t := .boolean) Bd.returns (by simp) (hb hby at_280) hr
      · show Q_rm0 Z q0 q1 q2 p3 p4 p5 h0 n0 _ T124.heap _
        rw [e124]
        exact ⟨rfl, N124⟩
  · have st163 : ∀ target, Steps p.tables e below (T70.setTop (mkF m 196 #[.val (.long q0), .second, .val (.long q1), .second, .val (.long q2), .second, .val (.int p3), .val (.int p4), .val (.int p5), .val (.int bb), .val (.int ae), .val (.int u), .val (.int (2 : Int32)), .val (.ref c0), .val (.ref c1), .val (.ref c2), .val (.ref at_), .val (.ref cs), .unset, .unset] [(.int (2 : Int32)), (.ref cs)])) target → Steps p.tables e below (T70.setTop (mkF m 192 #[.val (.long q0), .second, .val (.long q1), .second, .val (.long q2), .second, .val (.int p3), .val (.int p4), .val (.int p5), .val (.int bb), .val (.int ae), .val (.int u), .val (.int (2 : Int32)), .val (.ref c0), .val (.ref c1), .val (.ref c2), .val (.ref at_), .val (.ref cs), .unset, .unset] [])) target := by
      intro target kt
      refine XS.aload X70.here hx rfl (hb hby at_192) rfl rfl ?_
      show Steps p.tables e below (T70.setTop (mkF m 194 #[.val (.long q0), .second, .val (.long q1), .second, .val (.long q2), .second, .val (.int p3), .val (.int p4), .val (.int p5), .val (.int bb), .val (.int ae), .val (.int u), .val (.int (2 : Int32)), .val (.ref c0), .val (.ref c1), .val (.ref c2), .val (.ref at_), .val (.ref cs), .unset, .unset] [(.ref cs)])) _
      refine XS.iload X70.here hx rfl (hb hby at_194) rfl ?_
      exact kt
    obtain ⟨cl164, Ar164, qc164, Sz164, Mn164, Hs164, Gs164⟩ := id V_cs_70
    have hin164 : ¬ ((2 : Int32) < 0 ∨ cl164.slots.size ≤ ((2 : Int32)).toNatClampNeg) := inb_of Sz164 ⟨by decide, by decide⟩
    have hat164 : cl164.slots[((2 : Int32)).toNatClampNeg]? = some (.ref c2) := Hs164.at hin164 rfl
    have st164 : ∀ target, Steps p.tables e below (T70.setTop (mkF m 197 #[.val (.long q0), .second, .val (.long q1), .second, .val (.long q2), .second, .val (.int p3), .val (.int p4), .val (.int p5), .val (.int bb), .val (.int ae), .val (.int u), .val (.int (2 : Int32)), .val (.ref c0), .val (.ref c1), .val (.ref c2), .val (.ref at_), .val (.ref cs), .unset, .unset] [(.ref c2)])) target → Steps p.tables e below (T70.setTop (mkF m 196 #[.val (.long q0), .second, .val (.long q1), .second, .val (.long q2), .second, .val (.int p3), .val (.int p4), .val (.int p5), .val (.int bb), .val (.int ae), .val (.int u), .val (.int (2 : Int32)), .val (.ref c0), .val (.ref c1), .val (.ref c2), .val (.ref at_), .val (.ref cs), .unset, .unset] [(.int (2 : Int32)), (.ref cs)])) target := fun target kt => X70.aaload hx (j := (2 : Int32)) (v := (.ref c2)) (by rw [e70]; exact Ar164.1) (State.isArrayOf_alike hZ.alike Ar164.2.1) rfl Ar164.2.2 hin164 hat164 (g := (mkF m 196 #[.val (.long q0), .second, .val (.long q1), .second, .val (.long q2), .second, .val (.int p3), .val (.int p4), .val (.int p5), .val (.int bb), .val (.int ae), .val (.int u), .val (.int (2 : Int32)), .val (.ref c0), .val (.ref c1), .val (.ref c2), .val (.ref at_), .val (.ref cs), .unset, .unset] [(.int (2 : Int32)), (.ref cs)])) rfl rfl (hb hby at_196) _ kt
    obtain ⟨cq165, kq165, qv165a, qv165b, qv165c⟩ := isOf hZ e70 E_c2_i_70
    obtain ⟨_, _, ⟨T165, L165, k165, n165⟩, -, X165, ⟨Lc165, hQ165, l165, y165, z165⟩, st165⟩ := X70.virtualBack hx (y := (⟨"com/example/nomlog/nomlog/lang/Cell", "follow", "()Lcom/example/nomlog/nomlog/lang/Term;"⟩ : MethodName)) (z := (⟨"com/example/nomlog/nomlog/lang/Cell", "follow", "()Lcom/example/nomlog/nomlog/lang/Term;"⟩ : MethodName)) hown (mvT hZ (hw _ (List.mem_of_getElem? (i := 43) rfl))) (mvT hZ (hw _ (List.mem_of_getElem? (i := 44) rfl))) (notFace_of_selects (args := #[]) (mvT hZ (hw _ (List.mem_of_getElem? (i := 46) rfl)))) (mvT hZ (hw _ (List.mem_of_getElem? (i := 46) rfl))) (mvT hZ (hw _ (List.mem_of_getElem? (i := 45) rfl))) (by decide) (backOf (W := 0) (rmF2 l Z a0 hw [] c2 at_ (own_cut u 2 (own_V2 bb at_)) h70 n0 Z_70 E_c2_i_70 E_at__i_70 p70_2 own_d2) hZ (hw _ (List.mem_of_getElem? (i := 47) rfl)) (hw _ (List.mem_of_getElem? (i := 3) rfl)) (by decide) (by decide)) qv165a qv165c (g := (mkF m 197 #[.val (.long q0), .second, .val (.long q1), .second, .val (.long q2), .second, .val (.int p3), .val (.int p4), .val (.int p5), .val (.int bb), .val (.int ae), .val (.int u), .val (.int (2 : Int32)), .val (.ref c0), .val (.ref c1), .val (.ref c2), .val (.ref at_), .val (.ref cs), .unset, .unset] [(.ref c2)])) rfl (by rw [hml]; rfl) (Steps.refl _) (argsL := []) (rest := []) (lenOf pd_4 rfl) rfl (by show 2 * 0 + _ ≤ _; exact Nat.le_of_eq rfl) (hb hby at_197) (fun _ _ => ⟨rfl, e70, (by decide : 7 + 0 ≤ _), (by decide : 18 + 0 ≤ _)⟩)
    dsimp only [Pt.U, Pt.locs, Pt.cells, Pt.slots] at X165 l165 y165 z165 st165 hQ165
    subst l165 y165 z165
    obtain ⟨rfl, Nq165, e165⟩ := hQ165
    have N165 := Fr.app N70 Nq165
    have xq := own_x2 (c0 := c0) (c1 := c1) (c2 := c2) (at_ := at_) hb4 hu4 ha2 ne_c1_at_ ne_c2_at_
    rw [xq] at st165
    have st166 : ∀ target, Steps p.tables e below (T165.setTop (mkF m 202 #[.val (.long q0), .second, .val (.long q1), .second, .val (.long q2), .second, .val (.int p3), .val (.int p4), .val (.int p5), .val (.int bb), .val (.int ae), .val (.int u), .val (.int (2 : Int32)), .val (.ref c0), .val (.ref c1), .val (.ref c2), .val (.ref at_), .val (.ref cs), .val (.ref (own_e (2 : Int32) bb u ae c0 c1 c2 at_)), .unset] [])) target → Steps p.tables e below (T165.setTop (mkF m 200 #[.val (.long q0), .second, .val (.long q1), .second, .val (.long q2), .second, .val (.int p3), .val (.int p4), .val (.int p5), .val (.int bb), .val (.int ae), .val (.int u), .val (.int (2 : Int32)), .val (.ref c0), .val (.ref c1), .val (.ref c2), .val (.ref at_), .val (.ref cs), .unset, .unset] [(.ref (own_e (2 : Int32) bb u ae c0 c1 c2 at_))])) target := by
      intro target kt
      refine XS.astore X165.here hx rfl (hb hby at_200) rfl rfl (l' := #[.val (.long q0), .second, .val (.long q1), .second, .val (.long q2), .second, .val (.int p3), .val (.int p4), .val (.int p5), .val (.int bb), .val (.int ae), .val (.int u), .val (.int (2 : Int32)), .val (.ref c0), .val (.ref c1), .val (.ref c2), .val (.ref at_), .val (.ref cs), .val (.ref (own_e (2 : Int32) bb u ae c0 c1 c2 at_)), .unset]) rfl ?_
      exact kt
    have st167 : ∀ target, Steps p.tables e below (T165.setTop (mkF m 206 #[.val (.long q0), .second, .val (.long q1), .second, .val (.long q2), .second, .val (.int p3), .val (.int p4), .val (.int p5), .val (.int bb), .val (.int ae), .val (.int u), .val (.int (2 : Int32)), .val (.ref c0), .val (.ref c1), .val (.ref c2), .val (.ref at_), .val (.ref cs), .val (.ref (own_e (2 : Int32) bb u ae c0 c1 c2 at_)), .unset] [(.int bb), (.int (2 : Int32))])) target → Steps p.tables e below (T165.setTop (mkF m 202 #[.val (.long q0), .second, .val (.long q1), .second, .val (.long q2), .second, .val (.int p3), .val (.int p4), .val (.int p5), .val (.int bb), .val (.int ae), .val (.int u), .val (.int (2 : Int32)), .val (.ref c0), .val (.ref c1), .val (.ref c2), .val (.ref at_), .val (.ref cs), .val (.ref (own_e (2 : Int32) bb u ae c0 c1 c2 at_)), .unset] [])) target := by
      intro target kt
      refine XS.iload X165.here hx rfl (hb hby at_202) rfl ?_
      refine XS.iload X165.here hx rfl (hb hby at_204) rfl ?_
      exact kt
    by_cases x1 : (2 : Int32) < bb
    · have st168 : ∀ target, Steps p.tables e below (T165.setTop (mkF m 219 #[.val (.long q0), .second, .val (.long q1), .second, .val (.long q2), .second, .val (.int p3), .val (.int p4), .val (.int p5), .val (.int bb), .val (.int ae), .val (.int u), .val (.int (2 : Int32)), .val (.ref c0), .val (.ref c1), .val (.ref c2), .val (.ref at_), .val (.ref cs), .val (.ref (own_e (2 : Int32) bb u ae c0 c1 c2 at_)), .unset] [])) target → Steps p.tables e below (T165.setTop (mkF m 206 #[.val (.long q0), .second, .val (.long q1), .second, .val (.long q2), .second, .val (.int p3), .val (.int p4), .val (.int p5), .val (.int bb), .val (.int ae), .val (.int u), .val (.int (2 : Int32)), .val (.ref c0), .val (.ref c1), .val (.ref c2), .val (.ref at_), .val (.ref cs), .val (.ref (own_e (2 : Int32) bb u ae c0 c1 c2 at_)), .unset] [(.int bb), (.int (2 : Int32))])) target := by
        intro target kt
        refine XS.icmpYes X165.here hx rfl (pc0 := 206) (pc' := 219) rfl (hb hby at_206) rfl (tlt x1).1 (by decide) (by decide) ?_
        exact kt
      have st169 : ∀ target, Steps p.tables e below (T165.setTop (mkF m 223 #[.val (.long q0), .second, .val (.long q1), .second, .val (.long q2), .second, .val (.int p3), .val (.int p4), .val (.int p5), .val (.int bb), .val (.int ae), .val (.int u), .val (.int (2 : Int32)), .val (.ref c0), .val (.ref c1), .val (.ref c2), .val (.ref at_), .val (.ref cs), .val (.ref (own_e (2 : Int32) bb u ae c0 c1 c2 at_)), .unset] [(.int (2 : Int32)), (.int u)])) target → Steps p.tables e below (T165.setTop (mkF m 219 #[.val (.long q0), .second, .val (.long q1), .second, .val (.long q2), .second, .val (.int p3), .val (.int p4), .val (.int p5), .val (.int bb), .val (.int ae), .val (.int u), .val (.int (2 : Int32)), .val (.ref c0), .val (.ref c1), .val (.ref c2), .val (.ref at_), .val (.ref cs), .val (.ref (own_e (2 : Int32) bb u ae c0 c1 c2 at_)), .unset] [])) target := by
        intro target kt
        refine XS.iload X165.here hx rfl (hb hby at_219) rfl ?_
        refine XS.iload X165.here hx rfl (hb hby at_221) rfl ?_
        exact kt
      by_cases y1 : u < (2 : Int32)
      · have st170 : ∀ target, Steps p.tables e below (T165.setTop (mkF m 243 #[.val (.long q0), .second, .val (.long q1), .second, .val (.long q2), .second, .val (.int p3), .val (.int p4), .val (.int p5), .val (.int bb), .val (.int ae), .val (.int u), .val (.int (2 : Int32)), .val (.ref c0), .val (.ref c1), .val (.ref c2), .val (.ref at_), .val (.ref cs), .val (.ref (own_e (2 : Int32) bb u ae c0 c1 c2 at_)), .unset] [])) target → Steps p.tables e below (T165.setTop (mkF m 223 #[.val (.long q0), .second, .val (.long q1), .second, .val (.long q2), .second, .val (.int p3), .val (.int p4), .val (.int p5), .val (.int bb), .val (.int ae), .val (.int u), .val (.int (2 : Int32)), .val (.ref c0), .val (.ref c1), .val (.ref c2), .val (.ref at_), .val (.ref cs), .val (.ref (own_e (2 : Int32) bb u ae c0 c1 c2 at_)), .unset] [(.int (2 : Int32)), (.int u)])) target := by
          intro target kt
          refine XS.icmpYes X165.here hx rfl (pc0 := 223) (pc' := 243) rfl (hb hby at_223) rfl (tlt y1).1 (by decide) (by decide) ?_
          exact kt
        have st171 : ∀ target, Steps p.tables e below (T165.setTop (mkF m 245 #[.val (.long q0), .second, .val (.long q1), .second, .val (.long q2), .second, .val (.int p3), .val (.int p4), .val (.int p5), .val (.int bb), .val (.int ae), .val (.int u), .val (.int (2 : Int32)), .val (.ref c0), .val (.ref c1), .val (.ref c2), .val (.ref at_), .val (.ref cs), .val (.ref (own_e (2 : Int32) bb u ae c0 c1 c2 at_)), .unset] [(.int ae)])) target → Steps p.tables e below (T165.setTop (mkF m 243 #[.val (.long q0), .second, .val (.long q1), .second, .val (.long q2), .second, .val (.int p3), .val (.int p4), .val (.int p5), .val (.int bb), .val (.int ae), .val (.int u), .val (.int (2 : Int32)), .val (.ref c0), .val (.ref c1), .val (.ref c2), .val (.ref at_), .val (.ref cs), .val (.ref (own_e (2 : Int32) bb u ae c0 c1 c2 at_)), .unset] [])) target := by
          intro target kt
          show Steps p.tables e below (T165.setTop (mkF m 243 #[.val (.long q0), .second, .val (.long q1), .second, .val (.long q2), .second, .val (.int p3), .val (.int p4), .val (.int p5), .val (.int bb), .val (.int ae), .val (.int u), .val (.int (2 : Int32)), .val (.ref c0), .val (.ref c1), .val (.ref c2), .val (.ref at_), .val (.ref cs), .val (.ref (own_e (2 : Int32) bb u ae c0 c1 c2 at_)), .unset] [])) _
          refine XS.iload X165.here hx rfl (hb hby at_243) rfl ?_
          exact kt
        by_cases z1 : ae = (0 : Int32)
        · have st172 : ∀ target, Steps p.tables e below (T165.setTop (mkF m 248 #[.val (.long q0), .second, .val (.long q1), .second, .val (.long q2), .second, .val (.int p3), .val (.int p4), .val (.int p5), .val (.int bb), .val (.int ae), .val (.int u), .val (.int (2 : Int32)), .val (.ref c0), .val (.ref c1), .val (.ref c2), .val (.ref at_), .val (.ref cs), .val (.ref (own_e (2 : Int32) bb u ae c0 c1 c2 at_)), .unset] [])) target → Steps p.tables e below (T165.setTop (mkF m 245 #[.val (.long q0), .second, .val (.long q1), .second, .val (.long q2), .second, .val (.int p3), .val (.int p4), .val (.int p5), .val (.int bb), .val (.int ae), .val (.int u), .val (.int (2 : Int32)), .val (.ref c0), .val (.ref c1), .val (.ref c2), .val (.ref at_), .val (.ref cs), .val (.ref (own_e (2 : Int32) bb u ae c0 c1 c2 at_)), .unset] [(.int ae)])) target := by
            intro target kt
            refine XS.ifNo X165.here hx rfl (hb hby at_245) rfl ((if0 _ _).trans (teq z1).2) ?_
            exact kt
          have st173 : ∀ target, Steps p.tables e below (T165.setTop (mkF m 251 #[.val (.long q0), .second, .val (.long q1), .second, .val (.long q2), .second, .val (.int p3), .val (.int p4), .val (.int p5), .val (.int bb), .val (.int ae), .val (.int u), .val (.int (2 : Int32)), .val (.ref c0), .val (.ref c1), .val (.ref c2), .val (.ref at_), .val (.ref cs), .val (.ref (own_e (2 : Int32) bb u ae c0 c1 c2 at_)), .unset] [(.int (3 : Int32)), (.int bb)])) target → Steps p.tables e below (T165.setTop (mkF m 248 #[.val (.long q0), .second, .val (.long q1), .second, .val (.long q2), .second, .val (.int p3), .val (.int p4), .val (.int p5), .val (.int bb), .val (.int ae), .val (.int u), .val (.int (2 : Int32)), .val (.ref c0), .val (.ref c1), .val (.ref c2), .val (.ref at_), .val (.ref cs), .val (.ref (own_e (2 : Int32) bb u ae c0 c1 c2 at_)), .unset] [])) target := by
            intro target kt
            refine XS.iload X165.here hx rfl (hb hby at_248) rfl ?_
            refine XS.iconst X165.here hx rfl (hb hby at_250) ?_
            exact kt
          by_cases z2 : bb = (3 : Int32)
          · have st174 : ∀ target, Steps p.tables e below (T165.setTop (mkF m 254 #[.val (.long q0), .second, .val (.long q1), .second, .val (.long q2), .second, .val (.int p3), .val (.int p4), .val (.int p5), .val (.int bb), .val (.int ae), .val (.int u), .val (.int (2 : Int32)), .val (.ref c0), .val (.ref c1), .val (.ref c2), .val (.ref at_), .val (.ref cs), .val (.ref (own_e (2 : Int32) bb u ae c0 c1 c2 at_)), .unset] [])) target → Steps p.tables e below (T165.setTop (mkF m 251 #[.val (.long q0), .second, .val (.long q1), .second, .val (.long q2), .second, .val (.int p3), .val (.int p4), .val (.int p5), .val (.int bb), .val (.int ae), .val (.int u), .val (.int (2 : Int32)), .val (.ref c0), .val (.ref c1), .val (.ref c2), .val (.ref at_), .val (.ref cs), .val (.ref (own_e (2 : Int32) bb u ae c0 c1 c2 at_)), .unset] [(.int (3 : Int32)), (.int bb)])) target := by
              intro target kt
              refine XS.icmpNo X165.here hx rfl (hb hby at_251) rfl (teq z2).2 ?_
              exact kt
            have st175 : ∀ target, Steps p.tables e below (T165.setTop (mkF m 268 #[.val (.long q0), .second, .val (.long q1), .second, .val (.long q2), .second, .val (.int p3), .val (.int p4), .val (.int p5), .val (.int bb), .val (.int ae), .val (.int u), .val (.int (2 : Int32)), .val (.ref c0), .val (.ref c1), .val (.ref c2), .val (.ref at_), .val (.ref cs), .val (.ref (own_e (2 : Int32) bb u ae c0 c1 c2 at_)), .val (.ref at_)] [])) target → Steps p.tables e below (T165.setTop (mkF m 254 #[.val (.long q0), .second, .val (.long q1), .second, .val (.long q2), .second, .val (.int p3), .val (.int p4), .val (.int p5), .val (.int bb), .val (.int ae), .val (.int u), .val (.int (2 : Int32)), .val (.ref c0), .val (.ref c1), .val (.ref c2), .val (.ref at_), .val (.ref cs), .val (.ref (own_e (2 : Int32) bb u ae c0 c1 c2 at_)), .unset] [])) target := by
              intro target kt
              refine XS.aload X165.here hx rfl (hb hby at_254) rfl rfl ?_
              refine XS.astore X165.here hx rfl (hb hby at_256) rfl rfl (l' := #[.val (.long q0), .second, .val (.long q1), .second, .val (.long q2), .second, .val (.int p3), .val (.int p4), .val (.int p5), .val (.int bb), .val (.int ae), .val (.int u), .val (.int (2 : Int32)), .val (.ref c0), .val (.ref c1), .val (.ref c2), .val (.ref at_), .val (.ref cs), .val (.ref (own_e (2 : Int32) bb u ae c0 c1 c2 at_)), .val (.ref at_)]) rfl ?_
              refine XS.goto X165.here hx rfl (pc0 := 258) (pc' := 268) rfl (hb hby at_258) (by decide) (by decide) ?_
              exact kt
            obtain ⟨fs, hr, hrun, hended, hRW⟩ := Jvm.Stand.leaveW (s := s) X165 hS (by rw [e165]; exact kz_70) (v := some (.int (1 : Int32))) (fun h => by rw [Bd.returns] at h; cases h)
            refine ⟨_, _, pre0 _ (st1 _ (st2 _ (st3 _ (st4 _ (st5 _ (st6 _ (st7.trans (st8 _ (st9 _ (st10 _ (st11.trans (st12 _ (st13 _ (st14 _ (st15.trans (st16 _ (st17 _ (st18 _ (st19 _ (st20.trans (st21 _ (st22 _ (st23 _ (st24 _ (st25 _ (st26 _ (st27 _ (st28 _ (st29 _ (st30 _ (st47 _ (st64 _ (st70 _ (st163 _ (st164 _ (st165.trans (st166 _ (st167 _ (st168 _ (st169 _ (st170 _ (st171 _ (st172 _ (st173 _ (st174 _ (st175 _ ?_)))))))))))))))))))))))))))))))))))))))))))))), hrun, hended, _, _, rfl, ?_, hRW.1, hRW.2.1, hRW.2.2.1, hRW.2.2.2.mono (by decide) (by decide)⟩
            · show Steps p.tables e below (T165.setTop (mkF m 268 #[.val (.long q0), .second, .val (.long q1), .second, .val (.long q2), .second, .val (.int p3), .val (.int p4), .val (.int p5), .val (.int bb), .val (.int ae), .val (.int u), .val (.int (2 : Int32)), .val (.ref c0), .val (.ref c1), .val (.ref c2), .val (.ref at_), .val (.ref cs), .val (.ref (own_e (2 : Int32) bb u ae c0 c1 c2 at_)), .val (.ref at_)] [])) _
              refine XS.aload X165.here hx rfl (hb hby at_268) rfl rfl ?_
              refine XS.aload X165.here hx rfl (hb hby at_270) rfl rfl ?_
              refine Jvm.RoadKit.acmp (g := (mkF m 272 #[.val (.long q0), .second, .val (.long q1), .second, .val (.long q2), .second, .val (.int p3), .val (.int p4), .val (.int p5), .val (.int bb), .val (.int ae), .val (.int u), .val (.int (2 : Int32)), .val (.ref c0), .val (.ref c1), .val (.ref c2), .val (.ref at_), .val (.ref cs), .val (.ref (own_e (2 : Int32) bb u ae c0 c1 c2 at_)), .val (.ref at_)] [(.ref at_), (.ref (own_e (2 : Int32) bb u ae c0 c1 c2 at_))])) X165 hx rfl rfl rfl (pc0 := 272) (pc' := 275) (same := true) rfl (hb hby at_272) rfl (decide_eq_true (congrArg Value.ref (by rw [own_e, if_pos x1, if_pos y1, if_pos z1, if_pos z2]))) (by decide) (by decide) ?_
              refine XS.iconst X165.here hx rfl (hb hby at_275) ?_
              refine XS.goto X165.here hx rfl (pc0 := 276) (pc' := 280) rfl (hb hby at_276) (by decide) (by decide) ?_
              show Steps p.tables e below (T165.setTop (mkF m 280 #[.val (.long q0), .second, .val (.long q1), .second, .val (.long q2), .second, .val (.int p3), .val (.int p4), .val (.int p5), .val (.int bb), .val (.int ae), .val (.int u), .val (.int (2 : Int32)), .val (.ref c0), .val (.ref c1), .val (.ref c2), .val (.ref at_), .val (.ref cs), .val (.ref (own_e (2 : Int32) bb u ae c0 c1 c2 at_)), .val (.ref at_)] [(.int (1 : Int32))])) _
              exact retN X165 hx (t := .boolean) Bd.returns (by simp) (hb hby at_280) hr
            · show Q_rm0 Z q0 q1 q2 p3 p4 p5 h0 n0 _ T165.heap _
              rw [e165]
              exact ⟨rfl, N165⟩
          · have st176 : ∀ target, Steps p.tables e below (T165.setTop (mkF m 261 #[.val (.long q0), .second, .val (.long q1), .second, .val (.long q2), .second, .val (.int p3), .val (.int p4), .val (.int p5), .val (.int bb), .val (.int ae), .val (.int u), .val (.int (2 : Int32)), .val (.ref c0), .val (.ref c1), .val (.ref c2), .val (.ref at_), .val (.ref cs), .val (.ref (own_e (2 : Int32) bb u ae c0 c1 c2 at_)), .unset] [])) target → Steps p.tables e below (T165.setTop (mkF m 251 #[.val (.long q0), .second, .val (.long q1), .second, .val (.long q2), .second, .val (.int p3), .val (.int p4), .val (.int p5), .val (.int bb), .val (.int ae), .val (.int u), .val (.int (2 : Int32)), .val (.ref c0), .val (.ref c1), .val (.ref c2), .val (.ref at_), .val (.ref cs), .val (.ref (own_e (2 : Int32) bb u ae c0 c1 c2 at_)), .unset] [(.int (3 : Int32)), (.int bb)])) target := by
              intro target kt
              refine XS.icmpYes X165.here hx rfl (pc0 := 251) (pc' := 261) rfl (hb hby at_251) rfl (feq z2).2 (by decide) (by decide) ?_
              exact kt
            have st177 : ∀ target, Steps p.tables e below (T165.setTop (mkF m 265 #[.val (.long q0), .second, .val (.long q1), .second, .val (.long q2), .second, .val (.int p3), .val (.int p4), .val (.int p5), .val (.int bb), .val (.int ae), .val (.int u), .val (.int (2 : Int32)), .val (.ref c0), .val (.ref c1), .val (.ref c2), .val (.ref at_), .val (.ref cs), .val (.ref (own_e (2 : Int32) bb u ae c0 c1 c2 at_)), .unset] [(.int bb), (.ref cs)])) target → Steps p.tables e below (T165.setTop (mkF m 261 #[.val (.long q0), .second, .val (.long q1), .second, .val (.long q2), .second, .val (.int p3), .val (.int p4), .val (.int p5), .val (.int bb), .val (.int ae), .val (.int u), .val (.int (2 : Int32)), .val (.ref c0), .val (.ref c1), .val (.ref c2), .val (.ref at_), .val (.ref cs), .val (.ref (own_e (2 : Int32) bb u ae c0 c1 c2 at_)), .unset] [])) target := by
              intro target kt
              refine XS.aload X165.here hx rfl (hb hby at_261) rfl rfl ?_
              refine XS.iload X165.here hx rfl (hb hby at_263) rfl ?_
              exact kt
            obtain ⟨cl178, Ar178, qc178, Sz178, Mn178, Hs178, Gs178⟩ := id V_cs_70
            have hin178 : ¬ (bb < 0 ∨ cl178.slots.size ≤ (bb).toNatClampNeg) := own_in3 Sz178 (own_b3 hb4 z2)
            have hat178 : cl178.slots[(bb).toNatClampNeg]? = some (.ref (own_pick bb c0 c1 c2)) := Hs178.at hin178 (own_at3 (own_b3 hb4 z2))
            have st178 : ∀ target, Steps p.tables e below (T165.setTop (mkF m 266 #[.val (.long q0), .second, .val (.long q1), .second, .val (.long q2), .second, .val (.int p3), .val (.int p4), .val (.int p5), .val (.int bb), .val (.int ae), .val (.int u), .val (.int (2 : Int32)), .val (.ref c0), .val (.ref c1), .val (.ref c2), .val (.ref at_), .val (.ref cs), .val (.ref (own_e (2 : Int32) bb u ae c0 c1 c2 at_)), .unset] [(.ref (own_pick bb c0 c1 c2))])) target → Steps p.tables e below (T165.setTop (mkF m 265 #[.val (.long q0), .second, .val (.long q1), .second, .val (.long q2), .second, .val (.int p3), .val (.int p4), .val (.int p5), .val (.int bb), .val (.int ae), .val (.int u), .val (.int (2 : Int32)), .val (.ref c0), .val (.ref c1), .val (.ref c2), .val (.ref at_), .val (.ref cs), .val (.ref (own_e (2 : Int32) bb u ae c0 c1 c2 at_)), .unset] [(.int bb), (.ref cs)])) target := fun target kt => X165.aaload hx (j := bb) (v := (.ref (own_pick bb c0 c1 c2))) (by rw [e165]; exact Ar178.1) (State.isArrayOf_alike hZ.alike Ar178.2.1) rfl Ar178.2.2 hin178 hat178 (g := (mkF m 265 #[.val (.long q0), .second, .val (.long q1), .second, .val (.long q2), .second, .val (.int p3), .val (.int p4), .val (.int p5), .val (.int bb), .val (.int ae), .val (.int u), .val (.int (2 : Int32)), .val (.ref c0), .val (.ref c1), .val (.ref c2), .val (.ref at_), .val (.ref cs), .val (.ref (own_e (2 : Int32) bb u ae c0 c1 c2 at_)), .unset] [(.int bb), (.ref cs)])) rfl rfl (hb hby at_265) _ kt
            have st179 : ∀ target, Steps p.tables e below (T165.setTop (mkF m 268 #[.val (.long q0), .second, .val (.long q1), .second, .val (.long q2), .second, .val (.int p3), .val (.int p4), .val (.int p5), .val (.int bb), .val (.int ae), .val (.int u), .val (.int (2 : Int32)), .val (.ref c0), .val (.ref c1), .val (.ref c2), .val (.ref at_), .val (.ref cs), .val (.ref (own_e (2 : Int32) bb u ae c0 c1 c2 at_)), .val (.ref (own_pick bb c0 c1 c2))] [])) target → Steps p.tables e below (T165.setTop (mkF m 266 #[.val (.long q0), .second, .val (.long q1), .second, .val (.long q2), .second, .val (.int p3), .val (.int p4), .val (.int p5), .val (.int bb), .val (.int ae), .val (.int u), .val (.int (2 : Int32)), .val (.ref c0), .val (.ref c1), .val (.ref c2), .val (.ref at_), .val (.ref cs), .val (.ref (own_e (2 : Int32) bb u ae c0 c1 c2 at_)), .unset] [(.ref (own_pick bb c0 c1 c2))])) target := by
              intro target kt
              show Steps p.tables e below (T165.setTop (mkF m 266 #[.val (.long q0), .second, .val (.long q1), .second, .val (.long q2), .second, .val (.int p3), .val (.int p4), .val (.int p5), .val (.int bb), .val (.int ae), .val (.int u), .val (.int (2 : Int32)), .val (.ref c0), .val (.ref c1), .val (.ref c2), .val (.ref at_), .val (.ref cs), .val (.ref (own_e (2 : Int32) bb u ae c0 c1 c2 at_)), .unset] [(.ref (own_pick bb c0 c1 c2))])) _
              refine XS.astore X165.here hx rfl (hb hby at_266) rfl rfl (l' := #[.val (.long q0), .second, .val (.long q1), .second, .val (.long q2), .second, .val (.int p3), .val (.int p4), .val (.int p5), .val (.int bb), .val (.int ae), .val (.int u), .val (.int (2 : Int32)), .val (.ref c0), .val (.ref c1), .val (.ref c2), .val (.ref at_), .val (.ref cs), .val (.ref (own_e (2 : Int32) bb u ae c0 c1 c2 at_)), .val (.ref (own_pick bb c0 c1 c2))]) rfl ?_
              exact kt
            obtain ⟨fs, hr, hrun, hended, hRW⟩ := Jvm.Stand.leaveW (s := s) X165 hS (by rw [e165]; exact kz_70) (v := some (.int (1 : Int32))) (fun h => by rw [Bd.returns] at h; cases h)
            refine ⟨_, _, pre0 _ (st1 _ (st2 _ (st3 _ (st4 _ (st5 _ (st6 _ (st7.trans (st8 _ (st9 _ (st10 _ (st11.trans (st12 _ (st13 _ (st14 _ (st15.trans (st16 _ (st17 _ (st18 _ (st19 _ (st20.trans (st21 _ (st22 _ (st23 _ (st24 _ (st25 _ (st26 _ (st27 _ (st28 _ (st29 _ (st30 _ (st47 _ (st64 _ (st70 _ (st163 _ (st164 _ (st165.trans (st166 _ (st167 _ (st168 _ (st169 _ (st170 _ (st171 _ (st172 _ (st173 _ (st176 _ (st177 _ (st178 _ (st179 _ ?_)))))))))))))))))))))))))))))))))))))))))))))))), hrun, hended, _, _, rfl, ?_, hRW.1, hRW.2.1, hRW.2.2.1, hRW.2.2.2.mono (by decide) (by decide)⟩
            · refine XS.aload X165.here hx rfl (hb hby at_268) rfl rfl ?_
              refine XS.aload X165.here hx rfl (hb hby at_270) rfl rfl ?_
              refine Jvm.RoadKit.acmp (g := (mkF m 272 #[.val (.long q0), .second, .val (.long q1), .second, .val (.long q2), .second, .val (.int p3), .val (.int p4), .val (.int p5), .val (.int bb), .val (.int ae), .val (.int u), .val (.int (2 : Int32)), .val (.ref c0), .val (.ref c1), .val (.ref c2), .val (.ref at_), .val (.ref cs), .val (.ref (own_e (2 : Int32) bb u ae c0 c1 c2 at_)), .val (.ref (own_pick bb c0 c1 c2))] [(.ref (own_pick bb c0 c1 c2)), (.ref (own_e (2 : Int32) bb u ae c0 c1 c2 at_))])) X165 hx rfl rfl rfl (pc0 := 272) (pc' := 275) (same := true) rfl (hb hby at_272) rfl (decide_eq_true (congrArg Value.ref (by rw [own_e, if_pos x1, if_pos y1, if_pos z1, if_neg z2]))) (by decide) (by decide) ?_
              refine XS.iconst X165.here hx rfl (hb hby at_275) ?_
              refine XS.goto X165.here hx rfl (pc0 := 276) (pc' := 280) rfl (hb hby at_276) (by decide) (by decide) ?_
              show Steps p.tables e below (T165.setTop (mkF m 280 #[.val (.long q0), .second, .val (.long q1), .second, .val (.long q2), .second, .val (.int p3), .val (.int p4), .val (.int p5), .val (.int bb), .val (.int ae), .val (.int u), .val (.int (2 : Int32)), .val (.ref c0), .val (.ref c1), .val (.ref c2), .val (.ref at_), .val (.ref cs), .val (.ref (own_e (2 : Int32) bb u ae c0 c1 c2 at_)), .val (.ref (own_pick bb c0 c1 c2))] [(.int (1 : Int32))])) _
              exact retN X165 hx (t := .boolean) Bd.returns (by simp) (hb hby at_280) hr
            · show Q_rm0 Z q0 q1 q2 p3 p4 p5 h0 n0 _ T165.heap _
              rw [e165]
              exact ⟨rfl, N165⟩
        · have st180 : ∀ target, Steps p.tables e below (T165.setTop (mkF m 254 #[.val (.long q0), .second, .val (.long q1), .second, .val (.long q2), .second, .val (.int p3), .val (.int p4), .val (.int p5), .val (.int bb), .val (.int ae), .val (.int u), .val (.int (2 : Int32)), .val (.ref c0), .val (.ref c1), .val (.ref c2), .val (.ref at_), .val (.ref cs), .val (.ref (own_e (2 : Int32) bb u ae c0 c1 c2 at_)), .unset] [])) target → Steps p.tables e below (T165.setTop (mkF m 245 #[.val (.long q0), .second, .val (.long q1), .second, .val (.long q2), .second, .val (.int p3), .val (.int p4), .val (.int p5), .val (.int bb), .val (.int ae), .val (.int u), .val (.int (2 : Int32)), .val (.ref c0), .val (.ref c1), .val (.ref c2), .val (.ref at_), .val (.ref cs), .val (.ref (own_e (2 : Int32) bb u ae c0 c1 c2 at_)), .unset] [(.int ae)])) target := by
            intro target kt
            refine XS.ifYes X165.here hx rfl (pc0 := 245) (pc' := 254) rfl (hb hby at_245) rfl ((if0 _ _).trans (feq z1).2) (by decide) (by decide) ?_
            exact kt
          have st181 : ∀ target, Steps p.tables e below (T165.setTop (mkF m 268 #[.val (.long q0), .second, .val (.long q1), .second, .val (.long q2), .second, .val (.int p3), .val (.int p4), .val (.int p5), .val (.int bb), .val (.int ae), .val (.int u), .val (.int (2 : Int32)), .val (.ref c0), .val (.ref c1), .val (.ref c2), .val (.ref at_), .val (.ref cs), .val (.ref (own_e (2 : Int32) bb u ae c0 c1 c2 at_)), .val (.ref at_)] [])) target → Steps p.tables e below (T165.setTop (mkF m 254 #[.val (.long q0), .second, .val (.long q1), .second, .val (.long q2), .second, .val (.int p3), .val (.int p4), .val (.int p5), .val (.int bb), .val (.int ae), .val (.int u), .val (.int (2 : Int32)), .val (.ref c0), .val (.ref c1), .val (.ref c2), .val (.ref at_), .val (.ref cs), .val (.ref (own_e (2 : Int32) bb u ae c0 c1 c2 at_)), .unset] [])) target := by
            intro target kt
            refine XS.aload X165.here hx rfl (hb hby at_254) rfl rfl ?_
            show Steps p.tables e below (T165.setTop (mkF m 256 #[.val (.long q0), .second, .val (.long q1), .second, .val (.long q2), .second, .val (.int p3), .val (.int p4), .val (.int p5), .val (.int bb), .val (.int ae), .val (.int u), .val (.int (2 : Int32)), .val (.ref c0), .val (.ref c1), .val (.ref c2), .val (.ref at_), .val (.ref cs), .val (.ref (own_e (2 : Int32) bb u ae c0 c1 c2 at_)), .unset] [(.ref at_)])) _
            refine XS.astore X165.here hx rfl (hb hby at_256) rfl rfl (l' := #[.val (.long q0), .second, .val (.long q1), .second, .val (.long q2), .second, .val (.int p3), .val (.int p4), .val (.int p5), .val (.int bb), .val (.int ae), .val (.int u), .val (.int (2 : Int32)), .val (.ref c0), .val (.ref c1), .val (.ref c2), .val (.ref at_), .val (.ref cs), .val (.ref (own_e (2 : Int32) bb u ae c0 c1 c2 at_)), .val (.ref at_)]) rfl ?_
            refine XS.goto X165.here hx rfl (pc0 := 258) (pc' := 268) rfl (hb hby at_258) (by decide) (by decide) ?_
            exact kt
          obtain ⟨fs, hr, hrun, hended, hRW⟩ := Jvm.Stand.leaveW (s := s) X165 hS (by rw [e165]; exact kz_70) (v := some (.int (1 : Int32))) (fun h => by rw [Bd.returns] at h; cases h)
          refine ⟨_, _, pre0 _ (st1 _ (st2 _ (st3 _ (st4 _ (st5 _ (st6 _ (st7.trans (st8 _ (st9 _ (st10 _ (st11.trans (st12 _ (st13 _ (st14 _ (st15.trans (st16 _ (st17 _ (st18 _ (st19 _ (st20.trans (st21 _ (st22 _ (st23 _ (st24 _ (st25 _ (st26 _ (st27 _ (st28 _ (st29 _ (st30 _ (st47 _ (st64 _ (st70 _ (st163 _ (st164 _ (st165.trans (st166 _ (st167 _ (st168 _ (st169 _ (st170 _ (st171 _ (st180 _ (st181 _ ?_)))))))))))))))))))))))))))))))))))))))))))), hrun, hended, _, _, rfl, ?_, hRW.1, hRW.2.1, hRW.2.2.1, hRW.2.2.2.mono (by decide) (by decide)⟩
          · refine XS.aload X165.here hx rfl (hb hby at_268) rfl rfl ?_
            refine XS.aload X165.here hx rfl (hb hby at_270) rfl rfl ?_
            refine Jvm.RoadKit.acmp (g := (mkF m 272 #[.val (.long q0), .second, .val (.long q1), .second, .val (.long q2), .second, .val (.int p3), .val (.int p4), .val (.int p5), .val (.int bb), .val (.int ae), .val (.int u), .val (.int (2 : Int32)), .val (.ref c0), .val (.ref c1), .val (.ref c2), .val (.ref at_), .val (.ref cs), .val (.ref (own_e (2 : Int32) bb u ae c0 c1 c2 at_)), .val (.ref at_)] [(.ref at_), (.ref (own_e (2 : Int32) bb u ae c0 c1 c2 at_))])) X165 hx rfl rfl rfl (pc0 := 272) (pc' := 275) (same := true) rfl (hb hby at_272) rfl (decide_eq_true (congrArg Value.ref (by rw [own_e, if_pos x1, if_pos y1, if_neg z1]))) (by decide) (by decide) ?_
            refine XS.iconst X165.here hx rfl (hb hby at_275) ?_
            refine XS.goto X165.here hx rfl (pc0 := 276) (pc' := 280) rfl (hb hby at_276) (by decide) (by decide) ?_
            show Steps p.tables e below (T165.setTop (mkF m 280 #[.val (.long q0), .second, .val (.long q1), .second, .val (.long q2), .second, .val (.int p3), .val (.int p4), .val (.int p5), .val (.int bb), .val (.int ae), .val (.int u), .val (.int (2 : Int32)), .val (.ref c0), .val (.ref c1), .val (.ref c2), .val (.ref at_), .val (.ref cs), .val (.ref (own_e (2 : Int32) bb u ae c0 c1 c2 at_)), .val (.ref at_)] [(.int (1 : Int32))])) _
            exact retN X165 hx (t := .boolean) Bd.returns (by simp) (hb hby at_280) hr
          · show Q_rm0 Z q0 q1 q2 p3 p4 p5 h0 n0 _ T165.heap _
            rw [e165]
            exact ⟨rfl, N165⟩
      · have st182 : ∀ target, Steps p.tables e below (T165.setTop (mkF m 226 #[.val (.long q0), .second, .val (.long q1), .second, .val (.long q2), .second, .val (.int p3), .val (.int p4), .val (.int p5), .val (.int bb), .val (.int ae), .val (.int u), .val (.int (2 : Int32)), .val (.ref c0), .val (.ref c1), .val (.ref c2), .val (.ref at_), .val (.ref cs), .val (.ref (own_e (2 : Int32) bb u ae c0 c1 c2 at_)), .unset] [])) target → Steps p.tables e below (T165.setTop (mkF m 223 #[.val (.long q0), .second, .val (.long q1), .second, .val (.long q2), .second, .val (.int p3), .val (.int p4), .val (.int p5), .val (.int bb), .val (.int ae), .val (.int u), .val (.int (2 : Int32)), .val (.ref c0), .val (.ref c1), .val (.ref c2), .val (.ref at_), .val (.ref cs), .val (.ref (own_e (2 : Int32) bb u ae c0 c1 c2 at_)), .unset] [(.int (2 : Int32)), (.int u)])) target := by
          intro target kt
          refine XS.icmpNo X165.here hx rfl (hb hby at_223) rfl (flt y1).1 ?_
          exact kt
        have st183 : ∀ target, Steps p.tables e below (T165.setTop (mkF m 230 #[.val (.long q0), .second, .val (.long q1), .second, .val (.long q2), .second, .val (.int p3), .val (.int p4), .val (.int p5), .val (.int bb), .val (.int ae), .val (.int u), .val (.int (2 : Int32)), .val (.ref c0), .val (.ref c1), .val (.ref c2), .val (.ref at_), .val (.ref cs), .val (.ref (own_e (2 : Int32) bb u ae c0 c1 c2 at_)), .unset] [(.int bb), (.int u)])) target → Steps p.tables e below (T165.setTop (mkF m 226 #[.val (.long q0), .second, .val (.long q1), .second, .val (.long q2), .second, .val (.int p3), .val (.int p4), .val (.int p5), .val (.int bb), .val (.int ae), .val (.int u), .val (.int (2 : Int32)), .val (.ref c0), .val (.ref c1), .val (.ref c2), .val (.ref at_), .val (.ref cs), .val (.ref (own_e (2 : Int32) bb u ae c0 c1 c2 at_)), .unset] [])) target := by
          intro target kt
          show Steps p.tables e below (T165.setTop (mkF m 226 #[.val (.long q0), .second, .val (.long q1), .second, .val (.long q2), .second, .val (.int p3), .val (.int p4), .val (.int p5), .val (.int bb), .val (.int ae), .val (.int u), .val (.int (2 : Int32)), .val (.ref c0), .val (.ref c1), .val (.ref c2), .val (.ref at_), .val (.ref cs), .val (.ref (own_e (2 : Int32) bb u ae c0 c1 c2 at_)), .unset] [])) _
          refine XS.iload X165.here hx rfl (hb hby at_226) rfl ?_
          refine XS.iload X165.here hx rfl (hb hby at_228) rfl ?_
          exact kt
        by_cases y2 : u < bb
        · have st184 : ∀ target, Steps p.tables e below (T165.setTop (mkF m 233 #[.val (.long q0), .second, .val (.long q1), .second, .val (.long q2), .second, .val (.int p3), .val (.int p4), .val (.int p5), .val (.int bb), .val (.int ae), .val (.int u), .val (.int (2 : Int32)), .val (.ref c0), .val (.ref c1), .val (.ref c2), .val (.ref at_), .val (.ref cs), .val (.ref (own_e (2 : Int32) bb u ae c0 c1 c2 at_)), .unset] [])) target → Steps p.tables e below (T165.setTop (mkF m 230 #[.val (.long q0), .second, .val (.long q1), .second, .val (.long q2), .second, .val (.int p3), .val (.int p4), .val (.int p5), .val (.int bb), .val (.int ae), .val (.int u), .val (.int (2 : Int32)), .val (.ref c0), .val (.ref c1), .val (.ref c2), .val (.ref at_), .val (.ref cs), .val (.ref (own_e (2 : Int32) bb u ae c0 c1 c2 at_)), .unset] [(.int bb), (.int u)])) target := by
            intro target kt
            refine XS.icmpNo X165.here hx rfl (hb hby at_230) rfl (tlt y2).2.1 ?_
            exact kt
          have st185 : ∀ target, Steps p.tables e below (T165.setTop (mkF m 237 #[.val (.long q0), .second, .val (.long q1), .second, .val (.long q2), .second, .val (.int p3), .val (.int p4), .val (.int p5), .val (.int bb), .val (.int ae), .val (.int u), .val (.int (2 : Int32)), .val (.ref c0), .val (.ref c1), .val (.ref c2), .val (.ref at_), .val (.ref cs), .val (.ref (own_e (2 : Int32) bb u ae c0 c1 c2 at_)), .unset] [(.int u), (.ref cs)])) target → Steps p.tables e below (T165.setTop (mkF m 233 #[.val (.long q0), .second, .val (.long q1), .second, .val (.long q2), .second, .val (.int p3), .val (.int p4), .val (.int p5), .val (.int bb), .val (.int ae), .val (.int u), .val (.int (2 : Int32)), .val (.ref c0), .val (.ref c1), .val (.ref c2), .val (.ref at_), .val (.ref cs), .val (.ref (own_e (2 : Int32) bb u ae c0 c1 c2 at_)), .unset] [])) target := by
            intro target kt
            refine XS.aload X165.here hx rfl (hb hby at_233) rfl rfl ?_
            refine XS.iload X165.here hx rfl (hb hby at_235) rfl ?_
            exact kt
          obtain ⟨cl186, Ar186, qc186, Sz186, Mn186, Hs186, Gs186⟩ := id V_cs_70
          have hin186 : ¬ (u < 0 ∨ cl186.slots.size ≤ (u).toNatClampNeg) := own_in3 Sz186 (own_u3 hb4 hu4 y2)
          have hat186 : cl186.slots[(u).toNatClampNeg]? = some (.ref (own_pick u c0 c1 c2)) := Hs186.at hin186 (own_at3 (own_u3 hb4 hu4 y2))
          have st186 : ∀ target, Steps p.tables e below (T165.setTop (mkF m 238 #[.val (.long q0), .second, .val (.long q1), .second, .val (.long q2), .second, .val (.int p3), .val (.int p4), .val (.int p5), .val (.int bb), .val (.int ae), .val (.int u), .val (.int (2 : Int32)), .val (.ref c0), .val (.ref c1), .val (.ref c2), .val (.ref at_), .val (.ref cs), .val (.ref (own_e (2 : Int32) bb u ae c0 c1 c2 at_)), .unset] [(.ref (own_pick u c0 c1 c2))])) target → Steps p.tables e below (T165.setTop (mkF m 237 #[.val (.long q0), .second, .val (.long q1), .second, .val (.long q2), .second, .val (.int p3), .val (.int p4), .val (.int p5), .val (.int bb), .val (.int ae), .val (.int u), .val (.int (2 : Int32)), .val (.ref c0), .val (.ref c1), .val (.ref c2), .val (.ref at_), .val (.ref cs), .val (.ref (own_e (2 : Int32) bb u ae c0 c1 c2 at_)), .unset] [(.int u), (.ref cs)])) target := fun target kt => X165.aaload hx (j := u) (v := (.ref (own_pick u c0 c1 c2))) (by rw [e165]; exact Ar186.1) (State.isArrayOf_alike hZ.alike Ar186.2.1) rfl Ar186.2.2 hin186 hat186 (g := (mkF m 237 #[.val (.long q0), .second, .val (.long q1), .second, .val (.long q2), .second, .val (.int p3), .val (.int p4), .val (.int p5), .val (.int bb), .val (.int ae), .val (.int u), .val (.int (2 : Int32)), .val (.ref c0), .val (.ref c1), .val (.ref c2), .val (.ref at_), .val (.ref cs), .val (.ref (own_e (2 : Int32) bb u ae c0 c1 c2 at_)), .unset] [(.int u), (.ref cs)])) rfl rfl (hb hby at_237) _ kt
          have st187 : ∀ target, Steps p.tables e below (T165.setTop (mkF m 268 #[.val (.long q0), .second, .val (.long q1), .second, .val (.long q2), .second, .val (.int p3), .val (.int p4), .val (.int p5), .val (.int bb), .val (.int ae), .val (.int u), .val (.int (2 : Int32)), .val (.ref c0), .val (.ref c1), .val (.ref c2), .val (.ref at_), .val (.ref cs), .val (.ref (own_e (2 : Int32) bb u ae c0 c1 c2 at_)), .val (.ref (own_pick u c0 c1 c2))] [])) target → Steps p.tables e below (T165.setTop (mkF m 238 #[.val (.long q0), .second, .val (.long q1), .second, .val (.long q2), .second, .val (.int p3), .val (.int p4), .val (.int p5), .val (.int bb), .val (.int ae), .val (.int u), .val (.int (2 : Int32)), .val (.ref c0), .val (.ref c1), .val (.ref c2), .val (.ref at_), .val (.ref cs), .val (.ref (own_e (2 : Int32) bb u ae c0 c1 c2 at_)), .unset] [(.ref (own_pick u c0 c1 c2))])) target := by
            intro target kt
            refine XS.astore X165.here hx rfl (hb hby at_238) rfl rfl (l' := #[.val (.long q0), .second, .val (.long q1), .second, .val (.long q2), .second, .val (.int p3), .val (.int p4), .val (.int p5), .val (.int bb), .val (.int ae), .val (.int u), .val (.int (2 : Int32)), .val (.ref c0), .val (.ref c1), .val (.ref c2), .val (.ref at_), .val (.ref cs), .val (.ref (own_e (2 : Int32) bb u ae c0 c1 c2 at_)), .val (.ref (own_pick u c0 c1 c2))]) rfl ?_
            refine XS.goto X165.here hx rfl (pc0 := 240) (pc' := 268) rfl (hb hby at_240) (by decide) (by decide) ?_
            exact kt
          obtain ⟨fs, hr, hrun, hended, hRW⟩ := Jvm.Stand.leaveW (s := s) X165 hS (by rw [e165]; exact kz_70) (v := some (.int (1 : Int32))) (fun h => by rw [Bd.returns] at h; cases h)
          refine ⟨_, _, pre0 _ (st1 _ (st2 _ (st3 _ (st4 _ (st5 _ (st6 _ (st7.trans (st8 _ (st9 _ (st10 _ (st11.trans (st12 _ (st13 _ (st14 _ (st15.trans (st16 _ (st17 _ (st18 _ (st19 _ (st20.trans (st21 _ (st22 _ (st23 _ (st24 _ (st25 _ (st26 _ (st27 _ (st28 _ (st29 _ (st30 _ (st47 _ (st64 _ (st70 _ (st163 _ (st164 _ (st165.trans (st166 _ (st167 _ (st168 _ (st169 _ (st182 _ (st183 _ (st184 _ (st185 _ (st186 _ (st187 _ ?_)))))))))))))))))))))))))))))))))))))))))))))), hrun, hended, _, _, rfl, ?_, hRW.1, hRW.2.1, hRW.2.2.1, hRW.2.2.2.mono (by decide) (by decide)⟩
          · refine XS.aload X165.here hx rfl (hb hby at_268) rfl rfl ?_
            show Steps p.tables e below (T165.setTop (mkF m 270 #[.val (.long q0), .second, .val (.long q1), .second, .val (.long q2), .second, .val (.int p3), .val (.int p4), .val (.int p5), .val (.int bb), .val (.int ae), .val (.int u), .val (.int (2 : Int32)), .val (.ref c0), .val (.ref c1), .val (.ref c2), .val (.ref at_), .val (.ref cs), .val (.ref (own_e (2 : Int32) bb u ae c0 c1 c2 at_)), .val (.ref (own_pick u c0 c1 c2))] [(.ref (own_e (2 : Int32) bb u ae c0 c1 c2 at_))])) _
            refine XS.aload X165.here hx rfl (hb hby at_270) rfl rfl ?_
            refine Jvm.RoadKit.acmp (g := (mkF m 272 #[.val (.long q0), .second, .val (.long q1), .second, .val (.long q2), .second, .val (.int p3), .val (.int p4), .val (.int p5), .val (.int bb), .val (.int ae), .val (.int u), .val (.int (2 : Int32)), .val (.ref c0), .val (.ref c1), .val (.ref c2), .val (.ref at_), .val (.ref cs), .val (.ref (own_e (2 : Int32) bb u ae c0 c1 c2 at_)), .val (.ref (own_pick u c0 c1 c2))] [(.ref (own_pick u c0 c1 c2)), (.ref (own_e (2 : Int32) bb u ae c0 c1 c2 at_))])) X165 hx rfl rfl rfl (pc0 := 272) (pc' := 275) (same := true) rfl (hb hby at_272) rfl (decide_eq_true (congrArg Value.ref (by rw [own_e, if_pos x1, if_neg y1, if_pos y2]))) (by decide) (by decide) ?_
            refine XS.iconst X165.here hx rfl (hb hby at_275) ?_
            refine XS.goto X165.here hx rfl (pc0 := 276) (pc' := 280) rfl (hb hby at_276) (by decide) (by decide) ?_
            show Steps p.tables e below (T165.setTop (mkF m 280 #[.val (.long q0), .second, .val (.long q1), .second, .val (.long q2), .second, .val (.int p3), .val (.int p4), .val (.int p5), .val (.int bb), .val (.int ae), .val (.int u), .val (.int (2 : Int32)), .val (.ref c0), .val (.ref c1), .val (.ref c2), .val (.ref at_), .val (.ref cs), .val (.ref (own_e (2 : Int32) bb u ae c0 c1 c2 at_)), .val (.ref (own_pick u c0 c1 c2))] [(.int (1 : Int32))])) _
            exact retN X165 hx (t := .boolean) Bd.returns (by simp) (hb hby at_280) hr
          · show Q_rm0 Z q0 q1 q2 p3 p4 p5 h0 n0 _ T165.heap _
            rw [e165]
            exact ⟨rfl, N165⟩
        · have st188 : ∀ target, Steps p.tables e below (T165.setTop (mkF m 243 #[.val (.long q0), .second, .val (.long q1), .second, .val (.long q2), .second, .val (.int p3), .val (.int p4), .val (.int p5), .val (.int bb), .val (.int ae), .val (.int u), .val (.int (2 : Int32)), .val (.ref c0), .val (.ref c1), .val (.ref c2), .val (.ref at_), .val (.ref cs), .val (.ref (own_e (2 : Int32) bb u ae c0 c1 c2 at_)), .unset] [])) target → Steps p.tables e below (T165.setTop (mkF m 230 #[.val (.long q0), .second, .val (.long q1), .second, .val (.long q2), .second, .val (.int p3), .val (.int p4), .val (.int p5), .val (.int bb), .val (.int ae), .val (.int u), .val (.int (2 : Int32)), .val (.ref c0), .val (.ref c1), .val (.ref c2), .val (.ref at_), .val (.ref cs), .val (.ref (own_e (2 : Int32) bb u ae c0 c1 c2 at_)), .unset] [(.int bb), (.int u)])) target := by
            intro target kt
            refine XS.icmpYes X165.here hx rfl (pc0 := 230) (pc' := 243) rfl (hb hby at_230) rfl (flt y2).2.1 (by decide) (by decide) ?_
            exact kt
          have st189 : ∀ target, Steps p.tables e below (T165.setTop (mkF m 245 #[.val (.long q0), .second, .val (.long q1), .second, .val (.long q2), .second, .val (.int p3), .val (.int p4), .val (.int p5), .val (.int bb), .val (.int ae), .val (.int u), .val (.int (2 : Int32)), .val (.ref c0), .val (.ref c1), .val (.ref c2), .val (.ref at_), .val (.ref cs), .val (.ref (own_e (2 : Int32) bb u ae c0 c1 c2 at_)), .unset] [(.int ae)])) target → Steps p.tables e below (T165.setTop (mkF m 243 #[.val (.long q0), .second, .val (.long q1), .second, .val (.long q2), .second, .val (.int p3), .val (.int p4), .val (.int p5), .val (.int bb), .val (.int ae), .val (.int u), .val (.int (2 : Int32)), .val (.ref c0), .val (.ref c1), .val (.ref c2), .val (.ref at_), .val (.ref cs), .val (.ref (own_e (2 : Int32) bb u ae c0 c1 c2 at_)), .unset] [])) target := by
            intro target kt
            refine XS.iload X165.here hx rfl (hb hby at_243) rfl ?_
            exact kt
          by_cases z1 : ae = (0 : Int32)
          · have st190 : ∀ target, Steps p.tables e below (T165.setTop (mkF m 248 #[.val (.long q0), .second, .val (.long q1), .second, .val (.long q2), .second, .val (.int p3), .val (.int p4), .val (.int p5), .val (.int bb), .val (.int ae), .val (.int u), .val (.int (2 : Int32)), .val (.ref c0), .val (.ref c1), .val (.ref c2), .val (.ref at_), .val (.ref cs), .val (.ref (own_e (2 : Int32) bb u ae c0 c1 c2 at_)), .unset] [])) target → Steps p.tables e below (T165.setTop (mkF m 245 #[.val (.long q0), .second, .val (.long q1), .second, .val (.long q2), .second, .val (.int p3), .val (.int p4), .val (.int p5), .val (.int bb), .val (.int ae), .val (.int u), .val (.int (2 : Int32)), .val (.ref c0), .val (.ref c1), .val (.ref c2), .val (.ref at_), .val (.ref cs), .val (.ref (own_e (2 : Int32) bb u ae c0 c1 c2 at_)), .unset] [(.int ae)])) target := by
              intro target kt
              refine XS.ifNo X165.here hx rfl (hb hby at_245) rfl ((if0 _ _).trans (teq z1).2) ?_
              exact kt
            have st191 : ∀ target, Steps p.tables e below (T165.setTop (mkF m 251 #[.val (.long q0), .second, .val (.long q1), .second, .val (.long q2), .second, .val (.int p3), .val (.int p4), .val (.int p5), .val (.int bb), .val (.int ae), .val (.int u), .val (.int (2 : Int32)), .val (.ref c0), .val (.ref c1), .val (.ref c2), .val (.ref at_), .val (.ref cs), .val (.ref (own_e (2 : Int32) bb u ae c0 c1 c2 at_)), .unset] [(.int (3 : Int32)), (.int bb)])) target → Steps p.tables e below (T165.setTop (mkF m 248 #[.val (.long q0), .second, .val (.long q1), .second, .val (.long q2), .second, .val (.int p3), .val (.int p4), .val (.int p5), .val (.int bb), .val (.int ae), .val (.int u), .val (.int (2 : Int32)), .val (.ref c0), .val (.ref c1), .val (.ref c2), .val (.ref at_), .val (.ref cs), .val (.ref (own_e (2 : Int32) bb u ae c0 c1 c2 at_)), .unset] [])) target := by
              intro target kt
              refine XS.iload X165.here hx rfl (hb hby at_248) rfl ?_
              show Steps p.tables e below (T165.setTop (mkF m 250 #[.val (.long q0), .second, .val (.long q1), .second, .val (.long q2), .second, .val (.int p3), .val (.int p4), .val (.int p5), .val (.int bb), .val (.int ae), .val (.int u), .val (.int (2 : Int32)), .val (.ref c0), .val (.ref c1), .val (.ref c2), .val (.ref at_), .val (.ref cs), .val (.ref (own_e (2 : Int32) bb u ae c0 c1 c2 at_)), .unset] [(.int bb)])) _
              refine XS.iconst X165.here hx rfl (hb hby at_250) ?_
              exact kt
            by_cases z2 : bb = (3 : Int32)
            · have st192 : ∀ target, Steps p.tables e below (T165.setTop (mkF m 254 #[.val (.long q0), .second, .val (.long q1), .second, .val (.long q2), .second, .val (.int p3), .val (.int p4), .val (.int p5), .val (.int bb), .val (.int ae), .val (.int u), .val (.int (2 : Int32)), .val (.ref c0), .val (.ref c1), .val (.ref c2), .val (.ref at_), .val (.ref cs), .val (.ref (own_e (2 : Int32) bb u ae c0 c1 c2 at_)), .unset] [])) target → Steps p.tables e below (T165.setTop (mkF m 251 #[.val (.long q0), .second, .val (.long q1), .second, .val (.long q2), .second, .val (.int p3), .val (.int p4), .val (.int p5), .val (.int bb), .val (.int ae), .val (.int u), .val (.int (2 : Int32)), .val (.ref c0), .val (.ref c1), .val (.ref c2), .val (.ref at_), .val (.ref cs), .val (.ref (own_e (2 : Int32) bb u ae c0 c1 c2 at_)), .unset] [(.int (3 : Int32)), (.int bb)])) target := by
                intro target kt
                refine XS.icmpNo X165.here hx rfl (hb hby at_251) rfl (teq z2).2 ?_
                exact kt
              have st193 : ∀ target, Steps p.tables e below (T165.setTop (mkF m 268 #[.val (.long q0), .second, .val (.long q1), .second, .val (.long q2), .second, .val (.int p3), .val (.int p4), .val (.int p5), .val (.int bb), .val (.int ae), .val (.int u), .val (.int (2 : Int32)), .val (.ref c0), .val (.ref c1), .val (.ref c2), .val (.ref at_), .val (.ref cs), .val (.ref (own_e (2 : Int32) bb u ae c0 c1 c2 at_)), .val (.ref at_)] [])) target → Steps p.tables e below (T165.setTop (mkF m 254 #[.val (.long q0), .second, .val (.long q1), .second, .val (.long q2), .second, .val (.int p3), .val (.int p4), .val (.int p5), .val (.int bb), .val (.int ae), .val (.int u), .val (.int (2 : Int32)), .val (.ref c0), .val (.ref c1), .val (.ref c2), .val (.ref at_), .val (.ref cs), .val (.ref (own_e (2 : Int32) bb u ae c0 c1 c2 at_)), .unset] [])) target := by
                intro target kt
                refine XS.aload X165.here hx rfl (hb hby at_254) rfl rfl ?_
                refine XS.astore X165.here hx rfl (hb hby at_256) rfl rfl (l' := #[.val (.long q0), .second, .val (.long q1), .second, .val (.long q2), .second, .val (.int p3), .val (.int p4), .val (.int p5), .val (.int bb), .val (.int ae), .val (.int u), .val (.int (2 : Int32)), .val (.ref c0), .val (.ref c1), .val (.ref c2), .val (.ref at_), .val (.ref cs), .val (.ref (own_e (2 : Int32) bb u ae c0 c1 c2 at_)), .val (.ref at_)]) rfl ?_
                refine XS.goto X165.here hx rfl (pc0 := 258) (pc' := 268) rfl (hb hby at_258) (by decide) (by decide) ?_
                exact kt
              obtain ⟨fs, hr, hrun, hended, hRW⟩ := Jvm.Stand.leaveW (s := s) X165 hS (by rw [e165]; exact kz_70) (v := some (.int (1 : Int32))) (fun h => by rw [Bd.returns] at h; cases h)
              refine ⟨_, _, pre0 _ (st1 _ (st2 _ (st3 _ (st4 _ (st5 _ (st6 _ (st7.trans (st8 _ (st9 _ (st10 _ (st11.trans (st12 _ (st13 _ (st14 _ (st15.trans (st16 _ (st17 _ (st18 _ (st19 _ (st20.trans (st21 _ (st22 _ (st23 _ (st24 _ (st25 _ (st26 _ (st27 _ (st28 _ (st29 _ (st30 _ (st47 _ (st64 _ (st70 _ (st163 _ (st164 _ (st165.trans (st166 _ (st167 _ (st168 _ (st169 _ (st182 _ (st183 _ (st188 _ (st189 _ (st190 _ (st191 _ (st192 _ (st193 _ ?_)))))))))))))))))))))))))))))))))))))))))))))))), hrun, hended, _, _, rfl, ?_, hRW.1, hRW.2.1, hRW.2.2.1, hRW.2.2.2.mono (by decide) (by decide)⟩
              · refine XS.aload X165.here hx rfl (hb hby at_268) rfl rfl ?_
                refine XS.aload X165.here hx rfl (hb hby at_270) rfl rfl ?_
                refine Jvm.RoadKit.acmp (g := (mkF m 272 #[.val (.long q0), .second, .val (.long q1), .second, .val (.long q2), .second, .val (.int p3), .val (.int p4), .val (.int p5), .val (.int bb), .val (.int ae), .val (.int u), .val (.int (2 : Int32)), .val (.ref c0), .val (.ref c1), .val (.ref c2), .val (.ref at_), .val (.ref cs), .val (.ref (own_e (2 : Int32) bb u ae c0 c1 c2 at_)), .val (.ref at_)] [(.ref at_), (.ref (own_e (2 : Int32) bb u ae c0 c1 c2 at_))])) X165 hx rfl rfl rfl (pc0 := 272) (pc' := 275) (same := true) rfl (hb hby at_272) rfl (decide_eq_true (congrArg Value.ref (by rw [own_e, if_pos x1, if_neg y1, if_neg y2, if_pos z1, if_pos z2]))) (by decide) (by decide) ?_
                show Steps p.tables e below (T165.setTop (mkF m 275 #[.val (.long q0), .second, .val (.long q1), .second, .val (.long q2), .second, .val (.int p3), .val (.int p4), .val (.int p5), .val (.int bb), .val (.int ae), .val (.int u), .val (.int (2 : Int32)), .val (.ref c0), .val (.ref c1), .val (.ref c2), .val (.ref at_), .val (.ref cs), .val (.ref (own_e (2 : Int32) bb u ae c0 c1 c2 at_)), .val (.ref at_)] [])) _
                refine XS.iconst X165.here hx rfl (hb hby at_275) ?_
                refine XS.goto X165.here hx rfl (pc0 := 276) (pc' := 280) rfl (hb hby at_276) (by decide) (by decide) ?_
                show Steps p.tables e below (T165.setTop (mkF m 280 #[.val (.long q0), .second, .val (.long q1), .second, .val (.long q2), .second, .val (.int p3), .val (.int p4), .val (.int p5), .val (.int bb), .val (.int ae), .val (.int u), .val (.int (2 : Int32)), .val (.ref c0), .val (.ref c1), .val (.ref c2), .val (.ref at_), .val (.ref cs), .val (.ref (own_e (2 : Int32) bb u ae c0 c1 c2 at_)), .val (.ref at_)] [(.int (1 : Int32))])) _
                exact retN X165 hx (t := .boolean) Bd.returns (by simp) (hb hby at_280) hr
              · show Q_rm0 Z q0 q1 q2 p3 p4 p5 h0 n0 _ T165.heap _
                rw [e165]
                exact ⟨rfl, N165⟩
            · have st194 : ∀ target, Steps p.tables e below (T165.setTop (mkF m 261 #[.val (.long q0), .second, .val (.long q1), .second, .val (.long q2), .second, .val (.int p3), .val (.int p4), .val (.int p5), .val (.int bb), .val (.int ae), .val (.int u), .val (.int (2 : Int32)), .val (.ref c0), .val (.ref c1), .val (.ref c2), .val (.ref at_), .val (.ref cs), .val (.ref (own_e (2 : Int32) bb u ae c0 c1 c2 at_)), .unset] [])) target → Steps p.tables e below (T165.setTop (mkF m 251 #[.val (.long q0), .second, .val (.long q1), .second, .val (.long q2), .second, .val (.int p3), .val (.int p4), .val (.int p5), .val (.int bb), .val (.int ae), .val (.int u), .val (.int (2 : Int32)), .val (.ref c0), .val (.ref c1), .val (.ref c2), .val (.ref at_), .val (.ref cs), .val (.ref (own_e (2 : Int32) bb u ae c0 c1 c2 at_)), .unset] [(.int (3 : Int32)), (.int bb)])) target := by
                intro target kt
                refine XS.icmpYes X165.here hx rfl (pc0 := 251) (pc' := 261) rfl (hb hby at_251) rfl (feq z2).2 (by decide) (by decide) ?_
                exact kt
              have st195 : ∀ target, Steps p.tables e below (T165.setTop (mkF m 265 #[.val (.long q0), .second, .val (.long q1), .second, .val (.long q2), .second, .val (.int p3), .val (.int p4), .val (.int p5), .val (.int bb), .val (.int ae), .val (.int u), .val (.int (2 : Int32)), .val (.ref c0), .val (.ref c1), .val (.ref c2), .val (.ref at_), .val (.ref cs), .val (.ref (own_e (2 : Int32) bb u ae c0 c1 c2 at_)), .unset] [(.int bb), (.ref cs)])) target → Steps p.tables e below (T165.setTop (mkF m 261 #[.val (.long q0), .second, .val (.long q1), .second, .val (.long q2), .second, .val (.int p3), .val (.int p4), .val (.int p5), .val (.int bb), .val (.int ae), .val (.int u), .val (.int (2 : Int32)), .val (.ref c0), .val (.ref c1), .val (.ref c2), .val (.ref at_), .val (.ref cs), .val (.ref (own_e (2 : Int32) bb u ae c0 c1 c2 at_)), .unset] [])) target := by
                intro target kt
                refine XS.aload X165.here hx rfl (hb hby at_261) rfl rfl ?_
                refine XS.iload X165.here hx rfl (hb hby at_263) rfl ?_
                exact kt
              obtain ⟨cl196, Ar196, qc196, Sz196, Mn196, Hs196, Gs196⟩ := id V_cs_70
              have hin196 : ¬ (bb < 0 ∨ cl196.slots.size ≤ (bb).toNatClampNeg) := own_in3 Sz196 (own_b3 hb4 z2)
              have hat196 : cl196.slots[(bb).toNatClampNeg]? = some (.ref (own_pick bb c0 c1 c2)) := Hs196.at hin196 (own_at3 (own_b3 hb4 z2))
              have st196 : ∀ target, Steps p.tables e below (T165.setTop (mkF m 266 #[.val (.long q0), .second, .val (.long q1), .second, .val (.long q2), .second, .val (.int p3), .val (.int p4), .val (.int p5), .val (.int bb), .val (.int ae), .val (.int u), .val (.int (2 : Int32)), .val (.ref c0), .val (.ref c1), .val (.ref c2), .val (.ref at_), .val (.ref cs), .val (.ref (own_e (2 : Int32) bb u ae c0 c1 c2 at_)), .unset] [(.ref (own_pick bb c0 c1 c2))])) target → Steps p.tables e below (T165.setTop (mkF m 265 #[.val (.long q0), .second, .val (.long q1), .second, .val (.long q2), .second, .val (.int p3), .val (.int p4), .val (.int p5), .val (.int bb), .val (.int ae), .val (.int u), .val (.int (2 : Int32)), .val (.ref c0), .val (.ref c1), .val (.ref c2), .val (.ref at_), .val (.ref cs), .val (.ref (own_e (2 : Int32) bb u ae c0 c1 c2 at_)), .unset] [(.int bb), (.ref cs)])) target := fun target kt => X165.aaload hx (j := bb) (v := (.ref (own_pick bb c0 c1 c2))) (by rw [e165]; exact Ar196.1) (State.isArrayOf_alike hZ.alike Ar196.2.1) rfl Ar196.2.2 hin196 hat196 (g := (mkF m 265 #[.val (.long q0), .second, .val (.long q1), .second, .val (.long q2), .second, .val (.int p3), .val (.int p4), .val (.int p5), .val (.int bb), .val (.int ae), .val (.int u), .val (.int (2 : Int32)), .val (.ref c0), .val (.ref c1), .val (.ref c2), .val (.ref at_), .val (.ref cs), .val (.ref (own_e (2 : Int32) bb u ae c0 c1 c2 at_)), .unset] [(.int bb), (.ref cs)])) rfl rfl (hb hby at_265) _ kt
              have st197 : ∀ target, Steps p.tables e below (T165.setTop (mkF m 268 #[.val (.long q0), .second, .val (.long q1), .second, .val (.long q2), .second, .val (.int p3), .val (.int p4), .val (.int p5), .val (.int bb), .val (.int ae), .val (.int u), .val (.int (2 : Int32)), .val (.ref c0), .val (.ref c1), .val (.ref c2), .val (.ref at_), .val (.ref cs), .val (.ref (own_e (2 : Int32) bb u ae c0 c1 c2 at_)), .val (.ref (own_pick bb c0 c1 c2))] [])) target → Steps p.tables e below (T165.setTop (mkF m 266 #[.val (.long q0), .second, .val (.long q1), .second, .val (.long q2), .second, .val (.int p3), .val (.int p4), .val (.int p5), .val (.int bb), .val (.int ae), .val (.int u), .val (.int (2 : Int32)), .val (.ref c0), .val (.ref c1), .val (.ref c2), .val (.ref at_), .val (.ref cs), .val (.ref (own_e (2 : Int32) bb u ae c0 c1 c2 at_)), .unset] [(.ref (own_pick bb c0 c1 c2))])) target := by
                intro target kt
                refine XS.astore X165.here hx rfl (hb hby at_266) rfl rfl (l' := #[.val (.long q0), .second, .val (.long q1), .second, .val (.long q2), .second, .val (.int p3), .val (.int p4), .val (.int p5), .val (.int bb), .val (.int ae), .val (.int u), .val (.int (2 : Int32)), .val (.ref c0), .val (.ref c1), .val (.ref c2), .val (.ref at_), .val (.ref cs), .val (.ref (own_e (2 : Int32) bb u ae c0 c1 c2 at_)), .val (.ref (own_pick bb c0 c1 c2))]) rfl ?_
                exact kt
              obtain ⟨fs, hr, hrun, hended, hRW⟩ := Jvm.Stand.leaveW (s := s) X165 hS (by rw [e165]; exact kz_70) (v := some (.int (1 : Int32))) (fun h => by rw [Bd.returns] at h; cases h)
              refine ⟨_, _, pre0 _ (st1 _ (st2 _ (st3 _ (st4 _ (st5 _ (st6 _ (st7.trans (st8 _ (st9 _ (st10 _ (st11.trans (st12 _ (st13 _ (st14 _ (st15.trans (st16 _ (st17 _ (st18 _ (st19 _ (st20.trans (st21 _ (st22 _ (st23 _ (st24 _ (st25 _ (st26 _ (st27 _ (st28 _ (st29 _ (st30 _ (st47 _ (st64 _ (st70 _ (st163 _ (st164 _ (st165.trans (st166 _ (st167 _ (st168 _ (st169 _ (st182 _ (st183 _ (st188 _ (st189 _ (st190 _ (st191 _ (st194 _ (st195 _ (st196 _ (st197 _ ?_)))))))))))))))))))))))))))))))))))))))))))))))))), hrun, hended, _, _, rfl, ?_, hRW.1, hRW.2.1, hRW.2.2.1, hRW.2.2.2.mono (by decide) (by decide)⟩
              · refine XS.aload X165.here hx rfl (hb hby at_268) rfl rfl ?_
                refine XS.aload X165.here hx rfl (hb hby at_270) rfl rfl ?_
                show Steps p.tables e below (T165.setTop (mkF m 272 #[.val (.long q0), .second, .val (.long q1), .second, .val (.long q2), .second, .val (.int p3), .val (.int p4), .val (.int p5), .val (.int bb), .val (.int ae), .val (.int u), .val (.int (2 : Int32)), .val (.ref c0), .val (.ref c1), .val (.ref c2), .val (.ref at_), .val (.ref cs), .val (.ref (own_e (2 : Int32) bb u ae c0 c1 c2 at_)), .val (.ref (own_pick bb c0 c1 c2))] [(.ref (own_pick bb c0 c1 c2)), (.ref (own_e (2 : Int32) bb u ae c0 c1 c2 at_))])) _
                refine Jvm.RoadKit.acmp (g := (mkF m 272 #[.val (.long q0), .second, .val (.long q1), .second, .val (.long q2), .second, .val (.int p3), .val (.int p4), .val (.int p5), .val (.int bb), .val (.int ae), .val (.int u), .val (.int (2 : Int32)), .val (.ref c0), .val (.ref c1), .val (.ref c2), .val (.ref at_), .val (.ref cs), .val (.ref (own_e (2 : Int32) bb u ae c0 c1 c2 at_)), .val (.ref (own_pick bb c0 c1 c2))] [(.ref (own_pick bb c0 c1 c2)), (.ref (own_e (2 : Int32) bb u ae c0 c1 c2 at_))])) X165 hx rfl rfl rfl (pc0 := 272) (pc' := 275) (same := true) rfl (hb hby at_272) rfl (decide_eq_true (congrArg Value.ref (by rw [own_e, if_pos x1, if_neg y1, if_neg y2, if_pos z1, if_neg z2]))) (by decide) (by decide) ?_
                refine XS.iconst X165.here hx rfl (hb hby at_275) ?_
                refine XS.goto X165.here hx rfl (pc0 := 276) (pc' := 280) rfl (hb hby at_276) (by decide) (by decide) ?_
                show Steps p.tables e below (T165.setTop (mkF m 280 #[.val (.long q0), .second, .val (.long q1), .second, .val (.long q2), .second, .val (.int p3), .val (.int p4), .val (.int p5), .val (.int bb), .val (.int ae), .val (.int u), .val (.int (2 : Int32)), .val (.ref c0), .val (.ref c1), .val (.ref c2), .val (.ref at_), .val (.ref cs), .val (.ref (own_e (2 : Int32) bb u ae c0 c1 c2 at_)), .val (.ref (own_pick bb c0 c1 c2))] [(.int (1 : Int32))])) _
                exact retN X165 hx (t := .boolean) Bd.returns (by simp) (hb hby at_280) hr
              · show Q_rm0 Z q0 q1 q2 p3 p4 p5 h0 n0 _ T165.heap _
                rw [e165]
                exact ⟨rfl, N165⟩
          · have st198 : ∀ target, Steps p.tables e below (T165.setTop (mkF m 254 #[.val (.long q0), .second, .val (.long q1), .second, .val (.long q2), .second, .val (.int p3), .val (.int p4), .val (.int p5), .val (.int bb), .val (.int ae), .val (.int u), .val (.int (2 : Int32)), .val (.ref c0), .val (.ref c1), .val (.ref c2), .val (.ref at_), .val (.ref cs), .val (.ref (own_e (2 : Int32) bb u ae c0 c1 c2 at_)), .unset] [])) target → Steps p.tables e below (T165.setTop (mkF m 245 #[.val (.long q0), .second, .val (.long q1), .second, .val (.long q2), .second, .val (.int p3), .val (.int p4), .val (.int p5), .val (.int bb), .val (.int ae), .val (.int u), .val (.int (2 : Int32)), .val (.ref c0), .val (.ref c1), .val (.ref c2), .val (.ref at_), .val (.ref cs), .val (.ref (own_e (2 : Int32) bb u ae c0 c1 c2 at_)), .unset] [(.int ae)])) target := by
              intro target kt
              refine XS.ifYes X165.here hx rfl (pc0 := 245) (pc' := 254) rfl (hb hby at_245) rfl ((if0 _ _).trans (feq z1).2) (by decide) (by decide) ?_
              exact kt
            have st199 : ∀ target, Steps p.tables e below (T165.setTop (mkF m 268 #[.val (.long q0), .second, .val (.long q1), .second, .val (.long q2), .second, .val (.int p3), .val (.int p4), .val (.int p5), .val (.int bb), .val (.int ae), .val (.int u), .val (.int (2 : Int32)), .val (.ref c0), .val (.ref c1), .val (.ref c2), .val (.ref at_), .val (.ref cs), .val (.ref (own_e (2 : Int32) bb u ae c0 c1 c2 at_)), .val (.ref at_)] [])) target → Steps p.tables e below (T165.setTop (mkF m 254 #[.val (.long q0), .second, .val (.long q1), .second, .val (.long q2), .second, .val (.int p3), .val (.int p4), .val (.int p5), .val (.int bb), .val (.int ae), .val (.int u), .val (.int (2 : Int32)), .val (.ref c0), .val (.ref c1), .val (.ref c2), .val (.ref at_), .val (.ref cs), .val (.ref (own_e (2 : Int32) bb u ae c0 c1 c2 at_)), .unset] [])) target := by
              intro target kt
              refine XS.aload X165.here hx rfl (hb hby at_254) rfl rfl ?_
              refine XS.astore X165.here hx rfl (hb hby at_256) rfl rfl (l' := #[.val (.long q0), .second, .val (.long q1), .second, .val (.long q2), .second, .val (.int p3), .val (.int p4), .val (.int p5), .val (.int bb), .val (.int ae), .val (.int u), .val (.int (2 : Int32)), .val (.ref c0), .val (.ref c1), .val (.ref c2), .val (.ref at_), .val (.ref cs), .val (.ref (own_e (2 : Int32) bb u ae c0 c1 c2 at_)), .val (.ref at_)]) rfl ?_
              refine XS.goto X165.here hx rfl (pc0 := 258) (pc' := 268) rfl (hb hby at_258) (by decide) (by decide) ?_
              exact kt
            obtain ⟨fs, hr, hrun, hended, hRW⟩ := Jvm.Stand.leaveW (s := s) X165 hS (by rw [e165]; exact kz_70) (v := some (.int (1 : Int32))) (fun h => by rw [Bd.returns] at h; cases h)
            refine ⟨_, _, pre0 _ (st1 _ (st2 _ (st3 _ (st4 _ (st5 _ (st6 _ (st7.trans (st8 _ (st9 _ (st10 _ (st11.trans (st12 _ (st13 _ (st14 _ (st15.trans (st16 _ (st17 _ (st18 _ (st19 _ (st20.trans (st21 _ (st22 _ (st23 _ (st24 _ (st25 _ (st26 _ (st27 _ (st28 _ (st29 _ (st30 _ (st47 _ (st64 _ (st70 _ (st163 _ (st164 _ (st165.trans (st166 _ (st167 _ (st168 _ (st169 _ (st182 _ (st183 _ (st188 _ (st189 _ (st198 _ (st199 _ ?_)))))))))))))))))))))))))))))))))))))))))))))), hrun, hended, _, _, rfl, ?_, hRW.1, hRW.2.1, hRW.2.2.1, hRW.2.2.2.mono (by decide) (by decide)⟩
            · refine XS.aload X165.here hx rfl (hb hby at_268) rfl rfl ?_
              show Steps p.tables e below (T165.setTop (mkF m 270 #[.val (.long q0), .second, .val (.long q1), .second, .val (.long q2), .second, .val (.int p3), .val (.int p4), .val (.int p5), .val (.int bb), .val (.int ae), .val (.int u), .val (.int (2 : Int32)), .val (.ref c0), .val (.ref c1), .val (.ref c2), .val (.ref at_), .val (.ref cs), .val (.ref (own_e (2 : Int32) bb u ae c0 c1 c2 at_)), .val (.ref at_)] [(.ref (own_e (2 : Int32) bb u ae c0 c1 c2 at_))])) _
              refine XS.aload X165.here hx rfl (hb hby at_270) rfl rfl ?_
              refine Jvm.RoadKit.acmp (g := (mkF m 272 #[.val (.long q0), .second, .val (.long q1), .second, .val (.long q2), .second, .val (.int p3), .val (.int p4), .val (.int p5), .val (.int bb), .val (.int ae), .val (.int u), .val (.int (2 : Int32)), .val (.ref c0), .val (.ref c1), .val (.ref c2), .val (.ref at_), .val (.ref cs), .val (.ref (own_e (2 : Int32) bb u ae c0 c1 c2 at_)), .val (.ref at_)] [(.ref at_), (.ref (own_e (2 : Int32) bb u ae c0 c1 c2 at_))])) X165 hx rfl rfl rfl (pc0 := 272) (pc' := 275) (same := true) rfl (hb hby at_272) rfl (decide_eq_true (congrArg Value.ref (by rw [own_e, if_pos x1, if_neg y1, if_neg y2, if_neg z1]))) (by decide) (by decide) ?_
              refine XS.iconst X165.here hx rfl (hb hby at_275) ?_
              refine XS.goto X165.here hx rfl (pc0 := 276) (pc' := 280) rfl (hb hby at_276) (by decide) (by decide) ?_
              show Steps p.tables e below (T165.setTop (mkF m 280 #[.val (.long q0), .second, .val (.long q1), .second, .val (.long q2), .second, .val (.int p3), .val (.int p4), .val (.int p5), .val (.int bb), .val (.int ae), .val (.int u), .val (.int (2 : Int32)), .val (.ref c0), .val (.ref c1), .val (.ref c2), .val (.ref at_), .val (.ref cs), .val (.ref (own_e (2 : Int32) bb u ae c0 c1 c2 at_)), .val (.ref at_)] [(.int (1 : Int32))])) _
              exact retN X165 hx (t := .boolean) Bd.returns (by simp) (hb hby at_280) hr
            · show Q_rm0 Z q0 q1 q2 p3 p4 p5 h0 n0 _ T165.heap _
              rw [e165]
              exact ⟨rfl, N165⟩
    · have st200 : ∀ target, Steps p.tables e below (T165.setTop (mkF m 209 #[.val (.long q0), .second, .val (.long q1), .second, .val (.long q2), .second, .val (.int p3), .val (.int p4), .val (.int p5), .val (.int bb), .val (.int ae), .val (.int u), .val (.int (2 : Int32)), .val (.ref c0), .val (.ref c1), .val (.ref c2), .val (.ref at_), .val (.ref cs), .val (.ref (own_e (2 : Int32) bb u ae c0 c1 c2 at_)), .unset] [])) target → Steps p.tables e below (T165.setTop (mkF m 206 #[.val (.long q0), .second, .val (.long q1), .second, .val (.long q2), .second, .val (.int p3), .val (.int p4), .val (.int p5), .val (.int bb), .val (.int ae), .val (.int u), .val (.int (2 : Int32)), .val (.ref c0), .val (.ref c1), .val (.ref c2), .val (.ref at_), .val (.ref cs), .val (.ref (own_e (2 : Int32) bb u ae c0 c1 c2 at_)), .unset] [(.int bb), (.int (2 : Int32))])) target := by
        intro target kt
        refine XS.icmpNo X165.here hx rfl (hb hby at_206) rfl (flt x1).1 ?_
        exact kt
      have st201 : ∀ target, Steps p.tables e below (T165.setTop (mkF m 213 #[.val (.long q0), .second, .val (.long q1), .second, .val (.long q2), .second, .val (.int p3), .val (.int p4), .val (.int p5), .val (.int bb), .val (.int ae), .val (.int u), .val (.int (2 : Int32)), .val (.ref c0), .val (.ref c1), .val (.ref c2), .val (.ref at_), .val (.ref cs), .val (.ref (own_e (2 : Int32) bb u ae c0 c1 c2 at_)), .unset] [(.int (2 : Int32)), (.ref cs)])) target → Steps p.tables e below (T165.setTop (mkF m 209 #[.val (.long q0), .second, .val (.long q1), .second, .val (.long q2), .second, .val (.int p3), .val (.int p4), .val (.int p5), .val (.int bb), .val (.int ae), .val (.int u), .val (.int (2 : Int32)), .val (.ref c0), .val (.ref c1), .val (.ref c2), .val (.ref at_), .val (.ref cs), .val (.ref (own_e (2 : Int32) bb u ae c0 c1 c2 at_)), .unset] [])) target := by
        intro target kt
        refine XS.aload X165.here hx rfl (hb hby at_209) rfl rfl ?_
        refine XS.iload X165.here hx rfl (hb hby at_211) rfl ?_
        exact kt
      obtain ⟨cl202, Ar202, qc202, Sz202, Mn202, Hs202, Gs202⟩ := id V_cs_70
      have hin202 : ¬ ((2 : Int32) < 0 ∨ cl202.slots.size ≤ ((2 : Int32)).toNatClampNeg) := inb_of Sz202 ⟨by decide, by decide⟩
      have hat202 : cl202.slots[((2 : Int32)).toNatClampNeg]? = some (.ref c2) := Hs202.at hin202 rfl
      have st202 : ∀ target, Steps p.tables e below (T165.setTop (mkF m 214 #[.val (.long q0), .second, .val (.long q1), .second, .val (.long q2), .second, .val (.int p3), .val (.int p4), .val (.int p5), .val (.int bb), .val (.int ae), .val (.int u), .val (.int (2 : Int32)), .val (.ref c0), .val (.ref c1), .val (.ref c2), .val (.ref at_), .val (.ref cs), .val (.ref (own_e (2 : Int32) bb u ae c0 c1 c2 at_)), .unset] [(.ref c2)])) target → Steps p.tables e below (T165.setTop (mkF m 213 #[.val (.long q0), .second, .val (.long q1), .second, .val (.long q2), .second, .val (.int p3), .val (.int p4), .val (.int p5), .val (.int bb), .val (.int ae), .val (.int u), .val (.int (2 : Int32)), .val (.ref c0), .val (.ref c1), .val (.ref c2), .val (.ref at_), .val (.ref cs), .val (.ref (own_e (2 : Int32) bb u ae c0 c1 c2 at_)), .unset] [(.int (2 : Int32)), (.ref cs)])) target := fun target kt => X165.aaload hx (j := (2 : Int32)) (v := (.ref c2)) (by rw [e165]; exact Ar202.1) (State.isArrayOf_alike hZ.alike Ar202.2.1) rfl Ar202.2.2 hin202 hat202 (g := (mkF m 213 #[.val (.long q0), .second, .val (.long q1), .second, .val (.long q2), .second, .val (.int p3), .val (.int p4), .val (.int p5), .val (.int bb), .val (.int ae), .val (.int u), .val (.int (2 : Int32)), .val (.ref c0), .val (.ref c1), .val (.ref c2), .val (.ref at_), .val (.ref cs), .val (.ref (own_e (2 : Int32) bb u ae c0 c1 c2 at_)), .unset] [(.int (2 : Int32)), (.ref cs)])) rfl rfl (hb hby at_213) _ kt
      have st203 : ∀ target, Steps p.tables e below (T165.setTop (mkF m 268 #[.val (.long q0), .second, .val (.long q1), .second, .val (.long q2), .second, .val (.int p3), .val (.int p4), .val (.int p5), .val (.int bb), .val (.int ae), .val (.int u), .val (.int (2 : Int32)), .val (.ref c0), .val (.ref c1), .val (.ref c2), .val (.ref at_), .val (.ref cs), .val (.ref (own_e (2 : Int32) bb u ae c0 c1 c2 at_)), .val (.ref c2)] [])) target → Steps p.tables e below (T165.setTop (mkF m 214 #[.val (.long q0), .second, .val (.long q1), .second, .val (.long q2), .second, .val (.int p3), .val (.int p4), .val (.int p5), .val (.int bb), .val (.int ae), .val (.int u), .val (.int (2 : Int32)), .val (.ref c0), .val (.ref c1), .val (.ref c2), .val (.ref at_), .val (.ref cs), .val (.ref (own_e (2 : Int32) bb u ae c0 c1 c2 at_)), .unset] [(.ref c2)])) target := by
        intro target kt
        refine XS.astore X165.here hx rfl (hb hby at_214) rfl rfl (l' := #[.val (.long q0), .second, .val (.long q1), .second, .val (.long q2), .second, .val (.int p3), .val (.int p4), .val (.int p5), .val (.int bb), .val (.int ae), .val (.int u), .val (.int (2 : Int32)), .val (.ref c0), .val (.ref c1), .val (.ref c2), .val (.ref at_), .val (.ref cs), .val (.ref (own_e (2 : Int32) bb u ae c0 c1 c2 at_)), .val (.ref c2)]) rfl ?_
        show Steps p.tables e below (T165.setTop (mkF m 216 #[.val (.long q0), .second, .val (.long q1), .second, .val (.long q2), .second, .val (.int p3), .val (.int p4), .val (.int p5), .val (.int bb), .val (.int ae), .val (.int u), .val (.int (2 : Int32)), .val (.ref c0), .val (.ref c1), .val (.ref c2), .val (.ref at_), .val (.ref cs), .val (.ref (own_e (2 : Int32) bb u ae c0 c1 c2 at_)), .val (.ref c2)] [])) _
        refine XS.goto X165.here hx rfl (pc0 := 216) (pc' := 268) rfl (hb hby at_216) (by decide) (by decide) ?_
        exact kt
      obtain ⟨fs, hr, hrun, hended, hRW⟩ := Jvm.Stand.leaveW (s := s) X165 hS (by rw [e165]; exact kz_70) (v := some (.int (1 : Int32))) (fun h => by rw [Bd.returns] at h; cases h)
      refine ⟨_, _, pre0 _ (st1 _ (st2 _ (st3 _ (st4 _ (st5 _ (st6 _ (st7.trans (st8 _ (st9 _ (st10 _ (st11.trans (st12 _ (st13 _ (st14 _ (st15.trans (st16 _ (st17 _ (st18 _ (st19 _ (st20.trans (st21 _ (st22 _ (st23 _ (st24 _ (st25 _ (st26 _ (st27 _ (st28 _ (st29 _ (st30 _ (st47 _ (st64 _ (st70 _ (st163 _ (st164 _ (st165.trans (st166 _ (st167 _ (st200 _ (st201 _ (st202 _ (st203 _ ?_)))))))))))))))))))))))))))))))))))))))))), hrun, hended, _, _, rfl, ?_, hRW.1, hRW.2.1, hRW.2.2.1, hRW.2.2.2.mono (by decide) (by decide)⟩
      · refine XS.aload X165.here hx rfl (hb hby at_268) rfl rfl ?_
        refine XS.aload X165.here hx rfl (hb hby at_270) rfl rfl ?_
        refine Jvm.RoadKit.acmp (g := (mkF m 272 #[.val (.long q0), .second, .val (.long q1), .second, .val (.long q2), .second, .val (.int p3), .val (.int p4), .val (.int p5), .val (.int bb), .val (.int ae), .val (.int u), .val (.int (2 : Int32)), .val (.ref c0), .val (.ref c1), .val (.ref c2), .val (.ref at_), .val (.ref cs), .val (.ref (own_e (2 : Int32) bb u ae c0 c1 c2 at_)), .val (.ref c2)] [(.ref c2), (.ref (own_e (2 : Int32) bb u ae c0 c1 c2 at_))])) X165 hx rfl rfl rfl (pc0 := 272) (pc' := 275) (same := true) rfl (hb hby at_272) rfl (decide_eq_true (congrArg Value.ref (by rw [own_e, if_neg x1]; rfl))) (by decide) (by decide) ?_
        refine XS.iconst X165.here hx rfl (hb hby at_275) ?_
        refine XS.goto X165.here hx rfl (pc0 := 276) (pc' := 280) rfl (hb hby at_276) (by decide) (by decide) ?_
        show Steps p.tables e below (T165.setTop (mkF m 280 #[.val (.long q0), .second, .val (.long q1), .second, .val (.long q2), .second, .val (.int p3), .val (.int p4), .val (.int p5), .val (.int bb), .val (.int ae), .val (.int u), .val (.int (2 : Int32)), .val (.ref c0), .val (.ref c1), .val (.ref c2), .val (.ref at_), .val (.ref cs), .val (.ref (own_e (2 : Int32) bb u ae c0 c1 c2 at_)), .val (.ref c2)] [(.int (1 : Int32))])) _
        exact retN X165 hx (t := .boolean) Bd.returns (by simp) (hb hby at_280) hr
      · show Q_rm0 Z q0 q1 q2 p3 p4 p5 h0 n0 _ T165.heap _
        rw [e165]
        exact ⟨rfl, N165⟩
set_option maxRecDepth 65536 in
set_option maxHeartbeats 40000000 in
theorem comes_1 {Post : Tables → Env → Array Value → State → Outcome → State → Prop} (hpost : ∀ tb e args s v u, (limb_1_1.after args s (.returned v) u = true ∧ limb_1_2.after args s (.returned v) u = true ∧ True) → FramedW s (.returned v) u (Jvm.fieldLocs frame_1_writes args s ++ Jvm.arrayLocs frame_1_arrays args s ++ Jvm.staticLocs frame_1_statics s) 24 1152 → Post tb e args s (.returned v) u) :
    ArmFor flags0 classFile x code maxLocals ret World_1 tables_1 room_1 Calls_1 rest_1 Pre_1 Post := by
  intro l hfl _ _ p e ha hc hk s m args below hf hA hF happ hP
  obtain ⟨hcalls, hrest, hpre⟩ := hP
  obtain ⟨-, -, -, hnamed, -, -, -, hat⟩ := (Spec.applies_iff hf).mp happ
  obtain ⟨hg, hn⟩ := and_e (Cond.before_iff.mp (show (Jvm.Cond.and given_1 narrow_1).before args s = true from hpre))
  obtain ⟨gg1, gg2⟩ := and_e hg
  obtain ⟨gg3, gg4⟩ := and_e gg2
  obtain ⟨gg5, gg6⟩ := and_e gg4
  obtain ⟨gg7, gg8⟩ := and_e gg6
  obtain ⟨gg9, gg10⟩ := and_e gg8
  obtain ⟨gg11, gg12⟩ := and_e gg10
  obtain ⟨w0, w1, w2, w3, w4, w5, rfl⟩ : ∃ w0 w1 w2 w3 w4 w5 : Value, args = #[w0, w1, w2, w3, w4, w5] := by
    have hs : args.size = 6 := by simpa [Cond.value, given_1] using gg1
    obtain ⟨L⟩ := args
    match L, hs with
    | [w0, w1, w2, w3, w4, w5], _ => exact ⟨w0, w1, w2, w3, w4, w5, rfl⟩
  have hw := fun d (hd : d ∈ tables_1) => atoms_spec (ws := Jvm.Cond.code x code maxLocals ret :: tables_1) hat d (List.mem_cons_of_mem _ hd)
  have hfit : Fit s := fun {y c} hc i hi => by
    obtain ⟨ha, rfl⟩ := Array.getElem?_eq_some_iff.mp hc
    have q := List.all_eq_true.mp ((Array.all_eq_true_iff_forall_mem.mp hF) _ (Array.getElem_mem ha)) i (List.mem_range.mpr hi)
    simpa [Array.getElem?_eq_getElem hi] using q
  obtain ⟨i0, ei0⟩ := isL_v gg3
  obtain rfl : w0 = (.long i0) := Option.some.inj ei0
  obtain ⟨i1, ei1⟩ := isL_v gg5
  obtain rfl : w1 = (.long i1) := Option.some.inj ei1
  obtain ⟨i2, ei2⟩ := isL_v gg7
  obtain rfl : w2 = (.long i2) := Option.some.inj ei2
  obtain ⟨i3, ei3⟩ := is_v gg9
  obtain rfl : w3 = (.int i3) := Option.some.inj ei3
  obtain ⟨i4, ei4⟩ := is_v gg11
  obtain rfl : w4 = (.int i4) := Option.some.inj ei4
  obtain ⟨i5, ei5⟩ := is_v gg12
  obtain rfl : w5 = (.int i5) := Option.some.inj ei5
  obtain ⟨n, o, h1, h2, h3, _, L, rfl, ⟨rfl, N⟩, hq⟩ := rm0 l s _ hw tables_1 i0 i1 i2 i3 i4 i5 s.heap s.heap.size (Nat.le_refl _)  p e ha hc hk s m _ below hf ((Spec.applies_iff_loose hf).mp happ).1 ⟨rfl, State.Warmed39.refl s, rfl⟩ trivial
  refine ⟨n, _, h1, h2, h3, hpost _ _ _ _ _ _ ⟨Cond.after_iff.mpr rfl, Cond.after_iff.mpr (eq_i res_at (Term.int_eval (1)) rfl), trivial⟩ ⟨hq.1, hq.2.1, hq.2.2.1, (hq.2.2.2.sift fun y hy => Or.inr (N y hy)).mono (by decide) (by decide)⟩⟩
theorem main_1_1 : Claimed_1_1 := comes_1 fun _ _ _ _ _ _ h hF => ⟨h.1, hF⟩
theorem main_1_2 : Claimed_1_2 := comes_1 fun _ _ _ _ _ _ h hF => ⟨h.2.1, hF⟩
end Jvm.Pilot.@@N@@
namespace Jvm.Pilot.@@N@@
open Jvm Jvm.ClassFile Sem Op Lib Jvm.Free Jvm.Stand Jvm.Pilot.@@N@@.Jvm.D
/-! MADE BY PROGRAM (witnessworld.py) out of the Statement's table words and the real class files: 17 classes; the members and pool entries that the words name. The judged class is class 1, her method 1. -/
namespace start1
open Jvm.ClassFile
def u (s : String) : CpInfo := .utf8 (stringToUtf16 s)
/-- a pool by its gaps: so many unusable entries, then the entry; so many at the end -/
def gap : Nat → List CpInfo → List CpInfo
  | 0, r => r
  | n + 1, r => .unusable :: gap n r
def poolList (es : List (Nat × CpInfo)) (last : Nat) : List CpInfo := es.foldr (fun e r => gap e.1 (e.2 :: r)) (gap last [])
def pool (es : List (Nat × CpInfo)) (last : Nat) : Array CpInfo := ⟨poolList es last⟩
def fileOf (pool : Array CpInfo) (this : Nat) (attrs : Array Attribute := #[]) (ms : Array MethodInfo := #[]) (fl : Nat := 33) (sup : Nat := 0) (ifs : Array Nat := #[]) (fds : Array FieldInfo := #[]) : ClassFile where
  minorVersion := 0
  majorVersion := 65
  constantPool := pool
  accessFlags := fl
  thisClass := this
  superClass := sup
  interfaces := ifs
  fields := fds
  methods := ms
  attributes := attrs
def plain (name : String) (sup : Option ClassId) : Class where
  name := name
  kind := .ordinary
  loader := none
  accessFlags := 33
  super := sup
  interfaces := #[]
  cf := none
  fields := #[]
  methods := #[]
  instanceTypes := #[]
  staticTypes := #[]
  resolved := #[]
  callSites := []
  init := .initialized
  statics := none
  mirror := none

def pool0 : Array CpInfo := pool [(5, u "<init>"), (0, u "()V"), (1, .class_ 10), (1, u "java/lang/Object")] 113

def k0c0 : Code := { maxStack := 0, maxLocals := 1, code := object_method_1_code, exceptionTable := #[], attributes := #[] }
def k0m0 : Method := { name := "<init>", desc := "()V", sig := { parameters := [], returnType := none }, accessFlags := 1, code := some k0c0 }
/-- java/lang/Object -/
def k0 : Class := { plain "java/lang/Object" none with
  accessFlags := 33
  interfaces := #[]
  cf := some (fileOf pool0 8 #[] #[{ accessFlags := 1, nameIndex := 5, descriptorIndex := 6, attributes := #[] }] 33 0 #[] #[])
  fields := #[]
  methods := #[k0m0]
  instanceTypes := #[]
  staticTypes := #[]
  resolved := Array.replicate 124 none
  statics := none }

def pool1 : Array CpInfo := pool [(2, .class_ 4), (1, u "java/lang/Object"), (0, u "<init>"), (0, u "()V"), (0, .integer 2147483647), (0, .class_ 9), (0, u "com/example/nomlog/nomlog/lang/Cell"), (0, .methodref 8 11), (0, .nameAndType 5 12), (0, u "(J)V"), (0, .class_ 14), (0, u "com/example/nomlog/nomlog/lang/Atom"), (0, .string 16), (0, u "a"), (0, .methodref 13 18), (0, .nameAndType 5 19), (0, u "(Ljava/lang/String;)V"), (0, .methodref 8 21), (0, .nameAndType 22 23), (0, u "bind"), (0, u "(Lcom/example/nomlog/nomlog/lang/Term;)V"), (0, .methodref 8 25), (0, .nameAndType 26 6), (0, u "unbind"), (0, .methodref 8 28), (0, .nameAndType 29 30), (0, u "follow"), (0, u "()Lcom/example/nomlog/nomlog/lang/Term;"), (0, .class_ 32), (0, u "com/example/nomlog/nomlog/lang/CellFollowPinLaw"), (2, u "law"), (0, u "(JJJIII)Z")] 7

def k1m0 : Method := { name := "<init>", desc := "()V", sig := { parameters := [], returnType := none }, accessFlags := 1, code := none }
def k1c1 : Code := { maxStack := 4, maxLocals := 20, code := code, exceptionTable := #[], attributes := #[] }
def k1m1 : Method := { name := "law", desc := "(JJJIII)Z", sig := { parameters := [.long, .long, .long, .int, .int, .int], returnType := some .boolean }, accessFlags := 9, code := some k1c1 }
/-- com/example/nomlog/nomlog/lang/CellFollowPinLaw -/
def k1 : Class := { plain "com/example/nomlog/nomlog/lang/CellFollowPinLaw" (some 0) with
  accessFlags := 49
  interfaces := #[]
  cf := some (fileOf pool1 31 #[] #[{ accessFlags := 1, nameIndex := 5, descriptorIndex := 6, attributes := #[] }, { accessFlags := 9, nameIndex := 35, descriptorIndex := 36, attributes := #[] }] 49 2 #[] #[])
  fields := #[]
  methods := #[k1m0, k1m1]
  instanceTypes := #[]
  staticTypes := #[]
  resolved := Array.replicate 44 none
  statics := none }

def pool2 : Array CpInfo := pool [(1, .methodref 2 3), (0, .class_ 4), (0, .nameAndType 5 6), (0, u "java/lang/Object"), (0, u "<init>"), (0, u "()V"), (7, .class_ 15), (0, u "com/example/nomlog/nomlog/lang/Term")] 30

def k2c0 : Code := { maxStack := 1, maxLocals := 1, code := prog_78_method_1_code, exceptionTable := #[], attributes := #[] }
def k2m0 : Method := { name := "<init>", desc := "()V", sig := { parameters := [], returnType := none }, accessFlags := 0, code := some k2c0 }
/-- com/example/nomlog/nomlog/lang/Term -/
def k2 : Class := { plain "com/example/nomlog/nomlog/lang/Term" (some 0) with
  accessFlags := 1057
  interfaces := #[]
  cf := some (fileOf pool2 14 #[] #[{ accessFlags := 0, nameIndex := 5, descriptorIndex := 6, attributes := #[] }] 1057 2 #[] #[])
  fields := #[]
  methods := #[k2m0]
  instanceTypes := #[]
  staticTypes := #[]
  resolved := Array.replicate 46 none
  statics := none }

def pool3 : Array CpInfo := pool [(1, .methodref 2 3), (0, .class_ 4), (0, .nameAndType 5 6), (0, u "com/example/nomlog/nomlog/lang/Term"), (0, u "<init>"), (0, u "()V"), (0, .fieldref 8 9), (0, .class_ 10), (0, .nameAndType 11 12), (0, u "com/example/nomlog/nomlog/lang/Cell"), (0, u "serial"), (0, u "J"), (0, .fieldref 8 14), (0, .nameAndType 15 16), (0, u "value"), (0, u "Lcom/example/nomlog/nomlog/lang/Term;"), (8, u "follow"), (0, u "()Lcom/example/nomlog/nomlog/lang/Term;"), (5, u "(J)V"), (3, u "bind"), (0, u "(Lcom/example/nomlog/nomlog/lang/Term;)V"), (0, u "unbind")] 13

def k3c0 : Code := { maxStack := 3, maxLocals := 3, code := prog_49_method_1_code, exceptionTable := #[], attributes := #[] }
def k3m0 : Method := { name := "<init>", desc := "(J)V", sig := { parameters := [.long], returnType := none }, accessFlags := 1, code := some k3c0 }
def k3c1 : Code := { maxStack := 2, maxLocals := 2, code := prog_49_method_3_code, exceptionTable := #[], attributes := #[] }
def k3m1 : Method := { name := "bind", desc := "(Lcom/example/nomlog/nomlog/lang/Term;)V", sig := { parameters := [(.object "com/example/nomlog/nomlog/lang/Term")], returnType := none }, accessFlags := 17, code := some k3c1 }
def k3c2 : Code := { maxStack := 2, maxLocals := 1, code := prog_49_method_4_code, exceptionTable := #[], attributes := #[] }
def k3m2 : Method := { name := "unbind", desc := "()V", sig := { parameters := [], returnType := none }, accessFlags := 17, code := some k3c2 }
def k3c3 : Code := { maxStack := 1, maxLocals := 3, code := prog_49_method_8_code, exceptionTable := #[], attributes := #[] }
def k3m3 : Method := { name := "follow", desc := "()Lcom/example/nomlog/nomlog/lang/Term;", sig := { parameters := [], returnType := some (.object "com/example/nomlog/nomlog/lang/Term") }, accessFlags := 16, code := some k3c3 }
/-- com/example/nomlog/nomlog/lang/Cell -/
def k3 : Class := { plain "com/example/nomlog/nomlog/lang/Cell" (some 2) with
  accessFlags := 33
  interfaces := #[]
  cf := some (fileOf pool3 8 #[] #[{ accessFlags := 1, nameIndex := 5, descriptorIndex := 32, attributes := #[] }, { accessFlags := 17, nameIndex := 36, descriptorIndex := 37, attributes := #[] }, { accessFlags := 17, nameIndex := 38, descriptorIndex := 6, attributes := #[] }, { accessFlags := 16, nameIndex := 25, descriptorIndex := 26, attributes := #[] }] 33 2 #[] #[{ accessFlags := 18, nameIndex := 11, descriptorIndex := 12, attributes := #[] }, { accessFlags := 2, nameIndex := 15, descriptorIndex := 16, attributes := #[] }])
  fields := #[{ name := "serial", type := .long, accessFlags := 18, slot := 0, constantValue := 0 }, { name := "value", type := (.object "com/example/nomlog/nomlog/lang/Term"), accessFlags := 2, slot := 1, constantValue := 0 }]
  methods := #[k3m0, k3m1, k3m2, k3m3]
  instanceTypes := #[.long, (.object "com/example/nomlog/nomlog/lang/Term")]
  staticTypes := #[]
  resolved := Array.replicate 52 none
  statics := none }

def pool4 : Array CpInfo := pool [(1, .methodref 2 3), (0, .class_ 4), (0, .nameAndType 5 6), (0, u "com/example/nomlog/nomlog/lang/Term"), (0, u "<init>"), (0, u "()V"), (0, .fieldref 8 9), (0, .class_ 10), (0, .nameAndType 11 12), (0, u "com/example/nomlog/nomlog/lang/Atom"), (0, u "name"), (0, u "Ljava/lang/String;"), (14, u "(Ljava/lang/String;)V"), (2, u "EMPTY_LIST"), (0, u "Lcom/example/nomlog/nomlog/lang/Atom;")] 10

def k4c0 : Code := { maxStack := 2, maxLocals := 2, code := prog_48_method_1_code, exceptionTable := #[], attributes := #[] }
def k4m0 : Method := { name := "<init>", desc := "(Ljava/lang/String;)V", sig := { parameters := [(.object "java/lang/String")], returnType := none }, accessFlags := 1, code := some k4c0 }
/-- com/example/nomlog/nomlog/lang/Atom -/
def k4 : Class := { plain "com/example/nomlog/nomlog/lang/Atom" (some 2) with
  accessFlags := 49
  interfaces := #[]
  cf := some (fileOf pool4 8 #[] #[{ accessFlags := 1, nameIndex := 5, descriptorIndex := 27, attributes := #[] }] 49 2 #[] #[{ accessFlags := 25, nameIndex := 30, descriptorIndex := 31, attributes := #[] }, { accessFlags := 18, nameIndex := 11, descriptorIndex := 12, attributes := #[] }])
  fields := #[{ name := "EMPTY_LIST", type := (.object "com/example/nomlog/nomlog/lang/Atom"), accessFlags := 25, slot := 0, constantValue := 0 }, { name := "name", type := (.object "java/lang/String"), accessFlags := 18, slot := 0, constantValue := 0 }]
  methods := #[k4m0]
  instanceTypes := #[(.object "java/lang/String")]
  staticTypes := #[(.object "com/example/nomlog/nomlog/lang/Atom")]
  resolved := Array.replicate 42 none
  statics := none }

def pool5 : Array CpInfo := pool [(1, .class_ 2), (0, u "java/io/Serializable"), (0, .class_ 4), (0, u "java/lang/Object")] 2

/-- java/io/Serializable -/
def k5 : Class := { plain "java/io/Serializable" (some 0) with
  accessFlags := 1537
  interfaces := #[]
  cf := some (fileOf pool5 1 #[] #[] 1537 3 #[] #[])
  fields := #[]
  methods := #[]
  instanceTypes := #[]
  staticTypes := #[]
  resolved := Array.replicate 7 none
  statics := none }

def pool6 : Array CpInfo := pool [(1, .class_ 2), (0, u "java/lang/Comparable"), (0, .class_ 4), (0, u "java/lang/Object")] 7

/-- java/lang/Comparable -/
def k6 : Class := { plain "java/lang/Comparable" (some 0) with
  accessFlags := 1537
  interfaces := #[]
  cf := some (fileOf pool6 1 #[] #[] 1537 3 #[] #[])
  fields := #[]
  methods := #[]
  instanceTypes := #[]
  staticTypes := #[]
  resolved := Array.replicate 12 none
  statics := none }

def pool7 : Array CpInfo := pool [(2, .class_ 4), (1, u "java/lang/CharSequence"), (42, .class_ 48), (0, u "java/lang/CharSequence$1CodePointIterator"), (10, .class_ 60), (0, u "java/lang/CharSequence$1CharIterator"), (5, .class_ 67), (0, u "java/lang/Object")] 63

/-- java/lang/CharSequence -/
def k7 : Class := { plain "java/lang/CharSequence" (some 0) with
  accessFlags := 1537
  interfaces := #[]
  cf := some (fileOf pool7 2 #[.nestMembers #[47, 59]] #[] 1537 66 #[] #[])
  fields := #[]
  methods := #[]
  instanceTypes := #[]
  staticTypes := #[]
  resolved := Array.replicate 131 none
  statics := none }

def pool8 : Array CpInfo := pool [(1, .class_ 2), (0, u "java/lang/constant/Constable"), (0, .class_ 4), (0, u "java/lang/Object")] 6

/-- java/lang/constant/Constable -/
def k8 : Class := { plain "java/lang/constant/Constable" (some 0) with
  accessFlags := 1537
  interfaces := #[]
  cf := some (fileOf pool8 1 #[] #[] 1537 3 #[] #[])
  fields := #[]
  methods := #[]
  instanceTypes := #[]
  staticTypes := #[]
  resolved := Array.replicate 11 none
  statics := none }

def pool9 : Array CpInfo := pool [(1, .class_ 2), (0, u "java/lang/constant/ConstantDesc"), (0, .class_ 4), (0, u "java/lang/Object")] 32

/-- java/lang/constant/ConstantDesc -/
def k9 : Class := { plain "java/lang/constant/ConstantDesc" (some 0) with
  accessFlags := 1537
  interfaces := #[]
  cf := some (fileOf pool9 1 #[] #[] 1537 3 #[] #[])
  fields := #[]
  methods := #[]
  instanceTypes := #[]
  staticTypes := #[]
  resolved := Array.replicate 37 none
  statics := none }

def pool10 : Array CpInfo := pool [(2, .class_ 4), (1, u "java/lang/Object"), (0, u "<init>"), (0, u "()V"), (3, .class_ 12), (1, u "java/lang/String"), (0, u "value"), (0, u "[B"), (2, u "coder"), (0, u "B"), (2, u "hash"), (0, u "I"), (2, u "hashIsZero"), (0, u "Z"), (13, u "COMPACT_STRINGS"), (534, .class_ 576), (0, u "java/lang/CharSequence"), (22, u "CASE_INSENSITIVE_ORDER"), (0, u "Ljava/util/Comparator;"), (500, u "serialPersistentFields"), (0, u "[Ljava/io/ObjectStreamField;"), (0, .class_ 1104), (0, u "java/lang/String$CaseInsensitiveComparator"), (1, .class_ 1107), (0, u "java/io/Serializable"), (0, .class_ 1109), (0, u "java/lang/Comparable"), (0, .class_ 1111), (0, u "java/lang/constant/Constable"), (0, .class_ 1113), (0, u "java/lang/constant/ConstantDesc"), (2, u "serialVersionUID"), (0, u "J"), (3, u "REPL"), (0, u "C"), (2, u "LATIN1"), (1, u "UTF16")] 323

def k10m0 : Method := { name := "<init>", desc := "()V", sig := { parameters := [], returnType := none }, accessFlags := 1, code := none }
/-- java/lang/String -/
def k10 : Class := { plain "java/lang/String" (some 0) with
  accessFlags := 49
  interfaces := #[5, 6, 7, 8, 9]
  cf := some (fileOf pool10 10 #[.nestMembers #[1103]] #[{ accessFlags := 1, nameIndex := 5, descriptorIndex := 6, attributes := #[] }] 49 2 #[1106, 1108, 575, 1110, 1112] #[{ accessFlags := 18, nameIndex := 13, descriptorIndex := 14, attributes := #[] }, { accessFlags := 18, nameIndex := 17, descriptorIndex := 18, attributes := #[] }, { accessFlags := 2, nameIndex := 21, descriptorIndex := 22, attributes := #[] }, { accessFlags := 2, nameIndex := 25, descriptorIndex := 26, attributes := #[] }, { accessFlags := 26, nameIndex := 1116, descriptorIndex := 1117, attributes := #[] }, { accessFlags := 24, nameIndex := 40, descriptorIndex := 26, attributes := #[] }, { accessFlags := 26, nameIndex := 1101, descriptorIndex := 1102, attributes := #[] }, { accessFlags := 26, nameIndex := 1121, descriptorIndex := 1122, attributes := #[] }, { accessFlags := 25, nameIndex := 599, descriptorIndex := 600, attributes := #[] }, { accessFlags := 24, nameIndex := 1125, descriptorIndex := 18, attributes := #[] }, { accessFlags := 24, nameIndex := 1127, descriptorIndex := 18, attributes := #[] }])
  fields := #[{ name := "value", type := (.array .byte), accessFlags := 18, slot := 0, constantValue := 0 }, { name := "coder", type := .byte, accessFlags := 18, slot := 1, constantValue := 0 }, { name := "hash", type := .int, accessFlags := 2, slot := 2, constantValue := 0 }, { name := "hashIsZero", type := .boolean, accessFlags := 2, slot := 3, constantValue := 0 }, { name := "serialVersionUID", type := .long, accessFlags := 26, slot := 0, constantValue := 0 }, { name := "COMPACT_STRINGS", type := .boolean, accessFlags := 24, slot := 1, constantValue := 0 }, { name := "serialPersistentFields", type := (.array (.object "java/io/ObjectStreamField")), accessFlags := 26, slot := 2, constantValue := 0 }, { name := "REPL", type := .char, accessFlags := 26, slot := 3, constantValue := 0 }, { name := "CASE_INSENSITIVE_ORDER", type := (.object "java/util/Comparator"), accessFlags := 25, slot := 4, constantValue := 0 }, { name := "LATIN1", type := .byte, accessFlags := 24, slot := 5, constantValue := 0 }, { name := "UTF16", type := .byte, accessFlags := 24, slot := 6, constantValue := 0 }]
  methods := #[k10m0]
  instanceTypes := #[(.array .byte), .byte, .int, .boolean]
  staticTypes := #[.long, .boolean, (.array (.object "java/io/ObjectStreamField")), .char, (.object "java/util/Comparator"), .byte, .byte]
  resolved := Array.replicate 1451 none
  statics := none }

def pool11 : Array CpInfo := pool [(1, u "java/lang/Cloneable"), (0, .class_ 1), (0, u "java/lang/Object"), (0, .class_ 3)] 3

/-- java/lang/Cloneable -/
def k11 : Class := { plain "java/lang/Cloneable" (some 0) with
  accessFlags := 1537
  interfaces := #[]
  cf := some (fileOf pool11 2 #[] #[] 1537 4 #[] #[])
  fields := #[]
  methods := #[]
  instanceTypes := #[]
  staticTypes := #[]
  resolved := Array.replicate 8 none
  statics := none }

/-- the primitive byte -/
def k12 : Class := { plain "byte" none with kind := .primitive 'B', accessFlags := 0x411 }
/-- [B -/
def k13 : Class := { plain "[B" (some 0) with kind := .array 12 .byte, interfaces := #[11, 5], accessFlags := 1041 }

/-- the primitive int -/
def k14 : Class := { plain "int" none with kind := .primitive 'I', accessFlags := 0x411 }
/-- [I -/
def k15 : Class := { plain "[I" (some 0) with kind := .array 14 .int, interfaces := #[11, 5], accessFlags := 1041 }

/-- [Lcom/example/nomlog/nomlog/lang/Cell; -/
def k16 : Class := { plain "[Lcom/example/nomlog/nomlog/lang/Cell;" (some 0) with kind := .array 3 (.object "com/example/nomlog/nomlog/lang/Cell"), interfaces := #[11, 5], accessFlags := 1041 }

def heap : Heap := #[]
def classes : Array Class := #[k0, k1, k2, k3, k4, k5, k6, k7, k8, k9, k10, k11, k12, k13, k14, k15, k16]
def interned : List (Array UInt16 × Addr) := []
def slotsUsed : Nat := 0
def theMethod : MethodId := ⟨1, 1⟩
def args0 : Array Value := #[.long 5, .long 5, .long 5, .int 5, .int 5, .int 5]
def aboutOver (below : List Frame) : State where
  vm := { classes := classes, interned := interned.toArray }
  heap := heap
  slotsUsed := slotsUsed
  threads := #[{ frames := .invoking theMethod args0 :: below }]
def below0 : List Frame := [.native { method := ⟨0, 0⟩, args := #[] }]
def about1 : State := aboutOver below0
def p0 : Program := .bare "" "" ""
def e0 : Env := launch0.env 0 0 0
theorem w_frames : about1.frames = Frame.invoking theMethod args0 :: below0 := rfl
set_option maxRecDepth 65536 in
theorem w_args : argsFit about1.vm theMethod args0 = true := by decide +kernel
set_option maxRecDepth 65536 in
theorem w_heap : heapFits about1 = true := by decide +kernel
set_option maxRecDepth 65536 in
theorem w_runnable : about1.curStatus? = some .runnable := by decide +kernel
set_option maxRecDepth 65536 in
theorem w_alone : about1.alone = true := by decide +kernel
set_option maxRecDepth 65536 in
theorem w_named : about1.methodNamed? x = some theMethod := by decide +kernel
set_option maxRecDepth 65536 in
theorem w_hears : about1.hears theMethod below0 = true := by decide +kernel
set_option maxRecDepth 65536 in
theorem w_ripe : about1.ripe theMethod args0 below0 = true := by decide +kernel
theorem w_running : about1.status = .running := rfl
set_option maxRecDepth 65536 in
theorem w_room : about1.hasRoom e0.platform room_1 = true :=
  launch0.hasRoom_least _ room_1 (by decide +kernel) (by decide +kernel) (by decide +kernel) (by decide +kernel) (by decide +kernel) (by decide +kernel)
theorem allAtoms_all (ts : List Jvm.Cond) (a : Array Jvm.Value) (st : Jvm.State) : (allAtoms ts).before a st = ts.all (fun c => c.before a st) := by
  induction ts with
  | nil => rfl
  | cons c t ih =>
    show (Jvm.Cond.and c (allAtoms t)).before a st = _
    rw [Jvm.Cond.before_and, ih, List.all_cons]
def words1 : List Jvm.Cond := Jvm.Cond.code x code maxLocals ret :: tables_1
/-- a 'code' word, met by the world's own term for the bytes: nothing is compared byte by byte -/
theorem code_word {y : MethodName} {bytes : ByteArray} {mx : Nat} {rt : Option FieldType} {a : Array Value} {s : State} {m : MethodId} {meth : Method} {c : Code} (h1 : s.methodNamed? y = some m) (h2 : s.vm.method? m = some meth) (h3 : meth.code = some c) (h4 : c.code = bytes)
    (h5 : (c.maxLocals == mx && c.exceptionTable.isEmpty && decide (c.maxStack ≤ mostOperands) && decide (meth.sig.returnType = rt) && !meth.locks && decide (parseMethodDescriptor y.desc = some meth.sig)) = true) : (Jvm.Cond.code y bytes mx rt).before a s = true := by
  simp only [Bool.and_eq_true, beq_iff_eq, Bool.not_eq_true', decide_eq_true_eq] at h5
  obtain ⟨⟨⟨⟨⟨g1, g2⟩, g3⟩, g4⟩, g5⟩, g6⟩ := h5
  simp [Cond.before, Cond.holds, Cond.value, h1, h2, h3, h4, g1, g2, g3, g4, g5, g6]
def isCode : Jvm.Cond → Bool
  | .code _ _ _ _ => true
  | _ => false
theorem all_split {L : List Jvm.Cond} {P : Jvm.Cond → Bool} (h1 : L.all (fun c => isCode c || P c) = true) (h2 : ∀ c ∈ L.filter isCode, P c = true) : L.all P = true := by
  refine List.all_eq_true.mpr fun c hc => ?_
  have h := List.all_eq_true.mp h1 c hc
  rcases Bool.eq_false_or_eq_true (isCode c) with hi | hi
  · exact h2 c (List.mem_filter.mpr ⟨hc, hi⟩)
  · simpa [hi] using h
set_option maxRecDepth 65536 in
theorem w_c0 : (Jvm.Cond.code x code maxLocals ret).before args0 about1 = true := code_word (m := ⟨1, 1⟩) (meth := k1m1) (c := k1c1) (by decide +kernel) rfl rfl rfl (by decide +kernel)
set_option maxRecDepth 65536 in
theorem w_c1 : (Jvm.Cond.code ({ cls := "com/example/nomlog/nomlog/lang/Cell", name := "<init>", desc := "(J)V" } : Jvm.MethodName) prog_49_method_1_code (3 : Nat) (Option.none : Option Jvm.ClassFile.FieldType)).before args0 about1 = true := code_word (m := ⟨3, 0⟩) (meth := k3m0) (c := k3c0) (by decide +kernel) rfl rfl rfl (by decide +kernel)
set_option maxRecDepth 65536 in
theorem w_c2 : (Jvm.Cond.code ({ cls := "com/example/nomlog/nomlog/lang/Term", name := "<init>", desc := "()V" } : Jvm.MethodName) prog_78_method_1_code (1 : Nat) (Option.none : Option Jvm.ClassFile.FieldType)).before args0 about1 = true := code_word (m := ⟨2, 0⟩) (meth := k2m0) (c := k2c0) (by decide +kernel) rfl rfl rfl (by decide +kernel)
set_option maxRecDepth 65536 in
theorem w_c3 : (Jvm.Cond.code ({ cls := "java/lang/Object", name := "<init>", desc := "()V" } : Jvm.MethodName) object_method_1_code (1 : Nat) (Option.none : Option Jvm.ClassFile.FieldType)).before args0 about1 = true := code_word (m := ⟨0, 0⟩) (meth := k0m0) (c := k0c0) (by decide +kernel) rfl rfl rfl (by decide +kernel)
set_option maxRecDepth 65536 in
theorem w_c4 : (Jvm.Cond.code ({ cls := "com/example/nomlog/nomlog/lang/Atom", name := "<init>", desc := "(Ljava/lang/String;)V" } : Jvm.MethodName) prog_48_method_1_code (2 : Nat) (Option.none : Option Jvm.ClassFile.FieldType)).before args0 about1 = true := code_word (m := ⟨4, 0⟩) (meth := k4m0) (c := k4c0) (by decide +kernel) rfl rfl rfl (by decide +kernel)
set_option maxRecDepth 65536 in
theorem w_c5 : (Jvm.Cond.code ({ cls := "com/example/nomlog/nomlog/lang/Cell", name := "bind", desc := "(Lcom/example/nomlog/nomlog/lang/Term;)V" } : Jvm.MethodName) prog_49_method_3_code (2 : Nat) (Option.none : Option Jvm.ClassFile.FieldType)).before args0 about1 = true := code_word (m := ⟨3, 1⟩) (meth := k3m1) (c := k3c1) (by decide +kernel) rfl rfl rfl (by decide +kernel)
set_option maxRecDepth 65536 in
theorem w_c6 : (Jvm.Cond.code ({ cls := "com/example/nomlog/nomlog/lang/Cell", name := "follow", desc := "()Lcom/example/nomlog/nomlog/lang/Term;" } : Jvm.MethodName) prog_49_method_8_code (3 : Nat) (Option.some (Jvm.ClassFile.FieldType.object "com/example/nomlog/nomlog/lang/Term"))).before args0 about1 = true := code_word (m := ⟨3, 3⟩) (meth := k3m3) (c := k3c3) (by decide +kernel) rfl rfl rfl (by decide +kernel)
set_option maxRecDepth 65536 in
theorem w_c7 : (Jvm.Cond.code ({ cls := "com/example/nomlog/nomlog/lang/Cell", name := "unbind", desc := "()V" } : Jvm.MethodName) prog_49_method_4_code (1 : Nat) (Option.none : Option Jvm.ClassFile.FieldType)).before args0 about1 = true := code_word (m := ⟨3, 2⟩) (meth := k3m2) (c := k3c2) (by decide +kernel) rfl rfl rfl (by decide +kernel)
def codes1 : List Jvm.Cond := [Jvm.Cond.code x code maxLocals ret, Jvm.Cond.code ({ cls := "com/example/nomlog/nomlog/lang/Cell", name := "<init>", desc := "(J)V" } : Jvm.MethodName) prog_49_method_1_code (3 : Nat) (Option.none : Option Jvm.ClassFile.FieldType), Jvm.Cond.code ({ cls := "com/example/nomlog/nomlog/lang/Term", name := "<init>", desc := "()V" } : Jvm.MethodName) prog_78_method_1_code (1 : Nat) (Option.none : Option Jvm.ClassFile.FieldType), Jvm.Cond.code ({ cls := "java/lang/Object", name := "<init>", desc := "()V" } : Jvm.MethodName) object_method_1_code (1 : Nat) (Option.none : Option Jvm.ClassFile.FieldType), Jvm.Cond.code ({ cls := "com/example/nomlog/nomlog/lang/Atom", name := "<init>", desc := "(Ljava/lang/String;)V" } : Jvm.MethodName) prog_48_method_1_code (2 : Nat) (Option.none : Option Jvm.ClassFile.FieldType), Jvm.Cond.code ({ cls := "com/example/nomlog/nomlog/lang/Cell", name := "bind", desc := "(Lcom/example/nomlog/nomlog/lang/Term;)V" } : Jvm.MethodName) prog_49_method_3_code (2 : Nat) (Option.none : Option Jvm.ClassFile.FieldType), Jvm.Cond.code ({ cls := "com/example/nomlog/nomlog/lang/Cell", name := "follow", desc := "()Lcom/example/nomlog/nomlog/lang/Term;" } : Jvm.MethodName) prog_49_method_8_code (3 : Nat) (Option.some (Jvm.ClassFile.FieldType.object "com/example/nomlog/nomlog/lang/Term")), Jvm.Cond.code ({ cls := "com/example/nomlog/nomlog/lang/Cell", name := "unbind", desc := "()V" } : Jvm.MethodName) prog_49_method_4_code (1 : Nat) (Option.none : Option Jvm.ClassFile.FieldType)]
set_option maxRecDepth 65536 in
theorem codes_eq : words1.filter isCode = codes1 := rfl
theorem w_codes : ∀ c ∈ words1.filter isCode, c.before args0 about1 = true := by
  rw [codes_eq]
  intro c hc
  simp only [codes1, List.mem_cons, List.not_mem_nil, or_false] at hc
  rcases hc with rfl | rfl | rfl | rfl | rfl | rfl | rfl | rfl
  · exact w_c0
  · exact w_c1
  · exact w_c2
  · exact w_c3
  · exact w_c4
  · exact w_c5
  · exact w_c6
  · exact w_c7
set_option maxRecDepth 65536 in
theorem w_t1 : (words1.take 24).all (fun c => isCode c || c.before args0 about1) = true := by decide +kernel
set_option maxRecDepth 65536 in
theorem w_t2 : ((words1.drop 24).take 24).all (fun c => isCode c || c.before args0 about1) = true := by decide +kernel
set_option maxRecDepth 65536 in
theorem w_t3 : ((words1.drop 24).drop 24).all (fun c => isCode c || c.before args0 about1) = true := by decide +kernel
theorem w_tables : (allAtoms (Jvm.Cond.code x code maxLocals ret :: tables_1)).before args0 about1 = true := by
  rw [allAtoms_all]
  show words1.all (fun c => c.before args0 about1) = true
  refine all_split ?_ w_codes
  rw [← List.take_append_drop 24 words1, List.all_append, w_t1, ← List.take_append_drop 24 (words1.drop 24), List.all_append, w_t2, w_t3]
  rfl
set_option maxRecDepth 65536 in
theorem w_case : (Jvm.Cond.and given_1 narrow_1).before args0 about1 = true := by decide +kernel
theorem w_applies : (headSpec (Jvm.Cond.code x code maxLocals ret :: tables_1) room_1).applies x e0.platform about1 = true :=
  (Spec.applies_iff w_frames).mpr ⟨w_running, w_runnable, w_alone, w_named, w_hears, w_ripe, w_room, w_tables⟩
theorem atStart : AtStart classFile x code maxLocals ret World_1 tables_1 room_1 Calls_1 rest_1 Pre_1 launch0 p0 e0 about1 theMethod args0 below0 :=
  ⟨lists_1, trivial, launch0.admits_env _ _ _, launch0.least_env, fairChoices_fair.cas, fairChoices_fair.clock, w_frames, w_args, w_heap, w_applies, trivial, trivial, w_case⟩
end start1
theorem witness_1 : WitnessClaimed_1 := ⟨start1.p0, start1.e0, start1.about1, start1.theMethod, start1.args0, start1.below0, start1.atStart⟩
end Jvm.Pilot.@@N@@
