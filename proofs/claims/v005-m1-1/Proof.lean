import JvmDerived
import JvmDerived.Pilot.@@N@@Statement
import JvmDerived.Pilot.@@N@@Code
set_option linter.unusedVariables false
set_option linter.unusedSimpArgs false
namespace Jvm.RoadKit
open Sem ClassFile Op Lib Jvm.Stand Jvm.Free Jvm.LawKit
section New
variable {p : Program} {l : Launch} {e : Env} {R : Room} {s : State} {m : MethodId} {args : Array Value} {below : List Frame} {meth : Method} {c : Code} {T : State} {locs : List Loc} {cells slots : Nat}
theorem retI (X : Stand p l e R s m args below meth c T locs cells slots) (hx : p.tables.exec = Jvm.exec) {pc : Nat} {Ls : Array Slot} {z : Int32} {rest : List Value} (hret : meth.sig.returnType = some .int) (hd : decode c.code pc = .ok (.ireturn, 1)) {fs : List Frame}
    (hl : ∀ (f : JFrame) (acts : List Action), f.method = m → f.locked = none → f.entered = [] → (doReturn e (T.setTop f) acts (some (.int z))).1 = T.setFrames fs) : Steps p.tables e below (T.setTop (mkF m pc Ls (.int z :: rest))) (T.setFrames fs) := by
  have hm' : T.vm.method? m = some meth := X.method'
  have hn : narrow .int (.int z) = .int z := rfl
  show Steps p.tables e below (T.setTop { method := m, pc := pc, locals := Ls, stack := _ :: rest, locked := none }) _
  jvm_step X.here [X.here.top, hx, hd, hm', hret, hn]
  first | (intro acts; rw [hl _ acts rfl rfl rfl]) | rw [hl _ _ rfl rfl rfl]
  exact Steps.refl _
end New
end Jvm.RoadKit
namespace Jvm.Pilot.@@N@@
open Jvm Jvm.ClassFile Sem Op Lib Jvm.Free Jvm.Stand Jvm.LawKit Jvm.RoadKit Bundle Jvm.Pilot.@@N@@.Jvm.D
theorem own_lc_lt (x y : Int64) : lcmpW x y < 0 ↔ x < y := by rw [lcW]; exact lc_lt x y
theorem own_lc_gt (x y : Int64) : 0 < lcmpW x y ↔ y < x := by rw [lcW]; exact lc_gt x y
theorem own_lc_eq (x y : Int64) : lcmpW x y = 0 ↔ x = y := by rw [lcW]; exact lc_eq x y
theorem own_ri {P : Prop} [Decidable P] {a b : Value} (h1 : a.isRef = true) (h2 : b.isRef = true) : (if P then a else b).isRef = true := by
  by_cases h : P
  · rw [if_pos h]; exact h1
  · rw [if_neg h]; exact h2
theorem own_sta_keep {Z : State} {h h' : Heap} {C n d : String} {w : Value} {ws : List Addr} (F : Sta Z h C n d w) (K : Keep h h' ws) (q : ∀ x ∈ ws, ∀ cell : Cell, h[x]? = some cell → cell.vm.isStatics = false) : Sta Z h' C n d w := by
  obtain ⟨cf, i, k, f, st, cell, h1, h2, h3, h4, h5, h6, h7⟩ := F
  exact ⟨cf, i, k, f, st, cell, h1, h2, h3, h4, K.2.1 st cell h5 (fun z => by rw [q st z cell h5] at h6; cases h6), h6, h7⟩
theorem pd_0 : parseMethodDescriptor "([C)V" = some ⟨[(.array .char)], none⟩ := by decide +kernel
theorem pd_1 : parseMethodDescriptor "([CIILjava/lang/Void;)V" = some ⟨[(.array .char), .int, .int, (.object "java/lang/Void")], none⟩ := by decide +kernel
theorem pd_2 : parseMethodDescriptor "()V" = some ⟨[], none⟩ := by decide +kernel
theorem pd_3 : parseMethodDescriptor "(Ljava/lang/String;Ljava/lang/String;JLjava/lang/String;)V" = some ⟨[(.object "java/lang/String"), (.object "java/lang/String"), .long, (.object "java/lang/String")], none⟩ := by decide +kernel
theorem pd_4 : parseMethodDescriptor "([CII)Z" = some ⟨[(.array .char), .int, .int], some .boolean⟩ := by decide +kernel
theorem pd_5 : parseMethodDescriptor "()Z" = some ⟨[], some .boolean⟩ := by decide +kernel
theorem pd_6 : parseMethodDescriptor "(II)I" = some ⟨[.int, .int], some .int⟩ := by decide +kernel
theorem pd_7 : parseMethodDescriptor "()I" = some ⟨[], some .int⟩ := by decide +kernel
theorem pd_8 : parseMethodDescriptor "()B" = some ⟨[], some .byte⟩ := by decide +kernel
theorem pd_9 : parseMethodDescriptor "([BIII)I" = some ⟨[(.array .byte), .int, .int, .int], some .int⟩ := by decide +kernel
theorem pd_10 : parseMethodDescriptor "(I)Z" = some ⟨[.int], some .boolean⟩ := by decide +kernel
theorem pd_11 : parseMethodDescriptor "(I)C" = some ⟨[.int], some .char⟩ := by decide +kernel
theorem pd_12 : parseMethodDescriptor "([CII)[B" = some ⟨[(.array .char), .int, .int], some (.array .byte)⟩ := by decide +kernel
theorem pd_13 : parseMethodDescriptor "([CI[BII)I" = some ⟨[(.array .char), .int, (.array .byte), .int, .int], some .int⟩ := by decide +kernel
theorem pd_14 : parseMethodDescriptor "([BI)B" = some ⟨[(.array .byte), .int], some .byte⟩ := by decide +kernel
theorem pd_15 : parseMethodDescriptor "(I)[B" = some ⟨[.int], some (.array .byte)⟩ := by decide +kernel
theorem pd_16 : parseMethodDescriptor "(I)I" = some ⟨[.int], some .int⟩ := by decide +kernel
theorem pd_17 : parseMethodDescriptor "([BII)V" = some ⟨[(.array .byte), .int, .int], none⟩ := by decide +kernel
theorem pd_18 : parseMethodDescriptor "([BI)C" = some ⟨[(.array .byte), .int], some .char⟩ := by decide +kernel
theorem pd_19 : parseMethodDescriptor "(Lcom/example/libbisim/libbisim/TextFormat$Cursor;[CI)I" = some ⟨[(.object "com/example/libbisim/libbisim/TextFormat$Cursor"), (.array .char), .int], some .int⟩ := by decide +kernel
theorem pd_20 : parseMethodDescriptor "([CI)I" = some ⟨[(.array .char), .int], some .int⟩ := by decide +kernel
theorem pd_21 : parseMethodDescriptor "([CI)Z" = some ⟨[(.array .char), .int], some .boolean⟩ := by decide +kernel
theorem pd_22 : parseMethodDescriptor "(C)V" = some ⟨[.char], none⟩ := by decide +kernel
theorem pd_23 : parseMethodDescriptor "(I[B)V" = some ⟨[.int, (.array .byte)], none⟩ := by decide +kernel
theorem pd_24 : parseMethodDescriptor "([B)I" = some ⟨[(.array .byte)], some .int⟩ := by decide +kernel
theorem pd_25 : parseMethodDescriptor "(II)V" = some ⟨[.int, .int], none⟩ := by decide +kernel
theorem pd_26 : parseMethodDescriptor "(IILjava/util/function/BiFunction;)I" = some ⟨[.int, .int, (.object "java/util/function/BiFunction")], some .int⟩ := by decide +kernel
theorem pd_27 : parseMethodDescriptor "(C)Z" = some ⟨[.char], some .boolean⟩ := by decide +kernel
theorem pd_28 : parseMethodDescriptor "(II[B)V" = some ⟨[.int, .int, (.array .byte)], none⟩ := by decide +kernel
theorem pd_29 : parseMethodDescriptor "(III)V" = some ⟨[.int, .int, .int], none⟩ := by decide +kernel
theorem pd_30 : parseMethodDescriptor "(IIILjava/util/function/BiFunction;)I" = some ⟨[.int, .int, .int, (.object "java/util/function/BiFunction")], some .int⟩ := by decide +kernel
def own_St (Z : State) (cs : Int32) (fm : Value) : Prop := Sta Z Z.heap "java/lang/String" "COMPACT_STRINGS" "Z" (.int cs) ∧ (¬ cs = 0) ∧ Sta Z Z.heap "jdk/internal/util/Preconditions" "SIOOBE_FORMATTER" "Ljava/util/function/BiFunction;" fm ∧ fm.isRef = true ∧ Sta Z Z.heap "java/lang/StringUTF16" "$assertionsDisabled" "Z" (.int (1 : Int32)) ∧ Sta Z Z.heap "java/lang/StringUTF16" "HI_BYTE_SHIFT" "I" (.int (0 : Int32)) ∧ Sta Z Z.heap "java/lang/StringUTF16" "LO_BYTE_SHIFT" "I" (.int (8 : Int32))
def own_lo (c : Int32) : Int32 := nar .byte ((c >>> ((0 : Int32) &&& 31)).toInt8.toInt32)
def own_hi (c : Int32) : Int32 := nar .byte ((c >>> ((8 : Int32) &&& 31)).toInt8.toInt32)
def own_gc (l h : Int32) : Int32 := nar .char (((((l &&& (255 : Int32)) <<< ((0 : Int32) &&& 31)) ||| ((h &&& (255 : Int32)) <<< ((8 : Int32) &&& 31)))).toUInt32.toUInt16.toUInt32.toInt32)
def own_lc (b : Int32) : Int32 := nar .char ((b &&& (255 : Int32)).toUInt32.toUInt16.toUInt32.toInt32)
def own_ch (c : Int32) : Prop := 0 ≤ c.toInt ∧ c.toInt < 65536
theorem own_gc_eq {c : Int32} (h : own_ch c) : own_gc (own_lo c) (own_hi c) = c := by
  obtain ⟨h0, h1⟩ := h
  show (((((own_lo c &&& (255 : Int32)) <<< ((0 : Int32) &&& 31)) ||| ((own_hi c &&& (255 : Int32)) <<< ((8 : Int32) &&& 31)))).toUInt32.toUInt16.toUInt32.toInt32).toUInt32.toUInt16.toUInt32.toInt32 = c
  have a1 := c_ishr c (0 : Int32) 0 rfl
  have a2 := c_ishr c (8 : Int32) 8 rfl
  have b1 := c_i2b (c >>> ((0 : Int32) &&& 31)); have b2 := c_i2b ((c >>> ((0 : Int32) &&& 31)).toInt8.toInt32)
  have b3 := c_i2b (c >>> ((8 : Int32) &&& 31)); have b4 := c_i2b ((c >>> ((8 : Int32) &&& 31)).toInt8.toInt32)
  have d1 : (own_lo c &&& (255 : Int32)).toInt = (own_lo c).toInt % 256 := c_mask _ 255 8 (by decide) rfl
  have d2 : (own_hi c &&& (255 : Int32)).toInt = (own_hi c).toInt % 256 := c_mask _ 255 8 (by decide) rfl
  have el : (own_lo c).toInt = ((c >>> ((0 : Int32) &&& 31)).toInt8.toInt32).toInt8.toInt32.toInt := rfl
  have eh : (own_hi c).toInt = ((c >>> ((8 : Int32) &&& 31)).toInt8.toInt32).toInt8.toInt32.toInt := rfl
  rw [show ((2 ^ 0 : Nat) : Int) = 1 from rfl] at a1
  rw [show ((2 ^ 8 : Nat) : Int) = 256 from rfl] at a2
  have x1 : (own_lo c &&& (255 : Int32)).toInt = c.toInt % 256 := by omega
  have x2 : (own_hi c &&& (255 : Int32)).toInt = c.toInt / 256 := by omega
  generalize own_lo c &&& (255 : Int32) = l at *
  generalize own_hi c &&& (255 : Int32) = hh at *
  have s1 := c_ishl l (0 : Int32) 0 rfl
  have s2 := c_ishl hh (8 : Int32) 8 rfl
  rw [show ((2 ^ 0 : Nat) : Int) = 1 from rfl] at s1
  rw [show ((2 ^ 8 : Nat) : Int) = 256 from rfl] at s2
  have t1 := Int32.le_toInt (l <<< ((0 : Int32) &&& 31)); have t2 := Int32.toInt_lt (l <<< ((0 : Int32) &&& 31))
  have t3 := Int32.le_toInt (hh <<< ((8 : Int32) &&& 31)); have t4 := Int32.toInt_lt (hh <<< ((8 : Int32) &&& 31))
  have y1 : (l <<< ((0 : Int32) &&& 31)).toInt = l.toInt := by omega
  have y2 : (hh <<< ((8 : Int32) &&& 31)).toInt = hh.toInt * 256 := by omega
  have o := c_or' (l <<< ((0 : Int32) &&& 31)) (hh <<< ((8 : Int32) &&& 31)) 8 (by decide) 256 rfl (by omega) (by omega) (by omega)
  have t5 := Int32.le_toInt ((l <<< ((0 : Int32) &&& 31)) ||| (hh <<< ((8 : Int32) &&& 31))); have t6 := Int32.toInt_lt ((l <<< ((0 : Int32) &&& 31)) ||| (hh <<< ((8 : Int32) &&& 31)))
  generalize (l <<< ((0 : Int32) &&& 31)) ||| (hh <<< ((8 : Int32) &&& 31)) = w at *
  have p1 := c_i2c w; have p2 := c_i2c (w.toUInt32.toUInt16.toUInt32.toInt32)
  apply Int32.toInt_inj.mp
  omega
theorem own_l1c_eq {c : Int32} (h0 : 0 ≤ c.toInt) (h1 : c.toInt < 256) : own_lc (c.toInt8.toInt32) = c := by
  show ((c.toInt8.toInt32 &&& (255 : Int32)).toUInt32.toUInt16.toUInt32.toInt32).toUInt32.toUInt16.toUInt32.toInt32 = c
  have a := c_i2b c
  have d : (c.toInt8.toInt32 &&& (255 : Int32)).toInt = (c.toInt8.toInt32).toInt % 256 := c_mask _ 255 8 (by decide) rfl
  generalize c.toInt8.toInt32 &&& (255 : Int32) = w at *
  have p1 := c_i2c w; have p2 := c_i2c (w.toUInt32.toUInt16.toUInt32.toInt32)
  apply Int32.toInt_inj.mp
  omega
theorem own_b44 {c : Int32} (h0 : 0 ≤ c.toInt) (h1 : c.toInt < 256) : (c.toInt8.toInt32 = 44) ↔ c = 44 := by
  have a := c_i2b c
  rw [← Int32.toInt_inj, ← Int32.toInt_inj, show (44 : Int32).toInt = 44 from rfl]
  omega
theorem own_ncI {x : Int32} (h : own_ch x) : nar .char x = x := by
  obtain ⟨h0, h1⟩ := h
  show x.toUInt32.toUInt16.toUInt32.toInt32 = x
  have a := c_i2c x
  apply Int32.toInt_inj.mp; omega
theorem own_chc (x : Int32) : own_ch (x.toUInt32.toUInt16.toUInt32.toInt32) := by
  have a := c_i2c x; exact ⟨by omega, by omega⟩
theorem own_nlt0 {x : Int32} (h : 0 ≤ x.toInt) : ¬ x < 0 := by rw [Int32.lt_iff_toInt_lt, show (0 : Int32).toInt = 0 from rfl]; omega
theorem own_selp {y : MethodName} {s : State} {args : Array Value} {n : Nat} (hy : y.cls ≠ "java/lang/invoke/MethodHandle" ∧ y.cls ≠ "java/lang/invoke/VarHandle")
    (hins : (Cond.instantiable y.cls n).before args s = true) (hpriv : (Cond.privateMethod y).before args s = true) (hinst : (Cond.instanceMethod y).before args s = true) :
    (Cond.selects y.cls y y).before args s = true := by
  obtain ⟨c, k, hc, hk, -, hniab, -, -⟩ := Cond.instantiable_spec hins
  have hni : k.isInterface = false := (Bool.or_eq_false_iff.mp hniab).1
  obtain ⟨mk, methM, hnamed, hmethM, -, -⟩ := Cond.instanceMethod_spec hinst
  have hfound : s.methodFound? y.cls y.name y.desc = some mk := State.methodFound?_of_named hnamed hy
  have hcls : mk.cls = c := Option.some.inj ((findClass_of_methodNamed hnamed).symm.trans hc)
  have hsel : selectMethod {} s.vm c mk = .method mk := selectMethod_private hmethM (Cond.privateMethod_at hpriv mk methM hnamed hmethM)
  simp only [Cond.before, Cond.holds, Cond.value, hc, hfound, hnamed, hsel, hcls, hk]
  simp; exact hni
theorem own_w {a0 : Array Value} {Z : State} (hw : ∀ d ∈ tables_1, d.before a0 Z = true) (i : Nat) {d : Jvm.Cond} (h : tables_1[i]? = some d) : d.before a0 Z = true := hw d (List.mem_of_getElem? h)
abbrev own_S (p : Program) (e : Env) (below : List Frame) (T : State) (A B : JFrame) : Prop := ∀ target : State, Steps p.tables e below (T.setTop A) target → Steps p.tables e below (T.setTop B) target
abbrev own_EL : List (String × Nat) := [("java/lang/String", 7)]
theorem own_mem : ("java/lang/String", 7) ∈ own_EL := List.mem_cons_self
theorem own_hEL {a0 : Array Value} {Z : State} (hw : ∀ d ∈ tables_1, d.before a0 Z = true) : EW Z a0 own_EL := EW.cons (text := "") (own_w hw 18 rfl) (fun c hc => absurd hc (by simp)) EW.nil
theorem own_safe_null {Z : State} {EL : List (String × Nat)} {vm : Vm} {h : Heap} {x : Addr} (hal : Z.vm.Alike vm) (E : Exa Z h x "java/lang/String") (F : Fld Z h x "java/lang/String" "value" "[B" .null) : Safe Z EL vm h x := fun B => by
  obtain ⟨p, -, u, a, -, q, -, G, e | e⟩ := B
  · obtain ⟨cS, ⟨⟨s1, s2, s3, ⟨cv, kv, iv, s4, s4'⟩, -, s6, s7, s8, -⟩, -, -⟩, -⟩ := G
    obtain ⟨kv', z4⟩ := ff_back (U := Wst Z vm h) hal s4
    have F2 : Fld Z h q.sa "java/lang/String" "value" "[B" (.ref q.sd) := ⟨q.sC, cv, kv', iv, q.fSV, s1, z4, s6, s2, s3, by rw [← hal.assignable]; exact s4', s8⟩
    exact Fld.ne F F2 nofun e
  · subst e
    obtain ⟨cell, k, e1, e2, e3, -, -⟩ := E
    cases (show h[q.sd]? = some q.SA from G.hd).symm.trans e1
    obtain ⟨cS, -, -, f, -⟩ := G
    have f' : Z.vm.findClass "[B" = some q.SA.cls := by rw [← hal.findClass]; exact f
    obtain ⟨k1, q1, q2⟩ := Vm.findClass_spec f'
    obtain ⟨k2, q3, q4⟩ := Vm.findClass_spec e2
    cases q1.symm.trans q3
    exact absurd (q2.symm.trans q4) (by decide)
def own_n (n : Int32) : Prop := n = 0 ∨ n = 1 ∨ n = 2 ∨ n = 3 ∨ n = 4
def own_at (i c0 c1 c2 c3 : Int32) : Int32 := if i = 0 then c0 else if i = 1 then c1 else if i = 2 then c2 else c3
def own_bl (c : Int32) : Prop := c = 32 ∨ c = 9
def own_chs (c0 c1 c2 c3 : Int32) : Prop := own_ch c0 ∧ own_ch c1 ∧ own_ch c2 ∧ own_ch c3
def own_zs (n c0 c1 c2 c3 : Int32) : Prop := (¬ (0 : Int32) < n → c0 = 0) ∧ (¬ (1 : Int32) < n → c1 = 0) ∧ (¬ (2 : Int32) < n → c2 = 0) ∧ (¬ (3 : Int32) < n → c3 = 0)
def own_cd (cd nb : Int32) (vs : List Value) (n c0 c1 c2 c3 : Int32) : Prop := (cd = 0 ∧ n = nb ∧ vs = [(.int c0.toInt8.toInt32), (.int c1.toInt8.toInt32), (.int c2.toInt8.toInt32), (.int c3.toInt8.toInt32)] ∧ c0.toInt < 256 ∧ c1.toInt < 256 ∧ c2.toInt < 256 ∧ c3.toInt < 256) ∨ (cd = 1 ∧ n + n = nb ∧ vs = [(.int (own_lo c0)), (.int (own_hi c0)), (.int (own_lo c1)), (.int (own_hi c1)), (.int (own_lo c2)), (.int (own_hi c2)), (.int (own_lo c3)), (.int (own_hi c3))])
section OwnN
variable {n i : Int32} {c0 c1 c2 c3 : Int32}
theorem own_nn (h : own_n n) : ¬ n < 0 := by rcases h with rfl | rfl | rfl | rfl | rfl <;> decide
theorem own_nn2 (h : own_n n) : ¬ n + n < 0 := by rcases h with rfl | rfl | rfl | rfl | rfl <;> decide
theorem own_le4 (h : own_n n) : n.toNatClampNeg ≤ 4 := by rcases h with rfl | rfl | rfl | rfl | rfl <;> decide
theorem own_le8 (h : own_n n) : (n + n).toNatClampNeg ≤ 8 := by rcases h with rfl | rfl | rfl | rfl | rfl <;> decide
theorem own_big (h : own_n n) : n < (1073741823 : Int32) := by rcases h with rfl | rfl | rfl | rfl | rfl <;> decide
theorem own_dbl (h : own_n n) : n <<< ((1 : Int32) &&& 31) = n + n := by rcases h with rfl | rfl | rfl | rfl | rfl <;> decide
theorem own_sh0 (h : own_n n) : n >>> ((0 : Int32) &&& 31) = n := by rcases h with rfl | rfl | rfl | rfl | rfl <;> decide
theorem own_sh1 (h : own_n n) : (n + n) >>> ((1 : Int32) &&& 31) = n := by rcases h with rfl | rfl | rfl | rfl | rfl <;> decide
theorem own_n0 : own_n 0 := Or.inl rfl
theorem own_n1 : own_n 1 := Or.inr (Or.inl rfl)
theorem own_n2 : own_n 2 := Or.inr (Or.inr (Or.inl rfl))
theorem own_n3 : own_n 3 := Or.inr (Or.inr (Or.inr (Or.inl rfl)))
theorem own_lt3 (hi : own_n i) (hn : own_n n) (h : i < n) : i = 0 ∨ i = 1 ∨ i = 2 ∨ i = 3 := by
  rcases hi with a | a | a | a | a
  · exact Or.inl a
  · exact Or.inr (Or.inl a)
  · exact Or.inr (Or.inr (Or.inl a))
  · exact Or.inr (Or.inr (Or.inr a))
  · exfalso; subst a; rcases hn with rfl | rfl | rfl | rfl | rfl <;> exact absurd h (by decide)
theorem own_nx (hi : own_n i) (hn : own_n n) (h : i < n) : own_n (i + (1 : Int32)) := by
  rcases own_lt3 hi hn h with rfl | rfl | rfl | rfl
  · exact own_n1
  · exact own_n2
  · exact own_n3
  · exact Or.inr (Or.inr (Or.inr (Or.inr rfl)))
theorem own_lt1 (hi : own_n i) (hn : own_n n) (h : i < n) : ¬ n < i + (1 : Int32) := by
  rcases own_lt3 hi hn h with rfl | rfl | rfl | rfl <;> rcases hn with rfl | rfl | rfl | rfl | rfl <;> first | decide | exact absurd h (by decide)
theorem own_four (hi : own_n i) (hn : own_n n) : ¬ i + (1 : Int32) + (1 : Int32) + (1 : Int32) + (1 : Int32) < n := by
  rcases hi with rfl | rfl | rfl | rfl | rfl <;> rcases hn with rfl | rfl | rfl | rfl | rfl <;> decide
theorem own_l2 (hi : own_n i) (hn : own_n n) (h : i < n) : (¬ i <<< ((1 : Int32) &&& 31) < 0 ∧ i <<< ((1 : Int32) &&& 31) < n + n) ∧ (¬ i <<< ((1 : Int32) &&& 31) + (1 : Int32) < 0 ∧ i <<< ((1 : Int32) &&& 31) + (1 : Int32) < n + n) := by
  rcases own_lt3 hi hn h with rfl | rfl | rfl | rfl <;> rcases hn with rfl | rfl | rfl | rfl | rfl <;> first | decide | exact absurd h (by decide)
theorem own_lk (k : Int32) (hi : own_n k) (hn : own_n n) (h : k < n) : k + k < n + n ∧ k + k + 1 < n + n := by
  rcases own_lt3 hi hn h with rfl | rfl | rfl | rfl <;> rcases hn with rfl | rfl | rfl | rfl | rfl <;> first | decide | exact absurd h (by decide)
theorem own_gat (hi : own_n i) (hn : own_n n) (h : i < n) {d : Value} : ([(.int c0), (.int c1), (.int c2), (.int c3)] : List Value).getD i.toNatClampNeg d = .int (own_at i c0 c1 c2 c3) := by
  rcases own_lt3 hi hn h with rfl | rfl | rfl | rfl <;> rfl
theorem own_gal (hi : own_n i) (hn : own_n n) (h : i < n) {d : Value} : ([(.int c0.toInt8.toInt32), (.int c1.toInt8.toInt32), (.int c2.toInt8.toInt32), (.int c3.toInt8.toInt32)] : List Value).getD i.toNatClampNeg d = .int ((own_at i c0 c1 c2 c3).toInt8.toInt32) := by
  rcases own_lt3 hi hn h with rfl | rfl | rfl | rfl <;> rfl
theorem own_glo (hi : own_n i) (hn : own_n n) (h : i < n) {d : Value} : ([(.int (own_lo c0)), (.int (own_hi c0)), (.int (own_lo c1)), (.int (own_hi c1)), (.int (own_lo c2)), (.int (own_hi c2)), (.int (own_lo c3)), (.int (own_hi c3))] : List Value).getD (i <<< ((1 : Int32) &&& 31)).toNatClampNeg d = .int (own_lo (own_at i c0 c1 c2 c3)) := by
  rcases own_lt3 hi hn h with rfl | rfl | rfl | rfl <;> rfl
theorem own_ghi (hi : own_n i) (hn : own_n n) (h : i < n) {d : Value} : ([(.int (own_lo c0)), (.int (own_hi c0)), (.int (own_lo c1)), (.int (own_hi c1)), (.int (own_lo c2)), (.int (own_hi c2)), (.int (own_lo c3)), (.int (own_hi c3))] : List Value).getD (i <<< ((1 : Int32) &&& 31) + (1 : Int32)).toNatClampNeg d = .int (own_hi (own_at i c0 c1 c2 c3)) := by
  rcases own_lt3 hi hn h with rfl | rfl | rfl | rfl <;> rfl
theorem own_cha (h : own_chs c0 c1 c2 c3) : own_ch (own_at i c0 c1 c2 c3) := by
  unfold own_at; split
  · exact h.1
  · split
    · exact h.2.1
    · split
      · exact h.2.2.1
      · exact h.2.2.2
theorem own_la (h0 : c0.toInt < 256) (h1 : c1.toInt < 256) (h2 : c2.toInt < 256) (h3 : c3.toInt < 256) : (own_at i c0 c1 c2 c3).toInt < 256 := by
  unfold own_at; split
  · exact h0
  · split
    · exact h1
    · split
      · exact h2
      · exact h3
end OwnN
theorem own_chn (x : Int32) : own_ch (nar .char x) := own_chc x
theorem own_chi {P : Prop} [Decidable P] {a b : Int32} (ha : own_ch a) (hb : own_ch b) : own_ch (if P then a else b) := by
  by_cases h : P
  · rw [if_pos h]; exact ha
  · rw [if_neg h]; exact hb
theorem own_lo0 : own_lo 0 = 0 := by decide
theorem own_hi0 : own_hi 0 = 0 := by decide
theorem own_nb8 (c : Int32) : nar .byte (c.toInt8.toInt32) = c.toInt8.toInt32 := by
  show (c.toInt8.toInt32).toInt8.toInt32 = c.toInt8.toInt32
  have a := c_i2b c; have b := c_i2b (c.toInt8.toInt32); apply Int32.toInt_inj.mp; omega
theorem own_ch0 : own_ch 0 := ⟨by decide, by decide⟩
theorem own_lt256 {c : Int32} (h : ¬ (255 : Int32) < c) : c.toInt < 256 := by
  rw [Int32.lt_iff_toInt_lt, show (255 : Int32).toInt = 255 from rfl] at h; omega
theorem own_mod (x : Int32) : own_n ((x &&& (2147483647 : Int32)) % (5 : Int32)) := by
  have a : (x &&& (2147483647 : Int32)).toInt = x.toInt % 2147483648 := c_mask _ 2147483647 31 (by decide) rfl
  have b : ((x &&& (2147483647 : Int32)) % (5 : Int32)).toInt = (x &&& (2147483647 : Int32)).toInt.tmod 5 := Int32.toInt_mod _ _
  have c : 0 ≤ (x &&& (2147483647 : Int32)).toInt := by omega
  rw [Int.tmod_eq_emod_of_nonneg c] at b
  unfold own_n
  simp only [← Int32.toInt_inj, show (0 : Int32).toInt = 0 from rfl, show (1 : Int32).toInt = 1 from rfl, show (2 : Int32).toInt = 2 from rfl, show (3 : Int32).toInt = 3 from rfl, show (4 : Int32).toInt = 4 from rfl]
  omega
theorem own_anti {i n : Int32} (h : ¬ i < n) (g : ¬ n < i) : i = n := by
  rw [Int32.lt_iff_toInt_lt] at h g; apply Int32.toInt_inj.mp; omega
theorem own_ltne {i n : Int32} (h : i < n) : ¬ i = n := fun q => Int32.lt_irrefl (q ▸ h)
theorem own_zz {n c0 c1 c2 c3 : Int32} (hn : own_n n) (z : own_zs n c0 c1 c2 c3) : (¬ (0 : Int32) < n → c0 = 0 ∧ c1 = 0 ∧ c2 = 0 ∧ c3 = 0) ∧ (¬ (1 : Int32) < n → c1 = 0 ∧ c2 = 0 ∧ c3 = 0) ∧ (¬ (2 : Int32) < n → c2 = 0 ∧ c3 = 0) ∧ (¬ (3 : Int32) < n → c3 = 0) := by
  obtain ⟨z0, z1, z2, z3⟩ := z
  rcases hn with rfl | rfl | rfl | rfl | rfl
  · exact ⟨fun _ => ⟨z0 (by decide), z1 (by decide), z2 (by decide), z3 (by decide)⟩, fun _ => ⟨z1 (by decide), z2 (by decide), z3 (by decide)⟩, fun _ => ⟨z2 (by decide), z3 (by decide)⟩, fun _ => z3 (by decide)⟩
  · exact ⟨fun q => absurd (by decide) q, fun _ => ⟨z1 (by decide), z2 (by decide), z3 (by decide)⟩, fun _ => ⟨z2 (by decide), z3 (by decide)⟩, fun _ => z3 (by decide)⟩
  · exact ⟨fun q => absurd (by decide) q, fun q => absurd (by decide) q, fun _ => ⟨z2 (by decide), z3 (by decide)⟩, fun _ => z3 (by decide)⟩
  · exact ⟨fun q => absurd (by decide) q, fun q => absurd (by decide) q, fun q => absurd (by decide) q, fun _ => z3 (by decide)⟩
  · exact ⟨fun q => absurd (by decide) q, fun q => absurd (by decide) q, fun q => absurd (by decide) q, fun q => absurd (by decide) q⟩
theorem own_arv0 {Z : State} {h : Heap} {a : Addr} {k : ClassId} {ty : FieldType} {vs vs' : List Value} {d : Value} (F : Arv Z h a k ty (0 : Int32) vs d) : Arv Z h a k ty (0 : Int32) vs' d := by
  obtain ⟨c, A, r1, r2, r3, H, G⟩ := F
  have e : c.slots.size = 0 := r2.trans (by decide)
  exact ⟨c, A, r1, r2, r3, fun i hi => absurd hi (by omega), fun i hi => absurd hi (by omega)⟩
theorem own_isb (c : Int32) : (if c = (32 : Int32) then (1 : Int32) else (if c = (9 : Int32) then (1 : Int32) else (0 : Int32))) = 0 ↔ ¬ own_bl c := by
  unfold own_bl
  by_cases h1 : c = 32
  · rw [if_pos h1]; exact iff_of_false (by decide) (fun q => q (Or.inl h1))
  · rw [if_neg h1]
    by_cases h2 : c = 9
    · rw [if_pos h2]; exact iff_of_false (by decide) (fun q => q (Or.inr h2))
    · rw [if_neg h2]; exact iff_of_true rfl (fun q => q.elim h1 h2)
def own_cnd (n c0 c1 c2 c3 i : Int32) : Prop := i < n ∧ own_bl (own_at i c0 c1 c2 c3)
def own_R (n c0 c1 c2 c3 : Int32) : Nat → Int32 → Int32 → Prop
  | 0, i, q => q = i
  | f + 1, i, q => (own_cnd n c0 c1 c2 c3 i ∧ own_R n c0 c1 c2 c3 f (i + (1 : Int32)) q) ∨ (¬ own_cnd n c0 c1 c2 c3 i ∧ q = i)
def own_cf (n c0 c1 c2 c3 : Int32) : Nat → Int32 → Prop
  | 0, _ => False
  | f + 1, i => i < n ∧ (own_at i c0 c1 c2 c3 = 44 ∨ own_cf n c0 c1 c2 c3 f (i + (1 : Int32)))
def own_S1 (n c0 c1 c2 c3 i j : Int32) : Prop := (own_cnd n c0 c1 c2 c3 i ∧ j = i + (1 : Int32)) ∨ (¬ own_cnd n c0 c1 c2 c3 i ∧ j = i)
def own_Q (n c0 c1 c2 c3 p i : Int32) : Prop := ¬ i < p ∧ i < n ∧ own_at i c0 c1 c2 c3 = 44
section OwnR
variable {n c0 c1 c2 c3 : Int32}
theorem own_s1 {i j b : Int32} (hb : b = 0 ↔ ¬ own_cnd n c0 c1 c2 c3 i) (h : j = if b = (0 : Int32) then i else (i + (1 : Int32))) : own_S1 n c0 c1 c2 c3 i j := by
  by_cases q : b = 0
  · rw [if_pos q] at h; exact Or.inr ⟨hb.mp q, h⟩
  · rw [if_neg q] at h; exact Or.inl ⟨Classical.not_not.mp (fun r => q (hb.mpr r)), h⟩
theorem own_s5 {p q1 q2 q3 q4 : Int32} (hp : own_n p) (hn : own_n n) (h1 : own_S1 n c0 c1 c2 c3 p q1) (h2 : own_S1 n c0 c1 c2 c3 q1 q2) (h3 : own_S1 n c0 c1 c2 c3 q2 q3) (h4 : own_S1 n c0 c1 c2 c3 q3 q4) : own_R n c0 c1 c2 c3 5 p q4 := by
  rcases h1 with ⟨a1, e1⟩ | ⟨a1, e1⟩
  · subst e1; rcases h2 with ⟨a2, e2⟩ | ⟨a2, e2⟩
    · subst e2; rcases h3 with ⟨a3, e3⟩ | ⟨a3, e3⟩
      · subst e3; rcases h4 with ⟨a4, e4⟩ | ⟨a4, e4⟩
        · subst e4; exact Or.inl ⟨a1, Or.inl ⟨a2, Or.inl ⟨a3, Or.inl ⟨a4, Or.inr ⟨fun q => own_four hp hn q.1, rfl⟩⟩⟩⟩⟩
        · exact Or.inl ⟨a1, Or.inl ⟨a2, Or.inl ⟨a3, Or.inr ⟨a4, e4⟩⟩⟩⟩
      · rw [e3] at h4; rcases h4 with ⟨a4, e4⟩ | ⟨a4, e4⟩
        · exact absurd a4 a3
        · exact Or.inl ⟨a1, Or.inl ⟨a2, Or.inr ⟨a3, e4⟩⟩⟩
    · rw [e2] at h3; rcases h3 with ⟨a3, e3⟩ | ⟨a3, e3⟩
      · exact absurd a3 a2
      · rw [e3] at h4; rcases h4 with ⟨a4, e4⟩ | ⟨a4, e4⟩
        · exact absurd a4 a2
        · exact Or.inl ⟨a1, Or.inr ⟨a2, e4⟩⟩
  · rw [e1] at h2; rcases h2 with ⟨a2, e2⟩ | ⟨a2, e2⟩
    · exact absurd a2 a1
    · rw [e2] at h3; rcases h3 with ⟨a3, e3⟩ | ⟨a3, e3⟩
      · exact absurd a3 a1
      · rw [e3] at h4; rcases h4 with ⟨a4, e4⟩ | ⟨a4, e4⟩
        · exact absurd a4 a1
        · exact Or.inr ⟨a1, e4⟩
theorem own_Rn (hn : own_n n) : ∀ (f : Nat) (i q : Int32), own_n i → own_R n c0 c1 c2 c3 f i q → own_n q
  | 0, i, q, hi, h => by rw [show q = i from h]; exact hi
  | f + 1, i, q, hi, h => by
    rcases h with ⟨a, b⟩ | ⟨a, b⟩
    · exact own_Rn hn f _ q (own_nx hi hn a.1) b
    · rw [b]; exact hi
theorem own_Rle (hn : own_n n) : ∀ (f : Nat) (i q : Int32), own_n i → ¬ n < i → own_R n c0 c1 c2 c3 f i q → ¬ n < q
  | 0, i, q, hi, hl, h => by rw [show q = i from h]; exact hl
  | f + 1, i, q, hi, hl, h => by
    rcases h with ⟨a, b⟩ | ⟨a, b⟩
    · exact own_Rle hn f _ q (own_nx hi hn a.1) (own_lt1 hi hn a.1) b
    · rw [b]; exact hl
theorem own_Rd : ∀ (f : Nat) (i q q' : Int32), own_R n c0 c1 c2 c3 f i q → own_R n c0 c1 c2 c3 f i q' → q = q'
  | 0, i, q, q', h, h' => (show q = i from h).trans (show q' = i from h').symm
  | f + 1, i, q, q', h, h' => by
    rcases h with ⟨a, b⟩ | ⟨a, b⟩ <;> rcases h' with ⟨a', b'⟩ | ⟨a', b'⟩
    · exact own_Rd f _ q q' b b'
    · exact absurd a a'
    · exact absurd a' a
    · exact b.trans b'.symm
theorem own_cfn {f : Nat} {i : Int32} (h : ¬ i < n) : ¬ own_cf n c0 c1 c2 c3 f i := by
  cases f with
  | zero => exact id
  | succ f => exact fun q => h q.1
theorem own_cfs {f : Nat} {i : Int32} (h : i < n) (g : ¬ own_at i c0 c1 c2 c3 = 44) : own_cf n c0 c1 c2 c3 (f + 1) i ↔ own_cf n c0 c1 c2 c3 f (i + (1 : Int32)) := ⟨fun q => q.2.resolve_left g, fun q => ⟨h, Or.inr q⟩⟩
theorem own_cfy {f : Nat} {i : Int32} (h : i < n) (g : own_at i c0 c1 c2 c3 = 44) : own_cf n c0 c1 c2 c3 (f + 1) i := ⟨h, Or.inl g⟩
theorem own_fin {p : Int32} (hp : own_n p) (hn : own_n n) : own_cf n c0 c1 c2 c3 5 p ↔ (own_Q n c0 c1 c2 c3 p 0 ∨ own_Q n c0 c1 c2 c3 p 1 ∨ own_Q n c0 c1 c2 c3 p 2 ∨ own_Q n c0 c1 c2 c3 p 3) := by
  rcases hp with rfl | rfl | rfl | rfl | rfl <;> rcases hn with rfl | rfl | rfl | rfl | rfl <;> simp +decide [own_cf, own_Q, own_at]
end OwnR
theorem own_cfz {z : Int32} {P : Prop} (h : z < 0 ↔ ¬ P) : ((if z < (0 : Int32) then (0 : Int32) else (1 : Int32)) = 0 ∧ ¬ P) ∨ ((if z < (0 : Int32) then (0 : Int32) else (1 : Int32)) = 1 ∧ P) := by
  by_cases a : z < 0
  · rw [if_pos a]; exact Or.inl ⟨rfl, h.mp a⟩
  · rw [if_neg a]; exact Or.inr ⟨rfl, Classical.not_not.mp (fun q => a (h.mpr q))⟩
theorem own_z1 {z : Int32} {P : Prop} (h : (z = 0 ∧ ¬ P) ∨ (z = 1 ∧ P)) (k : P) : z = 1 := h.elim (fun q => absurd k q.2) (fun q => q.1)
theorem own_z0 {z : Int32} {P : Prop} (h : (z = 0 ∧ ¬ P) ∨ (z = 1 ∧ P)) (k : ¬ P) : z = 0 := h.elim (fun q => q.1) (fun q => absurd q.2 k)
theorem own_bn {b : Int32} {P : Prop} (h : b = 0 ↔ ¬ P) (k : ¬ b = 0) : P := Classical.not_not.mp (fun q => k (h.mpr q))
theorem d15_0 : decode method_3_code 0 = .ok (.iload_n 0, 1) := by decide +kernel
theorem d15_1 : decode method_3_code 1 = .ok (.iconst 3, 1) := by decide +kernel
theorem d15_2 : decode method_3_code 2 = .ok (.iand, 1) := by decide +kernel
theorem d15_3 : decode method_3_code 3 = .ok (.istore_n 1, 1) := by decide +kernel
theorem d15_4 : decode method_3_code 4 = .ok (.iload_n 1, 1) := by decide +kernel
theorem d15_5 : decode method_3_code 5 = .ok (.ifCond .ne 6, 3) := by decide +kernel
theorem d15_8 : decode method_3_code 8 = .ok (.bipush 44, 2) := by decide +kernel
theorem d15_10 : decode method_3_code 10 = .ok (.ireturn, 1) := by decide +kernel
theorem d15_11 : decode method_3_code 11 = .ok (.iload_n 1, 1) := by decide +kernel
theorem d15_12 : decode method_3_code 12 = .ok (.iconst 1, 1) := by decide +kernel
theorem d15_13 : decode method_3_code 13 = .ok (.if_icmp .ne 6, 3) := by decide +kernel
theorem d15_16 : decode method_3_code 16 = .ok (.bipush 32, 2) := by decide +kernel
theorem d15_18 : decode method_3_code 18 = .ok (.ireturn, 1) := by decide +kernel
theorem d15_19 : decode method_3_code 19 = .ok (.iload_n 1, 1) := by decide +kernel
theorem d15_20 : decode method_3_code 20 = .ok (.iconst 2, 1) := by decide +kernel
theorem d15_21 : decode method_3_code 21 = .ok (.if_icmp .ne 6, 3) := by decide +kernel
theorem d15_24 : decode method_3_code 24 = .ok (.bipush 9, 2) := by decide +kernel
theorem d15_26 : decode method_3_code 26 = .ok (.ireturn, 1) := by decide +kernel
theorem d15_27 : decode method_3_code 27 = .ok (.iload_n 0, 1) := by decide +kernel
theorem d15_28 : decode method_3_code 28 = .ok (.iconst 2, 1) := by decide +kernel
theorem d15_29 : decode method_3_code 29 = .ok (.iushr, 1) := by decide +kernel
theorem d15_30 : decode method_3_code 30 = .ok (.ldc 40, 2) := by decide +kernel
theorem d15_32 : decode method_3_code 32 = .ok (.iand, 1) := by decide +kernel
theorem d15_33 : decode method_3_code 33 = .ok (.i2c, 1) := by decide +kernel
theorem d15_34 : decode method_3_code 34 = .ok (.ireturn, 1) := by decide +kernel
theorem pn_0 : plainName "com/example/libbisim/libbisim/CursorCommaFollowsPinLaw" = true := by first | (simp [plainName, overriddenIn]; done) | decide +kernel
theorem ef_rmDr (m : MethodId) (x0 : Int32) : entryFrame m #[(.int x0)] 2 = mkF m 0 #[.val (.int x0), .unset] [] := by first | (simp [entryFrame, mkF, argsToLocals, Value.category]; done) | rfl
def Q_rmDr (Z : State) (p0 : Int32) (h0 : Heap) (n0 : Nat) (v : Option Value) (h : Heap) (L : List Loc) : Prop := ∃ x : Int32, own_ch x ∧ v = some (.int x) ∧ Fr n0 L ∧ h = h0
set_option maxRecDepth 65536 in
set_option maxHeartbeats 40000000 in
theorem rmDr (l : Launch) (Z : State) (a0 : Array Value) (hw : ∀ d ∈ tables_1, d.before a0 Z = true) (ws : List Jvm.Cond) (p0 : Int32) (h0 : Heap) (n0 : Nat) (Z0 : n0 ≤ h0.size) :
    MetFree l (⟨"com/example/libbisim/libbisim/CursorCommaFollowsPinLaw", "draw", "(I)C"⟩ : MethodName) (head1 (Jvm.Cond.code (⟨"com/example/libbisim/libbisim/CursorCommaFollowsPinLaw", "draw", "(I)C"⟩ : MethodName) method_3_code 2 (some .char) :: ws) ({ frames := 0, cells := 0, slots := 0, locals := 0 } : Room)) (fun a U => a = #[(.int p0)] ∧ Z.Warmed39 U.vm ∧ U.heap = h0) (fun _ _ _ _ _ => True) (fun _ U o U' => ∃ v L, o = .returned v ∧ Q_rmDr Z p0 h0 n0 v U'.heap L ∧ FrameEnd U o U' L ({ frames := 0, cells := 0, slots := 0, locals := 0 } : Room).cells ({ frames := 0, cells := 0, slots := 0, locals := 0 } : Room).slots) := by
  refine MetFree.of_bodySF (plainFor_of_name pn_0) hisR ?_
  intro p e s m args below meth c s₁ Bd hml0 hP hK
  obtain ⟨rfl, hZ, hh⟩ := hP
  have hx := Bd.exec
  have hby := Bd.bytes
  have hml : c.maxLocals = 2 := hml0
  have hown : s.vm.findClass "com/example/libbisim/libbisim/CursorCommaFollowsPinLaw" = some m.cls := findClass_of_methodNamed Bd.named
  have hnm := (name_of_methodNamed Bd.named Bd.method).1
  have X0 : Stand p l e ({ frames := 0, cells := 0, slots := 0, locals := 0 } : Room) s m #[(.int p0)] below meth c s₁ [] 0 0 := Stand.of_body Bd
  have e0 : s₁.heap = h0 := by rw [← hh, Bd.state]; rfl
  have N0 := Fr.nil n0
  have pre0 : ∀ t, Steps p.tables e below (s₁.setTop (mkF m 0 #[.val (.int p0), .unset] [])) t → Steps p.tables e below (s₁.setTop (entryFrame m #[(.int p0)] 2)) t := fun t k => castTop (ef_rmDr m p0) k
  obtain ⟨fs, hr, hrun, hended, hW, hsame⟩ := X0.leave (v := some (.int (if (p0 &&& (3 : Int32)) = (0 : Int32) then (nar .char (44 : Int32)) else (if (p0 &&& (3 : Int32)) = (1 : Int32) then (nar .char (32 : Int32)) else (if (p0 &&& (3 : Int32)) = (2 : Int32) then (nar .char (9 : Int32)) else (nar .char ((((p0.toUInt32 >>> ((2 : Int32) &&& 31).toUInt32).toInt32) &&& (65535 : Int32)).toUInt32.toUInt16.toUInt32.toInt32))))))) (fun h => by rw [Bd.returns] at h; cases h)
  refine ⟨_, _, pre0 _ ?_, hrun, hended, _, _, rfl, ?_, ⟨_, rfl⟩, hW, hsame.mono (by decide) (by decide)⟩
  · refine XS.iloadN X0.here hx rfl (hb hby d15_0) rfl ?_
    refine XS.iconst X0.here hx rfl (hb hby d15_1) ?_
    refine XS.iand X0.here hx rfl (hb hby d15_2) rfl ?_
    refine XS.istoreN X0.here hx rfl (hb hby d15_3) rfl (l' := #[.val (.int p0), .val (.int (p0 &&& (3 : Int32)))]) rfl ?_
    refine XS.iloadN X0.here hx rfl (hb hby d15_4) rfl ?_
    by_cases hc5 : (p0 &&& (3 : Int32)) = (0 : Int32)
    · rw [if_pos hc5] at hr
      refine XS.ifNo X0.here hx rfl (hb hby d15_5) rfl ((if0 _ _).trans (teq hc5).2) ?_
      refine XS.bipush X0.here hx rfl (hb hby d15_8) ?_
      show Steps p.tables e below (s₁.setTop (mkF m 10 #[.val (.int p0), .val (.int (p0 &&& (3 : Int32)))] [(.int (44 : Int32))])) _
      exact retN X0 hx (t := .char) Bd.returns (by simp) (hb hby d15_10) hr
    · rw [if_neg hc5] at hr
      refine XS.ifYes X0.here hx rfl (pc0 := 5) (pc' := 11) rfl (hb hby d15_5) rfl ((if0 _ _).trans (feq hc5).2) (by decide) (by decide) ?_
      refine XS.iloadN X0.here hx rfl (hb hby d15_11) rfl ?_
      refine XS.iconst X0.here hx rfl (hb hby d15_12) ?_
      by_cases hc13 : (p0 &&& (3 : Int32)) = (1 : Int32)
      · rw [if_pos hc13] at hr
        refine XS.icmpNo X0.here hx rfl (hb hby d15_13) rfl (teq hc13).2 ?_
        refine XS.bipush X0.here hx rfl (hb hby d15_16) ?_
        show Steps p.tables e below (s₁.setTop (mkF m 18 #[.val (.int p0), .val (.int (p0 &&& (3 : Int32)))] [(.int (32 : Int32))])) _
        exact retN X0 hx (t := .char) Bd.returns (by simp) (hb hby d15_18) hr
      · rw [if_neg hc13] at hr
        refine XS.icmpYes X0.here hx rfl (pc0 := 13) (pc' := 19) rfl (hb hby d15_13) rfl (feq hc13).2 (by decide) (by decide) ?_
        refine XS.iloadN X0.here hx rfl (hb hby d15_19) rfl ?_
        refine XS.iconst X0.here hx rfl (hb hby d15_20) ?_
        by_cases hc21 : (p0 &&& (3 : Int32)) = (2 : Int32)
        · rw [if_pos hc21] at hr
          refine XS.icmpNo X0.here hx rfl (hb hby d15_21) rfl (teq hc21).2 ?_
          refine XS.bipush X0.here hx rfl (hb hby d15_24) ?_
          show Steps p.tables e below (s₁.setTop (mkF m 26 #[.val (.int p0), .val (.int (p0 &&& (3 : Int32)))] [(.int (9 : Int32))])) _
          exact retN X0 hx (t := .char) Bd.returns (by simp) (hb hby d15_26) hr
        · rw [if_neg hc21] at hr
          refine XS.icmpYes X0.here hx rfl (pc0 := 21) (pc' := 27) rfl (hb hby d15_21) rfl (feq hc21).2 (by decide) (by decide) ?_
          refine XS.iloadN X0.here hx rfl (hb hby d15_27) rfl ?_
          refine XS.iconst X0.here hx rfl (hb hby d15_28) ?_
          refine XS.iushr X0.here hx rfl (hb hby d15_29) rfl ?_
          refine X0.ldcInt hx hown (mvT hZ (own_w hw 89 rfl)) (g := (mkF m 30 #[.val (.int p0), .val (.int (p0 &&& (3 : Int32)))] [(.int ((p0.toUInt32 >>> ((2 : Int32) &&& 31).toUInt32).toInt32))])) rfl (hb hby d15_30) _ ?_
          refine XS.iand X0.here hx rfl (hb hby d15_32) rfl ?_
          refine XS.i2c X0.here hx rfl (hb hby d15_33) rfl ?_
          show Steps p.tables e below (s₁.setTop (mkF m 34 #[.val (.int p0), .val (.int (p0 &&& (3 : Int32)))] [(.int ((((p0.toUInt32 >>> ((2 : Int32) &&& 31).toUInt32).toInt32) &&& (65535 : Int32)).toUInt32.toUInt16.toUInt32.toInt32))])) _
          exact retN X0 hx (t := .char) Bd.returns (by simp) (hb hby d15_34) hr
  · show Q_rmDr Z p0 h0 n0 _ s₁.heap _
    rw [e0]
    exact ⟨_, own_chi (own_chn _) (own_chi (own_chn _) (own_chi (own_chn _) (own_chn _))), rfl, N0, rfl⟩
theorem d27_0 : decode method_4_code 0 = .ok (.iload_n 1, 1) := by decide +kernel
theorem d27_1 : decode method_4_code 1 = .ok (.aload_n 0, 1) := by decide +kernel
theorem d27_2 : decode method_4_code 2 = .ok (.arraylength, 1) := by decide +kernel
theorem d27_3 : decode method_4_code 3 = .ok (.if_icmp .ge 23, 3) := by decide +kernel
theorem d27_6 : decode method_4_code 6 = .ok (.aload_n 0, 1) := by decide +kernel
theorem d27_7 : decode method_4_code 7 = .ok (.iload_n 1, 1) := by decide +kernel
theorem d27_8 : decode method_4_code 8 = .ok (.caload, 1) := by decide +kernel
theorem d27_9 : decode method_4_code 9 = .ok (.bipush 32, 2) := by decide +kernel
theorem d27_11 : decode method_4_code 11 = .ok (.if_icmp .eq 11, 3) := by decide +kernel
theorem d27_14 : decode method_4_code 14 = .ok (.aload_n 0, 1) := by decide +kernel
theorem d27_15 : decode method_4_code 15 = .ok (.iload_n 1, 1) := by decide +kernel
theorem d27_16 : decode method_4_code 16 = .ok (.caload, 1) := by decide +kernel
theorem d27_17 : decode method_4_code 17 = .ok (.bipush 9, 2) := by decide +kernel
theorem d27_19 : decode method_4_code 19 = .ok (.if_icmp .ne 7, 3) := by decide +kernel
theorem d27_22 : decode method_4_code 22 = .ok (.iconst 1, 1) := by decide +kernel
theorem d27_23 : decode method_4_code 23 = .ok (.goto 4, 3) := by decide +kernel
theorem d27_26 : decode method_4_code 26 = .ok (.iconst 0, 1) := by decide +kernel
theorem d27_27 : decode method_4_code 27 = .ok (.ireturn, 1) := by decide +kernel
theorem ef_rmBa (m : MethodId) (x0 : Addr) (x1 : Int32) : entryFrame m #[(.ref x0), (.int x1)] 2 = mkF m 0 #[.val (.ref x0), .val (.int x1)] [] := by first | (simp [entryFrame, mkF, argsToLocals, Value.category]; done) | rfl
def Q_rmBa (Z : State) (r0 : Addr) (p1 : Int32) (kc : ClassId) (n : Int32) (c0 : Int32) (c1 : Int32) (c2 : Int32) (c3 : Int32) (h0 : Heap) (n0 : Nat) (v : Option Value) (h : Heap) (L : List Loc) : Prop := ∃ b : Int32, (b = 0 ↔ ¬ own_cnd n c0 c1 c2 c3 p1) ∧ v = some (.int b) ∧ Fr n0 L ∧ h = h0
set_option maxRecDepth 65536 in
set_option maxHeartbeats 40000000 in
theorem rmBa (l : Launch) (Z : State) (a0 : Array Value) (hw : ∀ d ∈ tables_1, d.before a0 Z = true) (ws : List Jvm.Cond) (r0 : Addr) (p1 : Int32) (kc : ClassId) (n : Int32) (c0 : Int32) (c1 : Int32) (c2 : Int32) (c3 : Int32) (h0 : Heap) (n0 : Nat) (Z0 : n0 ≤ h0.size) (Vc : Arv Z h0 r0 kc .char n [(.int c0), (.int c1), (.int c2), (.int c3)] (.int (0 : Int32))) (hN : own_n n) (hi : own_n p1) :
    MetFree l (⟨"com/example/libbisim/libbisim/CursorCommaFollowsPinLaw", "blankAt", "([CI)Z"⟩ : MethodName) (head1 (Jvm.Cond.code (⟨"com/example/libbisim/libbisim/CursorCommaFollowsPinLaw", "blankAt", "([CI)Z"⟩ : MethodName) method_4_code 2 (some .boolean) :: ws) ({ frames := 0, cells := 0, slots := 0, locals := 0 } : Room)) (fun a U => a = #[(.ref r0), (.int p1)] ∧ Z.Warmed39 U.vm ∧ U.heap = h0) (fun _ _ _ _ _ => True) (fun _ U o U' => ∃ v L, o = .returned v ∧ Q_rmBa Z r0 p1 kc n c0 c1 c2 c3 h0 n0 v U'.heap L ∧ FrameEnd U o U' L ({ frames := 0, cells := 0, slots := 0, locals := 0 } : Room).cells ({ frames := 0, cells := 0, slots := 0, locals := 0 } : Room).slots) := by
  refine MetFree.of_bodySF (plainFor_of_name pn_0) hisR ?_
  intro p e s m args below meth c s₁ Bd hml0 hP hK
  obtain ⟨rfl, hZ, hh⟩ := hP
  have hx := Bd.exec
  have hby := Bd.bytes
  have hml : c.maxLocals = 2 := hml0
  have hown : s.vm.findClass "com/example/libbisim/libbisim/CursorCommaFollowsPinLaw" = some m.cls := findClass_of_methodNamed Bd.named
  have hnm := (name_of_methodNamed Bd.named Bd.method).1
  have X0 : Stand p l e ({ frames := 0, cells := 0, slots := 0, locals := 0 } : Room) s m #[(.ref r0), (.int p1)] below meth c s₁ [] 0 0 := Stand.of_body Bd
  have e0 : s₁.heap = h0 := by rw [← hh, Bd.state]; rfl
  have N0 := Fr.nil n0
  have pre0 : ∀ t, Steps p.tables e below (s₁.setTop (mkF m 0 #[.val (.ref r0), .val (.int p1)] [])) t → Steps p.tables e below (s₁.setTop (entryFrame m #[(.ref r0), (.int p1)] 2)) t := fun t k => castTop (ef_rmBa m r0 p1) k
  have st1 : own_S p e below s₁ (mkF m 2 #[.val (.ref r0), .val (.int p1)] [(.ref r0), (.int p1)]) (mkF m 0 #[.val (.ref r0), .val (.int p1)] []) := by
    intro target kt
    refine XS.iloadN X0.here hx rfl (hb hby d27_0) rfl ?_
    refine XS.aloadN X0.here hx rfl (hb hby d27_1) rfl rfl ?_
    exact kt
  obtain ⟨cl2, Ar2, qc2, Sz2, Mn2, Hs2, Gs2⟩ := id Vc
  have st2 : own_S p e below s₁ (mkF m 3 #[.val (.ref r0), .val (.int p1)] [(.int n), (.int p1)]) (mkF m 2 #[.val (.ref r0), .val (.int p1)] [(.ref r0), (.int p1)]) := fun target kt => X0.arraylength hx (cell := cl2) (by rw [e0]; exact Ar2.1) (State.isArrayOf_alike hZ.alike Ar2.2.1) (g := (mkF m 2 #[.val (.ref r0), .val (.int p1)] [(.ref r0), (.int p1)])) rfl rfl (hb hby d27_2) _ (by rw [len_of Sz2 Mn2]; exact kt)
  by_cases hl : p1 < n
  · have st3 : own_S p e below s₁ (mkF m 6 #[.val (.ref r0), .val (.int p1)] []) (mkF m 3 #[.val (.ref r0), .val (.int p1)] [(.int n), (.int p1)]) := by
      intro target kt
      refine XS.icmpNo X0.here hx rfl (hb hby d27_3) rfl (tlt hl).2.1 ?_
      exact kt
    have st4 : own_S p e below s₁ (mkF m 8 #[.val (.ref r0), .val (.int p1)] [(.int p1), (.ref r0)]) (mkF m 6 #[.val (.ref r0), .val (.int p1)] []) := by
      intro target kt
      refine XS.aloadN X0.here hx rfl (hb hby d27_6) rfl rfl ?_
      refine XS.iloadN X0.here hx rfl (hb hby d27_7) rfl ?_
      exact kt
    obtain ⟨cl5, Ar5, qc5, Sz5, Mn5, Hs5, Gs5⟩ := id Vc
    have hin5 : ¬ (p1 < 0 ∨ cl5.slots.size ≤ (p1).toNatClampNeg) := inb_of Sz5 ⟨own_nn hi, hl⟩
    have hat5 : cl5.slots[(p1).toNatClampNeg]? = some (.int (own_at p1 c0 c1 c2 c3)) := Hs5.at hin5 (own_gat hi hN hl)
    have st5 : own_S p e below s₁ (mkF m 9 #[.val (.ref r0), .val (.int p1)] [(.int (own_at p1 c0 c1 c2 c3))]) (mkF m 8 #[.val (.ref r0), .val (.int p1)] [(.int p1), (.ref r0)]) := fun target kt => X0.caload hx (j := p1) (v := (.int (own_at p1 c0 c1 c2 c3))) (by rw [e0]; exact Ar5.1) (State.isArrayOf_alike hZ.alike Ar5.2.1) Ar5.2.2 hin5 hat5 (g := (mkF m 8 #[.val (.ref r0), .val (.int p1)] [(.int p1), (.ref r0)])) rfl rfl (hb hby d27_8) _ kt
    have st6 : own_S p e below s₁ (mkF m 11 #[.val (.ref r0), .val (.int p1)] [(.int (32 : Int32)), (.int (own_at p1 c0 c1 c2 c3))]) (mkF m 9 #[.val (.ref r0), .val (.int p1)] [(.int (own_at p1 c0 c1 c2 c3))]) := by
      intro target kt
      refine XS.bipush X0.here hx rfl (hb hby d27_9) ?_
      exact kt
    by_cases b1_ : (own_at p1 c0 c1 c2 c3) = (32 : Int32)
    · have st7 : own_S p e below s₁ (mkF m 22 #[.val (.ref r0), .val (.int p1)] []) (mkF m 11 #[.val (.ref r0), .val (.int p1)] [(.int (32 : Int32)), (.int (own_at p1 c0 c1 c2 c3))]) := by
        intro target kt
        refine XS.icmpYes X0.here hx rfl (pc0 := 11) (pc' := 22) rfl (hb hby d27_11) rfl (teq b1_).1 (by decide) (by decide) ?_
        exact kt
      obtain ⟨fs, hr, hrun, hended, hW, hsame⟩ := X0.leave (v := some (.int (1 : Int32))) (fun h => by rw [Bd.returns] at h; cases h)
      refine ⟨_, _, pre0 _ (st1 _ (st2 _ (st3 _ (st4 _ (st5 _ (st6 _ (st7 _ ?_))))))), hrun, hended, _, _, rfl, ?_, ⟨_, rfl⟩, hW, hsame.mono (by decide) (by decide)⟩
      · refine XS.iconst X0.here hx rfl (hb hby d27_22) ?_
        refine XS.goto X0.here hx rfl (pc0 := 23) (pc' := 27) rfl (hb hby d27_23) (by decide) (by decide) ?_
        show Steps p.tables e below (s₁.setTop (mkF m 27 #[.val (.ref r0), .val (.int p1)] [(.int (1 : Int32))])) _
        exact retN X0 hx (t := .boolean) Bd.returns (by simp) (hb hby d27_27) hr
      · show Q_rmBa Z r0 p1 kc n c0 c1 c2 c3 h0 n0 _ s₁.heap _
        rw [e0]
        exact ⟨_, iff_of_false (by decide) (fun q => q ⟨hl, Or.inl b1_⟩), rfl, N0, rfl⟩
    · have st8 : own_S p e below s₁ (mkF m 14 #[.val (.ref r0), .val (.int p1)] []) (mkF m 11 #[.val (.ref r0), .val (.int p1)] [(.int (32 : Int32)), (.int (own_at p1 c0 c1 c2 c3))]) := by
        intro target kt
        refine XS.icmpNo X0.here hx rfl (hb hby d27_11) rfl (feq b1_).1 ?_
        exact kt
      have st9 : own_S p e below s₁ (mkF m 16 #[.val (.ref r0), .val (.int p1)] [(.int p1), (.ref r0)]) (mkF m 14 #[.val (.ref r0), .val (.int p1)] []) := by
        intro target kt
        refine XS.aloadN X0.here hx rfl (hb hby d27_14) rfl rfl ?_
        refine XS.iloadN X0.here hx rfl (hb hby d27_15) rfl ?_
        exact kt
      obtain ⟨cl10, Ar10, qc10, Sz10, Mn10, Hs10, Gs10⟩ := id Vc
      have hin10 : ¬ (p1 < 0 ∨ cl10.slots.size ≤ (p1).toNatClampNeg) := inb_of Sz10 ⟨own_nn hi, hl⟩
      have hat10 : cl10.slots[(p1).toNatClampNeg]? = some (.int (own_at p1 c0 c1 c2 c3)) := Hs10.at hin10 (own_gat hi hN hl)
      have st10 : own_S p e below s₁ (mkF m 17 #[.val (.ref r0), .val (.int p1)] [(.int (own_at p1 c0 c1 c2 c3))]) (mkF m 16 #[.val (.ref r0), .val (.int p1)] [(.int p1), (.ref r0)]) := fun target kt => X0.caload hx (j := p1) (v := (.int (own_at p1 c0 c1 c2 c3))) (by rw [e0]; exact Ar10.1) (State.isArrayOf_alike hZ.alike Ar10.2.1) Ar10.2.2 hin10 hat10 (g := (mkF m 16 #[.val (.ref r0), .val (.int p1)] [(.int p1), (.ref r0)])) rfl rfl (hb hby d27_16) _ kt
      have st11 : own_S p e below s₁ (mkF m 19 #[.val (.ref r0), .val (.int p1)] [(.int (9 : Int32)), (.int (own_at p1 c0 c1 c2 c3))]) (mkF m 17 #[.val (.ref r0), .val (.int p1)] [(.int (own_at p1 c0 c1 c2 c3))]) := by
        intro target kt
        refine XS.bipush X0.here hx rfl (hb hby d27_17) ?_
        exact kt
      by_cases b2_ : (own_at p1 c0 c1 c2 c3) = (9 : Int32)
      · have st12 : own_S p e below s₁ (mkF m 22 #[.val (.ref r0), .val (.int p1)] []) (mkF m 19 #[.val (.ref r0), .val (.int p1)] [(.int (9 : Int32)), (.int (own_at p1 c0 c1 c2 c3))]) := by
          intro target kt
          refine XS.icmpNo X0.here hx rfl (hb hby d27_19) rfl (teq b2_).2 ?_
          exact kt
        obtain ⟨fs, hr, hrun, hended, hW, hsame⟩ := X0.leave (v := some (.int (1 : Int32))) (fun h => by rw [Bd.returns] at h; cases h)
        refine ⟨_, _, pre0 _ (st1 _ (st2 _ (st3 _ (st4 _ (st5 _ (st6 _ (st8 _ (st9 _ (st10 _ (st11 _ (st12 _ ?_))))))))))), hrun, hended, _, _, rfl, ?_, ⟨_, rfl⟩, hW, hsame.mono (by decide) (by decide)⟩
        · refine XS.iconst X0.here hx rfl (hb hby d27_22) ?_
          refine XS.goto X0.here hx rfl (pc0 := 23) (pc' := 27) rfl (hb hby d27_23) (by decide) (by decide) ?_
          show Steps p.tables e below (s₁.setTop (mkF m 27 #[.val (.ref r0), .val (.int p1)] [(.int (1 : Int32))])) _
          exact retN X0 hx (t := .boolean) Bd.returns (by simp) (hb hby d27_27) hr
        · show Q_rmBa Z r0 p1 kc n c0 c1 c2 c3 h0 n0 _ s₁.heap _
          rw [e0]
          exact ⟨_, iff_of_false (by decide) (fun q => q ⟨hl, Or.inr b2_⟩), rfl, N0, rfl⟩
      · have st13 : own_S p e below s₁ (mkF m 26 #[.val (.ref r0), .val (.int p1)] []) (mkF m 19 #[.val (.ref r0), .val (.int p1)] [(.int (9 : Int32)), (.int (own_at p1 c0 c1 c2 c3))]) := by
          intro target kt
          refine XS.icmpYes X0.here hx rfl (pc0 := 19) (pc' := 26) rfl (hb hby d27_19) rfl (feq b2_).2 (by decide) (by decide) ?_
          exact kt
        obtain ⟨fs, hr, hrun, hended, hW, hsame⟩ := X0.leave (v := some (.int (0 : Int32))) (fun h => by rw [Bd.returns] at h; cases h)
        refine ⟨_, _, pre0 _ (st1 _ (st2 _ (st3 _ (st4 _ (st5 _ (st6 _ (st8 _ (st9 _ (st10 _ (st11 _ (st13 _ ?_))))))))))), hrun, hended, _, _, rfl, ?_, ⟨_, rfl⟩, hW, hsame.mono (by decide) (by decide)⟩
        · refine XS.iconst X0.here hx rfl (hb hby d27_26) ?_
          show Steps p.tables e below (s₁.setTop (mkF m 27 #[.val (.ref r0), .val (.int p1)] [(.int (0 : Int32))])) _
          exact retN X0 hx (t := .boolean) Bd.returns (by simp) (hb hby d27_27) hr
        · show Q_rmBa Z r0 p1 kc n c0 c1 c2 c3 h0 n0 _ s₁.heap _
          rw [e0]
          exact ⟨_, iff_of_true rfl (fun q => q.2.elim b1_ b2_), rfl, N0, rfl⟩
  · have st14 : own_S p e below s₁ (mkF m 26 #[.val (.ref r0), .val (.int p1)] []) (mkF m 3 #[.val (.ref r0), .val (.int p1)] [(.int n), (.int p1)]) := by
      intro target kt
      refine XS.icmpYes X0.here hx rfl (pc0 := 3) (pc' := 26) rfl (hb hby d27_3) rfl (flt hl).2.1 (by decide) (by decide) ?_
      exact kt
    obtain ⟨fs, hr, hrun, hended, hW, hsame⟩ := X0.leave (v := some (.int (0 : Int32))) (fun h => by rw [Bd.returns] at h; cases h)
    refine ⟨_, _, pre0 _ (st1 _ (st2 _ (st14 _ ?_))), hrun, hended, _, _, rfl, ?_, ⟨_, rfl⟩, hW, hsame.mono (by decide) (by decide)⟩
    · refine XS.iconst X0.here hx rfl (hb hby d27_26) ?_
      show Steps p.tables e below (s₁.setTop (mkF m 27 #[.val (.ref r0), .val (.int p1)] [(.int (0 : Int32))])) _
      exact retN X0 hx (t := .boolean) Bd.returns (by simp) (hb hby d27_27) hr
    · show Q_rmBa Z r0 p1 kc n c0 c1 c2 c3 h0 n0 _ s₁.heap _
      rw [e0]
      exact ⟨_, iff_of_true rfl (fun q => hl q.1), rfl, N0, rfl⟩
theorem d26_0 : decode method_5_code 0 = .ok (.iload_n 1, 1) := by decide +kernel
theorem d26_1 : decode method_5_code 1 = .ok (.istore_n 2, 1) := by decide +kernel
theorem d26_2 : decode method_5_code 2 = .ok (.aload_n 0, 1) := by decide +kernel
theorem d26_3 : decode method_5_code 3 = .ok (.iload_n 2, 1) := by decide +kernel
theorem d26_4 : decode method_5_code 4 = .ok (.invokestatic 41, 3) := by decide +kernel
theorem d26_7 : decode method_5_code 7 = .ok (.ifCond .eq 6, 3) := by decide +kernel
theorem d26_10 : decode method_5_code 10 = .ok (.iinc 2 1, 3) := by decide +kernel
theorem d26_13 : decode method_5_code 13 = .ok (.aload_n 0, 1) := by decide +kernel
theorem d26_14 : decode method_5_code 14 = .ok (.iload_n 2, 1) := by decide +kernel
theorem d26_15 : decode method_5_code 15 = .ok (.invokestatic 41, 3) := by decide +kernel
theorem d26_18 : decode method_5_code 18 = .ok (.ifCond .eq 6, 3) := by decide +kernel
theorem d26_21 : decode method_5_code 21 = .ok (.iinc 2 1, 3) := by decide +kernel
theorem d26_24 : decode method_5_code 24 = .ok (.aload_n 0, 1) := by decide +kernel
theorem d26_25 : decode method_5_code 25 = .ok (.iload_n 2, 1) := by decide +kernel
theorem d26_26 : decode method_5_code 26 = .ok (.invokestatic 41, 3) := by decide +kernel
theorem d26_29 : decode method_5_code 29 = .ok (.ifCond .eq 6, 3) := by decide +kernel
theorem d26_32 : decode method_5_code 32 = .ok (.iinc 2 1, 3) := by decide +kernel
theorem d26_35 : decode method_5_code 35 = .ok (.aload_n 0, 1) := by decide +kernel
theorem d26_36 : decode method_5_code 36 = .ok (.iload_n 2, 1) := by decide +kernel
theorem d26_37 : decode method_5_code 37 = .ok (.invokestatic 41, 3) := by decide +kernel
theorem d26_40 : decode method_5_code 40 = .ok (.ifCond .eq 6, 3) := by decide +kernel
theorem d26_43 : decode method_5_code 43 = .ok (.iinc 2 1, 3) := by decide +kernel
theorem d26_46 : decode method_5_code 46 = .ok (.iload_n 2, 1) := by decide +kernel
theorem d26_47 : decode method_5_code 47 = .ok (.ireturn, 1) := by decide +kernel
theorem ef_rmSk (m : MethodId) (x0 : Addr) (x1 : Int32) : entryFrame m #[(.ref x0), (.int x1)] 3 = mkF m 0 #[.val (.ref x0), .val (.int x1), .unset] [] := by first | (simp [entryFrame, mkF, argsToLocals, Value.category]; done) | rfl
def Q_rmSk (Z : State) (r0 : Addr) (p1 : Int32) (kc : ClassId) (n : Int32) (c0 : Int32) (c1 : Int32) (c2 : Int32) (c3 : Int32) (h0 : Heap) (n0 : Nat) (v : Option Value) (h : Heap) (L : List Loc) : Prop := ∃ q : Int32, own_R n c0 c1 c2 c3 5 p1 q ∧ v = some (.int q) ∧ Fr n0 L ∧ h = h0
set_option maxRecDepth 65536 in
set_option maxHeartbeats 40000000 in
theorem rmSk (l : Launch) (Z : State) (a0 : Array Value) (hw : ∀ d ∈ tables_1, d.before a0 Z = true) (ws : List Jvm.Cond) (r0 : Addr) (p1 : Int32) (kc : ClassId) (n : Int32) (c0 : Int32) (c1 : Int32) (c2 : Int32) (c3 : Int32) (h0 : Heap) (n0 : Nat) (Z0 : n0 ≤ h0.size) (Vc : Arv Z h0 r0 kc .char n [(.int c0), (.int c1), (.int c2), (.int c3)] (.int (0 : Int32))) (hN : own_n n) (hi : own_n p1) :
    MetFree l (⟨"com/example/libbisim/libbisim/CursorCommaFollowsPinLaw", "skip", "([CI)I"⟩ : MethodName) (head1 (Jvm.Cond.code (⟨"com/example/libbisim/libbisim/CursorCommaFollowsPinLaw", "skip", "([CI)I"⟩ : MethodName) method_5_code 3 (some .int) :: ws) ({ frames := 1, cells := 0, slots := 0, locals := 13 } : Room)) (fun a U => a = #[(.ref r0), (.int p1)] ∧ Z.Warmed39 U.vm ∧ U.heap = h0) (fun _ _ _ _ _ => True) (fun _ U o U' => ∃ v L, o = .returned v ∧ Q_rmSk Z r0 p1 kc n c0 c1 c2 c3 h0 n0 v U'.heap L ∧ FrameEnd U o U' L ({ frames := 1, cells := 0, slots := 0, locals := 13 } : Room).cells ({ frames := 1, cells := 0, slots := 0, locals := 13 } : Room).slots) := by
  refine MetFree.of_bodySF (plainFor_of_name pn_0) hisR ?_
  intro p e s m args below meth c s₁ Bd hml0 hP hK
  obtain ⟨rfl, hZ, hh⟩ := hP
  have hx := Bd.exec
  have hby := Bd.bytes
  have hml : c.maxLocals = 3 := hml0
  have hown : s.vm.findClass "com/example/libbisim/libbisim/CursorCommaFollowsPinLaw" = some m.cls := findClass_of_methodNamed Bd.named
  have hnm := (name_of_methodNamed Bd.named Bd.method).1
  have X0 : Stand p l e ({ frames := 1, cells := 0, slots := 0, locals := 13 } : Room) s m #[(.ref r0), (.int p1)] below meth c s₁ [] 0 0 := Stand.of_body Bd
  have e0 : s₁.heap = h0 := by rw [← hh, Bd.state]; rfl
  have N0 := Fr.nil n0
  have pre0 : ∀ t, Steps p.tables e below (s₁.setTop (mkF m 0 #[.val (.ref r0), .val (.int p1), .unset] [])) t → Steps p.tables e below (s₁.setTop (entryFrame m #[(.ref r0), (.int p1)] 3)) t := fun t k => castTop (ef_rmSk m r0 p1) k
  have st1 : own_S p e below s₁ (mkF m 4 #[.val (.ref r0), .val (.int p1), .val (.int p1)] [(.int p1), (.ref r0)]) (mkF m 0 #[.val (.ref r0), .val (.int p1), .unset] []) := by
    intro target kt
    refine XS.iloadN X0.here hx rfl (hb hby d26_0) rfl ?_
    refine XS.istoreN X0.here hx rfl (hb hby d26_1) rfl (l' := #[.val (.ref r0), .val (.int p1), .val (.int p1)]) rfl ?_
    refine XS.aloadN X0.here hx rfl (hb hby d26_2) rfl rfl ?_
    refine XS.iloadN X0.here hx rfl (hb hby d26_3) rfl ?_
    exact kt
  obtain ⟨_, _, ⟨T2, L2, k2, n2⟩, -, X2, ⟨Lc2, hQ2, l2, y2, z2⟩, st2⟩ := Jvm.LawKit.callS X0 hx (y := (⟨"com/example/libbisim/libbisim/CursorCommaFollowsPinLaw", "blankAt", "([CI)Z"⟩ : MethodName)) hown (mvT hZ (own_w hw 128 rfl)) (mvT hZ (own_w hw 129 rfl)) (mvT hZ (own_w hw 42 rfl)) (mvT hZ (own_w hw 130 rfl)) (by decide) (backOf (W := 0) (rmBa l Z a0 hw [] r0 p1 kc n c0 c1 c2 c3 h0 n0 Z0 Vc hN hi) hZ (own_w hw 130 rfl) (own_w hw 42 rfl) (by decide) (by decide)) (g := (mkF m 4 #[.val (.ref r0), .val (.int p1), .val (.int p1)] [(.int p1), (.ref r0)])) rfl (by rw [hml]; rfl) (argsL := [(.ref r0), (.int p1)]) (rest := []) (lenOf pd_21 rfl) rfl (by show 2 * 0 + _ ≤ _; exact Nat.le_of_eq rfl) (hb hby d26_4) (fun _ _ => ⟨rfl, e0, (by decide : 0 + 0 ≤ _), (by decide : 0 + 0 ≤ _)⟩)
  dsimp only [Pt.U, Pt.locs, Pt.cells, Pt.slots] at X2 l2 y2 z2 st2 hQ2
  subst l2 y2 z2
  obtain ⟨b2, hb2, rfl, Nq2, e2⟩ := hQ2
  have N2 := Fr.app N0 Nq2
  obtain ⟨qq0, hqq0, st3⟩ : ∃ (qq0 : Int32), qq0 = (if b2 = (0 : Int32) then p1 else (p1 + (1 : Int32))) ∧ own_S p e below T2 (mkF m 13 #[.val (.ref r0), .val (.int p1), .val (.int qq0)] []) (mkF m 7 #[.val (.ref r0), .val (.int p1), .val (.int p1)] [(.int b2)]) := by
    refine ⟨_, rfl, fun target kt => ?_⟩
    by_cases hc7 : b2 = (0 : Int32)
    · rw [if_pos hc7] at kt
      refine XS.ifYes X2.here hx rfl (pc0 := 7) (pc' := 13) rfl (hb hby d26_7) rfl ((if0 _ _).trans (teq hc7).1) (by decide) (by decide) ?_
      exact kt
    · rw [if_neg hc7] at kt
      refine XS.ifNo X2.here hx rfl (hb hby d26_7) rfl ((if0 _ _).trans (feq hc7).1) ?_
      refine XS.iinc X2.here hx rfl (hb hby d26_10) rfl (l' := #[.val (.ref r0), .val (.int p1), .val (.int (p1 + (1 : Int32)))]) rfl ?_
      exact kt
  have s_0 := own_s1 hb2 hqq0
  have hi_0 : own_n qq0 := by
    rcases s_0 with ⟨a, e⟩ | ⟨a, e⟩
    · rw [e]; exact own_nx hi hN a.1
    · rw [e]; exact hi
  have st4 : own_S p e below T2 (mkF m 15 #[.val (.ref r0), .val (.int p1), .val (.int qq0)] [(.int qq0), (.ref r0)]) (mkF m 13 #[.val (.ref r0), .val (.int p1), .val (.int qq0)] []) := by
    intro target kt
    refine XS.aloadN X2.here hx rfl (hb hby d26_13) rfl rfl ?_
    refine XS.iloadN X2.here hx rfl (hb hby d26_14) rfl ?_
    exact kt
  obtain ⟨_, _, ⟨T5, L5, k5, n5⟩, -, X5, ⟨Lc5, hQ5, l5, y5, z5⟩, st5⟩ := Jvm.LawKit.callS X2 hx (y := (⟨"com/example/libbisim/libbisim/CursorCommaFollowsPinLaw", "blankAt", "([CI)Z"⟩ : MethodName)) hown (mvT hZ (own_w hw 128 rfl)) (mvT hZ (own_w hw 129 rfl)) (mvT hZ (own_w hw 42 rfl)) (mvT hZ (own_w hw 130 rfl)) (by decide) (backOf (W := 0) (rmBa l Z a0 hw [] r0 qq0 kc n c0 c1 c2 c3 h0 n0 Z0 Vc hN hi_0) hZ (own_w hw 130 rfl) (own_w hw 42 rfl) (by decide) (by decide)) (g := (mkF m 15 #[.val (.ref r0), .val (.int p1), .val (.int qq0)] [(.int qq0), (.ref r0)])) rfl (by rw [hml]; rfl) (argsL := [(.ref r0), (.int qq0)]) (rest := []) (lenOf pd_21 rfl) rfl (by show 2 * 0 + _ ≤ _; exact Nat.le_of_eq rfl) (hb hby d26_15) (fun _ _ => ⟨rfl, e2, (by decide : 0 + 0 ≤ _), (by decide : 0 + 0 ≤ _)⟩)
  dsimp only [Pt.U, Pt.locs, Pt.cells, Pt.slots] at X5 l5 y5 z5 st5 hQ5
  subst l5 y5 z5
  obtain ⟨b5, hb5, rfl, Nq5, e5⟩ := hQ5
  have N5 := Fr.app N2 Nq5
  obtain ⟨qq1, hqq1, st6⟩ : ∃ (qq1 : Int32), qq1 = (if b5 = (0 : Int32) then qq0 else (qq0 + (1 : Int32))) ∧ own_S p e below T5 (mkF m 24 #[.val (.ref r0), .val (.int p1), .val (.int qq1)] []) (mkF m 18 #[.val (.ref r0), .val (.int p1), .val (.int qq0)] [(.int b5)]) := by
    refine ⟨_, rfl, fun target kt => ?_⟩
    by_cases hc18 : b5 = (0 : Int32)
    · rw [if_pos hc18] at kt
      refine XS.ifYes X5.here hx rfl (pc0 := 18) (pc' := 24) rfl (hb hby d26_18) rfl ((if0 _ _).trans (teq hc18).1) (by decide) (by decide) ?_
      exact kt
    · rw [if_neg hc18] at kt
      refine XS.ifNo X5.here hx rfl (hb hby d26_18) rfl ((if0 _ _).trans (feq hc18).1) ?_
      refine XS.iinc X5.here hx rfl (hb hby d26_21) rfl (l' := #[.val (.ref r0), .val (.int p1), .val (.int (qq0 + (1 : Int32)))]) rfl ?_
      exact kt
  have s_1 := own_s1 hb5 hqq1
  have hi_1 : own_n qq1 := by
    rcases s_1 with ⟨a, e⟩ | ⟨a, e⟩
    · rw [e]; exact own_nx hi_0 hN a.1
    · rw [e]; exact hi_0
  have st7 : own_S p e below T5 (mkF m 26 #[.val (.ref r0), .val (.int p1), .val (.int qq1)] [(.int qq1), (.ref r0)]) (mkF m 24 #[.val (.ref r0), .val (.int p1), .val (.int qq1)] []) := by
    intro target kt
    refine XS.aloadN X5.here hx rfl (hb hby d26_24) rfl rfl ?_
    refine XS.iloadN X5.here hx rfl (hb hby d26_25) rfl ?_
    exact kt
  obtain ⟨_, _, ⟨T8, L8, k8, n8⟩, -, X8, ⟨Lc8, hQ8, l8, y8, z8⟩, st8⟩ := Jvm.LawKit.callS X5 hx (y := (⟨"com/example/libbisim/libbisim/CursorCommaFollowsPinLaw", "blankAt", "([CI)Z"⟩ : MethodName)) hown (mvT hZ (own_w hw 128 rfl)) (mvT hZ (own_w hw 129 rfl)) (mvT hZ (own_w hw 42 rfl)) (mvT hZ (own_w hw 130 rfl)) (by decide) (backOf (W := 0) (rmBa l Z a0 hw [] r0 qq1 kc n c0 c1 c2 c3 h0 n0 Z0 Vc hN hi_1) hZ (own_w hw 130 rfl) (own_w hw 42 rfl) (by decide) (by decide)) (g := (mkF m 26 #[.val (.ref r0), .val (.int p1), .val (.int qq1)] [(.int qq1), (.ref r0)])) rfl (by rw [hml]; rfl) (argsL := [(.ref r0), (.int qq1)]) (rest := []) (lenOf pd_21 rfl) rfl (by show 2 * 0 + _ ≤ _; exact Nat.le_of_eq rfl) (hb hby d26_26) (fun _ _ => ⟨rfl, e5, (by decide : 0 + 0 ≤ _), (by decide : 0 + 0 ≤ _)⟩)
  dsimp only [Pt.U, Pt.locs, Pt.cells, Pt.slots] at X8 l8 y8 z8 st8 hQ8
  subst l8 y8 z8
  obtain ⟨b8, hb8, rfl, Nq8, e8⟩ := hQ8
  have N8 := Fr.app N5 Nq8
  obtain ⟨qq2, hqq2, st9⟩ : ∃ (qq2 : Int32), qq2 = (if b8 = (0 : Int32) then qq1 else (qq1 + (1 : Int32))) ∧ own_S p e below T8 (mkF m 35 #[.val (.ref r0), .val (.int p1), .val (.int qq2)] []) (mkF m 29 #[.val (.ref r0), .val (.int p1), .val (.int qq1)] [(.int b8)]) := by
    refine ⟨_, rfl, fun target kt => ?_⟩
    by_cases hc29 : b8 = (0 : Int32)
    · rw [if_pos hc29] at kt
      refine XS.ifYes X8.here hx rfl (pc0 := 29) (pc' := 35) rfl (hb hby d26_29) rfl ((if0 _ _).trans (teq hc29).1) (by decide) (by decide) ?_
      exact kt
    · rw [if_neg hc29] at kt
      refine XS.ifNo X8.here hx rfl (hb hby d26_29) rfl ((if0 _ _).trans (feq hc29).1) ?_
      refine XS.iinc X8.here hx rfl (hb hby d26_32) rfl (l' := #[.val (.ref r0), .val (.int p1), .val (.int (qq1 + (1 : Int32)))]) rfl ?_
      exact kt
  have s_2 := own_s1 hb8 hqq2
  have hi_2 : own_n qq2 := by
    rcases s_2 with ⟨a, e⟩ | ⟨a, e⟩
    · rw [e]; exact own_nx hi_1 hN a.1
    · rw [e]; exact hi_1
  have st10 : own_S p e below T8 (mkF m 37 #[.val (.ref r0), .val (.int p1), .val (.int qq2)] [(.int qq2), (.ref r0)]) (mkF m 35 #[.val (.ref r0), .val (.int p1), .val (.int qq2)] []) := by
    intro target kt
    refine XS.aloadN X8.here hx rfl (hb hby d26_35) rfl rfl ?_
    refine XS.iloadN X8.here hx rfl (hb hby d26_36) rfl ?_
    exact kt
  obtain ⟨_, _, ⟨T11, L11, k11, n11⟩, -, X11, ⟨Lc11, hQ11, l11, y11, z11⟩, st11⟩ := Jvm.LawKit.callS X8 hx (y := (⟨"com/example/libbisim/libbisim/CursorCommaFollowsPinLaw", "blankAt", "([CI)Z"⟩ : MethodName)) hown (mvT hZ (own_w hw 128 rfl)) (mvT hZ (own_w hw 129 rfl)) (mvT hZ (own_w hw 42 rfl)) (mvT hZ (own_w hw 130 rfl)) (by decide) (backOf (W := 0) (rmBa l Z a0 hw [] r0 qq2 kc n c0 c1 c2 c3 h0 n0 Z0 Vc hN hi_2) hZ (own_w hw 130 rfl) (own_w hw 42 rfl) (by decide) (by decide)) (g := (mkF m 37 #[.val (.ref r0), .val (.int p1), .val (.int qq2)] [(.int qq2), (.ref r0)])) rfl (by rw [hml]; rfl) (argsL := [(.ref r0), (.int qq2)]) (rest := []) (lenOf pd_21 rfl) rfl (by show 2 * 0 + _ ≤ _; exact Nat.le_of_eq rfl) (hb hby d26_37) (fun _ _ => ⟨rfl, e8, (by decide : 0 + 0 ≤ _), (by decide : 0 + 0 ≤ _)⟩)
  dsimp only [Pt.U, Pt.locs, Pt.cells, Pt.slots] at X11 l11 y11 z11 st11 hQ11
  subst l11 y11 z11
  obtain ⟨b11, hb11, rfl, Nq11, e11⟩ := hQ11
  have N11 := Fr.app N8 Nq11
  obtain ⟨qq3, hqq3, st12⟩ : ∃ (qq3 : Int32), qq3 = (if b11 = (0 : Int32) then qq2 else (qq2 + (1 : Int32))) ∧ own_S p e below T11 (mkF m 46 #[.val (.ref r0), .val (.int p1), .val (.int qq3)] []) (mkF m 40 #[.val (.ref r0), .val (.int p1), .val (.int qq2)] [(.int b11)]) := by
    refine ⟨_, rfl, fun target kt => ?_⟩
    by_cases hc40 : b11 = (0 : Int32)
    · rw [if_pos hc40] at kt
      refine XS.ifYes X11.here hx rfl (pc0 := 40) (pc' := 46) rfl (hb hby d26_40) rfl ((if0 _ _).trans (teq hc40).1) (by decide) (by decide) ?_
      exact kt
    · rw [if_neg hc40] at kt
      refine XS.ifNo X11.here hx rfl (hb hby d26_40) rfl ((if0 _ _).trans (feq hc40).1) ?_
      refine XS.iinc X11.here hx rfl (hb hby d26_43) rfl (l' := #[.val (.ref r0), .val (.int p1), .val (.int (qq2 + (1 : Int32)))]) rfl ?_
      exact kt
  have s_3 := own_s1 hb11 hqq3
  have hi_3 : own_n qq3 := by
    rcases s_3 with ⟨a, e⟩ | ⟨a, e⟩
    · rw [e]; exact own_nx hi_2 hN a.1
    · rw [e]; exact hi_2
  obtain ⟨fs, hr, hrun, hended, hW, hsame⟩ := X11.leave (v := some (.int qq3)) (fun h => by rw [Bd.returns] at h; cases h)
  refine ⟨_, _, pre0 _ (st1 _ (st2 _ (st3 _ (st4 _ (st5 _ (st6 _ (st7 _ (st8 _ (st9 _ (st10 _ (st11 _ (st12 _ ?_)))))))))))), hrun, hended, _, _, rfl, ?_, ⟨_, rfl⟩, hW, hsame.mono (by decide) (by decide)⟩
  · refine XS.iloadN X11.here hx rfl (hb hby d26_46) rfl ?_
    show Steps p.tables e below (T11.setTop (mkF m 47 #[.val (.ref r0), .val (.int p1), .val (.int qq3)] [(.int qq3)])) _
    exact retI X11 hx Bd.returns (hb hby d26_47) hr
  · show Q_rmSk Z r0 p1 kc n c0 c1 c2 c3 h0 n0 _ T11.heap _
    rw [e11]
    exact ⟨_, own_s5 hi hN s_0 s_1 s_2 s_3, rfl, N11, rfl⟩
theorem d5_0 : decode method_7_code 0 = .ok (.iload_n 1, 1) := by decide +kernel
theorem d5_1 : decode method_7_code 1 = .ok (.iload_n 2, 1) := by decide +kernel
theorem d5_2 : decode method_7_code 2 = .ok (.if_icmp .lt 21, 3) := by decide +kernel
theorem d5_5 : decode method_7_code 5 = .ok (.iload_n 1, 1) := by decide +kernel
theorem d5_6 : decode method_7_code 6 = .ok (.aload_n 0, 1) := by decide +kernel
theorem d5_7 : decode method_7_code 7 = .ok (.arraylength, 1) := by decide +kernel
theorem d5_8 : decode method_7_code 8 = .ok (.if_icmp .ge 15, 3) := by decide +kernel
theorem d5_11 : decode method_7_code 11 = .ok (.aload_n 0, 1) := by decide +kernel
theorem d5_12 : decode method_7_code 12 = .ok (.iload_n 1, 1) := by decide +kernel
theorem d5_13 : decode method_7_code 13 = .ok (.caload, 1) := by decide +kernel
theorem d5_14 : decode method_7_code 14 = .ok (.bipush 44, 2) := by decide +kernel
theorem d5_16 : decode method_7_code 16 = .ok (.if_icmp .ne 7, 3) := by decide +kernel
theorem d5_19 : decode method_7_code 19 = .ok (.iconst 1, 1) := by decide +kernel
theorem d5_20 : decode method_7_code 20 = .ok (.goto 4, 3) := by decide +kernel
theorem d5_23 : decode method_7_code 23 = .ok (.iconst 0, 1) := by decide +kernel
theorem d5_24 : decode method_7_code 24 = .ok (.ireturn, 1) := by decide +kernel
theorem ef_rmCa (m : MethodId) (x0 : Addr) (x1 : Int32) (x2 : Int32) : entryFrame m #[(.ref x0), (.int x1), (.int x2)] 3 = mkF m 0 #[.val (.ref x0), .val (.int x1), .val (.int x2)] [] := by first | (simp [entryFrame, mkF, argsToLocals, Value.category]; done) | rfl
def Q_rmCa (Z : State) (r0 : Addr) (p1 : Int32) (p2 : Int32) (kc : ClassId) (n : Int32) (c0 : Int32) (c1 : Int32) (c2 : Int32) (c3 : Int32) (h0 : Heap) (n0 : Nat) (v : Option Value) (h : Heap) (L : List Loc) : Prop := ∃ b : Int32, (b = 0 ↔ ¬ own_Q n c0 c1 c2 c3 p2 p1) ∧ v = some (.int b) ∧ Fr n0 L ∧ h = h0
set_option maxRecDepth 65536 in
set_option maxHeartbeats 40000000 in
theorem rmCa (l : Launch) (Z : State) (a0 : Array Value) (hw : ∀ d ∈ tables_1, d.before a0 Z = true) (ws : List Jvm.Cond) (r0 : Addr) (p1 : Int32) (p2 : Int32) (kc : ClassId) (n : Int32) (c0 : Int32) (c1 : Int32) (c2 : Int32) (c3 : Int32) (h0 : Heap) (n0 : Nat) (Z0 : n0 ≤ h0.size) (Vc : Arv Z h0 r0 kc .char n [(.int c0), (.int c1), (.int c2), (.int c3)] (.int (0 : Int32))) (hN : own_n n) (hi : own_n p1) :
    MetFree l (⟨"com/example/libbisim/libbisim/CursorCommaFollowsPinLaw", "commaAt", "([CII)Z"⟩ : MethodName) (head1 (Jvm.Cond.code (⟨"com/example/libbisim/libbisim/CursorCommaFollowsPinLaw", "commaAt", "([CII)Z"⟩ : MethodName) method_7_code 3 (some .boolean) :: ws) ({ frames := 0, cells := 0, slots := 0, locals := 0 } : Room)) (fun a U => a = #[(.ref r0), (.int p1), (.int p2)] ∧ Z.Warmed39 U.vm ∧ U.heap = h0) (fun _ _ _ _ _ => True) (fun _ U o U' => ∃ v L, o = .returned v ∧ Q_rmCa Z r0 p1 p2 kc n c0 c1 c2 c3 h0 n0 v U'.heap L ∧ FrameEnd U o U' L ({ frames := 0, cells := 0, slots := 0, locals := 0 } : Room).cells ({ frames := 0, cells := 0, slots := 0, locals := 0 } : Room).slots) := by
  refine MetFree.of_bodySF (plainFor_of_name pn_0) hisR ?_
  intro p e s m args below meth c s₁ Bd hml0 hP hK
  obtain ⟨rfl, hZ, hh⟩ := hP
  have hx := Bd.exec
  have hby := Bd.bytes
  have hml : c.maxLocals = 3 := hml0
  have hown : s.vm.findClass "com/example/libbisim/libbisim/CursorCommaFollowsPinLaw" = some m.cls := findClass_of_methodNamed Bd.named
  have hnm := (name_of_methodNamed Bd.named Bd.method).1
  have X0 : Stand p l e ({ frames := 0, cells := 0, slots := 0, locals := 0 } : Room) s m #[(.ref r0), (.int p1), (.int p2)] below meth c s₁ [] 0 0 := Stand.of_body Bd
  have e0 : s₁.heap = h0 := by rw [← hh, Bd.state]; rfl
  have N0 := Fr.nil n0
  have pre0 : ∀ t, Steps p.tables e below (s₁.setTop (mkF m 0 #[.val (.ref r0), .val (.int p1), .val (.int p2)] [])) t → Steps p.tables e below (s₁.setTop (entryFrame m #[(.ref r0), (.int p1), (.int p2)] 3)) t := fun t k => castTop (ef_rmCa m r0 p1 p2) k
  have st1 : own_S p e below s₁ (mkF m 2 #[.val (.ref r0), .val (.int p1), .val (.int p2)] [(.int p2), (.int p1)]) (mkF m 0 #[.val (.ref r0), .val (.int p1), .val (.int p2)] []) := by
    intro target kt
    refine XS.iloadN X0.here hx rfl (hb hby d5_0) rfl ?_
    refine XS.iloadN X0.here hx rfl (hb hby d5_1) rfl ?_
    exact kt
  by_cases g1_ : p1 < p2
  · have st2 : own_S p e below s₁ (mkF m 23 #[.val (.ref r0), .val (.int p1), .val (.int p2)] []) (mkF m 2 #[.val (.ref r0), .val (.int p1), .val (.int p2)] [(.int p2), (.int p1)]) := by
      intro target kt
      refine XS.icmpYes X0.here hx rfl (pc0 := 2) (pc' := 23) rfl (hb hby d5_2) rfl (tlt g1_).1 (by decide) (by decide) ?_
      exact kt
    obtain ⟨fs, hr, hrun, hended, hW, hsame⟩ := X0.leave (v := some (.int (0 : Int32))) (fun h => by rw [Bd.returns] at h; cases h)
    refine ⟨_, _, pre0 _ (st1 _ (st2 _ ?_)), hrun, hended, _, _, rfl, ?_, ⟨_, rfl⟩, hW, hsame.mono (by decide) (by decide)⟩
    · refine XS.iconst X0.here hx rfl (hb hby d5_23) ?_
      show Steps p.tables e below (s₁.setTop (mkF m 24 #[.val (.ref r0), .val (.int p1), .val (.int p2)] [(.int (0 : Int32))])) _
      exact retN X0 hx (t := .boolean) Bd.returns (by simp) (hb hby d5_24) hr
    · show Q_rmCa Z r0 p1 p2 kc n c0 c1 c2 c3 h0 n0 _ s₁.heap _
      rw [e0]
      exact ⟨_, iff_of_true rfl (fun q => q.1 g1_), rfl, N0, rfl⟩
  · have st3 : own_S p e below s₁ (mkF m 5 #[.val (.ref r0), .val (.int p1), .val (.int p2)] []) (mkF m 2 #[.val (.ref r0), .val (.int p1), .val (.int p2)] [(.int p2), (.int p1)]) := by
      intro target kt
      refine XS.icmpNo X0.here hx rfl (hb hby d5_2) rfl (flt g1_).1 ?_
      exact kt
    have st4 : own_S p e below s₁ (mkF m 7 #[.val (.ref r0), .val (.int p1), .val (.int p2)] [(.ref r0), (.int p1)]) (mkF m 5 #[.val (.ref r0), .val (.int p1), .val (.int p2)] []) := by
      intro target kt
      refine XS.iloadN X0.here hx rfl (hb hby d5_5) rfl ?_
      refine XS.aloadN X0.here hx rfl (hb hby d5_6) rfl rfl ?_
      exact kt
    obtain ⟨cl5, Ar5, qc5, Sz5, Mn5, Hs5, Gs5⟩ := id Vc
    have st5 : own_S p e below s₁ (mkF m 8 #[.val (.ref r0), .val (.int p1), .val (.int p2)] [(.int n), (.int p1)]) (mkF m 7 #[.val (.ref r0), .val (.int p1), .val (.int p2)] [(.ref r0), (.int p1)]) := fun target kt => X0.arraylength hx (cell := cl5) (by rw [e0]; exact Ar5.1) (State.isArrayOf_alike hZ.alike Ar5.2.1) (g := (mkF m 7 #[.val (.ref r0), .val (.int p1), .val (.int p2)] [(.ref r0), (.int p1)])) rfl rfl (hb hby d5_7) _ (by rw [len_of Sz5 Mn5]; exact kt)
    by_cases hl : p1 < n
    · have st6 : own_S p e below s₁ (mkF m 11 #[.val (.ref r0), .val (.int p1), .val (.int p2)] []) (mkF m 8 #[.val (.ref r0), .val (.int p1), .val (.int p2)] [(.int n), (.int p1)]) := by
        intro target kt
        refine XS.icmpNo X0.here hx rfl (hb hby d5_8) rfl (tlt hl).2.1 ?_
        exact kt
      have st7 : own_S p e below s₁ (mkF m 13 #[.val (.ref r0), .val (.int p1), .val (.int p2)] [(.int p1), (.ref r0)]) (mkF m 11 #[.val (.ref r0), .val (.int p1), .val (.int p2)] []) := by
        intro target kt
        refine XS.aloadN X0.here hx rfl (hb hby d5_11) rfl rfl ?_
        refine XS.iloadN X0.here hx rfl (hb hby d5_12) rfl ?_
        exact kt
      obtain ⟨cl8, Ar8, qc8, Sz8, Mn8, Hs8, Gs8⟩ := id Vc
      have hin8 : ¬ (p1 < 0 ∨ cl8.slots.size ≤ (p1).toNatClampNeg) := inb_of Sz8 ⟨own_nn hi, hl⟩
      have hat8 : cl8.slots[(p1).toNatClampNeg]? = some (.int (own_at p1 c0 c1 c2 c3)) := Hs8.at hin8 (own_gat hi hN hl)
      have st8 : own_S p e below s₁ (mkF m 14 #[.val (.ref r0), .val (.int p1), .val (.int p2)] [(.int (own_at p1 c0 c1 c2 c3))]) (mkF m 13 #[.val (.ref r0), .val (.int p1), .val (.int p2)] [(.int p1), (.ref r0)]) := fun target kt => X0.caload hx (j := p1) (v := (.int (own_at p1 c0 c1 c2 c3))) (by rw [e0]; exact Ar8.1) (State.isArrayOf_alike hZ.alike Ar8.2.1) Ar8.2.2 hin8 hat8 (g := (mkF m 13 #[.val (.ref r0), .val (.int p1), .val (.int p2)] [(.int p1), (.ref r0)])) rfl rfl (hb hby d5_13) _ kt
      have st9 : own_S p e below s₁ (mkF m 16 #[.val (.ref r0), .val (.int p1), .val (.int p2)] [(.int (44 : Int32)), (.int (own_at p1 c0 c1 c2 c3))]) (mkF m 14 #[.val (.ref r0), .val (.int p1), .val (.int p2)] [(.int (own_at p1 c0 c1 c2 c3))]) := by
        intro target kt
        refine XS.bipush X0.here hx rfl (hb hby d5_14) ?_
        exact kt
      by_cases g3_ : (own_at p1 c0 c1 c2 c3) = (44 : Int32)
      · have st10 : own_S p e below s₁ (mkF m 19 #[.val (.ref r0), .val (.int p1), .val (.int p2)] []) (mkF m 16 #[.val (.ref r0), .val (.int p1), .val (.int p2)] [(.int (44 : Int32)), (.int (own_at p1 c0 c1 c2 c3))]) := by
          intro target kt
          refine XS.icmpNo X0.here hx rfl (hb hby d5_16) rfl (teq g3_).2 ?_
          exact kt
        obtain ⟨fs, hr, hrun, hended, hW, hsame⟩ := X0.leave (v := some (.int (1 : Int32))) (fun h => by rw [Bd.returns] at h; cases h)
        refine ⟨_, _, pre0 _ (st1 _ (st3 _ (st4 _ (st5 _ (st6 _ (st7 _ (st8 _ (st9 _ (st10 _ ?_))))))))), hrun, hended, _, _, rfl, ?_, ⟨_, rfl⟩, hW, hsame.mono (by decide) (by decide)⟩
        · refine XS.iconst X0.here hx rfl (hb hby d5_19) ?_
          refine XS.goto X0.here hx rfl (pc0 := 20) (pc' := 24) rfl (hb hby d5_20) (by decide) (by decide) ?_
          show Steps p.tables e below (s₁.setTop (mkF m 24 #[.val (.ref r0), .val (.int p1), .val (.int p2)] [(.int (1 : Int32))])) _
          exact retN X0 hx (t := .boolean) Bd.returns (by simp) (hb hby d5_24) hr
        · show Q_rmCa Z r0 p1 p2 kc n c0 c1 c2 c3 h0 n0 _ s₁.heap _
          rw [e0]
          exact ⟨_, iff_of_false (by decide) (fun q => q ⟨g1_, hl, g3_⟩), rfl, N0, rfl⟩
      · have st11 : own_S p e below s₁ (mkF m 23 #[.val (.ref r0), .val (.int p1), .val (.int p2)] []) (mkF m 16 #[.val (.ref r0), .val (.int p1), .val (.int p2)] [(.int (44 : Int32)), (.int (own_at p1 c0 c1 c2 c3))]) := by
          intro target kt
          refine XS.icmpYes X0.here hx rfl (pc0 := 16) (pc' := 23) rfl (hb hby d5_16) rfl (feq g3_).2 (by decide) (by decide) ?_
          exact kt
        obtain ⟨fs, hr, hrun, hended, hW, hsame⟩ := X0.leave (v := some (.int (0 : Int32))) (fun h => by rw [Bd.returns] at h; cases h)
        refine ⟨_, _, pre0 _ (st1 _ (st3 _ (st4 _ (st5 _ (st6 _ (st7 _ (st8 _ (st9 _ (st11 _ ?_))))))))), hrun, hended, _, _, rfl, ?_, ⟨_, rfl⟩, hW, hsame.mono (by decide) (by decide)⟩
        · refine XS.iconst X0.here hx rfl (hb hby d5_23) ?_
          show Steps p.tables e below (s₁.setTop (mkF m 24 #[.val (.ref r0), .val (.int p1), .val (.int p2)] [(.int (0 : Int32))])) _
          exact retN X0 hx (t := .boolean) Bd.returns (by simp) (hb hby d5_24) hr
        · show Q_rmCa Z r0 p1 p2 kc n c0 c1 c2 c3 h0 n0 _ s₁.heap _
          rw [e0]
          exact ⟨_, iff_of_true rfl (fun q => g3_ q.2.2), rfl, N0, rfl⟩
    · have st12 : own_S p e below s₁ (mkF m 23 #[.val (.ref r0), .val (.int p1), .val (.int p2)] []) (mkF m 8 #[.val (.ref r0), .val (.int p1), .val (.int p2)] [(.int n), (.int p1)]) := by
        intro target kt
        refine XS.icmpYes X0.here hx rfl (pc0 := 8) (pc' := 23) rfl (hb hby d5_8) rfl (flt hl).2.1 (by decide) (by decide) ?_
        exact kt
      obtain ⟨fs, hr, hrun, hended, hW, hsame⟩ := X0.leave (v := some (.int (0 : Int32))) (fun h => by rw [Bd.returns] at h; cases h)
      refine ⟨_, _, pre0 _ (st1 _ (st3 _ (st4 _ (st5 _ (st12 _ ?_))))), hrun, hended, _, _, rfl, ?_, ⟨_, rfl⟩, hW, hsame.mono (by decide) (by decide)⟩
      · refine XS.iconst X0.here hx rfl (hb hby d5_23) ?_
        show Steps p.tables e below (s₁.setTop (mkF m 24 #[.val (.ref r0), .val (.int p1), .val (.int p2)] [(.int (0 : Int32))])) _
        exact retN X0 hx (t := .boolean) Bd.returns (by simp) (hb hby d5_24) hr
      · show Q_rmCa Z r0 p1 p2 kc n c0 c1 c2 c3 h0 n0 _ s₁.heap _
        rw [e0]
        exact ⟨_, iff_of_true rfl (fun q => hl q.2.1), rfl, N0, rfl⟩
theorem d22_0 : decode jdk_52_method_3_code 0 = .ok (.iload_n 0, 1) := by decide +kernel
theorem d22_1 : decode jdk_52_method_3_code 1 = .ok (.ifCond .ge 11, 3) := by decide +kernel
theorem d22_12 : decode jdk_52_method_3_code 12 = .ok (.iload_n 0, 1) := by decide +kernel
theorem d22_13 : decode jdk_52_method_3_code 13 = .ok (.ldc 20, 2) := by decide +kernel
theorem d22_15 : decode jdk_52_method_3_code 15 = .ok (.if_icmp .lt 40, 3) := by decide +kernel
theorem d22_55 : decode jdk_52_method_3_code 55 = .ok (.iload_n 0, 1) := by decide +kernel
theorem d22_56 : decode jdk_52_method_3_code 56 = .ok (.iconst 1, 1) := by decide +kernel
theorem d22_57 : decode jdk_52_method_3_code 57 = .ok (.ishl, 1) := by decide +kernel
theorem d22_58 : decode jdk_52_method_3_code 58 = .ok (.ireturn, 1) := by decide +kernel
theorem pn_1 : plainName "java/lang/StringUTF16" = true := by first | (simp [plainName, overriddenIn]; done) | decide +kernel
theorem ef_rmNl (m : MethodId) (x0 : Int32) : entryFrame m #[(.int x0)] 1 = mkF m 0 #[.val (.int x0)] [] := by first | (simp [entryFrame, mkF, argsToLocals, Value.category]; done) | rfl
def Q_rmNl (Z : State) (p0 : Int32) (h0 : Heap) (n0 : Nat) (v : Option Value) (h : Heap) (L : List Loc) : Prop := v = some (.int (p0 + p0)) ∧ Fr n0 L ∧ h = h0
set_option maxRecDepth 65536 in
set_option maxHeartbeats 40000000 in
theorem rmNl (l : Launch) (Z : State) (a0 : Array Value) (hw : ∀ d ∈ tables_1, d.before a0 Z = true) (ws : List Jvm.Cond) (p0 : Int32) (h0 : Heap) (n0 : Nat) (Z0 : n0 ≤ h0.size) (hN : own_n p0) :
    MetFree l (⟨"java/lang/StringUTF16", "newBytesLength", "(I)I"⟩ : MethodName) (head1 (Jvm.Cond.code (⟨"java/lang/StringUTF16", "newBytesLength", "(I)I"⟩ : MethodName) jdk_52_method_3_code 1 (some .int) :: ws) ({ frames := 0, cells := 0, slots := 0, locals := 0 } : Room)) (fun a U => a = #[(.int p0)] ∧ Z.Warmed39 U.vm ∧ U.heap = h0) (fun _ _ _ _ _ => True) (fun _ U o U' => ∃ v L, o = .returned v ∧ Q_rmNl Z p0 h0 n0 v U'.heap L ∧ FrameEnd U o U' L ({ frames := 0, cells := 0, slots := 0, locals := 0 } : Room).cells ({ frames := 0, cells := 0, slots := 0, locals := 0 } : Room).slots) := by
  refine MetFree.of_bodySF (plainFor_of_name pn_1) hisR ?_
  intro p e s m args below meth c s₁ Bd hml0 hP hK
  obtain ⟨rfl, hZ, hh⟩ := hP
  have hx := Bd.exec
  have hby := Bd.bytes
  have hml : c.maxLocals = 1 := hml0
  have hown : s.vm.findClass "java/lang/StringUTF16" = some m.cls := findClass_of_methodNamed Bd.named
  have hnm := (name_of_methodNamed Bd.named Bd.method).1
  have X0 : Stand p l e ({ frames := 0, cells := 0, slots := 0, locals := 0 } : Room) s m #[(.int p0)] below meth c s₁ [] 0 0 := Stand.of_body Bd
  have e0 : s₁.heap = h0 := by rw [← hh, Bd.state]; rfl
  have N0 := Fr.nil n0
  have pre0 : ∀ t, Steps p.tables e below (s₁.setTop (mkF m 0 #[.val (.int p0)] [])) t → Steps p.tables e below (s₁.setTop (entryFrame m #[(.int p0)] 1)) t := fun t k => castTop (ef_rmNl m p0) k
  obtain ⟨fs, hr, hrun, hended, hW, hsame⟩ := X0.leave (v := some (.int (p0 <<< ((1 : Int32) &&& 31)))) (fun h => by rw [Bd.returns] at h; cases h)
  refine ⟨_, _, pre0 _ ?_, hrun, hended, _, _, rfl, ?_, ⟨_, rfl⟩, hW, hsame.mono (by decide) (by decide)⟩
  · refine XS.iloadN X0.here hx rfl (hb hby d22_0) rfl ?_
    refine XS.ifYes X0.here hx rfl (pc0 := 1) (pc' := 12) rfl (hb hby d22_1) rfl ((if0 _ _).trans (flt (own_nn hN)).2.1) (by decide) (by decide) ?_
    refine XS.iloadN X0.here hx rfl (hb hby d22_12) rfl ?_
    refine X0.ldcInt hx hown (mvT hZ (own_w hw 112 rfl)) (g := (mkF m 13 #[.val (.int p0)] [(.int p0)])) rfl (hb hby d22_13) _ ?_
    refine XS.icmpYes X0.here hx rfl (pc0 := 15) (pc' := 55) rfl (hb hby d22_15) rfl (tlt (own_big hN)).1 (by decide) (by decide) ?_
    refine XS.iloadN X0.here hx rfl (hb hby d22_55) rfl ?_
    refine XS.iconst X0.here hx rfl (hb hby d22_56) ?_
    refine XS.ishl X0.here hx rfl (hb hby d22_57) rfl ?_
    show Steps p.tables e below (s₁.setTop (mkF m 58 #[.val (.int p0)] [(.int (p0 <<< ((1 : Int32) &&& 31)))])) _
    exact retI X0 hx Bd.returns (hb hby d22_58) hr
  · show Q_rmNl Z p0 h0 n0 _ s₁.heap _
    rw [e0]
    exact ⟨congrArg (fun z => some (Value.int z)) (own_dbl hN), N0, rfl⟩
theorem d21_0 : decode jdk_52_method_2_code 0 = .ok (.iload_n 0, 1) := by decide +kernel
theorem d21_1 : decode jdk_52_method_2_code 1 = .ok (.invokestatic 11, 3) := by decide +kernel
theorem d21_4 : decode jdk_52_method_2_code 4 = .ok (.newarray .byte, 2) := by decide +kernel
theorem d21_6 : decode jdk_52_method_2_code 6 = .ok (.areturn, 1) := by decide +kernel
theorem ef_rmNb (m : MethodId) (x0 : Int32) : entryFrame m #[(.int x0)] 1 = mkF m 0 #[.val (.int x0)] [] := by first | (simp [entryFrame, mkF, argsToLocals, Value.category]; done) | rfl
def Q_rmNb (Z : State) (p0 : Int32) (h0 : Heap) (n0 : Nat) (v : Option Value) (h : Heap) (L : List Loc) : Prop := ∃ y, v = some (.ref y) ∧ Fr n0 L ∧ Keep h0 h [] ∧ h0.size ≤ y ∧ ∃ k, Arv Z h y k .byte (p0 + p0) [(.int (0 : Int32)), (.int (0 : Int32)), (.int (0 : Int32)), (.int (0 : Int32)), (.int (0 : Int32)), (.int (0 : Int32)), (.int (0 : Int32)), (.int (0 : Int32))] (.int (0 : Int32))
set_option maxRecDepth 65536 in
set_option maxHeartbeats 40000000 in
theorem rmNb (l : Launch) (Z : State) (a0 : Array Value) (hw : ∀ d ∈ tables_1, d.before a0 Z = true) (ws : List Jvm.Cond) (p0 : Int32) (h0 : Heap) (n0 : Nat) (Z0 : n0 ≤ h0.size) (hN : own_n p0) :
    MetFree l (⟨"java/lang/StringUTF16", "newBytesFor", "(I)[B"⟩ : MethodName) (head1 (Jvm.Cond.code (⟨"java/lang/StringUTF16", "newBytesFor", "(I)[B"⟩ : MethodName) jdk_52_method_2_code 1 (some (.array .byte)) :: ws) ({ frames := 1, cells := 1, slots := 8, locals := 12 } : Room)) (fun a U => a = #[(.int p0)] ∧ Z.Warmed39 U.vm ∧ U.heap = h0) (fun _ _ _ _ _ => True) (fun _ U o U' => ∃ v L, o = .returned v ∧ Q_rmNb Z p0 h0 n0 v U'.heap L ∧ FrameEnd U o U' L ({ frames := 1, cells := 1, slots := 8, locals := 12 } : Room).cells ({ frames := 1, cells := 1, slots := 8, locals := 12 } : Room).slots) := by
  refine MetFree.of_bodySF (plainFor_of_name pn_1) hisR ?_
  intro p e s m args below meth c s₁ Bd hml0 hP hK
  obtain ⟨rfl, hZ, hh⟩ := hP
  have hx := Bd.exec
  have hby := Bd.bytes
  have hml : c.maxLocals = 1 := hml0
  have hown : s.vm.findClass "java/lang/StringUTF16" = some m.cls := findClass_of_methodNamed Bd.named
  have hnm := (name_of_methodNamed Bd.named Bd.method).1
  have X0 : Stand p l e ({ frames := 1, cells := 1, slots := 8, locals := 12 } : Room) s m #[(.int p0)] below meth c s₁ [] 0 0 := Stand.of_body Bd
  have e0 : s₁.heap = h0 := by rw [← hh, Bd.state]; rfl
  have N0 := Fr.nil n0
  have pre0 : ∀ t, Steps p.tables e below (s₁.setTop (mkF m 0 #[.val (.int p0)] [])) t → Steps p.tables e below (s₁.setTop (entryFrame m #[(.int p0)] 1)) t := fun t k => castTop (ef_rmNb m p0) k
  have Kp : Keep h0 h0 [] := Keep.refl _ _
  have st1 : own_S p e below s₁ (mkF m 1 #[.val (.int p0)] [(.int p0)]) (mkF m 0 #[.val (.int p0)] []) := by
    intro target kt
    refine XS.iloadN X0.here hx rfl (hb hby d21_0) rfl ?_
    exact kt
  obtain ⟨_, _, ⟨T2, L2, k2, n2⟩, -, X2, ⟨Lc2, hQ2, l2, y2, z2⟩, st2⟩ := Jvm.LawKit.callS X0 hx (y := (⟨"java/lang/StringUTF16", "newBytesLength", "(I)I"⟩ : MethodName)) hown (mvT hZ (own_w hw 109 rfl)) (mvT hZ (own_w hw 110 rfl)) (mvT hZ (own_w hw 92 rfl)) (mvT hZ (own_w hw 111 rfl)) (by decide) (backOf (W := 0) (rmNl l Z a0 hw [] p0  h0 n0 Z0 hN) hZ (own_w hw 111 rfl) (own_w hw 92 rfl) (by decide) (by decide)) (g := (mkF m 1 #[.val (.int p0)] [(.int p0)])) rfl (by rw [hml]; rfl) (argsL := [(.int p0)]) (rest := []) (lenOf pd_16 rfl) rfl (by show 2 * 0 + _ ≤ _; exact Nat.le_of_eq rfl) (hb hby d21_1) (fun _ _ => ⟨rfl, e0, (by decide : 0 + 0 ≤ _), (by decide : 0 + 0 ≤ _)⟩)
  dsimp only [Pt.U, Pt.locs, Pt.cells, Pt.slots] at X2 l2 y2 z2 st2 hQ2
  subst l2 y2 z2
  obtain ⟨rfl, Nq2, e2⟩ := hQ2
  have N2 := Fr.app N0 Nq2
  obtain ⟨T3, h3, k3, X3, e3, E3, A3, st3⟩ := newP X2 hx hZ (own_w hw 19 rfl) e2 (g := (mkF m 4 #[.val (.int p0)] [(.int (p0 + p0))])) rfl (hb hby d21_4) rfl (own_nn2 hN) (cap := 8) (own_le8 hN) (by decide) (by decide) (by decide)
  obtain ⟨y, g3⟩ : ∃ z, z = h0.size := ⟨_, rfl⟩
  rw [← g3] at A3 st3
  have g_y : n0 ≤ y := Nat.le_trans Z0 (Nat.le_of_eq g3.symm)
  have sz_y : h0.size ≤ y := Nat.le_trans Kp.1 (Nat.le_of_eq g3.symm)
  have Z_3 : n0 ≤ h3.size := Nat.le_trans Z0 E3.1
  have Kp_3 : Keep h0 h3 [] := Kp.ext E3
  have V_y : Arv Z h3 y k3 .byte (p0 + p0) [(.int (0 : Int32)), (.int (0 : Int32)), (.int (0 : Int32)), (.int (0 : Int32)), (.int (0 : Int32)), (.int (0 : Int32)), (.int (0 : Int32)), (.int (0 : Int32))] (.int (0 : Int32)) := (Arv.new A3 (own_nn2 hN)).pad (pad_rep [] (.int (0 : Int32)) 8)
  obtain ⟨fs, hr, hrun, hended, hW, hsame⟩ := X3.leave (v := some (.ref y)) (fun h => by rw [Bd.returns] at h; cases h)
  refine ⟨_, _, pre0 _ (st1 _ (st2 _ (st3 _ ?_))), hrun, hended, _, _, rfl, ?_, ⟨_, rfl⟩, hW, hsame.mono (by decide) (by decide)⟩
  · show Steps p.tables e below (T3.setTop (mkF m 6 #[.val (.int p0)] [(.ref y)])) _
    jvm_step X3.here [X3.here.top, hx, (hb hby d21_6), X3.method', Bd.returns, Value.isRef, FieldType.isReference]
    first | (intro acts; rw [hr _ acts rfl rfl rfl]) | rw [hr _ _ rfl rfl rfl]
    exact Steps.refl _
  · show Q_rmNb Z p0 h0 n0 _ T3.heap _
    rw [e3]
    exact ⟨y, rfl, N2, Kp_3, sz_y, _, V_y⟩
theorem d23_0 : decode jdk_52_method_4_code 0 = .ok (.getstatic 44, 3) := by decide +kernel
theorem d23_3 : decode jdk_52_method_4_code 3 = .ok (.ifCond .ne 25, 3) := by decide +kernel
theorem d23_28 : decode jdk_52_method_4_code 28 = .ok (.iload_n 1, 1) := by decide +kernel
theorem d23_29 : decode jdk_52_method_4_code 29 = .ok (.iconst 1, 1) := by decide +kernel
theorem d23_30 : decode jdk_52_method_4_code 30 = .ok (.ishl, 1) := by decide +kernel
theorem d23_31 : decode jdk_52_method_4_code 31 = .ok (.istore_n 1, 1) := by decide +kernel
theorem d23_32 : decode jdk_52_method_4_code 32 = .ok (.aload_n 0, 1) := by decide +kernel
theorem d23_33 : decode jdk_52_method_4_code 33 = .ok (.iload_n 1, 1) := by decide +kernel
theorem d23_34 : decode jdk_52_method_4_code 34 = .ok (.iinc 1 1, 3) := by decide +kernel
theorem d23_37 : decode jdk_52_method_4_code 37 = .ok (.iload_n 2, 1) := by decide +kernel
theorem d23_38 : decode jdk_52_method_4_code 38 = .ok (.getstatic 59, 3) := by decide +kernel
theorem d23_41 : decode jdk_52_method_4_code 41 = .ok (.ishr, 1) := by decide +kernel
theorem d23_42 : decode jdk_52_method_4_code 42 = .ok (.i2b, 1) := by decide +kernel
theorem d23_43 : decode jdk_52_method_4_code 43 = .ok (.bastore, 1) := by decide +kernel
theorem d23_44 : decode jdk_52_method_4_code 44 = .ok (.aload_n 0, 1) := by decide +kernel
theorem d23_45 : decode jdk_52_method_4_code 45 = .ok (.iload_n 1, 1) := by decide +kernel
theorem d23_46 : decode jdk_52_method_4_code 46 = .ok (.iload_n 2, 1) := by decide +kernel
theorem d23_47 : decode jdk_52_method_4_code 47 = .ok (.getstatic 63, 3) := by decide +kernel
theorem d23_50 : decode jdk_52_method_4_code 50 = .ok (.ishr, 1) := by decide +kernel
theorem d23_51 : decode jdk_52_method_4_code 51 = .ok (.i2b, 1) := by decide +kernel
theorem d23_52 : decode jdk_52_method_4_code 52 = .ok (.bastore, 1) := by decide +kernel
theorem d23_53 : decode jdk_52_method_4_code 53 = .ok (.return_, 1) := by decide +kernel
theorem ef_rmPC0 (m : MethodId) (x0 : Addr) (x1 : Int32) (x2 : Int32) : entryFrame m #[(.ref x0), (.int x1), (.int x2)] 3 = mkF m 0 #[.val (.ref x0), .val (.int x1), .val (.int x2)] [] := by first | (simp [entryFrame, mkF, argsToLocals, Value.category]; done) | rfl
def Q_rmPC0 (Z : State) (r0 : Addr) (p2 : Int32) (cs : Int32) (fm : Value) (ky : ClassId) (n : Int32) (b0 : Int32) (b1 : Int32) (b2 : Int32) (b3 : Int32) (b4 : Int32) (b5 : Int32) (b6 : Int32) (b7 : Int32) (h0 : Heap) (n0 : Nat) (v : Option Value) (h : Heap) (L : List Loc) : Prop := v = none ∧ Fr n0 L ∧ Keep h0 h [r0] ∧ Arv Z h r0 ky .byte (n + n) [(.int (own_lo p2)), (.int (own_hi p2)), (.int b2), (.int b3), (.int b4), (.int b5), (.int b6), (.int b7)] (.int (0 : Int32))
set_option maxRecDepth 65536 in
set_option maxHeartbeats 40000000 in
theorem rmPC0 (l : Launch) (Z : State) (a0 : Array Value) (hw : ∀ d ∈ tables_1, d.before a0 Z = true) (ws : List Jvm.Cond) (r0 : Addr) (p2 : Int32) (cs : Int32) (fm : Value) (ky : ClassId) (n : Int32) (b0 : Int32) (b1 : Int32) (b2 : Int32) (b3 : Int32) (b4 : Int32) (b5 : Int32) (b6 : Int32) (b7 : Int32) (h0 : Heap) (n0 : Nat) (Z0 : n0 ≤ h0.size) (SB : own_St Z cs fm) (Od : Old Z n0 h0) (Vb : Arv Z h0 r0 ky .byte (n + n) [(.int b0), (.int b1), (.int b2), (.int b3), (.int b4), (.int b5), (.int b6), (.int b7)] (.int (0 : Int32))) (g_r0 : n0 ≤ r0) (hN : own_n n) (hl : (0 : Int32) < n) :
    MetFree l (⟨"java/lang/StringUTF16", "putChar", "([BII)V"⟩ : MethodName) (head1 (Jvm.Cond.code (⟨"java/lang/StringUTF16", "putChar", "([BII)V"⟩ : MethodName) jdk_52_method_4_code 3 none :: ws) ({ frames := 0, cells := 0, slots := 0, locals := 0 } : Room)) (fun a U => a = #[(.ref r0), (.int (0 : Int32)), (.int p2)] ∧ Z.Warmed39 U.vm ∧ U.heap = h0) (fun _ _ _ _ _ => True) (fun _ U o U' => ∃ v L, o = .returned v ∧ Q_rmPC0 Z r0 p2 cs fm ky n b0 b1 b2 b3 b4 b5 b6 b7 h0 n0 v U'.heap L ∧ FrameEnd U o U' L ({ frames := 0, cells := 0, slots := 0, locals := 0 } : Room).cells ({ frames := 0, cells := 0, slots := 0, locals := 0 } : Room).slots) := by
  refine MetFree.of_bodySF (plainFor_of_name pn_1) hisR ?_
  intro p e s m args below meth c s₁ Bd hml0 hP hK
  obtain ⟨rfl, hZ, hh⟩ := hP
  have hx := Bd.exec
  have hby := Bd.bytes
  have hml : c.maxLocals = 3 := hml0
  have hown : s.vm.findClass "java/lang/StringUTF16" = some m.cls := findClass_of_methodNamed Bd.named
  have hnm := (name_of_methodNamed Bd.named Bd.method).1
  have X0 : Stand p l e ({ frames := 0, cells := 0, slots := 0, locals := 0 } : Room) s m #[(.ref r0), (.int (0 : Int32)), (.int p2)] below meth c s₁ [] 0 0 := Stand.of_body Bd
  have e0 : s₁.heap = h0 := by rw [← hh, Bd.state]; rfl
  have N0 := Fr.nil n0
  have pre0 : ∀ t, Steps p.tables e below (s₁.setTop (mkF m 0 #[.val (.ref r0), .val (.int (0 : Int32)), .val (.int p2)] [])) t → Steps p.tables e below (s₁.setTop (entryFrame m #[(.ref r0), (.int (0 : Int32)), (.int p2)] 3)) t := fun t k => castTop (ef_rmPC0 m r0 (0 : Int32) p2) k
  have Kp : Keep h0 h0 [r0] := Keep.refl _ _
  have lk := own_lk (0 : Int32) own_n0 hN hl
  obtain ⟨T1, X1, e1, st1⟩ := getS2 X0 hx hZ hown (host := "") (Or.inl (own_w hw 116 rfl)) Via.refl e0 (SB.2.2.2.2.1.ext Od.2) (g := (mkF m 0 #[.val (.ref r0), .val (.int (0 : Int32)), .val (.int p2)] [])) rfl (hb hby d23_0)
  have st2 : own_S p e below T1 (mkF m 38 #[.val (.ref r0), .val (.int (1 : Int32)), .val (.int p2)] [(.int p2), (.int (0 : Int32)), (.ref r0)]) (mkF m 3 #[.val (.ref r0), .val (.int (0 : Int32)), .val (.int p2)] [(.int (1 : Int32))]) := by
    intro target kt
    refine XS.ifYes X1.here hx rfl (pc0 := 3) (pc' := 28) rfl (hb hby d23_3) rfl ((if0 _ _).trans (feq (by decide : ¬ ((1 : Int32) = (0 : Int32)))).2) (by decide) (by decide) ?_
    refine XS.iloadN X1.here hx rfl (hb hby d23_28) rfl ?_
    refine XS.iconst X1.here hx rfl (hb hby d23_29) ?_
    refine XS.ishl X1.here hx rfl (hb hby d23_30) rfl ?_
    refine XS.istoreN X1.here hx rfl (hb hby d23_31) rfl (l' := #[.val (.ref r0), .val (.int (0 : Int32)), .val (.int p2)]) rfl ?_
    refine XS.aloadN X1.here hx rfl (hb hby d23_32) rfl rfl ?_
    refine XS.iloadN X1.here hx rfl (hb hby d23_33) rfl ?_
    refine XS.iinc X1.here hx rfl (hb hby d23_34) rfl (l' := #[.val (.ref r0), .val (.int (1 : Int32)), .val (.int p2)]) rfl ?_
    refine XS.iloadN X1.here hx rfl (hb hby d23_37) rfl ?_
    exact kt
  obtain ⟨T3, X3, e3, st3⟩ := getS2 X1 hx hZ hown (host := "") (Or.inl (own_w hw 117 rfl)) Via.refl e1 (SB.2.2.2.2.2.1.ext Od.2) (g := (mkF m 38 #[.val (.ref r0), .val (.int (1 : Int32)), .val (.int p2)] [(.int p2), (.int (0 : Int32)), (.ref r0)])) rfl (hb hby d23_38)
  have st4 : own_S p e below T3 (mkF m 43 #[.val (.ref r0), .val (.int (1 : Int32)), .val (.int p2)] [(.int ((p2 >>> ((0 : Int32) &&& 31)).toInt8.toInt32)), (.int (0 : Int32)), (.ref r0)]) (mkF m 41 #[.val (.ref r0), .val (.int (1 : Int32)), .val (.int p2)] [(.int (0 : Int32)), (.int p2), (.int (0 : Int32)), (.ref r0)]) := by
    intro target kt
    refine XS.ishr X3.here hx rfl (hb hby d23_41) rfl ?_
    refine XS.i2b X3.here hx rfl (hb hby d23_42) rfl ?_
    exact kt
  obtain ⟨cl5, Ar5, qc5, Sz5, Mn5, Hs5, Gs5⟩ := id Vb
  have hin5 : ¬ ((0 : Int32) < 0 ∨ cl5.slots.size ≤ ((0 : Int32)).toNatClampNeg) := inb_of Sz5 ⟨by decide, lk.1⟩
  obtain ⟨T5, h5, X5, e5, W5, st5⟩ := stB X3 hx hZ e3 Ar5 (j := (0 : Int32)) hin5 (g := (mkF m 43 #[.val (.ref r0), .val (.int (1 : Int32)), .val (.int p2)] [(.int ((p2 >>> ((0 : Int32) &&& 31)).toInt8.toInt32)), (.int (0 : Int32)), (.ref r0)])) rfl rfl (hb hby d23_43)
  have V_r0_5 : Arv Z h5 r0 ky .byte (n + n) [(.int (nar .byte ((p2 >>> ((0 : Int32) &&& 31)).toInt8.toInt32))), (.int b1), (.int b2), (.int b3), (.int b4), (.int b5), (.int b6), (.int b7)] (.int (0 : Int32)) := Arv.set Ar5 qc5 Sz5 Mn5 Hs5 Gs5 (fits_nar_byte _) W5 0 rfl (Nat.le_of_ble_eq_true rfl)
  have Od_5 := Od.wr W5 g_r0
  have Z_5 : n0 ≤ h5.size := Nat.le_trans Z0 (Keep.of_wr W5).1
  have Kp_5 : Keep h0 h5 [r0] := Kp.wr W5 (Or.inl (List.mem_of_getElem? (i := 0) rfl))
  have N5 := Fr.snoc X5 N0 g_r0
  have st6 : own_S p e below T5 (mkF m 47 #[.val (.ref r0), .val (.int (1 : Int32)), .val (.int p2)] [(.int p2), (.int (1 : Int32)), (.ref r0)]) (mkF m 44 #[.val (.ref r0), .val (.int (1 : Int32)), .val (.int p2)] []) := by
    intro target kt
    refine XS.aloadN X5.here hx rfl (hb hby d23_44) rfl rfl ?_
    refine XS.iloadN X5.here hx rfl (hb hby d23_45) rfl ?_
    refine XS.iloadN X5.here hx rfl (hb hby d23_46) rfl ?_
    exact kt
  obtain ⟨T7, X7, e7, st7⟩ := getS2 X5 hx hZ hown (host := "") (Or.inl (own_w hw 118 rfl)) Via.refl e5 (SB.2.2.2.2.2.2.ext Od_5.2) (g := (mkF m 47 #[.val (.ref r0), .val (.int (1 : Int32)), .val (.int p2)] [(.int p2), (.int (1 : Int32)), (.ref r0)])) rfl (hb hby d23_47)
  have st8 : own_S p e below T7 (mkF m 52 #[.val (.ref r0), .val (.int (1 : Int32)), .val (.int p2)] [(.int ((p2 >>> ((8 : Int32) &&& 31)).toInt8.toInt32)), (.int (1 : Int32)), (.ref r0)]) (mkF m 50 #[.val (.ref r0), .val (.int (1 : Int32)), .val (.int p2)] [(.int (8 : Int32)), (.int p2), (.int (1 : Int32)), (.ref r0)]) := by
    intro target kt
    refine XS.ishr X7.here hx rfl (hb hby d23_50) rfl ?_
    refine XS.i2b X7.here hx rfl (hb hby d23_51) rfl ?_
    exact kt
  obtain ⟨cl9, Ar9, qc9, Sz9, Mn9, Hs9, Gs9⟩ := id V_r0_5
  have hin9 : ¬ ((1 : Int32) < 0 ∨ cl9.slots.size ≤ ((1 : Int32)).toNatClampNeg) := inb_of Sz9 ⟨by decide, lk.2⟩
  obtain ⟨T9, h9, X9, e9, W9, st9⟩ := stB X7 hx hZ e7 Ar9 (j := (1 : Int32)) hin9 (g := (mkF m 52 #[.val (.ref r0), .val (.int (1 : Int32)), .val (.int p2)] [(.int ((p2 >>> ((8 : Int32) &&& 31)).toInt8.toInt32)), (.int (1 : Int32)), (.ref r0)])) rfl rfl (hb hby d23_52)
  have V_r0_9 : Arv Z h9 r0 ky .byte (n + n) [(.int (nar .byte ((p2 >>> ((0 : Int32) &&& 31)).toInt8.toInt32))), (.int (nar .byte ((p2 >>> ((8 : Int32) &&& 31)).toInt8.toInt32))), (.int b2), (.int b3), (.int b4), (.int b5), (.int b6), (.int b7)] (.int (0 : Int32)) := Arv.set Ar9 qc9 Sz9 Mn9 Hs9 Gs9 (fits_nar_byte _) W9 1 rfl (Nat.le_of_ble_eq_true rfl)
  have Od_9 := Od_5.wr W9 g_r0
  have Z_9 : n0 ≤ h9.size := Nat.le_trans Z_5 (Keep.of_wr W9).1
  have Kp_9 : Keep h0 h9 [r0] := Kp_5.wr W9 (Or.inl (List.mem_of_getElem? (i := 0) rfl))
  have N9 := Fr.snoc X9 N5 g_r0
  obtain ⟨fs, hr, hrun, hended, hW, hsame⟩ := X9.leave (v := none) (fun _ => rfl)
  refine ⟨_, _, pre0 _ (st1 _ (st2 _ (st3 _ (st4 _ (st5 _ (st6 _ (st7 _ (st8 _ (st9 _ ?_))))))))), hrun, hended, _, _, rfl, ?_, ⟨_, rfl⟩, hW, hsame.mono (by decide) (by decide)⟩
  · show Steps p.tables e below (T9.setTop (mkF m 53 #[.val (.ref r0), .val (.int (1 : Int32)), .val (.int p2)] [])) _
    exact X9.returnOut hx Bd.returns (hb hby d23_53) hr
  · show Q_rmPC0 Z r0 p2 cs fm ky n b0 b1 b2 b3 b4 b5 b6 b7 h0 n0 _ T9.heap _
    rw [e9]
    exact ⟨rfl, N9, Kp_9, V_r0_9⟩
theorem ef_rmPC1 (m : MethodId) (x0 : Addr) (x1 : Int32) (x2 : Int32) : entryFrame m #[(.ref x0), (.int x1), (.int x2)] 3 = mkF m 0 #[.val (.ref x0), .val (.int x1), .val (.int x2)] [] := by first | (simp [entryFrame, mkF, argsToLocals, Value.category]; done) | rfl
def Q_rmPC1 (Z : State) (r0 : Addr) (p2 : Int32) (cs : Int32) (fm : Value) (ky : ClassId) (n : Int32) (b0 : Int32) (b1 : Int32) (b2 : Int32) (b3 : Int32) (b4 : Int32) (b5 : Int32) (b6 : Int32) (b7 : Int32) (h0 : Heap) (n0 : Nat) (v : Option Value) (h : Heap) (L : List Loc) : Prop := v = none ∧ Fr n0 L ∧ Keep h0 h [r0] ∧ Arv Z h r0 ky .byte (n + n) [(.int b0), (.int b1), (.int (own_lo p2)), (.int (own_hi p2)), (.int b4), (.int b5), (.int b6), (.int b7)] (.int (0 : Int32))
set_option maxRecDepth 65536 in
set_option maxHeartbeats 40000000 in
theorem rmPC1 (l : Launch) (Z : State) (a0 : Array Value) (hw : ∀ d ∈ tables_1, d.before a0 Z = true) (ws : List Jvm.Cond) (r0 : Addr) (p2 : Int32) (cs : Int32) (fm : Value) (ky : ClassId) (n : Int32) (b0 : Int32) (b1 : Int32) (b2 : Int32) (b3 : Int32) (b4 : Int32) (b5 : Int32) (b6 : Int32) (b7 : Int32) (h0 : Heap) (n0 : Nat) (Z0 : n0 ≤ h0.size) (SB : own_St Z cs fm) (Od : Old Z n0 h0) (Vb : Arv Z h0 r0 ky .byte (n + n) [(.int b0), (.int b1), (.int b2), (.int b3), (.int b4), (.int b5), (.int b6), (.int b7)] (.int (0 : Int32))) (g_r0 : n0 ≤ r0) (hN : own_n n) (hl : (1 : Int32) < n) :
    MetFree l (⟨"java/lang/StringUTF16", "putChar", "([BII)V"⟩ : MethodName) (head1 (Jvm.Cond.code (⟨"java/lang/StringUTF16", "putChar", "([BII)V"⟩ : MethodName) jdk_52_method_4_code 3 none :: ws) ({ frames := 0, cells := 0, slots := 0, locals := 0 } : Room)) (fun a U => a = #[(.ref r0), (.int (1 : Int32)), (.int p2)] ∧ Z.Warmed39 U.vm ∧ U.heap = h0) (fun _ _ _ _ _ => True) (fun _ U o U' => ∃ v L, o = .returned v ∧ Q_rmPC1 Z r0 p2 cs fm ky n b0 b1 b2 b3 b4 b5 b6 b7 h0 n0 v U'.heap L ∧ FrameEnd U o U' L ({ frames := 0, cells := 0, slots := 0, locals := 0 } : Room).cells ({ frames := 0, cells := 0, slots := 0, locals := 0 } : Room).slots) := by
  refine MetFree.of_bodySF (plainFor_of_name pn_1) hisR ?_
  intro p e s m args below meth c s₁ Bd hml0 hP hK
  obtain ⟨rfl, hZ, hh⟩ := hP
  have hx := Bd.exec
  have hby := Bd.bytes
  have hml : c.maxLocals = 3 := hml0
  have hown : s.vm.findClass "java/lang/StringUTF16" = some m.cls := findClass_of_methodNamed Bd.named
  have hnm := (name_of_methodNamed Bd.named Bd.method).1
  have X0 : Stand p l e ({ frames := 0, cells := 0, slots := 0, locals := 0 } : Room) s m #[(.ref r0), (.int (1 : Int32)), (.int p2)] below meth c s₁ [] 0 0 := Stand.of_body Bd
  have e0 : s₁.heap = h0 := by rw [← hh, Bd.state]; rfl
  have N0 := Fr.nil n0
  have pre0 : ∀ t, Steps p.tables e below (s₁.setTop (mkF m 0 #[.val (.ref r0), .val (.int (1 : Int32)), .val (.int p2)] [])) t → Steps p.tables e below (s₁.setTop (entryFrame m #[(.ref r0), (.int (1 : Int32)), (.int p2)] 3)) t := fun t k => castTop (ef_rmPC1 m r0 (1 : Int32) p2) k
  have Kp : Keep h0 h0 [r0] := Keep.refl _ _
  have lk := own_lk (1 : Int32) own_n1 hN hl
  obtain ⟨T1, X1, e1, st1⟩ := getS2 X0 hx hZ hown (host := "") (Or.inl (own_w hw 116 rfl)) Via.refl e0 (SB.2.2.2.2.1.ext Od.2) (g := (mkF m 0 #[.val (.ref r0), .val (.int (1 : Int32)), .val (.int p2)] [])) rfl (hb hby d23_0)
  have st2 : own_S p e below T1 (mkF m 38 #[.val (.ref r0), .val (.int (3 : Int32)), .val (.int p2)] [(.int p2), (.int (2 : Int32)), (.ref r0)]) (mkF m 3 #[.val (.ref r0), .val (.int (1 : Int32)), .val (.int p2)] [(.int (1 : Int32))]) := by
    intro target kt
    refine XS.ifYes X1.here hx rfl (pc0 := 3) (pc' := 28) rfl (hb hby d23_3) rfl ((if0 _ _).trans (feq (by decide : ¬ ((1 : Int32) = (0 : Int32)))).2) (by decide) (by decide) ?_
    refine XS.iloadN X1.here hx rfl (hb hby d23_28) rfl ?_
    refine XS.iconst X1.here hx rfl (hb hby d23_29) ?_
    refine XS.ishl X1.here hx rfl (hb hby d23_30) rfl ?_
    refine XS.istoreN X1.here hx rfl (hb hby d23_31) rfl (l' := #[.val (.ref r0), .val (.int (2 : Int32)), .val (.int p2)]) rfl ?_
    refine XS.aloadN X1.here hx rfl (hb hby d23_32) rfl rfl ?_
    refine XS.iloadN X1.here hx rfl (hb hby d23_33) rfl ?_
    refine XS.iinc X1.here hx rfl (hb hby d23_34) rfl (l' := #[.val (.ref r0), .val (.int (3 : Int32)), .val (.int p2)]) rfl ?_
    refine XS.iloadN X1.here hx rfl (hb hby d23_37) rfl ?_
    exact kt
  obtain ⟨T3, X3, e3, st3⟩ := getS2 X1 hx hZ hown (host := "") (Or.inl (own_w hw 117 rfl)) Via.refl e1 (SB.2.2.2.2.2.1.ext Od.2) (g := (mkF m 38 #[.val (.ref r0), .val (.int (3 : Int32)), .val (.int p2)] [(.int p2), (.int (2 : Int32)), (.ref r0)])) rfl (hb hby d23_38)
  have st4 : own_S p e below T3 (mkF m 43 #[.val (.ref r0), .val (.int (3 : Int32)), .val (.int p2)] [(.int ((p2 >>> ((0 : Int32) &&& 31)).toInt8.toInt32)), (.int (2 : Int32)), (.ref r0)]) (mkF m 41 #[.val (.ref r0), .val (.int (3 : Int32)), .val (.int p2)] [(.int (0 : Int32)), (.int p2), (.int (2 : Int32)), (.ref r0)]) := by
    intro target kt
    refine XS.ishr X3.here hx rfl (hb hby d23_41) rfl ?_
    refine XS.i2b X3.here hx rfl (hb hby d23_42) rfl ?_
    exact kt
  obtain ⟨cl5, Ar5, qc5, Sz5, Mn5, Hs5, Gs5⟩ := id Vb
  have hin5 : ¬ ((2 : Int32) < 0 ∨ cl5.slots.size ≤ ((2 : Int32)).toNatClampNeg) := inb_of Sz5 ⟨by decide, lk.1⟩
  obtain ⟨T5, h5, X5, e5, W5, st5⟩ := stB X3 hx hZ e3 Ar5 (j := (2 : Int32)) hin5 (g := (mkF m 43 #[.val (.ref r0), .val (.int (3 : Int32)), .val (.int p2)] [(.int ((p2 >>> ((0 : Int32) &&& 31)).toInt8.toInt32)), (.int (2 : Int32)), (.ref r0)])) rfl rfl (hb hby d23_43)
  have V_r0_5 : Arv Z h5 r0 ky .byte (n + n) [(.int b0), (.int b1), (.int (nar .byte ((p2 >>> ((0 : Int32) &&& 31)).toInt8.toInt32))), (.int b3), (.int b4), (.int b5), (.int b6), (.int b7)] (.int (0 : Int32)) := Arv.set Ar5 qc5 Sz5 Mn5 Hs5 Gs5 (fits_nar_byte _) W5 2 rfl (Nat.le_of_ble_eq_true rfl)
  have Od_5 := Od.wr W5 g_r0
  have Z_5 : n0 ≤ h5.size := Nat.le_trans Z0 (Keep.of_wr W5).1
  have Kp_5 : Keep h0 h5 [r0] := Kp.wr W5 (Or.inl (List.mem_of_getElem? (i := 0) rfl))
  have N5 := Fr.snoc X5 N0 g_r0
  have st6 : own_S p e below T5 (mkF m 47 #[.val (.ref r0), .val (.int (3 : Int32)), .val (.int p2)] [(.int p2), (.int (3 : Int32)), (.ref r0)]) (mkF m 44 #[.val (.ref r0), .val (.int (3 : Int32)), .val (.int p2)] []) := by
    intro target kt
    refine XS.aloadN X5.here hx rfl (hb hby d23_44) rfl rfl ?_
    refine XS.iloadN X5.here hx rfl (hb hby d23_45) rfl ?_
    refine XS.iloadN X5.here hx rfl (hb hby d23_46) rfl ?_
    exact kt
  obtain ⟨T7, X7, e7, st7⟩ := getS2 X5 hx hZ hown (host := "") (Or.inl (own_w hw 118 rfl)) Via.refl e5 (SB.2.2.2.2.2.2.ext Od_5.2) (g := (mkF m 47 #[.val (.ref r0), .val (.int (3 : Int32)), .val (.int p2)] [(.int p2), (.int (3 : Int32)), (.ref r0)])) rfl (hb hby d23_47)
  have st8 : own_S p e below T7 (mkF m 52 #[.val (.ref r0), .val (.int (3 : Int32)), .val (.int p2)] [(.int ((p2 >>> ((8 : Int32) &&& 31)).toInt8.toInt32)), (.int (3 : Int32)), (.ref r0)]) (mkF m 50 #[.val (.ref r0), .val (.int (3 : Int32)), .val (.int p2)] [(.int (8 : Int32)), (.int p2), (.int (3 : Int32)), (.ref r0)]) := by
    intro target kt
    refine XS.ishr X7.here hx rfl (hb hby d23_50) rfl ?_
    refine XS.i2b X7.here hx rfl (hb hby d23_51) rfl ?_
    exact kt
  obtain ⟨cl9, Ar9, qc9, Sz9, Mn9, Hs9, Gs9⟩ := id V_r0_5
  have hin9 : ¬ ((3 : Int32) < 0 ∨ cl9.slots.size ≤ ((3 : Int32)).toNatClampNeg) := inb_of Sz9 ⟨by decide, lk.2⟩
  obtain ⟨T9, h9, X9, e9, W9, st9⟩ := stB X7 hx hZ e7 Ar9 (j := (3 : Int32)) hin9 (g := (mkF m 52 #[.val (.ref r0), .val (.int (3 : Int32)), .val (.int p2)] [(.int ((p2 >>> ((8 : Int32) &&& 31)).toInt8.toInt32)), (.int (3 : Int32)), (.ref r0)])) rfl rfl (hb hby d23_52)
  have V_r0_9 : Arv Z h9 r0 ky .byte (n + n) [(.int b0), (.int b1), (.int (nar .byte ((p2 >>> ((0 : Int32) &&& 31)).toInt8.toInt32))), (.int (nar .byte ((p2 >>> ((8 : Int32) &&& 31)).toInt8.toInt32))), (.int b4), (.int b5), (.int b6), (.int b7)] (.int (0 : Int32)) := Arv.set Ar9 qc9 Sz9 Mn9 Hs9 Gs9 (fits_nar_byte _) W9 3 rfl (Nat.le_of_ble_eq_true rfl)
  have Od_9 := Od_5.wr W9 g_r0
  have Z_9 : n0 ≤ h9.size := Nat.le_trans Z_5 (Keep.of_wr W9).1
  have Kp_9 : Keep h0 h9 [r0] := Kp_5.wr W9 (Or.inl (List.mem_of_getElem? (i := 0) rfl))
  have N9 := Fr.snoc X9 N5 g_r0
  obtain ⟨fs, hr, hrun, hended, hW, hsame⟩ := X9.leave (v := none) (fun _ => rfl)
  refine ⟨_, _, pre0 _ (st1 _ (st2 _ (st3 _ (st4 _ (st5 _ (st6 _ (st7 _ (st8 _ (st9 _ ?_))))))))), hrun, hended, _, _, rfl, ?_, ⟨_, rfl⟩, hW, hsame.mono (by decide) (by decide)⟩
  · show Steps p.tables e below (T9.setTop (mkF m 53 #[.val (.ref r0), .val (.int (3 : Int32)), .val (.int p2)] [])) _
    exact X9.returnOut hx Bd.returns (hb hby d23_53) hr
  · show Q_rmPC1 Z r0 p2 cs fm ky n b0 b1 b2 b3 b4 b5 b6 b7 h0 n0 _ T9.heap _
    rw [e9]
    exact ⟨rfl, N9, Kp_9, V_r0_9⟩
theorem ef_rmPC2 (m : MethodId) (x0 : Addr) (x1 : Int32) (x2 : Int32) : entryFrame m #[(.ref x0), (.int x1), (.int x2)] 3 = mkF m 0 #[.val (.ref x0), .val (.int x1), .val (.int x2)] [] := by first | (simp [entryFrame, mkF, argsToLocals, Value.category]; done) | rfl
def Q_rmPC2 (Z : State) (r0 : Addr) (p2 : Int32) (cs : Int32) (fm : Value) (ky : ClassId) (n : Int32) (b0 : Int32) (b1 : Int32) (b2 : Int32) (b3 : Int32) (b4 : Int32) (b5 : Int32) (b6 : Int32) (b7 : Int32) (h0 : Heap) (n0 : Nat) (v : Option Value) (h : Heap) (L : List Loc) : Prop := v = none ∧ Fr n0 L ∧ Keep h0 h [r0] ∧ Arv Z h r0 ky .byte (n + n) [(.int b0), (.int b1), (.int b2), (.int b3), (.int (own_lo p2)), (.int (own_hi p2)), (.int b6), (.int b7)] (.int (0 : Int32))
set_option maxRecDepth 65536 in
set_option maxHeartbeats 40000000 in
theorem rmPC2 (l : Launch) (Z : State) (a0 : Array Value) (hw : ∀ d ∈ tables_1, d.before a0 Z = true) (ws : List Jvm.Cond) (r0 : Addr) (p2 : Int32) (cs : Int32) (fm : Value) (ky : ClassId) (n : Int32) (b0 : Int32) (b1 : Int32) (b2 : Int32) (b3 : Int32) (b4 : Int32) (b5 : Int32) (b6 : Int32) (b7 : Int32) (h0 : Heap) (n0 : Nat) (Z0 : n0 ≤ h0.size) (SB : own_St Z cs fm) (Od : Old Z n0 h0) (Vb : Arv Z h0 r0 ky .byte (n + n) [(.int b0), (.int b1), (.int b2), (.int b3), (.int b4), (.int b5), (.int b6), (.int b7)] (.int (0 : Int32))) (g_r0 : n0 ≤ r0) (hN : own_n n) (hl : (2 : Int32) < n) :
    MetFree l (⟨"java/lang/StringUTF16", "putChar", "([BII)V"⟩ : MethodName) (head1 (Jvm.Cond.code (⟨"java/lang/StringUTF16", "putChar", "([BII)V"⟩ : MethodName) jdk_52_method_4_code 3 none :: ws) ({ frames := 0, cells := 0, slots := 0, locals := 0 } : Room)) (fun a U => a = #[(.ref r0), (.int (2 : Int32)), (.int p2)] ∧ Z.Warmed39 U.vm ∧ U.heap = h0) (fun _ _ _ _ _ => True) (fun _ U o U' => ∃ v L, o = .returned v ∧ Q_rmPC2 Z r0 p2 cs fm ky n b0 b1 b2 b3 b4 b5 b6 b7 h0 n0 v U'.heap L ∧ FrameEnd U o U' L ({ frames := 0, cells := 0, slots := 0, locals := 0 } : Room).cells ({ frames := 0, cells := 0, slots := 0, locals := 0 } : Room).slots) := by
  refine MetFree.of_bodySF (plainFor_of_name pn_1) hisR ?_
  intro p e s m args below meth c s₁ Bd hml0 hP hK
  obtain ⟨rfl, hZ, hh⟩ := hP
  have hx := Bd.exec
  have hby := Bd.bytes
  have hml : c.maxLocals = 3 := hml0
  have hown : s.vm.findClass "java/lang/StringUTF16" = some m.cls := findClass_of_methodNamed Bd.named
  have hnm := (name_of_methodNamed Bd.named Bd.method).1
  have X0 : Stand p l e ({ frames := 0, cells := 0, slots := 0, locals := 0 } : Room) s m #[(.ref r0), (.int (2 : Int32)), (.int p2)] below meth c s₁ [] 0 0 := Stand.of_body Bd
  have e0 : s₁.heap = h0 := by rw [← hh, Bd.state]; rfl
  have N0 := Fr.nil n0
  have pre0 : ∀ t, Steps p.tables e below (s₁.setTop (mkF m 0 #[.val (.ref r0), .val (.int (2 : Int32)), .val (.int p2)] [])) t → Steps p.tables e below (s₁.setTop (entryFrame m #[(.ref r0), (.int (2 : Int32)), (.int p2)] 3)) t := fun t k => castTop (ef_rmPC2 m r0 (2 : Int32) p2) k
  have Kp : Keep h0 h0 [r0] := Keep.refl _ _
  have lk := own_lk (2 : Int32) own_n2 hN hl
  obtain ⟨T1, X1, e1, st1⟩ := getS2 X0 hx hZ hown (host := "") (Or.inl (own_w hw 116 rfl)) Via.refl e0 (SB.2.2.2.2.1.ext Od.2) (g := (mkF m 0 #[.val (.ref r0), .val (.int (2 : Int32)), .val (.int p2)] [])) rfl (hb hby d23_0)
  have st2 : own_S p e below T1 (mkF m 38 #[.val (.ref r0), .val (.int (5 : Int32)), .val (.int p2)] [(.int p2), (.int (4 : Int32)), (.ref r0)]) (mkF m 3 #[.val (.ref r0), .val (.int (2 : Int32)), .val (.int p2)] [(.int (1 : Int32))]) := by
    intro target kt
    refine XS.ifYes X1.here hx rfl (pc0 := 3) (pc' := 28) rfl (hb hby d23_3) rfl ((if0 _ _).trans (feq (by decide : ¬ ((1 : Int32) = (0 : Int32)))).2) (by decide) (by decide) ?_
    refine XS.iloadN X1.here hx rfl (hb hby d23_28) rfl ?_
    refine XS.iconst X1.here hx rfl (hb hby d23_29) ?_
    refine XS.ishl X1.here hx rfl (hb hby d23_30) rfl ?_
    refine XS.istoreN X1.here hx rfl (hb hby d23_31) rfl (l' := #[.val (.ref r0), .val (.int (4 : Int32)), .val (.int p2)]) rfl ?_
    refine XS.aloadN X1.here hx rfl (hb hby d23_32) rfl rfl ?_
    refine XS.iloadN X1.here hx rfl (hb hby d23_33) rfl ?_
    refine XS.iinc X1.here hx rfl (hb hby d23_34) rfl (l' := #[.val (.ref r0), .val (.int (5 : Int32)), .val (.int p2)]) rfl ?_
    refine XS.iloadN X1.here hx rfl (hb hby d23_37) rfl ?_
    exact kt
  obtain ⟨T3, X3, e3, st3⟩ := getS2 X1 hx hZ hown (host := "") (Or.inl (own_w hw 117 rfl)) Via.refl e1 (SB.2.2.2.2.2.1.ext Od.2) (g := (mkF m 38 #[.val (.ref r0), .val (.int (5 : Int32)), .val (.int p2)] [(.int p2), (.int (4 : Int32)), (.ref r0)])) rfl (hb hby d23_38)
  have st4 : own_S p e below T3 (mkF m 43 #[.val (.ref r0), .val (.int (5 : Int32)), .val (.int p2)] [(.int ((p2 >>> ((0 : Int32) &&& 31)).toInt8.toInt32)), (.int (4 : Int32)), (.ref r0)]) (mkF m 41 #[.val (.ref r0), .val (.int (5 : Int32)), .val (.int p2)] [(.int (0 : Int32)), (.int p2), (.int (4 : Int32)), (.ref r0)]) := by
    intro target kt
    refine XS.ishr X3.here hx rfl (hb hby d23_41) rfl ?_
    refine XS.i2b X3.here hx rfl (hb hby d23_42) rfl ?_
    exact kt
  obtain ⟨cl5, Ar5, qc5, Sz5, Mn5, Hs5, Gs5⟩ := id Vb
  have hin5 : ¬ ((4 : Int32) < 0 ∨ cl5.slots.size ≤ ((4 : Int32)).toNatClampNeg) := inb_of Sz5 ⟨by decide, lk.1⟩
  obtain ⟨T5, h5, X5, e5, W5, st5⟩ := stB X3 hx hZ e3 Ar5 (j := (4 : Int32)) hin5 (g := (mkF m 43 #[.val (.ref r0), .val (.int (5 : Int32)), .val (.int p2)] [(.int ((p2 >>> ((0 : Int32) &&& 31)).toInt8.toInt32)), (.int (4 : Int32)), (.ref r0)])) rfl rfl (hb hby d23_43)
  have V_r0_5 : Arv Z h5 r0 ky .byte (n + n) [(.int b0), (.int b1), (.int b2), (.int b3), (.int (nar .byte ((p2 >>> ((0 : Int32) &&& 31)).toInt8.toInt32))), (.int b5), (.int b6), (.int b7)] (.int (0 : Int32)) := Arv.set Ar5 qc5 Sz5 Mn5 Hs5 Gs5 (fits_nar_byte _) W5 4 rfl (Nat.le_of_ble_eq_true rfl)
  have Od_5 := Od.wr W5 g_r0
  have Z_5 : n0 ≤ h5.size := Nat.le_trans Z0 (Keep.of_wr W5).1
  have Kp_5 : Keep h0 h5 [r0] := Kp.wr W5 (Or.inl (List.mem_of_getElem? (i := 0) rfl))
  have N5 := Fr.snoc X5 N0 g_r0
  have st6 : own_S p e below T5 (mkF m 47 #[.val (.ref r0), .val (.int (5 : Int32)), .val (.int p2)] [(.int p2), (.int (5 : Int32)), (.ref r0)]) (mkF m 44 #[.val (.ref r0), .val (.int (5 : Int32)), .val (.int p2)] []) := by
    intro target kt
    refine XS.aloadN X5.here hx rfl (hb hby d23_44) rfl rfl ?_
    refine XS.iloadN X5.here hx rfl (hb hby d23_45) rfl ?_
    refine XS.iloadN X5.here hx rfl (hb hby d23_46) rfl ?_
    exact kt
  obtain ⟨T7, X7, e7, st7⟩ := getS2 X5 hx hZ hown (host := "") (Or.inl (own_w hw 118 rfl)) Via.refl e5 (SB.2.2.2.2.2.2.ext Od_5.2) (g := (mkF m 47 #[.val (.ref r0), .val (.int (5 : Int32)), .val (.int p2)] [(.int p2), (.int (5 : Int32)), (.ref r0)])) rfl (hb hby d23_47)
  have st8 : own_S p e below T7 (mkF m 52 #[.val (.ref r0), .val (.int (5 : Int32)), .val (.int p2)] [(.int ((p2 >>> ((8 : Int32) &&& 31)).toInt8.toInt32)), (.int (5 : Int32)), (.ref r0)]) (mkF m 50 #[.val (.ref r0), .val (.int (5 : Int32)), .val (.int p2)] [(.int (8 : Int32)), (.int p2), (.int (5 : Int32)), (.ref r0)]) := by
    intro target kt
    refine XS.ishr X7.here hx rfl (hb hby d23_50) rfl ?_
    refine XS.i2b X7.here hx rfl (hb hby d23_51) rfl ?_
    exact kt
  obtain ⟨cl9, Ar9, qc9, Sz9, Mn9, Hs9, Gs9⟩ := id V_r0_5
  have hin9 : ¬ ((5 : Int32) < 0 ∨ cl9.slots.size ≤ ((5 : Int32)).toNatClampNeg) := inb_of Sz9 ⟨by decide, lk.2⟩
  obtain ⟨T9, h9, X9, e9, W9, st9⟩ := stB X7 hx hZ e7 Ar9 (j := (5 : Int32)) hin9 (g := (mkF m 52 #[.val (.ref r0), .val (.int (5 : Int32)), .val (.int p2)] [(.int ((p2 >>> ((8 : Int32) &&& 31)).toInt8.toInt32)), (.int (5 : Int32)), (.ref r0)])) rfl rfl (hb hby d23_52)
  have V_r0_9 : Arv Z h9 r0 ky .byte (n + n) [(.int b0), (.int b1), (.int b2), (.int b3), (.int (nar .byte ((p2 >>> ((0 : Int32) &&& 31)).toInt8.toInt32))), (.int (nar .byte ((p2 >>> ((8 : Int32) &&& 31)).toInt8.toInt32))), (.int b6), (.int b7)] (.int (0 : Int32)) := Arv.set Ar9 qc9 Sz9 Mn9 Hs9 Gs9 (fits_nar_byte _) W9 5 rfl (Nat.le_of_ble_eq_true rfl)
  have Od_9 := Od_5.wr W9 g_r0
  have Z_9 : n0 ≤ h9.size := Nat.le_trans Z_5 (Keep.of_wr W9).1
  have Kp_9 : Keep h0 h9 [r0] := Kp_5.wr W9 (Or.inl (List.mem_of_getElem? (i := 0) rfl))
  have N9 := Fr.snoc X9 N5 g_r0
  obtain ⟨fs, hr, hrun, hended, hW, hsame⟩ := X9.leave (v := none) (fun _ => rfl)
  refine ⟨_, _, pre0 _ (st1 _ (st2 _ (st3 _ (st4 _ (st5 _ (st6 _ (st7 _ (st8 _ (st9 _ ?_))))))))), hrun, hended, _, _, rfl, ?_, ⟨_, rfl⟩, hW, hsame.mono (by decide) (by decide)⟩
  · show Steps p.tables e below (T9.setTop (mkF m 53 #[.val (.ref r0), .val (.int (5 : Int32)), .val (.int p2)] [])) _
    exact X9.returnOut hx Bd.returns (hb hby d23_53) hr
  · show Q_rmPC2 Z r0 p2 cs fm ky n b0 b1 b2 b3 b4 b5 b6 b7 h0 n0 _ T9.heap _
    rw [e9]
    exact ⟨rfl, N9, Kp_9, V_r0_9⟩
theorem ef_rmPC3 (m : MethodId) (x0 : Addr) (x1 : Int32) (x2 : Int32) : entryFrame m #[(.ref x0), (.int x1), (.int x2)] 3 = mkF m 0 #[.val (.ref x0), .val (.int x1), .val (.int x2)] [] := by first | (simp [entryFrame, mkF, argsToLocals, Value.category]; done) | rfl
def Q_rmPC3 (Z : State) (r0 : Addr) (p2 : Int32) (cs : Int32) (fm : Value) (ky : ClassId) (n : Int32) (b0 : Int32) (b1 : Int32) (b2 : Int32) (b3 : Int32) (b4 : Int32) (b5 : Int32) (b6 : Int32) (b7 : Int32) (h0 : Heap) (n0 : Nat) (v : Option Value) (h : Heap) (L : List Loc) : Prop := v = none ∧ Fr n0 L ∧ Keep h0 h [r0] ∧ Arv Z h r0 ky .byte (n + n) [(.int b0), (.int b1), (.int b2), (.int b3), (.int b4), (.int b5), (.int (own_lo p2)), (.int (own_hi p2))] (.int (0 : Int32))
set_option maxRecDepth 65536 in
set_option maxHeartbeats 40000000 in
theorem rmPC3 (l : Launch) (Z : State) (a0 : Array Value) (hw : ∀ d ∈ tables_1, d.before a0 Z = true) (ws : List Jvm.Cond) (r0 : Addr) (p2 : Int32) (cs : Int32) (fm : Value) (ky : ClassId) (n : Int32) (b0 : Int32) (b1 : Int32) (b2 : Int32) (b3 : Int32) (b4 : Int32) (b5 : Int32) (b6 : Int32) (b7 : Int32) (h0 : Heap) (n0 : Nat) (Z0 : n0 ≤ h0.size) (SB : own_St Z cs fm) (Od : Old Z n0 h0) (Vb : Arv Z h0 r0 ky .byte (n + n) [(.int b0), (.int b1), (.int b2), (.int b3), (.int b4), (.int b5), (.int b6), (.int b7)] (.int (0 : Int32))) (g_r0 : n0 ≤ r0) (hN : own_n n) (hl : (3 : Int32) < n) :
    MetFree l (⟨"java/lang/StringUTF16", "putChar", "([BII)V"⟩ : MethodName) (head1 (Jvm.Cond.code (⟨"java/lang/StringUTF16", "putChar", "([BII)V"⟩ : MethodName) jdk_52_method_4_code 3 none :: ws) ({ frames := 0, cells := 0, slots := 0, locals := 0 } : Room)) (fun a U => a = #[(.ref r0), (.int (3 : Int32)), (.int p2)] ∧ Z.Warmed39 U.vm ∧ U.heap = h0) (fun _ _ _ _ _ => True) (fun _ U o U' => ∃ v L, o = .returned v ∧ Q_rmPC3 Z r0 p2 cs fm ky n b0 b1 b2 b3 b4 b5 b6 b7 h0 n0 v U'.heap L ∧ FrameEnd U o U' L ({ frames := 0, cells := 0, slots := 0, locals := 0 } : Room).cells ({ frames := 0, cells := 0, slots := 0, locals := 0 } : Room).slots) := by
  refine MetFree.of_bodySF (plainFor_of_name pn_1) hisR ?_
  intro p e s m args below meth c s₁ Bd hml0 hP hK
  obtain ⟨rfl, hZ, hh⟩ := hP
  have hx := Bd.exec
  have hby := Bd.bytes
  have hml : c.maxLocals = 3 := hml0
  have hown : s.vm.findClass "java/lang/StringUTF16" = some m.cls := findClass_of_methodNamed Bd.named
  have hnm := (name_of_methodNamed Bd.named Bd.method).1
  have X0 : Stand p l e ({ frames := 0, cells := 0, slots := 0, locals := 0 } : Room) s m #[(.ref r0), (.int (3 : Int32)), (.int p2)] below meth c s₁ [] 0 0 := Stand.of_body Bd
  have e0 : s₁.heap = h0 := by rw [← hh, Bd.state]; rfl
  have N0 := Fr.nil n0
  have pre0 : ∀ t, Steps p.tables e below (s₁.setTop (mkF m 0 #[.val (.ref r0), .val (.int (3 : Int32)), .val (.int p2)] [])) t → Steps p.tables e below (s₁.setTop (entryFrame m #[(.ref r0), (.int (3 : Int32)), (.int p2)] 3)) t := fun t k => castTop (ef_rmPC3 m r0 (3 : Int32) p2) k
  have Kp : Keep h0 h0 [r0] := Keep.refl _ _
  have lk := own_lk (3 : Int32) own_n3 hN hl
  obtain ⟨T1, X1, e1, st1⟩ := getS2 X0 hx hZ hown (host := "") (Or.inl (own_w hw 116 rfl)) Via.refl e0 (SB.2.2.2.2.1.ext Od.2) (g := (mkF m 0 #[.val (.ref r0), .val (.int (3 : Int32)), .val (.int p2)] [])) rfl (hb hby d23_0)
  have st2 : own_S p e below T1 (mkF m 38 #[.val (.ref r0), .val (.int (7 : Int32)), .val (.int p2)] [(.int p2), (.int (6 : Int32)), (.ref r0)]) (mkF m 3 #[.val (.ref r0), .val (.int (3 : Int32)), .val (.int p2)] [(.int (1 : Int32))]) := by
    intro target kt
    refine XS.ifYes X1.here hx rfl (pc0 := 3) (pc' := 28) rfl (hb hby d23_3) rfl ((if0 _ _).trans (feq (by decide : ¬ ((1 : Int32) = (0 : Int32)))).2) (by decide) (by decide) ?_
    refine XS.iloadN X1.here hx rfl (hb hby d23_28) rfl ?_
    refine XS.iconst X1.here hx rfl (hb hby d23_29) ?_
    refine XS.ishl X1.here hx rfl (hb hby d23_30) rfl ?_
    refine XS.istoreN X1.here hx rfl (hb hby d23_31) rfl (l' := #[.val (.ref r0), .val (.int (6 : Int32)), .val (.int p2)]) rfl ?_
    refine XS.aloadN X1.here hx rfl (hb hby d23_32) rfl rfl ?_
    refine XS.iloadN X1.here hx rfl (hb hby d23_33) rfl ?_
    refine XS.iinc X1.here hx rfl (hb hby d23_34) rfl (l' := #[.val (.ref r0), .val (.int (7 : Int32)), .val (.int p2)]) rfl ?_
    refine XS.iloadN X1.here hx rfl (hb hby d23_37) rfl ?_
    exact kt
  obtain ⟨T3, X3, e3, st3⟩ := getS2 X1 hx hZ hown (host := "") (Or.inl (own_w hw 117 rfl)) Via.refl e1 (SB.2.2.2.2.2.1.ext Od.2) (g := (mkF m 38 #[.val (.ref r0), .val (.int (7 : Int32)), .val (.int p2)] [(.int p2), (.int (6 : Int32)), (.ref r0)])) rfl (hb hby d23_38)
  have st4 : own_S p e below T3 (mkF m 43 #[.val (.ref r0), .val (.int (7 : Int32)), .val (.int p2)] [(.int ((p2 >>> ((0 : Int32) &&& 31)).toInt8.toInt32)), (.int (6 : Int32)), (.ref r0)]) (mkF m 41 #[.val (.ref r0), .val (.int (7 : Int32)), .val (.int p2)] [(.int (0 : Int32)), (.int p2), (.int (6 : Int32)), (.ref r0)]) := by
    intro target kt
    refine XS.ishr X3.here hx rfl (hb hby d23_41) rfl ?_
    refine XS.i2b X3.here hx rfl (hb hby d23_42) rfl ?_
    exact kt
  obtain ⟨cl5, Ar5, qc5, Sz5, Mn5, Hs5, Gs5⟩ := id Vb
  have hin5 : ¬ ((6 : Int32) < 0 ∨ cl5.slots.size ≤ ((6 : Int32)).toNatClampNeg) := inb_of Sz5 ⟨by decide, lk.1⟩
  obtain ⟨T5, h5, X5, e5, W5, st5⟩ := stB X3 hx hZ e3 Ar5 (j := (6 : Int32)) hin5 (g := (mkF m 43 #[.val (.ref r0), .val (.int (7 : Int32)), .val (.int p2)] [(.int ((p2 >>> ((0 : Int32) &&& 31)).toInt8.toInt32)), (.int (6 : Int32)), (.ref r0)])) rfl rfl (hb hby d23_43)
  have V_r0_5 : Arv Z h5 r0 ky .byte (n + n) [(.int b0), (.int b1), (.int b2), (.int b3), (.int b4), (.int b5), (.int (nar .byte ((p2 >>> ((0 : Int32) &&& 31)).toInt8.toInt32))), (.int b7)] (.int (0 : Int32)) := Arv.set Ar5 qc5 Sz5 Mn5 Hs5 Gs5 (fits_nar_byte _) W5 6 rfl (Nat.le_of_ble_eq_true rfl)
  have Od_5 := Od.wr W5 g_r0
  have Z_5 : n0 ≤ h5.size := Nat.le_trans Z0 (Keep.of_wr W5).1
  have Kp_5 : Keep h0 h5 [r0] := Kp.wr W5 (Or.inl (List.mem_of_getElem? (i := 0) rfl))
  have N5 := Fr.snoc X5 N0 g_r0
  have st6 : own_S p e below T5 (mkF m 47 #[.val (.ref r0), .val (.int (7 : Int32)), .val (.int p2)] [(.int p2), (.int (7 : Int32)), (.ref r0)]) (mkF m 44 #[.val (.ref r0), .val (.int (7 : Int32)), .val (.int p2)] []) := by
    intro target kt
    refine XS.aloadN X5.here hx rfl (hb hby d23_44) rfl rfl ?_
    refine XS.iloadN X5.here hx rfl (hb hby d23_45) rfl ?_
    refine XS.iloadN X5.here hx rfl (hb hby d23_46) rfl ?_
    exact kt
  obtain ⟨T7, X7, e7, st7⟩ := getS2 X5 hx hZ hown (host := "") (Or.inl (own_w hw 118 rfl)) Via.refl e5 (SB.2.2.2.2.2.2.ext Od_5.2) (g := (mkF m 47 #[.val (.ref r0), .val (.int (7 : Int32)), .val (.int p2)] [(.int p2), (.int (7 : Int32)), (.ref r0)])) rfl (hb hby d23_47)
  have st8 : own_S p e below T7 (mkF m 52 #[.val (.ref r0), .val (.int (7 : Int32)), .val (.int p2)] [(.int ((p2 >>> ((8 : Int32) &&& 31)).toInt8.toInt32)), (.int (7 : Int32)), (.ref r0)]) (mkF m 50 #[.val (.ref r0), .val (.int (7 : Int32)), .val (.int p2)] [(.int (8 : Int32)), (.int p2), (.int (7 : Int32)), (.ref r0)]) := by
    intro target kt
    refine XS.ishr X7.here hx rfl (hb hby d23_50) rfl ?_
    refine XS.i2b X7.here hx rfl (hb hby d23_51) rfl ?_
    exact kt
  obtain ⟨cl9, Ar9, qc9, Sz9, Mn9, Hs9, Gs9⟩ := id V_r0_5
  have hin9 : ¬ ((7 : Int32) < 0 ∨ cl9.slots.size ≤ ((7 : Int32)).toNatClampNeg) := inb_of Sz9 ⟨by decide, lk.2⟩
  obtain ⟨T9, h9, X9, e9, W9, st9⟩ := stB X7 hx hZ e7 Ar9 (j := (7 : Int32)) hin9 (g := (mkF m 52 #[.val (.ref r0), .val (.int (7 : Int32)), .val (.int p2)] [(.int ((p2 >>> ((8 : Int32) &&& 31)).toInt8.toInt32)), (.int (7 : Int32)), (.ref r0)])) rfl rfl (hb hby d23_52)
  have V_r0_9 : Arv Z h9 r0 ky .byte (n + n) [(.int b0), (.int b1), (.int b2), (.int b3), (.int b4), (.int b5), (.int (nar .byte ((p2 >>> ((0 : Int32) &&& 31)).toInt8.toInt32))), (.int (nar .byte ((p2 >>> ((8 : Int32) &&& 31)).toInt8.toInt32)))] (.int (0 : Int32)) := Arv.set Ar9 qc9 Sz9 Mn9 Hs9 Gs9 (fits_nar_byte _) W9 7 rfl (Nat.le_of_ble_eq_true rfl)
  have Od_9 := Od_5.wr W9 g_r0
  have Z_9 : n0 ≤ h9.size := Nat.le_trans Z_5 (Keep.of_wr W9).1
  have Kp_9 : Keep h0 h9 [r0] := Kp_5.wr W9 (Or.inl (List.mem_of_getElem? (i := 0) rfl))
  have N9 := Fr.snoc X9 N5 g_r0
  obtain ⟨fs, hr, hrun, hended, hW, hsame⟩ := X9.leave (v := none) (fun _ => rfl)
  refine ⟨_, _, pre0 _ (st1 _ (st2 _ (st3 _ (st4 _ (st5 _ (st6 _ (st7 _ (st8 _ (st9 _ ?_))))))))), hrun, hended, _, _, rfl, ?_, ⟨_, rfl⟩, hW, hsame.mono (by decide) (by decide)⟩
  · show Steps p.tables e below (T9.setTop (mkF m 53 #[.val (.ref r0), .val (.int (7 : Int32)), .val (.int p2)] [])) _
    exact X9.returnOut hx Bd.returns (hb hby d23_53) hr
  · show Q_rmPC3 Z r0 p2 cs fm ky n b0 b1 b2 b3 b4 b5 b6 b7 h0 n0 _ T9.heap _
    rw [e9]
    exact ⟨rfl, N9, Kp_9, V_r0_9⟩
theorem d20_0 : decode jdk_52_method_14_code 0 = .ok (.iload_n 2, 1) := by decide +kernel
theorem d20_1 : decode jdk_52_method_14_code 1 = .ok (.invokestatic 107, 3) := by decide +kernel
theorem d20_4 : decode jdk_52_method_14_code 4 = .ok (.astore_n 3, 1) := by decide +kernel
theorem d20_5 : decode jdk_52_method_14_code 5 = .ok (.iconst 0, 1) := by decide +kernel
theorem d20_6 : decode jdk_52_method_14_code 6 = .ok (.istore 4, 2) := by decide +kernel
theorem d20_8 : decode jdk_52_method_14_code 8 = .ok (.iload 4, 2) := by decide +kernel
theorem d20_10 : decode jdk_52_method_14_code 10 = .ok (.iload_n 2, 1) := by decide +kernel
theorem d20_11 : decode jdk_52_method_14_code 11 = .ok (.if_icmp .ge 21, 3) := by decide +kernel
theorem d20_14 : decode jdk_52_method_14_code 14 = .ok (.aload_n 3, 1) := by decide +kernel
theorem d20_15 : decode jdk_52_method_14_code 15 = .ok (.iload 4, 2) := by decide +kernel
theorem d20_17 : decode jdk_52_method_14_code 17 = .ok (.aload_n 0, 1) := by decide +kernel
theorem d20_18 : decode jdk_52_method_14_code 18 = .ok (.iload_n 1, 1) := by decide +kernel
theorem d20_19 : decode jdk_52_method_14_code 19 = .ok (.caload, 1) := by decide +kernel
theorem d20_20 : decode jdk_52_method_14_code 20 = .ok (.invokestatic 111, 3) := by decide +kernel
theorem d20_23 : decode jdk_52_method_14_code 23 = .ok (.iinc 1 1, 3) := by decide +kernel
theorem d20_26 : decode jdk_52_method_14_code 26 = .ok (.iinc 4 1, 3) := by decide +kernel
theorem d20_29 : decode jdk_52_method_14_code 29 = .ok (.goto (-21), 3) := by decide +kernel
theorem d20_32 : decode jdk_52_method_14_code 32 = .ok (.aload_n 3, 1) := by decide +kernel
theorem d20_33 : decode jdk_52_method_14_code 33 = .ok (.areturn, 1) := by decide +kernel
theorem ef_rmTB (m : MethodId) (x0 : Addr) (x1 : Int32) (x2 : Int32) : entryFrame m #[(.ref x0), (.int x1), (.int x2)] 5 = mkF m 0 #[.val (.ref x0), .val (.int x1), .val (.int x2), .unset, .unset] [] := by first | (simp [entryFrame, mkF, argsToLocals, Value.category]; done) | rfl
def Q_rmTB (Z : State) (r0 : Addr) (n : Int32) (cs : Int32) (fm : Value) (kc : ClassId) (c0 : Int32) (c1 : Int32) (c2 : Int32) (c3 : Int32) (h0 : Heap) (n0 : Nat) (v : Option Value) (h : Heap) (L : List Loc) : Prop := ∃ y, v = some (.ref y) ∧ Fr n0 L ∧ Keep h0 h [] ∧ h0.size ≤ y ∧ ∃ ky, Arv Z h y ky .byte (n + n) [(.int (own_lo c0)), (.int (own_hi c0)), (.int (own_lo c1)), (.int (own_hi c1)), (.int (own_lo c2)), (.int (own_hi c2)), (.int (own_lo c3)), (.int (own_hi c3))] (.int (0 : Int32))
set_option maxRecDepth 65536 in
set_option maxHeartbeats 40000000 in
theorem rmTB (l : Launch) (Z : State) (a0 : Array Value) (hw : ∀ d ∈ tables_1, d.before a0 Z = true) (ws : List Jvm.Cond) (r0 : Addr) (n : Int32) (cs : Int32) (fm : Value) (kc : ClassId) (c0 : Int32) (c1 : Int32) (c2 : Int32) (c3 : Int32) (h0 : Heap) (n0 : Nat) (Z0 : n0 ≤ h0.size) (SB : own_St Z cs fm) (Od : Old Z n0 h0) (Vc : Arv Z h0 r0 kc .char n [(.int c0), (.int c1), (.int c2), (.int c3)] (.int (0 : Int32))) (hN : own_n n) (hZs : own_zs n c0 c1 c2 c3) :
    MetFree l (⟨"java/lang/StringUTF16", "toBytes", "([CII)[B"⟩ : MethodName) (head1 (Jvm.Cond.code (⟨"java/lang/StringUTF16", "toBytes", "([CII)[B"⟩ : MethodName) jdk_52_method_14_code 5 (some (.array .byte)) :: ws) ({ frames := 2, cells := 1, slots := 8, locals := 24 } : Room)) (fun a U => a = #[(.ref r0), (.int (0 : Int32)), (.int n)] ∧ Z.Warmed39 U.vm ∧ U.heap = h0) (fun _ _ _ _ _ => True) (fun _ U o U' => ∃ v L, o = .returned v ∧ Q_rmTB Z r0 n cs fm kc c0 c1 c2 c3 h0 n0 v U'.heap L ∧ FrameEnd U o U' L ({ frames := 2, cells := 1, slots := 8, locals := 24 } : Room).cells ({ frames := 2, cells := 1, slots := 8, locals := 24 } : Room).slots) := by
  refine MetFree.of_bodySF (plainFor_of_name pn_1) hisR ?_
  intro p e s m args below meth c s₁ Bd hml0 hP hK
  obtain ⟨rfl, hZ, hh⟩ := hP
  have hx := Bd.exec
  have hby := Bd.bytes
  have hml : c.maxLocals = 5 := hml0
  have hown : s.vm.findClass "java/lang/StringUTF16" = some m.cls := findClass_of_methodNamed Bd.named
  have hnm := (name_of_methodNamed Bd.named Bd.method).1
  have X0 : Stand p l e ({ frames := 2, cells := 1, slots := 8, locals := 24 } : Room) s m #[(.ref r0), (.int (0 : Int32)), (.int n)] below meth c s₁ [] 0 0 := Stand.of_body Bd
  have e0 : s₁.heap = h0 := by rw [← hh, Bd.state]; rfl
  have N0 := Fr.nil n0
  have pre0 : ∀ t, Steps p.tables e below (s₁.setTop (mkF m 0 #[.val (.ref r0), .val (.int (0 : Int32)), .val (.int n), .unset, .unset] [])) t → Steps p.tables e below (s₁.setTop (entryFrame m #[(.ref r0), (.int (0 : Int32)), (.int n)] 5)) t := fun t k => castTop (ef_rmTB m r0 (0 : Int32) n) k
  have Kp : Keep h0 h0 [] := Keep.refl _ _
  have zz := own_zz hN hZs
  have st1 : own_S p e below s₁ (mkF m 1 #[.val (.ref r0), .val (.int (0 : Int32)), .val (.int n), .unset, .unset] [(.int n)]) (mkF m 0 #[.val (.ref r0), .val (.int (0 : Int32)), .val (.int n), .unset, .unset] []) := by
    intro target kt
    refine XS.iloadN X0.here hx rfl (hb hby d20_0) rfl ?_
    exact kt
  obtain ⟨_, _, ⟨T2, L2, k2, n2⟩, -, X2, ⟨Lc2, hQ2, l2, y2, z2⟩, st2⟩ := Jvm.LawKit.callS X0 hx (y := (⟨"java/lang/StringUTF16", "newBytesFor", "(I)[B"⟩ : MethodName)) hown (mvT hZ (own_w hw 106 rfl)) (mvT hZ (own_w hw 107 rfl)) (mvT hZ (own_w hw 92 rfl)) (mvT hZ (own_w hw 108 rfl)) (by decide) (backOf (W := 0) (rmNb l Z a0 hw [] n  h0 n0 Z0 hN) hZ (own_w hw 108 rfl) (own_w hw 92 rfl) (by decide) (by decide)) (g := (mkF m 1 #[.val (.ref r0), .val (.int (0 : Int32)), .val (.int n), .unset, .unset] [(.int n)])) rfl (by rw [hml]; rfl) (argsL := [(.int n)]) (rest := []) (lenOf pd_15 rfl) rfl (by show 2 * 0 + _ ≤ _; exact Nat.le_of_eq rfl) (hb hby d20_1) (fun _ _ => ⟨rfl, e0, (by decide : 0 + 1 ≤ _), (by decide : 0 + 8 ≤ _)⟩)
  dsimp only [Pt.U, Pt.locs, Pt.cells, Pt.slots] at X2 l2 y2 z2 st2 hQ2
  subst l2 y2 z2
  obtain ⟨y2, rfl, Nq2, K2, sz2, ky, Vy⟩ := hQ2
  have N2 := Fr.app N0 Nq2
  have g_y2 : n0 ≤ y2 := Nat.le_trans Z0 sz2
  have sz_y2 : h0.size ≤ y2 := Nat.le_trans Kp.1 sz2
  have ne_r0_y2 : r0 ≠ y2 := Nat.ne_of_lt (Nat.lt_of_lt_of_le Vc.lt sz2)
  have Od_2 := Od.keep K2 (all0)
  have Vc_2 := Vc.keep K2 nin0
  have Z_2 : n0 ≤ T2.heap.size := Nat.le_trans Z0 K2.1
  have Kp_2 : Keep h0 T2.heap [] := Kp.trans K2 (all0)
  have st3 : own_S p e below T2 (mkF m 11 #[.val (.ref r0), .val (.int (0 : Int32)), .val (.int n), .val (.ref y2), .val (.int (0 : Int32))] [(.int n), (.int (0 : Int32))]) (mkF m 4 #[.val (.ref r0), .val (.int (0 : Int32)), .val (.int n), .unset, .unset] [(.ref y2)]) := by
    intro target kt
    refine XS.astoreN X2.here hx rfl (hb hby d20_4) rfl rfl (l' := #[.val (.ref r0), .val (.int (0 : Int32)), .val (.int n), .val (.ref y2), .unset]) rfl ?_
    refine XS.iconst X2.here hx rfl (hb hby d20_5) ?_
    refine XS.istore X2.here hx rfl (hb hby d20_6) rfl (l' := #[.val (.ref r0), .val (.int (0 : Int32)), .val (.int n), .val (.ref y2), .val (.int (0 : Int32))]) rfl ?_
    refine XS.iload X2.here hx rfl (hb hby d20_8) rfl ?_
    refine XS.iloadN X2.here hx rfl (hb hby d20_10) rfl ?_
    exact kt
  by_cases gt_0 : (0 : Int32) < n
  · have st4 : own_S p e below T2 (mkF m 14 #[.val (.ref r0), .val (.int (0 : Int32)), .val (.int n), .val (.ref y2), .val (.int (0 : Int32))] []) (mkF m 11 #[.val (.ref r0), .val (.int (0 : Int32)), .val (.int n), .val (.ref y2), .val (.int (0 : Int32))] [(.int n), (.int (0 : Int32))]) := by
      intro target kt
      refine XS.icmpNo X2.here hx rfl (hb hby d20_11) rfl (tlt gt_0).2.1 ?_
      exact kt
    have st5 : own_S p e below T2 (mkF m 19 #[.val (.ref r0), .val (.int (0 : Int32)), .val (.int n), .val (.ref y2), .val (.int (0 : Int32))] [(.int (0 : Int32)), (.ref r0), (.int (0 : Int32)), (.ref y2)]) (mkF m 14 #[.val (.ref r0), .val (.int (0 : Int32)), .val (.int n), .val (.ref y2), .val (.int (0 : Int32))] []) := by
      intro target kt
      refine XS.aloadN X2.here hx rfl (hb hby d20_14) rfl rfl ?_
      refine XS.iload X2.here hx rfl (hb hby d20_15) rfl ?_
      refine XS.aloadN X2.here hx rfl (hb hby d20_17) rfl rfl ?_
      refine XS.iloadN X2.here hx rfl (hb hby d20_18) rfl ?_
      exact kt
    obtain ⟨cl6, Ar6, qc6, Sz6, Mn6, Hs6, Gs6⟩ := id Vc_2
    have hin6 : ¬ ((0 : Int32) < 0 ∨ cl6.slots.size ≤ ((0 : Int32)).toNatClampNeg) := inb_of Sz6 ⟨by decide, gt_0⟩
    have hat6 : cl6.slots[((0 : Int32)).toNatClampNeg]? = some (.int c0) := Hs6.at hin6 rfl
    have st6 : own_S p e below T2 (mkF m 20 #[.val (.ref r0), .val (.int (0 : Int32)), .val (.int n), .val (.ref y2), .val (.int (0 : Int32))] [(.int c0), (.int (0 : Int32)), (.ref y2)]) (mkF m 19 #[.val (.ref r0), .val (.int (0 : Int32)), .val (.int n), .val (.ref y2), .val (.int (0 : Int32))] [(.int (0 : Int32)), (.ref r0), (.int (0 : Int32)), (.ref y2)]) := fun target kt => X2.caload hx (j := (0 : Int32)) (v := (.int c0)) Ar6.1 (State.isArrayOf_alike hZ.alike Ar6.2.1) Ar6.2.2 hin6 hat6 (g := (mkF m 19 #[.val (.ref r0), .val (.int (0 : Int32)), .val (.int n), .val (.ref y2), .val (.int (0 : Int32))] [(.int (0 : Int32)), (.ref r0), (.int (0 : Int32)), (.ref y2)])) rfl rfl (hb hby d20_19) _ kt
    obtain ⟨_, _, ⟨T7, L7, k7, n7⟩, -, X7, ⟨Lc7, hQ7, l7, y7, z7⟩, st7⟩ := Jvm.LawKit.callS X2 hx (y := (⟨"java/lang/StringUTF16", "putChar", "([BII)V"⟩ : MethodName)) hown (mvT hZ (own_w hw 113 rfl)) (mvT hZ (own_w hw 114 rfl)) (mvT hZ (own_w hw 92 rfl)) (mvT hZ (own_w hw 115 rfl)) (by decide) (backOf (W := 0) (rmPC0 l Z a0 hw [] y2 c0 cs fm ky n (0 : Int32) (0 : Int32) (0 : Int32) (0 : Int32) (0 : Int32) (0 : Int32) (0 : Int32) (0 : Int32) T2.heap n0 Z_2 SB Od_2 Vy g_y2 hN gt_0) hZ (own_w hw 115 rfl) (own_w hw 92 rfl) (by decide) (by decide)) (g := (mkF m 20 #[.val (.ref r0), .val (.int (0 : Int32)), .val (.int n), .val (.ref y2), .val (.int (0 : Int32))] [(.int c0), (.int (0 : Int32)), (.ref y2)])) rfl (by rw [hml]; rfl) (argsL := [(.ref y2), (.int (0 : Int32)), (.int c0)]) (rest := []) (lenOf pd_17 rfl) rfl (by show 2 * 0 + _ ≤ _; exact Nat.le_of_eq rfl) (hb hby d20_20) (fun _ _ => ⟨rfl, rfl, (by decide : 1 + 0 ≤ _), (by decide : 8 + 0 ≤ _)⟩)
    dsimp only [Pt.U, Pt.locs, Pt.cells, Pt.slots] at X7 l7 y7 z7 st7 hQ7
    subst l7 y7 z7
    obtain ⟨rfl, Nq7, K7, Vy7⟩ := hQ7
    have N7 := Fr.app N2 Nq7
    have Od_7 := Od_2.keep K7 (allS g_y2 (all0))
    have Vc_7 := Vc_2.keep K7 (ninS ne_r0_y2 nin0)
    have Z_7 : n0 ≤ T7.heap.size := Nat.le_trans Z_2 K7.1
    have Kp_7 : Keep h0 T7.heap [] := Kp_2.trans K7 (allS (Or.inr sz_y2) (all0))
    have st8 : own_S p e below T7 (mkF m 11 #[.val (.ref r0), .val (.int (1 : Int32)), .val (.int n), .val (.ref y2), .val (.int (1 : Int32))] [(.int n), (.int (1 : Int32))]) (mkF m 23 #[.val (.ref r0), .val (.int (0 : Int32)), .val (.int n), .val (.ref y2), .val (.int (0 : Int32))] []) := by
      intro target kt
      refine XS.iinc X7.here hx rfl (hb hby d20_23) rfl (l' := #[.val (.ref r0), .val (.int (1 : Int32)), .val (.int n), .val (.ref y2), .val (.int (0 : Int32))]) rfl ?_
      refine XS.iinc X7.here hx rfl (hb hby d20_26) rfl (l' := #[.val (.ref r0), .val (.int (1 : Int32)), .val (.int n), .val (.ref y2), .val (.int (1 : Int32))]) rfl ?_
      refine XS.goto X7.here hx rfl (pc0 := 29) (pc' := 8) rfl (hb hby d20_29) (by decide) (by decide) ?_
      refine XS.iload X7.here hx rfl (hb hby d20_8) rfl ?_
      refine XS.iloadN X7.here hx rfl (hb hby d20_10) rfl ?_
      exact kt
    by_cases gt_1 : (1 : Int32) < n
    · have st9 : own_S p e below T7 (mkF m 14 #[.val (.ref r0), .val (.int (1 : Int32)), .val (.int n), .val (.ref y2), .val (.int (1 : Int32))] []) (mkF m 11 #[.val (.ref r0), .val (.int (1 : Int32)), .val (.int n), .val (.ref y2), .val (.int (1 : Int32))] [(.int n), (.int (1 : Int32))]) := by
        intro target kt
        refine XS.icmpNo X7.here hx rfl (hb hby d20_11) rfl (tlt gt_1).2.1 ?_
        exact kt
      have st10 : own_S p e below T7 (mkF m 19 #[.val (.ref r0), .val (.int (1 : Int32)), .val (.int n), .val (.ref y2), .val (.int (1 : Int32))] [(.int (1 : Int32)), (.ref r0), (.int (1 : Int32)), (.ref y2)]) (mkF m 14 #[.val (.ref r0), .val (.int (1 : Int32)), .val (.int n), .val (.ref y2), .val (.int (1 : Int32))] []) := by
        intro target kt
        refine XS.aloadN X7.here hx rfl (hb hby d20_14) rfl rfl ?_
        refine XS.iload X7.here hx rfl (hb hby d20_15) rfl ?_
        refine XS.aloadN X7.here hx rfl (hb hby d20_17) rfl rfl ?_
        refine XS.iloadN X7.here hx rfl (hb hby d20_18) rfl ?_
        exact kt
      obtain ⟨cl11, Ar11, qc11, Sz11, Mn11, Hs11, Gs11⟩ := id Vc_7
      have hin11 : ¬ ((1 : Int32) < 0 ∨ cl11.slots.size ≤ ((1 : Int32)).toNatClampNeg) := inb_of Sz11 ⟨by decide, gt_1⟩
      have hat11 : cl11.slots[((1 : Int32)).toNatClampNeg]? = some (.int c1) := Hs11.at hin11 rfl
      have st11 : own_S p e below T7 (mkF m 20 #[.val (.ref r0), .val (.int (1 : Int32)), .val (.int n), .val (.ref y2), .val (.int (1 : Int32))] [(.int c1), (.int (1 : Int32)), (.ref y2)]) (mkF m 19 #[.val (.ref r0), .val (.int (1 : Int32)), .val (.int n), .val (.ref y2), .val (.int (1 : Int32))] [(.int (1 : Int32)), (.ref r0), (.int (1 : Int32)), (.ref y2)]) := fun target kt => X7.caload hx (j := (1 : Int32)) (v := (.int c1)) Ar11.1 (State.isArrayOf_alike hZ.alike Ar11.2.1) Ar11.2.2 hin11 hat11 (g := (mkF m 19 #[.val (.ref r0), .val (.int (1 : Int32)), .val (.int n), .val (.ref y2), .val (.int (1 : Int32))] [(.int (1 : Int32)), (.ref r0), (.int (1 : Int32)), (.ref y2)])) rfl rfl (hb hby d20_19) _ kt
      obtain ⟨_, _, ⟨T12, L12, k12, n12⟩, -, X12, ⟨Lc12, hQ12, l12, y12, z12⟩, st12⟩ := Jvm.LawKit.callS X7 hx (y := (⟨"java/lang/StringUTF16", "putChar", "([BII)V"⟩ : MethodName)) hown (mvT hZ (own_w hw 113 rfl)) (mvT hZ (own_w hw 114 rfl)) (mvT hZ (own_w hw 92 rfl)) (mvT hZ (own_w hw 115 rfl)) (by decide) (backOf (W := 0) (rmPC1 l Z a0 hw [] y2 c1 cs fm ky n (own_lo c0) (own_hi c0) (0 : Int32) (0 : Int32) (0 : Int32) (0 : Int32) (0 : Int32) (0 : Int32) T7.heap n0 Z_7 SB Od_7 Vy7 g_y2 hN gt_1) hZ (own_w hw 115 rfl) (own_w hw 92 rfl) (by decide) (by decide)) (g := (mkF m 20 #[.val (.ref r0), .val (.int (1 : Int32)), .val (.int n), .val (.ref y2), .val (.int (1 : Int32))] [(.int c1), (.int (1 : Int32)), (.ref y2)])) rfl (by rw [hml]; rfl) (argsL := [(.ref y2), (.int (1 : Int32)), (.int c1)]) (rest := []) (lenOf pd_17 rfl) rfl (by show 2 * 0 + _ ≤ _; exact Nat.le_of_eq rfl) (hb hby d20_20) (fun _ _ => ⟨rfl, rfl, (by decide : 1 + 0 ≤ _), (by decide : 8 + 0 ≤ _)⟩)
      dsimp only [Pt.U, Pt.locs, Pt.cells, Pt.slots] at X12 l12 y12 z12 st12 hQ12
      subst l12 y12 z12
      obtain ⟨rfl, Nq12, K12, Vy12⟩ := hQ12
      have N12 := Fr.app N7 Nq12
      have Od_12 := Od_7.keep K12 (allS g_y2 (all0))
      have Vc_12 := Vc_7.keep K12 (ninS ne_r0_y2 nin0)
      have Z_12 : n0 ≤ T12.heap.size := Nat.le_trans Z_7 K12.1
      have Kp_12 : Keep h0 T12.heap [] := Kp_7.trans K12 (allS (Or.inr sz_y2) (all0))
      have st13 : own_S p e below T12 (mkF m 11 #[.val (.ref r0), .val (.int (2 : Int32)), .val (.int n), .val (.ref y2), .val (.int (2 : Int32))] [(.int n), (.int (2 : Int32))]) (mkF m 23 #[.val (.ref r0), .val (.int (1 : Int32)), .val (.int n), .val (.ref y2), .val (.int (1 : Int32))] []) := by
        intro target kt
        refine XS.iinc X12.here hx rfl (hb hby d20_23) rfl (l' := #[.val (.ref r0), .val (.int (2 : Int32)), .val (.int n), .val (.ref y2), .val (.int (1 : Int32))]) rfl ?_
        refine XS.iinc X12.here hx rfl (hb hby d20_26) rfl (l' := #[.val (.ref r0), .val (.int (2 : Int32)), .val (.int n), .val (.ref y2), .val (.int (2 : Int32))]) rfl ?_
        refine XS.goto X12.here hx rfl (pc0 := 29) (pc' := 8) rfl (hb hby d20_29) (by decide) (by decide) ?_
        refine XS.iload X12.here hx rfl (hb hby d20_8) rfl ?_
        refine XS.iloadN X12.here hx rfl (hb hby d20_10) rfl ?_
        exact kt
      by_cases gt_2 : (2 : Int32) < n
      · have st14 : own_S p e below T12 (mkF m 14 #[.val (.ref r0), .val (.int (2 : Int32)), .val (.int n), .val (.ref y2), .val (.int (2 : Int32))] []) (mkF m 11 #[.val (.ref r0), .val (.int (2 : Int32)), .val (.int n), .val (.ref y2), .val (.int (2 : Int32))] [(.int n), (.int (2 : Int32))]) := by
          intro target kt
          refine XS.icmpNo X12.here hx rfl (hb hby d20_11) rfl (tlt gt_2).2.1 ?_
          exact kt
        have st15 : own_S p e below T12 (mkF m 19 #[.val (.ref r0), .val (.int (2 : Int32)), .val (.int n), .val (.ref y2), .val (.int (2 : Int32))] [(.int (2 : Int32)), (.ref r0), (.int (2 : Int32)), (.ref y2)]) (mkF m 14 #[.val (.ref r0), .val (.int (2 : Int32)), .val (.int n), .val (.ref y2), .val (.int (2 : Int32))] []) := by
          intro target kt
          refine XS.aloadN X12.here hx rfl (hb hby d20_14) rfl rfl ?_
          refine XS.iload X12.here hx rfl (hb hby d20_15) rfl ?_
          refine XS.aloadN X12.here hx rfl (hb hby d20_17) rfl rfl ?_
          refine XS.iloadN X12.here hx rfl (hb hby d20_18) rfl ?_
          exact kt
        obtain ⟨cl16, Ar16, qc16, Sz16, Mn16, Hs16, Gs16⟩ := id Vc_12
        have hin16 : ¬ ((2 : Int32) < 0 ∨ cl16.slots.size ≤ ((2 : Int32)).toNatClampNeg) := inb_of Sz16 ⟨by decide, gt_2⟩
        have hat16 : cl16.slots[((2 : Int32)).toNatClampNeg]? = some (.int c2) := Hs16.at hin16 rfl
        have st16 : own_S p e below T12 (mkF m 20 #[.val (.ref r0), .val (.int (2 : Int32)), .val (.int n), .val (.ref y2), .val (.int (2 : Int32))] [(.int c2), (.int (2 : Int32)), (.ref y2)]) (mkF m 19 #[.val (.ref r0), .val (.int (2 : Int32)), .val (.int n), .val (.ref y2), .val (.int (2 : Int32))] [(.int (2 : Int32)), (.ref r0), (.int (2 : Int32)), (.ref y2)]) := fun target kt => X12.caload hx (j := (2 : Int32)) (v := (.int c2)) Ar16.1 (State.isArrayOf_alike hZ.alike Ar16.2.1) Ar16.2.2 hin16 hat16 (g := (mkF m 19 #[.val (.ref r0), .val (.int (2 : Int32)), .val (.int n), .val (.ref y2), .val (.int (2 : Int32))] [(.int (2 : Int32)), (.ref r0), (.int (2 : Int32)), (.ref y2)])) rfl rfl (hb hby d20_19) _ kt
        obtain ⟨_, _, ⟨T17, L17, k17, n17⟩, -, X17, ⟨Lc17, hQ17, l17, y17, z17⟩, st17⟩ := Jvm.LawKit.callS X12 hx (y := (⟨"java/lang/StringUTF16", "putChar", "([BII)V"⟩ : MethodName)) hown (mvT hZ (own_w hw 113 rfl)) (mvT hZ (own_w hw 114 rfl)) (mvT hZ (own_w hw 92 rfl)) (mvT hZ (own_w hw 115 rfl)) (by decide) (backOf (W := 0) (rmPC2 l Z a0 hw [] y2 c2 cs fm ky n (own_lo c0) (own_hi c0) (own_lo c1) (own_hi c1) (0 : Int32) (0 : Int32) (0 : Int32) (0 : Int32) T12.heap n0 Z_12 SB Od_12 Vy12 g_y2 hN gt_2) hZ (own_w hw 115 rfl) (own_w hw 92 rfl) (by decide) (by decide)) (g := (mkF m 20 #[.val (.ref r0), .val (.int (2 : Int32)), .val (.int n), .val (.ref y2), .val (.int (2 : Int32))] [(.int c2), (.int (2 : Int32)), (.ref y2)])) rfl (by rw [hml]; rfl) (argsL := [(.ref y2), (.int (2 : Int32)), (.int c2)]) (rest := []) (lenOf pd_17 rfl) rfl (by show 2 * 0 + _ ≤ _; exact Nat.le_of_eq rfl) (hb hby d20_20) (fun _ _ => ⟨rfl, rfl, (by decide : 1 + 0 ≤ _), (by decide : 8 + 0 ≤ _)⟩)
        dsimp only [Pt.U, Pt.locs, Pt.cells, Pt.slots] at X17 l17 y17 z17 st17 hQ17
        subst l17 y17 z17
        obtain ⟨rfl, Nq17, K17, Vy17⟩ := hQ17
        have N17 := Fr.app N12 Nq17
        have Od_17 := Od_12.keep K17 (allS g_y2 (all0))
        have Vc_17 := Vc_12.keep K17 (ninS ne_r0_y2 nin0)
        have Z_17 : n0 ≤ T17.heap.size := Nat.le_trans Z_12 K17.1
        have Kp_17 : Keep h0 T17.heap [] := Kp_12.trans K17 (allS (Or.inr sz_y2) (all0))
        have st18 : own_S p e below T17 (mkF m 11 #[.val (.ref r0), .val (.int (3 : Int32)), .val (.int n), .val (.ref y2), .val (.int (3 : Int32))] [(.int n), (.int (3 : Int32))]) (mkF m 23 #[.val (.ref r0), .val (.int (2 : Int32)), .val (.int n), .val (.ref y2), .val (.int (2 : Int32))] []) := by
          intro target kt
          refine XS.iinc X17.here hx rfl (hb hby d20_23) rfl (l' := #[.val (.ref r0), .val (.int (3 : Int32)), .val (.int n), .val (.ref y2), .val (.int (2 : Int32))]) rfl ?_
          refine XS.iinc X17.here hx rfl (hb hby d20_26) rfl (l' := #[.val (.ref r0), .val (.int (3 : Int32)), .val (.int n), .val (.ref y2), .val (.int (3 : Int32))]) rfl ?_
          refine XS.goto X17.here hx rfl (pc0 := 29) (pc' := 8) rfl (hb hby d20_29) (by decide) (by decide) ?_
          refine XS.iload X17.here hx rfl (hb hby d20_8) rfl ?_
          refine XS.iloadN X17.here hx rfl (hb hby d20_10) rfl ?_
          exact kt
        by_cases gt_3 : (3 : Int32) < n
        · have st19 : own_S p e below T17 (mkF m 14 #[.val (.ref r0), .val (.int (3 : Int32)), .val (.int n), .val (.ref y2), .val (.int (3 : Int32))] []) (mkF m 11 #[.val (.ref r0), .val (.int (3 : Int32)), .val (.int n), .val (.ref y2), .val (.int (3 : Int32))] [(.int n), (.int (3 : Int32))]) := by
            intro target kt
            refine XS.icmpNo X17.here hx rfl (hb hby d20_11) rfl (tlt gt_3).2.1 ?_
            exact kt
          have st20 : own_S p e below T17 (mkF m 19 #[.val (.ref r0), .val (.int (3 : Int32)), .val (.int n), .val (.ref y2), .val (.int (3 : Int32))] [(.int (3 : Int32)), (.ref r0), (.int (3 : Int32)), (.ref y2)]) (mkF m 14 #[.val (.ref r0), .val (.int (3 : Int32)), .val (.int n), .val (.ref y2), .val (.int (3 : Int32))] []) := by
            intro target kt
            refine XS.aloadN X17.here hx rfl (hb hby d20_14) rfl rfl ?_
            refine XS.iload X17.here hx rfl (hb hby d20_15) rfl ?_
            refine XS.aloadN X17.here hx rfl (hb hby d20_17) rfl rfl ?_
            refine XS.iloadN X17.here hx rfl (hb hby d20_18) rfl ?_
            exact kt
          obtain ⟨cl21, Ar21, qc21, Sz21, Mn21, Hs21, Gs21⟩ := id Vc_17
          have hin21 : ¬ ((3 : Int32) < 0 ∨ cl21.slots.size ≤ ((3 : Int32)).toNatClampNeg) := inb_of Sz21 ⟨by decide, gt_3⟩
          have hat21 : cl21.slots[((3 : Int32)).toNatClampNeg]? = some (.int c3) := Hs21.at hin21 rfl
          have st21 : own_S p e below T17 (mkF m 20 #[.val (.ref r0), .val (.int (3 : Int32)), .val (.int n), .val (.ref y2), .val (.int (3 : Int32))] [(.int c3), (.int (3 : Int32)), (.ref y2)]) (mkF m 19 #[.val (.ref r0), .val (.int (3 : Int32)), .val (.int n), .val (.ref y2), .val (.int (3 : Int32))] [(.int (3 : Int32)), (.ref r0), (.int (3 : Int32)), (.ref y2)]) := fun target kt => X17.caload hx (j := (3 : Int32)) (v := (.int c3)) Ar21.1 (State.isArrayOf_alike hZ.alike Ar21.2.1) Ar21.2.2 hin21 hat21 (g := (mkF m 19 #[.val (.ref r0), .val (.int (3 : Int32)), .val (.int n), .val (.ref y2), .val (.int (3 : Int32))] [(.int (3 : Int32)), (.ref r0), (.int (3 : Int32)), (.ref y2)])) rfl rfl (hb hby d20_19) _ kt
          obtain ⟨_, _, ⟨T22, L22, k22, n22⟩, -, X22, ⟨Lc22, hQ22, l22, y22, z22⟩, st22⟩ := Jvm.LawKit.callS X17 hx (y := (⟨"java/lang/StringUTF16", "putChar", "([BII)V"⟩ : MethodName)) hown (mvT hZ (own_w hw 113 rfl)) (mvT hZ (own_w hw 114 rfl)) (mvT hZ (own_w hw 92 rfl)) (mvT hZ (own_w hw 115 rfl)) (by decide) (backOf (W := 0) (rmPC3 l Z a0 hw [] y2 c3 cs fm ky n (own_lo c0) (own_hi c0) (own_lo c1) (own_hi c1) (own_lo c2) (own_hi c2) (0 : Int32) (0 : Int32) T17.heap n0 Z_17 SB Od_17 Vy17 g_y2 hN gt_3) hZ (own_w hw 115 rfl) (own_w hw 92 rfl) (by decide) (by decide)) (g := (mkF m 20 #[.val (.ref r0), .val (.int (3 : Int32)), .val (.int n), .val (.ref y2), .val (.int (3 : Int32))] [(.int c3), (.int (3 : Int32)), (.ref y2)])) rfl (by rw [hml]; rfl) (argsL := [(.ref y2), (.int (3 : Int32)), (.int c3)]) (rest := []) (lenOf pd_17 rfl) rfl (by show 2 * 0 + _ ≤ _; exact Nat.le_of_eq rfl) (hb hby d20_20) (fun _ _ => ⟨rfl, rfl, (by decide : 1 + 0 ≤ _), (by decide : 8 + 0 ≤ _)⟩)
          dsimp only [Pt.U, Pt.locs, Pt.cells, Pt.slots] at X22 l22 y22 z22 st22 hQ22
          subst l22 y22 z22
          obtain ⟨rfl, Nq22, K22, Vy22⟩ := hQ22
          have N22 := Fr.app N17 Nq22
          have Od_22 := Od_17.keep K22 (allS g_y2 (all0))
          have Vc_22 := Vc_17.keep K22 (ninS ne_r0_y2 nin0)
          have Z_22 : n0 ≤ T22.heap.size := Nat.le_trans Z_17 K22.1
          have Kp_22 : Keep h0 T22.heap [] := Kp_17.trans K22 (allS (Or.inr sz_y2) (all0))
          have st23 : own_S p e below T22 (mkF m 11 #[.val (.ref r0), .val (.int (4 : Int32)), .val (.int n), .val (.ref y2), .val (.int (4 : Int32))] [(.int n), (.int (4 : Int32))]) (mkF m 23 #[.val (.ref r0), .val (.int (3 : Int32)), .val (.int n), .val (.ref y2), .val (.int (3 : Int32))] []) := by
            intro target kt
            refine XS.iinc X22.here hx rfl (hb hby d20_23) rfl (l' := #[.val (.ref r0), .val (.int (4 : Int32)), .val (.int n), .val (.ref y2), .val (.int (3 : Int32))]) rfl ?_
            refine XS.iinc X22.here hx rfl (hb hby d20_26) rfl (l' := #[.val (.ref r0), .val (.int (4 : Int32)), .val (.int n), .val (.ref y2), .val (.int (4 : Int32))]) rfl ?_
            refine XS.goto X22.here hx rfl (pc0 := 29) (pc' := 8) rfl (hb hby d20_29) (by decide) (by decide) ?_
            refine XS.iload X22.here hx rfl (hb hby d20_8) rfl ?_
            refine XS.iloadN X22.here hx rfl (hb hby d20_10) rfl ?_
            exact kt
          have g4_ : ¬ (4 : Int32) < n := by rcases hN with rfl | rfl | rfl | rfl | rfl <;> decide
          have st24 : own_S p e below T22 (mkF m 32 #[.val (.ref r0), .val (.int (4 : Int32)), .val (.int n), .val (.ref y2), .val (.int (4 : Int32))] []) (mkF m 11 #[.val (.ref r0), .val (.int (4 : Int32)), .val (.int n), .val (.ref y2), .val (.int (4 : Int32))] [(.int n), (.int (4 : Int32))]) := by
            intro target kt
            refine XS.icmpYes X22.here hx rfl (pc0 := 11) (pc' := 32) rfl (hb hby d20_11) rfl (flt g4_).2.1 (by decide) (by decide) ?_
            exact kt
          obtain ⟨fs, hr, hrun, hended, hW, hsame⟩ := X22.leave (v := some (.ref y2)) (fun h => by rw [Bd.returns] at h; cases h)
          refine ⟨_, _, pre0 _ (st1 _ (st2 _ (st3 _ (st4 _ (st5 _ (st6 _ (st7 _ (st8 _ (st9 _ (st10 _ (st11 _ (st12 _ (st13 _ (st14 _ (st15 _ (st16 _ (st17 _ (st18 _ (st19 _ (st20 _ (st21 _ (st22 _ (st23 _ (st24 _ ?_)))))))))))))))))))))))), hrun, hended, _, _, rfl, ?_, ⟨_, rfl⟩, hW, hsame.mono (by decide) (by decide)⟩
          · refine XS.aloadN X22.here hx rfl (hb hby d20_32) rfl rfl ?_
            show Steps p.tables e below (T22.setTop (mkF m 33 #[.val (.ref r0), .val (.int (4 : Int32)), .val (.int n), .val (.ref y2), .val (.int (4 : Int32))] [(.ref y2)])) _
            jvm_step X22.here [X22.here.top, hx, (hb hby d20_33), X22.method', Bd.returns, Value.isRef, FieldType.isReference]
            first | (intro acts; rw [hr _ acts rfl rfl rfl]) | rw [hr _ _ rfl rfl rfl]
            exact Steps.refl _
          · show Q_rmTB Z r0 n cs fm kc c0 c1 c2 c3 h0 n0 _ T22.heap _
            exact ⟨y2, rfl, N22, Kp_22, sz_y2, ky, Vy22⟩
        · have st25 : own_S p e below T17 (mkF m 32 #[.val (.ref r0), .val (.int (3 : Int32)), .val (.int n), .val (.ref y2), .val (.int (3 : Int32))] []) (mkF m 11 #[.val (.ref r0), .val (.int (3 : Int32)), .val (.int n), .val (.ref y2), .val (.int (3 : Int32))] [(.int n), (.int (3 : Int32))]) := by
            intro target kt
            refine XS.icmpYes X17.here hx rfl (pc0 := 11) (pc' := 32) rfl (hb hby d20_11) rfl (flt gt_3).2.1 (by decide) (by decide) ?_
            exact kt
          have Vq : Arv Z T17.heap y2 ky .byte (n + n) [(.int (own_lo c0)), (.int (own_hi c0)), (.int (own_lo c1)), (.int (own_hi c1)), (.int (own_lo c2)), (.int (own_hi c2)), (.int (own_lo c3)), (.int (own_hi c3))] (.int (0 : Int32)) := by rw [(zz.2.2.2 gt_3), own_lo0, own_hi0]; exact Vy17
          obtain ⟨fs, hr, hrun, hended, hW, hsame⟩ := X17.leave (v := some (.ref y2)) (fun h => by rw [Bd.returns] at h; cases h)
          refine ⟨_, _, pre0 _ (st1 _ (st2 _ (st3 _ (st4 _ (st5 _ (st6 _ (st7 _ (st8 _ (st9 _ (st10 _ (st11 _ (st12 _ (st13 _ (st14 _ (st15 _ (st16 _ (st17 _ (st18 _ (st25 _ ?_))))))))))))))))))), hrun, hended, _, _, rfl, ?_, ⟨_, rfl⟩, hW, hsame.mono (by decide) (by decide)⟩
          · refine XS.aloadN X17.here hx rfl (hb hby d20_32) rfl rfl ?_
            show Steps p.tables e below (T17.setTop (mkF m 33 #[.val (.ref r0), .val (.int (3 : Int32)), .val (.int n), .val (.ref y2), .val (.int (3 : Int32))] [(.ref y2)])) _
            jvm_step X17.here [X17.here.top, hx, (hb hby d20_33), X17.method', Bd.returns, Value.isRef, FieldType.isReference]
            first | (intro acts; rw [hr _ acts rfl rfl rfl]) | rw [hr _ _ rfl rfl rfl]
            exact Steps.refl _
          · show Q_rmTB Z r0 n cs fm kc c0 c1 c2 c3 h0 n0 _ T17.heap _
            exact ⟨y2, rfl, N17, Kp_17, sz_y2, ky, Vq⟩
      · have st26 : own_S p e below T12 (mkF m 32 #[.val (.ref r0), .val (.int (2 : Int32)), .val (.int n), .val (.ref y2), .val (.int (2 : Int32))] []) (mkF m 11 #[.val (.ref r0), .val (.int (2 : Int32)), .val (.int n), .val (.ref y2), .val (.int (2 : Int32))] [(.int n), (.int (2 : Int32))]) := by
          intro target kt
          refine XS.icmpYes X12.here hx rfl (pc0 := 11) (pc' := 32) rfl (hb hby d20_11) rfl (flt gt_2).2.1 (by decide) (by decide) ?_
          exact kt
        have Vq : Arv Z T12.heap y2 ky .byte (n + n) [(.int (own_lo c0)), (.int (own_hi c0)), (.int (own_lo c1)), (.int (own_hi c1)), (.int (own_lo c2)), (.int (own_hi c2)), (.int (own_lo c3)), (.int (own_hi c3))] (.int (0 : Int32)) := by rw [(zz.2.2.1 gt_2).1, (zz.2.2.1 gt_2).2, own_lo0, own_hi0]; exact Vy12
        obtain ⟨fs, hr, hrun, hended, hW, hsame⟩ := X12.leave (v := some (.ref y2)) (fun h => by rw [Bd.returns] at h; cases h)
        refine ⟨_, _, pre0 _ (st1 _ (st2 _ (st3 _ (st4 _ (st5 _ (st6 _ (st7 _ (st8 _ (st9 _ (st10 _ (st11 _ (st12 _ (st13 _ (st26 _ ?_)))))))))))))), hrun, hended, _, _, rfl, ?_, ⟨_, rfl⟩, hW, hsame.mono (by decide) (by decide)⟩
        · refine XS.aloadN X12.here hx rfl (hb hby d20_32) rfl rfl ?_
          show Steps p.tables e below (T12.setTop (mkF m 33 #[.val (.ref r0), .val (.int (2 : Int32)), .val (.int n), .val (.ref y2), .val (.int (2 : Int32))] [(.ref y2)])) _
          jvm_step X12.here [X12.here.top, hx, (hb hby d20_33), X12.method', Bd.returns, Value.isRef, FieldType.isReference]
          first | (intro acts; rw [hr _ acts rfl rfl rfl]) | rw [hr _ _ rfl rfl rfl]
          exact Steps.refl _
        · show Q_rmTB Z r0 n cs fm kc c0 c1 c2 c3 h0 n0 _ T12.heap _
          exact ⟨y2, rfl, N12, Kp_12, sz_y2, ky, Vq⟩
    · have st27 : own_S p e below T7 (mkF m 32 #[.val (.ref r0), .val (.int (1 : Int32)), .val (.int n), .val (.ref y2), .val (.int (1 : Int32))] []) (mkF m 11 #[.val (.ref r0), .val (.int (1 : Int32)), .val (.int n), .val (.ref y2), .val (.int (1 : Int32))] [(.int n), (.int (1 : Int32))]) := by
        intro target kt
        refine XS.icmpYes X7.here hx rfl (pc0 := 11) (pc' := 32) rfl (hb hby d20_11) rfl (flt gt_1).2.1 (by decide) (by decide) ?_
        exact kt
      have Vq : Arv Z T7.heap y2 ky .byte (n + n) [(.int (own_lo c0)), (.int (own_hi c0)), (.int (own_lo c1)), (.int (own_hi c1)), (.int (own_lo c2)), (.int (own_hi c2)), (.int (own_lo c3)), (.int (own_hi c3))] (.int (0 : Int32)) := by rw [(zz.2.1 gt_1).1, (zz.2.1 gt_1).2.1, (zz.2.1 gt_1).2.2, own_lo0, own_hi0]; exact Vy7
      obtain ⟨fs, hr, hrun, hended, hW, hsame⟩ := X7.leave (v := some (.ref y2)) (fun h => by rw [Bd.returns] at h; cases h)
      refine ⟨_, _, pre0 _ (st1 _ (st2 _ (st3 _ (st4 _ (st5 _ (st6 _ (st7 _ (st8 _ (st27 _ ?_))))))))), hrun, hended, _, _, rfl, ?_, ⟨_, rfl⟩, hW, hsame.mono (by decide) (by decide)⟩
      · refine XS.aloadN X7.here hx rfl (hb hby d20_32) rfl rfl ?_
        show Steps p.tables e below (T7.setTop (mkF m 33 #[.val (.ref r0), .val (.int (1 : Int32)), .val (.int n), .val (.ref y2), .val (.int (1 : Int32))] [(.ref y2)])) _
        jvm_step X7.here [X7.here.top, hx, (hb hby d20_33), X7.method', Bd.returns, Value.isRef, FieldType.isReference]
        first | (intro acts; rw [hr _ acts rfl rfl rfl]) | rw [hr _ _ rfl rfl rfl]
        exact Steps.refl _
      · show Q_rmTB Z r0 n cs fm kc c0 c1 c2 c3 h0 n0 _ T7.heap _
        exact ⟨y2, rfl, N7, Kp_7, sz_y2, ky, Vq⟩
  · have st28 : own_S p e below T2 (mkF m 32 #[.val (.ref r0), .val (.int (0 : Int32)), .val (.int n), .val (.ref y2), .val (.int (0 : Int32))] []) (mkF m 11 #[.val (.ref r0), .val (.int (0 : Int32)), .val (.int n), .val (.ref y2), .val (.int (0 : Int32))] [(.int n), (.int (0 : Int32))]) := by
      intro target kt
      refine XS.icmpYes X2.here hx rfl (pc0 := 11) (pc' := 32) rfl (hb hby d20_11) rfl (flt gt_0).2.1 (by decide) (by decide) ?_
      exact kt
    have Vq : Arv Z T2.heap y2 ky .byte (n + n) [(.int (own_lo c0)), (.int (own_hi c0)), (.int (own_lo c1)), (.int (own_hi c1)), (.int (own_lo c2)), (.int (own_hi c2)), (.int (own_lo c3)), (.int (own_hi c3))] (.int (0 : Int32)) := by rw [(zz.1 gt_0).1, (zz.1 gt_0).2.1, (zz.1 gt_0).2.2.1, (zz.1 gt_0).2.2.2, own_lo0, own_hi0]; exact Vy
    obtain ⟨fs, hr, hrun, hended, hW, hsame⟩ := X2.leave (v := some (.ref y2)) (fun h => by rw [Bd.returns] at h; cases h)
    refine ⟨_, _, pre0 _ (st1 _ (st2 _ (st3 _ (st28 _ ?_)))), hrun, hended, _, _, rfl, ?_, ⟨_, rfl⟩, hW, hsame.mono (by decide) (by decide)⟩
    · refine XS.aloadN X2.here hx rfl (hb hby d20_32) rfl rfl ?_
      show Steps p.tables e below (T2.setTop (mkF m 33 #[.val (.ref r0), .val (.int (0 : Int32)), .val (.int n), .val (.ref y2), .val (.int (0 : Int32))] [(.ref y2)])) _
      jvm_step X2.here [X2.here.top, hx, (hb hby d20_33), X2.method', Bd.returns, Value.isRef, FieldType.isReference]
      first | (intro acts; rw [hr _ acts rfl rfl rfl]) | rw [hr _ _ rfl rfl rfl]
      exact Steps.refl _
    · show Q_rmTB Z r0 n cs fm kc c0 c1 c2 c3 h0 n0 _ T2.heap _
      exact ⟨y2, rfl, N2, Kp_2, sz_y2, ky, Vq⟩
theorem d24_0 : decode jdk_52_method_5_code 0 = .ok (.getstatic 44, 3) := by decide +kernel
theorem d24_3 : decode jdk_52_method_5_code 3 = .ok (.ifCond .ne 25, 3) := by decide +kernel
theorem d24_28 : decode jdk_52_method_5_code 28 = .ok (.iload_n 1, 1) := by decide +kernel
theorem d24_29 : decode jdk_52_method_5_code 29 = .ok (.iconst 1, 1) := by decide +kernel
theorem d24_30 : decode jdk_52_method_5_code 30 = .ok (.ishl, 1) := by decide +kernel
theorem d24_31 : decode jdk_52_method_5_code 31 = .ok (.istore_n 1, 1) := by decide +kernel
theorem d24_32 : decode jdk_52_method_5_code 32 = .ok (.aload_n 0, 1) := by decide +kernel
theorem d24_33 : decode jdk_52_method_5_code 33 = .ok (.iload_n 1, 1) := by decide +kernel
theorem d24_34 : decode jdk_52_method_5_code 34 = .ok (.iinc 1 1, 3) := by decide +kernel
theorem d24_37 : decode jdk_52_method_5_code 37 = .ok (.baload, 1) := by decide +kernel
theorem d24_38 : decode jdk_52_method_5_code 38 = .ok (.sipush 255, 3) := by decide +kernel
theorem d24_41 : decode jdk_52_method_5_code 41 = .ok (.iand, 1) := by decide +kernel
theorem d24_42 : decode jdk_52_method_5_code 42 = .ok (.getstatic 59, 3) := by decide +kernel
theorem d24_45 : decode jdk_52_method_5_code 45 = .ok (.ishl, 1) := by decide +kernel
theorem d24_46 : decode jdk_52_method_5_code 46 = .ok (.aload_n 0, 1) := by decide +kernel
theorem d24_47 : decode jdk_52_method_5_code 47 = .ok (.iload_n 1, 1) := by decide +kernel
theorem d24_48 : decode jdk_52_method_5_code 48 = .ok (.baload, 1) := by decide +kernel
theorem d24_49 : decode jdk_52_method_5_code 49 = .ok (.sipush 255, 3) := by decide +kernel
theorem d24_52 : decode jdk_52_method_5_code 52 = .ok (.iand, 1) := by decide +kernel
theorem d24_53 : decode jdk_52_method_5_code 53 = .ok (.getstatic 63, 3) := by decide +kernel
theorem d24_56 : decode jdk_52_method_5_code 56 = .ok (.ishl, 1) := by decide +kernel
theorem d24_57 : decode jdk_52_method_5_code 57 = .ok (.ior, 1) := by decide +kernel
theorem d24_58 : decode jdk_52_method_5_code 58 = .ok (.i2c, 1) := by decide +kernel
theorem d24_59 : decode jdk_52_method_5_code 59 = .ok (.ireturn, 1) := by decide +kernel
theorem ef_rmGC (m : MethodId) (x0 : Addr) (x1 : Int32) : entryFrame m #[(.ref x0), (.int x1)] 2 = mkF m 0 #[.val (.ref x0), .val (.int x1)] [] := by first | (simp [entryFrame, mkF, argsToLocals, Value.category]; done) | rfl
def Q_rmGC (Z : State) (r0 : Addr) (p1 : Int32) (cs : Int32) (fm : Value) (ky : ClassId) (n : Int32) (c0 : Int32) (c1 : Int32) (c2 : Int32) (c3 : Int32) (h0 : Heap) (n0 : Nat) (v : Option Value) (h : Heap) (L : List Loc) : Prop := v = some (.int (own_at p1 c0 c1 c2 c3)) ∧ Fr n0 L ∧ h = h0
set_option maxRecDepth 65536 in
set_option maxHeartbeats 40000000 in
theorem rmGC (l : Launch) (Z : State) (a0 : Array Value) (hw : ∀ d ∈ tables_1, d.before a0 Z = true) (ws : List Jvm.Cond) (r0 : Addr) (p1 : Int32) (cs : Int32) (fm : Value) (ky : ClassId) (n : Int32) (c0 : Int32) (c1 : Int32) (c2 : Int32) (c3 : Int32) (h0 : Heap) (n0 : Nat) (Z0 : n0 ≤ h0.size) (SB : own_St Z cs fm) (Od : Old Z n0 h0) (Vy : Arv Z h0 r0 ky .byte (n + n) [(.int (own_lo c0)), (.int (own_hi c0)), (.int (own_lo c1)), (.int (own_hi c1)), (.int (own_lo c2)), (.int (own_hi c2)), (.int (own_lo c3)), (.int (own_hi c3))] (.int (0 : Int32))) (hN : own_n n) (hch : own_chs c0 c1 c2 c3) (hi : own_n p1) (hl : p1 < n) :
    MetFree l (⟨"java/lang/StringUTF16", "getChar", "([BI)C"⟩ : MethodName) (head1 (Jvm.Cond.code (⟨"java/lang/StringUTF16", "getChar", "([BI)C"⟩ : MethodName) jdk_52_method_5_code 2 (some .char) :: ws) ({ frames := 0, cells := 0, slots := 0, locals := 0 } : Room)) (fun a U => a = #[(.ref r0), (.int p1)] ∧ Z.Warmed39 U.vm ∧ U.heap = h0) (fun _ _ _ _ _ => True) (fun _ U o U' => ∃ v L, o = .returned v ∧ Q_rmGC Z r0 p1 cs fm ky n c0 c1 c2 c3 h0 n0 v U'.heap L ∧ FrameEnd U o U' L ({ frames := 0, cells := 0, slots := 0, locals := 0 } : Room).cells ({ frames := 0, cells := 0, slots := 0, locals := 0 } : Room).slots) := by
  refine MetFree.of_bodySF (plainFor_of_name pn_1) hisR ?_
  intro p e s m args below meth c s₁ Bd hml0 hP hK
  obtain ⟨rfl, hZ, hh⟩ := hP
  have hx := Bd.exec
  have hby := Bd.bytes
  have hml : c.maxLocals = 2 := hml0
  have hown : s.vm.findClass "java/lang/StringUTF16" = some m.cls := findClass_of_methodNamed Bd.named
  have hnm := (name_of_methodNamed Bd.named Bd.method).1
  have X0 : Stand p l e ({ frames := 0, cells := 0, slots := 0, locals := 0 } : Room) s m #[(.ref r0), (.int p1)] below meth c s₁ [] 0 0 := Stand.of_body Bd
  have e0 : s₁.heap = h0 := by rw [← hh, Bd.state]; rfl
  have N0 := Fr.nil n0
  have pre0 : ∀ t, Steps p.tables e below (s₁.setTop (mkF m 0 #[.val (.ref r0), .val (.int p1)] [])) t → Steps p.tables e below (s₁.setTop (entryFrame m #[(.ref r0), (.int p1)] 2)) t := fun t k => castTop (ef_rmGC m r0 p1) k
  have l2_ := own_l2 hi hN hl
  obtain ⟨T1, X1, e1, st1⟩ := getS2 X0 hx hZ hown (host := "") (Or.inl (own_w hw 116 rfl)) Via.refl e0 (SB.2.2.2.2.1.ext Od.2) (g := (mkF m 0 #[.val (.ref r0), .val (.int p1)] [])) rfl (hb hby d24_0)
  have st2 : own_S p e below T1 (mkF m 37 #[.val (.ref r0), .val (.int ((p1 <<< ((1 : Int32) &&& 31)) + (1 : Int32)))] [(.int (p1 <<< ((1 : Int32) &&& 31))), (.ref r0)]) (mkF m 3 #[.val (.ref r0), .val (.int p1)] [(.int (1 : Int32))]) := by
    intro target kt
    refine XS.ifYes X1.here hx rfl (pc0 := 3) (pc' := 28) rfl (hb hby d24_3) rfl ((if0 _ _).trans (feq (by decide : ¬ ((1 : Int32) = (0 : Int32)))).2) (by decide) (by decide) ?_
    refine XS.iloadN X1.here hx rfl (hb hby d24_28) rfl ?_
    refine XS.iconst X1.here hx rfl (hb hby d24_29) ?_
    refine XS.ishl X1.here hx rfl (hb hby d24_30) rfl ?_
    refine XS.istoreN X1.here hx rfl (hb hby d24_31) rfl (l' := #[.val (.ref r0), .val (.int (p1 <<< ((1 : Int32) &&& 31)))]) rfl ?_
    refine XS.aloadN X1.here hx rfl (hb hby d24_32) rfl rfl ?_
    refine XS.iloadN X1.here hx rfl (hb hby d24_33) rfl ?_
    refine XS.iinc X1.here hx rfl (hb hby d24_34) rfl (l' := #[.val (.ref r0), .val (.int ((p1 <<< ((1 : Int32) &&& 31)) + (1 : Int32)))]) rfl ?_
    exact kt
  obtain ⟨cl3, Ar3, qc3, Sz3, Mn3, Hs3, Gs3⟩ := id Vy
  have hin3 : ¬ ((p1 <<< ((1 : Int32) &&& 31)) < 0 ∨ cl3.slots.size ≤ ((p1 <<< ((1 : Int32) &&& 31))).toNatClampNeg) := inb_of Sz3 l2_.1
  have hat3 : cl3.slots[((p1 <<< ((1 : Int32) &&& 31))).toNatClampNeg]? = some (.int (own_lo (own_at p1 c0 c1 c2 c3))) := Hs3.at hin3 (own_glo hi hN hl)
  have st3 : own_S p e below T1 (mkF m 38 #[.val (.ref r0), .val (.int ((p1 <<< ((1 : Int32) &&& 31)) + (1 : Int32)))] [(.int (own_lo (own_at p1 c0 c1 c2 c3)))]) (mkF m 37 #[.val (.ref r0), .val (.int ((p1 <<< ((1 : Int32) &&& 31)) + (1 : Int32)))] [(.int (p1 <<< ((1 : Int32) &&& 31))), (.ref r0)]) := fun target kt => X1.baloadBytes hx (j := (p1 <<< ((1 : Int32) &&& 31))) (v := (.int (own_lo (own_at p1 c0 c1 c2 c3)))) (by rw [e1]; exact Ar3.1) (State.isArrayOf_alike hZ.alike Ar3.2.1) Ar3.2.2 hin3 hat3 (g := (mkF m 37 #[.val (.ref r0), .val (.int ((p1 <<< ((1 : Int32) &&& 31)) + (1 : Int32)))] [(.int (p1 <<< ((1 : Int32) &&& 31))), (.ref r0)])) rfl rfl (hb hby d24_37) _ kt
  have st4 : own_S p e below T1 (mkF m 42 #[.val (.ref r0), .val (.int ((p1 <<< ((1 : Int32) &&& 31)) + (1 : Int32)))] [(.int ((own_lo (own_at p1 c0 c1 c2 c3)) &&& (255 : Int32)))]) (mkF m 38 #[.val (.ref r0), .val (.int ((p1 <<< ((1 : Int32) &&& 31)) + (1 : Int32)))] [(.int (own_lo (own_at p1 c0 c1 c2 c3)))]) := by
    intro target kt
    refine XS.sipush X1.here hx rfl (hb hby d24_38) ?_
    refine XS.iand X1.here hx rfl (hb hby d24_41) rfl ?_
    exact kt
  obtain ⟨T5, X5, e5, st5⟩ := getS2 X1 hx hZ hown (host := "") (Or.inl (own_w hw 117 rfl)) Via.refl e1 (SB.2.2.2.2.2.1.ext Od.2) (g := (mkF m 42 #[.val (.ref r0), .val (.int ((p1 <<< ((1 : Int32) &&& 31)) + (1 : Int32)))] [(.int ((own_lo (own_at p1 c0 c1 c2 c3)) &&& (255 : Int32)))])) rfl (hb hby d24_42)
  have st6 : own_S p e below T5 (mkF m 48 #[.val (.ref r0), .val (.int ((p1 <<< ((1 : Int32) &&& 31)) + (1 : Int32)))] [(.int ((p1 <<< ((1 : Int32) &&& 31)) + (1 : Int32))), (.ref r0), (.int (((own_lo (own_at p1 c0 c1 c2 c3)) &&& (255 : Int32)) <<< ((0 : Int32) &&& 31)))]) (mkF m 45 #[.val (.ref r0), .val (.int ((p1 <<< ((1 : Int32) &&& 31)) + (1 : Int32)))] [(.int (0 : Int32)), (.int ((own_lo (own_at p1 c0 c1 c2 c3)) &&& (255 : Int32)))]) := by
    intro target kt
    refine XS.ishl X5.here hx rfl (hb hby d24_45) rfl ?_
    refine XS.aloadN X5.here hx rfl (hb hby d24_46) rfl rfl ?_
    refine XS.iloadN X5.here hx rfl (hb hby d24_47) rfl ?_
    exact kt
  obtain ⟨cl7, Ar7, qc7, Sz7, Mn7, Hs7, Gs7⟩ := id Vy
  have hin7 : ¬ (((p1 <<< ((1 : Int32) &&& 31)) + (1 : Int32)) < 0 ∨ cl7.slots.size ≤ (((p1 <<< ((1 : Int32) &&& 31)) + (1 : Int32))).toNatClampNeg) := inb_of Sz7 l2_.2
  have hat7 : cl7.slots[(((p1 <<< ((1 : Int32) &&& 31)) + (1 : Int32))).toNatClampNeg]? = some (.int (own_hi (own_at p1 c0 c1 c2 c3))) := Hs7.at hin7 (own_ghi hi hN hl)
  have st7 : own_S p e below T5 (mkF m 49 #[.val (.ref r0), .val (.int ((p1 <<< ((1 : Int32) &&& 31)) + (1 : Int32)))] [(.int (own_hi (own_at p1 c0 c1 c2 c3))), (.int (((own_lo (own_at p1 c0 c1 c2 c3)) &&& (255 : Int32)) <<< ((0 : Int32) &&& 31)))]) (mkF m 48 #[.val (.ref r0), .val (.int ((p1 <<< ((1 : Int32) &&& 31)) + (1 : Int32)))] [(.int ((p1 <<< ((1 : Int32) &&& 31)) + (1 : Int32))), (.ref r0), (.int (((own_lo (own_at p1 c0 c1 c2 c3)) &&& (255 : Int32)) <<< ((0 : Int32) &&& 31)))]) := fun target kt => X5.baloadBytes hx (j := ((p1 <<< ((1 : Int32) &&& 31)) + (1 : Int32))) (v := (.int (own_hi (own_at p1 c0 c1 c2 c3)))) (by rw [e5]; exact Ar7.1) (State.isArrayOf_alike hZ.alike Ar7.2.1) Ar7.2.2 hin7 hat7 (g := (mkF m 48 #[.val (.ref r0), .val (.int ((p1 <<< ((1 : Int32) &&& 31)) + (1 : Int32)))] [(.int ((p1 <<< ((1 : Int32) &&& 31)) + (1 : Int32))), (.ref r0), (.int (((own_lo (own_at p1 c0 c1 c2 c3)) &&& (255 : Int32)) <<< ((0 : Int32) &&& 31)))])) rfl rfl (hb hby d24_48) _ kt
  have st8 : own_S p e below T5 (mkF m 53 #[.val (.ref r0), .val (.int ((p1 <<< ((1 : Int32) &&& 31)) + (1 : Int32)))] [(.int ((own_hi (own_at p1 c0 c1 c2 c3)) &&& (255 : Int32))), (.int (((own_lo (own_at p1 c0 c1 c2 c3)) &&& (255 : Int32)) <<< ((0 : Int32) &&& 31)))]) (mkF m 49 #[.val (.ref r0), .val (.int ((p1 <<< ((1 : Int32) &&& 31)) + (1 : Int32)))] [(.int (own_hi (own_at p1 c0 c1 c2 c3))), (.int (((own_lo (own_at p1 c0 c1 c2 c3)) &&& (255 : Int32)) <<< ((0 : Int32) &&& 31)))]) := by
    intro target kt
    refine XS.sipush X5.here hx rfl (hb hby d24_49) ?_
    refine XS.iand X5.here hx rfl (hb hby d24_52) rfl ?_
    exact kt
  obtain ⟨T9, X9, e9, st9⟩ := getS2 X5 hx hZ hown (host := "") (Or.inl (own_w hw 118 rfl)) Via.refl e5 (SB.2.2.2.2.2.2.ext Od.2) (g := (mkF m 53 #[.val (.ref r0), .val (.int ((p1 <<< ((1 : Int32) &&& 31)) + (1 : Int32)))] [(.int ((own_hi (own_at p1 c0 c1 c2 c3)) &&& (255 : Int32))), (.int (((own_lo (own_at p1 c0 c1 c2 c3)) &&& (255 : Int32)) <<< ((0 : Int32) &&& 31)))])) rfl (hb hby d24_53)
  obtain ⟨fs, hr, hrun, hended, hW, hsame⟩ := X9.leave (v := some (.int (nar .char (((((own_lo (own_at p1 c0 c1 c2 c3)) &&& (255 : Int32)) <<< ((0 : Int32) &&& 31)) ||| (((own_hi (own_at p1 c0 c1 c2 c3)) &&& (255 : Int32)) <<< ((8 : Int32) &&& 31))).toUInt32.toUInt16.toUInt32.toInt32)))) (fun h => by rw [Bd.returns] at h; cases h)
  refine ⟨_, _, pre0 _ (st1 _ (st2 _ (st3 _ (st4 _ (st5 _ (st6 _ (st7 _ (st8 _ (st9 _ ?_))))))))), hrun, hended, _, _, rfl, ?_, ⟨_, rfl⟩, hW, hsame.mono (by decide) (by decide)⟩
  · refine XS.ishl X9.here hx rfl (hb hby d24_56) rfl ?_
    refine XS.ior X9.here hx rfl (hb hby d24_57) rfl ?_
    refine XS.i2c X9.here hx rfl (hb hby d24_58) rfl ?_
    show Steps p.tables e below (T9.setTop (mkF m 59 #[.val (.ref r0), .val (.int ((p1 <<< ((1 : Int32) &&& 31)) + (1 : Int32)))] [(.int (((((own_lo (own_at p1 c0 c1 c2 c3)) &&& (255 : Int32)) <<< ((0 : Int32) &&& 31)) ||| (((own_hi (own_at p1 c0 c1 c2 c3)) &&& (255 : Int32)) <<< ((8 : Int32) &&& 31))).toUInt32.toUInt16.toUInt32.toInt32))])) _
    exact retN X9 hx (t := .char) Bd.returns (by simp) (hb hby d24_59) hr
  · show Q_rmGC Z r0 p1 cs fm ky n c0 c1 c2 c3 h0 n0 _ T9.heap _
    rw [e9]
    exact ⟨congrArg (fun z => some (Value.int z)) (own_gc_eq (own_cha hch)), N0, rfl⟩
theorem own_z8 : (0 : Int32).toInt8.toInt32 = 0 := by decide
theorem d17_0 : decode jdk_52_method_21_code 0 = .ok (.iconst 0, 1) := by decide +kernel
theorem d17_1 : decode jdk_52_method_21_code 1 = .ok (.istore 5, 2) := by decide +kernel
theorem d17_3 : decode jdk_52_method_21_code 3 = .ok (.iload 5, 2) := by decide +kernel
theorem d17_5 : decode jdk_52_method_21_code 5 = .ok (.iload 4, 2) := by decide +kernel
theorem d17_7 : decode jdk_52_method_21_code 7 = .ok (.if_icmp .ge 37, 3) := by decide +kernel
theorem d17_10 : decode jdk_52_method_21_code 10 = .ok (.aload_n 0, 1) := by decide +kernel
theorem d17_11 : decode jdk_52_method_21_code 11 = .ok (.iload_n 1, 1) := by decide +kernel
theorem d17_12 : decode jdk_52_method_21_code 12 = .ok (.caload, 1) := by decide +kernel
theorem d17_13 : decode jdk_52_method_21_code 13 = .ok (.istore 6, 2) := by decide +kernel
theorem d17_15 : decode jdk_52_method_21_code 15 = .ok (.iload 6, 2) := by decide +kernel
theorem d17_17 : decode jdk_52_method_21_code 17 = .ok (.sipush 255, 3) := by decide +kernel
theorem d17_20 : decode jdk_52_method_21_code 20 = .ok (.if_icmp .le 6, 3) := by decide +kernel
theorem d17_23 : decode jdk_52_method_21_code 23 = .ok (.iload 5, 2) := by decide +kernel
theorem d17_25 : decode jdk_52_method_21_code 25 = .ok (.ireturn, 1) := by decide +kernel
theorem d17_26 : decode jdk_52_method_21_code 26 = .ok (.aload_n 2, 1) := by decide +kernel
theorem d17_27 : decode jdk_52_method_21_code 27 = .ok (.iload_n 3, 1) := by decide +kernel
theorem d17_28 : decode jdk_52_method_21_code 28 = .ok (.iload 6, 2) := by decide +kernel
theorem d17_30 : decode jdk_52_method_21_code 30 = .ok (.i2b, 1) := by decide +kernel
theorem d17_31 : decode jdk_52_method_21_code 31 = .ok (.bastore, 1) := by decide +kernel
theorem d17_32 : decode jdk_52_method_21_code 32 = .ok (.iinc 1 1, 3) := by decide +kernel
theorem d17_35 : decode jdk_52_method_21_code 35 = .ok (.iinc 3 1, 3) := by decide +kernel
theorem d17_38 : decode jdk_52_method_21_code 38 = .ok (.iinc 5 1, 3) := by decide +kernel
theorem d17_41 : decode jdk_52_method_21_code 41 = .ok (.goto (-38), 3) := by decide +kernel
theorem d17_44 : decode jdk_52_method_21_code 44 = .ok (.iload 4, 2) := by decide +kernel
theorem d17_46 : decode jdk_52_method_21_code 46 = .ok (.ireturn, 1) := by decide +kernel
theorem ef_rmCi (m : MethodId) (x0 : Addr) (x1 : Int32) (x2 : Addr) (x3 : Int32) (x4 : Int32) : entryFrame m #[(.ref x0), (.int x1), (.ref x2), (.int x1), (.int x4)] 7 = mkF m 0 #[.val (.ref x0), .val (.int x1), .val (.ref x2), .val (.int x1), .val (.int x4), .unset, .unset] [] := by first | (simp [entryFrame, mkF, argsToLocals, Value.category]; done) | rfl
def Q_rmCi (Z : State) (r0 : Addr) (r2 : Addr) (n : Int32) (kc : ClassId) (kb : ClassId) (c0 : Int32) (c1 : Int32) (c2 : Int32) (c3 : Int32) (h0 : Heap) (n0 : Nat) (v : Option Value) (h : Heap) (L : List Loc) : Prop := ∃ r : Int32, ((n = r ∧ c0.toInt < 256 ∧ c1.toInt < 256 ∧ c2.toInt < 256 ∧ c3.toInt < 256 ∧ Arv Z h r2 kb .byte n [(.int c0.toInt8.toInt32), (.int c1.toInt8.toInt32), (.int c2.toInt8.toInt32), (.int c3.toInt8.toInt32)] (.int (0 : Int32))) ∨ (own_n r ∧ r < n ∧ (255 : Int32) < own_at r c0 c1 c2 c3)) ∧ v = some (.int r) ∧ Fr n0 L ∧ Keep h0 h [r2]
set_option maxRecDepth 65536 in
set_option maxHeartbeats 40000000 in
theorem rmCi (l : Launch) (Z : State) (a0 : Array Value) (hw : ∀ d ∈ tables_1, d.before a0 Z = true) (ws : List Jvm.Cond) (r0 : Addr) (r2 : Addr) (n : Int32) (kc : ClassId) (kb : ClassId) (c0 : Int32) (c1 : Int32) (c2 : Int32) (c3 : Int32) (h0 : Heap) (n0 : Nat) (Z0 : n0 ≤ h0.size) (Vc : Arv Z h0 r0 kc .char n [(.int c0), (.int c1), (.int c2), (.int c3)] (.int (0 : Int32))) (Vb : Arv Z h0 r2 kb .byte n [(.int (0 : Int32)), (.int (0 : Int32)), (.int (0 : Int32)), (.int (0 : Int32))] (.int (0 : Int32))) (g_r2 : n0 ≤ r2) (hne : r0 ≠ r2) (hN : own_n n) (hZs : own_zs n c0 c1 c2 c3) :
    MetFree l (⟨"java/lang/StringUTF16", "compress", "([CI[BII)I"⟩ : MethodName) (head1 (Jvm.Cond.code (⟨"java/lang/StringUTF16", "compress", "([CI[BII)I"⟩ : MethodName) jdk_52_method_21_code 7 (some .int) :: ws) ({ frames := 0, cells := 0, slots := 0, locals := 0 } : Room)) (fun a U => a = #[(.ref r0), (.int (0 : Int32)), (.ref r2), (.int (0 : Int32)), (.int n)] ∧ Z.Warmed39 U.vm ∧ U.heap = h0) (fun _ _ _ _ _ => True) (fun _ U o U' => ∃ v L, o = .returned v ∧ Q_rmCi Z r0 r2 n kc kb c0 c1 c2 c3 h0 n0 v U'.heap L ∧ FrameEnd U o U' L ({ frames := 0, cells := 0, slots := 0, locals := 0 } : Room).cells ({ frames := 0, cells := 0, slots := 0, locals := 0 } : Room).slots) := by
  refine MetFree.of_bodySF (plainFor_of_name pn_1) hisR ?_
  intro p e s m args below meth c s₁ Bd hml0 hP hK
  obtain ⟨rfl, hZ, hh⟩ := hP
  have hx := Bd.exec
  have hby := Bd.bytes
  have hml : c.maxLocals = 7 := hml0
  have hown : s.vm.findClass "java/lang/StringUTF16" = some m.cls := findClass_of_methodNamed Bd.named
  have hnm := (name_of_methodNamed Bd.named Bd.method).1
  have X0 : Stand p l e ({ frames := 0, cells := 0, slots := 0, locals := 0 } : Room) s m #[(.ref r0), (.int (0 : Int32)), (.ref r2), (.int (0 : Int32)), (.int n)] below meth c s₁ [] 0 0 := Stand.of_body Bd
  have e0 : s₁.heap = h0 := by rw [← hh, Bd.state]; rfl
  have N0 := Fr.nil n0
  have pre0 : ∀ t, Steps p.tables e below (s₁.setTop (mkF m 0 #[.val (.ref r0), .val (.int (0 : Int32)), .val (.ref r2), .val (.int (0 : Int32)), .val (.int n), .unset, .unset] [])) t → Steps p.tables e below (s₁.setTop (entryFrame m #[(.ref r0), (.int (0 : Int32)), (.ref r2), (.int (0 : Int32)), (.int n)] 7)) t := fun t k => castTop (ef_rmCi m r0 (0 : Int32) r2 (0 : Int32) n) k
  have Kp : Keep h0 h0 [r2] := Keep.refl _ _
  have zz := own_zz hN hZs
  have st1 : own_S p e below s₁ (mkF m 7 #[.val (.ref r0), .val (.int (0 : Int32)), .val (.ref r2), .val (.int (0 : Int32)), .val (.int n), .val (.int (0 : Int32)), .unset] [(.int n), (.int (0 : Int32))]) (mkF m 0 #[.val (.ref r0), .val (.int (0 : Int32)), .val (.ref r2), .val (.int (0 : Int32)), .val (.int n), .unset, .unset] []) := by
    intro target kt
    refine XS.iconst X0.here hx rfl (hb hby d17_0) ?_
    refine XS.istore X0.here hx rfl (hb hby d17_1) rfl (l' := #[.val (.ref r0), .val (.int (0 : Int32)), .val (.ref r2), .val (.int (0 : Int32)), .val (.int n), .val (.int (0 : Int32)), .unset]) rfl ?_
    refine XS.iload X0.here hx rfl (hb hby d17_3) rfl ?_
    refine XS.iload X0.here hx rfl (hb hby d17_5) rfl ?_
    exact kt
  by_cases gt_0 : (0 : Int32) < n
  · have st2 : own_S p e below s₁ (mkF m 10 #[.val (.ref r0), .val (.int (0 : Int32)), .val (.ref r2), .val (.int (0 : Int32)), .val (.int n), .val (.int (0 : Int32)), .unset] []) (mkF m 7 #[.val (.ref r0), .val (.int (0 : Int32)), .val (.ref r2), .val (.int (0 : Int32)), .val (.int n), .val (.int (0 : Int32)), .unset] [(.int n), (.int (0 : Int32))]) := by
      intro target kt
      refine XS.icmpNo X0.here hx rfl (hb hby d17_7) rfl (tlt gt_0).2.1 ?_
      exact kt
    have st3 : own_S p e below s₁ (mkF m 12 #[.val (.ref r0), .val (.int (0 : Int32)), .val (.ref r2), .val (.int (0 : Int32)), .val (.int n), .val (.int (0 : Int32)), .unset] [(.int (0 : Int32)), (.ref r0)]) (mkF m 10 #[.val (.ref r0), .val (.int (0 : Int32)), .val (.ref r2), .val (.int (0 : Int32)), .val (.int n), .val (.int (0 : Int32)), .unset] []) := by
      intro target kt
      refine XS.aloadN X0.here hx rfl (hb hby d17_10) rfl rfl ?_
      refine XS.iloadN X0.here hx rfl (hb hby d17_11) rfl ?_
      exact kt
    obtain ⟨cl4, Ar4, qc4, Sz4, Mn4, Hs4, Gs4⟩ := id Vc
    have hin4 : ¬ ((0 : Int32) < 0 ∨ cl4.slots.size ≤ ((0 : Int32)).toNatClampNeg) := inb_of Sz4 ⟨by decide, gt_0⟩
    have hat4 : cl4.slots[((0 : Int32)).toNatClampNeg]? = some (.int c0) := Hs4.at hin4 rfl
    have st4 : own_S p e below s₁ (mkF m 13 #[.val (.ref r0), .val (.int (0 : Int32)), .val (.ref r2), .val (.int (0 : Int32)), .val (.int n), .val (.int (0 : Int32)), .unset] [(.int c0)]) (mkF m 12 #[.val (.ref r0), .val (.int (0 : Int32)), .val (.ref r2), .val (.int (0 : Int32)), .val (.int n), .val (.int (0 : Int32)), .unset] [(.int (0 : Int32)), (.ref r0)]) := fun target kt => X0.caload hx (j := (0 : Int32)) (v := (.int c0)) (by rw [e0]; exact Ar4.1) (State.isArrayOf_alike hZ.alike Ar4.2.1) Ar4.2.2 hin4 hat4 (g := (mkF m 12 #[.val (.ref r0), .val (.int (0 : Int32)), .val (.ref r2), .val (.int (0 : Int32)), .val (.int n), .val (.int (0 : Int32)), .unset] [(.int (0 : Int32)), (.ref r0)])) rfl rfl (hb hby d17_12) _ kt
    have st5 : own_S p e below s₁ (mkF m 20 #[.val (.ref r0), .val (.int (0 : Int32)), .val (.ref r2), .val (.int (0 : Int32)), .val (.int n), .val (.int (0 : Int32)), .val (.int c0)] [(.int (255 : Int32)), (.int c0)]) (mkF m 13 #[.val (.ref r0), .val (.int (0 : Int32)), .val (.ref r2), .val (.int (0 : Int32)), .val (.int n), .val (.int (0 : Int32)), .unset] [(.int c0)]) := by
      intro target kt
      refine XS.istore X0.here hx rfl (hb hby d17_13) rfl (l' := #[.val (.ref r0), .val (.int (0 : Int32)), .val (.ref r2), .val (.int (0 : Int32)), .val (.int n), .val (.int (0 : Int32)), .val (.int c0)]) rfl ?_
      refine XS.iload X0.here hx rfl (hb hby d17_15) rfl ?_
      refine XS.sipush X0.here hx rfl (hb hby d17_17) ?_
      exact kt
    by_cases le_0 : (255 : Int32) < c0
    · have st6 : own_S p e below s₁ (mkF m 23 #[.val (.ref r0), .val (.int (0 : Int32)), .val (.ref r2), .val (.int (0 : Int32)), .val (.int n), .val (.int (0 : Int32)), .val (.int c0)] []) (mkF m 20 #[.val (.ref r0), .val (.int (0 : Int32)), .val (.ref r2), .val (.int (0 : Int32)), .val (.int n), .val (.int (0 : Int32)), .val (.int c0)] [(.int (255 : Int32)), (.int c0)]) := by
        intro target kt
        refine XS.icmpNo X0.here hx rfl (hb hby d17_20) rfl (tlt le_0).2.2.2 ?_
        exact kt
      obtain ⟨fs, hr, hrun, hended, hW, hsame⟩ := X0.leave (v := some (.int (0 : Int32))) (fun h => by rw [Bd.returns] at h; cases h)
      refine ⟨_, _, pre0 _ (st1 _ (st2 _ (st3 _ (st4 _ (st5 _ (st6 _ ?_)))))), hrun, hended, _, _, rfl, ?_, ⟨_, rfl⟩, hW, hsame.mono (by decide) (by decide)⟩
      · refine XS.iload X0.here hx rfl (hb hby d17_23) rfl ?_
        show Steps p.tables e below (s₁.setTop (mkF m 25 #[.val (.ref r0), .val (.int (0 : Int32)), .val (.ref r2), .val (.int (0 : Int32)), .val (.int n), .val (.int (0 : Int32)), .val (.int c0)] [(.int (0 : Int32))])) _
        exact retI X0 hx Bd.returns (hb hby d17_25) hr
      · show Q_rmCi Z r0 r2 n kc kb c0 c1 c2 c3 h0 n0 _ s₁.heap _
        rw [e0]
        exact ⟨_, Or.inr ⟨own_n0, gt_0, le_0⟩, rfl, N0, Kp⟩
    · have st7 : own_S p e below s₁ (mkF m 26 #[.val (.ref r0), .val (.int (0 : Int32)), .val (.ref r2), .val (.int (0 : Int32)), .val (.int n), .val (.int (0 : Int32)), .val (.int c0)] []) (mkF m 20 #[.val (.ref r0), .val (.int (0 : Int32)), .val (.ref r2), .val (.int (0 : Int32)), .val (.int n), .val (.int (0 : Int32)), .val (.int c0)] [(.int (255 : Int32)), (.int c0)]) := by
        intro target kt
        refine XS.icmpYes X0.here hx rfl (pc0 := 20) (pc' := 26) rfl (hb hby d17_20) rfl (flt le_0).2.2.2 (by decide) (by decide) ?_
        exact kt
      have st8 : own_S p e below s₁ (mkF m 31 #[.val (.ref r0), .val (.int (0 : Int32)), .val (.ref r2), .val (.int (0 : Int32)), .val (.int n), .val (.int (0 : Int32)), .val (.int c0)] [(.int (c0.toInt8.toInt32)), (.int (0 : Int32)), (.ref r2)]) (mkF m 26 #[.val (.ref r0), .val (.int (0 : Int32)), .val (.ref r2), .val (.int (0 : Int32)), .val (.int n), .val (.int (0 : Int32)), .val (.int c0)] []) := by
        intro target kt
        refine XS.aloadN X0.here hx rfl (hb hby d17_26) rfl rfl ?_
        refine XS.iloadN X0.here hx rfl (hb hby d17_27) rfl ?_
        refine XS.iload X0.here hx rfl (hb hby d17_28) rfl ?_
        refine XS.i2b X0.here hx rfl (hb hby d17_30) rfl ?_
        exact kt
      obtain ⟨cl9, Ar9, qc9, Sz9, Mn9, Hs9, Gs9⟩ := id Vb
      have hin9 : ¬ ((0 : Int32) < 0 ∨ cl9.slots.size ≤ ((0 : Int32)).toNatClampNeg) := inb_of Sz9 ⟨by decide, gt_0⟩
      obtain ⟨T9, h9, X9, e9, W9, st9⟩ := stB X0 hx hZ e0 Ar9 (j := (0 : Int32)) hin9 (g := (mkF m 31 #[.val (.ref r0), .val (.int (0 : Int32)), .val (.ref r2), .val (.int (0 : Int32)), .val (.int n), .val (.int (0 : Int32)), .val (.int c0)] [(.int (c0.toInt8.toInt32)), (.int (0 : Int32)), (.ref r2)])) rfl rfl (hb hby d17_31)
      have V_r2_9 : Arv Z h9 r2 kb .byte n [(.int (nar .byte (c0.toInt8.toInt32))), (.int (0 : Int32)), (.int (0 : Int32)), (.int (0 : Int32))] (.int (0 : Int32)) := Arv.set Ar9 qc9 Sz9 Mn9 Hs9 Gs9 (fits_nar_byte _) W9 0 rfl (Nat.le_of_ble_eq_true rfl)
      have Vc_9 := Vc.other W9 hne
      have Z_9 : n0 ≤ h9.size := Nat.le_trans Z0 (Keep.of_wr W9).1
      have Kp_9 : Keep h0 h9 [r2] := Kp.wr W9 (Or.inl (List.mem_of_getElem? (i := 0) rfl))
      have N9 := Fr.snoc X9 N0 g_r2
      rw [own_nb8] at V_r2_9
      have st10 : own_S p e below T9 (mkF m 7 #[.val (.ref r0), .val (.int (1 : Int32)), .val (.ref r2), .val (.int (1 : Int32)), .val (.int n), .val (.int (1 : Int32)), .val (.int c0)] [(.int n), (.int (1 : Int32))]) (mkF m 32 #[.val (.ref r0), .val (.int (0 : Int32)), .val (.ref r2), .val (.int (0 : Int32)), .val (.int n), .val (.int (0 : Int32)), .val (.int c0)] []) := by
        intro target kt
        refine XS.iinc X9.here hx rfl (hb hby d17_32) rfl (l' := #[.val (.ref r0), .val (.int (1 : Int32)), .val (.ref r2), .val (.int (0 : Int32)), .val (.int n), .val (.int (0 : Int32)), .val (.int c0)]) rfl ?_
        refine XS.iinc X9.here hx rfl (hb hby d17_35) rfl (l' := #[.val (.ref r0), .val (.int (1 : Int32)), .val (.ref r2), .val (.int (1 : Int32)), .val (.int n), .val (.int (0 : Int32)), .val (.int c0)]) rfl ?_
        refine XS.iinc X9.here hx rfl (hb hby d17_38) rfl (l' := #[.val (.ref r0), .val (.int (1 : Int32)), .val (.ref r2), .val (.int (1 : Int32)), .val (.int n), .val (.int (1 : Int32)), .val (.int c0)]) rfl ?_
        refine XS.goto X9.here hx rfl (pc0 := 41) (pc' := 3) rfl (hb hby d17_41) (by decide) (by decide) ?_
        refine XS.iload X9.here hx rfl (hb hby d17_3) rfl ?_
        refine XS.iload X9.here hx rfl (hb hby d17_5) rfl ?_
        exact kt
      by_cases gt_1 : (1 : Int32) < n
      · have st11 : own_S p e below T9 (mkF m 10 #[.val (.ref r0), .val (.int (1 : Int32)), .val (.ref r2), .val (.int (1 : Int32)), .val (.int n), .val (.int (1 : Int32)), .val (.int c0)] []) (mkF m 7 #[.val (.ref r0), .val (.int (1 : Int32)), .val (.ref r2), .val (.int (1 : Int32)), .val (.int n), .val (.int (1 : Int32)), .val (.int c0)] [(.int n), (.int (1 : Int32))]) := by
          intro target kt
          refine XS.icmpNo X9.here hx rfl (hb hby d17_7) rfl (tlt gt_1).2.1 ?_
          exact kt
        have st12 : own_S p e below T9 (mkF m 12 #[.val (.ref r0), .val (.int (1 : Int32)), .val (.ref r2), .val (.int (1 : Int32)), .val (.int n), .val (.int (1 : Int32)), .val (.int c0)] [(.int (1 : Int32)), (.ref r0)]) (mkF m 10 #[.val (.ref r0), .val (.int (1 : Int32)), .val (.ref r2), .val (.int (1 : Int32)), .val (.int n), .val (.int (1 : Int32)), .val (.int c0)] []) := by
          intro target kt
          refine XS.aloadN X9.here hx rfl (hb hby d17_10) rfl rfl ?_
          refine XS.iloadN X9.here hx rfl (hb hby d17_11) rfl ?_
          exact kt
        obtain ⟨cl13, Ar13, qc13, Sz13, Mn13, Hs13, Gs13⟩ := id Vc_9
        have hin13 : ¬ ((1 : Int32) < 0 ∨ cl13.slots.size ≤ ((1 : Int32)).toNatClampNeg) := inb_of Sz13 ⟨by decide, gt_1⟩
        have hat13 : cl13.slots[((1 : Int32)).toNatClampNeg]? = some (.int c1) := Hs13.at hin13 rfl
        have st13 : own_S p e below T9 (mkF m 13 #[.val (.ref r0), .val (.int (1 : Int32)), .val (.ref r2), .val (.int (1 : Int32)), .val (.int n), .val (.int (1 : Int32)), .val (.int c0)] [(.int c1)]) (mkF m 12 #[.val (.ref r0), .val (.int (1 : Int32)), .val (.ref r2), .val (.int (1 : Int32)), .val (.int n), .val (.int (1 : Int32)), .val (.int c0)] [(.int (1 : Int32)), (.ref r0)]) := fun target kt => X9.caload hx (j := (1 : Int32)) (v := (.int c1)) (by rw [e9]; exact Ar13.1) (State.isArrayOf_alike hZ.alike Ar13.2.1) Ar13.2.2 hin13 hat13 (g := (mkF m 12 #[.val (.ref r0), .val (.int (1 : Int32)), .val (.ref r2), .val (.int (1 : Int32)), .val (.int n), .val (.int (1 : Int32)), .val (.int c0)] [(.int (1 : Int32)), (.ref r0)])) rfl rfl (hb hby d17_12) _ kt
        have st14 : own_S p e below T9 (mkF m 20 #[.val (.ref r0), .val (.int (1 : Int32)), .val (.ref r2), .val (.int (1 : Int32)), .val (.int n), .val (.int (1 : Int32)), .val (.int c1)] [(.int (255 : Int32)), (.int c1)]) (mkF m 13 #[.val (.ref r0), .val (.int (1 : Int32)), .val (.ref r2), .val (.int (1 : Int32)), .val (.int n), .val (.int (1 : Int32)), .val (.int c0)] [(.int c1)]) := by
          intro target kt
          refine XS.istore X9.here hx rfl (hb hby d17_13) rfl (l' := #[.val (.ref r0), .val (.int (1 : Int32)), .val (.ref r2), .val (.int (1 : Int32)), .val (.int n), .val (.int (1 : Int32)), .val (.int c1)]) rfl ?_
          refine XS.iload X9.here hx rfl (hb hby d17_15) rfl ?_
          refine XS.sipush X9.here hx rfl (hb hby d17_17) ?_
          exact kt
        by_cases le_1 : (255 : Int32) < c1
        · have st15 : own_S p e below T9 (mkF m 23 #[.val (.ref r0), .val (.int (1 : Int32)), .val (.ref r2), .val (.int (1 : Int32)), .val (.int n), .val (.int (1 : Int32)), .val (.int c1)] []) (mkF m 20 #[.val (.ref r0), .val (.int (1 : Int32)), .val (.ref r2), .val (.int (1 : Int32)), .val (.int n), .val (.int (1 : Int32)), .val (.int c1)] [(.int (255 : Int32)), (.int c1)]) := by
            intro target kt
            refine XS.icmpNo X9.here hx rfl (hb hby d17_20) rfl (tlt le_1).2.2.2 ?_
            exact kt
          obtain ⟨fs, hr, hrun, hended, hW, hsame⟩ := X9.leave (v := some (.int (1 : Int32))) (fun h => by rw [Bd.returns] at h; cases h)
          refine ⟨_, _, pre0 _ (st1 _ (st2 _ (st3 _ (st4 _ (st5 _ (st7 _ (st8 _ (st9 _ (st10 _ (st11 _ (st12 _ (st13 _ (st14 _ (st15 _ ?_)))))))))))))), hrun, hended, _, _, rfl, ?_, ⟨_, rfl⟩, hW, hsame.mono (by decide) (by decide)⟩
          · refine XS.iload X9.here hx rfl (hb hby d17_23) rfl ?_
            show Steps p.tables e below (T9.setTop (mkF m 25 #[.val (.ref r0), .val (.int (1 : Int32)), .val (.ref r2), .val (.int (1 : Int32)), .val (.int n), .val (.int (1 : Int32)), .val (.int c1)] [(.int (1 : Int32))])) _
            exact retI X9 hx Bd.returns (hb hby d17_25) hr
          · show Q_rmCi Z r0 r2 n kc kb c0 c1 c2 c3 h0 n0 _ T9.heap _
            rw [e9]
            exact ⟨_, Or.inr ⟨own_n1, gt_1, le_1⟩, rfl, N9, Kp_9⟩
        · have st16 : own_S p e below T9 (mkF m 26 #[.val (.ref r0), .val (.int (1 : Int32)), .val (.ref r2), .val (.int (1 : Int32)), .val (.int n), .val (.int (1 : Int32)), .val (.int c1)] []) (mkF m 20 #[.val (.ref r0), .val (.int (1 : Int32)), .val (.ref r2), .val (.int (1 : Int32)), .val (.int n), .val (.int (1 : Int32)), .val (.int c1)] [(.int (255 : Int32)), (.int c1)]) := by
            intro target kt
            refine XS.icmpYes X9.here hx rfl (pc0 := 20) (pc' := 26) rfl (hb hby d17_20) rfl (flt le_1).2.2.2 (by decide) (by decide) ?_
            exact kt
          have st17 : own_S p e below T9 (mkF m 31 #[.val (.ref r0), .val (.int (1 : Int32)), .val (.ref r2), .val (.int (1 : Int32)), .val (.int n), .val (.int (1 : Int32)), .val (.int c1)] [(.int (c1.toInt8.toInt32)), (.int (1 : Int32)), (.ref r2)]) (mkF m 26 #[.val (.ref r0), .val (.int (1 : Int32)), .val (.ref r2), .val (.int (1 : Int32)), .val (.int n), .val (.int (1 : Int32)), .val (.int c1)] []) := by
            intro target kt
            refine XS.aloadN X9.here hx rfl (hb hby d17_26) rfl rfl ?_
            refine XS.iloadN X9.here hx rfl (hb hby d17_27) rfl ?_
            refine XS.iload X9.here hx rfl (hb hby d17_28) rfl ?_
            refine XS.i2b X9.here hx rfl (hb hby d17_30) rfl ?_
            exact kt
          obtain ⟨cl18, Ar18, qc18, Sz18, Mn18, Hs18, Gs18⟩ := id V_r2_9
          have hin18 : ¬ ((1 : Int32) < 0 ∨ cl18.slots.size ≤ ((1 : Int32)).toNatClampNeg) := inb_of Sz18 ⟨by decide, gt_1⟩
          obtain ⟨T18, h18, X18, e18, W18, st18⟩ := stB X9 hx hZ e9 Ar18 (j := (1 : Int32)) hin18 (g := (mkF m 31 #[.val (.ref r0), .val (.int (1 : Int32)), .val (.ref r2), .val (.int (1 : Int32)), .val (.int n), .val (.int (1 : Int32)), .val (.int c1)] [(.int (c1.toInt8.toInt32)), (.int (1 : Int32)), (.ref r2)])) rfl rfl (hb hby d17_31)
          have V_r2_18 : Arv Z h18 r2 kb .byte n [(.int c0.toInt8.toInt32), (.int (nar .byte (c1.toInt8.toInt32))), (.int (0 : Int32)), (.int (0 : Int32))] (.int (0 : Int32)) := Arv.set Ar18 qc18 Sz18 Mn18 Hs18 Gs18 (fits_nar_byte _) W18 1 rfl (Nat.le_of_ble_eq_true rfl)
          have Vc_18 := Vc_9.other W18 hne
          have Z_18 : n0 ≤ h18.size := Nat.le_trans Z_9 (Keep.of_wr W18).1
          have Kp_18 : Keep h0 h18 [r2] := Kp_9.wr W18 (Or.inl (List.mem_of_getElem? (i := 0) rfl))
          have N18 := Fr.snoc X18 N9 g_r2
          rw [own_nb8] at V_r2_18
          have st19 : own_S p e below T18 (mkF m 7 #[.val (.ref r0), .val (.int (2 : Int32)), .val (.ref r2), .val (.int (2 : Int32)), .val (.int n), .val (.int (2 : Int32)), .val (.int c1)] [(.int n), (.int (2 : Int32))]) (mkF m 32 #[.val (.ref r0), .val (.int (1 : Int32)), .val (.ref r2), .val (.int (1 : Int32)), .val (.int n), .val (.int (1 : Int32)), .val (.int c1)] []) := by
            intro target kt
            refine XS.iinc X18.here hx rfl (hb hby d17_32) rfl (l' := #[.val (.ref r0), .val (.int (2 : Int32)), .val (.ref r2), .val (.int (1 : Int32)), .val (.int n), .val (.int (1 : Int32)), .val (.int c1)]) rfl ?_
            refine XS.iinc X18.here hx rfl (hb hby d17_35) rfl (l' := #[.val (.ref r0), .val (.int (2 : Int32)), .val (.ref r2), .val (.int (2 : Int32)), .val (.int n), .val (.int (1 : Int32)), .val (.int c1)]) rfl ?_
            refine XS.iinc X18.here hx rfl (hb hby d17_38) rfl (l' := #[.val (.ref r0), .val (.int (2 : Int32)), .val (.ref r2), .val (.int (2 : Int32)), .val (.int n), .val (.int (2 : Int32)), .val (.int c1)]) rfl ?_
            refine XS.goto X18.here hx rfl (pc0 := 41) (pc' := 3) rfl (hb hby d17_41) (by decide) (by decide) ?_
            refine XS.iload X18.here hx rfl (hb hby d17_3) rfl ?_
            refine XS.iload X18.here hx rfl (hb hby d17_5) rfl ?_
            exact kt
          by_cases gt_2 : (2 : Int32) < n
          · have st20 : own_S p e below T18 (mkF m 10 #[.val (.ref r0), .val (.int (2 : Int32)), .val (.ref r2), .val (.int (2 : Int32)), .val (.int n), .val (.int (2 : Int32)), .val (.int c1)] []) (mkF m 7 #[.val (.ref r0), .val (.int (2 : Int32)), .val (.ref r2), .val (.int (2 : Int32)), .val (.int n), .val (.int (2 : Int32)), .val (.int c1)] [(.int n), (.int (2 : Int32))]) := by
              intro target kt
              refine XS.icmpNo X18.here hx rfl (hb hby d17_7) rfl (tlt gt_2).2.1 ?_
              exact kt
            have st21 : own_S p e below T18 (mkF m 12 #[.val (.ref r0), .val (.int (2 : Int32)), .val (.ref r2), .val (.int (2 : Int32)), .val (.int n), .val (.int (2 : Int32)), .val (.int c1)] [(.int (2 : Int32)), (.ref r0)]) (mkF m 10 #[.val (.ref r0), .val (.int (2 : Int32)), .val (.ref r2), .val (.int (2 : Int32)), .val (.int n), .val (.int (2 : Int32)), .val (.int c1)] []) := by
              intro target kt
              refine XS.aloadN X18.here hx rfl (hb hby d17_10) rfl rfl ?_
              refine XS.iloadN X18.here hx rfl (hb hby d17_11) rfl ?_
              exact kt
            obtain ⟨cl22, Ar22, qc22, Sz22, Mn22, Hs22, Gs22⟩ := id Vc_18
            have hin22 : ¬ ((2 : Int32) < 0 ∨ cl22.slots.size ≤ ((2 : Int32)).toNatClampNeg) := inb_of Sz22 ⟨by decide, gt_2⟩
            have hat22 : cl22.slots[((2 : Int32)).toNatClampNeg]? = some (.int c2) := Hs22.at hin22 rfl
            have st22 : own_S p e below T18 (mkF m 13 #[.val (.ref r0), .val (.int (2 : Int32)), .val (.ref r2), .val (.int (2 : Int32)), .val (.int n), .val (.int (2 : Int32)), .val (.int c1)] [(.int c2)]) (mkF m 12 #[.val (.ref r0), .val (.int (2 : Int32)), .val (.ref r2), .val (.int (2 : Int32)), .val (.int n), .val (.int (2 : Int32)), .val (.int c1)] [(.int (2 : Int32)), (.ref r0)]) := fun target kt => X18.caload hx (j := (2 : Int32)) (v := (.int c2)) (by rw [e18]; exact Ar22.1) (State.isArrayOf_alike hZ.alike Ar22.2.1) Ar22.2.2 hin22 hat22 (g := (mkF m 12 #[.val (.ref r0), .val (.int (2 : Int32)), .val (.ref r2), .val (.int (2 : Int32)), .val (.int n), .val (.int (2 : Int32)), .val (.int c1)] [(.int (2 : Int32)), (.ref r0)])) rfl rfl (hb hby d17_12) _ kt
            have st23 : own_S p e below T18 (mkF m 20 #[.val (.ref r0), .val (.int (2 : Int32)), .val (.ref r2), .val (.int (2 : Int32)), .val (.int n), .val (.int (2 : Int32)), .val (.int c2)] [(.int (255 : Int32)), (.int c2)]) (mkF m 13 #[.val (.ref r0), .val (.int (2 : Int32)), .val (.ref r2), .val (.int (2 : Int32)), .val (.int n), .val (.int (2 : Int32)), .val (.int c1)] [(.int c2)]) := by
              intro target kt
              refine XS.istore X18.here hx rfl (hb hby d17_13) rfl (l' := #[.val (.ref r0), .val (.int (2 : Int32)), .val (.ref r2), .val (.int (2 : Int32)), .val (.int n), .val (.int (2 : Int32)), .val (.int c2)]) rfl ?_
              refine XS.iload X18.here hx rfl (hb hby d17_15) rfl ?_
              refine XS.sipush X18.here hx rfl (hb hby d17_17) ?_
              exact kt
            by_cases le_2 : (255 : Int32) < c2
            · have st24 : own_S p e below T18 (mkF m 23 #[.val (.ref r0), .val (.int (2 : Int32)), .val (.ref r2), .val (.int (2 : Int32)), .val (.int n), .val (.int (2 : Int32)), .val (.int c2)] []) (mkF m 20 #[.val (.ref r0), .val (.int (2 : Int32)), .val (.ref r2), .val (.int (2 : Int32)), .val (.int n), .val (.int (2 : Int32)), .val (.int c2)] [(.int (255 : Int32)), (.int c2)]) := by
                intro target kt
                refine XS.icmpNo X18.here hx rfl (hb hby d17_20) rfl (tlt le_2).2.2.2 ?_
                exact kt
              obtain ⟨fs, hr, hrun, hended, hW, hsame⟩ := X18.leave (v := some (.int (2 : Int32))) (fun h => by rw [Bd.returns] at h; cases h)
              refine ⟨_, _, pre0 _ (st1 _ (st2 _ (st3 _ (st4 _ (st5 _ (st7 _ (st8 _ (st9 _ (st10 _ (st11 _ (st12 _ (st13 _ (st14 _ (st16 _ (st17 _ (st18 _ (st19 _ (st20 _ (st21 _ (st22 _ (st23 _ (st24 _ ?_)))))))))))))))))))))), hrun, hended, _, _, rfl, ?_, ⟨_, rfl⟩, hW, hsame.mono (by decide) (by decide)⟩
              · refine XS.iload X18.here hx rfl (hb hby d17_23) rfl ?_
                show Steps p.tables e below (T18.setTop (mkF m 25 #[.val (.ref r0), .val (.int (2 : Int32)), .val (.ref r2), .val (.int (2 : Int32)), .val (.int n), .val (.int (2 : Int32)), .val (.int c2)] [(.int (2 : Int32))])) _
                exact retI X18 hx Bd.returns (hb hby d17_25) hr
              · show Q_rmCi Z r0 r2 n kc kb c0 c1 c2 c3 h0 n0 _ T18.heap _
                rw [e18]
                exact ⟨_, Or.inr ⟨own_n2, gt_2, le_2⟩, rfl, N18, Kp_18⟩
            · have st25 : own_S p e below T18 (mkF m 26 #[.val (.ref r0), .val (.int (2 : Int32)), .val (.ref r2), .val (.int (2 : Int32)), .val (.int n), .val (.int (2 : Int32)), .val (.int c2)] []) (mkF m 20 #[.val (.ref r0), .val (.int (2 : Int32)), .val (.ref r2), .val (.int (2 : Int32)), .val (.int n), .val (.int (2 : Int32)), .val (.int c2)] [(.int (255 : Int32)), (.int c2)]) := by
                intro target kt
                refine XS.icmpYes X18.here hx rfl (pc0 := 20) (pc' := 26) rfl (hb hby d17_20) rfl (flt le_2).2.2.2 (by decide) (by decide) ?_
                exact kt
              have st26 : own_S p e below T18 (mkF m 31 #[.val (.ref r0), .val (.int (2 : Int32)), .val (.ref r2), .val (.int (2 : Int32)), .val (.int n), .val (.int (2 : Int32)), .val (.int c2)] [(.int (c2.toInt8.toInt32)), (.int (2 : Int32)), (.ref r2)]) (mkF m 26 #[.val (.ref r0), .val (.int (2 : Int32)), .val (.ref r2), .val (.int (2 : Int32)), .val (.int n), .val (.int (2 : Int32)), .val (.int c2)] []) := by
                intro target kt
                refine XS.aloadN X18.here hx rfl (hb hby d17_26) rfl rfl ?_
                refine XS.iloadN X18.here hx rfl (hb hby d17_27) rfl ?_
                refine XS.iload X18.here hx rfl (hb hby d17_28) rfl ?_
                refine XS.i2b X18.here hx rfl (hb hby d17_30) rfl ?_
                exact kt
              obtain ⟨cl27, Ar27, qc27, Sz27, Mn27, Hs27, Gs27⟩ := id V_r2_18
              have hin27 : ¬ ((2 : Int32) < 0 ∨ cl27.slots.size ≤ ((2 : Int32)).toNatClampNeg) := inb_of Sz27 ⟨by decide, gt_2⟩
              obtain ⟨T27, h27, X27, e27, W27, st27⟩ := stB X18 hx hZ e18 Ar27 (j := (2 : Int32)) hin27 (g := (mkF m 31 #[.val (.ref r0), .val (.int (2 : Int32)), .val (.ref r2), .val (.int (2 : Int32)), .val (.int n), .val (.int (2 : Int32)), .val (.int c2)] [(.int (c2.toInt8.toInt32)), (.int (2 : Int32)), (.ref r2)])) rfl rfl (hb hby d17_31)
              have V_r2_27 : Arv Z h27 r2 kb .byte n [(.int c0.toInt8.toInt32), (.int c1.toInt8.toInt32), (.int (nar .byte (c2.toInt8.toInt32))), (.int (0 : Int32))] (.int (0 : Int32)) := Arv.set Ar27 qc27 Sz27 Mn27 Hs27 Gs27 (fits_nar_byte _) W27 2 rfl (Nat.le_of_ble_eq_true rfl)
              have Vc_27 := Vc_18.other W27 hne
              have Z_27 : n0 ≤ h27.size := Nat.le_trans Z_18 (Keep.of_wr W27).1
              have Kp_27 : Keep h0 h27 [r2] := Kp_18.wr W27 (Or.inl (List.mem_of_getElem? (i := 0) rfl))
              have N27 := Fr.snoc X27 N18 g_r2
              rw [own_nb8] at V_r2_27
              have st28 : own_S p e below T27 (mkF m 7 #[.val (.ref r0), .val (.int (3 : Int32)), .val (.ref r2), .val (.int (3 : Int32)), .val (.int n), .val (.int (3 : Int32)), .val (.int c2)] [(.int n), (.int (3 : Int32))]) (mkF m 32 #[.val (.ref r0), .val (.int (2 : Int32)), .val (.ref r2), .val (.int (2 : Int32)), .val (.int n), .val (.int (2 : Int32)), .val (.int c2)] []) := by
                intro target kt
                refine XS.iinc X27.here hx rfl (hb hby d17_32) rfl (l' := #[.val (.ref r0), .val (.int (3 : Int32)), .val (.ref r2), .val (.int (2 : Int32)), .val (.int n), .val (.int (2 : Int32)), .val (.int c2)]) rfl ?_
                refine XS.iinc X27.here hx rfl (hb hby d17_35) rfl (l' := #[.val (.ref r0), .val (.int (3 : Int32)), .val (.ref r2), .val (.int (3 : Int32)), .val (.int n), .val (.int (2 : Int32)), .val (.int c2)]) rfl ?_
                refine XS.iinc X27.here hx rfl (hb hby d17_38) rfl (l' := #[.val (.ref r0), .val (.int (3 : Int32)), .val (.ref r2), .val (.int (3 : Int32)), .val (.int n), .val (.int (3 : Int32)), .val (.int c2)]) rfl ?_
                refine XS.goto X27.here hx rfl (pc0 := 41) (pc' := 3) rfl (hb hby d17_41) (by decide) (by decide) ?_
                refine XS.iload X27.here hx rfl (hb hby d17_3) rfl ?_
                refine XS.iload X27.here hx rfl (hb hby d17_5) rfl ?_
                exact kt
              by_cases gt_3 : (3 : Int32) < n
              · have st29 : own_S p e below T27 (mkF m 10 #[.val (.ref r0), .val (.int (3 : Int32)), .val (.ref r2), .val (.int (3 : Int32)), .val (.int n), .val (.int (3 : Int32)), .val (.int c2)] []) (mkF m 7 #[.val (.ref r0), .val (.int (3 : Int32)), .val (.ref r2), .val (.int (3 : Int32)), .val (.int n), .val (.int (3 : Int32)), .val (.int c2)] [(.int n), (.int (3 : Int32))]) := by
                  intro target kt
                  refine XS.icmpNo X27.here hx rfl (hb hby d17_7) rfl (tlt gt_3).2.1 ?_
                  exact kt
                have st30 : own_S p e below T27 (mkF m 12 #[.val (.ref r0), .val (.int (3 : Int32)), .val (.ref r2), .val (.int (3 : Int32)), .val (.int n), .val (.int (3 : Int32)), .val (.int c2)] [(.int (3 : Int32)), (.ref r0)]) (mkF m 10 #[.val (.ref r0), .val (.int (3 : Int32)), .val (.ref r2), .val (.int (3 : Int32)), .val (.int n), .val (.int (3 : Int32)), .val (.int c2)] []) := by
                  intro target kt
                  refine XS.aloadN X27.here hx rfl (hb hby d17_10) rfl rfl ?_
                  refine XS.iloadN X27.here hx rfl (hb hby d17_11) rfl ?_
                  exact kt
                obtain ⟨cl31, Ar31, qc31, Sz31, Mn31, Hs31, Gs31⟩ := id Vc_27
                have hin31 : ¬ ((3 : Int32) < 0 ∨ cl31.slots.size ≤ ((3 : Int32)).toNatClampNeg) := inb_of Sz31 ⟨by decide, gt_3⟩
                have hat31 : cl31.slots[((3 : Int32)).toNatClampNeg]? = some (.int c3) := Hs31.at hin31 rfl
                have st31 : own_S p e below T27 (mkF m 13 #[.val (.ref r0), .val (.int (3 : Int32)), .val (.ref r2), .val (.int (3 : Int32)), .val (.int n), .val (.int (3 : Int32)), .val (.int c2)] [(.int c3)]) (mkF m 12 #[.val (.ref r0), .val (.int (3 : Int32)), .val (.ref r2), .val (.int (3 : Int32)), .val (.int n), .val (.int (3 : Int32)), .val (.int c2)] [(.int (3 : Int32)), (.ref r0)]) := fun target kt => X27.caload hx (j := (3 : Int32)) (v := (.int c3)) (by rw [e27]; exact Ar31.1) (State.isArrayOf_alike hZ.alike Ar31.2.1) Ar31.2.2 hin31 hat31 (g := (mkF m 12 #[.val (.ref r0), .val (.int (3 : Int32)), .val (.ref r2), .val (.int (3 : Int32)), .val (.int n), .val (.int (3 : Int32)), .val (.int c2)] [(.int (3 : Int32)), (.ref r0)])) rfl rfl (hb hby d17_12) _ kt
                have st32 : own_S p e below T27 (mkF m 20 #[.val (.ref r0), .val (.int (3 : Int32)), .val (.ref r2), .val (.int (3 : Int32)), .val (.int n), .val (.int (3 : Int32)), .val (.int c3)] [(.int (255 : Int32)), (.int c3)]) (mkF m 13 #[.val (.ref r0), .val (.int (3 : Int32)), .val (.ref r2), .val (.int (3 : Int32)), .val (.int n), .val (.int (3 : Int32)), .val (.int c2)] [(.int c3)]) := by
                  intro target kt
                  refine XS.istore X27.here hx rfl (hb hby d17_13) rfl (l' := #[.val (.ref r0), .val (.int (3 : Int32)), .val (.ref r2), .val (.int (3 : Int32)), .val (.int n), .val (.int (3 : Int32)), .val (.int c3)]) rfl ?_
                  refine XS.iload X27.here hx rfl (hb hby d17_15) rfl ?_
                  refine XS.sipush X27.here hx rfl (hb hby d17_17) ?_
                  exact kt
                by_cases le_3 : (255 : Int32) < c3
                · have st33 : own_S p e below T27 (mkF m 23 #[.val (.ref r0), .val (.int (3 : Int32)), .val (.ref r2), .val (.int (3 : Int32)), .val (.int n), .val (.int (3 : Int32)), .val (.int c3)] []) (mkF m 20 #[.val (.ref r0), .val (.int (3 : Int32)), .val (.ref r2), .val (.int (3 : Int32)), .val (.int n), .val (.int (3 : Int32)), .val (.int c3)] [(.int (255 : Int32)), (.int c3)]) := by
                    intro target kt
                    refine XS.icmpNo X27.here hx rfl (hb hby d17_20) rfl (tlt le_3).2.2.2 ?_
                    exact kt
                  obtain ⟨fs, hr, hrun, hended, hW, hsame⟩ := X27.leave (v := some (.int (3 : Int32))) (fun h => by rw [Bd.returns] at h; cases h)
                  refine ⟨_, _, pre0 _ (st1 _ (st2 _ (st3 _ (st4 _ (st5 _ (st7 _ (st8 _ (st9 _ (st10 _ (st11 _ (st12 _ (st13 _ (st14 _ (st16 _ (st17 _ (st18 _ (st19 _ (st20 _ (st21 _ (st22 _ (st23 _ (st25 _ (st26 _ (st27 _ (st28 _ (st29 _ (st30 _ (st31 _ (st32 _ (st33 _ ?_)))))))))))))))))))))))))))))), hrun, hended, _, _, rfl, ?_, ⟨_, rfl⟩, hW, hsame.mono (by decide) (by decide)⟩
                  · refine XS.iload X27.here hx rfl (hb hby d17_23) rfl ?_
                    show Steps p.tables e below (T27.setTop (mkF m 25 #[.val (.ref r0), .val (.int (3 : Int32)), .val (.ref r2), .val (.int (3 : Int32)), .val (.int n), .val (.int (3 : Int32)), .val (.int c3)] [(.int (3 : Int32))])) _
                    exact retI X27 hx Bd.returns (hb hby d17_25) hr
                  · show Q_rmCi Z r0 r2 n kc kb c0 c1 c2 c3 h0 n0 _ T27.heap _
                    rw [e27]
                    exact ⟨_, Or.inr ⟨own_n3, gt_3, le_3⟩, rfl, N27, Kp_27⟩
                · have st34 : own_S p e below T27 (mkF m 26 #[.val (.ref r0), .val (.int (3 : Int32)), .val (.ref r2), .val (.int (3 : Int32)), .val (.int n), .val (.int (3 : Int32)), .val (.int c3)] []) (mkF m 20 #[.val (.ref r0), .val (.int (3 : Int32)), .val (.ref r2), .val (.int (3 : Int32)), .val (.int n), .val (.int (3 : Int32)), .val (.int c3)] [(.int (255 : Int32)), (.int c3)]) := by
                    intro target kt
                    refine XS.icmpYes X27.here hx rfl (pc0 := 20) (pc' := 26) rfl (hb hby d17_20) rfl (flt le_3).2.2.2 (by decide) (by decide) ?_
                    exact kt
                  have st35 : own_S p e below T27 (mkF m 31 #[.val (.ref r0), .val (.int (3 : Int32)), .val (.ref r2), .val (.int (3 : Int32)), .val (.int n), .val (.int (3 : Int32)), .val (.int c3)] [(.int (c3.toInt8.toInt32)), (.int (3 : Int32)), (.ref r2)]) (mkF m 26 #[.val (.ref r0), .val (.int (3 : Int32)), .val (.ref r2), .val (.int (3 : Int32)), .val (.int n), .val (.int (3 : Int32)), .val (.int c3)] []) := by
                    intro target kt
                    refine XS.aloadN X27.here hx rfl (hb hby d17_26) rfl rfl ?_
                    refine XS.iloadN X27.here hx rfl (hb hby d17_27) rfl ?_
                    refine XS.iload X27.here hx rfl (hb hby d17_28) rfl ?_
                    refine XS.i2b X27.here hx rfl (hb hby d17_30) rfl ?_
                    exact kt
                  obtain ⟨cl36, Ar36, qc36, Sz36, Mn36, Hs36, Gs36⟩ := id V_r2_27
                  have hin36 : ¬ ((3 : Int32) < 0 ∨ cl36.slots.size ≤ ((3 : Int32)).toNatClampNeg) := inb_of Sz36 ⟨by decide, gt_3⟩
                  obtain ⟨T36, h36, X36, e36, W36, st36⟩ := stB X27 hx hZ e27 Ar36 (j := (3 : Int32)) hin36 (g := (mkF m 31 #[.val (.ref r0), .val (.int (3 : Int32)), .val (.ref r2), .val (.int (3 : Int32)), .val (.int n), .val (.int (3 : Int32)), .val (.int c3)] [(.int (c3.toInt8.toInt32)), (.int (3 : Int32)), (.ref r2)])) rfl rfl (hb hby d17_31)
                  have V_r2_36 : Arv Z h36 r2 kb .byte n [(.int c0.toInt8.toInt32), (.int c1.toInt8.toInt32), (.int c2.toInt8.toInt32), (.int (nar .byte (c3.toInt8.toInt32)))] (.int (0 : Int32)) := Arv.set Ar36 qc36 Sz36 Mn36 Hs36 Gs36 (fits_nar_byte _) W36 3 rfl (Nat.le_of_ble_eq_true rfl)
                  have Vc_36 := Vc_27.other W36 hne
                  have Z_36 : n0 ≤ h36.size := Nat.le_trans Z_27 (Keep.of_wr W36).1
                  have Kp_36 : Keep h0 h36 [r2] := Kp_27.wr W36 (Or.inl (List.mem_of_getElem? (i := 0) rfl))
                  have N36 := Fr.snoc X36 N27 g_r2
                  rw [own_nb8] at V_r2_36
                  have st37 : own_S p e below T36 (mkF m 7 #[.val (.ref r0), .val (.int (4 : Int32)), .val (.ref r2), .val (.int (4 : Int32)), .val (.int n), .val (.int (4 : Int32)), .val (.int c3)] [(.int n), (.int (4 : Int32))]) (mkF m 32 #[.val (.ref r0), .val (.int (3 : Int32)), .val (.ref r2), .val (.int (3 : Int32)), .val (.int n), .val (.int (3 : Int32)), .val (.int c3)] []) := by
                    intro target kt
                    refine XS.iinc X36.here hx rfl (hb hby d17_32) rfl (l' := #[.val (.ref r0), .val (.int (4 : Int32)), .val (.ref r2), .val (.int (3 : Int32)), .val (.int n), .val (.int (3 : Int32)), .val (.int c3)]) rfl ?_
                    refine XS.iinc X36.here hx rfl (hb hby d17_35) rfl (l' := #[.val (.ref r0), .val (.int (4 : Int32)), .val (.ref r2), .val (.int (4 : Int32)), .val (.int n), .val (.int (3 : Int32)), .val (.int c3)]) rfl ?_
                    refine XS.iinc X36.here hx rfl (hb hby d17_38) rfl (l' := #[.val (.ref r0), .val (.int (4 : Int32)), .val (.ref r2), .val (.int (4 : Int32)), .val (.int n), .val (.int (4 : Int32)), .val (.int c3)]) rfl ?_
                    refine XS.goto X36.here hx rfl (pc0 := 41) (pc' := 3) rfl (hb hby d17_41) (by decide) (by decide) ?_
                    refine XS.iload X36.here hx rfl (hb hby d17_3) rfl ?_
                    refine XS.iload X36.here hx rfl (hb hby d17_5) rfl ?_
                    exact kt
                  have g4_ : ¬ (4 : Int32) < n := by rcases hN with rfl | rfl | rfl | rfl | rfl <;> decide
                  have st38 : own_S p e below T36 (mkF m 44 #[.val (.ref r0), .val (.int (4 : Int32)), .val (.ref r2), .val (.int (4 : Int32)), .val (.int n), .val (.int (4 : Int32)), .val (.int c3)] []) (mkF m 7 #[.val (.ref r0), .val (.int (4 : Int32)), .val (.ref r2), .val (.int (4 : Int32)), .val (.int n), .val (.int (4 : Int32)), .val (.int c3)] [(.int n), (.int (4 : Int32))]) := by
                    intro target kt
                    refine XS.icmpYes X36.here hx rfl (pc0 := 7) (pc' := 44) rfl (hb hby d17_7) rfl (flt g4_).2.1 (by decide) (by decide) ?_
                    exact kt
                  obtain ⟨fs, hr, hrun, hended, hW, hsame⟩ := X36.leave (v := some (.int n)) (fun h => by rw [Bd.returns] at h; cases h)
                  refine ⟨_, _, pre0 _ (st1 _ (st2 _ (st3 _ (st4 _ (st5 _ (st7 _ (st8 _ (st9 _ (st10 _ (st11 _ (st12 _ (st13 _ (st14 _ (st16 _ (st17 _ (st18 _ (st19 _ (st20 _ (st21 _ (st22 _ (st23 _ (st25 _ (st26 _ (st27 _ (st28 _ (st29 _ (st30 _ (st31 _ (st32 _ (st34 _ (st35 _ (st36 _ (st37 _ (st38 _ ?_)))))))))))))))))))))))))))))))))), hrun, hended, _, _, rfl, ?_, ⟨_, rfl⟩, hW, hsame.mono (by decide) (by decide)⟩
                  · refine XS.iload X36.here hx rfl (hb hby d17_44) rfl ?_
                    show Steps p.tables e below (T36.setTop (mkF m 46 #[.val (.ref r0), .val (.int (4 : Int32)), .val (.ref r2), .val (.int (4 : Int32)), .val (.int n), .val (.int (4 : Int32)), .val (.int c3)] [(.int n)])) _
                    exact retI X36 hx Bd.returns (hb hby d17_46) hr
                  · show Q_rmCi Z r0 r2 n kc kb c0 c1 c2 c3 h0 n0 _ T36.heap _
                    rw [e36]
                    exact ⟨_, Or.inl ⟨rfl, own_lt256 le_0, own_lt256 le_1, own_lt256 le_2, own_lt256 le_3, V_r2_36⟩, rfl, N36, Kp_36⟩
              · have st39 : own_S p e below T27 (mkF m 44 #[.val (.ref r0), .val (.int (3 : Int32)), .val (.ref r2), .val (.int (3 : Int32)), .val (.int n), .val (.int (3 : Int32)), .val (.int c2)] []) (mkF m 7 #[.val (.ref r0), .val (.int (3 : Int32)), .val (.ref r2), .val (.int (3 : Int32)), .val (.int n), .val (.int (3 : Int32)), .val (.int c2)] [(.int n), (.int (3 : Int32))]) := by
                  intro target kt
                  refine XS.icmpYes X27.here hx rfl (pc0 := 7) (pc' := 44) rfl (hb hby d17_7) rfl (flt gt_3).2.1 (by decide) (by decide) ?_
                  exact kt
                have Vq : Arv Z h27 r2 kb .byte n [(.int c0.toInt8.toInt32), (.int c1.toInt8.toInt32), (.int c2.toInt8.toInt32), (.int c3.toInt8.toInt32)] (.int (0 : Int32)) := by rw [(zz.2.2.2 gt_3), own_z8]; exact V_r2_27
                obtain ⟨fs, hr, hrun, hended, hW, hsame⟩ := X27.leave (v := some (.int n)) (fun h => by rw [Bd.returns] at h; cases h)
                refine ⟨_, _, pre0 _ (st1 _ (st2 _ (st3 _ (st4 _ (st5 _ (st7 _ (st8 _ (st9 _ (st10 _ (st11 _ (st12 _ (st13 _ (st14 _ (st16 _ (st17 _ (st18 _ (st19 _ (st20 _ (st21 _ (st22 _ (st23 _ (st25 _ (st26 _ (st27 _ (st28 _ (st39 _ ?_)))))))))))))))))))))))))), hrun, hended, _, _, rfl, ?_, ⟨_, rfl⟩, hW, hsame.mono (by decide) (by decide)⟩
                · refine XS.iload X27.here hx rfl (hb hby d17_44) rfl ?_
                  show Steps p.tables e below (T27.setTop (mkF m 46 #[.val (.ref r0), .val (.int (3 : Int32)), .val (.ref r2), .val (.int (3 : Int32)), .val (.int n), .val (.int (3 : Int32)), .val (.int c2)] [(.int n)])) _
                  exact retI X27 hx Bd.returns (hb hby d17_46) hr
                · show Q_rmCi Z r0 r2 n kc kb c0 c1 c2 c3 h0 n0 _ T27.heap _
                  rw [e27]
                  exact ⟨_, Or.inl ⟨rfl, own_lt256 le_0, own_lt256 le_1, own_lt256 le_2, (by rw [(zz.2.2.2 gt_3)]; decide), Vq⟩, rfl, N27, Kp_27⟩
          · have st40 : own_S p e below T18 (mkF m 44 #[.val (.ref r0), .val (.int (2 : Int32)), .val (.ref r2), .val (.int (2 : Int32)), .val (.int n), .val (.int (2 : Int32)), .val (.int c1)] []) (mkF m 7 #[.val (.ref r0), .val (.int (2 : Int32)), .val (.ref r2), .val (.int (2 : Int32)), .val (.int n), .val (.int (2 : Int32)), .val (.int c1)] [(.int n), (.int (2 : Int32))]) := by
              intro target kt
              refine XS.icmpYes X18.here hx rfl (pc0 := 7) (pc' := 44) rfl (hb hby d17_7) rfl (flt gt_2).2.1 (by decide) (by decide) ?_
              exact kt
            have Vq : Arv Z h18 r2 kb .byte n [(.int c0.toInt8.toInt32), (.int c1.toInt8.toInt32), (.int c2.toInt8.toInt32), (.int c3.toInt8.toInt32)] (.int (0 : Int32)) := by rw [(zz.2.2.1 gt_2).1, (zz.2.2.1 gt_2).2, own_z8]; exact V_r2_18
            obtain ⟨fs, hr, hrun, hended, hW, hsame⟩ := X18.leave (v := some (.int n)) (fun h => by rw [Bd.returns] at h; cases h)
            refine ⟨_, _, pre0 _ (st1 _ (st2 _ (st3 _ (st4 _ (st5 _ (st7 _ (st8 _ (st9 _ (st10 _ (st11 _ (st12 _ (st13 _ (st14 _ (st16 _ (st17 _ (st18 _ (st19 _ (st40 _ ?_)))))))))))))))))), hrun, hended, _, _, rfl, ?_, ⟨_, rfl⟩, hW, hsame.mono (by decide) (by decide)⟩
            · refine XS.iload X18.here hx rfl (hb hby d17_44) rfl ?_
              show Steps p.tables e below (T18.setTop (mkF m 46 #[.val (.ref r0), .val (.int (2 : Int32)), .val (.ref r2), .val (.int (2 : Int32)), .val (.int n), .val (.int (2 : Int32)), .val (.int c1)] [(.int n)])) _
              exact retI X18 hx Bd.returns (hb hby d17_46) hr
            · show Q_rmCi Z r0 r2 n kc kb c0 c1 c2 c3 h0 n0 _ T18.heap _
              rw [e18]
              exact ⟨_, Or.inl ⟨rfl, own_lt256 le_0, own_lt256 le_1, (by rw [(zz.2.2.1 gt_2).1]; decide), (by rw [(zz.2.2.1 gt_2).2]; decide), Vq⟩, rfl, N18, Kp_18⟩
      · have st41 : own_S p e below T9 (mkF m 44 #[.val (.ref r0), .val (.int (1 : Int32)), .val (.ref r2), .val (.int (1 : Int32)), .val (.int n), .val (.int (1 : Int32)), .val (.int c0)] []) (mkF m 7 #[.val (.ref r0), .val (.int (1 : Int32)), .val (.ref r2), .val (.int (1 : Int32)), .val (.int n), .val (.int (1 : Int32)), .val (.int c0)] [(.int n), (.int (1 : Int32))]) := by
          intro target kt
          refine XS.icmpYes X9.here hx rfl (pc0 := 7) (pc' := 44) rfl (hb hby d17_7) rfl (flt gt_1).2.1 (by decide) (by decide) ?_
          exact kt
        have Vq : Arv Z h9 r2 kb .byte n [(.int c0.toInt8.toInt32), (.int c1.toInt8.toInt32), (.int c2.toInt8.toInt32), (.int c3.toInt8.toInt32)] (.int (0 : Int32)) := by rw [(zz.2.1 gt_1).1, (zz.2.1 gt_1).2.1, (zz.2.1 gt_1).2.2, own_z8]; exact V_r2_9
        obtain ⟨fs, hr, hrun, hended, hW, hsame⟩ := X9.leave (v := some (.int n)) (fun h => by rw [Bd.returns] at h; cases h)
        refine ⟨_, _, pre0 _ (st1 _ (st2 _ (st3 _ (st4 _ (st5 _ (st7 _ (st8 _ (st9 _ (st10 _ (st41 _ ?_)))))))))), hrun, hended, _, _, rfl, ?_, ⟨_, rfl⟩, hW, hsame.mono (by decide) (by decide)⟩
        · refine XS.iload X9.here hx rfl (hb hby d17_44) rfl ?_
          show Steps p.tables e below (T9.setTop (mkF m 46 #[.val (.ref r0), .val (.int (1 : Int32)), .val (.ref r2), .val (.int (1 : Int32)), .val (.int n), .val (.int (1 : Int32)), .val (.int c0)] [(.int n)])) _
          exact retI X9 hx Bd.returns (hb hby d17_46) hr
        · show Q_rmCi Z r0 r2 n kc kb c0 c1 c2 c3 h0 n0 _ T9.heap _
          rw [e9]
          exact ⟨_, Or.inl ⟨rfl, own_lt256 le_0, (by rw [(zz.2.1 gt_1).1]; decide), (by rw [(zz.2.1 gt_1).2.1]; decide), (by rw [(zz.2.1 gt_1).2.2]; decide), Vq⟩, rfl, N9, Kp_9⟩
  · have st42 : own_S p e below s₁ (mkF m 44 #[.val (.ref r0), .val (.int (0 : Int32)), .val (.ref r2), .val (.int (0 : Int32)), .val (.int n), .val (.int (0 : Int32)), .unset] []) (mkF m 7 #[.val (.ref r0), .val (.int (0 : Int32)), .val (.ref r2), .val (.int (0 : Int32)), .val (.int n), .val (.int (0 : Int32)), .unset] [(.int n), (.int (0 : Int32))]) := by
      intro target kt
      refine XS.icmpYes X0.here hx rfl (pc0 := 7) (pc' := 44) rfl (hb hby d17_7) rfl (flt gt_0).2.1 (by decide) (by decide) ?_
      exact kt
    have Vq : Arv Z h0 r2 kb .byte n [(.int c0.toInt8.toInt32), (.int c1.toInt8.toInt32), (.int c2.toInt8.toInt32), (.int c3.toInt8.toInt32)] (.int (0 : Int32)) := by rw [(zz.1 gt_0).1, (zz.1 gt_0).2.1, (zz.1 gt_0).2.2.1, (zz.1 gt_0).2.2.2, own_z8]; exact Vb
    obtain ⟨fs, hr, hrun, hended, hW, hsame⟩ := X0.leave (v := some (.int n)) (fun h => by rw [Bd.returns] at h; cases h)
    refine ⟨_, _, pre0 _ (st1 _ (st42 _ ?_)), hrun, hended, _, _, rfl, ?_, ⟨_, rfl⟩, hW, hsame.mono (by decide) (by decide)⟩
    · refine XS.iload X0.here hx rfl (hb hby d17_44) rfl ?_
      show Steps p.tables e below (s₁.setTop (mkF m 46 #[.val (.ref r0), .val (.int (0 : Int32)), .val (.ref r2), .val (.int (0 : Int32)), .val (.int n), .val (.int (0 : Int32)), .unset] [(.int n)])) _
      exact retI X0 hx Bd.returns (hb hby d17_46) hr
    · show Q_rmCi Z r0 r2 n kc kb c0 c1 c2 c3 h0 n0 _ s₁.heap _
      rw [e0]
      exact ⟨_, Or.inl ⟨rfl, (by rw [(zz.1 gt_0).1]; decide), (by rw [(zz.1 gt_0).2.1]; decide), (by rw [(zz.1 gt_0).2.2.1]; decide), (by rw [(zz.1 gt_0).2.2.2]; decide), Vq⟩, rfl, N0, Kp⟩
theorem d16_0 : decode jdk_52_method_16_code 0 = .ok (.iload_n 2, 1) := by decide +kernel
theorem d16_1 : decode jdk_52_method_16_code 1 = .ok (.newarray .byte, 2) := by decide +kernel
theorem d16_3 : decode jdk_52_method_16_code 3 = .ok (.astore_n 3, 1) := by decide +kernel
theorem d16_4 : decode jdk_52_method_16_code 4 = .ok (.aload_n 0, 1) := by decide +kernel
theorem d16_5 : decode jdk_52_method_16_code 5 = .ok (.iload_n 1, 1) := by decide +kernel
theorem d16_6 : decode jdk_52_method_16_code 6 = .ok (.aload_n 3, 1) := by decide +kernel
theorem d16_7 : decode jdk_52_method_16_code 7 = .ok (.iconst 0, 1) := by decide +kernel
theorem d16_8 : decode jdk_52_method_16_code 8 = .ok (.iload_n 2, 1) := by decide +kernel
theorem d16_9 : decode jdk_52_method_16_code 9 = .ok (.invokestatic 115, 3) := by decide +kernel
theorem d16_12 : decode jdk_52_method_16_code 12 = .ok (.istore 4, 2) := by decide +kernel
theorem d16_14 : decode jdk_52_method_16_code 14 = .ok (.iload 4, 2) := by decide +kernel
theorem d16_16 : decode jdk_52_method_16_code 16 = .ok (.iload_n 2, 1) := by decide +kernel
theorem d16_17 : decode jdk_52_method_16_code 17 = .ok (.if_icmp .eq 40, 3) := by decide +kernel
theorem d16_20 : decode jdk_52_method_16_code 20 = .ok (.aload_n 0, 1) := by decide +kernel
theorem d16_21 : decode jdk_52_method_16_code 21 = .ok (.iload_n 1, 1) := by decide +kernel
theorem d16_22 : decode jdk_52_method_16_code 22 = .ok (.iload_n 2, 1) := by decide +kernel
theorem d16_23 : decode jdk_52_method_16_code 23 = .ok (.invokestatic 119, 3) := by decide +kernel
theorem d16_26 : decode jdk_52_method_16_code 26 = .ok (.astore 5, 2) := by decide +kernel
theorem d16_28 : decode jdk_52_method_16_code 28 = .ok (.aload 5, 2) := by decide +kernel
theorem d16_30 : decode jdk_52_method_16_code 30 = .ok (.iload 4, 2) := by decide +kernel
theorem d16_32 : decode jdk_52_method_16_code 32 = .ok (.invokestatic 71, 3) := by decide +kernel
theorem d16_35 : decode jdk_52_method_16_code 35 = .ok (.sipush 255, 3) := by decide +kernel
theorem d16_38 : decode jdk_52_method_16_code 38 = .ok (.if_icmp .gt 16, 3) := by decide +kernel
theorem d16_54 : decode jdk_52_method_16_code 54 = .ok (.aload 5, 2) := by decide +kernel
theorem d16_56 : decode jdk_52_method_16_code 56 = .ok (.areturn, 1) := by decide +kernel
theorem d16_57 : decode jdk_52_method_16_code 57 = .ok (.aload_n 3, 1) := by decide +kernel
theorem d16_58 : decode jdk_52_method_16_code 58 = .ok (.areturn, 1) := by decide +kernel
theorem ef_rmCo (m : MethodId) (x0 : Addr) (x1 : Int32) (x2 : Int32) : entryFrame m #[(.ref x0), (.int x1), (.int x2)] 6 = mkF m 0 #[.val (.ref x0), .val (.int x1), .val (.int x2), .unset, .unset, .unset] [] := by first | (simp [entryFrame, mkF, argsToLocals, Value.category]; done) | rfl
def Q_rmCo (Z : State) (r0 : Addr) (n : Int32) (cs : Int32) (fm : Value) (kc : ClassId) (c0 : Int32) (c1 : Int32) (c2 : Int32) (c3 : Int32) (h0 : Heap) (n0 : Nat) (v : Option Value) (h : Heap) (L : List Loc) : Prop := ∃ y, v = some (.ref y) ∧ Fr n0 L ∧ Keep h0 h [] ∧ h0.size ≤ y ∧ ∃ (ky : ClassId) (cd nb : Int32) (vs : List Value), Arv Z h y ky .byte nb vs (.int (0 : Int32)) ∧ own_cd cd nb vs n c0 c1 c2 c3
set_option maxRecDepth 65536 in
set_option maxHeartbeats 40000000 in
theorem rmCo (l : Launch) (Z : State) (a0 : Array Value) (hw : ∀ d ∈ tables_1, d.before a0 Z = true) (ws : List Jvm.Cond) (r0 : Addr) (n : Int32) (cs : Int32) (fm : Value) (kc : ClassId) (c0 : Int32) (c1 : Int32) (c2 : Int32) (c3 : Int32) (h0 : Heap) (n0 : Nat) (Z0 : n0 ≤ h0.size) (SB : own_St Z cs fm) (Od : Old Z n0 h0) (Vc : Arv Z h0 r0 kc .char n [(.int c0), (.int c1), (.int c2), (.int c3)] (.int (0 : Int32))) (hN : own_n n) (hZs : own_zs n c0 c1 c2 c3) (hch : own_chs c0 c1 c2 c3) :
    MetFree l (⟨"java/lang/StringUTF16", "compress", "([CII)[B"⟩ : MethodName) (head1 (Jvm.Cond.code (⟨"java/lang/StringUTF16", "compress", "([CII)[B"⟩ : MethodName) jdk_52_method_16_code 6 (some (.array .byte)) :: ws) ({ frames := 3, cells := 2, slots := 12, locals := 40 } : Room)) (fun a U => a = #[(.ref r0), (.int (0 : Int32)), (.int n)] ∧ Z.Warmed39 U.vm ∧ U.heap = h0) (fun _ _ _ _ _ => True) (fun _ U o U' => ∃ v L, o = .returned v ∧ Q_rmCo Z r0 n cs fm kc c0 c1 c2 c3 h0 n0 v U'.heap L ∧ FrameEnd U o U' L ({ frames := 3, cells := 2, slots := 12, locals := 40 } : Room).cells ({ frames := 3, cells := 2, slots := 12, locals := 40 } : Room).slots) := by
  refine MetFree.of_bodySF (plainFor_of_name pn_1) hisR ?_
  intro p e s m args below meth c s₁ Bd hml0 hP hK
  obtain ⟨rfl, hZ, hh⟩ := hP
  have hx := Bd.exec
  have hby := Bd.bytes
  have hml : c.maxLocals = 6 := hml0
  have hown : s.vm.findClass "java/lang/StringUTF16" = some m.cls := findClass_of_methodNamed Bd.named
  have hnm := (name_of_methodNamed Bd.named Bd.method).1
  have X0 : Stand p l e ({ frames := 3, cells := 2, slots := 12, locals := 40 } : Room) s m #[(.ref r0), (.int (0 : Int32)), (.int n)] below meth c s₁ [] 0 0 := Stand.of_body Bd
  have e0 : s₁.heap = h0 := by rw [← hh, Bd.state]; rfl
  have N0 := Fr.nil n0
  have pre0 : ∀ t, Steps p.tables e below (s₁.setTop (mkF m 0 #[.val (.ref r0), .val (.int (0 : Int32)), .val (.int n), .unset, .unset, .unset] [])) t → Steps p.tables e below (s₁.setTop (entryFrame m #[(.ref r0), (.int (0 : Int32)), (.int n)] 6)) t := fun t k => castTop (ef_rmCo m r0 (0 : Int32) n) k
  have Kp : Keep h0 h0 [] := Keep.refl _ _
  have st1 : own_S p e below s₁ (mkF m 1 #[.val (.ref r0), .val (.int (0 : Int32)), .val (.int n), .unset, .unset, .unset] [(.int n)]) (mkF m 0 #[.val (.ref r0), .val (.int (0 : Int32)), .val (.int n), .unset, .unset, .unset] []) := by
    intro target kt
    refine XS.iloadN X0.here hx rfl (hb hby d16_0) rfl ?_
    exact kt
  obtain ⟨T2, h2, k2, X2, e2, E2, A2, st2⟩ := newP X0 hx hZ (own_w hw 19 rfl) e0 (g := (mkF m 1 #[.val (.ref r0), .val (.int (0 : Int32)), .val (.int n), .unset, .unset, .unset] [(.int n)])) rfl (hb hby d16_1) rfl (own_nn hN) (cap := 4) (own_le4 hN) (by decide) (by decide) (by decide)
  obtain ⟨q, g2⟩ : ∃ z, z = h0.size := ⟨_, rfl⟩
  rw [← g2] at A2 st2
  have g_q : n0 ≤ q := Nat.le_trans Z0 (Nat.le_of_eq g2.symm)
  have sz_q : h0.size ≤ q := Nat.le_trans Kp.1 (Nat.le_of_eq g2.symm)
  have ne_r0_q : r0 ≠ q := Nat.ne_of_lt (Nat.lt_of_lt_of_le Vc.lt (Nat.le_of_eq g2.symm))
  have Od_2 := Od.ext E2
  have Vc_2 := Vc.ext E2
  have Z_2 : n0 ≤ h2.size := Nat.le_trans Z0 E2.1
  have Kp_2 : Keep h0 h2 [] := Kp.ext E2
  have V_q : Arv Z h2 q k2 .byte n [(.int (0 : Int32)), (.int (0 : Int32)), (.int (0 : Int32)), (.int (0 : Int32))] (.int (0 : Int32)) := (Arv.new A2 (own_nn hN)).pad (pad_rep [] (.int (0 : Int32)) 4)
  have st3 : own_S p e below T2 (mkF m 9 #[.val (.ref r0), .val (.int (0 : Int32)), .val (.int n), .val (.ref q), .unset, .unset] [(.int n), (.int (0 : Int32)), (.ref q), (.int (0 : Int32)), (.ref r0)]) (mkF m 3 #[.val (.ref r0), .val (.int (0 : Int32)), .val (.int n), .unset, .unset, .unset] [(.ref q)]) := by
    intro target kt
    refine XS.astoreN X2.here hx rfl (hb hby d16_3) rfl rfl (l' := #[.val (.ref r0), .val (.int (0 : Int32)), .val (.int n), .val (.ref q), .unset, .unset]) rfl ?_
    refine XS.aloadN X2.here hx rfl (hb hby d16_4) rfl rfl ?_
    refine XS.iloadN X2.here hx rfl (hb hby d16_5) rfl ?_
    refine XS.aloadN X2.here hx rfl (hb hby d16_6) rfl rfl ?_
    refine XS.iconst X2.here hx rfl (hb hby d16_7) ?_
    refine XS.iloadN X2.here hx rfl (hb hby d16_8) rfl ?_
    exact kt
  obtain ⟨_, _, ⟨T4, L4, k4, n4⟩, -, X4, ⟨Lc4, hQ4, l4, y4, z4⟩, st4⟩ := Jvm.LawKit.callS X2 hx (y := (⟨"java/lang/StringUTF16", "compress", "([CI[BII)I"⟩ : MethodName)) hown (mvT hZ (own_w hw 94 rfl)) (mvT hZ (own_w hw 95 rfl)) (mvT hZ (own_w hw 92 rfl)) (mvT hZ (own_w hw 96 rfl)) (by decide) (backOf (W := 0) (rmCi l Z a0 hw [] r0 q n kc k2 c0 c1 c2 c3 h2 n0 Z_2 Vc_2 V_q g_q ne_r0_q hN hZs) hZ (own_w hw 96 rfl) (own_w hw 92 rfl) (by decide) (by decide)) (g := (mkF m 9 #[.val (.ref r0), .val (.int (0 : Int32)), .val (.int n), .val (.ref q), .unset, .unset] [(.int n), (.int (0 : Int32)), (.ref q), (.int (0 : Int32)), (.ref r0)])) rfl (by rw [hml]; rfl) (argsL := [(.ref r0), (.int (0 : Int32)), (.ref q), (.int (0 : Int32)), (.int n)]) (rest := []) (lenOf pd_13 rfl) rfl (by show 2 * 0 + _ ≤ _; exact Nat.le_of_eq rfl) (hb hby d16_9) (fun _ _ => ⟨rfl, e2, (by decide : 1 + 0 ≤ _), (by decide : 4 + 0 ≤ _)⟩)
  dsimp only [Pt.U, Pt.locs, Pt.cells, Pt.slots] at X4 l4 y4 z4 st4 hQ4
  subst l4 y4 z4
  obtain ⟨r4, alt4, rfl, Nq4, K4⟩ := hQ4
  have N4 := Fr.app N0 Nq4
  have Od_4 := Od_2.keep K4 (allS g_q (all0))
  have Vc_4 := Vc_2.keep K4 (ninS ne_r0_q nin0)
  have Z_4 : n0 ≤ T4.heap.size := Nat.le_trans Z_2 K4.1
  have Kp_4 : Keep h0 T4.heap [] := Kp_2.trans K4 (allS (Or.inr sz_q) (all0))
  rcases alt4 with ⟨er_, a0_, a1_, a2_, a3_, Vq⟩ | ⟨rn_, rl_, rg_⟩
  · subst er_
    obtain ⟨fs, hr, hrun, hended, hW, hsame⟩ := X4.leave (v := some (.ref q)) (fun h => by rw [Bd.returns] at h; cases h)
    refine ⟨_, _, pre0 _ (st1 _ (st2 _ (st3 _ (st4 _ ?_)))), hrun, hended, _, _, rfl, ?_, ⟨_, rfl⟩, hW, hsame.mono (by decide) (by decide)⟩
    · refine XS.istore X4.here hx rfl (hb hby d16_12) rfl (l' := #[.val (.ref r0), .val (.int (0 : Int32)), .val (.int n), .val (.ref q), .val (.int n), .unset]) rfl ?_
      refine XS.iload X4.here hx rfl (hb hby d16_14) rfl ?_
      refine XS.iloadN X4.here hx rfl (hb hby d16_16) rfl ?_
      refine XS.icmpYes X4.here hx rfl (pc0 := 17) (pc' := 57) rfl (hb hby d16_17) rfl (teq (rfl : n = n)).1 (by decide) (by decide) ?_
      refine XS.aloadN X4.here hx rfl (hb hby d16_57) rfl rfl ?_
      show Steps p.tables e below (T4.setTop (mkF m 58 #[.val (.ref r0), .val (.int (0 : Int32)), .val (.int n), .val (.ref q), .val (.int n), .unset] [(.ref q)])) _
      jvm_step X4.here [X4.here.top, hx, (hb hby d16_58), X4.method', Bd.returns, Value.isRef, FieldType.isReference]
      first | (intro acts; rw [hr _ acts rfl rfl rfl]) | rw [hr _ _ rfl rfl rfl]
      exact Steps.refl _
    · show Q_rmCo Z r0 n cs fm kc c0 c1 c2 c3 h0 n0 _ T4.heap _
      exact ⟨q, rfl, N4, Kp_4, sz_q, _, _, _, _, Vq, Or.inl ⟨rfl, rfl, rfl, a0_, a1_, a2_, a3_⟩⟩
  · have st5 : own_S p e below T4 (mkF m 23 #[.val (.ref r0), .val (.int (0 : Int32)), .val (.int n), .val (.ref q), .val (.int r4), .unset] [(.int n), (.int (0 : Int32)), (.ref r0)]) (mkF m 12 #[.val (.ref r0), .val (.int (0 : Int32)), .val (.int n), .val (.ref q), .unset, .unset] [(.int r4)]) := by
      intro target kt
      refine XS.istore X4.here hx rfl (hb hby d16_12) rfl (l' := #[.val (.ref r0), .val (.int (0 : Int32)), .val (.int n), .val (.ref q), .val (.int r4), .unset]) rfl ?_
      refine XS.iload X4.here hx rfl (hb hby d16_14) rfl ?_
      refine XS.iloadN X4.here hx rfl (hb hby d16_16) rfl ?_
      refine XS.icmpNo X4.here hx rfl (hb hby d16_17) rfl (feq (own_ltne rl_)).1 ?_
      refine XS.aloadN X4.here hx rfl (hb hby d16_20) rfl rfl ?_
      refine XS.iloadN X4.here hx rfl (hb hby d16_21) rfl ?_
      refine XS.iloadN X4.here hx rfl (hb hby d16_22) rfl ?_
      exact kt
    obtain ⟨_, _, ⟨T6, L6, k6, n6⟩, -, X6, ⟨Lc6, hQ6, l6, y6, z6⟩, st6⟩ := Jvm.LawKit.callS X4 hx (y := (⟨"java/lang/StringUTF16", "toBytes", "([CII)[B"⟩ : MethodName)) hown (mvT hZ (own_w hw 103 rfl)) (mvT hZ (own_w hw 104 rfl)) (mvT hZ (own_w hw 92 rfl)) (mvT hZ (own_w hw 105 rfl)) (by decide) (backOf (W := 0) (rmTB l Z a0 hw [] r0 n cs fm kc c0 c1 c2 c3 T4.heap n0 Z_4 SB Od_4 Vc_4 hN hZs) hZ (own_w hw 105 rfl) (own_w hw 92 rfl) (by decide) (by decide)) (g := (mkF m 23 #[.val (.ref r0), .val (.int (0 : Int32)), .val (.int n), .val (.ref q), .val (.int r4), .unset] [(.int n), (.int (0 : Int32)), (.ref r0)])) rfl (by rw [hml]; rfl) (argsL := [(.ref r0), (.int (0 : Int32)), (.int n)]) (rest := []) (lenOf pd_12 rfl) rfl (by show 2 * 0 + _ ≤ _; exact Nat.le_of_eq rfl) (hb hby d16_23) (fun _ _ => ⟨rfl, rfl, (by decide : 1 + 1 ≤ _), (by decide : 4 + 8 ≤ _)⟩)
    dsimp only [Pt.U, Pt.locs, Pt.cells, Pt.slots] at X6 l6 y6 z6 st6 hQ6
    subst l6 y6 z6
    obtain ⟨y6, rfl, Nq6, K6, sz6, ky, Vy⟩ := hQ6
    have N6 := Fr.app N4 Nq6
    have g_y6 : n0 ≤ y6 := Nat.le_trans Z_4 sz6
    have sz_y6 : h0.size ≤ y6 := Nat.le_trans Kp_4.1 sz6
    have ne_r0_y6 : r0 ≠ y6 := Nat.ne_of_lt (Nat.lt_of_lt_of_le Vc_4.lt sz6)
    have Od_6 := Od_4.keep K6 (all0)
    have Vc_6 := Vc_4.keep K6 nin0
    have Z_6 : n0 ≤ T6.heap.size := Nat.le_trans Z_4 K6.1
    have Kp_6 : Keep h0 T6.heap [] := Kp_4.trans K6 (all0)
    have st7 : own_S p e below T6 (mkF m 32 #[.val (.ref r0), .val (.int (0 : Int32)), .val (.int n), .val (.ref q), .val (.int r4), .val (.ref y6)] [(.int r4), (.ref y6)]) (mkF m 26 #[.val (.ref r0), .val (.int (0 : Int32)), .val (.int n), .val (.ref q), .val (.int r4), .unset] [(.ref y6)]) := by
      intro target kt
      refine XS.astore X6.here hx rfl (hb hby d16_26) rfl rfl (l' := #[.val (.ref r0), .val (.int (0 : Int32)), .val (.int n), .val (.ref q), .val (.int r4), .val (.ref y6)]) rfl ?_
      refine XS.aload X6.here hx rfl (hb hby d16_28) rfl rfl ?_
      refine XS.iload X6.here hx rfl (hb hby d16_30) rfl ?_
      exact kt
    obtain ⟨_, _, ⟨T8, L8, k8, n8⟩, -, X8, ⟨Lc8, hQ8, l8, y8, z8⟩, st8⟩ := Jvm.LawKit.callS X6 hx (y := (⟨"java/lang/StringUTF16", "getChar", "([BI)C"⟩ : MethodName)) hown (mvT hZ (own_w hw 119 rfl)) (mvT hZ (own_w hw 120 rfl)) (mvT hZ (own_w hw 92 rfl)) (mvT hZ (own_w hw 121 rfl)) (by decide) (backOf (W := 0) (rmGC l Z a0 hw [] y6 r4 cs fm ky n c0 c1 c2 c3 T6.heap n0 Z_6 SB Od_6 Vy hN hch rn_ rl_) hZ (own_w hw 121 rfl) (own_w hw 92 rfl) (by decide) (by decide)) (g := (mkF m 32 #[.val (.ref r0), .val (.int (0 : Int32)), .val (.int n), .val (.ref q), .val (.int r4), .val (.ref y6)] [(.int r4), (.ref y6)])) rfl (by rw [hml]; rfl) (argsL := [(.ref y6), (.int r4)]) (rest := []) (lenOf pd_18 rfl) rfl (by show 2 * 0 + _ ≤ _; exact Nat.le_of_eq rfl) (hb hby d16_32) (fun _ _ => ⟨rfl, rfl, (by decide : 2 + 0 ≤ _), (by decide : 12 + 0 ≤ _)⟩)
    dsimp only [Pt.U, Pt.locs, Pt.cells, Pt.slots] at X8 l8 y8 z8 st8 hQ8
    subst l8 y8 z8
    obtain ⟨rfl, Nq8, e8⟩ := hQ8
    have N8 := Fr.app N6 Nq8
    obtain ⟨fs, hr, hrun, hended, hW, hsame⟩ := X8.leave (v := some (.ref y6)) (fun h => by rw [Bd.returns] at h; cases h)
    refine ⟨_, _, pre0 _ (st1 _ (st2 _ (st3 _ (st4 _ (st5 _ (st6 _ (st7 _ (st8 _ ?_)))))))), hrun, hended, _, _, rfl, ?_, ⟨_, rfl⟩, hW, hsame.mono (by decide) (by decide)⟩
    · refine XS.sipush X8.here hx rfl (hb hby d16_35) ?_
      refine XS.icmpYes X8.here hx rfl (pc0 := 38) (pc' := 54) rfl (hb hby d16_38) rfl (tlt rg_).2.2.1 (by decide) (by decide) ?_
      refine XS.aload X8.here hx rfl (hb hby d16_54) rfl rfl ?_
      show Steps p.tables e below (T8.setTop (mkF m 56 #[.val (.ref r0), .val (.int (0 : Int32)), .val (.int n), .val (.ref q), .val (.int r4), .val (.ref y6)] [(.ref y6)])) _
      jvm_step X8.here [X8.here.top, hx, (hb hby d16_56), X8.method', Bd.returns, Value.isRef, FieldType.isReference]
      first | (intro acts; rw [hr _ acts rfl rfl rfl]) | rw [hr _ _ rfl rfl rfl]
      exact Steps.refl _
    · show Q_rmCo Z r0 n cs fm kc c0 c1 c2 c3 h0 n0 _ T8.heap _
      rw [e8]
      exact ⟨y6, rfl, N8, Kp_6, sz_y6, ky, _, _, _, Vy, Or.inr ⟨rfl, rfl, rfl⟩⟩
theorem own_cfl {cd nb : Int32} {vs : List Value} {n c0 c1 c2 c3 : Int32} (h : own_cd cd nb vs n c0 c1 c2 c3) (hn : own_n n) (h0 : ¬ n = 0) : (nar .byte ((((n - nb).toUInt32 >>> ((31 : Int32) &&& 31).toUInt32).toInt32).toInt8.toInt32)) = cd := by
  rcases h with ⟨a, b, -⟩ | ⟨a, b, -⟩ <;> subst a <;> subst b <;> rcases hn with rfl | rfl | rfl | rfl | rfl <;> first | exact absurd rfl h0 | decide
theorem own_nbc {cd nb : Int32} {vs : List Value} {n c0 c1 c2 c3 : Int32} (h : own_cd cd nb vs n c0 c1 c2 c3) : nar .byte cd = cd := by
  rcases h with ⟨a, -⟩ | ⟨a, -⟩ <;> subst a <;> decide
theorem d18_0 : decode jdk_52_method_15_code 0 = .ok (.iload_n 1, 1) := by decide +kernel
theorem d18_1 : decode jdk_52_method_15_code 1 = .ok (.aload_n 0, 1) := by decide +kernel
theorem d18_2 : decode jdk_52_method_15_code 2 = .ok (.arraylength, 1) := by decide +kernel
theorem d18_3 : decode jdk_52_method_15_code 3 = .ok (.isub, 1) := by decide +kernel
theorem d18_4 : decode jdk_52_method_15_code 4 = .ok (.bipush 31, 2) := by decide +kernel
theorem d18_6 : decode jdk_52_method_15_code 6 = .ok (.iushr, 1) := by decide +kernel
theorem d18_7 : decode jdk_52_method_15_code 7 = .ok (.i2b, 1) := by decide +kernel
theorem d18_8 : decode jdk_52_method_15_code 8 = .ok (.ireturn, 1) := by decide +kernel
theorem ef_rmCl (m : MethodId) (x0 : Addr) (x1 : Int32) : entryFrame m #[(.ref x0), (.int x1)] 2 = mkF m 0 #[.val (.ref x0), .val (.int x1)] [] := by first | (simp [entryFrame, mkF, argsToLocals, Value.category]; done) | rfl
def Q_rmCl (Z : State) (r0 : Addr) (n : Int32) (ky : ClassId) (cd : Int32) (nb : Int32) (vs : List Value) (c0 : Int32) (c1 : Int32) (c2 : Int32) (c3 : Int32) (h0 : Heap) (n0 : Nat) (v : Option Value) (h : Heap) (L : List Loc) : Prop := v = some (.int cd) ∧ Fr n0 L ∧ h = h0
set_option maxRecDepth 65536 in
set_option maxHeartbeats 40000000 in
theorem rmCl (l : Launch) (Z : State) (a0 : Array Value) (hw : ∀ d ∈ tables_1, d.before a0 Z = true) (ws : List Jvm.Cond) (r0 : Addr) (n : Int32) (ky : ClassId) (cd : Int32) (nb : Int32) (vs : List Value) (c0 : Int32) (c1 : Int32) (c2 : Int32) (c3 : Int32) (h0 : Heap) (n0 : Nat) (Z0 : n0 ≤ h0.size) (Vy : Arv Z h0 r0 ky .byte nb vs (.int (0 : Int32))) (hcd : own_cd cd nb vs n c0 c1 c2 c3) (hN : own_n n) (hn0 : ¬ n = 0) :
    MetFree l (⟨"java/lang/StringUTF16", "coderFromArrayLen", "([BI)B"⟩ : MethodName) (head1 (Jvm.Cond.code (⟨"java/lang/StringUTF16", "coderFromArrayLen", "([BI)B"⟩ : MethodName) jdk_52_method_15_code 2 (some .byte) :: ws) ({ frames := 0, cells := 0, slots := 0, locals := 0 } : Room)) (fun a U => a = #[(.ref r0), (.int n)] ∧ Z.Warmed39 U.vm ∧ U.heap = h0) (fun _ _ _ _ _ => True) (fun _ U o U' => ∃ v L, o = .returned v ∧ Q_rmCl Z r0 n ky cd nb vs c0 c1 c2 c3 h0 n0 v U'.heap L ∧ FrameEnd U o U' L ({ frames := 0, cells := 0, slots := 0, locals := 0 } : Room).cells ({ frames := 0, cells := 0, slots := 0, locals := 0 } : Room).slots) := by
  refine MetFree.of_bodySF (plainFor_of_name pn_1) hisR ?_
  intro p e s m args below meth c s₁ Bd hml0 hP hK
  obtain ⟨rfl, hZ, hh⟩ := hP
  have hx := Bd.exec
  have hby := Bd.bytes
  have hml : c.maxLocals = 2 := hml0
  have hown : s.vm.findClass "java/lang/StringUTF16" = some m.cls := findClass_of_methodNamed Bd.named
  have hnm := (name_of_methodNamed Bd.named Bd.method).1
  have X0 : Stand p l e ({ frames := 0, cells := 0, slots := 0, locals := 0 } : Room) s m #[(.ref r0), (.int n)] below meth c s₁ [] 0 0 := Stand.of_body Bd
  have e0 : s₁.heap = h0 := by rw [← hh, Bd.state]; rfl
  have N0 := Fr.nil n0
  have pre0 : ∀ t, Steps p.tables e below (s₁.setTop (mkF m 0 #[.val (.ref r0), .val (.int n)] [])) t → Steps p.tables e below (s₁.setTop (entryFrame m #[(.ref r0), (.int n)] 2)) t := fun t k => castTop (ef_rmCl m r0 n) k
  have st1 : own_S p e below s₁ (mkF m 2 #[.val (.ref r0), .val (.int n)] [(.ref r0), (.int n)]) (mkF m 0 #[.val (.ref r0), .val (.int n)] []) := by
    intro target kt
    refine XS.iloadN X0.here hx rfl (hb hby d18_0) rfl ?_
    refine XS.aloadN X0.here hx rfl (hb hby d18_1) rfl rfl ?_
    exact kt
  obtain ⟨cl2, Ar2, qc2, Sz2, Mn2, Hs2, Gs2⟩ := id Vy
  have st2 : own_S p e below s₁ (mkF m 3 #[.val (.ref r0), .val (.int n)] [(.int nb), (.int n)]) (mkF m 2 #[.val (.ref r0), .val (.int n)] [(.ref r0), (.int n)]) := fun target kt => X0.arraylength hx (cell := cl2) (by rw [e0]; exact Ar2.1) (State.isArrayOf_alike hZ.alike Ar2.2.1) (g := (mkF m 2 #[.val (.ref r0), .val (.int n)] [(.ref r0), (.int n)])) rfl rfl (hb hby d18_2) _ (by rw [len_of Sz2 Mn2]; exact kt)
  obtain ⟨fs, hr, hrun, hended, hW, hsame⟩ := X0.leave (v := some (.int (nar .byte ((((n - nb).toUInt32 >>> ((31 : Int32) &&& 31).toUInt32).toInt32).toInt8.toInt32)))) (fun h => by rw [Bd.returns] at h; cases h)
  refine ⟨_, _, pre0 _ (st1 _ (st2 _ ?_)), hrun, hended, _, _, rfl, ?_, ⟨_, rfl⟩, hW, hsame.mono (by decide) (by decide)⟩
  · refine XS.isub X0.here hx rfl (hb hby d18_3) rfl ?_
    refine XS.bipush X0.here hx rfl (hb hby d18_4) ?_
    refine XS.iushr X0.here hx rfl (hb hby d18_6) rfl ?_
    refine XS.i2b X0.here hx rfl (hb hby d18_7) rfl ?_
    show Steps p.tables e below (s₁.setTop (mkF m 8 #[.val (.ref r0), .val (.int n)] [(.int ((((n - nb).toUInt32 >>> ((31 : Int32) &&& 31).toUInt32).toInt32).toInt8.toInt32))])) _
    exact retN X0 hx (t := .byte) Bd.returns (by simp) (hb hby d18_8) hr
  · show Q_rmCl Z r0 n ky cd nb vs c0 c1 c2 c3 h0 n0 _ s₁.heap _
    rw [e0]
    exact ⟨congrArg (fun z => some (Value.int z)) (own_cfl hcd hN hn0), N0, rfl⟩
theorem d2_0 : decode jdk_42_method_149_code 0 = .ok (.aload_n 0, 1) := by decide +kernel
theorem d2_1 : decode jdk_42_method_149_code 1 = .ok (.invokespecial 1, 3) := by decide +kernel
theorem d2_4 : decode jdk_42_method_149_code 4 = .ok (.iload_n 3, 1) := by decide +kernel
theorem d2_5 : decode jdk_42_method_149_code 5 = .ok (.ifCond .ne 22, 3) := by decide +kernel
theorem d2_8 : decode jdk_42_method_149_code 8 = .ok (.aload_n 0, 1) := by decide +kernel
theorem d2_9 : decode jdk_42_method_149_code 9 = .ok (.ldc 7, 2) := by decide +kernel
theorem d2_11 : decode jdk_42_method_149_code 11 = .ok (.getfield 9, 3) := by decide +kernel
theorem d2_14 : decode jdk_42_method_149_code 14 = .ok (.putfield 9, 3) := by decide +kernel
theorem d2_17 : decode jdk_42_method_149_code 17 = .ok (.aload_n 0, 1) := by decide +kernel
theorem d2_18 : decode jdk_42_method_149_code 18 = .ok (.ldc 7, 2) := by decide +kernel
theorem d2_20 : decode jdk_42_method_149_code 20 = .ok (.getfield 15, 3) := by decide +kernel
theorem d2_23 : decode jdk_42_method_149_code 23 = .ok (.putfield 15, 3) := by decide +kernel
theorem d2_26 : decode jdk_42_method_149_code 26 = .ok (.return_, 1) := by decide +kernel
theorem d2_27 : decode jdk_42_method_149_code 27 = .ok (.getstatic 38, 3) := by decide +kernel
theorem d2_30 : decode jdk_42_method_149_code 30 = .ok (.ifCond .eq 28, 3) := by decide +kernel
theorem d2_33 : decode jdk_42_method_149_code 33 = .ok (.aload_n 1, 1) := by decide +kernel
theorem d2_34 : decode jdk_42_method_149_code 34 = .ok (.iload_n 2, 1) := by decide +kernel
theorem d2_35 : decode jdk_42_method_149_code 35 = .ok (.iload_n 3, 1) := by decide +kernel
theorem d2_36 : decode jdk_42_method_149_code 36 = .ok (.invokestatic 177, 3) := by decide +kernel
theorem d2_39 : decode jdk_42_method_149_code 39 = .ok (.astore 5, 2) := by decide +kernel
theorem d2_41 : decode jdk_42_method_149_code 41 = .ok (.aload_n 0, 1) := by decide +kernel
theorem d2_42 : decode jdk_42_method_149_code 42 = .ok (.aload 5, 2) := by decide +kernel
theorem d2_44 : decode jdk_42_method_149_code 44 = .ok (.iload_n 3, 1) := by decide +kernel
theorem d2_45 : decode jdk_42_method_149_code 45 = .ok (.invokestatic 47, 3) := by decide +kernel
theorem d2_48 : decode jdk_42_method_149_code 48 = .ok (.putfield 15, 3) := by decide +kernel
theorem d2_51 : decode jdk_42_method_149_code 51 = .ok (.aload_n 0, 1) := by decide +kernel
theorem d2_52 : decode jdk_42_method_149_code 52 = .ok (.aload 5, 2) := by decide +kernel
theorem d2_54 : decode jdk_42_method_149_code 54 = .ok (.putfield 9, 3) := by decide +kernel
theorem d2_57 : decode jdk_42_method_149_code 57 = .ok (.return_, 1) := by decide +kernel
theorem pn_2 : plainName "java/lang/String" = true := by first | (simp [plainName, overriddenIn]; done) | decide +kernel
theorem ef_rmI4 (m : MethodId) (x0 : Addr) (x1 : Addr) (x2 : Int32) (x3 : Int32) : entryFrame m #[(.ref x0), (.ref x1), (.int x2), (.int x3), .null] 6 = mkF m 0 #[.val (.ref x0), .val (.ref x1), .val (.int x2), .val (.int x3), .val .null, .unset] [] := by first | (simp [entryFrame, mkF, argsToLocals, Value.category]; done) | rfl
def Q_rmI4 (Z : State) (r0 : Addr) (r1 : Addr) (n : Int32) (cs : Int32) (fm : Value) (kc : ClassId) (c0 : Int32) (c1 : Int32) (c2 : Int32) (c3 : Int32) (h0 : Heap) (n0 : Nat) (v : Option Value) (h : Heap) (L : List Loc) : Prop := v = none ∧ Fr n0 L ∧ Keep h0 h [r0] ∧ Exa Z h r0 "java/lang/String" ∧ ∃ (y : Addr) (ky : ClassId) (cd nb : Int32) (vs : List Value), Fld Z h r0 "java/lang/String" "value" "[B" (.ref y) ∧ Fld Z h r0 "java/lang/String" "coder" "B" (.int cd) ∧ Arv Z h y ky .byte nb vs (.int (0 : Int32)) ∧ own_cd cd nb vs n c0 c1 c2 c3
set_option maxRecDepth 65536 in
set_option maxHeartbeats 40000000 in
theorem rmI4 (l : Launch) (Z : State) (a0 : Array Value) (hw : ∀ d ∈ tables_1, d.before a0 Z = true) (ws : List Jvm.Cond) (r0 : Addr) (r1 : Addr) (n : Int32) (cs : Int32) (fm : Value) (kc : ClassId) (c0 : Int32) (c1 : Int32) (c2 : Int32) (c3 : Int32) (h0 : Heap) (n0 : Nat) (Z0 : n0 ≤ h0.size) (SB : own_St Z cs fm) (Od : Old Z n0 h0) (Fv : Fld Z h0 r0 "java/lang/String" "value" "[B" .null) (Fc : Fld Z h0 r0 "java/lang/String" "coder" "B" (.int (0 : Int32))) (Et : Exa Z h0 r0 "java/lang/String") (g_r0 : n0 ≤ r0) (Vc : Arv Z h0 r1 kc .char n [(.int c0), (.int c1), (.int c2), (.int c3)] (.int (0 : Int32))) (hN : own_n n) (hZs : own_zs n c0 c1 c2 c3) (hch : own_chs c0 c1 c2 c3) (hne : r0 ≠ r1) :
    MetFree l (⟨"java/lang/String", "<init>", "([CIILjava/lang/Void;)V"⟩ : MethodName) (head1 (Jvm.Cond.code (⟨"java/lang/String", "<init>", "([CIILjava/lang/Void;)V"⟩ : MethodName) jdk_42_method_149_code 6 none :: ws) ({ frames := 4, cells := 4, slots := 12, locals := 57 } : Room)) (fun a U => a = #[(.ref r0), (.ref r1), (.int (0 : Int32)), (.int n), .null] ∧ Z.Warmed39 U.vm ∧ U.heap = h0 ∧ CHv Z own_EL U.vm h0) (fun _ _ _ _ _ => True) (fun _ U o U' => ∃ v L, o = .returned v ∧ Q_rmI4 Z r0 r1 n cs fm kc c0 c1 c2 c3 h0 n0 v U'.heap L ∧ CHr Z own_EL U.vm U.heap U'.vm U'.heap ∧ ReturnedEndW U o U' L ({ frames := 4, cells := 4, slots := 12, locals := 57 } : Room).cells ({ frames := 4, cells := 4, slots := 12, locals := 57 } : Room).slots) := by
  refine MetFree.of_bodySF (plainFor_of_name pn_2) hisR ?_
  intro p e s m args below meth c s₁ Bd hml0 hP hK
  obtain ⟨rfl, hZ, hh, hCH⟩ := hP
  have hx := Bd.exec
  have hby := Bd.bytes
  have hml : c.maxLocals = 6 := hml0
  have hown : s.vm.findClass "java/lang/String" = some m.cls := findClass_of_methodNamed Bd.named
  have hnm := (name_of_methodNamed Bd.named Bd.method).1
  have X0 : Stand p l e ({ frames := 4, cells := 4, slots := 12, locals := 57 } : Room) s m #[(.ref r0), (.ref r1), (.int (0 : Int32)), (.int n), .null] below meth c s₁ [] 0 0 := Stand.of_body Bd
  have e0 : s₁.heap = h0 := by rw [← hh, Bd.state]; rfl
  have N0 := Fr.nil n0
  have pre0 : ∀ t, Steps p.tables e below (s₁.setTop (mkF m 0 #[.val (.ref r0), .val (.ref r1), .val (.int (0 : Int32)), .val (.int n), .val .null, .unset] [])) t → Steps p.tables e below (s₁.setTop (entryFrame m #[(.ref r0), (.ref r1), (.int (0 : Int32)), (.int n), .null] 6)) t := fun t k => castTop (ef_rmI4 m r0 r1 (0 : Int32) n) k
  have CA := CHr.refl hCH
  have hEL := own_hEL hw
  have wS : ∀ a ∈ Bundle.stringAtoms, a.before a0 Z = true := fun d hd => hw d ((by decide +kernel : ∀ d ∈ Bundle.stringAtoms, d ∈ tables_1) d hd)
  have Kp : Keep h0 h0 [r0] := Keep.refl _ _
  have Sf := own_safe_null (EL := own_EL) hZ.alike Et Fv
  have st1 : own_S p e below s₁ (mkF m 1 #[.val (.ref r0), .val (.ref r1), .val (.int (0 : Int32)), .val (.int n), .val .null, .unset] [(.ref r0)]) (mkF m 0 #[.val (.ref r0), .val (.ref r1), .val (.int (0 : Int32)), .val (.int n), .val .null, .unset] []) := by
    intro target kt
    refine XS.aloadN X0.here hx rfl (hb hby d2_0) rfl rfl ?_
    exact kt
  obtain ⟨T2, X2, e2, st2⟩ := initO X0 hx hZ hown (own_w hw 15 rfl) (own_w hw 16 rfl) (own_w hw 17 rfl) e0 (g := (mkF m 1 #[.val (.ref r0), .val (.ref r1), .val (.int (0 : Int32)), .val (.int n), .val .null, .unset] [(.ref r0)])) rfl (by rw [hml]; rfl) rfl (hb hby d2_1) (by decide) (W := 0) (by show 2 * 0 + _ ≤ _; exact Nat.le_of_eq rfl) (by decide)
  have st3 : own_S p e below T2 (mkF m 5 #[.val (.ref r0), .val (.ref r1), .val (.int (0 : Int32)), .val (.int n), .val .null, .unset] [(.int n)]) (mkF m 4 #[.val (.ref r0), .val (.ref r1), .val (.int (0 : Int32)), .val (.int n), .val .null, .unset] []) := by
    intro target kt
    refine XS.iloadN X2.here hx rfl (hb hby d2_4) rfl ?_
    exact kt
  by_cases hn0 : n = (0 : Int32)
  · have st4 : own_S p e below T2 (mkF m 8 #[.val (.ref r0), .val (.ref r1), .val (.int (0 : Int32)), .val (.int n), .val .null, .unset] []) (mkF m 5 #[.val (.ref r0), .val (.ref r1), .val (.int (0 : Int32)), .val (.int n), .val .null, .unset] [(.int n)]) := by
      intro target kt
      refine XS.ifNo X2.here hx rfl (hb hby d2_5) rfl ((if0 _ _).trans (teq hn0).2) ?_
      exact kt
    have st5 : own_S p e below T2 (mkF m 9 #[.val (.ref r0), .val (.ref r1), .val (.int (0 : Int32)), .val (.int n), .val .null, .unset] [(.ref r0)]) (mkF m 8 #[.val (.ref r0), .val (.ref r1), .val (.int (0 : Int32)), .val (.int n), .val .null, .unset] []) := by
      intro target kt
      refine XS.aloadN X2.here hx rfl (hb hby d2_8) rfl rfl ?_
      exact kt
    obtain ⟨e1_, T6, h6, k1_6, b1_, kb6, X6, e6, E6, hS, kz_6, hZ, hown, Ex6, Fc6, Fv6, V6, lx6, lb6, CHn6, -, sf6, st6⟩ := ldcCH (s := s) (vm0 := s.vm) X2 hx hZ hown (own_w hw 18 rfl) wS e2 ((State.WarmedH.refl s).since 0) (Nat.zero_le _) hEL own_mem CA.1 (vs := []) (z := (0 : Int32)) ⟨fun c hc => absurd hc (by simp), rfl⟩ (by decide) rfl (g := (mkF m 9 #[.val (.ref r0), .val (.ref r1), .val (.int (0 : Int32)), .val (.int n), .val .null, .unset] [(.ref r0)])) rfl (hb hby d2_9) (n := 0) (by decide) (by decide) (by decide) (by decide)
    have Od_6 := Od.ext E6
    have Et_6 := Et.ext E6
    have Fv_6 := Fv.ext E6
    have Fc_6 := Fc.ext E6
    have Sf_6 := CHr.safe CHn6 Et.lt Sf
    have CA_6 := CA.trans CHn6
    have Z_6 : n0 ≤ h6.size := Nat.le_trans Z0 E6.1
    have Kp_6 : Keep h0 h6 [r0] := Kp.ext E6
    have ne_r0_e1_ := (sf6 r0 Sf_6).1
    have ne_r0_b1_ := (sf6 r0 Sf_6).2
    obtain ⟨T7, X7, e7, st7⟩ := getF X6 hx hZ hown (host := "") (Or.inl (own_w hw 24 rfl)) Via.refl e6 Fv6 (g := (mkF m 11 #[.val (.ref r0), .val (.ref r1), .val (.int (0 : Int32)), .val (.int n), .val .null, .unset] [(.ref e1_), (.ref r0)])) rfl rfl (hb hby d2_11)
    obtain ⟨T8, h8, X8, e8, W8, st8⟩ := putF X7 hx hZ hown (host := "") (Or.inl (own_w hw 24 rfl)) Via.refl e7 Fv_6 Et_6 (Or.inr ⟨(own_w hw 20 rfl), rfl, hnm⟩) (own_w hw 6 rfl) (ty := (.array .byte)) (by decide) rfl rfl (g := (mkF m 14 #[.val (.ref r0), .val (.ref r1), .val (.int (0 : Int32)), .val (.int n), .val .null, .unset] [(.ref b1_), (.ref r0)])) rfl rfl (hb hby d2_14)
    have F_value_r0_8 : Fld Z h8 r0 "java/lang/String" "value" "[B" (.ref b1_) := Fv_6.same W8
    have Od_8 := Od_6.wr W8 g_r0
    have Et_8 := Et_6.wr W8
    have Fc_8 := Fc_6.other W8 (Or.inr (slot_ne (Or.inr (own_w hw 21 rfl)) (Or.inr (own_w hw 20 rfl)) (by decide) (t := .byte) (t' := (.array .byte)) (by decide) (by decide)))
    have Sf_8 := Safe.wr W8 Sf_6 CA_6.1 Sf_6
    have Ex6_8 := Ex6.wr W8
    have Fc6_8 := Fc6.other W8 (Or.inl (Ne.symm ne_r0_e1_))
    have Fv6_8 := Fv6.other W8 (Or.inl (Ne.symm ne_r0_e1_))
    have V6_8 := V6.other W8 (Ne.symm ne_r0_b1_)
    have CA_8 := CA_6.trans (CHr.wr W8 Sf_6 CA_6.1)
    have Z_8 : n0 ≤ h8.size := Nat.le_trans Z_6 (Keep.of_wr W8).1
    have kz_8 : k1_6 ≤ h8.size := Nat.le_trans kz_6 (Keep.of_wr W8).1
    have Kp_8 : Keep h0 h8 [r0] := Kp_6.wr W8 (Or.inl (List.mem_of_getElem? (i := 0) rfl))
    have N8 := Fr.snoc X8 N0 g_r0
    have st9 : own_S p e below T8 (mkF m 18 #[.val (.ref r0), .val (.ref r1), .val (.int (0 : Int32)), .val (.int n), .val .null, .unset] [(.ref r0)]) (mkF m 17 #[.val (.ref r0), .val (.ref r1), .val (.int (0 : Int32)), .val (.int n), .val .null, .unset] []) := by
      intro target kt
      refine XS.aloadN X8.here hx rfl (hb hby d2_17) rfl rfl ?_
      exact kt
    obtain ⟨e2_, T10, h10, k1_10, b2_, kb10, X10, e10, E10, hS, kz_10, hZ, hown, Ex10, Fc10, Fv10, V10, lx10, lb10, CHn10, -, sf10, st10⟩ := ldcCH (s := s) (vm0 := T6.vm) X8 hx hZ hown (own_w hw 18 rfl) wS e8 hS kz_8 hEL own_mem CA_8.1 (vs := []) (z := (0 : Int32)) ⟨fun c hc => absurd hc (by simp), rfl⟩ (by decide) rfl (g := (mkF m 18 #[.val (.ref r0), .val (.ref r1), .val (.int (0 : Int32)), .val (.int n), .val .null, .unset] [(.ref r0)])) rfl (hb hby d2_18) (n := 0) (by decide) (by decide) (by decide) (by decide)
    have Od_10 := Od_8.ext E10
    have Et_10 := Et_8.ext E10
    have Fc_10 := Fc_8.ext E10
    have Sf_10 := CHr.safe CHn10 Et_8.lt Sf_8
    have Ex6_10 := Ex6_8.ext E10
    have Fc6_10 := Fc6_8.ext E10
    have Fv6_10 := Fv6_8.ext E10
    have V6_10 := V6_8.ext E10
    have F_value_r0_10 := F_value_r0_8.ext E10
    have CA_10 := CA_8.trans CHn10
    have Z_10 : n0 ≤ h10.size := Nat.le_trans Z_8 E10.1
    have Kp_10 : Keep h0 h10 [r0] := Kp_8.ext E10
    have ne_r0_e2_ := (sf10 r0 Sf_10).1
    have ne_r0_b2_ := (sf10 r0 Sf_10).2
    obtain ⟨T11, X11, e11, st11⟩ := getF X10 hx hZ hown (host := "") (Or.inl (own_w hw 25 rfl)) Via.refl e10 Fc10 (g := (mkF m 20 #[.val (.ref r0), .val (.ref r1), .val (.int (0 : Int32)), .val (.int n), .val .null, .unset] [(.ref e2_), (.ref r0)])) rfl rfl (hb hby d2_20)
    obtain ⟨T12, h12, X12, e12, W12, st12⟩ := putFN X11 hx hZ hown (own_w hw 25 rfl) Via.refl e11 Fc_10 Et_10 (Or.inr ⟨(own_w hw 21 rfl), rfl, hnm⟩) (own_w hw 6 rfl) (ty := .byte) (v' := (.int (nar .byte (0 : Int32)))) (by decide) rfl (fits_nar_byte _) (g := (mkF m 23 #[.val (.ref r0), .val (.ref r1), .val (.int (0 : Int32)), .val (.int n), .val .null, .unset] [(.int (0 : Int32)), (.ref r0)])) rfl rfl (hb hby d2_23)
    have F_coder_r0_12 : Fld Z h12 r0 "java/lang/String" "coder" "B" (.int (nar .byte (0 : Int32))) := Fc_10.same W12
    have Od_12 := Od_10.wr W12 g_r0
    have Et_12 := Et_10.wr W12
    have Sf_12 := Safe.wr W12 Sf_10 CA_10.1 Sf_10
    have Ex6_12 := Ex6_10.wr W12
    have Fc6_12 := Fc6_10.other W12 (Or.inl (Ne.symm ne_r0_e1_))
    have Fv6_12 := Fv6_10.other W12 (Or.inl (Ne.symm ne_r0_e1_))
    have V6_12 := V6_10.other W12 (Ne.symm ne_r0_b1_)
    have F_value_r0_12 := F_value_r0_10.other W12 (Or.inr (slot_ne (Or.inr (own_w hw 20 rfl)) (Or.inr (own_w hw 21 rfl)) (by decide) (t := (.array .byte)) (t' := .byte) (by decide) (by decide)))
    have Ex10_12 := Ex10.wr W12
    have Fc10_12 := Fc10.other W12 (Or.inl (Ne.symm ne_r0_e2_))
    have Fv10_12 := Fv10.other W12 (Or.inl (Ne.symm ne_r0_e2_))
    have V10_12 := V10.other W12 (Ne.symm ne_r0_b2_)
    have CA_12 := CA_10.trans (CHr.wr W12 Sf_10 CA_10.1)
    have Z_12 : n0 ≤ h12.size := Nat.le_trans Z_10 (Keep.of_wr W12).1
    have kz_12 : k1_10 ≤ h12.size := Nat.le_trans kz_10 (Keep.of_wr W12).1
    have Kp_12 : Keep h0 h12 [r0] := Kp_10.wr W12 (Or.inl (List.mem_of_getElem? (i := 0) rfl))
    have N12 := Fr.snoc X12 N8 g_r0
    have zz := (own_zz hN hZs).1 (by rw [hn0]; decide)
    have Vq : Arv Z h12 b1_ kb6 .byte n [(.int c0.toInt8.toInt32), (.int c1.toInt8.toInt32), (.int c2.toInt8.toInt32), (.int c3.toInt8.toInt32)] (.int (0 : Int32)) := by rw [hn0]; exact own_arv0 V6_12
    obtain ⟨fs, hr, hrun, hended, hRW⟩ := Jvm.Stand.leaveW (s := s) X12 hS (by rw [e12]; exact kz_12) (v := none) (fun h => by rfl)
    have CE : CHr Z own_EL s.vm s.heap T12.vm T12.heap := by
      rw [hh, e12]
      exact CA_12.trans (CHv.at (vm0 := T10.vm) (s := s) X12 hZ hEL CA_12.1)
    refine ⟨_, _, pre0 _ (st1 _ (st2 _ (st3 _ (st4 _ (st5 _ (st6 _ (st7 _ (st8 _ (st9 _ (st10 _ (st11 _ (st12 _ ?_)))))))))))), hrun, hended, _, _, rfl, ?_, CE, hRW.1, hRW.2.1, hRW.2.2.1, hRW.2.2.2.mono (by decide) (by decide)⟩
    · show Steps p.tables e below (T12.setTop (mkF m 26 #[.val (.ref r0), .val (.ref r1), .val (.int (0 : Int32)), .val (.int n), .val .null, .unset] [])) _
      exact X12.returnOut hx Bd.returns (hb hby d2_26) hr
    · show Q_rmI4 Z r0 r1 n cs fm kc c0 c1 c2 c3 h0 n0 _ T12.heap _
      rw [e12]
      exact ⟨rfl, N12, Kp_12, Et_12, b1_, _, _, _, _, F_value_r0_12, F_coder_r0_12, Vq, Or.inl ⟨rfl, rfl, rfl, (by rw [zz.1]; decide), (by rw [zz.2.1]; decide), (by rw [zz.2.2.1]; decide), (by rw [zz.2.2.2]; decide)⟩⟩
  · have st13 : own_S p e below T2 (mkF m 27 #[.val (.ref r0), .val (.ref r1), .val (.int (0 : Int32)), .val (.int n), .val .null, .unset] []) (mkF m 5 #[.val (.ref r0), .val (.ref r1), .val (.int (0 : Int32)), .val (.int n), .val .null, .unset] [(.int n)]) := by
      intro target kt
      refine XS.ifYes X2.here hx rfl (pc0 := 5) (pc' := 27) rfl (hb hby d2_5) rfl ((if0 _ _).trans (feq hn0).2) (by decide) (by decide) ?_
      exact kt
    obtain ⟨T14, X14, e14, st14⟩ := getS2 X2 hx hZ hown (host := "") (Or.inl (own_w hw 61 rfl)) Via.refl e2 (SB.1.ext Od.2) (g := (mkF m 27 #[.val (.ref r0), .val (.ref r1), .val (.int (0 : Int32)), .val (.int n), .val .null, .unset] [])) rfl (hb hby d2_27)
    have st15 : own_S p e below T14 (mkF m 36 #[.val (.ref r0), .val (.ref r1), .val (.int (0 : Int32)), .val (.int n), .val .null, .unset] [(.int n), (.int (0 : Int32)), (.ref r1)]) (mkF m 30 #[.val (.ref r0), .val (.ref r1), .val (.int (0 : Int32)), .val (.int n), .val .null, .unset] [(.int cs)]) := by
      intro target kt
      refine XS.ifNo X14.here hx rfl (hb hby d2_30) rfl ((if0 _ _).trans (feq SB.2.1).1) ?_
      refine XS.aloadN X14.here hx rfl (hb hby d2_33) rfl rfl ?_
      refine XS.iloadN X14.here hx rfl (hb hby d2_34) rfl ?_
      refine XS.iloadN X14.here hx rfl (hb hby d2_35) rfl ?_
      exact kt
    obtain ⟨_, _, ⟨T16, L16, k16, n16⟩, -, X16, ⟨Lc16, hQ16, l16, y16, z16⟩, st16⟩ := Jvm.LawKit.callS X14 hx (y := (⟨"java/lang/StringUTF16", "compress", "([CII)[B"⟩ : MethodName)) hown (mvT hZ (own_w hw 90 rfl)) (mvT hZ (own_w hw 91 rfl)) (mvT hZ (own_w hw 92 rfl)) (mvT hZ (own_w hw 93 rfl)) (by decide) (backOf (W := 0) (rmCo l Z a0 hw [] r1 n cs fm kc c0 c1 c2 c3 h0 n0 Z0 SB Od Vc hN hZs hch) hZ (own_w hw 93 rfl) (own_w hw 92 rfl) (by decide) (by decide)) (g := (mkF m 36 #[.val (.ref r0), .val (.ref r1), .val (.int (0 : Int32)), .val (.int n), .val .null, .unset] [(.int n), (.int (0 : Int32)), (.ref r1)])) rfl (by rw [hml]; rfl) (argsL := [(.ref r1), (.int (0 : Int32)), (.int n)]) (rest := []) (lenOf pd_12 rfl) rfl (by show 2 * 0 + _ ≤ _; exact Nat.le_of_eq rfl) (hb hby d2_36) (fun _ _ => ⟨rfl, e14, (by decide : 0 + 2 ≤ _), (by decide : 0 + 12 ≤ _)⟩)
    dsimp only [Pt.U, Pt.locs, Pt.cells, Pt.slots] at X16 l16 y16 z16 st16 hQ16
    subst l16 y16 z16
    obtain ⟨y16, rfl, Nq16, K16, sz16, ky, cd, nb, vs, Vy, hcd⟩ := hQ16
    have N16 := Fr.app N0 Nq16
    have Sf_y16 : Safe Z own_EL s.vm h0 y16 := Safe.new sz16
    have g_y16 : n0 ≤ y16 := Nat.le_trans Z0 sz16
    have sz_y16 : h0.size ≤ y16 := Nat.le_trans Kp.1 sz16
    have ne_r0_y16 : r0 ≠ y16 := Nat.ne_of_lt (Nat.lt_of_lt_of_le Et.lt sz16)
    have ne_r1_y16 : r1 ≠ y16 := Nat.ne_of_lt (Nat.lt_of_lt_of_le Vc.lt sz16)
    have Od_16 := Od.keep K16 (all0)
    have Et_16 := Et.keep K16
    have Fv_16 := Fv.keep K16 nin0
    have Fc_16 := Fc.keep K16 nin0
    have Vc_16 := Vc.keep K16 nin0
    have Sf_16 := Safe.keep K16 all0 CA.1 Sf
    have Sf_y16_16 := Safe.keep K16 all0 CA.1 Sf_y16
    have CA_16 := CA.trans (CHr.keep K16 all0 CA.1)
    have Z_16 : n0 ≤ T16.heap.size := Nat.le_trans Z0 K16.1
    have Kp_16 : Keep h0 T16.heap [r0] := Kp.trans K16 (all0)
    have st17 : own_S p e below T16 (mkF m 45 #[.val (.ref r0), .val (.ref r1), .val (.int (0 : Int32)), .val (.int n), .val .null, .val (.ref y16)] [(.int n), (.ref y16), (.ref r0)]) (mkF m 39 #[.val (.ref r0), .val (.ref r1), .val (.int (0 : Int32)), .val (.int n), .val .null, .unset] [(.ref y16)]) := by
      intro target kt
      refine XS.astore X16.here hx rfl (hb hby d2_39) rfl rfl (l' := #[.val (.ref r0), .val (.ref r1), .val (.int (0 : Int32)), .val (.int n), .val .null, .val (.ref y16)]) rfl ?_
      refine XS.aloadN X16.here hx rfl (hb hby d2_41) rfl rfl ?_
      refine XS.aload X16.here hx rfl (hb hby d2_42) rfl rfl ?_
      refine XS.iloadN X16.here hx rfl (hb hby d2_44) rfl ?_
      exact kt
    obtain ⟨_, _, ⟨T18, L18, k18, n18⟩, -, X18, ⟨Lc18, hQ18, l18, y18, z18⟩, st18⟩ := Jvm.LawKit.callS X16 hx (y := (⟨"java/lang/StringUTF16", "coderFromArrayLen", "([BI)B"⟩ : MethodName)) hown (mvT hZ (own_w hw 97 rfl)) (mvT hZ (own_w hw 98 rfl)) (mvT hZ (own_w hw 92 rfl)) (mvT hZ (own_w hw 99 rfl)) (by decide) (backOf (W := 1) (rmCl l Z a0 hw [] y16 n ky cd nb vs c0 c1 c2 c3 T16.heap n0 Z_16 Vy hcd hN hn0) hZ (own_w hw 99 rfl) (own_w hw 92 rfl) (by decide) (by decide)) (g := (mkF m 45 #[.val (.ref r0), .val (.ref r1), .val (.int (0 : Int32)), .val (.int n), .val .null, .val (.ref y16)] [(.int n), (.ref y16), (.ref r0)])) rfl (by rw [hml]; rfl) (argsL := [(.ref y16), (.int n)]) (rest := [(.ref r0)]) (lenOf pd_14 rfl) rfl (by show 2 * 0 + _ ≤ _; exact Nat.le_of_eq rfl) (hb hby d2_45) (fun _ _ => ⟨rfl, rfl, (by decide : 2 + 0 ≤ _), (by decide : 12 + 0 ≤ _)⟩)
    dsimp only [Pt.U, Pt.locs, Pt.cells, Pt.slots] at X18 l18 y18 z18 st18 hQ18
    subst l18 y18 z18
    obtain ⟨rfl, Nq18, e18⟩ := hQ18
    have N18 := Fr.app N16 Nq18
    obtain ⟨T19, h19, X19, e19, W19, st19⟩ := putFN X18 hx hZ hown (own_w hw 25 rfl) Via.refl e18 Fc_16 Et_16 (Or.inr ⟨(own_w hw 21 rfl), rfl, hnm⟩) (own_w hw 6 rfl) (ty := .byte) (v' := (.int (nar .byte cd))) (by decide) rfl (fits_nar_byte _) (g := (mkF m 48 #[.val (.ref r0), .val (.ref r1), .val (.int (0 : Int32)), .val (.int n), .val .null, .val (.ref y16)] [(.int cd), (.ref r0)])) rfl rfl (hb hby d2_48)
    have F_coder_r0_19 : Fld Z h19 r0 "java/lang/String" "coder" "B" (.int (nar .byte cd)) := Fc_16.same W19
    have Od_19 := Od_16.wr W19 g_r0
    have Et_19 := Et_16.wr W19
    have Fv_19 := Fv_16.other W19 (Or.inr (slot_ne (Or.inr (own_w hw 20 rfl)) (Or.inr (own_w hw 21 rfl)) (by decide) (t := (.array .byte)) (t' := .byte) (by decide) (by decide)))
    have Vc_19 := Vc_16.other W19 (Ne.symm hne)
    have Sf_19 := Safe.wr W19 Sf_16 CA_16.1 Sf_16
    have Sf_y16_19 := Safe.wr W19 Sf_16 CA_16.1 Sf_y16_16
    have Vy_19 := Vy.other W19 (Ne.symm ne_r0_y16)
    have CA_19 := CA_16.trans (CHr.wr W19 Sf_16 CA_16.1)
    have Z_19 : n0 ≤ h19.size := Nat.le_trans Z_16 (Keep.of_wr W19).1
    have Kp_19 : Keep h0 h19 [r0] := Kp_16.wr W19 (Or.inl (List.mem_of_getElem? (i := 0) rfl))
    have N19 := Fr.snoc X19 N18 g_r0
    rw [own_nbc hcd] at F_coder_r0_19
    have st20 : own_S p e below T19 (mkF m 54 #[.val (.ref r0), .val (.ref r1), .val (.int (0 : Int32)), .val (.int n), .val .null, .val (.ref y16)] [(.ref y16), (.ref r0)]) (mkF m 51 #[.val (.ref r0), .val (.ref r1), .val (.int (0 : Int32)), .val (.int n), .val .null, .val (.ref y16)] []) := by
      intro target kt
      refine XS.aloadN X19.here hx rfl (hb hby d2_51) rfl rfl ?_
      refine XS.aload X19.here hx rfl (hb hby d2_52) rfl rfl ?_
      exact kt
    obtain ⟨T21, h21, X21, e21, W21, st21⟩ := putF X19 hx hZ hown (host := "") (Or.inl (own_w hw 24 rfl)) Via.refl e19 Fv_19 Et_19 (Or.inr ⟨(own_w hw 20 rfl), rfl, hnm⟩) (own_w hw 6 rfl) (ty := (.array .byte)) (by decide) rfl rfl (g := (mkF m 54 #[.val (.ref r0), .val (.ref r1), .val (.int (0 : Int32)), .val (.int n), .val .null, .val (.ref y16)] [(.ref y16), (.ref r0)])) rfl rfl (hb hby d2_54)
    have F_value_r0_21 : Fld Z h21 r0 "java/lang/String" "value" "[B" (.ref y16) := Fv_19.same W21
    have Od_21 := Od_19.wr W21 g_r0
    have Et_21 := Et_19.wr W21
    have Vc_21 := Vc_19.other W21 (Ne.symm hne)
    have Sf_21 := Safe.wr W21 Sf_19 CA_19.1 Sf_19
    have Sf_y16_21 := Safe.wr W21 Sf_19 CA_19.1 Sf_y16_19
    have Vy_21 := Vy_19.other W21 (Ne.symm ne_r0_y16)
    have F_coder_r0_21 := F_coder_r0_19.other W21 (Or.inr (slot_ne (Or.inr (own_w hw 21 rfl)) (Or.inr (own_w hw 20 rfl)) (by decide) (t := .byte) (t' := (.array .byte)) (by decide) (by decide)))
    have CA_21 := CA_19.trans (CHr.wr W21 Sf_19 CA_19.1)
    have Z_21 : n0 ≤ h21.size := Nat.le_trans Z_19 (Keep.of_wr W21).1
    have Kp_21 : Keep h0 h21 [r0] := Kp_19.wr W21 (Or.inl (List.mem_of_getElem? (i := 0) rfl))
    have N21 := Fr.snoc X21 N19 g_r0
    obtain ⟨fs, hr, hrun, hended, hRW⟩ := Jvm.Stand.leaveW (s := s) (vm₁ := s.vm) X21 ((State.WarmedH.refl s).since 0) (Nat.zero_le _) (v := none) (fun h => by rfl)
    have CE : CHr Z own_EL s.vm s.heap T21.vm T21.heap := by
      rw [hh, e21]
      exact CA_21.trans (CHv.at (vm0 := s.vm) (s := s) X21 hZ hEL CA_21.1)
    refine ⟨_, _, pre0 _ (st1 _ (st2 _ (st3 _ (st13 _ (st14 _ (st15 _ (st16 _ (st17 _ (st18 _ (st19 _ (st20 _ (st21 _ ?_)))))))))))), hrun, hended, _, _, rfl, ?_, CE, hRW.1, hRW.2.1, hRW.2.2.1, hRW.2.2.2.mono (by decide) (by decide)⟩
    · show Steps p.tables e below (T21.setTop (mkF m 57 #[.val (.ref r0), .val (.ref r1), .val (.int (0 : Int32)), .val (.int n), .val .null, .val (.ref y16)] [])) _
      exact X21.returnOut hx Bd.returns (hb hby d2_57) hr
    · show Q_rmI4 Z r0 r1 n cs fm kc c0 c1 c2 c3 h0 n0 _ T21.heap _
      rw [e21]
      exact ⟨rfl, N21, Kp_21, Et_21, y16, ky, cd, nb, vs, F_value_r0_21, F_coder_r0_21, Vy_21, hcd⟩
theorem d1_0 : decode jdk_42_method_3_code 0 = .ok (.aload_n 0, 1) := by decide +kernel
theorem d1_1 : decode jdk_42_method_3_code 1 = .ok (.aload_n 1, 1) := by decide +kernel
theorem d1_2 : decode jdk_42_method_3_code 2 = .ok (.iconst 0, 1) := by decide +kernel
theorem d1_3 : decode jdk_42_method_3_code 3 = .ok (.aload_n 1, 1) := by decide +kernel
theorem d1_4 : decode jdk_42_method_3_code 4 = .ok (.arraylength, 1) := by decide +kernel
theorem d1_5 : decode jdk_42_method_3_code 5 = .ok (.aconst_null, 1) := by decide +kernel
theorem d1_6 : decode jdk_42_method_3_code 6 = .ok (.invokespecial 27, 3) := by decide +kernel
theorem d1_9 : decode jdk_42_method_3_code 9 = .ok (.return_, 1) := by decide +kernel
theorem ef_rmI1 (m : MethodId) (x0 : Addr) (x1 : Addr) : entryFrame m #[(.ref x0), (.ref x1)] 2 = mkF m 0 #[.val (.ref x0), .val (.ref x1)] [] := by first | (simp [entryFrame, mkF, argsToLocals, Value.category]; done) | rfl
def Q_rmI1 (Z : State) (r0 : Addr) (r1 : Addr) (cs : Int32) (fm : Value) (kc : ClassId) (n : Int32) (c0 : Int32) (c1 : Int32) (c2 : Int32) (c3 : Int32) (h0 : Heap) (n0 : Nat) (v : Option Value) (h : Heap) (L : List Loc) : Prop := v = none ∧ Fr n0 L ∧ Keep h0 h [r0] ∧ Exa Z h r0 "java/lang/String" ∧ ∃ (y : Addr) (ky : ClassId) (cd nb : Int32) (vs : List Value), Fld Z h r0 "java/lang/String" "value" "[B" (.ref y) ∧ Fld Z h r0 "java/lang/String" "coder" "B" (.int cd) ∧ Arv Z h y ky .byte nb vs (.int (0 : Int32)) ∧ own_cd cd nb vs n c0 c1 c2 c3
set_option maxRecDepth 65536 in
set_option maxHeartbeats 40000000 in
theorem rmI1 (l : Launch) (Z : State) (a0 : Array Value) (hw : ∀ d ∈ tables_1, d.before a0 Z = true) (ws : List Jvm.Cond) (r0 : Addr) (r1 : Addr) (cs : Int32) (fm : Value) (kc : ClassId) (n : Int32) (c0 : Int32) (c1 : Int32) (c2 : Int32) (c3 : Int32) (h0 : Heap) (n0 : Nat) (Z0 : n0 ≤ h0.size) (SB : own_St Z cs fm) (Od : Old Z n0 h0) (Fv : Fld Z h0 r0 "java/lang/String" "value" "[B" .null) (Fc : Fld Z h0 r0 "java/lang/String" "coder" "B" (.int (0 : Int32))) (Et : Exa Z h0 r0 "java/lang/String") (g_r0 : n0 ≤ r0) (Vc : Arv Z h0 r1 kc .char n [(.int c0), (.int c1), (.int c2), (.int c3)] (.int (0 : Int32))) (hN : own_n n) (hZs : own_zs n c0 c1 c2 c3) (hch : own_chs c0 c1 c2 c3) (hne : r0 ≠ r1) :
    MetFree l (⟨"java/lang/String", "<init>", "([C)V"⟩ : MethodName) (head1 (Jvm.Cond.code (⟨"java/lang/String", "<init>", "([C)V"⟩ : MethodName) jdk_42_method_3_code 2 none :: ws) ({ frames := 5, cells := 4, slots := 12, locals := 74 } : Room)) (fun a U => a = #[(.ref r0), (.ref r1)] ∧ Z.Warmed39 U.vm ∧ U.heap = h0 ∧ CHv Z own_EL U.vm h0) (fun _ _ _ _ _ => True) (fun _ U o U' => ∃ v L, o = .returned v ∧ Q_rmI1 Z r0 r1 cs fm kc n c0 c1 c2 c3 h0 n0 v U'.heap L ∧ CHr Z own_EL U.vm U.heap U'.vm U'.heap ∧ ReturnedEndW U o U' L ({ frames := 5, cells := 4, slots := 12, locals := 74 } : Room).cells ({ frames := 5, cells := 4, slots := 12, locals := 74 } : Room).slots) := by
  refine MetFree.of_bodySF (plainFor_of_name pn_2) hisR ?_
  intro p e s m args below meth c s₁ Bd hml0 hP hK
  obtain ⟨rfl, hZ, hh, hCH⟩ := hP
  have hx := Bd.exec
  have hby := Bd.bytes
  have hml : c.maxLocals = 2 := hml0
  have hown : s.vm.findClass "java/lang/String" = some m.cls := findClass_of_methodNamed Bd.named
  have hnm := (name_of_methodNamed Bd.named Bd.method).1
  have X0 : Stand p l e ({ frames := 5, cells := 4, slots := 12, locals := 74 } : Room) s m #[(.ref r0), (.ref r1)] below meth c s₁ [] 0 0 := Stand.of_body Bd
  have e0 : s₁.heap = h0 := by rw [← hh, Bd.state]; rfl
  have N0 := Fr.nil n0
  have pre0 : ∀ t, Steps p.tables e below (s₁.setTop (mkF m 0 #[.val (.ref r0), .val (.ref r1)] [])) t → Steps p.tables e below (s₁.setTop (entryFrame m #[(.ref r0), (.ref r1)] 2)) t := fun t k => castTop (ef_rmI1 m r0 r1) k
  have CA := CHr.refl hCH
  have hEL := own_hEL hw
  have wS : ∀ a ∈ Bundle.stringAtoms, a.before a0 Z = true := fun d hd => hw d ((by decide +kernel : ∀ d ∈ Bundle.stringAtoms, d ∈ tables_1) d hd)
  have Kp : Keep h0 h0 [r0] := Keep.refl _ _
  have Sf := own_safe_null (EL := own_EL) hZ.alike Et Fv
  have st1 : own_S p e below s₁ (mkF m 4 #[.val (.ref r0), .val (.ref r1)] [(.ref r1), (.int (0 : Int32)), (.ref r1), (.ref r0)]) (mkF m 0 #[.val (.ref r0), .val (.ref r1)] []) := by
    intro target kt
    refine XS.aloadN X0.here hx rfl (hb hby d1_0) rfl rfl ?_
    refine XS.aloadN X0.here hx rfl (hb hby d1_1) rfl rfl ?_
    refine XS.iconst X0.here hx rfl (hb hby d1_2) ?_
    refine XS.aloadN X0.here hx rfl (hb hby d1_3) rfl rfl ?_
    exact kt
  obtain ⟨cl2, Ar2, qc2, Sz2, Mn2, Hs2, Gs2⟩ := id Vc
  have st2 : own_S p e below s₁ (mkF m 5 #[.val (.ref r0), .val (.ref r1)] [(.int n), (.int (0 : Int32)), (.ref r1), (.ref r0)]) (mkF m 4 #[.val (.ref r0), .val (.ref r1)] [(.ref r1), (.int (0 : Int32)), (.ref r1), (.ref r0)]) := fun target kt => X0.arraylength hx (cell := cl2) (by rw [e0]; exact Ar2.1) (State.isArrayOf_alike hZ.alike Ar2.2.1) (g := (mkF m 4 #[.val (.ref r0), .val (.ref r1)] [(.ref r1), (.int (0 : Int32)), (.ref r1), (.ref r0)])) rfl rfl (hb hby d1_4) _ (by rw [len_of Sz2 Mn2]; exact kt)
  have st3 : own_S p e below s₁ (mkF m 6 #[.val (.ref r0), .val (.ref r1)] [.null, (.int n), (.int (0 : Int32)), (.ref r1), (.ref r0)]) (mkF m 5 #[.val (.ref r0), .val (.ref r1)] [(.int n), (.int (0 : Int32)), (.ref r1), (.ref r0)]) := by
    intro target kt
    refine XS.aconstNull X0.here hx rfl (hb hby d1_5) ?_
    exact kt
  obtain ⟨_, _, ⟨T4, L4, k4, n4⟩, -, X4, hSi4, hge4, ⟨Lc4, hQ4, l4, y4, z4, CHn4⟩, st4⟩ := X0.specialBackS hx (y := (⟨"java/lang/String", "<init>", "([CIILjava/lang/Void;)V"⟩ : MethodName)) rfl hown (mvT hZ (own_w hw 11 rfl)) (mvT hZ (own_w hw 12 rfl)) (mvT hZ (own_w hw 14 rfl)) (by decide) (backOfSH (vm0 := s.vm) (s := s) (W := 0) (rmI4 l Z a0 hw [] r0 r1 n cs fm kc c0 c1 c2 c3 h0 n0 Z0 SB Od Fv Fc Et g_r0 Vc hN hZs hch hne) hZ (own_w hw 14 rfl) (own_w hw 7 rfl) (by decide) (by decide) hEL CA.1) (g := (mkF m 6 #[.val (.ref r0), .val (.ref r1)] [.null, (.int n), (.int (0 : Int32)), (.ref r1), (.ref r0)])) rfl (by rw [hml]; rfl) (Steps.refl _) (a := r0) (argsL := [(.ref r1), (.int (0 : Int32)), (.int n), .null]) (rest := []) (lenOf pd_1 rfl) rfl (by show 2 * 0 + _ ≤ _; exact Nat.le_of_eq rfl) (hb hby d1_6) (fun _ _ => ⟨rfl, e0, (by decide : 0 + 4 ≤ _), (by decide : 0 + 12 ≤ _)⟩)
  dsimp only [Pt.U, Pt.locs, Pt.cells, Pt.slots] at X4 l4 y4 z4 st4 hQ4 hSi4 hge4 CHn4
  subst l4 y4 z4
  have hS := foldS (s := s) (vm0 := s.vm) ((State.WarmedH.refl s).since 0) (Nat.zero_le _) hSi4 hge4
  have hZ : Z.Warmed39 (s.setVm T4.vm).vm := State.Warmed39.trans (t := s.setVm s.vm) hZ hSi4.1
  have hown : (s.setVm T4.vm).vm.findClass "java/lang/String" = some m.cls := by rw [show (s.setVm T4.vm).vm = T4.vm from rfl, hSi4.1.alike.findClass]; exact hown
  have X4 : Stand p l e ({ frames := 5, cells := 4, slots := 12, locals := 74 } : Room) (s.setVm T4.vm) m #[(.ref r0), (.ref r1)] below meth c T4 _ _ _ := X4
  obtain ⟨rfl, Nq4, K4, rest_⟩ := hQ4
  have N4 := Fr.app N0 Nq4
  have Od_4 := Od.keep K4 (allS g_r0 (all0))
  have Et_4 := Et.keep K4
  have Vc_4 := Vc.keep K4 (ninS (Ne.symm hne) nin0)
  have Sf_4 := CHr.safe CHn4 Et.lt Sf
  have CA_4 := CA.trans CHn4
  have Z_4 : n0 ≤ T4.heap.size := Nat.le_trans Z0 K4.1
  have Kp_4 : Keep h0 T4.heap [r0] := Kp.trans K4 (allS (Or.inl (List.mem_of_getElem? (i := 0) rfl)) (all0))
  have kz_4 : T4.heap.size ≤ T4.heap.size := Nat.le_refl _
  obtain ⟨fs, hr, hrun, hended, hRW⟩ := Jvm.Stand.leaveW (s := s) X4 hS kz_4 (v := none) (fun h => by rfl)
  have CE : CHr Z own_EL s.vm s.heap T4.vm T4.heap := by
    rw [hh]
    exact CA_4.trans (CHv.at (vm0 := T4.vm) (s := s) X4 hZ hEL CA_4.1)
  refine ⟨_, _, pre0 _ (st1 _ (st2 _ (st3 _ (st4.trans ?_)))), hrun, hended, _, _, rfl, ?_, CE, hRW.1, hRW.2.1, hRW.2.2.1, hRW.2.2.2.mono (by decide) (by decide)⟩
  · show Steps p.tables e below (T4.setTop (mkF m 9 #[.val (.ref r0), .val (.ref r1)] [])) _
    exact X4.returnOut hx Bd.returns (hb hby d1_9) hr
  · show Q_rmI1 Z r0 r1 cs fm kc n c0 c1 c2 c3 h0 n0 _ T4.heap _
    exact ⟨rfl, N4, Kp_4, rest_⟩
theorem d35_0 : decode jdk_41_method_11_code 0 = .ok (.iload_n 0, 1) := by decide +kernel
theorem d35_1 : decode jdk_41_method_11_code 1 = .ok (.ifCond .lt 8, 3) := by decide +kernel
theorem d35_4 : decode jdk_41_method_11_code 4 = .ok (.iload_n 0, 1) := by decide +kernel
theorem d35_5 : decode jdk_41_method_11_code 5 = .ok (.iload_n 1, 1) := by decide +kernel
theorem d35_6 : decode jdk_41_method_11_code 6 = .ok (.if_icmp .lt 10, 3) := by decide +kernel
theorem d35_16 : decode jdk_41_method_11_code 16 = .ok (.iload_n 0, 1) := by decide +kernel
theorem d35_17 : decode jdk_41_method_11_code 17 = .ok (.ireturn, 1) := by decide +kernel
theorem pn_3 : plainName "jdk/internal/util/Preconditions" = true := by first | (simp [plainName, overriddenIn]; done) | decide +kernel
theorem ef_rmPci (m : MethodId) (x0 : Int32) (x1 : Int32) (x2 : Value) (hx2 : x2.isRef = true) : entryFrame m #[(.int x0), (.int x1), x2] 3 = mkF m 0 #[.val (.int x0), .val (.int x1), .val x2] [] := by rcases ref_cases hx2 with rfl | ⟨_, rfl⟩ <;> first | (simp [entryFrame, mkF, argsToLocals, Value.category]; done) | rfl
def Q_rmPci (Z : State) (p0 : Int32) (p1 : Int32) (fm : Value) (h0 : Heap) (n0 : Nat) (v : Option Value) (h : Heap) (L : List Loc) : Prop := v = some (.int p0) ∧ Fr n0 L ∧ h = h0
set_option maxRecDepth 65536 in
set_option maxHeartbeats 40000000 in
theorem rmPci (l : Launch) (Z : State) (a0 : Array Value) (hw : ∀ d ∈ tables_1, d.before a0 Z = true) (ws : List Jvm.Cond) (p0 : Int32) (p1 : Int32) (fm : Value) (h0 : Heap) (n0 : Nat) (Z0 : n0 ≤ h0.size) (hfm : fm.isRef = true) (u1 : ¬ p0 < 0) (u2 : p0 < p1) :
    MetFree l (⟨"jdk/internal/util/Preconditions", "checkIndex", "(IILjava/util/function/BiFunction;)I"⟩ : MethodName) (head1 (Jvm.Cond.code (⟨"jdk/internal/util/Preconditions", "checkIndex", "(IILjava/util/function/BiFunction;)I"⟩ : MethodName) jdk_41_method_11_code 3 (some .int) :: ws) ({ frames := 0, cells := 0, slots := 0, locals := 0 } : Room)) (fun a U => a = #[(.int p0), (.int p1), fm] ∧ Z.Warmed39 U.vm ∧ U.heap = h0) (fun _ _ _ _ _ => True) (fun _ U o U' => ∃ v L, o = .returned v ∧ Q_rmPci Z p0 p1 fm h0 n0 v U'.heap L ∧ FrameEnd U o U' L ({ frames := 0, cells := 0, slots := 0, locals := 0 } : Room).cells ({ frames := 0, cells := 0, slots := 0, locals := 0 } : Room).slots) := by
  refine MetFree.of_bodySF (plainFor_of_name pn_3) hisR ?_
  intro p e s m args below meth c s₁ Bd hml0 hP hK
  obtain ⟨rfl, hZ, hh⟩ := hP
  have hx := Bd.exec
  have hby := Bd.bytes
  have hml : c.maxLocals = 3 := hml0
  have hown : s.vm.findClass "jdk/internal/util/Preconditions" = some m.cls := findClass_of_methodNamed Bd.named
  have hnm := (name_of_methodNamed Bd.named Bd.method).1
  have X0 : Stand p l e ({ frames := 0, cells := 0, slots := 0, locals := 0 } : Room) s m #[(.int p0), (.int p1), fm] below meth c s₁ [] 0 0 := Stand.of_body Bd
  have e0 : s₁.heap = h0 := by rw [← hh, Bd.state]; rfl
  have N0 := Fr.nil n0
  have pre0 : ∀ t, Steps p.tables e below (s₁.setTop (mkF m 0 #[.val (.int p0), .val (.int p1), .val fm] [])) t → Steps p.tables e below (s₁.setTop (entryFrame m #[(.int p0), (.int p1), fm] 3)) t := fun t k => castTop (ef_rmPci m p0 p1 fm hfm) k
  obtain ⟨fs, hr, hrun, hended, hW, hsame⟩ := X0.leave (v := some (.int p0)) (fun h => by rw [Bd.returns] at h; cases h)
  refine ⟨_, _, pre0 _ ?_, hrun, hended, _, _, rfl, ?_, ⟨_, rfl⟩, hW, hsame.mono (by decide) (by decide)⟩
  · refine XS.iloadN X0.here hx rfl (hb hby d35_0) rfl ?_
    refine XS.ifNo X0.here hx rfl (hb hby d35_1) rfl ((if0 _ _).trans (flt u1).1) ?_
    refine XS.iloadN X0.here hx rfl (hb hby d35_4) rfl ?_
    refine XS.iloadN X0.here hx rfl (hb hby d35_5) rfl ?_
    refine XS.icmpYes X0.here hx rfl (pc0 := 6) (pc' := 16) rfl (hb hby d35_6) rfl (tlt u2).1 (by decide) (by decide) ?_
    refine XS.iloadN X0.here hx rfl (hb hby d35_16) rfl ?_
    show Steps p.tables e below (s₁.setTop (mkF m 17 #[.val (.int p0), .val (.int p1), .val fm] [(.int p0)])) _
    exact retI X0 hx Bd.returns (hb hby d35_17) hr
  · show Q_rmPci Z p0 p1 fm h0 n0 _ s₁.heap _
    rw [e0]
    exact ⟨rfl, N0, rfl⟩
theorem d34_0 : decode jdk_42_method_155_code 0 = .ok (.iload_n 0, 1) := by decide +kernel
theorem d34_1 : decode jdk_42_method_155_code 1 = .ok (.iload_n 1, 1) := by decide +kernel
theorem d34_2 : decode jdk_42_method_155_code 2 = .ok (.getstatic 1053, 3) := by decide +kernel
theorem d34_5 : decode jdk_42_method_155_code 5 = .ok (.invokestatic 1059, 3) := by decide +kernel
theorem d34_8 : decode jdk_42_method_155_code 8 = .ok (.pop, 1) := by decide +kernel
theorem d34_9 : decode jdk_42_method_155_code 9 = .ok (.return_, 1) := by decide +kernel
theorem ef_rmSci (m : MethodId) (x0 : Int32) (x1 : Int32) : entryFrame m #[(.int x0), (.int x1)] 2 = mkF m 0 #[.val (.int x0), .val (.int x1)] [] := by first | (simp [entryFrame, mkF, argsToLocals, Value.category]; done) | rfl
def Q_rmSci (Z : State) (p0 : Int32) (p1 : Int32) (cs : Int32) (fm : Value) (h0 : Heap) (n0 : Nat) (v : Option Value) (h : Heap) (L : List Loc) : Prop := v = none ∧ Fr n0 L ∧ h = h0
set_option maxRecDepth 65536 in
set_option maxHeartbeats 40000000 in
theorem rmSci (l : Launch) (Z : State) (a0 : Array Value) (hw : ∀ d ∈ tables_1, d.before a0 Z = true) (ws : List Jvm.Cond) (p0 : Int32) (p1 : Int32) (cs : Int32) (fm : Value) (h0 : Heap) (n0 : Nat) (Z0 : n0 ≤ h0.size) (SB : own_St Z cs fm) (Od : Old Z n0 h0) (u1 : ¬ p0 < 0) (u2 : p0 < p1) :
    MetFree l (⟨"java/lang/String", "checkIndex", "(II)V"⟩ : MethodName) (head1 (Jvm.Cond.code (⟨"java/lang/String", "checkIndex", "(II)V"⟩ : MethodName) jdk_42_method_155_code 2 none :: ws) ({ frames := 1, cells := 0, slots := 0, locals := 14 } : Room)) (fun a U => a = #[(.int p0), (.int p1)] ∧ Z.Warmed39 U.vm ∧ U.heap = h0) (fun _ _ _ _ _ => True) (fun _ U o U' => ∃ v L, o = .returned v ∧ Q_rmSci Z p0 p1 cs fm h0 n0 v U'.heap L ∧ FrameEnd U o U' L ({ frames := 1, cells := 0, slots := 0, locals := 14 } : Room).cells ({ frames := 1, cells := 0, slots := 0, locals := 14 } : Room).slots) := by
  refine MetFree.of_bodySF (plainFor_of_name pn_2) hisR ?_
  intro p e s m args below meth c s₁ Bd hml0 hP hK
  obtain ⟨rfl, hZ, hh⟩ := hP
  have hx := Bd.exec
  have hby := Bd.bytes
  have hml : c.maxLocals = 2 := hml0
  have hown : s.vm.findClass "java/lang/String" = some m.cls := findClass_of_methodNamed Bd.named
  have hnm := (name_of_methodNamed Bd.named Bd.method).1
  have X0 : Stand p l e ({ frames := 1, cells := 0, slots := 0, locals := 14 } : Room) s m #[(.int p0), (.int p1)] below meth c s₁ [] 0 0 := Stand.of_body Bd
  have e0 : s₁.heap = h0 := by rw [← hh, Bd.state]; rfl
  have N0 := Fr.nil n0
  have pre0 : ∀ t, Steps p.tables e below (s₁.setTop (mkF m 0 #[.val (.int p0), .val (.int p1)] [])) t → Steps p.tables e below (s₁.setTop (entryFrame m #[(.int p0), (.int p1)] 2)) t := fun t k => castTop (ef_rmSci m p0 p1) k
  have st1 : own_S p e below s₁ (mkF m 2 #[.val (.int p0), .val (.int p1)] [(.int p1), (.int p0)]) (mkF m 0 #[.val (.int p0), .val (.int p1)] []) := by
    intro target kt
    refine XS.iloadN X0.here hx rfl (hb hby d34_0) rfl ?_
    refine XS.iloadN X0.here hx rfl (hb hby d34_1) rfl ?_
    exact kt
  obtain ⟨T2, X2, e2, st2⟩ := getS2 X0 hx hZ hown (host := "") (Or.inl (own_w hw 158 rfl)) Via.refl e0 (SB.2.2.1.ext Od.2) (g := (mkF m 2 #[.val (.int p0), .val (.int p1)] [(.int p1), (.int p0)])) rfl (hb hby d34_2)
  obtain ⟨_, _, ⟨T3, L3, k3, n3⟩, -, X3, ⟨Lc3, hQ3, l3, y3, z3⟩, st3⟩ := Jvm.LawKit.callS X2 hx (y := (⟨"jdk/internal/util/Preconditions", "checkIndex", "(IILjava/util/function/BiFunction;)I"⟩ : MethodName)) hown (mvT hZ (own_w hw 160 rfl)) (mvT hZ (own_w hw 161 rfl)) (mvT hZ (own_w hw 159 rfl)) (mvT hZ (own_w hw 162 rfl)) (by decide) (backOf (W := 0) (rmPci l Z a0 hw [] p0 p1 fm  h0 n0 Z0 SB.2.2.2.1 u1 u2) hZ (own_w hw 162 rfl) (own_w hw 159 rfl) (by decide) (by decide)) (g := (mkF m 5 #[.val (.int p0), .val (.int p1)] [fm, (.int p1), (.int p0)])) rfl (by rw [hml]; rfl) (argsL := [(.int p0), (.int p1), fm]) (rest := []) (lenOf pd_26 rfl) rfl (by show 2 * 0 + _ ≤ _; exact Nat.le_of_eq rfl) (hb hby d34_5) (fun _ _ => ⟨rfl, e2, (by decide : 0 + 0 ≤ _), (by decide : 0 + 0 ≤ _)⟩)
  dsimp only [Pt.U, Pt.locs, Pt.cells, Pt.slots] at X3 l3 y3 z3 st3 hQ3
  subst l3 y3 z3
  obtain ⟨rfl, Nq3, e3⟩ := hQ3
  have N3 := Fr.app N0 Nq3
  obtain ⟨fs, hr, hrun, hended, hW, hsame⟩ := X3.leave (v := none) (fun _ => rfl)
  refine ⟨_, _, pre0 _ (st1 _ (st2 _ (st3 _ ?_))), hrun, hended, _, _, rfl, ?_, ⟨_, rfl⟩, hW, hsame.mono (by decide) (by decide)⟩
  · refine XS.pop X3.here hx rfl (hb hby d34_8) rfl rfl ?_
    show Steps p.tables e below (T3.setTop (mkF m 9 #[.val (.int p0), .val (.int p1)] [])) _
    exact X3.returnOut hx Bd.returns (hb hby d34_9) hr
  · show Q_rmSci Z p0 p1 cs fm h0 n0 _ T3.heap _
    rw [e3]
    exact ⟨rfl, N3, rfl⟩
theorem d43_0 : decode jdk_43_method_2_code 0 = .ok (.iload_n 1, 1) := by decide +kernel
theorem d43_1 : decode jdk_43_method_2_code 1 = .ok (.aload_n 0, 1) := by decide +kernel
theorem d43_2 : decode jdk_43_method_2_code 2 = .ok (.arraylength, 1) := by decide +kernel
theorem d43_3 : decode jdk_43_method_2_code 3 = .ok (.invokestatic 9, 3) := by decide +kernel
theorem d43_6 : decode jdk_43_method_2_code 6 = .ok (.aload_n 0, 1) := by decide +kernel
theorem d43_7 : decode jdk_43_method_2_code 7 = .ok (.iload_n 1, 1) := by decide +kernel
theorem d43_8 : decode jdk_43_method_2_code 8 = .ok (.baload, 1) := by decide +kernel
theorem d43_9 : decode jdk_43_method_2_code 9 = .ok (.sipush 255, 3) := by decide +kernel
theorem d43_12 : decode jdk_43_method_2_code 12 = .ok (.iand, 1) := by decide +kernel
theorem d43_13 : decode jdk_43_method_2_code 13 = .ok (.i2c, 1) := by decide +kernel
theorem d43_14 : decode jdk_43_method_2_code 14 = .ok (.ireturn, 1) := by decide +kernel
theorem pn_4 : plainName "java/lang/StringLatin1" = true := by first | (simp [plainName, overriddenIn]; done) | decide +kernel
theorem ef_rmAcL (m : MethodId) (x0 : Addr) (x1 : Int32) : entryFrame m #[(.ref x0), (.int x1)] 2 = mkF m 0 #[.val (.ref x0), .val (.int x1)] [] := by first | (simp [entryFrame, mkF, argsToLocals, Value.category]; done) | rfl
def Q_rmAcL (Z : State) (r0 : Addr) (p1 : Int32) (cs : Int32) (fm : Value) (ky : ClassId) (n : Int32) (c0 : Int32) (c1 : Int32) (c2 : Int32) (c3 : Int32) (h0 : Heap) (n0 : Nat) (v : Option Value) (h : Heap) (L : List Loc) : Prop := v = some (.int (own_at p1 c0 c1 c2 c3)) ∧ Fr n0 L ∧ h = h0
set_option maxRecDepth 65536 in
set_option maxHeartbeats 40000000 in
theorem rmAcL (l : Launch) (Z : State) (a0 : Array Value) (hw : ∀ d ∈ tables_1, d.before a0 Z = true) (ws : List Jvm.Cond) (r0 : Addr) (p1 : Int32) (cs : Int32) (fm : Value) (ky : ClassId) (n : Int32) (c0 : Int32) (c1 : Int32) (c2 : Int32) (c3 : Int32) (h0 : Heap) (n0 : Nat) (Z0 : n0 ≤ h0.size) (SB : own_St Z cs fm) (Od : Old Z n0 h0) (Vy : Arv Z h0 r0 ky .byte n [(.int c0.toInt8.toInt32), (.int c1.toInt8.toInt32), (.int c2.toInt8.toInt32), (.int c3.toInt8.toInt32)] (.int (0 : Int32))) (hN : own_n n) (hch : own_chs c0 c1 c2 c3) (hi : own_n p1) (hl : p1 < n) (u0_ : c0.toInt < 256) (u1_ : c1.toInt < 256) (u2_ : c2.toInt < 256) (u3_ : c3.toInt < 256) :
    MetFree l (⟨"java/lang/StringLatin1", "charAt", "([BI)C"⟩ : MethodName) (head1 (Jvm.Cond.code (⟨"java/lang/StringLatin1", "charAt", "([BI)C"⟩ : MethodName) jdk_43_method_2_code 2 (some .char) :: ws) ({ frames := 2, cells := 0, slots := 0, locals := 27 } : Room)) (fun a U => a = #[(.ref r0), (.int p1)] ∧ Z.Warmed39 U.vm ∧ U.heap = h0) (fun _ _ _ _ _ => True) (fun _ U o U' => ∃ v L, o = .returned v ∧ Q_rmAcL Z r0 p1 cs fm ky n c0 c1 c2 c3 h0 n0 v U'.heap L ∧ FrameEnd U o U' L ({ frames := 2, cells := 0, slots := 0, locals := 27 } : Room).cells ({ frames := 2, cells := 0, slots := 0, locals := 27 } : Room).slots) := by
  refine MetFree.of_bodySF (plainFor_of_name pn_4) hisR ?_
  intro p e s m args below meth c s₁ Bd hml0 hP hK
  obtain ⟨rfl, hZ, hh⟩ := hP
  have hx := Bd.exec
  have hby := Bd.bytes
  have hml : c.maxLocals = 2 := hml0
  have hown : s.vm.findClass "java/lang/StringLatin1" = some m.cls := findClass_of_methodNamed Bd.named
  have hnm := (name_of_methodNamed Bd.named Bd.method).1
  have X0 : Stand p l e ({ frames := 2, cells := 0, slots := 0, locals := 27 } : Room) s m #[(.ref r0), (.int p1)] below meth c s₁ [] 0 0 := Stand.of_body Bd
  have e0 : s₁.heap = h0 := by rw [← hh, Bd.state]; rfl
  have N0 := Fr.nil n0
  have pre0 : ∀ t, Steps p.tables e below (s₁.setTop (mkF m 0 #[.val (.ref r0), .val (.int p1)] [])) t → Steps p.tables e below (s₁.setTop (entryFrame m #[(.ref r0), (.int p1)] 2)) t := fun t k => castTop (ef_rmAcL m r0 p1) k
  have st1 : own_S p e below s₁ (mkF m 2 #[.val (.ref r0), .val (.int p1)] [(.ref r0), (.int p1)]) (mkF m 0 #[.val (.ref r0), .val (.int p1)] []) := by
    intro target kt
    refine XS.iloadN X0.here hx rfl (hb hby d43_0) rfl ?_
    refine XS.aloadN X0.here hx rfl (hb hby d43_1) rfl rfl ?_
    exact kt
  obtain ⟨cl2, Ar2, qc2, Sz2, Mn2, Hs2, Gs2⟩ := id Vy
  have st2 : own_S p e below s₁ (mkF m 3 #[.val (.ref r0), .val (.int p1)] [(.int n), (.int p1)]) (mkF m 2 #[.val (.ref r0), .val (.int p1)] [(.ref r0), (.int p1)]) := fun target kt => X0.arraylength hx (cell := cl2) (by rw [e0]; exact Ar2.1) (State.isArrayOf_alike hZ.alike Ar2.2.1) (g := (mkF m 2 #[.val (.ref r0), .val (.int p1)] [(.ref r0), (.int p1)])) rfl rfl (hb hby d43_2) _ (by rw [len_of Sz2 Mn2]; exact kt)
  obtain ⟨_, _, ⟨T3, L3, k3, n3⟩, -, X3, ⟨Lc3, hQ3, l3, y3, z3⟩, st3⟩ := Jvm.LawKit.callS X0 hx (y := (⟨"java/lang/String", "checkIndex", "(II)V"⟩ : MethodName)) hown (mvT hZ (own_w hw 191 rfl)) (mvT hZ (own_w hw 156 rfl)) (mvT hZ (own_w hw 7 rfl)) (mvT hZ (own_w hw 157 rfl)) (by decide) (backOf (W := 0) (rmSci l Z a0 hw [] p1 n cs fm h0 n0 Z0 SB Od (own_nn hi) hl) hZ (own_w hw 157 rfl) (own_w hw 7 rfl) (by decide) (by decide)) (g := (mkF m 3 #[.val (.ref r0), .val (.int p1)] [(.int n), (.int p1)])) rfl (by rw [hml]; rfl) (argsL := [(.int p1), (.int n)]) (rest := []) (lenOf pd_25 rfl) rfl (by show 2 * 0 + _ ≤ _; exact Nat.le_of_eq rfl) (hb hby d43_3) (fun _ _ => ⟨rfl, e0, (by decide : 0 + 0 ≤ _), (by decide : 0 + 0 ≤ _)⟩)
  dsimp only [Pt.U, Pt.locs, Pt.cells, Pt.slots] at X3 l3 y3 z3 st3 hQ3
  subst l3 y3 z3
  obtain ⟨rfl, Nq3, e3⟩ := hQ3
  have N3 := Fr.app N0 Nq3
  have st4 : own_S p e below T3 (mkF m 8 #[.val (.ref r0), .val (.int p1)] [(.int p1), (.ref r0)]) (mkF m 6 #[.val (.ref r0), .val (.int p1)] []) := by
    intro target kt
    refine XS.aloadN X3.here hx rfl (hb hby d43_6) rfl rfl ?_
    refine XS.iloadN X3.here hx rfl (hb hby d43_7) rfl ?_
    exact kt
  obtain ⟨cl5, Ar5, qc5, Sz5, Mn5, Hs5, Gs5⟩ := id Vy
  have hin5 : ¬ (p1 < 0 ∨ cl5.slots.size ≤ (p1).toNatClampNeg) := inb_of Sz5 ⟨own_nn hi, hl⟩
  have hat5 : cl5.slots[(p1).toNatClampNeg]? = some (.int ((own_at p1 c0 c1 c2 c3).toInt8.toInt32)) := Hs5.at hin5 (own_gal hi hN hl)
  have st5 : own_S p e below T3 (mkF m 9 #[.val (.ref r0), .val (.int p1)] [(.int ((own_at p1 c0 c1 c2 c3).toInt8.toInt32))]) (mkF m 8 #[.val (.ref r0), .val (.int p1)] [(.int p1), (.ref r0)]) := fun target kt => X3.baloadBytes hx (j := p1) (v := (.int ((own_at p1 c0 c1 c2 c3).toInt8.toInt32))) (by rw [e3]; exact Ar5.1) (State.isArrayOf_alike hZ.alike Ar5.2.1) Ar5.2.2 hin5 hat5 (g := (mkF m 8 #[.val (.ref r0), .val (.int p1)] [(.int p1), (.ref r0)])) rfl rfl (hb hby d43_8) _ kt
  obtain ⟨fs, hr, hrun, hended, hW, hsame⟩ := X3.leave (v := some (.int (nar .char ((((own_at p1 c0 c1 c2 c3).toInt8.toInt32) &&& (255 : Int32)).toUInt32.toUInt16.toUInt32.toInt32)))) (fun h => by rw [Bd.returns] at h; cases h)
  refine ⟨_, _, pre0 _ (st1 _ (st2 _ (st3 _ (st4 _ (st5 _ ?_))))), hrun, hended, _, _, rfl, ?_, ⟨_, rfl⟩, hW, hsame.mono (by decide) (by decide)⟩
  · refine XS.sipush X3.here hx rfl (hb hby d43_9) ?_
    refine XS.iand X3.here hx rfl (hb hby d43_12) rfl ?_
    refine XS.i2c X3.here hx rfl (hb hby d43_13) rfl ?_
    show Steps p.tables e below (T3.setTop (mkF m 14 #[.val (.ref r0), .val (.int p1)] [(.int ((((own_at p1 c0 c1 c2 c3).toInt8.toInt32) &&& (255 : Int32)).toUInt32.toUInt16.toUInt32.toInt32))])) _
    exact retN X3 hx (t := .char) Bd.returns (by simp) (hb hby d43_14) hr
  · show Q_rmAcL Z r0 p1 cs fm ky n c0 c1 c2 c3 h0 n0 _ T3.heap _
    rw [e3]
    exact ⟨congrArg (fun z => some (Value.int z)) (own_l1c_eq (own_cha hch).1 (own_la u0_ u1_ u2_ u3_)), N3, rfl⟩
theorem d33_0 : decode jdk_52_method_6_code 0 = .ok (.aload_n 0, 1) := by decide +kernel
theorem d33_1 : decode jdk_52_method_6_code 1 = .ok (.arraylength, 1) := by decide +kernel
theorem d33_2 : decode jdk_52_method_6_code 2 = .ok (.iconst 1, 1) := by decide +kernel
theorem d33_3 : decode jdk_52_method_6_code 3 = .ok (.ishr, 1) := by decide +kernel
theorem d33_4 : decode jdk_52_method_6_code 4 = .ok (.ireturn, 1) := by decide +kernel
theorem ef_rmUl (m : MethodId) (x0 : Addr) : entryFrame m #[(.ref x0)] 1 = mkF m 0 #[.val (.ref x0)] [] := by first | (simp [entryFrame, mkF, argsToLocals, Value.category]; done) | rfl
def Q_rmUl (Z : State) (r0 : Addr) (cs : Int32) (fm : Value) (ky : ClassId) (n : Int32) (c0 : Int32) (c1 : Int32) (c2 : Int32) (c3 : Int32) (h0 : Heap) (n0 : Nat) (v : Option Value) (h : Heap) (L : List Loc) : Prop := v = some (.int n) ∧ Fr n0 L ∧ h = h0
set_option maxRecDepth 65536 in
set_option maxHeartbeats 40000000 in
theorem rmUl (l : Launch) (Z : State) (a0 : Array Value) (hw : ∀ d ∈ tables_1, d.before a0 Z = true) (ws : List Jvm.Cond) (r0 : Addr) (cs : Int32) (fm : Value) (ky : ClassId) (n : Int32) (c0 : Int32) (c1 : Int32) (c2 : Int32) (c3 : Int32) (h0 : Heap) (n0 : Nat) (Z0 : n0 ≤ h0.size) (SB : own_St Z cs fm) (Od : Old Z n0 h0) (Vy : Arv Z h0 r0 ky .byte (n + n) [(.int (own_lo c0)), (.int (own_hi c0)), (.int (own_lo c1)), (.int (own_hi c1)), (.int (own_lo c2)), (.int (own_hi c2)), (.int (own_lo c3)), (.int (own_hi c3))] (.int (0 : Int32))) (hN : own_n n) :
    MetFree l (⟨"java/lang/StringUTF16", "length", "([B)I"⟩ : MethodName) (head1 (Jvm.Cond.code (⟨"java/lang/StringUTF16", "length", "([B)I"⟩ : MethodName) jdk_52_method_6_code 1 (some .int) :: ws) ({ frames := 0, cells := 0, slots := 0, locals := 0 } : Room)) (fun a U => a = #[(.ref r0)] ∧ Z.Warmed39 U.vm ∧ U.heap = h0) (fun _ _ _ _ _ => True) (fun _ U o U' => ∃ v L, o = .returned v ∧ Q_rmUl Z r0 cs fm ky n c0 c1 c2 c3 h0 n0 v U'.heap L ∧ FrameEnd U o U' L ({ frames := 0, cells := 0, slots := 0, locals := 0 } : Room).cells ({ frames := 0, cells := 0, slots := 0, locals := 0 } : Room).slots) := by
  refine MetFree.of_bodySF (plainFor_of_name pn_1) hisR ?_
  intro p e s m args below meth c s₁ Bd hml0 hP hK
  obtain ⟨rfl, hZ, hh⟩ := hP
  have hx := Bd.exec
  have hby := Bd.bytes
  have hml : c.maxLocals = 1 := hml0
  have hown : s.vm.findClass "java/lang/StringUTF16" = some m.cls := findClass_of_methodNamed Bd.named
  have hnm := (name_of_methodNamed Bd.named Bd.method).1
  have X0 : Stand p l e ({ frames := 0, cells := 0, slots := 0, locals := 0 } : Room) s m #[(.ref r0)] below meth c s₁ [] 0 0 := Stand.of_body Bd
  have e0 : s₁.heap = h0 := by rw [← hh, Bd.state]; rfl
  have N0 := Fr.nil n0
  have pre0 : ∀ t, Steps p.tables e below (s₁.setTop (mkF m 0 #[.val (.ref r0)] [])) t → Steps p.tables e below (s₁.setTop (entryFrame m #[(.ref r0)] 1)) t := fun t k => castTop (ef_rmUl m r0) k
  have st1 : own_S p e below s₁ (mkF m 1 #[.val (.ref r0)] [(.ref r0)]) (mkF m 0 #[.val (.ref r0)] []) := by
    intro target kt
    refine XS.aloadN X0.here hx rfl (hb hby d33_0) rfl rfl ?_
    exact kt
  obtain ⟨cl2, Ar2, qc2, Sz2, Mn2, Hs2, Gs2⟩ := id Vy
  have st2 : own_S p e below s₁ (mkF m 2 #[.val (.ref r0)] [(.int (n + n))]) (mkF m 1 #[.val (.ref r0)] [(.ref r0)]) := fun target kt => X0.arraylength hx (cell := cl2) (by rw [e0]; exact Ar2.1) (State.isArrayOf_alike hZ.alike Ar2.2.1) (g := (mkF m 1 #[.val (.ref r0)] [(.ref r0)])) rfl rfl (hb hby d33_1) _ (by rw [len_of Sz2 Mn2]; exact kt)
  obtain ⟨fs, hr, hrun, hended, hW, hsame⟩ := X0.leave (v := some (.int ((n + n) >>> ((1 : Int32) &&& 31)))) (fun h => by rw [Bd.returns] at h; cases h)
  refine ⟨_, _, pre0 _ (st1 _ (st2 _ ?_)), hrun, hended, _, _, rfl, ?_, ⟨_, rfl⟩, hW, hsame.mono (by decide) (by decide)⟩
  · refine XS.iconst X0.here hx rfl (hb hby d33_2) ?_
    refine XS.ishr X0.here hx rfl (hb hby d33_3) rfl ?_
    show Steps p.tables e below (s₁.setTop (mkF m 4 #[.val (.ref r0)] [(.int ((n + n) >>> ((1 : Int32) &&& 31)))])) _
    exact retI X0 hx Bd.returns (hb hby d33_4) hr
  · show Q_rmUl Z r0 cs fm ky n c0 c1 c2 c3 h0 n0 _ s₁.heap _
    rw [e0]
    exact ⟨congrArg (fun z => some (Value.int z)) (own_sh1 hN), N0, rfl⟩
theorem d32_0 : decode jdk_52_method_91_code 0 = .ok (.iload_n 0, 1) := by decide +kernel
theorem d32_1 : decode jdk_52_method_91_code 1 = .ok (.aload_n 1, 1) := by decide +kernel
theorem d32_2 : decode jdk_52_method_91_code 2 = .ok (.invokestatic 48, 3) := by decide +kernel
theorem d32_5 : decode jdk_52_method_91_code 5 = .ok (.invokestatic 414, 3) := by decide +kernel
theorem d32_8 : decode jdk_52_method_91_code 8 = .ok (.return_, 1) := by decide +kernel
theorem ef_rmUci (m : MethodId) (x0 : Int32) (x1 : Addr) : entryFrame m #[(.int x0), (.ref x1)] 2 = mkF m 0 #[.val (.int x0), .val (.ref x1)] [] := by first | (simp [entryFrame, mkF, argsToLocals, Value.category]; done) | rfl
def Q_rmUci (Z : State) (p0 : Int32) (r1 : Addr) (cs : Int32) (fm : Value) (ky : ClassId) (n : Int32) (c0 : Int32) (c1 : Int32) (c2 : Int32) (c3 : Int32) (h0 : Heap) (n0 : Nat) (v : Option Value) (h : Heap) (L : List Loc) : Prop := v = none ∧ Fr n0 L ∧ h = h0
set_option maxRecDepth 65536 in
set_option maxHeartbeats 40000000 in
theorem rmUci (l : Launch) (Z : State) (a0 : Array Value) (hw : ∀ d ∈ tables_1, d.before a0 Z = true) (ws : List Jvm.Cond) (p0 : Int32) (r1 : Addr) (cs : Int32) (fm : Value) (ky : ClassId) (n : Int32) (c0 : Int32) (c1 : Int32) (c2 : Int32) (c3 : Int32) (h0 : Heap) (n0 : Nat) (Z0 : n0 ≤ h0.size) (SB : own_St Z cs fm) (Od : Old Z n0 h0) (Vy : Arv Z h0 r1 ky .byte (n + n) [(.int (own_lo c0)), (.int (own_hi c0)), (.int (own_lo c1)), (.int (own_hi c1)), (.int (own_lo c2)), (.int (own_hi c2)), (.int (own_lo c3)), (.int (own_hi c3))] (.int (0 : Int32))) (hN : own_n n) (hi : own_n p0) (hl : p0 < n) :
    MetFree l (⟨"java/lang/StringUTF16", "checkIndex", "(I[B)V"⟩ : MethodName) (head1 (Jvm.Cond.code (⟨"java/lang/StringUTF16", "checkIndex", "(I[B)V"⟩ : MethodName) jdk_52_method_91_code 2 none :: ws) ({ frames := 2, cells := 0, slots := 0, locals := 27 } : Room)) (fun a U => a = #[(.int p0), (.ref r1)] ∧ Z.Warmed39 U.vm ∧ U.heap = h0) (fun _ _ _ _ _ => True) (fun _ U o U' => ∃ v L, o = .returned v ∧ Q_rmUci Z p0 r1 cs fm ky n c0 c1 c2 c3 h0 n0 v U'.heap L ∧ FrameEnd U o U' L ({ frames := 2, cells := 0, slots := 0, locals := 27 } : Room).cells ({ frames := 2, cells := 0, slots := 0, locals := 27 } : Room).slots) := by
  refine MetFree.of_bodySF (plainFor_of_name pn_1) hisR ?_
  intro p e s m args below meth c s₁ Bd hml0 hP hK
  obtain ⟨rfl, hZ, hh⟩ := hP
  have hx := Bd.exec
  have hby := Bd.bytes
  have hml : c.maxLocals = 2 := hml0
  have hown : s.vm.findClass "java/lang/StringUTF16" = some m.cls := findClass_of_methodNamed Bd.named
  have hnm := (name_of_methodNamed Bd.named Bd.method).1
  have X0 : Stand p l e ({ frames := 2, cells := 0, slots := 0, locals := 27 } : Room) s m #[(.int p0), (.ref r1)] below meth c s₁ [] 0 0 := Stand.of_body Bd
  have e0 : s₁.heap = h0 := by rw [← hh, Bd.state]; rfl
  have N0 := Fr.nil n0
  have pre0 : ∀ t, Steps p.tables e below (s₁.setTop (mkF m 0 #[.val (.int p0), .val (.ref r1)] [])) t → Steps p.tables e below (s₁.setTop (entryFrame m #[(.int p0), (.ref r1)] 2)) t := fun t k => castTop (ef_rmUci m p0 r1) k
  have st1 : own_S p e below s₁ (mkF m 2 #[.val (.int p0), .val (.ref r1)] [(.ref r1), (.int p0)]) (mkF m 0 #[.val (.int p0), .val (.ref r1)] []) := by
    intro target kt
    refine XS.iloadN X0.here hx rfl (hb hby d32_0) rfl ?_
    refine XS.aloadN X0.here hx rfl (hb hby d32_1) rfl rfl ?_
    exact kt
  obtain ⟨_, _, ⟨T2, L2, k2, n2⟩, -, X2, ⟨Lc2, hQ2, l2, y2, z2⟩, st2⟩ := Jvm.LawKit.callS X0 hx (y := (⟨"java/lang/StringUTF16", "length", "([B)I"⟩ : MethodName)) hown (mvT hZ (own_w hw 152 rfl)) (mvT hZ (own_w hw 153 rfl)) (mvT hZ (own_w hw 92 rfl)) (mvT hZ (own_w hw 154 rfl)) (by decide) (backOf (W := 1) (rmUl l Z a0 hw [] r1 cs fm ky n c0 c1 c2 c3 h0 n0 Z0 SB Od Vy hN) hZ (own_w hw 154 rfl) (own_w hw 92 rfl) (by decide) (by decide)) (g := (mkF m 2 #[.val (.int p0), .val (.ref r1)] [(.ref r1), (.int p0)])) rfl (by rw [hml]; rfl) (argsL := [(.ref r1)]) (rest := [(.int p0)]) (lenOf pd_24 rfl) rfl (by show 2 * 0 + _ ≤ _; exact Nat.le_of_eq rfl) (hb hby d32_2) (fun _ _ => ⟨rfl, e0, (by decide : 0 + 0 ≤ _), (by decide : 0 + 0 ≤ _)⟩)
  dsimp only [Pt.U, Pt.locs, Pt.cells, Pt.slots] at X2 l2 y2 z2 st2 hQ2
  subst l2 y2 z2
  obtain ⟨rfl, Nq2, e2⟩ := hQ2
  have N2 := Fr.app N0 Nq2
  obtain ⟨_, _, ⟨T3, L3, k3, n3⟩, -, X3, ⟨Lc3, hQ3, l3, y3, z3⟩, st3⟩ := Jvm.LawKit.callS X2 hx (y := (⟨"java/lang/String", "checkIndex", "(II)V"⟩ : MethodName)) hown (mvT hZ (own_w hw 155 rfl)) (mvT hZ (own_w hw 156 rfl)) (mvT hZ (own_w hw 7 rfl)) (mvT hZ (own_w hw 157 rfl)) (by decide) (backOf (W := 0) (rmSci l Z a0 hw [] p0 n cs fm h0 n0 Z0 SB Od (own_nn hi) hl) hZ (own_w hw 157 rfl) (own_w hw 7 rfl) (by decide) (by decide)) (g := (mkF m 5 #[.val (.int p0), .val (.ref r1)] [(.int n), (.int p0)])) rfl (by rw [hml]; rfl) (argsL := [(.int p0), (.int n)]) (rest := []) (lenOf pd_25 rfl) rfl (by show 2 * 0 + _ ≤ _; exact Nat.le_of_eq rfl) (hb hby d32_5) (fun _ _ => ⟨rfl, e2, (by decide : 0 + 0 ≤ _), (by decide : 0 + 0 ≤ _)⟩)
  dsimp only [Pt.U, Pt.locs, Pt.cells, Pt.slots] at X3 l3 y3 z3 st3 hQ3
  subst l3 y3 z3
  obtain ⟨rfl, Nq3, e3⟩ := hQ3
  have N3 := Fr.app N2 Nq3
  obtain ⟨fs, hr, hrun, hended, hW, hsame⟩ := X3.leave (v := none) (fun _ => rfl)
  refine ⟨_, _, pre0 _ (st1 _ (st2 _ (st3 _ ?_))), hrun, hended, _, _, rfl, ?_, ⟨_, rfl⟩, hW, hsame.mono (by decide) (by decide)⟩
  · show Steps p.tables e below (T3.setTop (mkF m 8 #[.val (.int p0), .val (.ref r1)] [])) _
    exact X3.returnOut hx Bd.returns (hb hby d32_8) hr
  · show Q_rmUci Z p0 r1 cs fm ky n c0 c1 c2 c3 h0 n0 _ T3.heap _
    rw [e3]
    exact ⟨rfl, N3, rfl⟩
theorem d31_0 : decode jdk_52_method_83_code 0 = .ok (.iload_n 1, 1) := by decide +kernel
theorem d31_1 : decode jdk_52_method_83_code 1 = .ok (.aload_n 0, 1) := by decide +kernel
theorem d31_2 : decode jdk_52_method_83_code 2 = .ok (.invokestatic 67, 3) := by decide +kernel
theorem d31_5 : decode jdk_52_method_83_code 5 = .ok (.aload_n 0, 1) := by decide +kernel
theorem d31_6 : decode jdk_52_method_83_code 6 = .ok (.iload_n 1, 1) := by decide +kernel
theorem d31_7 : decode jdk_52_method_83_code 7 = .ok (.invokestatic 71, 3) := by decide +kernel
theorem d31_10 : decode jdk_52_method_83_code 10 = .ok (.ireturn, 1) := by decide +kernel
theorem ef_rmAcU (m : MethodId) (x0 : Addr) (x1 : Int32) : entryFrame m #[(.ref x0), (.int x1)] 2 = mkF m 0 #[.val (.ref x0), .val (.int x1)] [] := by first | (simp [entryFrame, mkF, argsToLocals, Value.category]; done) | rfl
def Q_rmAcU (Z : State) (r0 : Addr) (p1 : Int32) (cs : Int32) (fm : Value) (ky : ClassId) (n : Int32) (c0 : Int32) (c1 : Int32) (c2 : Int32) (c3 : Int32) (h0 : Heap) (n0 : Nat) (v : Option Value) (h : Heap) (L : List Loc) : Prop := v = some (.int (own_at p1 c0 c1 c2 c3)) ∧ Fr n0 L ∧ h = h0
set_option maxRecDepth 65536 in
set_option maxHeartbeats 40000000 in
theorem rmAcU (l : Launch) (Z : State) (a0 : Array Value) (hw : ∀ d ∈ tables_1, d.before a0 Z = true) (ws : List Jvm.Cond) (r0 : Addr) (p1 : Int32) (cs : Int32) (fm : Value) (ky : ClassId) (n : Int32) (c0 : Int32) (c1 : Int32) (c2 : Int32) (c3 : Int32) (h0 : Heap) (n0 : Nat) (Z0 : n0 ≤ h0.size) (SB : own_St Z cs fm) (Od : Old Z n0 h0) (Vy : Arv Z h0 r0 ky .byte (n + n) [(.int (own_lo c0)), (.int (own_hi c0)), (.int (own_lo c1)), (.int (own_hi c1)), (.int (own_lo c2)), (.int (own_hi c2)), (.int (own_lo c3)), (.int (own_hi c3))] (.int (0 : Int32))) (hN : own_n n) (hch : own_chs c0 c1 c2 c3) (hi : own_n p1) (hl : p1 < n) :
    MetFree l (⟨"java/lang/StringUTF16", "charAt", "([BI)C"⟩ : MethodName) (head1 (Jvm.Cond.code (⟨"java/lang/StringUTF16", "charAt", "([BI)C"⟩ : MethodName) jdk_52_method_83_code 2 (some .char) :: ws) ({ frames := 3, cells := 0, slots := 0, locals := 40 } : Room)) (fun a U => a = #[(.ref r0), (.int p1)] ∧ Z.Warmed39 U.vm ∧ U.heap = h0) (fun _ _ _ _ _ => True) (fun _ U o U' => ∃ v L, o = .returned v ∧ Q_rmAcU Z r0 p1 cs fm ky n c0 c1 c2 c3 h0 n0 v U'.heap L ∧ FrameEnd U o U' L ({ frames := 3, cells := 0, slots := 0, locals := 40 } : Room).cells ({ frames := 3, cells := 0, slots := 0, locals := 40 } : Room).slots) := by
  refine MetFree.of_bodySF (plainFor_of_name pn_1) hisR ?_
  intro p e s m args below meth c s₁ Bd hml0 hP hK
  obtain ⟨rfl, hZ, hh⟩ := hP
  have hx := Bd.exec
  have hby := Bd.bytes
  have hml : c.maxLocals = 2 := hml0
  have hown : s.vm.findClass "java/lang/StringUTF16" = some m.cls := findClass_of_methodNamed Bd.named
  have hnm := (name_of_methodNamed Bd.named Bd.method).1
  have X0 : Stand p l e ({ frames := 3, cells := 0, slots := 0, locals := 40 } : Room) s m #[(.ref r0), (.int p1)] below meth c s₁ [] 0 0 := Stand.of_body Bd
  have e0 : s₁.heap = h0 := by rw [← hh, Bd.state]; rfl
  have N0 := Fr.nil n0
  have pre0 : ∀ t, Steps p.tables e below (s₁.setTop (mkF m 0 #[.val (.ref r0), .val (.int p1)] [])) t → Steps p.tables e below (s₁.setTop (entryFrame m #[(.ref r0), (.int p1)] 2)) t := fun t k => castTop (ef_rmAcU m r0 p1) k
  have st1 : own_S p e below s₁ (mkF m 2 #[.val (.ref r0), .val (.int p1)] [(.ref r0), (.int p1)]) (mkF m 0 #[.val (.ref r0), .val (.int p1)] []) := by
    intro target kt
    refine XS.iloadN X0.here hx rfl (hb hby d31_0) rfl ?_
    refine XS.aloadN X0.here hx rfl (hb hby d31_1) rfl rfl ?_
    exact kt
  obtain ⟨_, _, ⟨T2, L2, k2, n2⟩, -, X2, ⟨Lc2, hQ2, l2, y2, z2⟩, st2⟩ := Jvm.LawKit.callS X0 hx (y := (⟨"java/lang/StringUTF16", "checkIndex", "(I[B)V"⟩ : MethodName)) hown (mvT hZ (own_w hw 149 rfl)) (mvT hZ (own_w hw 150 rfl)) (mvT hZ (own_w hw 92 rfl)) (mvT hZ (own_w hw 151 rfl)) (by decide) (backOf (W := 0) (rmUci l Z a0 hw [] p1 r0 cs fm ky n c0 c1 c2 c3 h0 n0 Z0 SB Od Vy hN hi hl) hZ (own_w hw 151 rfl) (own_w hw 92 rfl) (by decide) (by decide)) (g := (mkF m 2 #[.val (.ref r0), .val (.int p1)] [(.ref r0), (.int p1)])) rfl (by rw [hml]; rfl) (argsL := [(.int p1), (.ref r0)]) (rest := []) (lenOf pd_23 rfl) rfl (by show 2 * 0 + _ ≤ _; exact Nat.le_of_eq rfl) (hb hby d31_2) (fun _ _ => ⟨rfl, e0, (by decide : 0 + 0 ≤ _), (by decide : 0 + 0 ≤ _)⟩)
  dsimp only [Pt.U, Pt.locs, Pt.cells, Pt.slots] at X2 l2 y2 z2 st2 hQ2
  subst l2 y2 z2
  obtain ⟨rfl, Nq2, e2⟩ := hQ2
  have N2 := Fr.app N0 Nq2
  have st3 : own_S p e below T2 (mkF m 7 #[.val (.ref r0), .val (.int p1)] [(.int p1), (.ref r0)]) (mkF m 5 #[.val (.ref r0), .val (.int p1)] []) := by
    intro target kt
    refine XS.aloadN X2.here hx rfl (hb hby d31_5) rfl rfl ?_
    refine XS.iloadN X2.here hx rfl (hb hby d31_6) rfl ?_
    exact kt
  obtain ⟨_, _, ⟨T4, L4, k4, n4⟩, -, X4, ⟨Lc4, hQ4, l4, y4, z4⟩, st4⟩ := Jvm.LawKit.callS X2 hx (y := (⟨"java/lang/StringUTF16", "getChar", "([BI)C"⟩ : MethodName)) hown (mvT hZ (own_w hw 119 rfl)) (mvT hZ (own_w hw 120 rfl)) (mvT hZ (own_w hw 92 rfl)) (mvT hZ (own_w hw 121 rfl)) (by decide) (backOf (W := 0) (rmGC l Z a0 hw [] r0 p1 cs fm ky n c0 c1 c2 c3 h0 n0 Z0 SB Od Vy hN hch hi hl) hZ (own_w hw 121 rfl) (own_w hw 92 rfl) (by decide) (by decide)) (g := (mkF m 7 #[.val (.ref r0), .val (.int p1)] [(.int p1), (.ref r0)])) rfl (by rw [hml]; rfl) (argsL := [(.ref r0), (.int p1)]) (rest := []) (lenOf pd_18 rfl) rfl (by show 2 * 0 + _ ≤ _; exact Nat.le_of_eq rfl) (hb hby d31_7) (fun _ _ => ⟨rfl, e2, (by decide : 0 + 0 ≤ _), (by decide : 0 + 0 ≤ _)⟩)
  dsimp only [Pt.U, Pt.locs, Pt.cells, Pt.slots] at X4 l4 y4 z4 st4 hQ4
  subst l4 y4 z4
  obtain ⟨rfl, Nq4, e4⟩ := hQ4
  have N4 := Fr.app N2 Nq4
  obtain ⟨fs, hr, hrun, hended, hW, hsame⟩ := X4.leave (v := some (.int (nar .char (own_at p1 c0 c1 c2 c3)))) (fun h => by rw [Bd.returns] at h; cases h)
  refine ⟨_, _, pre0 _ (st1 _ (st2 _ (st3 _ (st4 _ ?_)))), hrun, hended, _, _, rfl, ?_, ⟨_, rfl⟩, hW, hsame.mono (by decide) (by decide)⟩
  · show Steps p.tables e below (T4.setTop (mkF m 10 #[.val (.ref r0), .val (.int p1)] [(.int (own_at p1 c0 c1 c2 c3))])) _
    exact retN X4 hx (t := .char) Bd.returns (by simp) (hb hby d31_10) hr
  · show Q_rmAcU Z r0 p1 cs fm ky n c0 c1 c2 c3 h0 n0 _ T4.heap _
    rw [e4]
    exact ⟨congrArg (fun z => some (Value.int z)) (own_ncI (own_cha hch)), N4, rfl⟩
theorem d8_0 : decode jdk_42_method_154_code 0 = .ok (.getstatic 38, 3) := by decide +kernel
theorem d8_3 : decode jdk_42_method_154_code 3 = .ok (.ifCond .eq 14, 3) := by decide +kernel
theorem d8_6 : decode jdk_42_method_154_code 6 = .ok (.aload_n 0, 1) := by decide +kernel
theorem d8_7 : decode jdk_42_method_154_code 7 = .ok (.getfield 15, 3) := by decide +kernel
theorem d8_10 : decode jdk_42_method_154_code 10 = .ok (.ifCond .ne 7, 3) := by decide +kernel
theorem d8_13 : decode jdk_42_method_154_code 13 = .ok (.iconst 1, 1) := by decide +kernel
theorem d8_14 : decode jdk_42_method_154_code 14 = .ok (.goto 4, 3) := by decide +kernel
theorem d8_17 : decode jdk_42_method_154_code 17 = .ok (.iconst 0, 1) := by decide +kernel
theorem d8_18 : decode jdk_42_method_154_code 18 = .ok (.ireturn, 1) := by decide +kernel
theorem ef_rmLat_L4 (m : MethodId) (x0 : Addr) : entryFrame m #[(.ref x0)] 1 = mkF m 0 #[.val (.ref x0)] [] := by first | (simp [entryFrame, mkF, argsToLocals, Value.category]; done) | rfl
def Q_rmLat_L4 (Z : State) (r0 : Addr) (cs : Int32) (fm : Value) (h0 : Heap) (n0 : Nat) (v : Option Value) (h : Heap) (L : List Loc) : Prop := v = some (.int (1 : Int32)) ∧ Fr n0 L ∧ h = h0
set_option maxRecDepth 65536 in
set_option maxHeartbeats 40000000 in
theorem rmLat_L4 (l : Launch) (Z : State) (a0 : Array Value) (hw : ∀ d ∈ tables_1, d.before a0 Z = true) (ws : List Jvm.Cond) (r0 : Addr) (cs : Int32) (fm : Value) (h0 : Heap) (n0 : Nat) (Z0 : n0 ≤ h0.size) (SB : own_St Z cs fm) (Od : Old Z n0 h0) (Fc : Fld Z h0 r0 "java/lang/String" "coder" "B" (.int (0 : Int32))) :
    MetFree l (⟨"java/lang/String", "isLatin1", "()Z"⟩ : MethodName) (head1 (Jvm.Cond.code (⟨"java/lang/String", "isLatin1", "()Z"⟩ : MethodName) jdk_42_method_154_code 1 (some .boolean) :: ws) ({ frames := 0, cells := 0, slots := 0, locals := 0 } : Room)) (fun a U => a = #[(.ref r0)] ∧ Z.Warmed39 U.vm ∧ U.heap = h0) (fun _ _ _ _ _ => True) (fun _ U o U' => ∃ v L, o = .returned v ∧ Q_rmLat_L4 Z r0 cs fm h0 n0 v U'.heap L ∧ FrameEnd U o U' L ({ frames := 0, cells := 0, slots := 0, locals := 0 } : Room).cells ({ frames := 0, cells := 0, slots := 0, locals := 0 } : Room).slots) := by
  refine MetFree.of_bodySF (plainFor_of_name pn_2) hisR ?_
  intro p e s m args below meth c s₁ Bd hml0 hP hK
  obtain ⟨rfl, hZ, hh⟩ := hP
  have hx := Bd.exec
  have hby := Bd.bytes
  have hml : c.maxLocals = 1 := hml0
  have hown : s.vm.findClass "java/lang/String" = some m.cls := findClass_of_methodNamed Bd.named
  have hnm := (name_of_methodNamed Bd.named Bd.method).1
  have X0 : Stand p l e ({ frames := 0, cells := 0, slots := 0, locals := 0 } : Room) s m #[(.ref r0)] below meth c s₁ [] 0 0 := Stand.of_body Bd
  have e0 : s₁.heap = h0 := by rw [← hh, Bd.state]; rfl
  have N0 := Fr.nil n0
  have pre0 : ∀ t, Steps p.tables e below (s₁.setTop (mkF m 0 #[.val (.ref r0)] [])) t → Steps p.tables e below (s₁.setTop (entryFrame m #[(.ref r0)] 1)) t := fun t k => castTop (ef_rmLat_L4 m r0) k
  obtain ⟨T1, X1, e1, st1⟩ := getS2 X0 hx hZ hown (host := "") (Or.inl (own_w hw 61 rfl)) Via.refl e0 (SB.1.ext Od.2) (g := (mkF m 0 #[.val (.ref r0)] [])) rfl (hb hby d8_0)
  have st2 : own_S p e below T1 (mkF m 7 #[.val (.ref r0)] [(.ref r0)]) (mkF m 3 #[.val (.ref r0)] [(.int cs)]) := by
    intro target kt
    refine XS.ifNo X1.here hx rfl (hb hby d8_3) rfl ((if0 _ _).trans (feq SB.2.1).1) ?_
    refine XS.aloadN X1.here hx rfl (hb hby d8_6) rfl rfl ?_
    exact kt
  obtain ⟨T3, X3, e3, st3⟩ := getF X1 hx hZ hown (host := "") (Or.inl (own_w hw 25 rfl)) Via.refl e1 Fc (g := (mkF m 7 #[.val (.ref r0)] [(.ref r0)])) rfl rfl (hb hby d8_7)
  obtain ⟨fs, hr, hrun, hended, hW, hsame⟩ := X3.leave (v := some (.int (1 : Int32))) (fun h => by rw [Bd.returns] at h; cases h)
  refine ⟨_, _, pre0 _ (st1 _ (st2 _ (st3 _ ?_))), hrun, hended, _, _, rfl, ?_, ⟨_, rfl⟩, hW, hsame.mono (by decide) (by decide)⟩
  · refine XS.ifNo X3.here hx rfl (hb hby d8_10) rfl ((if0 _ _).trans (teq (rfl : (0 : Int32) = (0 : Int32))).2) ?_
    refine XS.iconst X3.here hx rfl (hb hby d8_13) ?_
    refine XS.goto X3.here hx rfl (pc0 := 14) (pc' := 18) rfl (hb hby d8_14) (by decide) (by decide) ?_
    show Steps p.tables e below (T3.setTop (mkF m 18 #[.val (.ref r0)] [(.int (1 : Int32))])) _
    exact retN X3 hx (t := .boolean) Bd.returns (by simp) (hb hby d8_18) hr
  · show Q_rmLat_L4 Z r0 cs fm h0 n0 _ T3.heap _
    rw [e3]
    exact ⟨rfl, N0, rfl⟩
theorem ef_rmLat_U4 (m : MethodId) (x0 : Addr) : entryFrame m #[(.ref x0)] 1 = mkF m 0 #[.val (.ref x0)] [] := by first | (simp [entryFrame, mkF, argsToLocals, Value.category]; done) | rfl
def Q_rmLat_U4 (Z : State) (r0 : Addr) (cs : Int32) (fm : Value) (h0 : Heap) (n0 : Nat) (v : Option Value) (h : Heap) (L : List Loc) : Prop := v = some (.int (0 : Int32)) ∧ Fr n0 L ∧ h = h0
set_option maxRecDepth 65536 in
set_option maxHeartbeats 40000000 in
theorem rmLat_U4 (l : Launch) (Z : State) (a0 : Array Value) (hw : ∀ d ∈ tables_1, d.before a0 Z = true) (ws : List Jvm.Cond) (r0 : Addr) (cs : Int32) (fm : Value) (h0 : Heap) (n0 : Nat) (Z0 : n0 ≤ h0.size) (SB : own_St Z cs fm) (Od : Old Z n0 h0) (Fc : Fld Z h0 r0 "java/lang/String" "coder" "B" (.int (1 : Int32))) :
    MetFree l (⟨"java/lang/String", "isLatin1", "()Z"⟩ : MethodName) (head1 (Jvm.Cond.code (⟨"java/lang/String", "isLatin1", "()Z"⟩ : MethodName) jdk_42_method_154_code 1 (some .boolean) :: ws) ({ frames := 0, cells := 0, slots := 0, locals := 0 } : Room)) (fun a U => a = #[(.ref r0)] ∧ Z.Warmed39 U.vm ∧ U.heap = h0) (fun _ _ _ _ _ => True) (fun _ U o U' => ∃ v L, o = .returned v ∧ Q_rmLat_U4 Z r0 cs fm h0 n0 v U'.heap L ∧ FrameEnd U o U' L ({ frames := 0, cells := 0, slots := 0, locals := 0 } : Room).cells ({ frames := 0, cells := 0, slots := 0, locals := 0 } : Room).slots) := by
  refine MetFree.of_bodySF (plainFor_of_name pn_2) hisR ?_
  intro p e s m args below meth c s₁ Bd hml0 hP hK
  obtain ⟨rfl, hZ, hh⟩ := hP
  have hx := Bd.exec
  have hby := Bd.bytes
  have hml : c.maxLocals = 1 := hml0
  have hown : s.vm.findClass "java/lang/String" = some m.cls := findClass_of_methodNamed Bd.named
  have hnm := (name_of_methodNamed Bd.named Bd.method).1
  have X0 : Stand p l e ({ frames := 0, cells := 0, slots := 0, locals := 0 } : Room) s m #[(.ref r0)] below meth c s₁ [] 0 0 := Stand.of_body Bd
  have e0 : s₁.heap = h0 := by rw [← hh, Bd.state]; rfl
  have N0 := Fr.nil n0
  have pre0 : ∀ t, Steps p.tables e below (s₁.setTop (mkF m 0 #[.val (.ref r0)] [])) t → Steps p.tables e below (s₁.setTop (entryFrame m #[(.ref r0)] 1)) t := fun t k => castTop (ef_rmLat_U4 m r0) k
  obtain ⟨T1, X1, e1, st1⟩ := getS2 X0 hx hZ hown (host := "") (Or.inl (own_w hw 61 rfl)) Via.refl e0 (SB.1.ext Od.2) (g := (mkF m 0 #[.val (.ref r0)] [])) rfl (hb hby d8_0)
  have st2 : own_S p e below T1 (mkF m 7 #[.val (.ref r0)] [(.ref r0)]) (mkF m 3 #[.val (.ref r0)] [(.int cs)]) := by
    intro target kt
    refine XS.ifNo X1.here hx rfl (hb hby d8_3) rfl ((if0 _ _).trans (feq SB.2.1).1) ?_
    refine XS.aloadN X1.here hx rfl (hb hby d8_6) rfl rfl ?_
    exact kt
  obtain ⟨T3, X3, e3, st3⟩ := getF X1 hx hZ hown (host := "") (Or.inl (own_w hw 25 rfl)) Via.refl e1 Fc (g := (mkF m 7 #[.val (.ref r0)] [(.ref r0)])) rfl rfl (hb hby d8_7)
  obtain ⟨fs, hr, hrun, hended, hW, hsame⟩ := X3.leave (v := some (.int (0 : Int32))) (fun h => by rw [Bd.returns] at h; cases h)
  refine ⟨_, _, pre0 _ (st1 _ (st2 _ (st3 _ ?_))), hrun, hended, _, _, rfl, ?_, ⟨_, rfl⟩, hW, hsame.mono (by decide) (by decide)⟩
  · refine XS.ifYes X3.here hx rfl (pc0 := 10) (pc' := 17) rfl (hb hby d8_10) rfl ((if0 _ _).trans (feq (by decide : ¬ ((1 : Int32) = (0 : Int32)))).2) (by decide) (by decide) ?_
    refine XS.iconst X3.here hx rfl (hb hby d8_17) ?_
    show Steps p.tables e below (T3.setTop (mkF m 18 #[.val (.ref r0)] [(.int (0 : Int32))])) _
    exact retN X3 hx (t := .boolean) Bd.returns (by simp) (hb hby d8_18) hr
  · show Q_rmLat_U4 Z r0 cs fm h0 n0 _ T3.heap _
    rw [e3]
    exact ⟨rfl, N0, rfl⟩
theorem d10_0 : decode jdk_42_method_152_code 0 = .ok (.getstatic 38, 3) := by decide +kernel
theorem d10_3 : decode jdk_42_method_152_code 3 = .ok (.ifCond .eq 10, 3) := by decide +kernel
theorem d10_6 : decode jdk_42_method_152_code 6 = .ok (.aload_n 0, 1) := by decide +kernel
theorem d10_7 : decode jdk_42_method_152_code 7 = .ok (.getfield 15, 3) := by decide +kernel
theorem d10_10 : decode jdk_42_method_152_code 10 = .ok (.goto 4, 3) := by decide +kernel
theorem d10_14 : decode jdk_42_method_152_code 14 = .ok (.ireturn, 1) := by decide +kernel
theorem ef_rmCod_L4 (m : MethodId) (x0 : Addr) : entryFrame m #[(.ref x0)] 1 = mkF m 0 #[.val (.ref x0)] [] := by first | (simp [entryFrame, mkF, argsToLocals, Value.category]; done) | rfl
def Q_rmCod_L4 (Z : State) (r0 : Addr) (cs : Int32) (fm : Value) (h0 : Heap) (n0 : Nat) (v : Option Value) (h : Heap) (L : List Loc) : Prop := v = some (.int (0 : Int32)) ∧ Fr n0 L ∧ h = h0
set_option maxRecDepth 65536 in
set_option maxHeartbeats 40000000 in
theorem rmCod_L4 (l : Launch) (Z : State) (a0 : Array Value) (hw : ∀ d ∈ tables_1, d.before a0 Z = true) (ws : List Jvm.Cond) (r0 : Addr) (cs : Int32) (fm : Value) (h0 : Heap) (n0 : Nat) (Z0 : n0 ≤ h0.size) (SB : own_St Z cs fm) (Od : Old Z n0 h0) (Fc : Fld Z h0 r0 "java/lang/String" "coder" "B" (.int (0 : Int32))) :
    MetFree l (⟨"java/lang/String", "coder", "()B"⟩ : MethodName) (head1 (Jvm.Cond.code (⟨"java/lang/String", "coder", "()B"⟩ : MethodName) jdk_42_method_152_code 1 (some .byte) :: ws) ({ frames := 0, cells := 0, slots := 0, locals := 0 } : Room)) (fun a U => a = #[(.ref r0)] ∧ Z.Warmed39 U.vm ∧ U.heap = h0) (fun _ _ _ _ _ => True) (fun _ U o U' => ∃ v L, o = .returned v ∧ Q_rmCod_L4 Z r0 cs fm h0 n0 v U'.heap L ∧ FrameEnd U o U' L ({ frames := 0, cells := 0, slots := 0, locals := 0 } : Room).cells ({ frames := 0, cells := 0, slots := 0, locals := 0 } : Room).slots) := by
  refine MetFree.of_bodySF (plainFor_of_name pn_2) hisR ?_
  intro p e s m args below meth c s₁ Bd hml0 hP hK
  obtain ⟨rfl, hZ, hh⟩ := hP
  have hx := Bd.exec
  have hby := Bd.bytes
  have hml : c.maxLocals = 1 := hml0
  have hown : s.vm.findClass "java/lang/String" = some m.cls := findClass_of_methodNamed Bd.named
  have hnm := (name_of_methodNamed Bd.named Bd.method).1
  have X0 : Stand p l e ({ frames := 0, cells := 0, slots := 0, locals := 0 } : Room) s m #[(.ref r0)] below meth c s₁ [] 0 0 := Stand.of_body Bd
  have e0 : s₁.heap = h0 := by rw [← hh, Bd.state]; rfl
  have N0 := Fr.nil n0
  have pre0 : ∀ t, Steps p.tables e below (s₁.setTop (mkF m 0 #[.val (.ref r0)] [])) t → Steps p.tables e below (s₁.setTop (entryFrame m #[(.ref r0)] 1)) t := fun t k => castTop (ef_rmCod_L4 m r0) k
  obtain ⟨T1, X1, e1, st1⟩ := getS2 X0 hx hZ hown (host := "") (Or.inl (own_w hw 61 rfl)) Via.refl e0 (SB.1.ext Od.2) (g := (mkF m 0 #[.val (.ref r0)] [])) rfl (hb hby d10_0)
  have st2 : own_S p e below T1 (mkF m 7 #[.val (.ref r0)] [(.ref r0)]) (mkF m 3 #[.val (.ref r0)] [(.int cs)]) := by
    intro target kt
    refine XS.ifNo X1.here hx rfl (hb hby d10_3) rfl ((if0 _ _).trans (feq SB.2.1).1) ?_
    refine XS.aloadN X1.here hx rfl (hb hby d10_6) rfl rfl ?_
    exact kt
  obtain ⟨T3, X3, e3, st3⟩ := getF X1 hx hZ hown (host := "") (Or.inl (own_w hw 25 rfl)) Via.refl e1 Fc (g := (mkF m 7 #[.val (.ref r0)] [(.ref r0)])) rfl rfl (hb hby d10_7)
  obtain ⟨fs, hr, hrun, hended, hW, hsame⟩ := X3.leave (v := some (.int (0 : Int32))) (fun h => by rw [Bd.returns] at h; cases h)
  refine ⟨_, _, pre0 _ (st1 _ (st2 _ (st3 _ ?_))), hrun, hended, _, _, rfl, ?_, ⟨_, rfl⟩, hW, hsame.mono (by decide) (by decide)⟩
  · refine XS.goto X3.here hx rfl (pc0 := 10) (pc' := 14) rfl (hb hby d10_10) (by decide) (by decide) ?_
    show Steps p.tables e below (T3.setTop (mkF m 14 #[.val (.ref r0)] [(.int (0 : Int32))])) _
    exact retN X3 hx (t := .byte) Bd.returns (by simp) (hb hby d10_14) hr
  · show Q_rmCod_L4 Z r0 cs fm h0 n0 _ T3.heap _
    rw [e3]
    exact ⟨rfl, N0, rfl⟩
theorem ef_rmCod_U4 (m : MethodId) (x0 : Addr) : entryFrame m #[(.ref x0)] 1 = mkF m 0 #[.val (.ref x0)] [] := by first | (simp [entryFrame, mkF, argsToLocals, Value.category]; done) | rfl
def Q_rmCod_U4 (Z : State) (r0 : Addr) (cs : Int32) (fm : Value) (h0 : Heap) (n0 : Nat) (v : Option Value) (h : Heap) (L : List Loc) : Prop := v = some (.int (1 : Int32)) ∧ Fr n0 L ∧ h = h0
set_option maxRecDepth 65536 in
set_option maxHeartbeats 40000000 in
theorem rmCod_U4 (l : Launch) (Z : State) (a0 : Array Value) (hw : ∀ d ∈ tables_1, d.before a0 Z = true) (ws : List Jvm.Cond) (r0 : Addr) (cs : Int32) (fm : Value) (h0 : Heap) (n0 : Nat) (Z0 : n0 ≤ h0.size) (SB : own_St Z cs fm) (Od : Old Z n0 h0) (Fc : Fld Z h0 r0 "java/lang/String" "coder" "B" (.int (1 : Int32))) :
    MetFree l (⟨"java/lang/String", "coder", "()B"⟩ : MethodName) (head1 (Jvm.Cond.code (⟨"java/lang/String", "coder", "()B"⟩ : MethodName) jdk_42_method_152_code 1 (some .byte) :: ws) ({ frames := 0, cells := 0, slots := 0, locals := 0 } : Room)) (fun a U => a = #[(.ref r0)] ∧ Z.Warmed39 U.vm ∧ U.heap = h0) (fun _ _ _ _ _ => True) (fun _ U o U' => ∃ v L, o = .returned v ∧ Q_rmCod_U4 Z r0 cs fm h0 n0 v U'.heap L ∧ FrameEnd U o U' L ({ frames := 0, cells := 0, slots := 0, locals := 0 } : Room).cells ({ frames := 0, cells := 0, slots := 0, locals := 0 } : Room).slots) := by
  refine MetFree.of_bodySF (plainFor_of_name pn_2) hisR ?_
  intro p e s m args below meth c s₁ Bd hml0 hP hK
  obtain ⟨rfl, hZ, hh⟩ := hP
  have hx := Bd.exec
  have hby := Bd.bytes
  have hml : c.maxLocals = 1 := hml0
  have hown : s.vm.findClass "java/lang/String" = some m.cls := findClass_of_methodNamed Bd.named
  have hnm := (name_of_methodNamed Bd.named Bd.method).1
  have X0 : Stand p l e ({ frames := 0, cells := 0, slots := 0, locals := 0 } : Room) s m #[(.ref r0)] below meth c s₁ [] 0 0 := Stand.of_body Bd
  have e0 : s₁.heap = h0 := by rw [← hh, Bd.state]; rfl
  have N0 := Fr.nil n0
  have pre0 : ∀ t, Steps p.tables e below (s₁.setTop (mkF m 0 #[.val (.ref r0)] [])) t → Steps p.tables e below (s₁.setTop (entryFrame m #[(.ref r0)] 1)) t := fun t k => castTop (ef_rmCod_U4 m r0) k
  obtain ⟨T1, X1, e1, st1⟩ := getS2 X0 hx hZ hown (host := "") (Or.inl (own_w hw 61 rfl)) Via.refl e0 (SB.1.ext Od.2) (g := (mkF m 0 #[.val (.ref r0)] [])) rfl (hb hby d10_0)
  have st2 : own_S p e below T1 (mkF m 7 #[.val (.ref r0)] [(.ref r0)]) (mkF m 3 #[.val (.ref r0)] [(.int cs)]) := by
    intro target kt
    refine XS.ifNo X1.here hx rfl (hb hby d10_3) rfl ((if0 _ _).trans (feq SB.2.1).1) ?_
    refine XS.aloadN X1.here hx rfl (hb hby d10_6) rfl rfl ?_
    exact kt
  obtain ⟨T3, X3, e3, st3⟩ := getF X1 hx hZ hown (host := "") (Or.inl (own_w hw 25 rfl)) Via.refl e1 Fc (g := (mkF m 7 #[.val (.ref r0)] [(.ref r0)])) rfl rfl (hb hby d10_7)
  obtain ⟨fs, hr, hrun, hended, hW, hsame⟩ := X3.leave (v := some (.int (1 : Int32))) (fun h => by rw [Bd.returns] at h; cases h)
  refine ⟨_, _, pre0 _ (st1 _ (st2 _ (st3 _ ?_))), hrun, hended, _, _, rfl, ?_, ⟨_, rfl⟩, hW, hsame.mono (by decide) (by decide)⟩
  · refine XS.goto X3.here hx rfl (pc0 := 10) (pc' := 14) rfl (hb hby d10_10) (by decide) (by decide) ?_
    show Steps p.tables e below (T3.setTop (mkF m 14 #[.val (.ref r0)] [(.int (1 : Int32))])) _
    exact retN X3 hx (t := .byte) Bd.returns (by simp) (hb hby d10_14) hr
  · show Q_rmCod_U4 Z r0 cs fm h0 n0 _ T3.heap _
    rw [e3]
    exact ⟨rfl, N0, rfl⟩
theorem d9_0 : decode jdk_42_method_54_code 0 = .ok (.aload_n 0, 1) := by decide +kernel
theorem d9_1 : decode jdk_42_method_54_code 1 = .ok (.getfield 9, 3) := by decide +kernel
theorem d9_4 : decode jdk_42_method_54_code 4 = .ok (.arraylength, 1) := by decide +kernel
theorem d9_5 : decode jdk_42_method_54_code 5 = .ok (.aload_n 0, 1) := by decide +kernel
theorem d9_6 : decode jdk_42_method_54_code 6 = .ok (.invokevirtual 335, 3) := by decide +kernel
theorem d9_9 : decode jdk_42_method_54_code 9 = .ok (.ishr, 1) := by decide +kernel
theorem d9_10 : decode jdk_42_method_54_code 10 = .ok (.ireturn, 1) := by decide +kernel
theorem ef_rmLn (m : MethodId) (x0 : Addr) : entryFrame m #[(.ref x0)] 1 = mkF m 0 #[.val (.ref x0)] [] := by first | (simp [entryFrame, mkF, argsToLocals, Value.category]; done) | rfl
def Q_rmLn (Z : State) (r0 : Addr) (cs : Int32) (fm : Value) (y : Addr) (ky : ClassId) (cd : Int32) (nb : Int32) (vs : List Value) (n : Int32) (c0 : Int32) (c1 : Int32) (c2 : Int32) (c3 : Int32) (h0 : Heap) (n0 : Nat) (v : Option Value) (h : Heap) (L : List Loc) : Prop := v = some (.int n) ∧ Fr n0 L ∧ h = h0
set_option maxRecDepth 65536 in
set_option maxHeartbeats 40000000 in
theorem rmLn (l : Launch) (Z : State) (a0 : Array Value) (hw : ∀ d ∈ tables_1, d.before a0 Z = true) (ws : List Jvm.Cond) (r0 : Addr) (cs : Int32) (fm : Value) (y : Addr) (ky : ClassId) (cd : Int32) (nb : Int32) (vs : List Value) (n : Int32) (c0 : Int32) (c1 : Int32) (c2 : Int32) (c3 : Int32) (h0 : Heap) (n0 : Nat) (Z0 : n0 ≤ h0.size) (SB : own_St Z cs fm) (Od : Old Z n0 h0) (Fv : Fld Z h0 r0 "java/lang/String" "value" "[B" (.ref y)) (Fc : Fld Z h0 r0 "java/lang/String" "coder" "B" (.int cd)) (Et : Exa Z h0 r0 "java/lang/String") (Vy : Arv Z h0 y ky .byte nb vs (.int (0 : Int32))) (hcd : own_cd cd nb vs n c0 c1 c2 c3) (hN : own_n n) (hch : own_chs c0 c1 c2 c3) :
    MetFree l (⟨"java/lang/String", "length", "()I"⟩ : MethodName) (head1 (Jvm.Cond.code (⟨"java/lang/String", "length", "()I"⟩ : MethodName) jdk_42_method_54_code 1 (some .int) :: ws) ({ frames := 1, cells := 0, slots := 0, locals := 13 } : Room)) (fun a U => a = #[(.ref r0)] ∧ Z.Warmed39 U.vm ∧ U.heap = h0) (fun _ _ _ _ _ => True) (fun _ U o U' => ∃ v L, o = .returned v ∧ Q_rmLn Z r0 cs fm y ky cd nb vs n c0 c1 c2 c3 h0 n0 v U'.heap L ∧ FrameEnd U o U' L ({ frames := 1, cells := 0, slots := 0, locals := 13 } : Room).cells ({ frames := 1, cells := 0, slots := 0, locals := 13 } : Room).slots) := by
  refine MetFree.of_bodySF (plainFor_of_name pn_2) hisR ?_
  intro p e s m args below meth c s₁ Bd hml0 hP hK
  obtain ⟨rfl, hZ, hh⟩ := hP
  have hx := Bd.exec
  have hby := Bd.bytes
  have hml : c.maxLocals = 1 := hml0
  have hown : s.vm.findClass "java/lang/String" = some m.cls := findClass_of_methodNamed Bd.named
  have hnm := (name_of_methodNamed Bd.named Bd.method).1
  have X0 : Stand p l e ({ frames := 1, cells := 0, slots := 0, locals := 13 } : Room) s m #[(.ref r0)] below meth c s₁ [] 0 0 := Stand.of_body Bd
  have e0 : s₁.heap = h0 := by rw [← hh, Bd.state]; rfl
  have N0 := Fr.nil n0
  have pre0 : ∀ t, Steps p.tables e below (s₁.setTop (mkF m 0 #[.val (.ref r0)] [])) t → Steps p.tables e below (s₁.setTop (entryFrame m #[(.ref r0)] 1)) t := fun t k => castTop (ef_rmLn m r0) k
  rcases hcd with ⟨e1_, e2_, e3_, u0_, u1_, u2_, u3_⟩ | ⟨e1_, e2_, e3_⟩
  · subst e1_; subst e2_; subst e3_
    have st1 : own_S p e below s₁ (mkF m 1 #[.val (.ref r0)] [(.ref r0)]) (mkF m 0 #[.val (.ref r0)] []) := by
      intro target kt
      refine XS.aloadN X0.here hx rfl (hb hby d9_0) rfl rfl ?_
      exact kt
    obtain ⟨T2, X2, e2, st2⟩ := getF X0 hx hZ hown (host := "") (Or.inl (own_w hw 24 rfl)) Via.refl e0 Fv (g := (mkF m 1 #[.val (.ref r0)] [(.ref r0)])) rfl rfl (hb hby d9_1)
    obtain ⟨cl3, Ar3, qc3, Sz3, Mn3, Hs3, Gs3⟩ := id Vy
    have st3 : own_S p e below T2 (mkF m 5 #[.val (.ref r0)] [(.int n)]) (mkF m 4 #[.val (.ref r0)] [(.ref y)]) := fun target kt => X2.arraylength hx (cell := cl3) (by rw [e2]; exact Ar3.1) (State.isArrayOf_alike hZ.alike Ar3.2.1) (g := (mkF m 4 #[.val (.ref r0)] [(.ref y)])) rfl rfl (hb hby d9_4) _ (by rw [len_of Sz3 Mn3]; exact kt)
    have st4 : own_S p e below T2 (mkF m 6 #[.val (.ref r0)] [(.ref r0), (.int n)]) (mkF m 5 #[.val (.ref r0)] [(.int n)]) := by
      intro target kt
      refine XS.aloadN X2.here hx rfl (hb hby d9_5) rfl rfl ?_
      exact kt
    obtain ⟨cq5, kq5, qv5a, qv5b, qv5c⟩ := isOf hZ e2 Et
    obtain ⟨_, _, ⟨T5, L5, k5, n5⟩, -, X5, ⟨Lc5, hQ5, l5, y5, z5⟩, st5⟩ := X2.virtualBack hx (y := (⟨"java/lang/String", "coder", "()B"⟩ : MethodName)) (z := (⟨"java/lang/String", "coder", "()B"⟩ : MethodName)) hown (mvT hZ (own_w hw 67 rfl)) (mvT hZ (own_w hw 68 rfl)) (notFace_of_selects (args := #[]) (mvT hZ (own_w hw 70 rfl))) (mvT hZ (own_w hw 70 rfl)) (mvT hZ (own_w hw 69 rfl)) (by decide) (backOf (W := 1) (rmCod_L4 l Z a0 hw [] r0 cs fm h0 n0 Z0 SB Od Fc) hZ (own_w hw 71 rfl) (own_w hw 7 rfl) (by decide) (by decide)) qv5a qv5c (g := (mkF m 6 #[.val (.ref r0)] [(.ref r0), (.int n)])) rfl (by rw [hml]; rfl) (Steps.refl _) (argsL := []) (rest := [(.int n)]) (lenOf pd_8 rfl) rfl (by show 2 * 0 + _ ≤ _; exact Nat.le_of_eq rfl) (hb hby d9_6) (fun _ _ => ⟨rfl, e2, (by decide : 0 + 0 ≤ _), (by decide : 0 + 0 ≤ _)⟩)
    dsimp only [Pt.U, Pt.locs, Pt.cells, Pt.slots] at X5 l5 y5 z5 st5 hQ5
    subst l5 y5 z5
    obtain ⟨rfl, Nq5, e5⟩ := hQ5
    have N5 := Fr.app N0 Nq5
    obtain ⟨fs, hr, hrun, hended, hW, hsame⟩ := X5.leave (v := some (.int (n >>> ((0 : Int32) &&& 31)))) (fun h => by rw [Bd.returns] at h; cases h)
    refine ⟨_, _, pre0 _ (st1 _ (st2 _ (st3 _ (st4 _ (st5.trans ?_))))), hrun, hended, _, _, rfl, ?_, ⟨_, rfl⟩, hW, hsame.mono (by decide) (by decide)⟩
    · refine XS.ishr X5.here hx rfl (hb hby d9_9) rfl ?_
      show Steps p.tables e below (T5.setTop (mkF m 10 #[.val (.ref r0)] [(.int (n >>> ((0 : Int32) &&& 31)))])) _
      exact retI X5 hx Bd.returns (hb hby d9_10) hr
    · show Q_rmLn Z r0 cs fm y ky (0 : Int32) n ([(.int c0.toInt8.toInt32), (.int c1.toInt8.toInt32), (.int c2.toInt8.toInt32), (.int c3.toInt8.toInt32)] : List Value) n c0 c1 c2 c3 h0 n0 _ T5.heap _
      rw [e5]
      exact ⟨congrArg (fun z => some (Value.int z)) (own_sh0 hN), N5, rfl⟩
  · subst e1_; subst e2_; subst e3_
    have st6 : own_S p e below s₁ (mkF m 1 #[.val (.ref r0)] [(.ref r0)]) (mkF m 0 #[.val (.ref r0)] []) := by
      intro target kt
      refine XS.aloadN X0.here hx rfl (hb hby d9_0) rfl rfl ?_
      exact kt
    obtain ⟨T7, X7, e7, st7⟩ := getF X0 hx hZ hown (host := "") (Or.inl (own_w hw 24 rfl)) Via.refl e0 Fv (g := (mkF m 1 #[.val (.ref r0)] [(.ref r0)])) rfl rfl (hb hby d9_1)
    obtain ⟨cl8, Ar8, qc8, Sz8, Mn8, Hs8, Gs8⟩ := id Vy
    have st8 : own_S p e below T7 (mkF m 5 #[.val (.ref r0)] [(.int (n + n))]) (mkF m 4 #[.val (.ref r0)] [(.ref y)]) := fun target kt => X7.arraylength hx (cell := cl8) (by rw [e7]; exact Ar8.1) (State.isArrayOf_alike hZ.alike Ar8.2.1) (g := (mkF m 4 #[.val (.ref r0)] [(.ref y)])) rfl rfl (hb hby d9_4) _ (by rw [len_of Sz8 Mn8]; exact kt)
    have st9 : own_S p e below T7 (mkF m 6 #[.val (.ref r0)] [(.ref r0), (.int (n + n))]) (mkF m 5 #[.val (.ref r0)] [(.int (n + n))]) := by
      intro target kt
      refine XS.aloadN X7.here hx rfl (hb hby d9_5) rfl rfl ?_
      exact kt
    obtain ⟨cq10, kq10, qv10a, qv10b, qv10c⟩ := isOf hZ e7 Et
    obtain ⟨_, _, ⟨T10, L10, k10, n10⟩, -, X10, ⟨Lc10, hQ10, l10, y10, z10⟩, st10⟩ := X7.virtualBack hx (y := (⟨"java/lang/String", "coder", "()B"⟩ : MethodName)) (z := (⟨"java/lang/String", "coder", "()B"⟩ : MethodName)) hown (mvT hZ (own_w hw 67 rfl)) (mvT hZ (own_w hw 68 rfl)) (notFace_of_selects (args := #[]) (mvT hZ (own_w hw 70 rfl))) (mvT hZ (own_w hw 70 rfl)) (mvT hZ (own_w hw 69 rfl)) (by decide) (backOf (W := 1) (rmCod_U4 l Z a0 hw [] r0 cs fm h0 n0 Z0 SB Od Fc) hZ (own_w hw 71 rfl) (own_w hw 7 rfl) (by decide) (by decide)) qv10a qv10c (g := (mkF m 6 #[.val (.ref r0)] [(.ref r0), (.int (n + n))])) rfl (by rw [hml]; rfl) (Steps.refl _) (argsL := []) (rest := [(.int (n + n))]) (lenOf pd_8 rfl) rfl (by show 2 * 0 + _ ≤ _; exact Nat.le_of_eq rfl) (hb hby d9_6) (fun _ _ => ⟨rfl, e7, (by decide : 0 + 0 ≤ _), (by decide : 0 + 0 ≤ _)⟩)
    dsimp only [Pt.U, Pt.locs, Pt.cells, Pt.slots] at X10 l10 y10 z10 st10 hQ10
    subst l10 y10 z10
    obtain ⟨rfl, Nq10, e10⟩ := hQ10
    have N10 := Fr.app N0 Nq10
    obtain ⟨fs, hr, hrun, hended, hW, hsame⟩ := X10.leave (v := some (.int ((n + n) >>> ((1 : Int32) &&& 31)))) (fun h => by rw [Bd.returns] at h; cases h)
    refine ⟨_, _, pre0 _ (st6 _ (st7 _ (st8 _ (st9 _ (st10.trans ?_))))), hrun, hended, _, _, rfl, ?_, ⟨_, rfl⟩, hW, hsame.mono (by decide) (by decide)⟩
    · refine XS.ishr X10.here hx rfl (hb hby d9_9) rfl ?_
      show Steps p.tables e below (T10.setTop (mkF m 10 #[.val (.ref r0)] [(.int ((n + n) >>> ((1 : Int32) &&& 31)))])) _
      exact retI X10 hx Bd.returns (hb hby d9_10) hr
    · show Q_rmLn Z r0 cs fm y ky (1 : Int32) (n + n) ([(.int (own_lo c0)), (.int (own_hi c0)), (.int (own_lo c1)), (.int (own_hi c1)), (.int (own_lo c2)), (.int (own_hi c2)), (.int (own_lo c3)), (.int (own_hi c3))] : List Value) n c0 c1 c2 c3 h0 n0 _ T10.heap _
      rw [e10]
      exact ⟨congrArg (fun z => some (Value.int z)) (own_sh1 hN), N10, rfl⟩
theorem d30_0 : decode jdk_42_method_56_code 0 = .ok (.aload_n 0, 1) := by decide +kernel
theorem d30_1 : decode jdk_42_method_56_code 1 = .ok (.invokevirtual 492, 3) := by decide +kernel
theorem d30_4 : decode jdk_42_method_56_code 4 = .ok (.ifCond .eq 12, 3) := by decide +kernel
theorem d30_7 : decode jdk_42_method_56_code 7 = .ok (.aload_n 0, 1) := by decide +kernel
theorem d30_8 : decode jdk_42_method_56_code 8 = .ok (.getfield 9, 3) := by decide +kernel
theorem d30_11 : decode jdk_42_method_56_code 11 = .ok (.iload_n 1, 1) := by decide +kernel
theorem d30_12 : decode jdk_42_method_56_code 12 = .ok (.invokestatic 495, 3) := by decide +kernel
theorem d30_15 : decode jdk_42_method_56_code 15 = .ok (.ireturn, 1) := by decide +kernel
theorem d30_16 : decode jdk_42_method_56_code 16 = .ok (.aload_n 0, 1) := by decide +kernel
theorem d30_17 : decode jdk_42_method_56_code 17 = .ok (.getfield 9, 3) := by decide +kernel
theorem d30_20 : decode jdk_42_method_56_code 20 = .ok (.iload_n 1, 1) := by decide +kernel
theorem d30_21 : decode jdk_42_method_56_code 21 = .ok (.invokestatic 498, 3) := by decide +kernel
theorem d30_24 : decode jdk_42_method_56_code 24 = .ok (.ireturn, 1) := by decide +kernel
theorem ef_rmCh (m : MethodId) (x0 : Addr) (x1 : Int32) : entryFrame m #[(.ref x0), (.int x1)] 2 = mkF m 0 #[.val (.ref x0), .val (.int x1)] [] := by first | (simp [entryFrame, mkF, argsToLocals, Value.category]; done) | rfl
def Q_rmCh (Z : State) (r0 : Addr) (p1 : Int32) (cs : Int32) (fm : Value) (y : Addr) (ky : ClassId) (cd : Int32) (nb : Int32) (vs : List Value) (n : Int32) (c0 : Int32) (c1 : Int32) (c2 : Int32) (c3 : Int32) (h0 : Heap) (n0 : Nat) (v : Option Value) (h : Heap) (L : List Loc) : Prop := v = some (.int (own_at p1 c0 c1 c2 c3)) ∧ Fr n0 L ∧ h = h0
set_option maxRecDepth 65536 in
set_option maxHeartbeats 40000000 in
theorem rmCh (l : Launch) (Z : State) (a0 : Array Value) (hw : ∀ d ∈ tables_1, d.before a0 Z = true) (ws : List Jvm.Cond) (r0 : Addr) (p1 : Int32) (cs : Int32) (fm : Value) (y : Addr) (ky : ClassId) (cd : Int32) (nb : Int32) (vs : List Value) (n : Int32) (c0 : Int32) (c1 : Int32) (c2 : Int32) (c3 : Int32) (h0 : Heap) (n0 : Nat) (Z0 : n0 ≤ h0.size) (SB : own_St Z cs fm) (Od : Old Z n0 h0) (Fv : Fld Z h0 r0 "java/lang/String" "value" "[B" (.ref y)) (Fc : Fld Z h0 r0 "java/lang/String" "coder" "B" (.int cd)) (Et : Exa Z h0 r0 "java/lang/String") (Vy : Arv Z h0 y ky .byte nb vs (.int (0 : Int32))) (hcd : own_cd cd nb vs n c0 c1 c2 c3) (hN : own_n n) (hch : own_chs c0 c1 c2 c3) (hi : own_n p1) (hl : p1 < n) :
    MetFree l (⟨"java/lang/String", "charAt", "(I)C"⟩ : MethodName) (head1 (Jvm.Cond.code (⟨"java/lang/String", "charAt", "(I)C"⟩ : MethodName) jdk_42_method_56_code 2 (some .char) :: ws) ({ frames := 4, cells := 0, slots := 0, locals := 53 } : Room)) (fun a U => a = #[(.ref r0), (.int p1)] ∧ Z.Warmed39 U.vm ∧ U.heap = h0) (fun _ _ _ _ _ => True) (fun _ U o U' => ∃ v L, o = .returned v ∧ Q_rmCh Z r0 p1 cs fm y ky cd nb vs n c0 c1 c2 c3 h0 n0 v U'.heap L ∧ FrameEnd U o U' L ({ frames := 4, cells := 0, slots := 0, locals := 53 } : Room).cells ({ frames := 4, cells := 0, slots := 0, locals := 53 } : Room).slots) := by
  refine MetFree.of_bodySF (plainFor_of_name pn_2) hisR ?_
  intro p e s m args below meth c s₁ Bd hml0 hP hK
  obtain ⟨rfl, hZ, hh⟩ := hP
  have hx := Bd.exec
  have hby := Bd.bytes
  have hml : c.maxLocals = 2 := hml0
  have hown : s.vm.findClass "java/lang/String" = some m.cls := findClass_of_methodNamed Bd.named
  have hnm := (name_of_methodNamed Bd.named Bd.method).1
  have X0 : Stand p l e ({ frames := 4, cells := 0, slots := 0, locals := 53 } : Room) s m #[(.ref r0), (.int p1)] below meth c s₁ [] 0 0 := Stand.of_body Bd
  have e0 : s₁.heap = h0 := by rw [← hh, Bd.state]; rfl
  have N0 := Fr.nil n0
  have pre0 : ∀ t, Steps p.tables e below (s₁.setTop (mkF m 0 #[.val (.ref r0), .val (.int p1)] [])) t → Steps p.tables e below (s₁.setTop (entryFrame m #[(.ref r0), (.int p1)] 2)) t := fun t k => castTop (ef_rmCh m r0 p1) k
  rcases hcd with ⟨e1_, e2_, e3_, u0_, u1_, u2_, u3_⟩ | ⟨e1_, e2_, e3_⟩
  · subst e1_; subst e2_; subst e3_
    have st1 : own_S p e below s₁ (mkF m 1 #[.val (.ref r0), .val (.int p1)] [(.ref r0)]) (mkF m 0 #[.val (.ref r0), .val (.int p1)] []) := by
      intro target kt
      refine XS.aloadN X0.here hx rfl (hb hby d30_0) rfl rfl ?_
      exact kt
    obtain ⟨cq2, kq2, qv2a, qv2b, qv2c⟩ := isOf hZ e0 Et
    obtain ⟨_, _, ⟨T2, L2, k2, n2⟩, -, X2, ⟨Lc2, hQ2, l2, y2, z2⟩, st2⟩ := X0.virtualBack hx (y := (⟨"java/lang/String", "isLatin1", "()Z"⟩ : MethodName)) (z := (⟨"java/lang/String", "isLatin1", "()Z"⟩ : MethodName)) hown (mvT hZ (own_w hw 56 rfl)) (mvT hZ (own_w hw 57 rfl)) (notFace_of_selects (args := #[]) (mvT hZ (own_w hw 59 rfl))) (mvT hZ (own_w hw 59 rfl)) (mvT hZ (own_w hw 58 rfl)) (by decide) (backOf (W := 0) (rmLat_L4 l Z a0 hw [] r0 cs fm h0 n0 Z0 SB Od Fc) hZ (own_w hw 60 rfl) (own_w hw 7 rfl) (by decide) (by decide)) qv2a qv2c (g := (mkF m 1 #[.val (.ref r0), .val (.int p1)] [(.ref r0)])) rfl (by rw [hml]; rfl) (Steps.refl _) (argsL := []) (rest := []) (lenOf pd_5 rfl) rfl (by show 2 * 0 + _ ≤ _; exact Nat.le_of_eq rfl) (hb hby d30_1) (fun _ _ => ⟨rfl, e0, (by decide : 0 + 0 ≤ _), (by decide : 0 + 0 ≤ _)⟩)
    dsimp only [Pt.U, Pt.locs, Pt.cells, Pt.slots] at X2 l2 y2 z2 st2 hQ2
    subst l2 y2 z2
    obtain ⟨rfl, Nq2, e2⟩ := hQ2
    have N2 := Fr.app N0 Nq2
    have st3 : own_S p e below T2 (mkF m 8 #[.val (.ref r0), .val (.int p1)] [(.ref r0)]) (mkF m 4 #[.val (.ref r0), .val (.int p1)] [(.int (1 : Int32))]) := by
      intro target kt
      refine XS.ifNo X2.here hx rfl (hb hby d30_4) rfl ((if0 _ _).trans (feq (by decide : ¬ ((1 : Int32) = (0 : Int32)))).1) ?_
      refine XS.aloadN X2.here hx rfl (hb hby d30_7) rfl rfl ?_
      exact kt
    obtain ⟨T4, X4, e4, st4⟩ := getF X2 hx hZ hown (host := "") (Or.inl (own_w hw 24 rfl)) Via.refl e2 Fv (g := (mkF m 8 #[.val (.ref r0), .val (.int p1)] [(.ref r0)])) rfl rfl (hb hby d30_8)
    have st5 : own_S p e below T4 (mkF m 12 #[.val (.ref r0), .val (.int p1)] [(.int p1), (.ref y)]) (mkF m 11 #[.val (.ref r0), .val (.int p1)] [(.ref y)]) := by
      intro target kt
      refine XS.iloadN X4.here hx rfl (hb hby d30_11) rfl ?_
      exact kt
    obtain ⟨_, _, ⟨T6, L6, k6, n6⟩, -, X6, ⟨Lc6, hQ6, l6, y6, z6⟩, st6⟩ := Jvm.LawKit.callS X4 hx (y := (⟨"java/lang/StringLatin1", "charAt", "([BI)C"⟩ : MethodName)) hown (mvT hZ (own_w hw 188 rfl)) (mvT hZ (own_w hw 189 rfl)) (mvT hZ (own_w hw 74 rfl)) (mvT hZ (own_w hw 190 rfl)) (by decide) (backOf (W := 0) (rmAcL l Z a0 hw [] y p1 cs fm ky n c0 c1 c2 c3 h0 n0 Z0 SB Od Vy hN hch hi hl u0_ u1_ u2_ u3_) hZ (own_w hw 190 rfl) (own_w hw 74 rfl) (by decide) (by decide)) (g := (mkF m 12 #[.val (.ref r0), .val (.int p1)] [(.int p1), (.ref y)])) rfl (by rw [hml]; rfl) (argsL := [(.ref y), (.int p1)]) (rest := []) (lenOf pd_18 rfl) rfl (by show 2 * 0 + _ ≤ _; exact Nat.le_of_eq rfl) (hb hby d30_12) (fun _ _ => ⟨rfl, e4, (by decide : 0 + 0 ≤ _), (by decide : 0 + 0 ≤ _)⟩)
    dsimp only [Pt.U, Pt.locs, Pt.cells, Pt.slots] at X6 l6 y6 z6 st6 hQ6
    subst l6 y6 z6
    obtain ⟨rfl, Nq6, e6⟩ := hQ6
    have N6 := Fr.app N2 Nq6
    obtain ⟨fs, hr, hrun, hended, hW, hsame⟩ := X6.leave (v := some (.int (nar .char (own_at p1 c0 c1 c2 c3)))) (fun h => by rw [Bd.returns] at h; cases h)
    refine ⟨_, _, pre0 _ (st1 _ (st2.trans (st3 _ (st4 _ (st5 _ (st6 _ ?_)))))), hrun, hended, _, _, rfl, ?_, ⟨_, rfl⟩, hW, hsame.mono (by decide) (by decide)⟩
    · show Steps p.tables e below (T6.setTop (mkF m 15 #[.val (.ref r0), .val (.int p1)] [(.int (own_at p1 c0 c1 c2 c3))])) _
      exact retN X6 hx (t := .char) Bd.returns (by simp) (hb hby d30_15) hr
    · show Q_rmCh Z r0 p1 cs fm y ky (0 : Int32) n ([(.int c0.toInt8.toInt32), (.int c1.toInt8.toInt32), (.int c2.toInt8.toInt32), (.int c3.toInt8.toInt32)] : List Value) n c0 c1 c2 c3 h0 n0 _ T6.heap _
      rw [e6]
      exact ⟨congrArg (fun z => some (Value.int z)) (own_ncI (own_cha hch)), N6, rfl⟩
  · subst e1_; subst e2_; subst e3_
    have st7 : own_S p e below s₁ (mkF m 1 #[.val (.ref r0), .val (.int p1)] [(.ref r0)]) (mkF m 0 #[.val (.ref r0), .val (.int p1)] []) := by
      intro target kt
      refine XS.aloadN X0.here hx rfl (hb hby d30_0) rfl rfl ?_
      exact kt
    obtain ⟨cq8, kq8, qv8a, qv8b, qv8c⟩ := isOf hZ e0 Et
    obtain ⟨_, _, ⟨T8, L8, k8, n8⟩, -, X8, ⟨Lc8, hQ8, l8, y8, z8⟩, st8⟩ := X0.virtualBack hx (y := (⟨"java/lang/String", "isLatin1", "()Z"⟩ : MethodName)) (z := (⟨"java/lang/String", "isLatin1", "()Z"⟩ : MethodName)) hown (mvT hZ (own_w hw 56 rfl)) (mvT hZ (own_w hw 57 rfl)) (notFace_of_selects (args := #[]) (mvT hZ (own_w hw 59 rfl))) (mvT hZ (own_w hw 59 rfl)) (mvT hZ (own_w hw 58 rfl)) (by decide) (backOf (W := 0) (rmLat_U4 l Z a0 hw [] r0 cs fm h0 n0 Z0 SB Od Fc) hZ (own_w hw 60 rfl) (own_w hw 7 rfl) (by decide) (by decide)) qv8a qv8c (g := (mkF m 1 #[.val (.ref r0), .val (.int p1)] [(.ref r0)])) rfl (by rw [hml]; rfl) (Steps.refl _) (argsL := []) (rest := []) (lenOf pd_5 rfl) rfl (by show 2 * 0 + _ ≤ _; exact Nat.le_of_eq rfl) (hb hby d30_1) (fun _ _ => ⟨rfl, e0, (by decide : 0 + 0 ≤ _), (by decide : 0 + 0 ≤ _)⟩)
    dsimp only [Pt.U, Pt.locs, Pt.cells, Pt.slots] at X8 l8 y8 z8 st8 hQ8
    subst l8 y8 z8
    obtain ⟨rfl, Nq8, e8⟩ := hQ8
    have N8 := Fr.app N0 Nq8
    have st9 : own_S p e below T8 (mkF m 17 #[.val (.ref r0), .val (.int p1)] [(.ref r0)]) (mkF m 4 #[.val (.ref r0), .val (.int p1)] [(.int (0 : Int32))]) := by
      intro target kt
      refine XS.ifYes X8.here hx rfl (pc0 := 4) (pc' := 16) rfl (hb hby d30_4) rfl ((if0 _ _).trans (teq (rfl : (0 : Int32) = (0 : Int32))).1) (by decide) (by decide) ?_
      refine XS.aloadN X8.here hx rfl (hb hby d30_16) rfl rfl ?_
      exact kt
    obtain ⟨T10, X10, e10, st10⟩ := getF X8 hx hZ hown (host := "") (Or.inl (own_w hw 24 rfl)) Via.refl e8 Fv (g := (mkF m 17 #[.val (.ref r0), .val (.int p1)] [(.ref r0)])) rfl rfl (hb hby d30_17)
    have st11 : own_S p e below T10 (mkF m 21 #[.val (.ref r0), .val (.int p1)] [(.int p1), (.ref y)]) (mkF m 20 #[.val (.ref r0), .val (.int p1)] [(.ref y)]) := by
      intro target kt
      refine XS.iloadN X10.here hx rfl (hb hby d30_20) rfl ?_
      exact kt
    obtain ⟨_, _, ⟨T12, L12, k12, n12⟩, -, X12, ⟨Lc12, hQ12, l12, y12, z12⟩, st12⟩ := Jvm.LawKit.callS X10 hx (y := (⟨"java/lang/StringUTF16", "charAt", "([BI)C"⟩ : MethodName)) hown (mvT hZ (own_w hw 146 rfl)) (mvT hZ (own_w hw 147 rfl)) (mvT hZ (own_w hw 92 rfl)) (mvT hZ (own_w hw 148 rfl)) (by decide) (backOf (W := 0) (rmAcU l Z a0 hw [] y p1 cs fm ky n c0 c1 c2 c3 h0 n0 Z0 SB Od Vy hN hch hi hl) hZ (own_w hw 148 rfl) (own_w hw 92 rfl) (by decide) (by decide)) (g := (mkF m 21 #[.val (.ref r0), .val (.int p1)] [(.int p1), (.ref y)])) rfl (by rw [hml]; rfl) (argsL := [(.ref y), (.int p1)]) (rest := []) (lenOf pd_18 rfl) rfl (by show 2 * 0 + _ ≤ _; exact Nat.le_of_eq rfl) (hb hby d30_21) (fun _ _ => ⟨rfl, e10, (by decide : 0 + 0 ≤ _), (by decide : 0 + 0 ≤ _)⟩)
    dsimp only [Pt.U, Pt.locs, Pt.cells, Pt.slots] at X12 l12 y12 z12 st12 hQ12
    subst l12 y12 z12
    obtain ⟨rfl, Nq12, e12⟩ := hQ12
    have N12 := Fr.app N8 Nq12
    obtain ⟨fs, hr, hrun, hended, hW, hsame⟩ := X12.leave (v := some (.int (nar .char (own_at p1 c0 c1 c2 c3)))) (fun h => by rw [Bd.returns] at h; cases h)
    refine ⟨_, _, pre0 _ (st7 _ (st8.trans (st9 _ (st10 _ (st11 _ (st12 _ ?_)))))), hrun, hended, _, _, rfl, ?_, ⟨_, rfl⟩, hW, hsame.mono (by decide) (by decide)⟩
    · show Steps p.tables e below (T12.setTop (mkF m 24 #[.val (.ref r0), .val (.int p1)] [(.int (own_at p1 c0 c1 c2 c3))])) _
      exact retN X12 hx (t := .char) Bd.returns (by simp) (hb hby d30_24) hr
    · show Q_rmCh Z r0 p1 cs fm y ky (1 : Int32) (n + n) ([(.int (own_lo c0)), (.int (own_hi c0)), (.int (own_lo c1)), (.int (own_hi c1)), (.int (own_lo c2)), (.int (own_hi c2)), (.int (own_lo c3)), (.int (own_hi c3))] : List Value) n c0 c1 c2 c3 h0 n0 _ T12.heap _
      rw [e12]
      exact ⟨congrArg (fun z => some (Value.int z)) (own_ncI (own_cha hch)), N12, rfl⟩
theorem d19_0 : decode jdk_43_method_23_code 0 = .ok (.iload_n 1, 1) := by decide +kernel
theorem d19_1 : decode jdk_43_method_23_code 1 = .ok (.i2b, 1) := by decide +kernel
theorem d19_2 : decode jdk_43_method_23_code 2 = .ok (.istore 4, 2) := by decide +kernel
theorem d19_4 : decode jdk_43_method_23_code 4 = .ok (.iload_n 2, 1) := by decide +kernel
theorem d19_5 : decode jdk_43_method_23_code 5 = .ok (.istore 5, 2) := by decide +kernel
theorem d19_7 : decode jdk_43_method_23_code 7 = .ok (.iload 5, 2) := by decide +kernel
theorem d19_9 : decode jdk_43_method_23_code 9 = .ok (.iload_n 3, 1) := by decide +kernel
theorem d19_10 : decode jdk_43_method_23_code 10 = .ok (.if_icmp .ge 21, 3) := by decide +kernel
theorem d19_13 : decode jdk_43_method_23_code 13 = .ok (.aload_n 0, 1) := by decide +kernel
theorem d19_14 : decode jdk_43_method_23_code 14 = .ok (.iload 5, 2) := by decide +kernel
theorem d19_16 : decode jdk_43_method_23_code 16 = .ok (.baload, 1) := by decide +kernel
theorem d19_17 : decode jdk_43_method_23_code 17 = .ok (.iload 4, 2) := by decide +kernel
theorem d19_19 : decode jdk_43_method_23_code 19 = .ok (.if_icmp .ne 6, 3) := by decide +kernel
theorem d19_22 : decode jdk_43_method_23_code 22 = .ok (.iload 5, 2) := by decide +kernel
theorem d19_24 : decode jdk_43_method_23_code 24 = .ok (.ireturn, 1) := by decide +kernel
theorem d19_25 : decode jdk_43_method_23_code 25 = .ok (.iinc 5 1, 3) := by decide +kernel
theorem d19_28 : decode jdk_43_method_23_code 28 = .ok (.goto (-21), 3) := by decide +kernel
theorem d19_31 : decode jdk_43_method_23_code 31 = .ok (.iconst (-1), 1) := by decide +kernel
theorem d19_32 : decode jdk_43_method_23_code 32 = .ok (.ireturn, 1) := by decide +kernel
theorem ef_rmIxL (m : MethodId) (x0 : Addr) (x1 : Int32) (x2 : Int32) (x3 : Int32) : entryFrame m #[(.ref x0), (.int x1), (.int x2), (.int x3)] 6 = mkF m 0 #[.val (.ref x0), .val (.int x1), .val (.int x2), .val (.int x3), .unset, .unset] [] := by first | (simp [entryFrame, mkF, argsToLocals, Value.category]; done) | rfl
def Q_rmIxL (Z : State) (r0 : Addr) (p2 : Int32) (n : Int32) (cs : Int32) (fm : Value) (ky : ClassId) (c0 : Int32) (c1 : Int32) (c2 : Int32) (c3 : Int32) (h0 : Heap) (n0 : Nat) (v : Option Value) (h : Heap) (L : List Loc) : Prop := ∃ z : Int32, (z < 0 ↔ ¬ own_cf n c0 c1 c2 c3 5 p2) ∧ v = some (.int z) ∧ Fr n0 L ∧ h = h0
set_option maxRecDepth 65536 in
set_option maxHeartbeats 40000000 in
theorem rmIxL (l : Launch) (Z : State) (a0 : Array Value) (hw : ∀ d ∈ tables_1, d.before a0 Z = true) (ws : List Jvm.Cond) (r0 : Addr) (p2 : Int32) (n : Int32) (cs : Int32) (fm : Value) (ky : ClassId) (c0 : Int32) (c1 : Int32) (c2 : Int32) (c3 : Int32) (h0 : Heap) (n0 : Nat) (Z0 : n0 ≤ h0.size) (SB : own_St Z cs fm) (Od : Old Z n0 h0) (Vy : Arv Z h0 r0 ky .byte n [(.int c0.toInt8.toInt32), (.int c1.toInt8.toInt32), (.int c2.toInt8.toInt32), (.int c3.toInt8.toInt32)] (.int (0 : Int32))) (hN : own_n n) (hch : own_chs c0 c1 c2 c3) (hi : own_n p2) (u0_ : c0.toInt < 256) (u1_ : c1.toInt < 256) (u2_ : c2.toInt < 256) (u3_ : c3.toInt < 256) :
    MetFree l (⟨"java/lang/StringLatin1", "indexOfChar", "([BIII)I"⟩ : MethodName) (head1 (Jvm.Cond.code (⟨"java/lang/StringLatin1", "indexOfChar", "([BIII)I"⟩ : MethodName) jdk_43_method_23_code 6 (some .int) :: ws) ({ frames := 0, cells := 0, slots := 0, locals := 0 } : Room)) (fun a U => a = #[(.ref r0), (.int (44 : Int32)), (.int p2), (.int n)] ∧ Z.Warmed39 U.vm ∧ U.heap = h0) (fun _ _ _ _ _ => True) (fun _ U o U' => ∃ v L, o = .returned v ∧ Q_rmIxL Z r0 p2 n cs fm ky c0 c1 c2 c3 h0 n0 v U'.heap L ∧ FrameEnd U o U' L ({ frames := 0, cells := 0, slots := 0, locals := 0 } : Room).cells ({ frames := 0, cells := 0, slots := 0, locals := 0 } : Room).slots) := by
  refine MetFree.of_bodySF (plainFor_of_name pn_4) hisR ?_
  intro p e s m args below meth c s₁ Bd hml0 hP hK
  obtain ⟨rfl, hZ, hh⟩ := hP
  have hx := Bd.exec
  have hby := Bd.bytes
  have hml : c.maxLocals = 6 := hml0
  have hown : s.vm.findClass "java/lang/StringLatin1" = some m.cls := findClass_of_methodNamed Bd.named
  have hnm := (name_of_methodNamed Bd.named Bd.method).1
  have X0 : Stand p l e ({ frames := 0, cells := 0, slots := 0, locals := 0 } : Room) s m #[(.ref r0), (.int (44 : Int32)), (.int p2), (.int n)] below meth c s₁ [] 0 0 := Stand.of_body Bd
  have e0 : s₁.heap = h0 := by rw [← hh, Bd.state]; rfl
  have N0 := Fr.nil n0
  have pre0 : ∀ t, Steps p.tables e below (s₁.setTop (mkF m 0 #[.val (.ref r0), .val (.int (44 : Int32)), .val (.int p2), .val (.int n), .unset, .unset] [])) t → Steps p.tables e below (s₁.setTop (entryFrame m #[(.ref r0), (.int (44 : Int32)), (.int p2), (.int n)] 6)) t := fun t k => castTop (ef_rmIxL m r0 (44 : Int32) p2 n) k
  have w_0 : own_cf n c0 c1 c2 c3 5 p2 ↔ own_cf n c0 c1 c2 c3 5 p2 := Iff.rfl
  have st1 : own_S p e below s₁ (mkF m 10 #[.val (.ref r0), .val (.int (44 : Int32)), .val (.int p2), .val (.int n), .val (.int (44 : Int32)), .val (.int p2)] [(.int n), (.int p2)]) (mkF m 0 #[.val (.ref r0), .val (.int (44 : Int32)), .val (.int p2), .val (.int n), .unset, .unset] []) := by
    intro target kt
    refine XS.iloadN X0.here hx rfl (hb hby d19_0) rfl ?_
    refine XS.i2b X0.here hx rfl (hb hby d19_1) rfl ?_
    refine XS.istore X0.here hx rfl (hb hby d19_2) rfl (l' := #[.val (.ref r0), .val (.int (44 : Int32)), .val (.int p2), .val (.int n), .val (.int (44 : Int32)), .unset]) rfl ?_
    refine XS.iloadN X0.here hx rfl (hb hby d19_4) rfl ?_
    refine XS.istore X0.here hx rfl (hb hby d19_5) rfl (l' := #[.val (.ref r0), .val (.int (44 : Int32)), .val (.int p2), .val (.int n), .val (.int (44 : Int32)), .val (.int p2)]) rfl ?_
    refine XS.iload X0.here hx rfl (hb hby d19_7) rfl ?_
    refine XS.iloadN X0.here hx rfl (hb hby d19_9) rfl ?_
    exact kt
  by_cases hl_0 : p2 < n
  · have st2 : own_S p e below s₁ (mkF m 13 #[.val (.ref r0), .val (.int (44 : Int32)), .val (.int p2), .val (.int n), .val (.int (44 : Int32)), .val (.int p2)] []) (mkF m 10 #[.val (.ref r0), .val (.int (44 : Int32)), .val (.int p2), .val (.int n), .val (.int (44 : Int32)), .val (.int p2)] [(.int n), (.int p2)]) := by
      intro target kt
      refine XS.icmpNo X0.here hx rfl (hb hby d19_10) rfl (tlt hl_0).2.1 ?_
      exact kt
    have st3 : own_S p e below s₁ (mkF m 16 #[.val (.ref r0), .val (.int (44 : Int32)), .val (.int p2), .val (.int n), .val (.int (44 : Int32)), .val (.int p2)] [(.int p2), (.ref r0)]) (mkF m 13 #[.val (.ref r0), .val (.int (44 : Int32)), .val (.int p2), .val (.int n), .val (.int (44 : Int32)), .val (.int p2)] []) := by
      intro target kt
      refine XS.aloadN X0.here hx rfl (hb hby d19_13) rfl rfl ?_
      refine XS.iload X0.here hx rfl (hb hby d19_14) rfl ?_
      exact kt
    obtain ⟨cl4, Ar4, qc4, Sz4, Mn4, Hs4, Gs4⟩ := id Vy
    have hin4 : ¬ (p2 < 0 ∨ cl4.slots.size ≤ (p2).toNatClampNeg) := inb_of Sz4 ⟨own_nn hi, hl_0⟩
    have hat4 : cl4.slots[(p2).toNatClampNeg]? = some (.int ((own_at p2 c0 c1 c2 c3).toInt8.toInt32)) := Hs4.at hin4 (own_gal hi hN hl_0)
    have st4 : own_S p e below s₁ (mkF m 17 #[.val (.ref r0), .val (.int (44 : Int32)), .val (.int p2), .val (.int n), .val (.int (44 : Int32)), .val (.int p2)] [(.int ((own_at p2 c0 c1 c2 c3).toInt8.toInt32))]) (mkF m 16 #[.val (.ref r0), .val (.int (44 : Int32)), .val (.int p2), .val (.int n), .val (.int (44 : Int32)), .val (.int p2)] [(.int p2), (.ref r0)]) := fun target kt => X0.baloadBytes hx (j := p2) (v := (.int ((own_at p2 c0 c1 c2 c3).toInt8.toInt32))) (by rw [e0]; exact Ar4.1) (State.isArrayOf_alike hZ.alike Ar4.2.1) Ar4.2.2 hin4 hat4 (g := (mkF m 16 #[.val (.ref r0), .val (.int (44 : Int32)), .val (.int p2), .val (.int n), .val (.int (44 : Int32)), .val (.int p2)] [(.int p2), (.ref r0)])) rfl rfl (hb hby d19_16) _ kt
    have st5 : own_S p e below s₁ (mkF m 19 #[.val (.ref r0), .val (.int (44 : Int32)), .val (.int p2), .val (.int n), .val (.int (44 : Int32)), .val (.int p2)] [(.int (44 : Int32)), (.int ((own_at p2 c0 c1 c2 c3).toInt8.toInt32))]) (mkF m 17 #[.val (.ref r0), .val (.int (44 : Int32)), .val (.int p2), .val (.int n), .val (.int (44 : Int32)), .val (.int p2)] [(.int ((own_at p2 c0 c1 c2 c3).toInt8.toInt32))]) := by
      intro target kt
      refine XS.iload X0.here hx rfl (hb hby d19_17) rfl ?_
      exact kt
    by_cases hm_0 : ((own_at p2 c0 c1 c2 c3).toInt8.toInt32) = (44 : Int32)
    · have st6 : own_S p e below s₁ (mkF m 22 #[.val (.ref r0), .val (.int (44 : Int32)), .val (.int p2), .val (.int n), .val (.int (44 : Int32)), .val (.int p2)] []) (mkF m 19 #[.val (.ref r0), .val (.int (44 : Int32)), .val (.int p2), .val (.int n), .val (.int (44 : Int32)), .val (.int p2)] [(.int (44 : Int32)), (.int ((own_at p2 c0 c1 c2 c3).toInt8.toInt32))]) := by
        intro target kt
        refine XS.icmpNo X0.here hx rfl (hb hby d19_19) rfl (teq hm_0).2 ?_
        exact kt
      obtain ⟨fs, hr, hrun, hended, hW, hsame⟩ := X0.leave (v := some (.int p2)) (fun h => by rw [Bd.returns] at h; cases h)
      refine ⟨_, _, pre0 _ (st1 _ (st2 _ (st3 _ (st4 _ (st5 _ (st6 _ ?_)))))), hrun, hended, _, _, rfl, ?_, ⟨_, rfl⟩, hW, hsame.mono (by decide) (by decide)⟩
      · refine XS.iload X0.here hx rfl (hb hby d19_22) rfl ?_
        show Steps p.tables e below (s₁.setTop (mkF m 24 #[.val (.ref r0), .val (.int (44 : Int32)), .val (.int p2), .val (.int n), .val (.int (44 : Int32)), .val (.int p2)] [(.int p2)])) _
        exact retI X0 hx Bd.returns (hb hby d19_24) hr
      · show Q_rmIxL Z r0 p2 n cs fm ky c0 c1 c2 c3 h0 n0 _ s₁.heap _
        rw [e0]
        exact ⟨_, iff_of_false (own_nn hi) (fun q => q (w_0.mpr (own_cfy hl_0 ((own_b44 (own_cha hch).1 (own_la u0_ u1_ u2_ u3_)).mp hm_0)))), rfl, N0, rfl⟩
    · have st7 : own_S p e below s₁ (mkF m 25 #[.val (.ref r0), .val (.int (44 : Int32)), .val (.int p2), .val (.int n), .val (.int (44 : Int32)), .val (.int p2)] []) (mkF m 19 #[.val (.ref r0), .val (.int (44 : Int32)), .val (.int p2), .val (.int n), .val (.int (44 : Int32)), .val (.int p2)] [(.int (44 : Int32)), (.int ((own_at p2 c0 c1 c2 c3).toInt8.toInt32))]) := by
        intro target kt
        refine XS.icmpYes X0.here hx rfl (pc0 := 19) (pc' := 25) rfl (hb hby d19_19) rfl (feq hm_0).2 (by decide) (by decide) ?_
        exact kt
      have w_1 := w_0.trans (own_cfs (f := 4) hl_0 (fun q => hm_0 ((own_b44 (own_cha hch).1 (own_la u0_ u1_ u2_ u3_)).mpr q)))
      have hj_1 := own_nx hi hN hl_0
      have st8 : own_S p e below s₁ (mkF m 10 #[.val (.ref r0), .val (.int (44 : Int32)), .val (.int p2), .val (.int n), .val (.int (44 : Int32)), .val (.int (p2 + (1 : Int32)))] [(.int n), (.int (p2 + (1 : Int32)))]) (mkF m 25 #[.val (.ref r0), .val (.int (44 : Int32)), .val (.int p2), .val (.int n), .val (.int (44 : Int32)), .val (.int p2)] []) := by
        intro target kt
        refine XS.iinc X0.here hx rfl (hb hby d19_25) rfl (l' := #[.val (.ref r0), .val (.int (44 : Int32)), .val (.int p2), .val (.int n), .val (.int (44 : Int32)), .val (.int (p2 + (1 : Int32)))]) rfl ?_
        refine XS.goto X0.here hx rfl (pc0 := 28) (pc' := 7) rfl (hb hby d19_28) (by decide) (by decide) ?_
        refine XS.iload X0.here hx rfl (hb hby d19_7) rfl ?_
        refine XS.iloadN X0.here hx rfl (hb hby d19_9) rfl ?_
        exact kt
      by_cases hl_1 : (p2 + (1 : Int32)) < n
      · have st9 : own_S p e below s₁ (mkF m 13 #[.val (.ref r0), .val (.int (44 : Int32)), .val (.int p2), .val (.int n), .val (.int (44 : Int32)), .val (.int (p2 + (1 : Int32)))] []) (mkF m 10 #[.val (.ref r0), .val (.int (44 : Int32)), .val (.int p2), .val (.int n), .val (.int (44 : Int32)), .val (.int (p2 + (1 : Int32)))] [(.int n), (.int (p2 + (1 : Int32)))]) := by
          intro target kt
          refine XS.icmpNo X0.here hx rfl (hb hby d19_10) rfl (tlt hl_1).2.1 ?_
          exact kt
        have st10 : own_S p e below s₁ (mkF m 16 #[.val (.ref r0), .val (.int (44 : Int32)), .val (.int p2), .val (.int n), .val (.int (44 : Int32)), .val (.int (p2 + (1 : Int32)))] [(.int (p2 + (1 : Int32))), (.ref r0)]) (mkF m 13 #[.val (.ref r0), .val (.int (44 : Int32)), .val (.int p2), .val (.int n), .val (.int (44 : Int32)), .val (.int (p2 + (1 : Int32)))] []) := by
          intro target kt
          refine XS.aloadN X0.here hx rfl (hb hby d19_13) rfl rfl ?_
          refine XS.iload X0.here hx rfl (hb hby d19_14) rfl ?_
          exact kt
        obtain ⟨cl11, Ar11, qc11, Sz11, Mn11, Hs11, Gs11⟩ := id Vy
        have hin11 : ¬ ((p2 + (1 : Int32)) < 0 ∨ cl11.slots.size ≤ ((p2 + (1 : Int32))).toNatClampNeg) := inb_of Sz11 ⟨own_nn hj_1, hl_1⟩
        have hat11 : cl11.slots[((p2 + (1 : Int32))).toNatClampNeg]? = some (.int ((own_at (p2 + (1 : Int32)) c0 c1 c2 c3).toInt8.toInt32)) := Hs11.at hin11 (own_gal hj_1 hN hl_1)
        have st11 : own_S p e below s₁ (mkF m 17 #[.val (.ref r0), .val (.int (44 : Int32)), .val (.int p2), .val (.int n), .val (.int (44 : Int32)), .val (.int (p2 + (1 : Int32)))] [(.int ((own_at (p2 + (1 : Int32)) c0 c1 c2 c3).toInt8.toInt32))]) (mkF m 16 #[.val (.ref r0), .val (.int (44 : Int32)), .val (.int p2), .val (.int n), .val (.int (44 : Int32)), .val (.int (p2 + (1 : Int32)))] [(.int (p2 + (1 : Int32))), (.ref r0)]) := fun target kt => X0.baloadBytes hx (j := (p2 + (1 : Int32))) (v := (.int ((own_at (p2 + (1 : Int32)) c0 c1 c2 c3).toInt8.toInt32))) (by rw [e0]; exact Ar11.1) (State.isArrayOf_alike hZ.alike Ar11.2.1) Ar11.2.2 hin11 hat11 (g := (mkF m 16 #[.val (.ref r0), .val (.int (44 : Int32)), .val (.int p2), .val (.int n), .val (.int (44 : Int32)), .val (.int (p2 + (1 : Int32)))] [(.int (p2 + (1 : Int32))), (.ref r0)])) rfl rfl (hb hby d19_16) _ kt
        have st12 : own_S p e below s₁ (mkF m 19 #[.val (.ref r0), .val (.int (44 : Int32)), .val (.int p2), .val (.int n), .val (.int (44 : Int32)), .val (.int (p2 + (1 : Int32)))] [(.int (44 : Int32)), (.int ((own_at (p2 + (1 : Int32)) c0 c1 c2 c3).toInt8.toInt32))]) (mkF m 17 #[.val (.ref r0), .val (.int (44 : Int32)), .val (.int p2), .val (.int n), .val (.int (44 : Int32)), .val (.int (p2 + (1 : Int32)))] [(.int ((own_at (p2 + (1 : Int32)) c0 c1 c2 c3).toInt8.toInt32))]) := by
          intro target kt
          refine XS.iload X0.here hx rfl (hb hby d19_17) rfl ?_
          exact kt
        by_cases hm_1 : ((own_at (p2 + (1 : Int32)) c0 c1 c2 c3).toInt8.toInt32) = (44 : Int32)
        · have st13 : own_S p e below s₁ (mkF m 22 #[.val (.ref r0), .val (.int (44 : Int32)), .val (.int p2), .val (.int n), .val (.int (44 : Int32)), .val (.int (p2 + (1 : Int32)))] []) (mkF m 19 #[.val (.ref r0), .val (.int (44 : Int32)), .val (.int p2), .val (.int n), .val (.int (44 : Int32)), .val (.int (p2 + (1 : Int32)))] [(.int (44 : Int32)), (.int ((own_at (p2 + (1 : Int32)) c0 c1 c2 c3).toInt8.toInt32))]) := by
            intro target kt
            refine XS.icmpNo X0.here hx rfl (hb hby d19_19) rfl (teq hm_1).2 ?_
            exact kt
          obtain ⟨fs, hr, hrun, hended, hW, hsame⟩ := X0.leave (v := some (.int (p2 + (1 : Int32)))) (fun h => by rw [Bd.returns] at h; cases h)
          refine ⟨_, _, pre0 _ (st1 _ (st2 _ (st3 _ (st4 _ (st5 _ (st7 _ (st8 _ (st9 _ (st10 _ (st11 _ (st12 _ (st13 _ ?_)))))))))))), hrun, hended, _, _, rfl, ?_, ⟨_, rfl⟩, hW, hsame.mono (by decide) (by decide)⟩
          · refine XS.iload X0.here hx rfl (hb hby d19_22) rfl ?_
            show Steps p.tables e below (s₁.setTop (mkF m 24 #[.val (.ref r0), .val (.int (44 : Int32)), .val (.int p2), .val (.int n), .val (.int (44 : Int32)), .val (.int (p2 + (1 : Int32)))] [(.int (p2 + (1 : Int32)))])) _
            exact retI X0 hx Bd.returns (hb hby d19_24) hr
          · show Q_rmIxL Z r0 p2 n cs fm ky c0 c1 c2 c3 h0 n0 _ s₁.heap _
            rw [e0]
            exact ⟨_, iff_of_false (own_nn hj_1) (fun q => q (w_1.mpr (own_cfy hl_1 ((own_b44 (own_cha hch).1 (own_la u0_ u1_ u2_ u3_)).mp hm_1)))), rfl, N0, rfl⟩
        · have st14 : own_S p e below s₁ (mkF m 25 #[.val (.ref r0), .val (.int (44 : Int32)), .val (.int p2), .val (.int n), .val (.int (44 : Int32)), .val (.int (p2 + (1 : Int32)))] []) (mkF m 19 #[.val (.ref r0), .val (.int (44 : Int32)), .val (.int p2), .val (.int n), .val (.int (44 : Int32)), .val (.int (p2 + (1 : Int32)))] [(.int (44 : Int32)), (.int ((own_at (p2 + (1 : Int32)) c0 c1 c2 c3).toInt8.toInt32))]) := by
            intro target kt
            refine XS.icmpYes X0.here hx rfl (pc0 := 19) (pc' := 25) rfl (hb hby d19_19) rfl (feq hm_1).2 (by decide) (by decide) ?_
            exact kt
          have w_2 := w_1.trans (own_cfs (f := 3) hl_1 (fun q => hm_1 ((own_b44 (own_cha hch).1 (own_la u0_ u1_ u2_ u3_)).mpr q)))
          have hj_2 := own_nx hj_1 hN hl_1
          have st15 : own_S p e below s₁ (mkF m 10 #[.val (.ref r0), .val (.int (44 : Int32)), .val (.int p2), .val (.int n), .val (.int (44 : Int32)), .val (.int ((p2 + (1 : Int32)) + (1 : Int32)))] [(.int n), (.int ((p2 + (1 : Int32)) + (1 : Int32)))]) (mkF m 25 #[.val (.ref r0), .val (.int (44 : Int32)), .val (.int p2), .val (.int n), .val (.int (44 : Int32)), .val (.int (p2 + (1 : Int32)))] []) := by
            intro target kt
            refine XS.iinc X0.here hx rfl (hb hby d19_25) rfl (l' := #[.val (.ref r0), .val (.int (44 : Int32)), .val (.int p2), .val (.int n), .val (.int (44 : Int32)), .val (.int ((p2 + (1 : Int32)) + (1 : Int32)))]) rfl ?_
            refine XS.goto X0.here hx rfl (pc0 := 28) (pc' := 7) rfl (hb hby d19_28) (by decide) (by decide) ?_
            refine XS.iload X0.here hx rfl (hb hby d19_7) rfl ?_
            refine XS.iloadN X0.here hx rfl (hb hby d19_9) rfl ?_
            exact kt
          by_cases hl_2 : ((p2 + (1 : Int32)) + (1 : Int32)) < n
          · have st16 : own_S p e below s₁ (mkF m 13 #[.val (.ref r0), .val (.int (44 : Int32)), .val (.int p2), .val (.int n), .val (.int (44 : Int32)), .val (.int ((p2 + (1 : Int32)) + (1 : Int32)))] []) (mkF m 10 #[.val (.ref r0), .val (.int (44 : Int32)), .val (.int p2), .val (.int n), .val (.int (44 : Int32)), .val (.int ((p2 + (1 : Int32)) + (1 : Int32)))] [(.int n), (.int ((p2 + (1 : Int32)) + (1 : Int32)))]) := by
              intro target kt
              refine XS.icmpNo X0.here hx rfl (hb hby d19_10) rfl (tlt hl_2).2.1 ?_
              exact kt
            have st17 : own_S p e below s₁ (mkF m 16 #[.val (.ref r0), .val (.int (44 : Int32)), .val (.int p2), .val (.int n), .val (.int (44 : Int32)), .val (.int ((p2 + (1 : Int32)) + (1 : Int32)))] [(.int ((p2 + (1 : Int32)) + (1 : Int32))), (.ref r0)]) (mkF m 13 #[.val (.ref r0), .val (.int (44 : Int32)), .val (.int p2), .val (.int n), .val (.int (44 : Int32)), .val (.int ((p2 + (1 : Int32)) + (1 : Int32)))] []) := by
              intro target kt
              refine XS.aloadN X0.here hx rfl (hb hby d19_13) rfl rfl ?_
              refine XS.iload X0.here hx rfl (hb hby d19_14) rfl ?_
              exact kt
            obtain ⟨cl18, Ar18, qc18, Sz18, Mn18, Hs18, Gs18⟩ := id Vy
            have hin18 : ¬ (((p2 + (1 : Int32)) + (1 : Int32)) < 0 ∨ cl18.slots.size ≤ (((p2 + (1 : Int32)) + (1 : Int32))).toNatClampNeg) := inb_of Sz18 ⟨own_nn hj_2, hl_2⟩
            have hat18 : cl18.slots[(((p2 + (1 : Int32)) + (1 : Int32))).toNatClampNeg]? = some (.int ((own_at ((p2 + (1 : Int32)) + (1 : Int32)) c0 c1 c2 c3).toInt8.toInt32)) := Hs18.at hin18 (own_gal hj_2 hN hl_2)
            have st18 : own_S p e below s₁ (mkF m 17 #[.val (.ref r0), .val (.int (44 : Int32)), .val (.int p2), .val (.int n), .val (.int (44 : Int32)), .val (.int ((p2 + (1 : Int32)) + (1 : Int32)))] [(.int ((own_at ((p2 + (1 : Int32)) + (1 : Int32)) c0 c1 c2 c3).toInt8.toInt32))]) (mkF m 16 #[.val (.ref r0), .val (.int (44 : Int32)), .val (.int p2), .val (.int n), .val (.int (44 : Int32)), .val (.int ((p2 + (1 : Int32)) + (1 : Int32)))] [(.int ((p2 + (1 : Int32)) + (1 : Int32))), (.ref r0)]) := fun target kt => X0.baloadBytes hx (j := ((p2 + (1 : Int32)) + (1 : Int32))) (v := (.int ((own_at ((p2 + (1 : Int32)) + (1 : Int32)) c0 c1 c2 c3).toInt8.toInt32))) (by rw [e0]; exact Ar18.1) (State.isArrayOf_alike hZ.alike Ar18.2.1) Ar18.2.2 hin18 hat18 (g := (mkF m 16 #[.val (.ref r0), .val (.int (44 : Int32)), .val (.int p2), .val (.int n), .val (.int (44 : Int32)), .val (.int ((p2 + (1 : Int32)) + (1 : Int32)))] [(.int ((p2 + (1 : Int32)) + (1 : Int32))), (.ref r0)])) rfl rfl (hb hby d19_16) _ kt
            have st19 : own_S p e below s₁ (mkF m 19 #[.val (.ref r0), .val (.int (44 : Int32)), .val (.int p2), .val (.int n), .val (.int (44 : Int32)), .val (.int ((p2 + (1 : Int32)) + (1 : Int32)))] [(.int (44 : Int32)), (.int ((own_at ((p2 + (1 : Int32)) + (1 : Int32)) c0 c1 c2 c3).toInt8.toInt32))]) (mkF m 17 #[.val (.ref r0), .val (.int (44 : Int32)), .val (.int p2), .val (.int n), .val (.int (44 : Int32)), .val (.int ((p2 + (1 : Int32)) + (1 : Int32)))] [(.int ((own_at ((p2 + (1 : Int32)) + (1 : Int32)) c0 c1 c2 c3).toInt8.toInt32))]) := by
              intro target kt
              refine XS.iload X0.here hx rfl (hb hby d19_17) rfl ?_
              exact kt
            by_cases hm_2 : ((own_at ((p2 + (1 : Int32)) + (1 : Int32)) c0 c1 c2 c3).toInt8.toInt32) = (44 : Int32)
            · have st20 : own_S p e below s₁ (mkF m 22 #[.val (.ref r0), .val (.int (44 : Int32)), .val (.int p2), .val (.int n), .val (.int (44 : Int32)), .val (.int ((p2 + (1 : Int32)) + (1 : Int32)))] []) (mkF m 19 #[.val (.ref r0), .val (.int (44 : Int32)), .val (.int p2), .val (.int n), .val (.int (44 : Int32)), .val (.int ((p2 + (1 : Int32)) + (1 : Int32)))] [(.int (44 : Int32)), (.int ((own_at ((p2 + (1 : Int32)) + (1 : Int32)) c0 c1 c2 c3).toInt8.toInt32))]) := by
                intro target kt
                refine XS.icmpNo X0.here hx rfl (hb hby d19_19) rfl (teq hm_2).2 ?_
                exact kt
              obtain ⟨fs, hr, hrun, hended, hW, hsame⟩ := X0.leave (v := some (.int ((p2 + (1 : Int32)) + (1 : Int32)))) (fun h => by rw [Bd.returns] at h; cases h)
              refine ⟨_, _, pre0 _ (st1 _ (st2 _ (st3 _ (st4 _ (st5 _ (st7 _ (st8 _ (st9 _ (st10 _ (st11 _ (st12 _ (st14 _ (st15 _ (st16 _ (st17 _ (st18 _ (st19 _ (st20 _ ?_)))))))))))))))))), hrun, hended, _, _, rfl, ?_, ⟨_, rfl⟩, hW, hsame.mono (by decide) (by decide)⟩
              · refine XS.iload X0.here hx rfl (hb hby d19_22) rfl ?_
                show Steps p.tables e below (s₁.setTop (mkF m 24 #[.val (.ref r0), .val (.int (44 : Int32)), .val (.int p2), .val (.int n), .val (.int (44 : Int32)), .val (.int ((p2 + (1 : Int32)) + (1 : Int32)))] [(.int ((p2 + (1 : Int32)) + (1 : Int32)))])) _
                exact retI X0 hx Bd.returns (hb hby d19_24) hr
              · show Q_rmIxL Z r0 p2 n cs fm ky c0 c1 c2 c3 h0 n0 _ s₁.heap _
                rw [e0]
                exact ⟨_, iff_of_false (own_nn hj_2) (fun q => q (w_2.mpr (own_cfy hl_2 ((own_b44 (own_cha hch).1 (own_la u0_ u1_ u2_ u3_)).mp hm_2)))), rfl, N0, rfl⟩
            · have st21 : own_S p e below s₁ (mkF m 25 #[.val (.ref r0), .val (.int (44 : Int32)), .val (.int p2), .val (.int n), .val (.int (44 : Int32)), .val (.int ((p2 + (1 : Int32)) + (1 : Int32)))] []) (mkF m 19 #[.val (.ref r0), .val (.int (44 : Int32)), .val (.int p2), .val (.int n), .val (.int (44 : Int32)), .val (.int ((p2 + (1 : Int32)) + (1 : Int32)))] [(.int (44 : Int32)), (.int ((own_at ((p2 + (1 : Int32)) + (1 : Int32)) c0 c1 c2 c3).toInt8.toInt32))]) := by
                intro target kt
                refine XS.icmpYes X0.here hx rfl (pc0 := 19) (pc' := 25) rfl (hb hby d19_19) rfl (feq hm_2).2 (by decide) (by decide) ?_
                exact kt
              have w_3 := w_2.trans (own_cfs (f := 2) hl_2 (fun q => hm_2 ((own_b44 (own_cha hch).1 (own_la u0_ u1_ u2_ u3_)).mpr q)))
              have hj_3 := own_nx hj_2 hN hl_2
              have st22 : own_S p e below s₁ (mkF m 10 #[.val (.ref r0), .val (.int (44 : Int32)), .val (.int p2), .val (.int n), .val (.int (44 : Int32)), .val (.int (((p2 + (1 : Int32)) + (1 : Int32)) + (1 : Int32)))] [(.int n), (.int (((p2 + (1 : Int32)) + (1 : Int32)) + (1 : Int32)))]) (mkF m 25 #[.val (.ref r0), .val (.int (44 : Int32)), .val (.int p2), .val (.int n), .val (.int (44 : Int32)), .val (.int ((p2 + (1 : Int32)) + (1 : Int32)))] []) := by
                intro target kt
                refine XS.iinc X0.here hx rfl (hb hby d19_25) rfl (l' := #[.val (.ref r0), .val (.int (44 : Int32)), .val (.int p2), .val (.int n), .val (.int (44 : Int32)), .val (.int (((p2 + (1 : Int32)) + (1 : Int32)) + (1 : Int32)))]) rfl ?_
                refine XS.goto X0.here hx rfl (pc0 := 28) (pc' := 7) rfl (hb hby d19_28) (by decide) (by decide) ?_
                refine XS.iload X0.here hx rfl (hb hby d19_7) rfl ?_
                refine XS.iloadN X0.here hx rfl (hb hby d19_9) rfl ?_
                exact kt
              by_cases hl_3 : (((p2 + (1 : Int32)) + (1 : Int32)) + (1 : Int32)) < n
              · have st23 : own_S p e below s₁ (mkF m 13 #[.val (.ref r0), .val (.int (44 : Int32)), .val (.int p2), .val (.int n), .val (.int (44 : Int32)), .val (.int (((p2 + (1 : Int32)) + (1 : Int32)) + (1 : Int32)))] []) (mkF m 10 #[.val (.ref r0), .val (.int (44 : Int32)), .val (.int p2), .val (.int n), .val (.int (44 : Int32)), .val (.int (((p2 + (1 : Int32)) + (1 : Int32)) + (1 : Int32)))] [(.int n), (.int (((p2 + (1 : Int32)) + (1 : Int32)) + (1 : Int32)))]) := by
                  intro target kt
                  refine XS.icmpNo X0.here hx rfl (hb hby d19_10) rfl (tlt hl_3).2.1 ?_
                  exact kt
                have st24 : own_S p e below s₁ (mkF m 16 #[.val (.ref r0), .val (.int (44 : Int32)), .val (.int p2), .val (.int n), .val (.int (44 : Int32)), .val (.int (((p2 + (1 : Int32)) + (1 : Int32)) + (1 : Int32)))] [(.int (((p2 + (1 : Int32)) + (1 : Int32)) + (1 : Int32))), (.ref r0)]) (mkF m 13 #[.val (.ref r0), .val (.int (44 : Int32)), .val (.int p2), .val (.int n), .val (.int (44 : Int32)), .val (.int (((p2 + (1 : Int32)) + (1 : Int32)) + (1 : Int32)))] []) := by
                  intro target kt
                  refine XS.aloadN X0.here hx rfl (hb hby d19_13) rfl rfl ?_
                  refine XS.iload X0.here hx rfl (hb hby d19_14) rfl ?_
                  exact kt
                obtain ⟨cl25, Ar25, qc25, Sz25, Mn25, Hs25, Gs25⟩ := id Vy
                have hin25 : ¬ ((((p2 + (1 : Int32)) + (1 : Int32)) + (1 : Int32)) < 0 ∨ cl25.slots.size ≤ ((((p2 + (1 : Int32)) + (1 : Int32)) + (1 : Int32))).toNatClampNeg) := inb_of Sz25 ⟨own_nn hj_3, hl_3⟩
                have hat25 : cl25.slots[((((p2 + (1 : Int32)) + (1 : Int32)) + (1 : Int32))).toNatClampNeg]? = some (.int ((own_at (((p2 + (1 : Int32)) + (1 : Int32)) + (1 : Int32)) c0 c1 c2 c3).toInt8.toInt32)) := Hs25.at hin25 (own_gal hj_3 hN hl_3)
                have st25 : own_S p e below s₁ (mkF m 17 #[.val (.ref r0), .val (.int (44 : Int32)), .val (.int p2), .val (.int n), .val (.int (44 : Int32)), .val (.int (((p2 + (1 : Int32)) + (1 : Int32)) + (1 : Int32)))] [(.int ((own_at (((p2 + (1 : Int32)) + (1 : Int32)) + (1 : Int32)) c0 c1 c2 c3).toInt8.toInt32))]) (mkF m 16 #[.val (.ref r0), .val (.int (44 : Int32)), .val (.int p2), .val (.int n), .val (.int (44 : Int32)), .val (.int (((p2 + (1 : Int32)) + (1 : Int32)) + (1 : Int32)))] [(.int (((p2 + (1 : Int32)) + (1 : Int32)) + (1 : Int32))), (.ref r0)]) := fun target kt => X0.baloadBytes hx (j := (((p2 + (1 : Int32)) + (1 : Int32)) + (1 : Int32))) (v := (.int ((own_at (((p2 + (1 : Int32)) + (1 : Int32)) + (1 : Int32)) c0 c1 c2 c3).toInt8.toInt32))) (by rw [e0]; exact Ar25.1) (State.isArrayOf_alike hZ.alike Ar25.2.1) Ar25.2.2 hin25 hat25 (g := (mkF m 16 #[.val (.ref r0), .val (.int (44 : Int32)), .val (.int p2), .val (.int n), .val (.int (44 : Int32)), .val (.int (((p2 + (1 : Int32)) + (1 : Int32)) + (1 : Int32)))] [(.int (((p2 + (1 : Int32)) + (1 : Int32)) + (1 : Int32))), (.ref r0)])) rfl rfl (hb hby d19_16) _ kt
                have st26 : own_S p e below s₁ (mkF m 19 #[.val (.ref r0), .val (.int (44 : Int32)), .val (.int p2), .val (.int n), .val (.int (44 : Int32)), .val (.int (((p2 + (1 : Int32)) + (1 : Int32)) + (1 : Int32)))] [(.int (44 : Int32)), (.int ((own_at (((p2 + (1 : Int32)) + (1 : Int32)) + (1 : Int32)) c0 c1 c2 c3).toInt8.toInt32))]) (mkF m 17 #[.val (.ref r0), .val (.int (44 : Int32)), .val (.int p2), .val (.int n), .val (.int (44 : Int32)), .val (.int (((p2 + (1 : Int32)) + (1 : Int32)) + (1 : Int32)))] [(.int ((own_at (((p2 + (1 : Int32)) + (1 : Int32)) + (1 : Int32)) c0 c1 c2 c3).toInt8.toInt32))]) := by
                  intro target kt
                  refine XS.iload X0.here hx rfl (hb hby d19_17) rfl ?_
                  exact kt
                by_cases hm_3 : ((own_at (((p2 + (1 : Int32)) + (1 : Int32)) + (1 : Int32)) c0 c1 c2 c3).toInt8.toInt32) = (44 : Int32)
                · have st27 : own_S p e below s₁ (mkF m 22 #[.val (.ref r0), .val (.int (44 : Int32)), .val (.int p2), .val (.int n), .val (.int (44 : Int32)), .val (.int (((p2 + (1 : Int32)) + (1 : Int32)) + (1 : Int32)))] []) (mkF m 19 #[.val (.ref r0), .val (.int (44 : Int32)), .val (.int p2), .val (.int n), .val (.int (44 : Int32)), .val (.int (((p2 + (1 : Int32)) + (1 : Int32)) + (1 : Int32)))] [(.int (44 : Int32)), (.int ((own_at (((p2 + (1 : Int32)) + (1 : Int32)) + (1 : Int32)) c0 c1 c2 c3).toInt8.toInt32))]) := by
                    intro target kt
                    refine XS.icmpNo X0.here hx rfl (hb hby d19_19) rfl (teq hm_3).2 ?_
                    exact kt
                  obtain ⟨fs, hr, hrun, hended, hW, hsame⟩ := X0.leave (v := some (.int (((p2 + (1 : Int32)) + (1 : Int32)) + (1 : Int32)))) (fun h => by rw [Bd.returns] at h; cases h)
                  refine ⟨_, _, pre0 _ (st1 _ (st2 _ (st3 _ (st4 _ (st5 _ (st7 _ (st8 _ (st9 _ (st10 _ (st11 _ (st12 _ (st14 _ (st15 _ (st16 _ (st17 _ (st18 _ (st19 _ (st21 _ (st22 _ (st23 _ (st24 _ (st25 _ (st26 _ (st27 _ ?_)))))))))))))))))))))))), hrun, hended, _, _, rfl, ?_, ⟨_, rfl⟩, hW, hsame.mono (by decide) (by decide)⟩
                  · refine XS.iload X0.here hx rfl (hb hby d19_22) rfl ?_
                    show Steps p.tables e below (s₁.setTop (mkF m 24 #[.val (.ref r0), .val (.int (44 : Int32)), .val (.int p2), .val (.int n), .val (.int (44 : Int32)), .val (.int (((p2 + (1 : Int32)) + (1 : Int32)) + (1 : Int32)))] [(.int (((p2 + (1 : Int32)) + (1 : Int32)) + (1 : Int32)))])) _
                    exact retI X0 hx Bd.returns (hb hby d19_24) hr
                  · show Q_rmIxL Z r0 p2 n cs fm ky c0 c1 c2 c3 h0 n0 _ s₁.heap _
                    rw [e0]
                    exact ⟨_, iff_of_false (own_nn hj_3) (fun q => q (w_3.mpr (own_cfy hl_3 ((own_b44 (own_cha hch).1 (own_la u0_ u1_ u2_ u3_)).mp hm_3)))), rfl, N0, rfl⟩
                · have st28 : own_S p e below s₁ (mkF m 25 #[.val (.ref r0), .val (.int (44 : Int32)), .val (.int p2), .val (.int n), .val (.int (44 : Int32)), .val (.int (((p2 + (1 : Int32)) + (1 : Int32)) + (1 : Int32)))] []) (mkF m 19 #[.val (.ref r0), .val (.int (44 : Int32)), .val (.int p2), .val (.int n), .val (.int (44 : Int32)), .val (.int (((p2 + (1 : Int32)) + (1 : Int32)) + (1 : Int32)))] [(.int (44 : Int32)), (.int ((own_at (((p2 + (1 : Int32)) + (1 : Int32)) + (1 : Int32)) c0 c1 c2 c3).toInt8.toInt32))]) := by
                    intro target kt
                    refine XS.icmpYes X0.here hx rfl (pc0 := 19) (pc' := 25) rfl (hb hby d19_19) rfl (feq hm_3).2 (by decide) (by decide) ?_
                    exact kt
                  have w_4 := w_3.trans (own_cfs (f := 1) hl_3 (fun q => hm_3 ((own_b44 (own_cha hch).1 (own_la u0_ u1_ u2_ u3_)).mpr q)))
                  have hj_4 := own_nx hj_3 hN hl_3
                  have st29 : own_S p e below s₁ (mkF m 10 #[.val (.ref r0), .val (.int (44 : Int32)), .val (.int p2), .val (.int n), .val (.int (44 : Int32)), .val (.int ((((p2 + (1 : Int32)) + (1 : Int32)) + (1 : Int32)) + (1 : Int32)))] [(.int n), (.int ((((p2 + (1 : Int32)) + (1 : Int32)) + (1 : Int32)) + (1 : Int32)))]) (mkF m 25 #[.val (.ref r0), .val (.int (44 : Int32)), .val (.int p2), .val (.int n), .val (.int (44 : Int32)), .val (.int (((p2 + (1 : Int32)) + (1 : Int32)) + (1 : Int32)))] []) := by
                    intro target kt
                    refine XS.iinc X0.here hx rfl (hb hby d19_25) rfl (l' := #[.val (.ref r0), .val (.int (44 : Int32)), .val (.int p2), .val (.int n), .val (.int (44 : Int32)), .val (.int ((((p2 + (1 : Int32)) + (1 : Int32)) + (1 : Int32)) + (1 : Int32)))]) rfl ?_
                    refine XS.goto X0.here hx rfl (pc0 := 28) (pc' := 7) rfl (hb hby d19_28) (by decide) (by decide) ?_
                    refine XS.iload X0.here hx rfl (hb hby d19_7) rfl ?_
                    refine XS.iloadN X0.here hx rfl (hb hby d19_9) rfl ?_
                    exact kt
                  have g4_ := own_four hi hN (i := p2)
                  have st30 : own_S p e below s₁ (mkF m 31 #[.val (.ref r0), .val (.int (44 : Int32)), .val (.int p2), .val (.int n), .val (.int (44 : Int32)), .val (.int ((((p2 + (1 : Int32)) + (1 : Int32)) + (1 : Int32)) + (1 : Int32)))] []) (mkF m 10 #[.val (.ref r0), .val (.int (44 : Int32)), .val (.int p2), .val (.int n), .val (.int (44 : Int32)), .val (.int ((((p2 + (1 : Int32)) + (1 : Int32)) + (1 : Int32)) + (1 : Int32)))] [(.int n), (.int ((((p2 + (1 : Int32)) + (1 : Int32)) + (1 : Int32)) + (1 : Int32)))]) := by
                    intro target kt
                    refine XS.icmpYes X0.here hx rfl (pc0 := 10) (pc' := 31) rfl (hb hby d19_10) rfl (flt g4_).2.1 (by decide) (by decide) ?_
                    exact kt
                  obtain ⟨fs, hr, hrun, hended, hW, hsame⟩ := X0.leave (v := some (.int (-1 : Int32))) (fun h => by rw [Bd.returns] at h; cases h)
                  refine ⟨_, _, pre0 _ (st1 _ (st2 _ (st3 _ (st4 _ (st5 _ (st7 _ (st8 _ (st9 _ (st10 _ (st11 _ (st12 _ (st14 _ (st15 _ (st16 _ (st17 _ (st18 _ (st19 _ (st21 _ (st22 _ (st23 _ (st24 _ (st25 _ (st26 _ (st28 _ (st29 _ (st30 _ ?_)))))))))))))))))))))))))), hrun, hended, _, _, rfl, ?_, ⟨_, rfl⟩, hW, hsame.mono (by decide) (by decide)⟩
                  · refine XS.iconst X0.here hx rfl (hb hby d19_31) ?_
                    show Steps p.tables e below (s₁.setTop (mkF m 32 #[.val (.ref r0), .val (.int (44 : Int32)), .val (.int p2), .val (.int n), .val (.int (44 : Int32)), .val (.int ((((p2 + (1 : Int32)) + (1 : Int32)) + (1 : Int32)) + (1 : Int32)))] [(.int (-1 : Int32))])) _
                    exact retI X0 hx Bd.returns (hb hby d19_32) hr
                  · show Q_rmIxL Z r0 p2 n cs fm ky c0 c1 c2 c3 h0 n0 _ s₁.heap _
                    rw [e0]
                    exact ⟨_, iff_of_true (by decide) (fun q => own_cfn g4_ (w_4.mp q)), rfl, N0, rfl⟩
              · have st31 : own_S p e below s₁ (mkF m 31 #[.val (.ref r0), .val (.int (44 : Int32)), .val (.int p2), .val (.int n), .val (.int (44 : Int32)), .val (.int (((p2 + (1 : Int32)) + (1 : Int32)) + (1 : Int32)))] []) (mkF m 10 #[.val (.ref r0), .val (.int (44 : Int32)), .val (.int p2), .val (.int n), .val (.int (44 : Int32)), .val (.int (((p2 + (1 : Int32)) + (1 : Int32)) + (1 : Int32)))] [(.int n), (.int (((p2 + (1 : Int32)) + (1 : Int32)) + (1 : Int32)))]) := by
                  intro target kt
                  refine XS.icmpYes X0.here hx rfl (pc0 := 10) (pc' := 31) rfl (hb hby d19_10) rfl (flt hl_3).2.1 (by decide) (by decide) ?_
                  exact kt
                obtain ⟨fs, hr, hrun, hended, hW, hsame⟩ := X0.leave (v := some (.int (-1 : Int32))) (fun h => by rw [Bd.returns] at h; cases h)
                refine ⟨_, _, pre0 _ (st1 _ (st2 _ (st3 _ (st4 _ (st5 _ (st7 _ (st8 _ (st9 _ (st10 _ (st11 _ (st12 _ (st14 _ (st15 _ (st16 _ (st17 _ (st18 _ (st19 _ (st21 _ (st22 _ (st31 _ ?_)))))))))))))))))))), hrun, hended, _, _, rfl, ?_, ⟨_, rfl⟩, hW, hsame.mono (by decide) (by decide)⟩
                · refine XS.iconst X0.here hx rfl (hb hby d19_31) ?_
                  show Steps p.tables e below (s₁.setTop (mkF m 32 #[.val (.ref r0), .val (.int (44 : Int32)), .val (.int p2), .val (.int n), .val (.int (44 : Int32)), .val (.int (((p2 + (1 : Int32)) + (1 : Int32)) + (1 : Int32)))] [(.int (-1 : Int32))])) _
                  exact retI X0 hx Bd.returns (hb hby d19_32) hr
                · show Q_rmIxL Z r0 p2 n cs fm ky c0 c1 c2 c3 h0 n0 _ s₁.heap _
                  rw [e0]
                  exact ⟨_, iff_of_true (by decide) (fun q => own_cfn hl_3 (w_3.mp q)), rfl, N0, rfl⟩
          · have st32 : own_S p e below s₁ (mkF m 31 #[.val (.ref r0), .val (.int (44 : Int32)), .val (.int p2), .val (.int n), .val (.int (44 : Int32)), .val (.int ((p2 + (1 : Int32)) + (1 : Int32)))] []) (mkF m 10 #[.val (.ref r0), .val (.int (44 : Int32)), .val (.int p2), .val (.int n), .val (.int (44 : Int32)), .val (.int ((p2 + (1 : Int32)) + (1 : Int32)))] [(.int n), (.int ((p2 + (1 : Int32)) + (1 : Int32)))]) := by
              intro target kt
              refine XS.icmpYes X0.here hx rfl (pc0 := 10) (pc' := 31) rfl (hb hby d19_10) rfl (flt hl_2).2.1 (by decide) (by decide) ?_
              exact kt
            obtain ⟨fs, hr, hrun, hended, hW, hsame⟩ := X0.leave (v := some (.int (-1 : Int32))) (fun h => by rw [Bd.returns] at h; cases h)
            refine ⟨_, _, pre0 _ (st1 _ (st2 _ (st3 _ (st4 _ (st5 _ (st7 _ (st8 _ (st9 _ (st10 _ (st11 _ (st12 _ (st14 _ (st15 _ (st32 _ ?_)))))))))))))), hrun, hended, _, _, rfl, ?_, ⟨_, rfl⟩, hW, hsame.mono (by decide) (by decide)⟩
            · refine XS.iconst X0.here hx rfl (hb hby d19_31) ?_
              show Steps p.tables e below (s₁.setTop (mkF m 32 #[.val (.ref r0), .val (.int (44 : Int32)), .val (.int p2), .val (.int n), .val (.int (44 : Int32)), .val (.int ((p2 + (1 : Int32)) + (1 : Int32)))] [(.int (-1 : Int32))])) _
              exact retI X0 hx Bd.returns (hb hby d19_32) hr
            · show Q_rmIxL Z r0 p2 n cs fm ky c0 c1 c2 c3 h0 n0 _ s₁.heap _
              rw [e0]
              exact ⟨_, iff_of_true (by decide) (fun q => own_cfn hl_2 (w_2.mp q)), rfl, N0, rfl⟩
      · have st33 : own_S p e below s₁ (mkF m 31 #[.val (.ref r0), .val (.int (44 : Int32)), .val (.int p2), .val (.int n), .val (.int (44 : Int32)), .val (.int (p2 + (1 : Int32)))] []) (mkF m 10 #[.val (.ref r0), .val (.int (44 : Int32)), .val (.int p2), .val (.int n), .val (.int (44 : Int32)), .val (.int (p2 + (1 : Int32)))] [(.int n), (.int (p2 + (1 : Int32)))]) := by
          intro target kt
          refine XS.icmpYes X0.here hx rfl (pc0 := 10) (pc' := 31) rfl (hb hby d19_10) rfl (flt hl_1).2.1 (by decide) (by decide) ?_
          exact kt
        obtain ⟨fs, hr, hrun, hended, hW, hsame⟩ := X0.leave (v := some (.int (-1 : Int32))) (fun h => by rw [Bd.returns] at h; cases h)
        refine ⟨_, _, pre0 _ (st1 _ (st2 _ (st3 _ (st4 _ (st5 _ (st7 _ (st8 _ (st33 _ ?_)))))))), hrun, hended, _, _, rfl, ?_, ⟨_, rfl⟩, hW, hsame.mono (by decide) (by decide)⟩
        · refine XS.iconst X0.here hx rfl (hb hby d19_31) ?_
          show Steps p.tables e below (s₁.setTop (mkF m 32 #[.val (.ref r0), .val (.int (44 : Int32)), .val (.int p2), .val (.int n), .val (.int (44 : Int32)), .val (.int (p2 + (1 : Int32)))] [(.int (-1 : Int32))])) _
          exact retI X0 hx Bd.returns (hb hby d19_32) hr
        · show Q_rmIxL Z r0 p2 n cs fm ky c0 c1 c2 c3 h0 n0 _ s₁.heap _
          rw [e0]
          exact ⟨_, iff_of_true (by decide) (fun q => own_cfn hl_1 (w_1.mp q)), rfl, N0, rfl⟩
  · have st34 : own_S p e below s₁ (mkF m 31 #[.val (.ref r0), .val (.int (44 : Int32)), .val (.int p2), .val (.int n), .val (.int (44 : Int32)), .val (.int p2)] []) (mkF m 10 #[.val (.ref r0), .val (.int (44 : Int32)), .val (.int p2), .val (.int n), .val (.int (44 : Int32)), .val (.int p2)] [(.int n), (.int p2)]) := by
      intro target kt
      refine XS.icmpYes X0.here hx rfl (pc0 := 10) (pc' := 31) rfl (hb hby d19_10) rfl (flt hl_0).2.1 (by decide) (by decide) ?_
      exact kt
    obtain ⟨fs, hr, hrun, hended, hW, hsame⟩ := X0.leave (v := some (.int (-1 : Int32))) (fun h => by rw [Bd.returns] at h; cases h)
    refine ⟨_, _, pre0 _ (st1 _ (st34 _ ?_)), hrun, hended, _, _, rfl, ?_, ⟨_, rfl⟩, hW, hsame.mono (by decide) (by decide)⟩
    · refine XS.iconst X0.here hx rfl (hb hby d19_31) ?_
      show Steps p.tables e below (s₁.setTop (mkF m 32 #[.val (.ref r0), .val (.int (44 : Int32)), .val (.int p2), .val (.int n), .val (.int (44 : Int32)), .val (.int p2)] [(.int (-1 : Int32))])) _
      exact retI X0 hx Bd.returns (hb hby d19_32) hr
    · show Q_rmIxL Z r0 p2 n cs fm ky c0 c1 c2 c3 h0 n0 _ s₁.heap _
      rw [e0]
      exact ⟨_, iff_of_true (by decide) (fun q => own_cfn hl_0 (w_0.mp q)), rfl, N0, rfl⟩
theorem d42_0 : decode jdk_52_method_48_code 0 = .ok (.iload_n 2, 1) := by decide +kernel
theorem d42_1 : decode jdk_52_method_48_code 1 = .ok (.istore 4, 2) := by decide +kernel
theorem d42_3 : decode jdk_52_method_48_code 3 = .ok (.iload 4, 2) := by decide +kernel
theorem d42_5 : decode jdk_52_method_48_code 5 = .ok (.iload_n 3, 1) := by decide +kernel
theorem d42_6 : decode jdk_52_method_48_code 6 = .ok (.if_icmp .ge 22, 3) := by decide +kernel
theorem d42_9 : decode jdk_52_method_48_code 9 = .ok (.aload_n 0, 1) := by decide +kernel
theorem d42_10 : decode jdk_52_method_48_code 10 = .ok (.iload 4, 2) := by decide +kernel
theorem d42_12 : decode jdk_52_method_48_code 12 = .ok (.invokestatic 71, 3) := by decide +kernel
theorem d42_15 : decode jdk_52_method_48_code 15 = .ok (.iload_n 1, 1) := by decide +kernel
theorem d42_16 : decode jdk_52_method_48_code 16 = .ok (.if_icmp .ne 6, 3) := by decide +kernel
theorem d42_19 : decode jdk_52_method_48_code 19 = .ok (.iload 4, 2) := by decide +kernel
theorem d42_21 : decode jdk_52_method_48_code 21 = .ok (.ireturn, 1) := by decide +kernel
theorem d42_22 : decode jdk_52_method_48_code 22 = .ok (.iinc 4 1, 3) := by decide +kernel
theorem d42_25 : decode jdk_52_method_48_code 25 = .ok (.goto (-22), 3) := by decide +kernel
theorem d42_28 : decode jdk_52_method_48_code 28 = .ok (.iconst (-1), 1) := by decide +kernel
theorem d42_29 : decode jdk_52_method_48_code 29 = .ok (.ireturn, 1) := by decide +kernel
theorem ef_rmIxU (m : MethodId) (x0 : Addr) (x1 : Int32) (x2 : Int32) (x3 : Int32) : entryFrame m #[(.ref x0), (.int x1), (.int x2), (.int x3)] 5 = mkF m 0 #[.val (.ref x0), .val (.int x1), .val (.int x2), .val (.int x3), .unset] [] := by first | (simp [entryFrame, mkF, argsToLocals, Value.category]; done) | rfl
def Q_rmIxU (Z : State) (r0 : Addr) (p2 : Int32) (n : Int32) (cs : Int32) (fm : Value) (ky : ClassId) (c0 : Int32) (c1 : Int32) (c2 : Int32) (c3 : Int32) (h0 : Heap) (n0 : Nat) (v : Option Value) (h : Heap) (L : List Loc) : Prop := ∃ z : Int32, (z < 0 ↔ ¬ own_cf n c0 c1 c2 c3 5 p2) ∧ v = some (.int z) ∧ Fr n0 L ∧ h = h0
set_option maxRecDepth 65536 in
set_option maxHeartbeats 40000000 in
theorem rmIxU (l : Launch) (Z : State) (a0 : Array Value) (hw : ∀ d ∈ tables_1, d.before a0 Z = true) (ws : List Jvm.Cond) (r0 : Addr) (p2 : Int32) (n : Int32) (cs : Int32) (fm : Value) (ky : ClassId) (c0 : Int32) (c1 : Int32) (c2 : Int32) (c3 : Int32) (h0 : Heap) (n0 : Nat) (Z0 : n0 ≤ h0.size) (SB : own_St Z cs fm) (Od : Old Z n0 h0) (Vy : Arv Z h0 r0 ky .byte (n + n) [(.int (own_lo c0)), (.int (own_hi c0)), (.int (own_lo c1)), (.int (own_hi c1)), (.int (own_lo c2)), (.int (own_hi c2)), (.int (own_lo c3)), (.int (own_hi c3))] (.int (0 : Int32))) (hN : own_n n) (hch : own_chs c0 c1 c2 c3) (hi : own_n p2) :
    MetFree l (⟨"java/lang/StringUTF16", "indexOfCharUnsafe", "([BIII)I"⟩ : MethodName) (head1 (Jvm.Cond.code (⟨"java/lang/StringUTF16", "indexOfCharUnsafe", "([BIII)I"⟩ : MethodName) jdk_52_method_48_code 5 (some .int) :: ws) ({ frames := 1, cells := 0, slots := 0, locals := 13 } : Room)) (fun a U => a = #[(.ref r0), (.int (44 : Int32)), (.int p2), (.int n)] ∧ Z.Warmed39 U.vm ∧ U.heap = h0) (fun _ _ _ _ _ => True) (fun _ U o U' => ∃ v L, o = .returned v ∧ Q_rmIxU Z r0 p2 n cs fm ky c0 c1 c2 c3 h0 n0 v U'.heap L ∧ FrameEnd U o U' L ({ frames := 1, cells := 0, slots := 0, locals := 13 } : Room).cells ({ frames := 1, cells := 0, slots := 0, locals := 13 } : Room).slots) := by
  refine MetFree.of_bodySF (plainFor_of_name pn_1) hisR ?_
  intro p e s m args below meth c s₁ Bd hml0 hP hK
  obtain ⟨rfl, hZ, hh⟩ := hP
  have hx := Bd.exec
  have hby := Bd.bytes
  have hml : c.maxLocals = 5 := hml0
  have hown : s.vm.findClass "java/lang/StringUTF16" = some m.cls := findClass_of_methodNamed Bd.named
  have hnm := (name_of_methodNamed Bd.named Bd.method).1
  have X0 : Stand p l e ({ frames := 1, cells := 0, slots := 0, locals := 13 } : Room) s m #[(.ref r0), (.int (44 : Int32)), (.int p2), (.int n)] below meth c s₁ [] 0 0 := Stand.of_body Bd
  have e0 : s₁.heap = h0 := by rw [← hh, Bd.state]; rfl
  have N0 := Fr.nil n0
  have pre0 : ∀ t, Steps p.tables e below (s₁.setTop (mkF m 0 #[.val (.ref r0), .val (.int (44 : Int32)), .val (.int p2), .val (.int n), .unset] [])) t → Steps p.tables e below (s₁.setTop (entryFrame m #[(.ref r0), (.int (44 : Int32)), (.int p2), (.int n)] 5)) t := fun t k => castTop (ef_rmIxU m r0 (44 : Int32) p2 n) k
  have w_0 : own_cf n c0 c1 c2 c3 5 p2 ↔ own_cf n c0 c1 c2 c3 5 p2 := Iff.rfl
  have st1 : own_S p e below s₁ (mkF m 6 #[.val (.ref r0), .val (.int (44 : Int32)), .val (.int p2), .val (.int n), .val (.int p2)] [(.int n), (.int p2)]) (mkF m 0 #[.val (.ref r0), .val (.int (44 : Int32)), .val (.int p2), .val (.int n), .unset] []) := by
    intro target kt
    refine XS.iloadN X0.here hx rfl (hb hby d42_0) rfl ?_
    refine XS.istore X0.here hx rfl (hb hby d42_1) rfl (l' := #[.val (.ref r0), .val (.int (44 : Int32)), .val (.int p2), .val (.int n), .val (.int p2)]) rfl ?_
    refine XS.iload X0.here hx rfl (hb hby d42_3) rfl ?_
    refine XS.iloadN X0.here hx rfl (hb hby d42_5) rfl ?_
    exact kt
  by_cases hl_0 : p2 < n
  · have st2 : own_S p e below s₁ (mkF m 9 #[.val (.ref r0), .val (.int (44 : Int32)), .val (.int p2), .val (.int n), .val (.int p2)] []) (mkF m 6 #[.val (.ref r0), .val (.int (44 : Int32)), .val (.int p2), .val (.int n), .val (.int p2)] [(.int n), (.int p2)]) := by
      intro target kt
      refine XS.icmpNo X0.here hx rfl (hb hby d42_6) rfl (tlt hl_0).2.1 ?_
      exact kt
    have st3 : own_S p e below s₁ (mkF m 12 #[.val (.ref r0), .val (.int (44 : Int32)), .val (.int p2), .val (.int n), .val (.int p2)] [(.int p2), (.ref r0)]) (mkF m 9 #[.val (.ref r0), .val (.int (44 : Int32)), .val (.int p2), .val (.int n), .val (.int p2)] []) := by
      intro target kt
      refine XS.aloadN X0.here hx rfl (hb hby d42_9) rfl rfl ?_
      refine XS.iload X0.here hx rfl (hb hby d42_10) rfl ?_
      exact kt
    obtain ⟨_, _, ⟨T4, L4, k4, n4⟩, -, X4, ⟨Lc4, hQ4, l4, y4, z4⟩, st4⟩ := Jvm.LawKit.callS X0 hx (y := (⟨"java/lang/StringUTF16", "getChar", "([BI)C"⟩ : MethodName)) hown (mvT hZ (own_w hw 119 rfl)) (mvT hZ (own_w hw 120 rfl)) (mvT hZ (own_w hw 92 rfl)) (mvT hZ (own_w hw 121 rfl)) (by decide) (backOf (W := 0) (rmGC l Z a0 hw [] r0 p2 cs fm ky n c0 c1 c2 c3 h0 n0 Z0 SB Od Vy hN hch hi hl_0) hZ (own_w hw 121 rfl) (own_w hw 92 rfl) (by decide) (by decide)) (g := (mkF m 12 #[.val (.ref r0), .val (.int (44 : Int32)), .val (.int p2), .val (.int n), .val (.int p2)] [(.int p2), (.ref r0)])) rfl (by rw [hml]; rfl) (argsL := [(.ref r0), (.int p2)]) (rest := []) (lenOf pd_18 rfl) rfl (by show 2 * 0 + _ ≤ _; exact Nat.le_of_eq rfl) (hb hby d42_12) (fun _ _ => ⟨rfl, e0, (by decide : 0 + 0 ≤ _), (by decide : 0 + 0 ≤ _)⟩)
    dsimp only [Pt.U, Pt.locs, Pt.cells, Pt.slots] at X4 l4 y4 z4 st4 hQ4
    subst l4 y4 z4
    obtain ⟨rfl, Nq4, e4⟩ := hQ4
    have N4 := Fr.app N0 Nq4
    have st5 : own_S p e below T4 (mkF m 16 #[.val (.ref r0), .val (.int (44 : Int32)), .val (.int p2), .val (.int n), .val (.int p2)] [(.int (44 : Int32)), (.int (own_at p2 c0 c1 c2 c3))]) (mkF m 15 #[.val (.ref r0), .val (.int (44 : Int32)), .val (.int p2), .val (.int n), .val (.int p2)] [(.int (own_at p2 c0 c1 c2 c3))]) := by
      intro target kt
      refine XS.iloadN X4.here hx rfl (hb hby d42_15) rfl ?_
      exact kt
    by_cases hm_0 : (own_at p2 c0 c1 c2 c3) = (44 : Int32)
    · have st6 : own_S p e below T4 (mkF m 19 #[.val (.ref r0), .val (.int (44 : Int32)), .val (.int p2), .val (.int n), .val (.int p2)] []) (mkF m 16 #[.val (.ref r0), .val (.int (44 : Int32)), .val (.int p2), .val (.int n), .val (.int p2)] [(.int (44 : Int32)), (.int (own_at p2 c0 c1 c2 c3))]) := by
        intro target kt
        refine XS.icmpNo X4.here hx rfl (hb hby d42_16) rfl (teq hm_0).2 ?_
        exact kt
      obtain ⟨fs, hr, hrun, hended, hW, hsame⟩ := X4.leave (v := some (.int p2)) (fun h => by rw [Bd.returns] at h; cases h)
      refine ⟨_, _, pre0 _ (st1 _ (st2 _ (st3 _ (st4 _ (st5 _ (st6 _ ?_)))))), hrun, hended, _, _, rfl, ?_, ⟨_, rfl⟩, hW, hsame.mono (by decide) (by decide)⟩
      · refine XS.iload X4.here hx rfl (hb hby d42_19) rfl ?_
        show Steps p.tables e below (T4.setTop (mkF m 21 #[.val (.ref r0), .val (.int (44 : Int32)), .val (.int p2), .val (.int n), .val (.int p2)] [(.int p2)])) _
        exact retI X4 hx Bd.returns (hb hby d42_21) hr
      · show Q_rmIxU Z r0 p2 n cs fm ky c0 c1 c2 c3 h0 n0 _ T4.heap _
        rw [e4]
        exact ⟨_, iff_of_false (own_nn hi) (fun q => q (w_0.mpr (own_cfy hl_0 hm_0))), rfl, N4, rfl⟩
    · have st7 : own_S p e below T4 (mkF m 22 #[.val (.ref r0), .val (.int (44 : Int32)), .val (.int p2), .val (.int n), .val (.int p2)] []) (mkF m 16 #[.val (.ref r0), .val (.int (44 : Int32)), .val (.int p2), .val (.int n), .val (.int p2)] [(.int (44 : Int32)), (.int (own_at p2 c0 c1 c2 c3))]) := by
        intro target kt
        refine XS.icmpYes X4.here hx rfl (pc0 := 16) (pc' := 22) rfl (hb hby d42_16) rfl (feq hm_0).2 (by decide) (by decide) ?_
        exact kt
      have w_1 := w_0.trans (own_cfs (f := 4) hl_0 hm_0)
      have hj_1 := own_nx hi hN hl_0
      have st8 : own_S p e below T4 (mkF m 6 #[.val (.ref r0), .val (.int (44 : Int32)), .val (.int p2), .val (.int n), .val (.int (p2 + (1 : Int32)))] [(.int n), (.int (p2 + (1 : Int32)))]) (mkF m 22 #[.val (.ref r0), .val (.int (44 : Int32)), .val (.int p2), .val (.int n), .val (.int p2)] []) := by
        intro target kt
        refine XS.iinc X4.here hx rfl (hb hby d42_22) rfl (l' := #[.val (.ref r0), .val (.int (44 : Int32)), .val (.int p2), .val (.int n), .val (.int (p2 + (1 : Int32)))]) rfl ?_
        refine XS.goto X4.here hx rfl (pc0 := 25) (pc' := 3) rfl (hb hby d42_25) (by decide) (by decide) ?_
        refine XS.iload X4.here hx rfl (hb hby d42_3) rfl ?_
        refine XS.iloadN X4.here hx rfl (hb hby d42_5) rfl ?_
        exact kt
      by_cases hl_1 : (p2 + (1 : Int32)) < n
      · have st9 : own_S p e below T4 (mkF m 9 #[.val (.ref r0), .val (.int (44 : Int32)), .val (.int p2), .val (.int n), .val (.int (p2 + (1 : Int32)))] []) (mkF m 6 #[.val (.ref r0), .val (.int (44 : Int32)), .val (.int p2), .val (.int n), .val (.int (p2 + (1 : Int32)))] [(.int n), (.int (p2 + (1 : Int32)))]) := by
          intro target kt
          refine XS.icmpNo X4.here hx rfl (hb hby d42_6) rfl (tlt hl_1).2.1 ?_
          exact kt
        have st10 : own_S p e below T4 (mkF m 12 #[.val (.ref r0), .val (.int (44 : Int32)), .val (.int p2), .val (.int n), .val (.int (p2 + (1 : Int32)))] [(.int (p2 + (1 : Int32))), (.ref r0)]) (mkF m 9 #[.val (.ref r0), .val (.int (44 : Int32)), .val (.int p2), .val (.int n), .val (.int (p2 + (1 : Int32)))] []) := by
          intro target kt
          refine XS.aloadN X4.here hx rfl (hb hby d42_9) rfl rfl ?_
          refine XS.iload X4.here hx rfl (hb hby d42_10) rfl ?_
          exact kt
        obtain ⟨_, _, ⟨T11, L11, k11, n11⟩, -, X11, ⟨Lc11, hQ11, l11, y11, z11⟩, st11⟩ := Jvm.LawKit.callS X4 hx (y := (⟨"java/lang/StringUTF16", "getChar", "([BI)C"⟩ : MethodName)) hown (mvT hZ (own_w hw 119 rfl)) (mvT hZ (own_w hw 120 rfl)) (mvT hZ (own_w hw 92 rfl)) (mvT hZ (own_w hw 121 rfl)) (by decide) (backOf (W := 0) (rmGC l Z a0 hw [] r0 (p2 + (1 : Int32)) cs fm ky n c0 c1 c2 c3 h0 n0 Z0 SB Od Vy hN hch hj_1 hl_1) hZ (own_w hw 121 rfl) (own_w hw 92 rfl) (by decide) (by decide)) (g := (mkF m 12 #[.val (.ref r0), .val (.int (44 : Int32)), .val (.int p2), .val (.int n), .val (.int (p2 + (1 : Int32)))] [(.int (p2 + (1 : Int32))), (.ref r0)])) rfl (by rw [hml]; rfl) (argsL := [(.ref r0), (.int (p2 + (1 : Int32)))]) (rest := []) (lenOf pd_18 rfl) rfl (by show 2 * 0 + _ ≤ _; exact Nat.le_of_eq rfl) (hb hby d42_12) (fun _ _ => ⟨rfl, e4, (by decide : 0 + 0 ≤ _), (by decide : 0 + 0 ≤ _)⟩)
        dsimp only [Pt.U, Pt.locs, Pt.cells, Pt.slots] at X11 l11 y11 z11 st11 hQ11
        subst l11 y11 z11
        obtain ⟨rfl, Nq11, e11⟩ := hQ11
        have N11 := Fr.app N4 Nq11
        have st12 : own_S p e below T11 (mkF m 16 #[.val (.ref r0), .val (.int (44 : Int32)), .val (.int p2), .val (.int n), .val (.int (p2 + (1 : Int32)))] [(.int (44 : Int32)), (.int (own_at (p2 + (1 : Int32)) c0 c1 c2 c3))]) (mkF m 15 #[.val (.ref r0), .val (.int (44 : Int32)), .val (.int p2), .val (.int n), .val (.int (p2 + (1 : Int32)))] [(.int (own_at (p2 + (1 : Int32)) c0 c1 c2 c3))]) := by
          intro target kt
          refine XS.iloadN X11.here hx rfl (hb hby d42_15) rfl ?_
          exact kt
        by_cases hm_1 : (own_at (p2 + (1 : Int32)) c0 c1 c2 c3) = (44 : Int32)
        · have st13 : own_S p e below T11 (mkF m 19 #[.val (.ref r0), .val (.int (44 : Int32)), .val (.int p2), .val (.int n), .val (.int (p2 + (1 : Int32)))] []) (mkF m 16 #[.val (.ref r0), .val (.int (44 : Int32)), .val (.int p2), .val (.int n), .val (.int (p2 + (1 : Int32)))] [(.int (44 : Int32)), (.int (own_at (p2 + (1 : Int32)) c0 c1 c2 c3))]) := by
            intro target kt
            refine XS.icmpNo X11.here hx rfl (hb hby d42_16) rfl (teq hm_1).2 ?_
            exact kt
          obtain ⟨fs, hr, hrun, hended, hW, hsame⟩ := X11.leave (v := some (.int (p2 + (1 : Int32)))) (fun h => by rw [Bd.returns] at h; cases h)
          refine ⟨_, _, pre0 _ (st1 _ (st2 _ (st3 _ (st4 _ (st5 _ (st7 _ (st8 _ (st9 _ (st10 _ (st11 _ (st12 _ (st13 _ ?_)))))))))))), hrun, hended, _, _, rfl, ?_, ⟨_, rfl⟩, hW, hsame.mono (by decide) (by decide)⟩
          · refine XS.iload X11.here hx rfl (hb hby d42_19) rfl ?_
            show Steps p.tables e below (T11.setTop (mkF m 21 #[.val (.ref r0), .val (.int (44 : Int32)), .val (.int p2), .val (.int n), .val (.int (p2 + (1 : Int32)))] [(.int (p2 + (1 : Int32)))])) _
            exact retI X11 hx Bd.returns (hb hby d42_21) hr
          · show Q_rmIxU Z r0 p2 n cs fm ky c0 c1 c2 c3 h0 n0 _ T11.heap _
            rw [e11]
            exact ⟨_, iff_of_false (own_nn hj_1) (fun q => q (w_1.mpr (own_cfy hl_1 hm_1))), rfl, N11, rfl⟩
        · have st14 : own_S p e below T11 (mkF m 22 #[.val (.ref r0), .val (.int (44 : Int32)), .val (.int p2), .val (.int n), .val (.int (p2 + (1 : Int32)))] []) (mkF m 16 #[.val (.ref r0), .val (.int (44 : Int32)), .val (.int p2), .val (.int n), .val (.int (p2 + (1 : Int32)))] [(.int (44 : Int32)), (.int (own_at (p2 + (1 : Int32)) c0 c1 c2 c3))]) := by
            intro target kt
            refine XS.icmpYes X11.here hx rfl (pc0 := 16) (pc' := 22) rfl (hb hby d42_16) rfl (feq hm_1).2 (by decide) (by decide) ?_
            exact kt
          have w_2 := w_1.trans (own_cfs (f := 3) hl_1 hm_1)
          have hj_2 := own_nx hj_1 hN hl_1
          have st15 : own_S p e below T11 (mkF m 6 #[.val (.ref r0), .val (.int (44 : Int32)), .val (.int p2), .val (.int n), .val (.int ((p2 + (1 : Int32)) + (1 : Int32)))] [(.int n), (.int ((p2 + (1 : Int32)) + (1 : Int32)))]) (mkF m 22 #[.val (.ref r0), .val (.int (44 : Int32)), .val (.int p2), .val (.int n), .val (.int (p2 + (1 : Int32)))] []) := by
            intro target kt
            refine XS.iinc X11.here hx rfl (hb hby d42_22) rfl (l' := #[.val (.ref r0), .val (.int (44 : Int32)), .val (.int p2), .val (.int n), .val (.int ((p2 + (1 : Int32)) + (1 : Int32)))]) rfl ?_
            refine XS.goto X11.here hx rfl (pc0 := 25) (pc' := 3) rfl (hb hby d42_25) (by decide) (by decide) ?_
            refine XS.iload X11.here hx rfl (hb hby d42_3) rfl ?_
            refine XS.iloadN X11.here hx rfl (hb hby d42_5) rfl ?_
            exact kt
          by_cases hl_2 : ((p2 + (1 : Int32)) + (1 : Int32)) < n
          · have st16 : own_S p e below T11 (mkF m 9 #[.val (.ref r0), .val (.int (44 : Int32)), .val (.int p2), .val (.int n), .val (.int ((p2 + (1 : Int32)) + (1 : Int32)))] []) (mkF m 6 #[.val (.ref r0), .val (.int (44 : Int32)), .val (.int p2), .val (.int n), .val (.int ((p2 + (1 : Int32)) + (1 : Int32)))] [(.int n), (.int ((p2 + (1 : Int32)) + (1 : Int32)))]) := by
              intro target kt
              refine XS.icmpNo X11.here hx rfl (hb hby d42_6) rfl (tlt hl_2).2.1 ?_
              exact kt
            have st17 : own_S p e below T11 (mkF m 12 #[.val (.ref r0), .val (.int (44 : Int32)), .val (.int p2), .val (.int n), .val (.int ((p2 + (1 : Int32)) + (1 : Int32)))] [(.int ((p2 + (1 : Int32)) + (1 : Int32))), (.ref r0)]) (mkF m 9 #[.val (.ref r0), .val (.int (44 : Int32)), .val (.int p2), .val (.int n), .val (.int ((p2 + (1 : Int32)) + (1 : Int32)))] []) := by
              intro target kt
              refine XS.aloadN X11.here hx rfl (hb hby d42_9) rfl rfl ?_
              refine XS.iload X11.here hx rfl (hb hby d42_10) rfl ?_
              exact kt
            obtain ⟨_, _, ⟨T18, L18, k18, n18⟩, -, X18, ⟨Lc18, hQ18, l18, y18, z18⟩, st18⟩ := Jvm.LawKit.callS X11 hx (y := (⟨"java/lang/StringUTF16", "getChar", "([BI)C"⟩ : MethodName)) hown (mvT hZ (own_w hw 119 rfl)) (mvT hZ (own_w hw 120 rfl)) (mvT hZ (own_w hw 92 rfl)) (mvT hZ (own_w hw 121 rfl)) (by decide) (backOf (W := 0) (rmGC l Z a0 hw [] r0 ((p2 + (1 : Int32)) + (1 : Int32)) cs fm ky n c0 c1 c2 c3 h0 n0 Z0 SB Od Vy hN hch hj_2 hl_2) hZ (own_w hw 121 rfl) (own_w hw 92 rfl) (by decide) (by decide)) (g := (mkF m 12 #[.val (.ref r0), .val (.int (44 : Int32)), .val (.int p2), .val (.int n), .val (.int ((p2 + (1 : Int32)) + (1 : Int32)))] [(.int ((p2 + (1 : Int32)) + (1 : Int32))), (.ref r0)])) rfl (by rw [hml]; rfl) (argsL := [(.ref r0), (.int ((p2 + (1 : Int32)) + (1 : Int32)))]) (rest := []) (lenOf pd_18 rfl) rfl (by show 2 * 0 + _ ≤ _; exact Nat.le_of_eq rfl) (hb hby d42_12) (fun _ _ => ⟨rfl, e11, (by decide : 0 + 0 ≤ _), (by decide : 0 + 0 ≤ _)⟩)
            dsimp only [Pt.U, Pt.locs, Pt.cells, Pt.slots] at X18 l18 y18 z18 st18 hQ18
            subst l18 y18 z18
            obtain ⟨rfl, Nq18, e18⟩ := hQ18
            have N18 := Fr.app N11 Nq18
            have st19 : own_S p e below T18 (mkF m 16 #[.val (.ref r0), .val (.int (44 : Int32)), .val (.int p2), .val (.int n), .val (.int ((p2 + (1 : Int32)) + (1 : Int32)))] [(.int (44 : Int32)), (.int (own_at ((p2 + (1 : Int32)) + (1 : Int32)) c0 c1 c2 c3))]) (mkF m 15 #[.val (.ref r0), .val (.int (44 : Int32)), .val (.int p2), .val (.int n), .val (.int ((p2 + (1 : Int32)) + (1 : Int32)))] [(.int (own_at ((p2 + (1 : Int32)) + (1 : Int32)) c0 c1 c2 c3))]) := by
              intro target kt
              refine XS.iloadN X18.here hx rfl (hb hby d42_15) rfl ?_
              exact kt
            by_cases hm_2 : (own_at ((p2 + (1 : Int32)) + (1 : Int32)) c0 c1 c2 c3) = (44 : Int32)
            · have st20 : own_S p e below T18 (mkF m 19 #[.val (.ref r0), .val (.int (44 : Int32)), .val (.int p2), .val (.int n), .val (.int ((p2 + (1 : Int32)) + (1 : Int32)))] []) (mkF m 16 #[.val (.ref r0), .val (.int (44 : Int32)), .val (.int p2), .val (.int n), .val (.int ((p2 + (1 : Int32)) + (1 : Int32)))] [(.int (44 : Int32)), (.int (own_at ((p2 + (1 : Int32)) + (1 : Int32)) c0 c1 c2 c3))]) := by
                intro target kt
                refine XS.icmpNo X18.here hx rfl (hb hby d42_16) rfl (teq hm_2).2 ?_
                exact kt
              obtain ⟨fs, hr, hrun, hended, hW, hsame⟩ := X18.leave (v := some (.int ((p2 + (1 : Int32)) + (1 : Int32)))) (fun h => by rw [Bd.returns] at h; cases h)
              refine ⟨_, _, pre0 _ (st1 _ (st2 _ (st3 _ (st4 _ (st5 _ (st7 _ (st8 _ (st9 _ (st10 _ (st11 _ (st12 _ (st14 _ (st15 _ (st16 _ (st17 _ (st18 _ (st19 _ (st20 _ ?_)))))))))))))))))), hrun, hended, _, _, rfl, ?_, ⟨_, rfl⟩, hW, hsame.mono (by decide) (by decide)⟩
              · refine XS.iload X18.here hx rfl (hb hby d42_19) rfl ?_
                show Steps p.tables e below (T18.setTop (mkF m 21 #[.val (.ref r0), .val (.int (44 : Int32)), .val (.int p2), .val (.int n), .val (.int ((p2 + (1 : Int32)) + (1 : Int32)))] [(.int ((p2 + (1 : Int32)) + (1 : Int32)))])) _
                exact retI X18 hx Bd.returns (hb hby d42_21) hr
              · show Q_rmIxU Z r0 p2 n cs fm ky c0 c1 c2 c3 h0 n0 _ T18.heap _
                rw [e18]
                exact ⟨_, iff_of_false (own_nn hj_2) (fun q => q (w_2.mpr (own_cfy hl_2 hm_2))), rfl, N18, rfl⟩
            · have st21 : own_S p e below T18 (mkF m 22 #[.val (.ref r0), .val (.int (44 : Int32)), .val (.int p2), .val (.int n), .val (.int ((p2 + (1 : Int32)) + (1 : Int32)))] []) (mkF m 16 #[.val (.ref r0), .val (.int (44 : Int32)), .val (.int p2), .val (.int n), .val (.int ((p2 + (1 : Int32)) + (1 : Int32)))] [(.int (44 : Int32)), (.int (own_at ((p2 + (1 : Int32)) + (1 : Int32)) c0 c1 c2 c3))]) := by
                intro target kt
                refine XS.icmpYes X18.here hx rfl (pc0 := 16) (pc' := 22) rfl (hb hby d42_16) rfl (feq hm_2).2 (by decide) (by decide) ?_
                exact kt
              have w_3 := w_2.trans (own_cfs (f := 2) hl_2 hm_2)
              have hj_3 := own_nx hj_2 hN hl_2
              have st22 : own_S p e below T18 (mkF m 6 #[.val (.ref r0), .val (.int (44 : Int32)), .val (.int p2), .val (.int n), .val (.int (((p2 + (1 : Int32)) + (1 : Int32)) + (1 : Int32)))] [(.int n), (.int (((p2 + (1 : Int32)) + (1 : Int32)) + (1 : Int32)))]) (mkF m 22 #[.val (.ref r0), .val (.int (44 : Int32)), .val (.int p2), .val (.int n), .val (.int ((p2 + (1 : Int32)) + (1 : Int32)))] []) := by
                intro target kt
                refine XS.iinc X18.here hx rfl (hb hby d42_22) rfl (l' := #[.val (.ref r0), .val (.int (44 : Int32)), .val (.int p2), .val (.int n), .val (.int (((p2 + (1 : Int32)) + (1 : Int32)) + (1 : Int32)))]) rfl ?_
                refine XS.goto X18.here hx rfl (pc0 := 25) (pc' := 3) rfl (hb hby d42_25) (by decide) (by decide) ?_
                refine XS.iload X18.here hx rfl (hb hby d42_3) rfl ?_
                refine XS.iloadN X18.here hx rfl (hb hby d42_5) rfl ?_
                exact kt
              by_cases hl_3 : (((p2 + (1 : Int32)) + (1 : Int32)) + (1 : Int32)) < n
              · have st23 : own_S p e below T18 (mkF m 9 #[.val (.ref r0), .val (.int (44 : Int32)), .val (.int p2), .val (.int n), .val (.int (((p2 + (1 : Int32)) + (1 : Int32)) + (1 : Int32)))] []) (mkF m 6 #[.val (.ref r0), .val (.int (44 : Int32)), .val (.int p2), .val (.int n), .val (.int (((p2 + (1 : Int32)) + (1 : Int32)) + (1 : Int32)))] [(.int n), (.int (((p2 + (1 : Int32)) + (1 : Int32)) + (1 : Int32)))]) := by
                  intro target kt
                  refine XS.icmpNo X18.here hx rfl (hb hby d42_6) rfl (tlt hl_3).2.1 ?_
                  exact kt
                have st24 : own_S p e below T18 (mkF m 12 #[.val (.ref r0), .val (.int (44 : Int32)), .val (.int p2), .val (.int n), .val (.int (((p2 + (1 : Int32)) + (1 : Int32)) + (1 : Int32)))] [(.int (((p2 + (1 : Int32)) + (1 : Int32)) + (1 : Int32))), (.ref r0)]) (mkF m 9 #[.val (.ref r0), .val (.int (44 : Int32)), .val (.int p2), .val (.int n), .val (.int (((p2 + (1 : Int32)) + (1 : Int32)) + (1 : Int32)))] []) := by
                  intro target kt
                  refine XS.aloadN X18.here hx rfl (hb hby d42_9) rfl rfl ?_
                  refine XS.iload X18.here hx rfl (hb hby d42_10) rfl ?_
                  exact kt
                obtain ⟨_, _, ⟨T25, L25, k25, n25⟩, -, X25, ⟨Lc25, hQ25, l25, y25, z25⟩, st25⟩ := Jvm.LawKit.callS X18 hx (y := (⟨"java/lang/StringUTF16", "getChar", "([BI)C"⟩ : MethodName)) hown (mvT hZ (own_w hw 119 rfl)) (mvT hZ (own_w hw 120 rfl)) (mvT hZ (own_w hw 92 rfl)) (mvT hZ (own_w hw 121 rfl)) (by decide) (backOf (W := 0) (rmGC l Z a0 hw [] r0 (((p2 + (1 : Int32)) + (1 : Int32)) + (1 : Int32)) cs fm ky n c0 c1 c2 c3 h0 n0 Z0 SB Od Vy hN hch hj_3 hl_3) hZ (own_w hw 121 rfl) (own_w hw 92 rfl) (by decide) (by decide)) (g := (mkF m 12 #[.val (.ref r0), .val (.int (44 : Int32)), .val (.int p2), .val (.int n), .val (.int (((p2 + (1 : Int32)) + (1 : Int32)) + (1 : Int32)))] [(.int (((p2 + (1 : Int32)) + (1 : Int32)) + (1 : Int32))), (.ref r0)])) rfl (by rw [hml]; rfl) (argsL := [(.ref r0), (.int (((p2 + (1 : Int32)) + (1 : Int32)) + (1 : Int32)))]) (rest := []) (lenOf pd_18 rfl) rfl (by show 2 * 0 + _ ≤ _; exact Nat.le_of_eq rfl) (hb hby d42_12) (fun _ _ => ⟨rfl, e18, (by decide : 0 + 0 ≤ _), (by decide : 0 + 0 ≤ _)⟩)
                dsimp only [Pt.U, Pt.locs, Pt.cells, Pt.slots] at X25 l25 y25 z25 st25 hQ25
                subst l25 y25 z25
                obtain ⟨rfl, Nq25, e25⟩ := hQ25
                have N25 := Fr.app N18 Nq25
                have st26 : own_S p e below T25 (mkF m 16 #[.val (.ref r0), .val (.int (44 : Int32)), .val (.int p2), .val (.int n), .val (.int (((p2 + (1 : Int32)) + (1 : Int32)) + (1 : Int32)))] [(.int (44 : Int32)), (.int (own_at (((p2 + (1 : Int32)) + (1 : Int32)) + (1 : Int32)) c0 c1 c2 c3))]) (mkF m 15 #[.val (.ref r0), .val (.int (44 : Int32)), .val (.int p2), .val (.int n), .val (.int (((p2 + (1 : Int32)) + (1 : Int32)) + (1 : Int32)))] [(.int (own_at (((p2 + (1 : Int32)) + (1 : Int32)) + (1 : Int32)) c0 c1 c2 c3))]) := by
                  intro target kt
                  refine XS.iloadN X25.here hx rfl (hb hby d42_15) rfl ?_
                  exact kt
                by_cases hm_3 : (own_at (((p2 + (1 : Int32)) + (1 : Int32)) + (1 : Int32)) c0 c1 c2 c3) = (44 : Int32)
                · have st27 : own_S p e below T25 (mkF m 19 #[.val (.ref r0), .val (.int (44 : Int32)), .val (.int p2), .val (.int n), .val (.int (((p2 + (1 : Int32)) + (1 : Int32)) + (1 : Int32)))] []) (mkF m 16 #[.val (.ref r0), .val (.int (44 : Int32)), .val (.int p2), .val (.int n), .val (.int (((p2 + (1 : Int32)) + (1 : Int32)) + (1 : Int32)))] [(.int (44 : Int32)), (.int (own_at (((p2 + (1 : Int32)) + (1 : Int32)) + (1 : Int32)) c0 c1 c2 c3))]) := by
                    intro target kt
                    refine XS.icmpNo X25.here hx rfl (hb hby d42_16) rfl (teq hm_3).2 ?_
                    exact kt
                  obtain ⟨fs, hr, hrun, hended, hW, hsame⟩ := X25.leave (v := some (.int (((p2 + (1 : Int32)) + (1 : Int32)) + (1 : Int32)))) (fun h => by rw [Bd.returns] at h; cases h)
                  refine ⟨_, _, pre0 _ (st1 _ (st2 _ (st3 _ (st4 _ (st5 _ (st7 _ (st8 _ (st9 _ (st10 _ (st11 _ (st12 _ (st14 _ (st15 _ (st16 _ (st17 _ (st18 _ (st19 _ (st21 _ (st22 _ (st23 _ (st24 _ (st25 _ (st26 _ (st27 _ ?_)))))))))))))))))))))))), hrun, hended, _, _, rfl, ?_, ⟨_, rfl⟩, hW, hsame.mono (by decide) (by decide)⟩
                  · refine XS.iload X25.here hx rfl (hb hby d42_19) rfl ?_
                    show Steps p.tables e below (T25.setTop (mkF m 21 #[.val (.ref r0), .val (.int (44 : Int32)), .val (.int p2), .val (.int n), .val (.int (((p2 + (1 : Int32)) + (1 : Int32)) + (1 : Int32)))] [(.int (((p2 + (1 : Int32)) + (1 : Int32)) + (1 : Int32)))])) _
                    exact retI X25 hx Bd.returns (hb hby d42_21) hr
                  · show Q_rmIxU Z r0 p2 n cs fm ky c0 c1 c2 c3 h0 n0 _ T25.heap _
                    rw [e25]
                    exact ⟨_, iff_of_false (own_nn hj_3) (fun q => q (w_3.mpr (own_cfy hl_3 hm_3))), rfl, N25, rfl⟩
                · have st28 : own_S p e below T25 (mkF m 22 #[.val (.ref r0), .val (.int (44 : Int32)), .val (.int p2), .val (.int n), .val (.int (((p2 + (1 : Int32)) + (1 : Int32)) + (1 : Int32)))] []) (mkF m 16 #[.val (.ref r0), .val (.int (44 : Int32)), .val (.int p2), .val (.int n), .val (.int (((p2 + (1 : Int32)) + (1 : Int32)) + (1 : Int32)))] [(.int (44 : Int32)), (.int (own_at (((p2 + (1 : Int32)) + (1 : Int32)) + (1 : Int32)) c0 c1 c2 c3))]) := by
                    intro target kt
                    refine XS.icmpYes X25.here hx rfl (pc0 := 16) (pc' := 22) rfl (hb hby d42_16) rfl (feq hm_3).2 (by decide) (by decide) ?_
                    exact kt
                  have w_4 := w_3.trans (own_cfs (f := 1) hl_3 hm_3)
                  have hj_4 := own_nx hj_3 hN hl_3
                  have st29 : own_S p e below T25 (mkF m 6 #[.val (.ref r0), .val (.int (44 : Int32)), .val (.int p2), .val (.int n), .val (.int ((((p2 + (1 : Int32)) + (1 : Int32)) + (1 : Int32)) + (1 : Int32)))] [(.int n), (.int ((((p2 + (1 : Int32)) + (1 : Int32)) + (1 : Int32)) + (1 : Int32)))]) (mkF m 22 #[.val (.ref r0), .val (.int (44 : Int32)), .val (.int p2), .val (.int n), .val (.int (((p2 + (1 : Int32)) + (1 : Int32)) + (1 : Int32)))] []) := by
                    intro target kt
                    refine XS.iinc X25.here hx rfl (hb hby d42_22) rfl (l' := #[.val (.ref r0), .val (.int (44 : Int32)), .val (.int p2), .val (.int n), .val (.int ((((p2 + (1 : Int32)) + (1 : Int32)) + (1 : Int32)) + (1 : Int32)))]) rfl ?_
                    refine XS.goto X25.here hx rfl (pc0 := 25) (pc' := 3) rfl (hb hby d42_25) (by decide) (by decide) ?_
                    refine XS.iload X25.here hx rfl (hb hby d42_3) rfl ?_
                    refine XS.iloadN X25.here hx rfl (hb hby d42_5) rfl ?_
                    exact kt
                  have g4_ := own_four hi hN (i := p2)
                  have st30 : own_S p e below T25 (mkF m 28 #[.val (.ref r0), .val (.int (44 : Int32)), .val (.int p2), .val (.int n), .val (.int ((((p2 + (1 : Int32)) + (1 : Int32)) + (1 : Int32)) + (1 : Int32)))] []) (mkF m 6 #[.val (.ref r0), .val (.int (44 : Int32)), .val (.int p2), .val (.int n), .val (.int ((((p2 + (1 : Int32)) + (1 : Int32)) + (1 : Int32)) + (1 : Int32)))] [(.int n), (.int ((((p2 + (1 : Int32)) + (1 : Int32)) + (1 : Int32)) + (1 : Int32)))]) := by
                    intro target kt
                    refine XS.icmpYes X25.here hx rfl (pc0 := 6) (pc' := 28) rfl (hb hby d42_6) rfl (flt g4_).2.1 (by decide) (by decide) ?_
                    exact kt
                  obtain ⟨fs, hr, hrun, hended, hW, hsame⟩ := X25.leave (v := some (.int (-1 : Int32))) (fun h => by rw [Bd.returns] at h; cases h)
                  refine ⟨_, _, pre0 _ (st1 _ (st2 _ (st3 _ (st4 _ (st5 _ (st7 _ (st8 _ (st9 _ (st10 _ (st11 _ (st12 _ (st14 _ (st15 _ (st16 _ (st17 _ (st18 _ (st19 _ (st21 _ (st22 _ (st23 _ (st24 _ (st25 _ (st26 _ (st28 _ (st29 _ (st30 _ ?_)))))))))))))))))))))))))), hrun, hended, _, _, rfl, ?_, ⟨_, rfl⟩, hW, hsame.mono (by decide) (by decide)⟩
                  · refine XS.iconst X25.here hx rfl (hb hby d42_28) ?_
                    show Steps p.tables e below (T25.setTop (mkF m 29 #[.val (.ref r0), .val (.int (44 : Int32)), .val (.int p2), .val (.int n), .val (.int ((((p2 + (1 : Int32)) + (1 : Int32)) + (1 : Int32)) + (1 : Int32)))] [(.int (-1 : Int32))])) _
                    exact retI X25 hx Bd.returns (hb hby d42_29) hr
                  · show Q_rmIxU Z r0 p2 n cs fm ky c0 c1 c2 c3 h0 n0 _ T25.heap _
                    rw [e25]
                    exact ⟨_, iff_of_true (by decide) (fun q => own_cfn g4_ (w_4.mp q)), rfl, N25, rfl⟩
              · have st31 : own_S p e below T18 (mkF m 28 #[.val (.ref r0), .val (.int (44 : Int32)), .val (.int p2), .val (.int n), .val (.int (((p2 + (1 : Int32)) + (1 : Int32)) + (1 : Int32)))] []) (mkF m 6 #[.val (.ref r0), .val (.int (44 : Int32)), .val (.int p2), .val (.int n), .val (.int (((p2 + (1 : Int32)) + (1 : Int32)) + (1 : Int32)))] [(.int n), (.int (((p2 + (1 : Int32)) + (1 : Int32)) + (1 : Int32)))]) := by
                  intro target kt
                  refine XS.icmpYes X18.here hx rfl (pc0 := 6) (pc' := 28) rfl (hb hby d42_6) rfl (flt hl_3).2.1 (by decide) (by decide) ?_
                  exact kt
                obtain ⟨fs, hr, hrun, hended, hW, hsame⟩ := X18.leave (v := some (.int (-1 : Int32))) (fun h => by rw [Bd.returns] at h; cases h)
                refine ⟨_, _, pre0 _ (st1 _ (st2 _ (st3 _ (st4 _ (st5 _ (st7 _ (st8 _ (st9 _ (st10 _ (st11 _ (st12 _ (st14 _ (st15 _ (st16 _ (st17 _ (st18 _ (st19 _ (st21 _ (st22 _ (st31 _ ?_)))))))))))))))))))), hrun, hended, _, _, rfl, ?_, ⟨_, rfl⟩, hW, hsame.mono (by decide) (by decide)⟩
                · refine XS.iconst X18.here hx rfl (hb hby d42_28) ?_
                  show Steps p.tables e below (T18.setTop (mkF m 29 #[.val (.ref r0), .val (.int (44 : Int32)), .val (.int p2), .val (.int n), .val (.int (((p2 + (1 : Int32)) + (1 : Int32)) + (1 : Int32)))] [(.int (-1 : Int32))])) _
                  exact retI X18 hx Bd.returns (hb hby d42_29) hr
                · show Q_rmIxU Z r0 p2 n cs fm ky c0 c1 c2 c3 h0 n0 _ T18.heap _
                  rw [e18]
                  exact ⟨_, iff_of_true (by decide) (fun q => own_cfn hl_3 (w_3.mp q)), rfl, N18, rfl⟩
          · have st32 : own_S p e below T11 (mkF m 28 #[.val (.ref r0), .val (.int (44 : Int32)), .val (.int p2), .val (.int n), .val (.int ((p2 + (1 : Int32)) + (1 : Int32)))] []) (mkF m 6 #[.val (.ref r0), .val (.int (44 : Int32)), .val (.int p2), .val (.int n), .val (.int ((p2 + (1 : Int32)) + (1 : Int32)))] [(.int n), (.int ((p2 + (1 : Int32)) + (1 : Int32)))]) := by
              intro target kt
              refine XS.icmpYes X11.here hx rfl (pc0 := 6) (pc' := 28) rfl (hb hby d42_6) rfl (flt hl_2).2.1 (by decide) (by decide) ?_
              exact kt
            obtain ⟨fs, hr, hrun, hended, hW, hsame⟩ := X11.leave (v := some (.int (-1 : Int32))) (fun h => by rw [Bd.returns] at h; cases h)
            refine ⟨_, _, pre0 _ (st1 _ (st2 _ (st3 _ (st4 _ (st5 _ (st7 _ (st8 _ (st9 _ (st10 _ (st11 _ (st12 _ (st14 _ (st15 _ (st32 _ ?_)))))))))))))), hrun, hended, _, _, rfl, ?_, ⟨_, rfl⟩, hW, hsame.mono (by decide) (by decide)⟩
            · refine XS.iconst X11.here hx rfl (hb hby d42_28) ?_
              show Steps p.tables e below (T11.setTop (mkF m 29 #[.val (.ref r0), .val (.int (44 : Int32)), .val (.int p2), .val (.int n), .val (.int ((p2 + (1 : Int32)) + (1 : Int32)))] [(.int (-1 : Int32))])) _
              exact retI X11 hx Bd.returns (hb hby d42_29) hr
            · show Q_rmIxU Z r0 p2 n cs fm ky c0 c1 c2 c3 h0 n0 _ T11.heap _
              rw [e11]
              exact ⟨_, iff_of_true (by decide) (fun q => own_cfn hl_2 (w_2.mp q)), rfl, N11, rfl⟩
      · have st33 : own_S p e below T4 (mkF m 28 #[.val (.ref r0), .val (.int (44 : Int32)), .val (.int p2), .val (.int n), .val (.int (p2 + (1 : Int32)))] []) (mkF m 6 #[.val (.ref r0), .val (.int (44 : Int32)), .val (.int p2), .val (.int n), .val (.int (p2 + (1 : Int32)))] [(.int n), (.int (p2 + (1 : Int32)))]) := by
          intro target kt
          refine XS.icmpYes X4.here hx rfl (pc0 := 6) (pc' := 28) rfl (hb hby d42_6) rfl (flt hl_1).2.1 (by decide) (by decide) ?_
          exact kt
        obtain ⟨fs, hr, hrun, hended, hW, hsame⟩ := X4.leave (v := some (.int (-1 : Int32))) (fun h => by rw [Bd.returns] at h; cases h)
        refine ⟨_, _, pre0 _ (st1 _ (st2 _ (st3 _ (st4 _ (st5 _ (st7 _ (st8 _ (st33 _ ?_)))))))), hrun, hended, _, _, rfl, ?_, ⟨_, rfl⟩, hW, hsame.mono (by decide) (by decide)⟩
        · refine XS.iconst X4.here hx rfl (hb hby d42_28) ?_
          show Steps p.tables e below (T4.setTop (mkF m 29 #[.val (.ref r0), .val (.int (44 : Int32)), .val (.int p2), .val (.int n), .val (.int (p2 + (1 : Int32)))] [(.int (-1 : Int32))])) _
          exact retI X4 hx Bd.returns (hb hby d42_29) hr
        · show Q_rmIxU Z r0 p2 n cs fm ky c0 c1 c2 c3 h0 n0 _ T4.heap _
          rw [e4]
          exact ⟨_, iff_of_true (by decide) (fun q => own_cfn hl_1 (w_1.mp q)), rfl, N4, rfl⟩
  · have st34 : own_S p e below s₁ (mkF m 28 #[.val (.ref r0), .val (.int (44 : Int32)), .val (.int p2), .val (.int n), .val (.int p2)] []) (mkF m 6 #[.val (.ref r0), .val (.int (44 : Int32)), .val (.int p2), .val (.int n), .val (.int p2)] [(.int n), (.int p2)]) := by
      intro target kt
      refine XS.icmpYes X0.here hx rfl (pc0 := 6) (pc' := 28) rfl (hb hby d42_6) rfl (flt hl_0).2.1 (by decide) (by decide) ?_
      exact kt
    obtain ⟨fs, hr, hrun, hended, hW, hsame⟩ := X0.leave (v := some (.int (-1 : Int32))) (fun h => by rw [Bd.returns] at h; cases h)
    refine ⟨_, _, pre0 _ (st1 _ (st34 _ ?_)), hrun, hended, _, _, rfl, ?_, ⟨_, rfl⟩, hW, hsame.mono (by decide) (by decide)⟩
    · refine XS.iconst X0.here hx rfl (hb hby d42_28) ?_
      show Steps p.tables e below (s₁.setTop (mkF m 29 #[.val (.ref r0), .val (.int (44 : Int32)), .val (.int p2), .val (.int n), .val (.int p2)] [(.int (-1 : Int32))])) _
      exact retI X0 hx Bd.returns (hb hby d42_29) hr
    · show Q_rmIxU Z r0 p2 n cs fm ky c0 c1 c2 c3 h0 n0 _ s₁.heap _
      rw [e0]
      exact ⟨_, iff_of_true (by decide) (fun q => own_cfn hl_0 (w_0.mp q)), rfl, N0, rfl⟩
theorem d13_0 : decode jdk_29_method_65_code 0 = .ok (.iload_n 0, 1) := by decide +kernel
theorem d13_1 : decode jdk_29_method_65_code 1 = .ok (.iload_n 1, 1) := by decide +kernel
theorem d13_2 : decode jdk_29_method_65_code 2 = .ok (.if_icmp .lt 7, 3) := by decide +kernel
theorem d13_5 : decode jdk_29_method_65_code 5 = .ok (.iload_n 0, 1) := by decide +kernel
theorem d13_6 : decode jdk_29_method_65_code 6 = .ok (.goto 4, 3) := by decide +kernel
theorem d13_9 : decode jdk_29_method_65_code 9 = .ok (.iload_n 1, 1) := by decide +kernel
theorem d13_10 : decode jdk_29_method_65_code 10 = .ok (.ireturn, 1) := by decide +kernel
theorem ef_rm13 (m : MethodId) (x0 : Int32) (x1 : Int32) : entryFrame m #[(.int x0), (.int x1)] 2 = mkF m 0 #[.val (.int x0), .val (.int x1)] [] := by first | (simp [entryFrame, mkF, argsToLocals, Value.category]; done) | rfl
def Q_rm13 (Z : State) (p0 : Int32) (p1 : Int32) (h0 : Heap) (n0 : Nat) (v : Option Value) (h : Heap) (L : List Loc) : Prop := v = some (.int (if p0 < p1 then p1 else p0)) ∧ Fr n0 L ∧ h = h0
set_option maxRecDepth 65536 in
set_option maxHeartbeats 40000000 in
theorem rm13 (l : Launch) (Z : State) (a0 : Array Value) (hw : ∀ d ∈ tables_1, d.before a0 Z = true) (ws : List Jvm.Cond) (p0 : Int32) (p1 : Int32) (h0 : Heap) (n0 : Nat) (Z0 : n0 ≤ h0.size) :
    MetFree l (⟨"java/lang/Math", "max", "(II)I"⟩ : MethodName) (head1 (Jvm.Cond.code (⟨"java/lang/Math", "max", "(II)I"⟩ : MethodName) jdk_29_method_65_code 2 (some .int) :: ws) ({ frames := 0, cells := 0, slots := 0, locals := 0 } : Room)) (fun a U => a = #[(.int p0), (.int p1)] ∧ Z.Warmed39 U.vm ∧ U.heap = h0) (fun _ _ _ _ _ => True) (fun _ U o U' => ∃ v L, o = .returned v ∧ Q_rm13 Z p0 p1 h0 n0 v U'.heap L ∧ FrameEnd U o U' L ({ frames := 0, cells := 0, slots := 0, locals := 0 } : Room).cells ({ frames := 0, cells := 0, slots := 0, locals := 0 } : Room).slots) := by
  refine MetFree.of_bodySF (Jvm.Free.JP.mathPlain rfl (by decide +kernel)) hisR ?_
  intro p e s m args below meth c s₁ Bd hml0 hP hK
  obtain ⟨rfl, hZ, hh⟩ := hP
  have hx := Bd.exec
  have hby := Bd.bytes
  have hml : c.maxLocals = 2 := hml0
  have hown : s.vm.findClass "java/lang/Math" = some m.cls := findClass_of_methodNamed Bd.named
  have hnm := (name_of_methodNamed Bd.named Bd.method).1
  have X0 : Stand p l e ({ frames := 0, cells := 0, slots := 0, locals := 0 } : Room) s m #[(.int p0), (.int p1)] below meth c s₁ [] 0 0 := Stand.of_body Bd
  have e0 : s₁.heap = h0 := by rw [← hh, Bd.state]; rfl
  have N0 := Fr.nil n0
  have pre0 : ∀ t, Steps p.tables e below (s₁.setTop (mkF m 0 #[.val (.int p0), .val (.int p1)] [])) t → Steps p.tables e below (s₁.setTop (entryFrame m #[(.int p0), (.int p1)] 2)) t := fun t k => castTop (ef_rm13 m p0 p1) k
  obtain ⟨fs, hr, hrun, hended, hW, hsame⟩ := X0.leave (v := some (.int (if p0 < p1 then p1 else p0))) (fun h => by rw [Bd.returns] at h; cases h)
  refine ⟨_, _, pre0 _ ?_, hrun, hended, _, _, rfl, ?_, ⟨_, rfl⟩, hW, hsame.mono (by decide) (by decide)⟩
  · refine XS.iloadN X0.here hx rfl (hb hby d13_0) rfl ?_
    refine XS.iloadN X0.here hx rfl (hb hby d13_1) rfl ?_
    by_cases hc2 : p0 < p1
    · rw [if_pos hc2] at hr
      refine XS.icmpYes X0.here hx rfl (pc0 := 2) (pc' := 9) rfl (hb hby d13_2) rfl (tlt hc2).1 (by decide) (by decide) ?_
      refine XS.iloadN X0.here hx rfl (hb hby d13_9) rfl ?_
      show Steps p.tables e below (s₁.setTop (mkF m 10 #[.val (.int p0), .val (.int p1)] [(.int p1)])) _
      exact retI X0 hx Bd.returns (hb hby d13_10) hr
    · rw [if_neg hc2] at hr
      refine XS.icmpNo X0.here hx rfl (hb hby d13_2) rfl (flt hc2).1 ?_
      refine XS.iloadN X0.here hx rfl (hb hby d13_5) rfl ?_
      refine XS.goto X0.here hx rfl (pc0 := 6) (pc' := 10) rfl (hb hby d13_6) (by decide) (by decide) ?_
      show Steps p.tables e below (s₁.setTop (mkF m 10 #[.val (.int p0), .val (.int p1)] [(.int p0)])) _
      exact retI X0 hx Bd.returns (hb hby d13_10) hr
  · show Q_rm13 Z p0 p1 h0 n0 _ s₁.heap _
    rw [e0]
    exact ⟨rfl, N0, rfl⟩
theorem d14_0 : decode jdk_29_method_69_code 0 = .ok (.iload_n 0, 1) := by decide +kernel
theorem d14_1 : decode jdk_29_method_69_code 1 = .ok (.iload_n 1, 1) := by decide +kernel
theorem d14_2 : decode jdk_29_method_69_code 2 = .ok (.if_icmp .gt 7, 3) := by decide +kernel
theorem d14_5 : decode jdk_29_method_69_code 5 = .ok (.iload_n 0, 1) := by decide +kernel
theorem d14_6 : decode jdk_29_method_69_code 6 = .ok (.goto 4, 3) := by decide +kernel
theorem d14_9 : decode jdk_29_method_69_code 9 = .ok (.iload_n 1, 1) := by decide +kernel
theorem d14_10 : decode jdk_29_method_69_code 10 = .ok (.ireturn, 1) := by decide +kernel
theorem ef_rm14 (m : MethodId) (x0 : Int32) (x1 : Int32) : entryFrame m #[(.int x0), (.int x1)] 2 = mkF m 0 #[.val (.int x0), .val (.int x1)] [] := by first | (simp [entryFrame, mkF, argsToLocals, Value.category]; done) | rfl
def Q_rm14 (Z : State) (p0 : Int32) (p1 : Int32) (h0 : Heap) (n0 : Nat) (v : Option Value) (h : Heap) (L : List Loc) : Prop := v = some (.int (if p1 < p0 then p1 else p0)) ∧ Fr n0 L ∧ h = h0
set_option maxRecDepth 65536 in
set_option maxHeartbeats 40000000 in
theorem rm14 (l : Launch) (Z : State) (a0 : Array Value) (hw : ∀ d ∈ tables_1, d.before a0 Z = true) (ws : List Jvm.Cond) (p0 : Int32) (p1 : Int32) (h0 : Heap) (n0 : Nat) (Z0 : n0 ≤ h0.size) :
    MetFree l (⟨"java/lang/Math", "min", "(II)I"⟩ : MethodName) (head1 (Jvm.Cond.code (⟨"java/lang/Math", "min", "(II)I"⟩ : MethodName) jdk_29_method_69_code 2 (some .int) :: ws) ({ frames := 0, cells := 0, slots := 0, locals := 0 } : Room)) (fun a U => a = #[(.int p0), (.int p1)] ∧ Z.Warmed39 U.vm ∧ U.heap = h0) (fun _ _ _ _ _ => True) (fun _ U o U' => ∃ v L, o = .returned v ∧ Q_rm14 Z p0 p1 h0 n0 v U'.heap L ∧ FrameEnd U o U' L ({ frames := 0, cells := 0, slots := 0, locals := 0 } : Room).cells ({ frames := 0, cells := 0, slots := 0, locals := 0 } : Room).slots) := by
  refine MetFree.of_bodySF (Jvm.Free.JP.mathPlain rfl (by decide +kernel)) hisR ?_
  intro p e s m args below meth c s₁ Bd hml0 hP hK
  obtain ⟨rfl, hZ, hh⟩ := hP
  have hx := Bd.exec
  have hby := Bd.bytes
  have hml : c.maxLocals = 2 := hml0
  have hown : s.vm.findClass "java/lang/Math" = some m.cls := findClass_of_methodNamed Bd.named
  have hnm := (name_of_methodNamed Bd.named Bd.method).1
  have X0 : Stand p l e ({ frames := 0, cells := 0, slots := 0, locals := 0 } : Room) s m #[(.int p0), (.int p1)] below meth c s₁ [] 0 0 := Stand.of_body Bd
  have e0 : s₁.heap = h0 := by rw [← hh, Bd.state]; rfl
  have N0 := Fr.nil n0
  have pre0 : ∀ t, Steps p.tables e below (s₁.setTop (mkF m 0 #[.val (.int p0), .val (.int p1)] [])) t → Steps p.tables e below (s₁.setTop (entryFrame m #[(.int p0), (.int p1)] 2)) t := fun t k => castTop (ef_rm14 m p0 p1) k
  obtain ⟨fs, hr, hrun, hended, hW, hsame⟩ := X0.leave (v := some (.int (if p1 < p0 then p1 else p0))) (fun h => by rw [Bd.returns] at h; cases h)
  refine ⟨_, _, pre0 _ ?_, hrun, hended, _, _, rfl, ?_, ⟨_, rfl⟩, hW, hsame.mono (by decide) (by decide)⟩
  · refine XS.iloadN X0.here hx rfl (hb hby d14_0) rfl ?_
    refine XS.iloadN X0.here hx rfl (hb hby d14_1) rfl ?_
    by_cases hc2 : p1 < p0
    · rw [if_pos hc2] at hr
      refine XS.icmpYes X0.here hx rfl (pc0 := 2) (pc' := 9) rfl (hb hby d14_2) rfl (tlt hc2).2.2.1 (by decide) (by decide) ?_
      refine XS.iloadN X0.here hx rfl (hb hby d14_9) rfl ?_
      show Steps p.tables e below (s₁.setTop (mkF m 10 #[.val (.int p0), .val (.int p1)] [(.int p1)])) _
      exact retI X0 hx Bd.returns (hb hby d14_10) hr
    · rw [if_neg hc2] at hr
      refine XS.icmpNo X0.here hx rfl (hb hby d14_2) rfl (flt hc2).2.2.1 ?_
      refine XS.iloadN X0.here hx rfl (hb hby d14_5) rfl ?_
      refine XS.goto X0.here hx rfl (pc0 := 6) (pc' := 10) rfl (hb hby d14_6) (by decide) (by decide) ?_
      show Steps p.tables e below (s₁.setTop (mkF m 10 #[.val (.int p0), .val (.int p1)] [(.int p0)])) _
      exact retI X0 hx Bd.returns (hb hby d14_10) hr
  · show Q_rm14 Z p0 p1 h0 n0 _ s₁.heap _
    rw [e0]
    exact ⟨rfl, N0, rfl⟩
theorem d12_0 : decode jdk_43_method_4_code 0 = .ok (.iload_n 0, 1) := by decide +kernel
theorem d12_1 : decode jdk_43_method_4_code 1 = .ok (.ifCond .lt 14, 3) := by decide +kernel
theorem d12_4 : decode jdk_43_method_4_code 4 = .ok (.iload_n 0, 1) := by decide +kernel
theorem d12_5 : decode jdk_43_method_4_code 5 = .ok (.sipush 255, 3) := by decide +kernel
theorem d12_8 : decode jdk_43_method_4_code 8 = .ok (.if_icmp .gt 7, 3) := by decide +kernel
theorem d12_11 : decode jdk_43_method_4_code 11 = .ok (.iconst 1, 1) := by decide +kernel
theorem d12_12 : decode jdk_43_method_4_code 12 = .ok (.goto 4, 3) := by decide +kernel
theorem d12_15 : decode jdk_43_method_4_code 15 = .ok (.iconst 0, 1) := by decide +kernel
theorem d12_16 : decode jdk_43_method_4_code 16 = .ok (.ireturn, 1) := by decide +kernel
theorem ef_rm12 (m : MethodId) (x0 : Int32) : entryFrame m #[(.int x0)] 1 = mkF m 0 #[.val (.int x0)] [] := by first | (simp [entryFrame, mkF, argsToLocals, Value.category]; done) | rfl
def Q_rm12 (Z : State) (p0 : Int32) (h0 : Heap) (n0 : Nat) (v : Option Value) (h : Heap) (L : List Loc) : Prop := v = some (.int (if p0 < (0 : Int32) then (0 : Int32) else (if (255 : Int32) < p0 then (0 : Int32) else (1 : Int32)))) ∧ Fr n0 L ∧ h = h0
set_option maxRecDepth 65536 in
set_option maxHeartbeats 40000000 in
theorem rm12 (l : Launch) (Z : State) (a0 : Array Value) (hw : ∀ d ∈ tables_1, d.before a0 Z = true) (ws : List Jvm.Cond) (p0 : Int32) (h0 : Heap) (n0 : Nat) (Z0 : n0 ≤ h0.size) :
    MetFree l (⟨"java/lang/StringLatin1", "canEncode", "(I)Z"⟩ : MethodName) (head1 (Jvm.Cond.code (⟨"java/lang/StringLatin1", "canEncode", "(I)Z"⟩ : MethodName) jdk_43_method_4_code 1 (some .boolean) :: ws) ({ frames := 0, cells := 0, slots := 0, locals := 0 } : Room)) (fun a U => a = #[(.int p0)] ∧ Z.Warmed39 U.vm ∧ U.heap = h0) (fun _ _ _ _ _ => True) (fun _ U o U' => ∃ v L, o = .returned v ∧ Q_rm12 Z p0 h0 n0 v U'.heap L ∧ FrameEnd U o U' L ({ frames := 0, cells := 0, slots := 0, locals := 0 } : Room).cells ({ frames := 0, cells := 0, slots := 0, locals := 0 } : Room).slots) := by
  refine MetFree.of_bodySF (plainFor_of_name pn_4) hisR ?_
  intro p e s m args below meth c s₁ Bd hml0 hP hK
  obtain ⟨rfl, hZ, hh⟩ := hP
  have hx := Bd.exec
  have hby := Bd.bytes
  have hml : c.maxLocals = 1 := hml0
  have hown : s.vm.findClass "java/lang/StringLatin1" = some m.cls := findClass_of_methodNamed Bd.named
  have hnm := (name_of_methodNamed Bd.named Bd.method).1
  have X0 : Stand p l e ({ frames := 0, cells := 0, slots := 0, locals := 0 } : Room) s m #[(.int p0)] below meth c s₁ [] 0 0 := Stand.of_body Bd
  have e0 : s₁.heap = h0 := by rw [← hh, Bd.state]; rfl
  have N0 := Fr.nil n0
  have pre0 : ∀ t, Steps p.tables e below (s₁.setTop (mkF m 0 #[.val (.int p0)] [])) t → Steps p.tables e below (s₁.setTop (entryFrame m #[(.int p0)] 1)) t := fun t k => castTop (ef_rm12 m p0) k
  obtain ⟨fs, hr, hrun, hended, hW, hsame⟩ := X0.leave (v := some (.int (if p0 < (0 : Int32) then (0 : Int32) else (if (255 : Int32) < p0 then (0 : Int32) else (1 : Int32))))) (fun h => by rw [Bd.returns] at h; cases h)
  refine ⟨_, _, pre0 _ ?_, hrun, hended, _, _, rfl, ?_, ⟨_, rfl⟩, hW, hsame.mono (by decide) (by decide)⟩
  · refine XS.iloadN X0.here hx rfl (hb hby d12_0) rfl ?_
    by_cases hc1 : p0 < (0 : Int32)
    · rw [if_pos hc1] at hr
      refine XS.ifYes X0.here hx rfl (pc0 := 1) (pc' := 15) rfl (hb hby d12_1) rfl ((if0 _ _).trans (tlt hc1).1) (by decide) (by decide) ?_
      refine XS.iconst X0.here hx rfl (hb hby d12_15) ?_
      show Steps p.tables e below (s₁.setTop (mkF m 16 #[.val (.int p0)] [(.int (0 : Int32))])) _
      exact retN X0 hx (t := .boolean) Bd.returns (by simp) (hb hby d12_16) hr
    · rw [if_neg hc1] at hr
      refine XS.ifNo X0.here hx rfl (hb hby d12_1) rfl ((if0 _ _).trans (flt hc1).1) ?_
      refine XS.iloadN X0.here hx rfl (hb hby d12_4) rfl ?_
      refine XS.sipush X0.here hx rfl (hb hby d12_5) ?_
      by_cases hc8 : (255 : Int32) < p0
      · rw [if_pos hc8] at hr
        refine XS.icmpYes X0.here hx rfl (pc0 := 8) (pc' := 15) rfl (hb hby d12_8) rfl (tlt hc8).2.2.1 (by decide) (by decide) ?_
        refine XS.iconst X0.here hx rfl (hb hby d12_15) ?_
        show Steps p.tables e below (s₁.setTop (mkF m 16 #[.val (.int p0)] [(.int (0 : Int32))])) _
        exact retN X0 hx (t := .boolean) Bd.returns (by simp) (hb hby d12_16) hr
      · rw [if_neg hc8] at hr
        refine XS.icmpNo X0.here hx rfl (hb hby d12_8) rfl (flt hc8).2.2.1 ?_
        refine XS.iconst X0.here hx rfl (hb hby d12_11) ?_
        refine XS.goto X0.here hx rfl (pc0 := 12) (pc' := 16) rfl (hb hby d12_12) (by decide) (by decide) ?_
        show Steps p.tables e below (s₁.setTop (mkF m 16 #[.val (.int p0)] [(.int (1 : Int32))])) _
        exact retN X0 hx (t := .boolean) Bd.returns (by simp) (hb hby d12_16) hr
  · show Q_rm12 Z p0 h0 n0 _ s₁.heap _
    rw [e0]
    exact ⟨rfl, N0, rfl⟩
theorem d41_0 : decode jdk_41_method_12_code 0 = .ok (.iload_n 0, 1) := by decide +kernel
theorem d41_1 : decode jdk_41_method_12_code 1 = .ok (.ifCond .lt 13, 3) := by decide +kernel
theorem d41_4 : decode jdk_41_method_12_code 4 = .ok (.iload_n 0, 1) := by decide +kernel
theorem d41_5 : decode jdk_41_method_12_code 5 = .ok (.iload_n 1, 1) := by decide +kernel
theorem d41_6 : decode jdk_41_method_12_code 6 = .ok (.if_icmp .gt 8, 3) := by decide +kernel
theorem d41_9 : decode jdk_41_method_12_code 9 = .ok (.iload_n 1, 1) := by decide +kernel
theorem d41_10 : decode jdk_41_method_12_code 10 = .ok (.iload_n 2, 1) := by decide +kernel
theorem d41_11 : decode jdk_41_method_12_code 11 = .ok (.if_icmp .le 11, 3) := by decide +kernel
theorem d41_22 : decode jdk_41_method_12_code 22 = .ok (.iload_n 0, 1) := by decide +kernel
theorem d41_23 : decode jdk_41_method_12_code 23 = .ok (.ireturn, 1) := by decide +kernel
theorem ef_rmPft (m : MethodId) (x0 : Int32) (x1 : Int32) (x2 : Int32) (x3 : Value) (hx3 : x3.isRef = true) : entryFrame m #[(.int x0), (.int x1), (.int x2), x3] 4 = mkF m 0 #[.val (.int x0), .val (.int x1), .val (.int x2), .val x3] [] := by rcases ref_cases hx3 with rfl | ⟨_, rfl⟩ <;> first | (simp [entryFrame, mkF, argsToLocals, Value.category]; done) | rfl
def Q_rmPft (Z : State) (p0 : Int32) (p1 : Int32) (p2 : Int32) (fm : Value) (h0 : Heap) (n0 : Nat) (v : Option Value) (h : Heap) (L : List Loc) : Prop := v = some (.int p0) ∧ Fr n0 L ∧ h = h0
set_option maxRecDepth 65536 in
set_option maxHeartbeats 40000000 in
theorem rmPft (l : Launch) (Z : State) (a0 : Array Value) (hw : ∀ d ∈ tables_1, d.before a0 Z = true) (ws : List Jvm.Cond) (p0 : Int32) (p1 : Int32) (p2 : Int32) (fm : Value) (h0 : Heap) (n0 : Nat) (Z0 : n0 ≤ h0.size) (hfm : fm.isRef = true) (u1 : ¬ p0 < 0) (u2 : ¬ p1 < p0) (u3 : ¬ p2 < p1) :
    MetFree l (⟨"jdk/internal/util/Preconditions", "checkFromToIndex", "(IIILjava/util/function/BiFunction;)I"⟩ : MethodName) (head1 (Jvm.Cond.code (⟨"jdk/internal/util/Preconditions", "checkFromToIndex", "(IIILjava/util/function/BiFunction;)I"⟩ : MethodName) jdk_41_method_12_code 4 (some .int) :: ws) ({ frames := 0, cells := 0, slots := 0, locals := 0 } : Room)) (fun a U => a = #[(.int p0), (.int p1), (.int p2), fm] ∧ Z.Warmed39 U.vm ∧ U.heap = h0) (fun _ _ _ _ _ => True) (fun _ U o U' => ∃ v L, o = .returned v ∧ Q_rmPft Z p0 p1 p2 fm h0 n0 v U'.heap L ∧ FrameEnd U o U' L ({ frames := 0, cells := 0, slots := 0, locals := 0 } : Room).cells ({ frames := 0, cells := 0, slots := 0, locals := 0 } : Room).slots) := by
  refine MetFree.of_bodySF (plainFor_of_name pn_3) hisR ?_
  intro p e s m args below meth c s₁ Bd hml0 hP hK
  obtain ⟨rfl, hZ, hh⟩ := hP
  have hx := Bd.exec
  have hby := Bd.bytes
  have hml : c.maxLocals = 4 := hml0
  have hown : s.vm.findClass "jdk/internal/util/Preconditions" = some m.cls := findClass_of_methodNamed Bd.named
  have hnm := (name_of_methodNamed Bd.named Bd.method).1
  have X0 : Stand p l e ({ frames := 0, cells := 0, slots := 0, locals := 0 } : Room) s m #[(.int p0), (.int p1), (.int p2), fm] below meth c s₁ [] 0 0 := Stand.of_body Bd
  have e0 : s₁.heap = h0 := by rw [← hh, Bd.state]; rfl
  have N0 := Fr.nil n0
  have pre0 : ∀ t, Steps p.tables e below (s₁.setTop (mkF m 0 #[.val (.int p0), .val (.int p1), .val (.int p2), .val fm] [])) t → Steps p.tables e below (s₁.setTop (entryFrame m #[(.int p0), (.int p1), (.int p2), fm] 4)) t := fun t k => castTop (ef_rmPft m p0 p1 p2 fm hfm) k
  obtain ⟨fs, hr, hrun, hended, hW, hsame⟩ := X0.leave (v := some (.int p0)) (fun h => by rw [Bd.returns] at h; cases h)
  refine ⟨_, _, pre0 _ ?_, hrun, hended, _, _, rfl, ?_, ⟨_, rfl⟩, hW, hsame.mono (by decide) (by decide)⟩
  · refine XS.iloadN X0.here hx rfl (hb hby d41_0) rfl ?_
    refine XS.ifNo X0.here hx rfl (hb hby d41_1) rfl ((if0 _ _).trans (flt u1).1) ?_
    refine XS.iloadN X0.here hx rfl (hb hby d41_4) rfl ?_
    refine XS.iloadN X0.here hx rfl (hb hby d41_5) rfl ?_
    refine XS.icmpNo X0.here hx rfl (hb hby d41_6) rfl (flt u2).2.2.1 ?_
    refine XS.iloadN X0.here hx rfl (hb hby d41_9) rfl ?_
    refine XS.iloadN X0.here hx rfl (hb hby d41_10) rfl ?_
    refine XS.icmpYes X0.here hx rfl (pc0 := 11) (pc' := 22) rfl (hb hby d41_11) rfl (flt u3).2.2.2 (by decide) (by decide) ?_
    refine XS.iloadN X0.here hx rfl (hb hby d41_22) rfl ?_
    show Steps p.tables e below (s₁.setTop (mkF m 23 #[.val (.int p0), .val (.int p1), .val (.int p2), .val fm] [(.int p0)])) _
    exact retI X0 hx Bd.returns (hb hby d41_23) hr
  · show Q_rmPft Z p0 p1 p2 fm h0 n0 _ s₁.heap _
    rw [e0]
    exact ⟨rfl, N0, rfl⟩
theorem d40_0 : decode jdk_42_method_158_code 0 = .ok (.iload_n 0, 1) := by decide +kernel
theorem d40_1 : decode jdk_42_method_158_code 1 = .ok (.iload_n 1, 1) := by decide +kernel
theorem d40_2 : decode jdk_42_method_158_code 2 = .ok (.iload_n 2, 1) := by decide +kernel
theorem d40_3 : decode jdk_42_method_158_code 3 = .ok (.getstatic 1053, 3) := by decide +kernel
theorem d40_6 : decode jdk_42_method_158_code 6 = .ok (.invokestatic 1062, 3) := by decide +kernel
theorem d40_9 : decode jdk_42_method_158_code 9 = .ok (.pop, 1) := by decide +kernel
theorem d40_10 : decode jdk_42_method_158_code 10 = .ok (.return_, 1) := by decide +kernel
theorem ef_rmScb (m : MethodId) (x0 : Int32) (x1 : Int32) (x2 : Int32) : entryFrame m #[(.int x0), (.int x1), (.int x2)] 3 = mkF m 0 #[.val (.int x0), .val (.int x1), .val (.int x2)] [] := by first | (simp [entryFrame, mkF, argsToLocals, Value.category]; done) | rfl
def Q_rmScb (Z : State) (p0 : Int32) (p1 : Int32) (p2 : Int32) (cs : Int32) (fm : Value) (h0 : Heap) (n0 : Nat) (v : Option Value) (h : Heap) (L : List Loc) : Prop := v = none ∧ Fr n0 L ∧ h = h0
set_option maxRecDepth 65536 in
set_option maxHeartbeats 40000000 in
theorem rmScb (l : Launch) (Z : State) (a0 : Array Value) (hw : ∀ d ∈ tables_1, d.before a0 Z = true) (ws : List Jvm.Cond) (p0 : Int32) (p1 : Int32) (p2 : Int32) (cs : Int32) (fm : Value) (h0 : Heap) (n0 : Nat) (Z0 : n0 ≤ h0.size) (SB : own_St Z cs fm) (Od : Old Z n0 h0) (u1 : ¬ p0 < 0) (u2 : ¬ p1 < p0) (u3 : ¬ p2 < p1) :
    MetFree l (⟨"java/lang/String", "checkBoundsBeginEnd", "(III)V"⟩ : MethodName) (head1 (Jvm.Cond.code (⟨"java/lang/String", "checkBoundsBeginEnd", "(III)V"⟩ : MethodName) jdk_42_method_158_code 3 none :: ws) ({ frames := 1, cells := 0, slots := 0, locals := 15 } : Room)) (fun a U => a = #[(.int p0), (.int p1), (.int p2)] ∧ Z.Warmed39 U.vm ∧ U.heap = h0) (fun _ _ _ _ _ => True) (fun _ U o U' => ∃ v L, o = .returned v ∧ Q_rmScb Z p0 p1 p2 cs fm h0 n0 v U'.heap L ∧ FrameEnd U o U' L ({ frames := 1, cells := 0, slots := 0, locals := 15 } : Room).cells ({ frames := 1, cells := 0, slots := 0, locals := 15 } : Room).slots) := by
  refine MetFree.of_bodySF (plainFor_of_name pn_2) hisR ?_
  intro p e s m args below meth c s₁ Bd hml0 hP hK
  obtain ⟨rfl, hZ, hh⟩ := hP
  have hx := Bd.exec
  have hby := Bd.bytes
  have hml : c.maxLocals = 3 := hml0
  have hown : s.vm.findClass "java/lang/String" = some m.cls := findClass_of_methodNamed Bd.named
  have hnm := (name_of_methodNamed Bd.named Bd.method).1
  have X0 : Stand p l e ({ frames := 1, cells := 0, slots := 0, locals := 15 } : Room) s m #[(.int p0), (.int p1), (.int p2)] below meth c s₁ [] 0 0 := Stand.of_body Bd
  have e0 : s₁.heap = h0 := by rw [← hh, Bd.state]; rfl
  have N0 := Fr.nil n0
  have pre0 : ∀ t, Steps p.tables e below (s₁.setTop (mkF m 0 #[.val (.int p0), .val (.int p1), .val (.int p2)] [])) t → Steps p.tables e below (s₁.setTop (entryFrame m #[(.int p0), (.int p1), (.int p2)] 3)) t := fun t k => castTop (ef_rmScb m p0 p1 p2) k
  have st1 : own_S p e below s₁ (mkF m 3 #[.val (.int p0), .val (.int p1), .val (.int p2)] [(.int p2), (.int p1), (.int p0)]) (mkF m 0 #[.val (.int p0), .val (.int p1), .val (.int p2)] []) := by
    intro target kt
    refine XS.iloadN X0.here hx rfl (hb hby d40_0) rfl ?_
    refine XS.iloadN X0.here hx rfl (hb hby d40_1) rfl ?_
    refine XS.iloadN X0.here hx rfl (hb hby d40_2) rfl ?_
    exact kt
  obtain ⟨T2, X2, e2, st2⟩ := getS2 X0 hx hZ hown (host := "") (Or.inl (own_w hw 158 rfl)) Via.refl e0 (SB.2.2.1.ext Od.2) (g := (mkF m 3 #[.val (.int p0), .val (.int p1), .val (.int p2)] [(.int p2), (.int p1), (.int p0)])) rfl (hb hby d40_3)
  obtain ⟨_, _, ⟨T3, L3, k3, n3⟩, -, X3, ⟨Lc3, hQ3, l3, y3, z3⟩, st3⟩ := Jvm.LawKit.callS X2 hx (y := (⟨"jdk/internal/util/Preconditions", "checkFromToIndex", "(IIILjava/util/function/BiFunction;)I"⟩ : MethodName)) hown (mvT hZ (own_w hw 182 rfl)) (mvT hZ (own_w hw 183 rfl)) (mvT hZ (own_w hw 159 rfl)) (mvT hZ (own_w hw 184 rfl)) (by decide) (backOf (W := 0) (rmPft l Z a0 hw [] p0 p1 p2 fm  h0 n0 Z0 SB.2.2.2.1 u1 u2 u3) hZ (own_w hw 184 rfl) (own_w hw 159 rfl) (by decide) (by decide)) (g := (mkF m 6 #[.val (.int p0), .val (.int p1), .val (.int p2)] [fm, (.int p2), (.int p1), (.int p0)])) rfl (by rw [hml]; rfl) (argsL := [(.int p0), (.int p1), (.int p2), fm]) (rest := []) (lenOf pd_30 rfl) rfl (by show 2 * 0 + _ ≤ _; exact Nat.le_of_eq rfl) (hb hby d40_6) (fun _ _ => ⟨rfl, e2, (by decide : 0 + 0 ≤ _), (by decide : 0 + 0 ≤ _)⟩)
  dsimp only [Pt.U, Pt.locs, Pt.cells, Pt.slots] at X3 l3 y3 z3 st3 hQ3
  subst l3 y3 z3
  obtain ⟨rfl, Nq3, e3⟩ := hQ3
  have N3 := Fr.app N0 Nq3
  obtain ⟨fs, hr, hrun, hended, hW, hsame⟩ := X3.leave (v := none) (fun _ => rfl)
  refine ⟨_, _, pre0 _ (st1 _ (st2 _ (st3 _ ?_))), hrun, hended, _, _, rfl, ?_, ⟨_, rfl⟩, hW, hsame.mono (by decide) (by decide)⟩
  · refine XS.pop X3.here hx rfl (hb hby d40_9) rfl rfl ?_
    show Steps p.tables e below (T3.setTop (mkF m 10 #[.val (.int p0), .val (.int p1), .val (.int p2)] [])) _
    exact X3.returnOut hx Bd.returns (hb hby d40_10) hr
  · show Q_rmScb Z p0 p1 p2 cs fm h0 n0 _ T3.heap _
    rw [e3]
    exact ⟨rfl, N3, rfl⟩
theorem own_ltle {a b : Int32} (h : a < b) : ¬ b < a := by rw [Int32.lt_iff_toInt_lt] at h ⊢; omega
theorem d39_0 : decode jdk_52_method_93_code 0 = .ok (.iload_n 0, 1) := by decide +kernel
theorem d39_1 : decode jdk_52_method_93_code 1 = .ok (.iload_n 1, 1) := by decide +kernel
theorem d39_2 : decode jdk_52_method_93_code 2 = .ok (.aload_n 2, 1) := by decide +kernel
theorem d39_3 : decode jdk_52_method_93_code 3 = .ok (.invokestatic 48, 3) := by decide +kernel
theorem d39_6 : decode jdk_52_method_93_code 6 = .ok (.invokestatic 241, 3) := by decide +kernel
theorem d39_9 : decode jdk_52_method_93_code 9 = .ok (.return_, 1) := by decide +kernel
theorem ef_rmUcb (m : MethodId) (x0 : Int32) (x1 : Int32) (x2 : Addr) : entryFrame m #[(.int x0), (.int x1), (.ref x2)] 3 = mkF m 0 #[.val (.int x0), .val (.int x1), .val (.ref x2)] [] := by first | (simp [entryFrame, mkF, argsToLocals, Value.category]; done) | rfl
def Q_rmUcb (Z : State) (p0 : Int32) (n : Int32) (r2 : Addr) (cs : Int32) (fm : Value) (ky : ClassId) (c0 : Int32) (c1 : Int32) (c2 : Int32) (c3 : Int32) (h0 : Heap) (n0 : Nat) (v : Option Value) (h : Heap) (L : List Loc) : Prop := v = none ∧ Fr n0 L ∧ h = h0
set_option maxRecDepth 65536 in
set_option maxHeartbeats 40000000 in
theorem rmUcb (l : Launch) (Z : State) (a0 : Array Value) (hw : ∀ d ∈ tables_1, d.before a0 Z = true) (ws : List Jvm.Cond) (p0 : Int32) (n : Int32) (r2 : Addr) (cs : Int32) (fm : Value) (ky : ClassId) (c0 : Int32) (c1 : Int32) (c2 : Int32) (c3 : Int32) (h0 : Heap) (n0 : Nat) (Z0 : n0 ≤ h0.size) (SB : own_St Z cs fm) (Od : Old Z n0 h0) (Vy : Arv Z h0 r2 ky .byte (n + n) [(.int (own_lo c0)), (.int (own_hi c0)), (.int (own_lo c1)), (.int (own_hi c1)), (.int (own_lo c2)), (.int (own_hi c2)), (.int (own_lo c3)), (.int (own_hi c3))] (.int (0 : Int32))) (hN : own_n n) (hi : own_n p0) (hl : p0 < n) :
    MetFree l (⟨"java/lang/StringUTF16", "checkBoundsBeginEnd", "(II[B)V"⟩ : MethodName) (head1 (Jvm.Cond.code (⟨"java/lang/StringUTF16", "checkBoundsBeginEnd", "(II[B)V"⟩ : MethodName) jdk_52_method_93_code 3 none :: ws) ({ frames := 2, cells := 0, slots := 0, locals := 29 } : Room)) (fun a U => a = #[(.int p0), (.int n), (.ref r2)] ∧ Z.Warmed39 U.vm ∧ U.heap = h0) (fun _ _ _ _ _ => True) (fun _ U o U' => ∃ v L, o = .returned v ∧ Q_rmUcb Z p0 n r2 cs fm ky c0 c1 c2 c3 h0 n0 v U'.heap L ∧ FrameEnd U o U' L ({ frames := 2, cells := 0, slots := 0, locals := 29 } : Room).cells ({ frames := 2, cells := 0, slots := 0, locals := 29 } : Room).slots) := by
  refine MetFree.of_bodySF (plainFor_of_name pn_1) hisR ?_
  intro p e s m args below meth c s₁ Bd hml0 hP hK
  obtain ⟨rfl, hZ, hh⟩ := hP
  have hx := Bd.exec
  have hby := Bd.bytes
  have hml : c.maxLocals = 3 := hml0
  have hown : s.vm.findClass "java/lang/StringUTF16" = some m.cls := findClass_of_methodNamed Bd.named
  have hnm := (name_of_methodNamed Bd.named Bd.method).1
  have X0 : Stand p l e ({ frames := 2, cells := 0, slots := 0, locals := 29 } : Room) s m #[(.int p0), (.int n), (.ref r2)] below meth c s₁ [] 0 0 := Stand.of_body Bd
  have e0 : s₁.heap = h0 := by rw [← hh, Bd.state]; rfl
  have N0 := Fr.nil n0
  have pre0 : ∀ t, Steps p.tables e below (s₁.setTop (mkF m 0 #[.val (.int p0), .val (.int n), .val (.ref r2)] [])) t → Steps p.tables e below (s₁.setTop (entryFrame m #[(.int p0), (.int n), (.ref r2)] 3)) t := fun t k => castTop (ef_rmUcb m p0 n r2) k
  have st1 : own_S p e below s₁ (mkF m 3 #[.val (.int p0), .val (.int n), .val (.ref r2)] [(.ref r2), (.int n), (.int p0)]) (mkF m 0 #[.val (.int p0), .val (.int n), .val (.ref r2)] []) := by
    intro target kt
    refine XS.iloadN X0.here hx rfl (hb hby d39_0) rfl ?_
    refine XS.iloadN X0.here hx rfl (hb hby d39_1) rfl ?_
    refine XS.aloadN X0.here hx rfl (hb hby d39_2) rfl rfl ?_
    exact kt
  obtain ⟨_, _, ⟨T2, L2, k2, n2⟩, -, X2, ⟨Lc2, hQ2, l2, y2, z2⟩, st2⟩ := Jvm.LawKit.callS X0 hx (y := (⟨"java/lang/StringUTF16", "length", "([B)I"⟩ : MethodName)) hown (mvT hZ (own_w hw 152 rfl)) (mvT hZ (own_w hw 153 rfl)) (mvT hZ (own_w hw 92 rfl)) (mvT hZ (own_w hw 154 rfl)) (by decide) (backOf (W := 2) (rmUl l Z a0 hw [] r2 cs fm ky n c0 c1 c2 c3 h0 n0 Z0 SB Od Vy hN) hZ (own_w hw 154 rfl) (own_w hw 92 rfl) (by decide) (by decide)) (g := (mkF m 3 #[.val (.int p0), .val (.int n), .val (.ref r2)] [(.ref r2), (.int n), (.int p0)])) rfl (by rw [hml]; rfl) (argsL := [(.ref r2)]) (rest := [(.int n), (.int p0)]) (lenOf pd_24 rfl) rfl (by show 2 * 0 + _ ≤ _; exact Nat.le_of_eq rfl) (hb hby d39_3) (fun _ _ => ⟨rfl, e0, (by decide : 0 + 0 ≤ _), (by decide : 0 + 0 ≤ _)⟩)
  dsimp only [Pt.U, Pt.locs, Pt.cells, Pt.slots] at X2 l2 y2 z2 st2 hQ2
  subst l2 y2 z2
  obtain ⟨rfl, Nq2, e2⟩ := hQ2
  have N2 := Fr.app N0 Nq2
  obtain ⟨_, _, ⟨T3, L3, k3, n3⟩, -, X3, ⟨Lc3, hQ3, l3, y3, z3⟩, st3⟩ := Jvm.LawKit.callS X2 hx (y := (⟨"java/lang/String", "checkBoundsBeginEnd", "(III)V"⟩ : MethodName)) hown (mvT hZ (own_w hw 179 rfl)) (mvT hZ (own_w hw 180 rfl)) (mvT hZ (own_w hw 7 rfl)) (mvT hZ (own_w hw 181 rfl)) (by decide) (backOf (W := 0) (rmScb l Z a0 hw [] p0 n n cs fm h0 n0 Z0 SB Od (own_nn hi) (own_ltle hl) Int32.lt_irrefl) hZ (own_w hw 181 rfl) (own_w hw 7 rfl) (by decide) (by decide)) (g := (mkF m 6 #[.val (.int p0), .val (.int n), .val (.ref r2)] [(.int n), (.int n), (.int p0)])) rfl (by rw [hml]; rfl) (argsL := [(.int p0), (.int n), (.int n)]) (rest := []) (lenOf pd_29 rfl) rfl (by show 2 * 0 + _ ≤ _; exact Nat.le_of_eq rfl) (hb hby d39_6) (fun _ _ => ⟨rfl, e2, (by decide : 0 + 0 ≤ _), (by decide : 0 + 0 ≤ _)⟩)
  dsimp only [Pt.U, Pt.locs, Pt.cells, Pt.slots] at X3 l3 y3 z3 st3 hQ3
  subst l3 y3 z3
  obtain ⟨rfl, Nq3, e3⟩ := hQ3
  have N3 := Fr.app N2 Nq3
  obtain ⟨fs, hr, hrun, hended, hW, hsame⟩ := X3.leave (v := none) (fun _ => rfl)
  refine ⟨_, _, pre0 _ (st1 _ (st2 _ (st3 _ ?_))), hrun, hended, _, _, rfl, ?_, ⟨_, rfl⟩, hW, hsame.mono (by decide) (by decide)⟩
  · show Steps p.tables e below (T3.setTop (mkF m 9 #[.val (.int p0), .val (.int n), .val (.ref r2)] [])) _
    exact X3.returnOut hx Bd.returns (hb hby d39_9) hr
  · show Q_rmUcb Z p0 n r2 cs fm ky c0 c1 c2 c3 h0 n0 _ T3.heap _
    rw [e3]
    exact ⟨rfl, N3, rfl⟩
theorem d38_0 : decode jdk_52_method_47_code 0 = .ok (.iload_n 2, 1) := by decide +kernel
theorem d38_1 : decode jdk_52_method_47_code 1 = .ok (.iload_n 3, 1) := by decide +kernel
theorem d38_2 : decode jdk_52_method_47_code 2 = .ok (.aload_n 0, 1) := by decide +kernel
theorem d38_3 : decode jdk_52_method_47_code 3 = .ok (.invokestatic 96, 3) := by decide +kernel
theorem d38_6 : decode jdk_52_method_47_code 6 = .ok (.aload_n 0, 1) := by decide +kernel
theorem d38_7 : decode jdk_52_method_47_code 7 = .ok (.iload_n 1, 1) := by decide +kernel
theorem d38_8 : decode jdk_52_method_47_code 8 = .ok (.iload_n 2, 1) := by decide +kernel
theorem d38_9 : decode jdk_52_method_47_code 9 = .ok (.iload_n 3, 1) := by decide +kernel
theorem d38_10 : decode jdk_52_method_47_code 10 = .ok (.invokestatic 244, 3) := by decide +kernel
theorem d38_13 : decode jdk_52_method_47_code 13 = .ok (.ireturn, 1) := by decide +kernel
theorem ef_rmUix (m : MethodId) (x0 : Addr) (x1 : Int32) (x2 : Int32) (x3 : Int32) : entryFrame m #[(.ref x0), (.int x1), (.int x2), (.int x3)] 4 = mkF m 0 #[.val (.ref x0), .val (.int x1), .val (.int x2), .val (.int x3)] [] := by first | (simp [entryFrame, mkF, argsToLocals, Value.category]; done) | rfl
def Q_rmUix (Z : State) (r0 : Addr) (p2 : Int32) (n : Int32) (cs : Int32) (fm : Value) (ky : ClassId) (c0 : Int32) (c1 : Int32) (c2 : Int32) (c3 : Int32) (h0 : Heap) (n0 : Nat) (v : Option Value) (h : Heap) (L : List Loc) : Prop := ∃ z : Int32, (z < 0 ↔ ¬ own_cf n c0 c1 c2 c3 5 p2) ∧ v = some (.int z) ∧ Fr n0 L ∧ h = h0
set_option maxRecDepth 65536 in
set_option maxHeartbeats 40000000 in
theorem rmUix (l : Launch) (Z : State) (a0 : Array Value) (hw : ∀ d ∈ tables_1, d.before a0 Z = true) (ws : List Jvm.Cond) (r0 : Addr) (p2 : Int32) (n : Int32) (cs : Int32) (fm : Value) (ky : ClassId) (c0 : Int32) (c1 : Int32) (c2 : Int32) (c3 : Int32) (h0 : Heap) (n0 : Nat) (Z0 : n0 ≤ h0.size) (SB : own_St Z cs fm) (Od : Old Z n0 h0) (Vy : Arv Z h0 r0 ky .byte (n + n) [(.int (own_lo c0)), (.int (own_hi c0)), (.int (own_lo c1)), (.int (own_hi c1)), (.int (own_lo c2)), (.int (own_hi c2)), (.int (own_lo c3)), (.int (own_hi c3))] (.int (0 : Int32))) (hN : own_n n) (hch : own_chs c0 c1 c2 c3) (hi : own_n p2) (hl : p2 < n) :
    MetFree l (⟨"java/lang/StringUTF16", "indexOfChar", "([BIII)I"⟩ : MethodName) (head1 (Jvm.Cond.code (⟨"java/lang/StringUTF16", "indexOfChar", "([BIII)I"⟩ : MethodName) jdk_52_method_47_code 4 (some .int) :: ws) ({ frames := 3, cells := 0, slots := 0, locals := 43 } : Room)) (fun a U => a = #[(.ref r0), (.int (44 : Int32)), (.int p2), (.int n)] ∧ Z.Warmed39 U.vm ∧ U.heap = h0) (fun _ _ _ _ _ => True) (fun _ U o U' => ∃ v L, o = .returned v ∧ Q_rmUix Z r0 p2 n cs fm ky c0 c1 c2 c3 h0 n0 v U'.heap L ∧ FrameEnd U o U' L ({ frames := 3, cells := 0, slots := 0, locals := 43 } : Room).cells ({ frames := 3, cells := 0, slots := 0, locals := 43 } : Room).slots) := by
  refine MetFree.of_bodySF (plainFor_of_name pn_1) hisR ?_
  intro p e s m args below meth c s₁ Bd hml0 hP hK
  obtain ⟨rfl, hZ, hh⟩ := hP
  have hx := Bd.exec
  have hby := Bd.bytes
  have hml : c.maxLocals = 4 := hml0
  have hown : s.vm.findClass "java/lang/StringUTF16" = some m.cls := findClass_of_methodNamed Bd.named
  have hnm := (name_of_methodNamed Bd.named Bd.method).1
  have X0 : Stand p l e ({ frames := 3, cells := 0, slots := 0, locals := 43 } : Room) s m #[(.ref r0), (.int (44 : Int32)), (.int p2), (.int n)] below meth c s₁ [] 0 0 := Stand.of_body Bd
  have e0 : s₁.heap = h0 := by rw [← hh, Bd.state]; rfl
  have N0 := Fr.nil n0
  have pre0 : ∀ t, Steps p.tables e below (s₁.setTop (mkF m 0 #[.val (.ref r0), .val (.int (44 : Int32)), .val (.int p2), .val (.int n)] [])) t → Steps p.tables e below (s₁.setTop (entryFrame m #[(.ref r0), (.int (44 : Int32)), (.int p2), (.int n)] 4)) t := fun t k => castTop (ef_rmUix m r0 (44 : Int32) p2 n) k
  have st1 : own_S p e below s₁ (mkF m 3 #[.val (.ref r0), .val (.int (44 : Int32)), .val (.int p2), .val (.int n)] [(.ref r0), (.int n), (.int p2)]) (mkF m 0 #[.val (.ref r0), .val (.int (44 : Int32)), .val (.int p2), .val (.int n)] []) := by
    intro target kt
    refine XS.iloadN X0.here hx rfl (hb hby d38_0) rfl ?_
    refine XS.iloadN X0.here hx rfl (hb hby d38_1) rfl ?_
    refine XS.aloadN X0.here hx rfl (hb hby d38_2) rfl rfl ?_
    exact kt
  obtain ⟨_, _, ⟨T2, L2, k2, n2⟩, -, X2, ⟨Lc2, hQ2, l2, y2, z2⟩, st2⟩ := Jvm.LawKit.callS X0 hx (y := (⟨"java/lang/StringUTF16", "checkBoundsBeginEnd", "(II[B)V"⟩ : MethodName)) hown (mvT hZ (own_w hw 176 rfl)) (mvT hZ (own_w hw 177 rfl)) (mvT hZ (own_w hw 92 rfl)) (mvT hZ (own_w hw 178 rfl)) (by decide) (backOf (W := 0) (rmUcb l Z a0 hw [] p2 n r0 cs fm ky c0 c1 c2 c3 h0 n0 Z0 SB Od Vy hN hi hl) hZ (own_w hw 178 rfl) (own_w hw 92 rfl) (by decide) (by decide)) (g := (mkF m 3 #[.val (.ref r0), .val (.int (44 : Int32)), .val (.int p2), .val (.int n)] [(.ref r0), (.int n), (.int p2)])) rfl (by rw [hml]; rfl) (argsL := [(.int p2), (.int n), (.ref r0)]) (rest := []) (lenOf pd_28 rfl) rfl (by show 2 * 0 + _ ≤ _; exact Nat.le_of_eq rfl) (hb hby d38_3) (fun _ _ => ⟨rfl, e0, (by decide : 0 + 0 ≤ _), (by decide : 0 + 0 ≤ _)⟩)
  dsimp only [Pt.U, Pt.locs, Pt.cells, Pt.slots] at X2 l2 y2 z2 st2 hQ2
  subst l2 y2 z2
  obtain ⟨rfl, Nq2, e2⟩ := hQ2
  have N2 := Fr.app N0 Nq2
  have st3 : own_S p e below T2 (mkF m 10 #[.val (.ref r0), .val (.int (44 : Int32)), .val (.int p2), .val (.int n)] [(.int n), (.int p2), (.int (44 : Int32)), (.ref r0)]) (mkF m 6 #[.val (.ref r0), .val (.int (44 : Int32)), .val (.int p2), .val (.int n)] []) := by
    intro target kt
    refine XS.aloadN X2.here hx rfl (hb hby d38_6) rfl rfl ?_
    refine XS.iloadN X2.here hx rfl (hb hby d38_7) rfl ?_
    refine XS.iloadN X2.here hx rfl (hb hby d38_8) rfl ?_
    refine XS.iloadN X2.here hx rfl (hb hby d38_9) rfl ?_
    exact kt
  obtain ⟨_, _, ⟨T4, L4, k4, n4⟩, -, X4, ⟨Lc4, hQ4, l4, y4, z4⟩, st4⟩ := Jvm.LawKit.callS X2 hx (y := (⟨"java/lang/StringUTF16", "indexOfCharUnsafe", "([BIII)I"⟩ : MethodName)) hown (mvT hZ (own_w hw 185 rfl)) (mvT hZ (own_w hw 186 rfl)) (mvT hZ (own_w hw 92 rfl)) (mvT hZ (own_w hw 187 rfl)) (by decide) (backOf (W := 0) (rmIxU l Z a0 hw [] r0 p2 n cs fm ky c0 c1 c2 c3 h0 n0 Z0 SB Od Vy hN hch hi) hZ (own_w hw 187 rfl) (own_w hw 92 rfl) (by decide) (by decide)) (g := (mkF m 10 #[.val (.ref r0), .val (.int (44 : Int32)), .val (.int p2), .val (.int n)] [(.int n), (.int p2), (.int (44 : Int32)), (.ref r0)])) rfl (by rw [hml]; rfl) (argsL := [(.ref r0), (.int (44 : Int32)), (.int p2), (.int n)]) (rest := []) (lenOf pd_9 rfl) rfl (by show 2 * 0 + _ ≤ _; exact Nat.le_of_eq rfl) (hb hby d38_10) (fun _ _ => ⟨rfl, e2, (by decide : 0 + 0 ≤ _), (by decide : 0 + 0 ≤ _)⟩)
  dsimp only [Pt.U, Pt.locs, Pt.cells, Pt.slots] at X4 l4 y4 z4 st4 hQ4
  subst l4 y4 z4
  obtain ⟨z4, hz4, rfl, Nq4, e4⟩ := hQ4
  have N4 := Fr.app N2 Nq4
  obtain ⟨fs, hr, hrun, hended, hW, hsame⟩ := X4.leave (v := some (.int z4)) (fun h => by rw [Bd.returns] at h; cases h)
  refine ⟨_, _, pre0 _ (st1 _ (st2 _ (st3 _ (st4 _ ?_)))), hrun, hended, _, _, rfl, ?_, ⟨_, rfl⟩, hW, hsame.mono (by decide) (by decide)⟩
  · show Steps p.tables e below (T4.setTop (mkF m 13 #[.val (.ref r0), .val (.int (44 : Int32)), .val (.int p2), .val (.int n)] [(.int z4)])) _
    exact retI X4 hx Bd.returns (hb hby d38_13) hr
  · show Q_rmUix Z r0 p2 n cs fm ky c0 c1 c2 c3 h0 n0 _ T4.heap _
    rw [e4]
    exact ⟨_, hz4, rfl, N4, rfl⟩
theorem d11_0 : decode jdk_43_method_22_code 0 = .ok (.iload_n 1, 1) := by decide +kernel
theorem d11_1 : decode jdk_43_method_22_code 1 = .ok (.invokestatic 88, 3) := by decide +kernel
theorem d11_4 : decode jdk_43_method_22_code 4 = .ok (.ifCond .ne 5, 3) := by decide +kernel
theorem d11_9 : decode jdk_43_method_22_code 9 = .ok (.iload_n 2, 1) := by decide +kernel
theorem d11_10 : decode jdk_43_method_22_code 10 = .ok (.iconst 0, 1) := by decide +kernel
theorem d11_11 : decode jdk_43_method_22_code 11 = .ok (.invokestatic 92, 3) := by decide +kernel
theorem d11_14 : decode jdk_43_method_22_code 14 = .ok (.istore_n 2, 1) := by decide +kernel
theorem d11_15 : decode jdk_43_method_22_code 15 = .ok (.iload_n 3, 1) := by decide +kernel
theorem d11_16 : decode jdk_43_method_22_code 16 = .ok (.aload_n 0, 1) := by decide +kernel
theorem d11_17 : decode jdk_43_method_22_code 17 = .ok (.arraylength, 1) := by decide +kernel
theorem d11_18 : decode jdk_43_method_22_code 18 = .ok (.invokestatic 38, 3) := by decide +kernel
theorem d11_21 : decode jdk_43_method_22_code 21 = .ok (.istore_n 3, 1) := by decide +kernel
theorem d11_22 : decode jdk_43_method_22_code 22 = .ok (.iload_n 2, 1) := by decide +kernel
theorem d11_23 : decode jdk_43_method_22_code 23 = .ok (.iload_n 3, 1) := by decide +kernel
theorem d11_24 : decode jdk_43_method_22_code 24 = .ok (.if_icmp .lt 5, 3) := by decide +kernel
theorem d11_27 : decode jdk_43_method_22_code 27 = .ok (.iconst (-1), 1) := by decide +kernel
theorem d11_28 : decode jdk_43_method_22_code 28 = .ok (.ireturn, 1) := by decide +kernel
theorem d11_29 : decode jdk_43_method_22_code 29 = .ok (.aload_n 0, 1) := by decide +kernel
theorem d11_30 : decode jdk_43_method_22_code 30 = .ok (.iload_n 1, 1) := by decide +kernel
theorem d11_31 : decode jdk_43_method_22_code 31 = .ok (.iload_n 2, 1) := by decide +kernel
theorem d11_32 : decode jdk_43_method_22_code 32 = .ok (.iload_n 3, 1) := by decide +kernel
theorem d11_33 : decode jdk_43_method_22_code 33 = .ok (.invokestatic 95, 3) := by decide +kernel
theorem d11_36 : decode jdk_43_method_22_code 36 = .ok (.ireturn, 1) := by decide +kernel
theorem ef_rmAiL (m : MethodId) (x0 : Addr) (x1 : Int32) (x2 : Int32) (x3 : Int32) : entryFrame m #[(.ref x0), (.int x1), (.int x2), (.int x3)] 4 = mkF m 0 #[.val (.ref x0), .val (.int x1), .val (.int x2), .val (.int x3)] [] := by first | (simp [entryFrame, mkF, argsToLocals, Value.category]; done) | rfl
def Q_rmAiL (Z : State) (r0 : Addr) (p2 : Int32) (n : Int32) (cs : Int32) (fm : Value) (ky : ClassId) (c0 : Int32) (c1 : Int32) (c2 : Int32) (c3 : Int32) (h0 : Heap) (n0 : Nat) (v : Option Value) (h : Heap) (L : List Loc) : Prop := ∃ z : Int32, (z < 0 ↔ ¬ own_cf n c0 c1 c2 c3 5 p2) ∧ v = some (.int z) ∧ Fr n0 L ∧ h = h0
set_option maxRecDepth 65536 in
set_option maxHeartbeats 40000000 in
theorem rmAiL (l : Launch) (Z : State) (a0 : Array Value) (hw : ∀ d ∈ tables_1, d.before a0 Z = true) (ws : List Jvm.Cond) (r0 : Addr) (p2 : Int32) (n : Int32) (cs : Int32) (fm : Value) (ky : ClassId) (c0 : Int32) (c1 : Int32) (c2 : Int32) (c3 : Int32) (h0 : Heap) (n0 : Nat) (Z0 : n0 ≤ h0.size) (SB : own_St Z cs fm) (Od : Old Z n0 h0) (Vy : Arv Z h0 r0 ky .byte n [(.int c0.toInt8.toInt32), (.int c1.toInt8.toInt32), (.int c2.toInt8.toInt32), (.int c3.toInt8.toInt32)] (.int (0 : Int32))) (hN : own_n n) (hch : own_chs c0 c1 c2 c3) (hi : own_n p2) (u0_ : c0.toInt < 256) (u1_ : c1.toInt < 256) (u2_ : c2.toInt < 256) (u3_ : c3.toInt < 256) :
    MetFree l (⟨"java/lang/StringLatin1", "indexOf", "([BIII)I"⟩ : MethodName) (head1 (Jvm.Cond.code (⟨"java/lang/StringLatin1", "indexOf", "([BIII)I"⟩ : MethodName) jdk_43_method_22_code 4 (some .int) :: ws) ({ frames := 1, cells := 0, slots := 0, locals := 17 } : Room)) (fun a U => a = #[(.ref r0), (.int (44 : Int32)), (.int p2), (.int n)] ∧ Z.Warmed39 U.vm ∧ U.heap = h0) (fun _ _ _ _ _ => True) (fun _ U o U' => ∃ v L, o = .returned v ∧ Q_rmAiL Z r0 p2 n cs fm ky c0 c1 c2 c3 h0 n0 v U'.heap L ∧ FrameEnd U o U' L ({ frames := 1, cells := 0, slots := 0, locals := 17 } : Room).cells ({ frames := 1, cells := 0, slots := 0, locals := 17 } : Room).slots) := by
  refine MetFree.of_bodySF (plainFor_of_name pn_4) hisR ?_
  intro p e s m args below meth c s₁ Bd hml0 hP hK
  obtain ⟨rfl, hZ, hh⟩ := hP
  have hx := Bd.exec
  have hby := Bd.bytes
  have hml : c.maxLocals = 4 := hml0
  have hown : s.vm.findClass "java/lang/StringLatin1" = some m.cls := findClass_of_methodNamed Bd.named
  have hnm := (name_of_methodNamed Bd.named Bd.method).1
  have X0 : Stand p l e ({ frames := 1, cells := 0, slots := 0, locals := 17 } : Room) s m #[(.ref r0), (.int (44 : Int32)), (.int p2), (.int n)] below meth c s₁ [] 0 0 := Stand.of_body Bd
  have e0 : s₁.heap = h0 := by rw [← hh, Bd.state]; rfl
  have N0 := Fr.nil n0
  have pre0 : ∀ t, Steps p.tables e below (s₁.setTop (mkF m 0 #[.val (.ref r0), .val (.int (44 : Int32)), .val (.int p2), .val (.int n)] [])) t → Steps p.tables e below (s₁.setTop (entryFrame m #[(.ref r0), (.int (44 : Int32)), (.int p2), (.int n)] 4)) t := fun t k => castTop (ef_rmAiL m r0 (44 : Int32) p2 n) k
  have st1 : own_S p e below s₁ (mkF m 1 #[.val (.ref r0), .val (.int (44 : Int32)), .val (.int p2), .val (.int n)] [(.int (44 : Int32))]) (mkF m 0 #[.val (.ref r0), .val (.int (44 : Int32)), .val (.int p2), .val (.int n)] []) := by
    intro target kt
    refine XS.iloadN X0.here hx rfl (hb hby d11_0) rfl ?_
    exact kt
  obtain ⟨_, _, ⟨T2, L2, k2, n2⟩, -, X2, ⟨Lc2, hQ2, l2, y2, z2⟩, st2⟩ := Jvm.LawKit.callS X0 hx (y := (⟨"java/lang/StringLatin1", "canEncode", "(I)Z"⟩ : MethodName)) hown (mvT hZ (own_w hw 76 rfl)) (mvT hZ (own_w hw 77 rfl)) (mvT hZ (own_w hw 74 rfl)) (mvT hZ (own_w hw 78 rfl)) (by decide) (backOf (W := 0) (rm12 l Z a0 hw [] (44 : Int32)  h0 n0 Z0 ) hZ (own_w hw 78 rfl) (own_w hw 74 rfl) (by decide) (by decide)) (g := (mkF m 1 #[.val (.ref r0), .val (.int (44 : Int32)), .val (.int p2), .val (.int n)] [(.int (44 : Int32))])) rfl (by rw [hml]; rfl) (argsL := [(.int (44 : Int32))]) (rest := []) (lenOf pd_10 rfl) rfl (by show 2 * 0 + _ ≤ _; exact Nat.le_of_eq rfl) (hb hby d11_1) (fun _ _ => ⟨rfl, e0, (by decide : 0 + 0 ≤ _), (by decide : 0 + 0 ≤ _)⟩)
  dsimp only [Pt.U, Pt.locs, Pt.cells, Pt.slots] at X2 l2 y2 z2 st2 hQ2
  subst l2 y2 z2
  obtain ⟨rfl, Nq2, e2⟩ := hQ2
  have N2 := Fr.app N0 Nq2
  rw [if_neg (by decide), if_neg (by decide)] at st2
  have st3 : own_S p e below T2 (mkF m 11 #[.val (.ref r0), .val (.int (44 : Int32)), .val (.int p2), .val (.int n)] [(.int (0 : Int32)), (.int p2)]) (mkF m 4 #[.val (.ref r0), .val (.int (44 : Int32)), .val (.int p2), .val (.int n)] [(.int (1 : Int32))]) := by
    intro target kt
    refine XS.ifYes X2.here hx rfl (pc0 := 4) (pc' := 9) rfl (hb hby d11_4) rfl ((if0 _ _).trans (feq (by decide : ¬ ((1 : Int32) = (0 : Int32)))).2) (by decide) (by decide) ?_
    refine XS.iloadN X2.here hx rfl (hb hby d11_9) rfl ?_
    refine XS.iconst X2.here hx rfl (hb hby d11_10) ?_
    exact kt
  obtain ⟨_, _, ⟨T4, L4, k4, n4⟩, -, X4, ⟨Lc4, hQ4, l4, y4, z4⟩, st4⟩ := Jvm.LawKit.callS X2 hx (y := (⟨"java/lang/Math", "max", "(II)I"⟩ : MethodName)) hown (mvT hZ (own_w hw 79 rfl)) (mvT hZ (own_w hw 80 rfl)) (mvT hZ (own_w hw 81 rfl)) (mvT hZ (own_w hw 82 rfl)) (by decide) (backOf (W := 0) (rm13 l Z a0 hw [] p2 (0 : Int32)  h0 n0 Z0 ) hZ (own_w hw 82 rfl) (own_w hw 81 rfl) (by decide) (by decide)) (g := (mkF m 11 #[.val (.ref r0), .val (.int (44 : Int32)), .val (.int p2), .val (.int n)] [(.int (0 : Int32)), (.int p2)])) rfl (by rw [hml]; rfl) (argsL := [(.int p2), (.int (0 : Int32))]) (rest := []) (lenOf pd_6 rfl) rfl (by show 2 * 0 + _ ≤ _; exact Nat.le_of_eq rfl) (hb hby d11_11) (fun _ _ => ⟨rfl, e2, (by decide : 0 + 0 ≤ _), (by decide : 0 + 0 ≤ _)⟩)
  dsimp only [Pt.U, Pt.locs, Pt.cells, Pt.slots] at X4 l4 y4 z4 st4 hQ4
  subst l4 y4 z4
  obtain ⟨rfl, Nq4, e4⟩ := hQ4
  have N4 := Fr.app N2 Nq4
  rw [if_neg (own_nn hi)] at st4
  have st5 : own_S p e below T4 (mkF m 17 #[.val (.ref r0), .val (.int (44 : Int32)), .val (.int p2), .val (.int n)] [(.ref r0), (.int n)]) (mkF m 14 #[.val (.ref r0), .val (.int (44 : Int32)), .val (.int p2), .val (.int n)] [(.int p2)]) := by
    intro target kt
    refine XS.istoreN X4.here hx rfl (hb hby d11_14) rfl (l' := #[.val (.ref r0), .val (.int (44 : Int32)), .val (.int p2), .val (.int n)]) rfl ?_
    refine XS.iloadN X4.here hx rfl (hb hby d11_15) rfl ?_
    refine XS.aloadN X4.here hx rfl (hb hby d11_16) rfl rfl ?_
    exact kt
  obtain ⟨cl6, Ar6, qc6, Sz6, Mn6, Hs6, Gs6⟩ := id Vy
  have st6 : own_S p e below T4 (mkF m 18 #[.val (.ref r0), .val (.int (44 : Int32)), .val (.int p2), .val (.int n)] [(.int n), (.int n)]) (mkF m 17 #[.val (.ref r0), .val (.int (44 : Int32)), .val (.int p2), .val (.int n)] [(.ref r0), (.int n)]) := fun target kt => X4.arraylength hx (cell := cl6) (by rw [e4]; exact Ar6.1) (State.isArrayOf_alike hZ.alike Ar6.2.1) (g := (mkF m 17 #[.val (.ref r0), .val (.int (44 : Int32)), .val (.int p2), .val (.int n)] [(.ref r0), (.int n)])) rfl rfl (hb hby d11_17) _ (by rw [len_of Sz6 Mn6]; exact kt)
  obtain ⟨_, _, ⟨T7, L7, k7, n7⟩, -, X7, ⟨Lc7, hQ7, l7, y7, z7⟩, st7⟩ := Jvm.LawKit.callS X4 hx (y := (⟨"java/lang/Math", "min", "(II)I"⟩ : MethodName)) hown (mvT hZ (own_w hw 83 rfl)) (mvT hZ (own_w hw 84 rfl)) (mvT hZ (own_w hw 81 rfl)) (mvT hZ (own_w hw 85 rfl)) (by decide) (backOf (W := 0) (rm14 l Z a0 hw [] n n  h0 n0 Z0 ) hZ (own_w hw 85 rfl) (own_w hw 81 rfl) (by decide) (by decide)) (g := (mkF m 18 #[.val (.ref r0), .val (.int (44 : Int32)), .val (.int p2), .val (.int n)] [(.int n), (.int n)])) rfl (by rw [hml]; rfl) (argsL := [(.int n), (.int n)]) (rest := []) (lenOf pd_6 rfl) rfl (by show 2 * 0 + _ ≤ _; exact Nat.le_of_eq rfl) (hb hby d11_18) (fun _ _ => ⟨rfl, e4, (by decide : 0 + 0 ≤ _), (by decide : 0 + 0 ≤ _)⟩)
  dsimp only [Pt.U, Pt.locs, Pt.cells, Pt.slots] at X7 l7 y7 z7 st7 hQ7
  subst l7 y7 z7
  obtain ⟨rfl, Nq7, e7⟩ := hQ7
  have N7 := Fr.app N4 Nq7
  rw [if_neg Int32.lt_irrefl] at st7
  have st8 : own_S p e below T7 (mkF m 24 #[.val (.ref r0), .val (.int (44 : Int32)), .val (.int p2), .val (.int n)] [(.int n), (.int p2)]) (mkF m 21 #[.val (.ref r0), .val (.int (44 : Int32)), .val (.int p2), .val (.int n)] [(.int n)]) := by
    intro target kt
    refine XS.istoreN X7.here hx rfl (hb hby d11_21) rfl (l' := #[.val (.ref r0), .val (.int (44 : Int32)), .val (.int p2), .val (.int n)]) rfl ?_
    refine XS.iloadN X7.here hx rfl (hb hby d11_22) rfl ?_
    refine XS.iloadN X7.here hx rfl (hb hby d11_23) rfl ?_
    exact kt
  by_cases hl : p2 < n
  · have st9 : own_S p e below T7 (mkF m 29 #[.val (.ref r0), .val (.int (44 : Int32)), .val (.int p2), .val (.int n)] []) (mkF m 24 #[.val (.ref r0), .val (.int (44 : Int32)), .val (.int p2), .val (.int n)] [(.int n), (.int p2)]) := by
      intro target kt
      refine XS.icmpYes X7.here hx rfl (pc0 := 24) (pc' := 29) rfl (hb hby d11_24) rfl (tlt hl).1 (by decide) (by decide) ?_
      exact kt
    have st10 : own_S p e below T7 (mkF m 33 #[.val (.ref r0), .val (.int (44 : Int32)), .val (.int p2), .val (.int n)] [(.int n), (.int p2), (.int (44 : Int32)), (.ref r0)]) (mkF m 29 #[.val (.ref r0), .val (.int (44 : Int32)), .val (.int p2), .val (.int n)] []) := by
      intro target kt
      refine XS.aloadN X7.here hx rfl (hb hby d11_29) rfl rfl ?_
      refine XS.iloadN X7.here hx rfl (hb hby d11_30) rfl ?_
      refine XS.iloadN X7.here hx rfl (hb hby d11_31) rfl ?_
      refine XS.iloadN X7.here hx rfl (hb hby d11_32) rfl ?_
      exact kt
    obtain ⟨_, _, ⟨T11, L11, k11, n11⟩, -, X11, ⟨Lc11, hQ11, l11, y11, z11⟩, st11⟩ := Jvm.LawKit.callS X7 hx (y := (⟨"java/lang/StringLatin1", "indexOfChar", "([BIII)I"⟩ : MethodName)) hown (mvT hZ (own_w hw 100 rfl)) (mvT hZ (own_w hw 101 rfl)) (mvT hZ (own_w hw 74 rfl)) (mvT hZ (own_w hw 102 rfl)) (by decide) (backOf (W := 0) (rmIxL l Z a0 hw [] r0 p2 n cs fm ky c0 c1 c2 c3 h0 n0 Z0 SB Od Vy hN hch hi u0_ u1_ u2_ u3_) hZ (own_w hw 102 rfl) (own_w hw 74 rfl) (by decide) (by decide)) (g := (mkF m 33 #[.val (.ref r0), .val (.int (44 : Int32)), .val (.int p2), .val (.int n)] [(.int n), (.int p2), (.int (44 : Int32)), (.ref r0)])) rfl (by rw [hml]; rfl) (argsL := [(.ref r0), (.int (44 : Int32)), (.int p2), (.int n)]) (rest := []) (lenOf pd_9 rfl) rfl (by show 2 * 0 + _ ≤ _; exact Nat.le_of_eq rfl) (hb hby d11_33) (fun _ _ => ⟨rfl, e7, (by decide : 0 + 0 ≤ _), (by decide : 0 + 0 ≤ _)⟩)
    dsimp only [Pt.U, Pt.locs, Pt.cells, Pt.slots] at X11 l11 y11 z11 st11 hQ11
    subst l11 y11 z11
    obtain ⟨z11, hz11, rfl, Nq11, e11⟩ := hQ11
    have N11 := Fr.app N7 Nq11
    obtain ⟨fs, hr, hrun, hended, hW, hsame⟩ := X11.leave (v := some (.int z11)) (fun h => by rw [Bd.returns] at h; cases h)
    refine ⟨_, _, pre0 _ (st1 _ (st2 _ (st3 _ (st4 _ (st5 _ (st6 _ (st7 _ (st8 _ (st9 _ (st10 _ (st11 _ ?_))))))))))), hrun, hended, _, _, rfl, ?_, ⟨_, rfl⟩, hW, hsame.mono (by decide) (by decide)⟩
    · show Steps p.tables e below (T11.setTop (mkF m 36 #[.val (.ref r0), .val (.int (44 : Int32)), .val (.int p2), .val (.int n)] [(.int z11)])) _
      exact retI X11 hx Bd.returns (hb hby d11_36) hr
    · show Q_rmAiL Z r0 p2 n cs fm ky c0 c1 c2 c3 h0 n0 _ T11.heap _
      rw [e11]
      exact ⟨_, hz11, rfl, N11, rfl⟩
  · have st12 : own_S p e below T7 (mkF m 27 #[.val (.ref r0), .val (.int (44 : Int32)), .val (.int p2), .val (.int n)] []) (mkF m 24 #[.val (.ref r0), .val (.int (44 : Int32)), .val (.int p2), .val (.int n)] [(.int n), (.int p2)]) := by
      intro target kt
      refine XS.icmpNo X7.here hx rfl (hb hby d11_24) rfl (flt hl).1 ?_
      exact kt
    obtain ⟨fs, hr, hrun, hended, hW, hsame⟩ := X7.leave (v := some (.int (-1 : Int32))) (fun h => by rw [Bd.returns] at h; cases h)
    refine ⟨_, _, pre0 _ (st1 _ (st2 _ (st3 _ (st4 _ (st5 _ (st6 _ (st7 _ (st8 _ (st12 _ ?_))))))))), hrun, hended, _, _, rfl, ?_, ⟨_, rfl⟩, hW, hsame.mono (by decide) (by decide)⟩
    · refine XS.iconst X7.here hx rfl (hb hby d11_27) ?_
      show Steps p.tables e below (T7.setTop (mkF m 28 #[.val (.ref r0), .val (.int (44 : Int32)), .val (.int p2), .val (.int n)] [(.int (-1 : Int32))])) _
      exact retI X7 hx Bd.returns (hb hby d11_28) hr
    · show Q_rmAiL Z r0 p2 n cs fm ky c0 c1 c2 c3 h0 n0 _ T7.heap _
      rw [e7]
      exact ⟨_, iff_of_true (by decide) (own_cfn hl), rfl, N7, rfl⟩
theorem d37_0 : decode jdk_52_method_40_code 0 = .ok (.iload_n 2, 1) := by decide +kernel
theorem d37_1 : decode jdk_52_method_40_code 1 = .ok (.iconst 0, 1) := by decide +kernel
theorem d37_2 : decode jdk_52_method_40_code 2 = .ok (.invokestatic 224, 3) := by decide +kernel
theorem d37_5 : decode jdk_52_method_40_code 5 = .ok (.istore_n 2, 1) := by decide +kernel
theorem d37_6 : decode jdk_52_method_40_code 6 = .ok (.iload_n 3, 1) := by decide +kernel
theorem d37_7 : decode jdk_52_method_40_code 7 = .ok (.aload_n 0, 1) := by decide +kernel
theorem d37_8 : decode jdk_52_method_40_code 8 = .ok (.arraylength, 1) := by decide +kernel
theorem d37_9 : decode jdk_52_method_40_code 9 = .ok (.iconst 1, 1) := by decide +kernel
theorem d37_10 : decode jdk_52_method_40_code 10 = .ok (.ishr, 1) := by decide +kernel
theorem d37_11 : decode jdk_52_method_40_code 11 = .ok (.invokestatic 183, 3) := by decide +kernel
theorem d37_14 : decode jdk_52_method_40_code 14 = .ok (.istore_n 3, 1) := by decide +kernel
theorem d37_15 : decode jdk_52_method_40_code 15 = .ok (.iload_n 2, 1) := by decide +kernel
theorem d37_16 : decode jdk_52_method_40_code 16 = .ok (.iload_n 3, 1) := by decide +kernel
theorem d37_17 : decode jdk_52_method_40_code 17 = .ok (.if_icmp .lt 5, 3) := by decide +kernel
theorem d37_20 : decode jdk_52_method_40_code 20 = .ok (.iconst (-1), 1) := by decide +kernel
theorem d37_21 : decode jdk_52_method_40_code 21 = .ok (.ireturn, 1) := by decide +kernel
theorem d37_22 : decode jdk_52_method_40_code 22 = .ok (.iload_n 1, 1) := by decide +kernel
theorem d37_23 : decode jdk_52_method_40_code 23 = .ok (.ldc 227, 2) := by decide +kernel
theorem d37_25 : decode jdk_52_method_40_code 25 = .ok (.if_icmp .ge 11, 3) := by decide +kernel
theorem d37_28 : decode jdk_52_method_40_code 28 = .ok (.aload_n 0, 1) := by decide +kernel
theorem d37_29 : decode jdk_52_method_40_code 29 = .ok (.iload_n 1, 1) := by decide +kernel
theorem d37_30 : decode jdk_52_method_40_code 30 = .ok (.iload_n 2, 1) := by decide +kernel
theorem d37_31 : decode jdk_52_method_40_code 31 = .ok (.iload_n 3, 1) := by decide +kernel
theorem d37_32 : decode jdk_52_method_40_code 32 = .ok (.invokestatic 228, 3) := by decide +kernel
theorem d37_35 : decode jdk_52_method_40_code 35 = .ok (.ireturn, 1) := by decide +kernel
theorem ef_rmAiU (m : MethodId) (x0 : Addr) (x1 : Int32) (x2 : Int32) (x3 : Int32) : entryFrame m #[(.ref x0), (.int x1), (.int x2), (.int x3)] 4 = mkF m 0 #[.val (.ref x0), .val (.int x1), .val (.int x2), .val (.int x3)] [] := by first | (simp [entryFrame, mkF, argsToLocals, Value.category]; done) | rfl
def Q_rmAiU (Z : State) (r0 : Addr) (p2 : Int32) (n : Int32) (cs : Int32) (fm : Value) (ky : ClassId) (c0 : Int32) (c1 : Int32) (c2 : Int32) (c3 : Int32) (h0 : Heap) (n0 : Nat) (v : Option Value) (h : Heap) (L : List Loc) : Prop := ∃ z : Int32, (z < 0 ↔ ¬ own_cf n c0 c1 c2 c3 5 p2) ∧ v = some (.int z) ∧ Fr n0 L ∧ h = h0
set_option maxRecDepth 65536 in
set_option maxHeartbeats 40000000 in
theorem rmAiU (l : Launch) (Z : State) (a0 : Array Value) (hw : ∀ d ∈ tables_1, d.before a0 Z = true) (ws : List Jvm.Cond) (r0 : Addr) (p2 : Int32) (n : Int32) (cs : Int32) (fm : Value) (ky : ClassId) (c0 : Int32) (c1 : Int32) (c2 : Int32) (c3 : Int32) (h0 : Heap) (n0 : Nat) (Z0 : n0 ≤ h0.size) (SB : own_St Z cs fm) (Od : Old Z n0 h0) (Vy : Arv Z h0 r0 ky .byte (n + n) [(.int (own_lo c0)), (.int (own_hi c0)), (.int (own_lo c1)), (.int (own_hi c1)), (.int (own_lo c2)), (.int (own_hi c2)), (.int (own_lo c3)), (.int (own_hi c3))] (.int (0 : Int32))) (hN : own_n n) (hch : own_chs c0 c1 c2 c3) (hi : own_n p2) :
    MetFree l (⟨"java/lang/StringUTF16", "indexOf", "([BIII)I"⟩ : MethodName) (head1 (Jvm.Cond.code (⟨"java/lang/StringUTF16", "indexOf", "([BIII)I"⟩ : MethodName) jdk_52_method_40_code 4 (some .int) :: ws) ({ frames := 4, cells := 0, slots := 0, locals := 58 } : Room)) (fun a U => a = #[(.ref r0), (.int (44 : Int32)), (.int p2), (.int n)] ∧ Z.Warmed39 U.vm ∧ U.heap = h0) (fun _ _ _ _ _ => True) (fun _ U o U' => ∃ v L, o = .returned v ∧ Q_rmAiU Z r0 p2 n cs fm ky c0 c1 c2 c3 h0 n0 v U'.heap L ∧ FrameEnd U o U' L ({ frames := 4, cells := 0, slots := 0, locals := 58 } : Room).cells ({ frames := 4, cells := 0, slots := 0, locals := 58 } : Room).slots) := by
  refine MetFree.of_bodySF (plainFor_of_name pn_1) hisR ?_
  intro p e s m args below meth c s₁ Bd hml0 hP hK
  obtain ⟨rfl, hZ, hh⟩ := hP
  have hx := Bd.exec
  have hby := Bd.bytes
  have hml : c.maxLocals = 4 := hml0
  have hown : s.vm.findClass "java/lang/StringUTF16" = some m.cls := findClass_of_methodNamed Bd.named
  have hnm := (name_of_methodNamed Bd.named Bd.method).1
  have X0 : Stand p l e ({ frames := 4, cells := 0, slots := 0, locals := 58 } : Room) s m #[(.ref r0), (.int (44 : Int32)), (.int p2), (.int n)] below meth c s₁ [] 0 0 := Stand.of_body Bd
  have e0 : s₁.heap = h0 := by rw [← hh, Bd.state]; rfl
  have N0 := Fr.nil n0
  have pre0 : ∀ t, Steps p.tables e below (s₁.setTop (mkF m 0 #[.val (.ref r0), .val (.int (44 : Int32)), .val (.int p2), .val (.int n)] [])) t → Steps p.tables e below (s₁.setTop (entryFrame m #[(.ref r0), (.int (44 : Int32)), (.int p2), (.int n)] 4)) t := fun t k => castTop (ef_rmAiU m r0 (44 : Int32) p2 n) k
  have st1 : own_S p e below s₁ (mkF m 2 #[.val (.ref r0), .val (.int (44 : Int32)), .val (.int p2), .val (.int n)] [(.int (0 : Int32)), (.int p2)]) (mkF m 0 #[.val (.ref r0), .val (.int (44 : Int32)), .val (.int p2), .val (.int n)] []) := by
    intro target kt
    refine XS.iloadN X0.here hx rfl (hb hby d37_0) rfl ?_
    refine XS.iconst X0.here hx rfl (hb hby d37_1) ?_
    exact kt
  obtain ⟨_, _, ⟨T2, L2, k2, n2⟩, -, X2, ⟨Lc2, hQ2, l2, y2, z2⟩, st2⟩ := Jvm.LawKit.callS X0 hx (y := (⟨"java/lang/Math", "max", "(II)I"⟩ : MethodName)) hown (mvT hZ (own_w hw 170 rfl)) (mvT hZ (own_w hw 80 rfl)) (mvT hZ (own_w hw 81 rfl)) (mvT hZ (own_w hw 82 rfl)) (by decide) (backOf (W := 0) (rm13 l Z a0 hw [] p2 (0 : Int32)  h0 n0 Z0 ) hZ (own_w hw 82 rfl) (own_w hw 81 rfl) (by decide) (by decide)) (g := (mkF m 2 #[.val (.ref r0), .val (.int (44 : Int32)), .val (.int p2), .val (.int n)] [(.int (0 : Int32)), (.int p2)])) rfl (by rw [hml]; rfl) (argsL := [(.int p2), (.int (0 : Int32))]) (rest := []) (lenOf pd_6 rfl) rfl (by show 2 * 0 + _ ≤ _; exact Nat.le_of_eq rfl) (hb hby d37_2) (fun _ _ => ⟨rfl, e0, (by decide : 0 + 0 ≤ _), (by decide : 0 + 0 ≤ _)⟩)
  dsimp only [Pt.U, Pt.locs, Pt.cells, Pt.slots] at X2 l2 y2 z2 st2 hQ2
  subst l2 y2 z2
  obtain ⟨rfl, Nq2, e2⟩ := hQ2
  have N2 := Fr.app N0 Nq2
  rw [if_neg (own_nn hi)] at st2
  have st3 : own_S p e below T2 (mkF m 8 #[.val (.ref r0), .val (.int (44 : Int32)), .val (.int p2), .val (.int n)] [(.ref r0), (.int n)]) (mkF m 5 #[.val (.ref r0), .val (.int (44 : Int32)), .val (.int p2), .val (.int n)] [(.int p2)]) := by
    intro target kt
    refine XS.istoreN X2.here hx rfl (hb hby d37_5) rfl (l' := #[.val (.ref r0), .val (.int (44 : Int32)), .val (.int p2), .val (.int n)]) rfl ?_
    refine XS.iloadN X2.here hx rfl (hb hby d37_6) rfl ?_
    refine XS.aloadN X2.here hx rfl (hb hby d37_7) rfl rfl ?_
    exact kt
  obtain ⟨cl4, Ar4, qc4, Sz4, Mn4, Hs4, Gs4⟩ := id Vy
  have st4 : own_S p e below T2 (mkF m 9 #[.val (.ref r0), .val (.int (44 : Int32)), .val (.int p2), .val (.int n)] [(.int (n + n)), (.int n)]) (mkF m 8 #[.val (.ref r0), .val (.int (44 : Int32)), .val (.int p2), .val (.int n)] [(.ref r0), (.int n)]) := fun target kt => X2.arraylength hx (cell := cl4) (by rw [e2]; exact Ar4.1) (State.isArrayOf_alike hZ.alike Ar4.2.1) (g := (mkF m 8 #[.val (.ref r0), .val (.int (44 : Int32)), .val (.int p2), .val (.int n)] [(.ref r0), (.int n)])) rfl rfl (hb hby d37_8) _ (by rw [len_of Sz4 Mn4]; exact kt)
  have st5 : own_S p e below T2 (mkF m 11 #[.val (.ref r0), .val (.int (44 : Int32)), .val (.int p2), .val (.int n)] [(.int ((n + n) >>> ((1 : Int32) &&& 31))), (.int n)]) (mkF m 9 #[.val (.ref r0), .val (.int (44 : Int32)), .val (.int p2), .val (.int n)] [(.int (n + n)), (.int n)]) := by
    intro target kt
    refine XS.iconst X2.here hx rfl (hb hby d37_9) ?_
    refine XS.ishr X2.here hx rfl (hb hby d37_10) rfl ?_
    exact kt
  rw [own_sh1 hN] at st5
  obtain ⟨_, _, ⟨T6, L6, k6, n6⟩, -, X6, ⟨Lc6, hQ6, l6, y6, z6⟩, st6⟩ := Jvm.LawKit.callS X2 hx (y := (⟨"java/lang/Math", "min", "(II)I"⟩ : MethodName)) hown (mvT hZ (own_w hw 171 rfl)) (mvT hZ (own_w hw 84 rfl)) (mvT hZ (own_w hw 81 rfl)) (mvT hZ (own_w hw 85 rfl)) (by decide) (backOf (W := 0) (rm14 l Z a0 hw [] n n  h0 n0 Z0 ) hZ (own_w hw 85 rfl) (own_w hw 81 rfl) (by decide) (by decide)) (g := (mkF m 11 #[.val (.ref r0), .val (.int (44 : Int32)), .val (.int p2), .val (.int n)] [(.int n), (.int n)])) rfl (by rw [hml]; rfl) (argsL := [(.int n), (.int n)]) (rest := []) (lenOf pd_6 rfl) rfl (by show 2 * 0 + _ ≤ _; exact Nat.le_of_eq rfl) (hb hby d37_11) (fun _ _ => ⟨rfl, e2, (by decide : 0 + 0 ≤ _), (by decide : 0 + 0 ≤ _)⟩)
  dsimp only [Pt.U, Pt.locs, Pt.cells, Pt.slots] at X6 l6 y6 z6 st6 hQ6
  subst l6 y6 z6
  obtain ⟨rfl, Nq6, e6⟩ := hQ6
  have N6 := Fr.app N2 Nq6
  rw [if_neg Int32.lt_irrefl] at st6
  have st7 : own_S p e below T6 (mkF m 17 #[.val (.ref r0), .val (.int (44 : Int32)), .val (.int p2), .val (.int n)] [(.int n), (.int p2)]) (mkF m 14 #[.val (.ref r0), .val (.int (44 : Int32)), .val (.int p2), .val (.int n)] [(.int n)]) := by
    intro target kt
    refine XS.istoreN X6.here hx rfl (hb hby d37_14) rfl (l' := #[.val (.ref r0), .val (.int (44 : Int32)), .val (.int p2), .val (.int n)]) rfl ?_
    refine XS.iloadN X6.here hx rfl (hb hby d37_15) rfl ?_
    refine XS.iloadN X6.here hx rfl (hb hby d37_16) rfl ?_
    exact kt
  by_cases hl : p2 < n
  · have st8 : own_S p e below T6 (mkF m 22 #[.val (.ref r0), .val (.int (44 : Int32)), .val (.int p2), .val (.int n)] []) (mkF m 17 #[.val (.ref r0), .val (.int (44 : Int32)), .val (.int p2), .val (.int n)] [(.int n), (.int p2)]) := by
      intro target kt
      refine XS.icmpYes X6.here hx rfl (pc0 := 17) (pc' := 22) rfl (hb hby d37_17) rfl (tlt hl).1 (by decide) (by decide) ?_
      exact kt
    have st9 : own_S p e below T6 (mkF m 32 #[.val (.ref r0), .val (.int (44 : Int32)), .val (.int p2), .val (.int n)] [(.int n), (.int p2), (.int (44 : Int32)), (.ref r0)]) (mkF m 22 #[.val (.ref r0), .val (.int (44 : Int32)), .val (.int p2), .val (.int n)] []) := by
      intro target kt
      refine XS.iloadN X6.here hx rfl (hb hby d37_22) rfl ?_
      refine X6.ldcInt hx hown (mvT hZ (own_w hw 172 rfl)) (g := (mkF m 23 #[.val (.ref r0), .val (.int (44 : Int32)), .val (.int p2), .val (.int n)] [(.int (44 : Int32))])) rfl (hb hby d37_23) _ ?_
      refine XS.icmpNo X6.here hx rfl (hb hby d37_25) rfl (tlt (by decide : ((44 : Int32) < (65536 : Int32)))).2.1 ?_
      refine XS.aloadN X6.here hx rfl (hb hby d37_28) rfl rfl ?_
      refine XS.iloadN X6.here hx rfl (hb hby d37_29) rfl ?_
      refine XS.iloadN X6.here hx rfl (hb hby d37_30) rfl ?_
      refine XS.iloadN X6.here hx rfl (hb hby d37_31) rfl ?_
      exact kt
    obtain ⟨_, _, ⟨T10, L10, k10, n10⟩, -, X10, ⟨Lc10, hQ10, l10, y10, z10⟩, st10⟩ := Jvm.LawKit.callS X6 hx (y := (⟨"java/lang/StringUTF16", "indexOfChar", "([BIII)I"⟩ : MethodName)) hown (mvT hZ (own_w hw 173 rfl)) (mvT hZ (own_w hw 174 rfl)) (mvT hZ (own_w hw 92 rfl)) (mvT hZ (own_w hw 175 rfl)) (by decide) (backOf (W := 0) (rmUix l Z a0 hw [] r0 p2 n cs fm ky c0 c1 c2 c3 h0 n0 Z0 SB Od Vy hN hch hi hl) hZ (own_w hw 175 rfl) (own_w hw 92 rfl) (by decide) (by decide)) (g := (mkF m 32 #[.val (.ref r0), .val (.int (44 : Int32)), .val (.int p2), .val (.int n)] [(.int n), (.int p2), (.int (44 : Int32)), (.ref r0)])) rfl (by rw [hml]; rfl) (argsL := [(.ref r0), (.int (44 : Int32)), (.int p2), (.int n)]) (rest := []) (lenOf pd_9 rfl) rfl (by show 2 * 0 + _ ≤ _; exact Nat.le_of_eq rfl) (hb hby d37_32) (fun _ _ => ⟨rfl, e6, (by decide : 0 + 0 ≤ _), (by decide : 0 + 0 ≤ _)⟩)
    dsimp only [Pt.U, Pt.locs, Pt.cells, Pt.slots] at X10 l10 y10 z10 st10 hQ10
    subst l10 y10 z10
    obtain ⟨z10, hz10, rfl, Nq10, e10⟩ := hQ10
    have N10 := Fr.app N6 Nq10
    obtain ⟨fs, hr, hrun, hended, hW, hsame⟩ := X10.leave (v := some (.int z10)) (fun h => by rw [Bd.returns] at h; cases h)
    refine ⟨_, _, pre0 _ (st1 _ (st2 _ (st3 _ (st4 _ (st5 _ (st6 _ (st7 _ (st8 _ (st9 _ (st10 _ ?_)))))))))), hrun, hended, _, _, rfl, ?_, ⟨_, rfl⟩, hW, hsame.mono (by decide) (by decide)⟩
    · show Steps p.tables e below (T10.setTop (mkF m 35 #[.val (.ref r0), .val (.int (44 : Int32)), .val (.int p2), .val (.int n)] [(.int z10)])) _
      exact retI X10 hx Bd.returns (hb hby d37_35) hr
    · show Q_rmAiU Z r0 p2 n cs fm ky c0 c1 c2 c3 h0 n0 _ T10.heap _
      rw [e10]
      exact ⟨_, hz10, rfl, N10, rfl⟩
  · have st11 : own_S p e below T6 (mkF m 20 #[.val (.ref r0), .val (.int (44 : Int32)), .val (.int p2), .val (.int n)] []) (mkF m 17 #[.val (.ref r0), .val (.int (44 : Int32)), .val (.int p2), .val (.int n)] [(.int n), (.int p2)]) := by
      intro target kt
      refine XS.icmpNo X6.here hx rfl (hb hby d37_17) rfl (flt hl).1 ?_
      exact kt
    obtain ⟨fs, hr, hrun, hended, hW, hsame⟩ := X6.leave (v := some (.int (-1 : Int32))) (fun h => by rw [Bd.returns] at h; cases h)
    refine ⟨_, _, pre0 _ (st1 _ (st2 _ (st3 _ (st4 _ (st5 _ (st6 _ (st7 _ (st11 _ ?_)))))))), hrun, hended, _, _, rfl, ?_, ⟨_, rfl⟩, hW, hsame.mono (by decide) (by decide)⟩
    · refine XS.iconst X6.here hx rfl (hb hby d37_20) ?_
      show Steps p.tables e below (T6.setTop (mkF m 21 #[.val (.ref r0), .val (.int (44 : Int32)), .val (.int p2), .val (.int n)] [(.int (-1 : Int32))])) _
      exact retI X6 hx Bd.returns (hb hby d37_21) hr
    · show Q_rmAiU Z r0 p2 n cs fm ky c0 c1 c2 c3 h0 n0 _ T6.heap _
      rw [e6]
      exact ⟨_, iff_of_true (by decide) (own_cfn hl), rfl, N6, rfl⟩
theorem d7_0 : decode jdk_42_method_80_code 0 = .ok (.aload_n 0, 1) := by decide +kernel
theorem d7_1 : decode jdk_42_method_80_code 1 = .ok (.invokevirtual 492, 3) := by decide +kernel
theorem d7_4 : decode jdk_42_method_80_code 4 = .ok (.ifCond .eq 19, 3) := by decide +kernel
theorem d7_7 : decode jdk_42_method_80_code 7 = .ok (.aload_n 0, 1) := by decide +kernel
theorem d7_8 : decode jdk_42_method_80_code 8 = .ok (.getfield 9, 3) := by decide +kernel
theorem d7_11 : decode jdk_42_method_80_code 11 = .ok (.iload_n 1, 1) := by decide +kernel
theorem d7_12 : decode jdk_42_method_80_code 12 = .ok (.iload_n 2, 1) := by decide +kernel
theorem d7_13 : decode jdk_42_method_80_code 13 = .ok (.aload_n 0, 1) := by decide +kernel
theorem d7_14 : decode jdk_42_method_80_code 14 = .ok (.invokevirtual 505, 3) := by decide +kernel
theorem d7_17 : decode jdk_42_method_80_code 17 = .ok (.invokestatic 637, 3) := by decide +kernel
theorem d7_20 : decode jdk_42_method_80_code 20 = .ok (.goto 16, 3) := by decide +kernel
theorem d7_23 : decode jdk_42_method_80_code 23 = .ok (.aload_n 0, 1) := by decide +kernel
theorem d7_24 : decode jdk_42_method_80_code 24 = .ok (.getfield 9, 3) := by decide +kernel
theorem d7_27 : decode jdk_42_method_80_code 27 = .ok (.iload_n 1, 1) := by decide +kernel
theorem d7_28 : decode jdk_42_method_80_code 28 = .ok (.iload_n 2, 1) := by decide +kernel
theorem d7_29 : decode jdk_42_method_80_code 29 = .ok (.aload_n 0, 1) := by decide +kernel
theorem d7_30 : decode jdk_42_method_80_code 30 = .ok (.invokevirtual 505, 3) := by decide +kernel
theorem d7_33 : decode jdk_42_method_80_code 33 = .ok (.invokestatic 640, 3) := by decide +kernel
theorem d7_36 : decode jdk_42_method_80_code 36 = .ok (.ireturn, 1) := by decide +kernel
theorem ef_rmIo (m : MethodId) (x0 : Addr) (x1 : Int32) (x2 : Int32) : entryFrame m #[(.ref x0), (.int x1), (.int x2)] 3 = mkF m 0 #[.val (.ref x0), .val (.int x1), .val (.int x2)] [] := by first | (simp [entryFrame, mkF, argsToLocals, Value.category]; done) | rfl
def Q_rmIo (Z : State) (r0 : Addr) (p2 : Int32) (cs : Int32) (fm : Value) (y : Addr) (ky : ClassId) (cd : Int32) (nb : Int32) (vs : List Value) (n : Int32) (c0 : Int32) (c1 : Int32) (c2 : Int32) (c3 : Int32) (h0 : Heap) (n0 : Nat) (v : Option Value) (h : Heap) (L : List Loc) : Prop := ∃ z : Int32, (z < 0 ↔ ¬ own_cf n c0 c1 c2 c3 5 p2) ∧ v = some (.int z) ∧ Fr n0 L ∧ h = h0
set_option maxRecDepth 65536 in
set_option maxHeartbeats 40000000 in
theorem rmIo (l : Launch) (Z : State) (a0 : Array Value) (hw : ∀ d ∈ tables_1, d.before a0 Z = true) (ws : List Jvm.Cond) (r0 : Addr) (p2 : Int32) (cs : Int32) (fm : Value) (y : Addr) (ky : ClassId) (cd : Int32) (nb : Int32) (vs : List Value) (n : Int32) (c0 : Int32) (c1 : Int32) (c2 : Int32) (c3 : Int32) (h0 : Heap) (n0 : Nat) (Z0 : n0 ≤ h0.size) (SB : own_St Z cs fm) (Od : Old Z n0 h0) (Fv : Fld Z h0 r0 "java/lang/String" "value" "[B" (.ref y)) (Fc : Fld Z h0 r0 "java/lang/String" "coder" "B" (.int cd)) (Et : Exa Z h0 r0 "java/lang/String") (Vy : Arv Z h0 y ky .byte nb vs (.int (0 : Int32))) (hcd : own_cd cd nb vs n c0 c1 c2 c3) (hN : own_n n) (hch : own_chs c0 c1 c2 c3) (hi : own_n p2) :
    MetFree l (⟨"java/lang/String", "indexOf", "(II)I"⟩ : MethodName) (head1 (Jvm.Cond.code (⟨"java/lang/String", "indexOf", "(II)I"⟩ : MethodName) jdk_42_method_80_code 3 (some .int) :: ws) ({ frames := 5, cells := 0, slots := 0, locals := 73 } : Room)) (fun a U => a = #[(.ref r0), (.int (44 : Int32)), (.int p2)] ∧ Z.Warmed39 U.vm ∧ U.heap = h0) (fun _ _ _ _ _ => True) (fun _ U o U' => ∃ v L, o = .returned v ∧ Q_rmIo Z r0 p2 cs fm y ky cd nb vs n c0 c1 c2 c3 h0 n0 v U'.heap L ∧ FrameEnd U o U' L ({ frames := 5, cells := 0, slots := 0, locals := 73 } : Room).cells ({ frames := 5, cells := 0, slots := 0, locals := 73 } : Room).slots) := by
  refine MetFree.of_bodySF (plainFor_of_name pn_2) hisR ?_
  intro p e s m args below meth c s₁ Bd hml0 hP hK
  obtain ⟨rfl, hZ, hh⟩ := hP
  have hx := Bd.exec
  have hby := Bd.bytes
  have hml : c.maxLocals = 3 := hml0
  have hown : s.vm.findClass "java/lang/String" = some m.cls := findClass_of_methodNamed Bd.named
  have hnm := (name_of_methodNamed Bd.named Bd.method).1
  have X0 : Stand p l e ({ frames := 5, cells := 0, slots := 0, locals := 73 } : Room) s m #[(.ref r0), (.int (44 : Int32)), (.int p2)] below meth c s₁ [] 0 0 := Stand.of_body Bd
  have e0 : s₁.heap = h0 := by rw [← hh, Bd.state]; rfl
  have N0 := Fr.nil n0
  have pre0 : ∀ t, Steps p.tables e below (s₁.setTop (mkF m 0 #[.val (.ref r0), .val (.int (44 : Int32)), .val (.int p2)] [])) t → Steps p.tables e below (s₁.setTop (entryFrame m #[(.ref r0), (.int (44 : Int32)), (.int p2)] 3)) t := fun t k => castTop (ef_rmIo m r0 (44 : Int32) p2) k
  rcases hcd with ⟨e1_, e2_, e3_, u0_, u1_, u2_, u3_⟩ | ⟨e1_, e2_, e3_⟩
  · subst e1_; subst e2_; subst e3_
    have st1 : own_S p e below s₁ (mkF m 1 #[.val (.ref r0), .val (.int (44 : Int32)), .val (.int p2)] [(.ref r0)]) (mkF m 0 #[.val (.ref r0), .val (.int (44 : Int32)), .val (.int p2)] []) := by
      intro target kt
      refine XS.aloadN X0.here hx rfl (hb hby d7_0) rfl rfl ?_
      exact kt
    obtain ⟨cq2, kq2, qv2a, qv2b, qv2c⟩ := isOf hZ e0 Et
    obtain ⟨_, _, ⟨T2, L2, k2, n2⟩, -, X2, ⟨Lc2, hQ2, l2, y2, z2⟩, st2⟩ := X0.virtualBack hx (y := (⟨"java/lang/String", "isLatin1", "()Z"⟩ : MethodName)) (z := (⟨"java/lang/String", "isLatin1", "()Z"⟩ : MethodName)) hown (mvT hZ (own_w hw 56 rfl)) (mvT hZ (own_w hw 57 rfl)) (notFace_of_selects (args := #[]) (mvT hZ (own_w hw 59 rfl))) (mvT hZ (own_w hw 59 rfl)) (mvT hZ (own_w hw 58 rfl)) (by decide) (backOf (W := 0) (rmLat_L4 l Z a0 hw [] r0 cs fm h0 n0 Z0 SB Od Fc) hZ (own_w hw 60 rfl) (own_w hw 7 rfl) (by decide) (by decide)) qv2a qv2c (g := (mkF m 1 #[.val (.ref r0), .val (.int (44 : Int32)), .val (.int p2)] [(.ref r0)])) rfl (by rw [hml]; rfl) (Steps.refl _) (argsL := []) (rest := []) (lenOf pd_5 rfl) rfl (by show 2 * 0 + _ ≤ _; exact Nat.le_of_eq rfl) (hb hby d7_1) (fun _ _ => ⟨rfl, e0, (by decide : 0 + 0 ≤ _), (by decide : 0 + 0 ≤ _)⟩)
    dsimp only [Pt.U, Pt.locs, Pt.cells, Pt.slots] at X2 l2 y2 z2 st2 hQ2
    subst l2 y2 z2
    obtain ⟨rfl, Nq2, e2⟩ := hQ2
    have N2 := Fr.app N0 Nq2
    have st3 : own_S p e below T2 (mkF m 8 #[.val (.ref r0), .val (.int (44 : Int32)), .val (.int p2)] [(.ref r0)]) (mkF m 4 #[.val (.ref r0), .val (.int (44 : Int32)), .val (.int p2)] [(.int (1 : Int32))]) := by
      intro target kt
      refine XS.ifNo X2.here hx rfl (hb hby d7_4) rfl ((if0 _ _).trans (feq (by decide : ¬ ((1 : Int32) = (0 : Int32)))).1) ?_
      refine XS.aloadN X2.here hx rfl (hb hby d7_7) rfl rfl ?_
      exact kt
    obtain ⟨T4, X4, e4, st4⟩ := getF X2 hx hZ hown (host := "") (Or.inl (own_w hw 24 rfl)) Via.refl e2 Fv (g := (mkF m 8 #[.val (.ref r0), .val (.int (44 : Int32)), .val (.int p2)] [(.ref r0)])) rfl rfl (hb hby d7_8)
    have st5 : own_S p e below T4 (mkF m 14 #[.val (.ref r0), .val (.int (44 : Int32)), .val (.int p2)] [(.ref r0), (.int p2), (.int (44 : Int32)), (.ref y)]) (mkF m 11 #[.val (.ref r0), .val (.int (44 : Int32)), .val (.int p2)] [(.ref y)]) := by
      intro target kt
      refine XS.iloadN X4.here hx rfl (hb hby d7_11) rfl ?_
      refine XS.iloadN X4.here hx rfl (hb hby d7_12) rfl ?_
      refine XS.aloadN X4.here hx rfl (hb hby d7_13) rfl rfl ?_
      exact kt
    obtain ⟨cq6, kq6, qv6a, qv6b, qv6c⟩ := isOf hZ e4 Et
    obtain ⟨_, _, ⟨T6, L6, k6, n6⟩, -, X6, ⟨Lc6, hQ6, l6, y6, z6⟩, st6⟩ := X4.virtualBack hx (y := (⟨"java/lang/String", "length", "()I"⟩ : MethodName)) (z := (⟨"java/lang/String", "length", "()I"⟩ : MethodName)) hown (mvT hZ (own_w hw 62 rfl)) (mvT hZ (own_w hw 63 rfl)) (notFace_of_selects (args := #[]) (mvT hZ (own_w hw 65 rfl))) (mvT hZ (own_w hw 65 rfl)) (mvT hZ (own_w hw 64 rfl)) (by decide) (backOf (W := 3) (rmLn l Z a0 hw [] r0 cs fm y ky (0 : Int32) n ([(.int c0.toInt8.toInt32), (.int c1.toInt8.toInt32), (.int c2.toInt8.toInt32), (.int c3.toInt8.toInt32)] : List Value) n c0 c1 c2 c3 h0 n0 Z0 SB Od Fv Fc Et Vy (Or.inl ⟨rfl, rfl, rfl, u0_, u1_, u2_, u3_⟩) hN hch) hZ (own_w hw 66 rfl) (own_w hw 7 rfl) (by decide) (by decide)) qv6a qv6c (g := (mkF m 14 #[.val (.ref r0), .val (.int (44 : Int32)), .val (.int p2)] [(.ref r0), (.int p2), (.int (44 : Int32)), (.ref y)])) rfl (by rw [hml]; rfl) (Steps.refl _) (argsL := []) (rest := [(.int p2), (.int (44 : Int32)), (.ref y)]) (lenOf pd_7 rfl) rfl (by show 2 * 0 + _ ≤ _; exact Nat.le_of_eq rfl) (hb hby d7_14) (fun _ _ => ⟨rfl, e4, (by decide : 0 + 0 ≤ _), (by decide : 0 + 0 ≤ _)⟩)
    dsimp only [Pt.U, Pt.locs, Pt.cells, Pt.slots] at X6 l6 y6 z6 st6 hQ6
    subst l6 y6 z6
    obtain ⟨rfl, Nq6, e6⟩ := hQ6
    have N6 := Fr.app N2 Nq6
    obtain ⟨_, _, ⟨T7, L7, k7, n7⟩, -, X7, ⟨Lc7, hQ7, l7, y7, z7⟩, st7⟩ := Jvm.LawKit.callS X6 hx (y := (⟨"java/lang/StringLatin1", "indexOf", "([BIII)I"⟩ : MethodName)) hown (mvT hZ (own_w hw 72 rfl)) (mvT hZ (own_w hw 73 rfl)) (mvT hZ (own_w hw 74 rfl)) (mvT hZ (own_w hw 75 rfl)) (by decide) (backOf (W := 0) (rmAiL l Z a0 hw [] y p2 n cs fm ky c0 c1 c2 c3 h0 n0 Z0 SB Od Vy hN hch hi u0_ u1_ u2_ u3_) hZ (own_w hw 75 rfl) (own_w hw 74 rfl) (by decide) (by decide)) (g := (mkF m 17 #[.val (.ref r0), .val (.int (44 : Int32)), .val (.int p2)] [(.int n), (.int p2), (.int (44 : Int32)), (.ref y)])) rfl (by rw [hml]; rfl) (argsL := [(.ref y), (.int (44 : Int32)), (.int p2), (.int n)]) (rest := []) (lenOf pd_9 rfl) rfl (by show 2 * 0 + _ ≤ _; exact Nat.le_of_eq rfl) (hb hby d7_17) (fun _ _ => ⟨rfl, e6, (by decide : 0 + 0 ≤ _), (by decide : 0 + 0 ≤ _)⟩)
    dsimp only [Pt.U, Pt.locs, Pt.cells, Pt.slots] at X7 l7 y7 z7 st7 hQ7
    subst l7 y7 z7
    obtain ⟨z7, hz7, rfl, Nq7, e7⟩ := hQ7
    have N7 := Fr.app N6 Nq7
    obtain ⟨fs, hr, hrun, hended, hW, hsame⟩ := X7.leave (v := some (.int z7)) (fun h => by rw [Bd.returns] at h; cases h)
    refine ⟨_, _, pre0 _ (st1 _ (st2.trans (st3 _ (st4 _ (st5 _ (st6.trans (st7 _ ?_))))))), hrun, hended, _, _, rfl, ?_, ⟨_, rfl⟩, hW, hsame.mono (by decide) (by decide)⟩
    · refine XS.goto X7.here hx rfl (pc0 := 20) (pc' := 36) rfl (hb hby d7_20) (by decide) (by decide) ?_
      show Steps p.tables e below (T7.setTop (mkF m 36 #[.val (.ref r0), .val (.int (44 : Int32)), .val (.int p2)] [(.int z7)])) _
      exact retI X7 hx Bd.returns (hb hby d7_36) hr
    · show Q_rmIo Z r0 p2 cs fm y ky (0 : Int32) n ([(.int c0.toInt8.toInt32), (.int c1.toInt8.toInt32), (.int c2.toInt8.toInt32), (.int c3.toInt8.toInt32)] : List Value) n c0 c1 c2 c3 h0 n0 _ T7.heap _
      rw [e7]
      exact ⟨_, hz7, rfl, N7, rfl⟩
  · subst e1_; subst e2_; subst e3_
    have st8 : own_S p e below s₁ (mkF m 1 #[.val (.ref r0), .val (.int (44 : Int32)), .val (.int p2)] [(.ref r0)]) (mkF m 0 #[.val (.ref r0), .val (.int (44 : Int32)), .val (.int p2)] []) := by
      intro target kt
      refine XS.aloadN X0.here hx rfl (hb hby d7_0) rfl rfl ?_
      exact kt
    obtain ⟨cq9, kq9, qv9a, qv9b, qv9c⟩ := isOf hZ e0 Et
    obtain ⟨_, _, ⟨T9, L9, k9, n9⟩, -, X9, ⟨Lc9, hQ9, l9, y9, z9⟩, st9⟩ := X0.virtualBack hx (y := (⟨"java/lang/String", "isLatin1", "()Z"⟩ : MethodName)) (z := (⟨"java/lang/String", "isLatin1", "()Z"⟩ : MethodName)) hown (mvT hZ (own_w hw 56 rfl)) (mvT hZ (own_w hw 57 rfl)) (notFace_of_selects (args := #[]) (mvT hZ (own_w hw 59 rfl))) (mvT hZ (own_w hw 59 rfl)) (mvT hZ (own_w hw 58 rfl)) (by decide) (backOf (W := 0) (rmLat_U4 l Z a0 hw [] r0 cs fm h0 n0 Z0 SB Od Fc) hZ (own_w hw 60 rfl) (own_w hw 7 rfl) (by decide) (by decide)) qv9a qv9c (g := (mkF m 1 #[.val (.ref r0), .val (.int (44 : Int32)), .val (.int p2)] [(.ref r0)])) rfl (by rw [hml]; rfl) (Steps.refl _) (argsL := []) (rest := []) (lenOf pd_5 rfl) rfl (by show 2 * 0 + _ ≤ _; exact Nat.le_of_eq rfl) (hb hby d7_1) (fun _ _ => ⟨rfl, e0, (by decide : 0 + 0 ≤ _), (by decide : 0 + 0 ≤ _)⟩)
    dsimp only [Pt.U, Pt.locs, Pt.cells, Pt.slots] at X9 l9 y9 z9 st9 hQ9
    subst l9 y9 z9
    obtain ⟨rfl, Nq9, e9⟩ := hQ9
    have N9 := Fr.app N0 Nq9
    have st10 : own_S p e below T9 (mkF m 24 #[.val (.ref r0), .val (.int (44 : Int32)), .val (.int p2)] [(.ref r0)]) (mkF m 4 #[.val (.ref r0), .val (.int (44 : Int32)), .val (.int p2)] [(.int (0 : Int32))]) := by
      intro target kt
      refine XS.ifYes X9.here hx rfl (pc0 := 4) (pc' := 23) rfl (hb hby d7_4) rfl ((if0 _ _).trans (teq (rfl : (0 : Int32) = (0 : Int32))).1) (by decide) (by decide) ?_
      refine XS.aloadN X9.here hx rfl (hb hby d7_23) rfl rfl ?_
      exact kt
    obtain ⟨T11, X11, e11, st11⟩ := getF X9 hx hZ hown (host := "") (Or.inl (own_w hw 24 rfl)) Via.refl e9 Fv (g := (mkF m 24 #[.val (.ref r0), .val (.int (44 : Int32)), .val (.int p2)] [(.ref r0)])) rfl rfl (hb hby d7_24)
    have st12 : own_S p e below T11 (mkF m 30 #[.val (.ref r0), .val (.int (44 : Int32)), .val (.int p2)] [(.ref r0), (.int p2), (.int (44 : Int32)), (.ref y)]) (mkF m 27 #[.val (.ref r0), .val (.int (44 : Int32)), .val (.int p2)] [(.ref y)]) := by
      intro target kt
      refine XS.iloadN X11.here hx rfl (hb hby d7_27) rfl ?_
      refine XS.iloadN X11.here hx rfl (hb hby d7_28) rfl ?_
      refine XS.aloadN X11.here hx rfl (hb hby d7_29) rfl rfl ?_
      exact kt
    obtain ⟨cq13, kq13, qv13a, qv13b, qv13c⟩ := isOf hZ e11 Et
    obtain ⟨_, _, ⟨T13, L13, k13, n13⟩, -, X13, ⟨Lc13, hQ13, l13, y13, z13⟩, st13⟩ := X11.virtualBack hx (y := (⟨"java/lang/String", "length", "()I"⟩ : MethodName)) (z := (⟨"java/lang/String", "length", "()I"⟩ : MethodName)) hown (mvT hZ (own_w hw 62 rfl)) (mvT hZ (own_w hw 63 rfl)) (notFace_of_selects (args := #[]) (mvT hZ (own_w hw 65 rfl))) (mvT hZ (own_w hw 65 rfl)) (mvT hZ (own_w hw 64 rfl)) (by decide) (backOf (W := 3) (rmLn l Z a0 hw [] r0 cs fm y ky (1 : Int32) (n + n) ([(.int (own_lo c0)), (.int (own_hi c0)), (.int (own_lo c1)), (.int (own_hi c1)), (.int (own_lo c2)), (.int (own_hi c2)), (.int (own_lo c3)), (.int (own_hi c3))] : List Value) n c0 c1 c2 c3 h0 n0 Z0 SB Od Fv Fc Et Vy (Or.inr ⟨rfl, rfl, rfl⟩) hN hch) hZ (own_w hw 66 rfl) (own_w hw 7 rfl) (by decide) (by decide)) qv13a qv13c (g := (mkF m 30 #[.val (.ref r0), .val (.int (44 : Int32)), .val (.int p2)] [(.ref r0), (.int p2), (.int (44 : Int32)), (.ref y)])) rfl (by rw [hml]; rfl) (Steps.refl _) (argsL := []) (rest := [(.int p2), (.int (44 : Int32)), (.ref y)]) (lenOf pd_7 rfl) rfl (by show 2 * 0 + _ ≤ _; exact Nat.le_of_eq rfl) (hb hby d7_30) (fun _ _ => ⟨rfl, e11, (by decide : 0 + 0 ≤ _), (by decide : 0 + 0 ≤ _)⟩)
    dsimp only [Pt.U, Pt.locs, Pt.cells, Pt.slots] at X13 l13 y13 z13 st13 hQ13
    subst l13 y13 z13
    obtain ⟨rfl, Nq13, e13⟩ := hQ13
    have N13 := Fr.app N9 Nq13
    obtain ⟨_, _, ⟨T14, L14, k14, n14⟩, -, X14, ⟨Lc14, hQ14, l14, y14, z14⟩, st14⟩ := Jvm.LawKit.callS X13 hx (y := (⟨"java/lang/StringUTF16", "indexOf", "([BIII)I"⟩ : MethodName)) hown (mvT hZ (own_w hw 167 rfl)) (mvT hZ (own_w hw 168 rfl)) (mvT hZ (own_w hw 92 rfl)) (mvT hZ (own_w hw 169 rfl)) (by decide) (backOf (W := 0) (rmAiU l Z a0 hw [] y p2 n cs fm ky c0 c1 c2 c3 h0 n0 Z0 SB Od Vy hN hch hi) hZ (own_w hw 169 rfl) (own_w hw 92 rfl) (by decide) (by decide)) (g := (mkF m 33 #[.val (.ref r0), .val (.int (44 : Int32)), .val (.int p2)] [(.int n), (.int p2), (.int (44 : Int32)), (.ref y)])) rfl (by rw [hml]; rfl) (argsL := [(.ref y), (.int (44 : Int32)), (.int p2), (.int n)]) (rest := []) (lenOf pd_9 rfl) rfl (by show 2 * 0 + _ ≤ _; exact Nat.le_of_eq rfl) (hb hby d7_33) (fun _ _ => ⟨rfl, e13, (by decide : 0 + 0 ≤ _), (by decide : 0 + 0 ≤ _)⟩)
    dsimp only [Pt.U, Pt.locs, Pt.cells, Pt.slots] at X14 l14 y14 z14 st14 hQ14
    subst l14 y14 z14
    obtain ⟨z14, hz14, rfl, Nq14, e14⟩ := hQ14
    have N14 := Fr.app N13 Nq14
    obtain ⟨fs, hr, hrun, hended, hW, hsame⟩ := X14.leave (v := some (.int z14)) (fun h => by rw [Bd.returns] at h; cases h)
    refine ⟨_, _, pre0 _ (st8 _ (st9.trans (st10 _ (st11 _ (st12 _ (st13.trans (st14 _ ?_))))))), hrun, hended, _, _, rfl, ?_, ⟨_, rfl⟩, hW, hsame.mono (by decide) (by decide)⟩
    · show Steps p.tables e below (T14.setTop (mkF m 36 #[.val (.ref r0), .val (.int (44 : Int32)), .val (.int p2)] [(.int z14)])) _
      exact retI X14 hx Bd.returns (hb hby d7_36) hr
    · show Q_rmIo Z r0 p2 cs fm y ky (1 : Int32) (n + n) ([(.int (own_lo c0)), (.int (own_hi c0)), (.int (own_lo c1)), (.int (own_hi c1)), (.int (own_lo c2)), (.int (own_hi c2)), (.int (own_lo c3)), (.int (own_hi c3))] : List Value) n c0 c1 c2 c3 h0 n0 _ T14.heap _
      rw [e14]
      exact ⟨_, hz14, rfl, N14, rfl⟩
theorem d4_0 : decode prog_69_method_1_code 0 = .ok (.aload_n 0, 1) := by decide +kernel
theorem d4_1 : decode prog_69_method_1_code 1 = .ok (.invokespecial 1, 3) := by decide +kernel
theorem d4_4 : decode prog_69_method_1_code 4 = .ok (.aload_n 0, 1) := by decide +kernel
theorem d4_5 : decode prog_69_method_1_code 5 = .ok (.aload_n 1, 1) := by decide +kernel
theorem d4_6 : decode prog_69_method_1_code 6 = .ok (.putfield 7, 3) := by decide +kernel
theorem d4_9 : decode prog_69_method_1_code 9 = .ok (.aload_n 0, 1) := by decide +kernel
theorem d4_10 : decode prog_69_method_1_code 10 = .ok (.aload_n 2, 1) := by decide +kernel
theorem d4_11 : decode prog_69_method_1_code 11 = .ok (.putfield 13, 3) := by decide +kernel
theorem d4_14 : decode prog_69_method_1_code 14 = .ok (.aload_n 0, 1) := by decide +kernel
theorem d4_15 : decode prog_69_method_1_code 15 = .ok (.lload_n 3, 1) := by decide +kernel
theorem d4_16 : decode prog_69_method_1_code 16 = .ok (.putfield 16, 3) := by decide +kernel
theorem d4_19 : decode prog_69_method_1_code 19 = .ok (.aload_n 0, 1) := by decide +kernel
theorem d4_20 : decode prog_69_method_1_code 20 = .ok (.aload 5, 2) := by decide +kernel
theorem d4_22 : decode prog_69_method_1_code 22 = .ok (.putfield 20, 3) := by decide +kernel
theorem d4_25 : decode prog_69_method_1_code 25 = .ok (.return_, 1) := by decide +kernel
theorem pn_5 : plainName "com/example/libbisim/libbisim/TextFormat$Cursor" = true := by first | (simp [plainName, overriddenIn]; done) | decide +kernel
theorem ef_rmCur (m : MethodId) (x0 : Addr) (x1 : Addr) (x2 : Addr) (x3 : Int64) (x4 : Addr) : entryFrame m #[(.ref x0), (.ref x1), (.ref x2), (.long x3), (.ref x4)] 6 = mkF m 0 #[.val (.ref x0), .val (.ref x1), .val (.ref x2), .val (.long x3), .second, .val (.ref x4)] [] := by first | (simp [entryFrame, mkF, argsToLocals, Value.category]; done) | rfl
def Q_rmCur (Z : State) (r0 : Addr) (r1 : Addr) (r2 : Addr) (q3 : Int64) (r4 : Addr) (h0 : Heap) (n0 : Nat) (v : Option Value) (h : Heap) (L : List Loc) : Prop := v = none ∧ Fr n0 L ∧ Keep h0 h [r0] ∧ Exa Z h r0 "com/example/libbisim/libbisim/TextFormat$Cursor" ∧ Fld Z h r0 "com/example/libbisim/libbisim/TextFormat$Cursor" "text" "Ljava/lang/String;" (.ref r1) ∧ Fld Z h r0 "com/example/libbisim/libbisim/TextFormat$Cursor" "source" "Ljava/lang/String;" (.ref r2) ∧ Fld Z h r0 "com/example/libbisim/libbisim/TextFormat$Cursor" "line" "J" (.long q3) ∧ Fld Z h r0 "com/example/libbisim/libbisim/TextFormat$Cursor" "expected" "Ljava/lang/String;" (.ref r4) ∧ Fld Z h r0 "com/example/libbisim/libbisim/TextFormat$Cursor" "at" "I" (.int (0 : Int32))
set_option maxRecDepth 65536 in
set_option maxHeartbeats 40000000 in
theorem rmCur (l : Launch) (Z : State) (a0 : Array Value) (hw : ∀ d ∈ tables_1, d.before a0 Z = true) (ws : List Jvm.Cond) (r0 : Addr) (r1 : Addr) (r2 : Addr) (q3 : Int64) (r4 : Addr) (h0 : Heap) (n0 : Nat) (Z0 : n0 ≤ h0.size) (F_text : Fld Z h0 r0 "com/example/libbisim/libbisim/TextFormat$Cursor" "text" "Ljava/lang/String;" .null) (F_source : Fld Z h0 r0 "com/example/libbisim/libbisim/TextFormat$Cursor" "source" "Ljava/lang/String;" .null) (F_line : Fld Z h0 r0 "com/example/libbisim/libbisim/TextFormat$Cursor" "line" "J" (.long (0 : Int64))) (F_expected : Fld Z h0 r0 "com/example/libbisim/libbisim/TextFormat$Cursor" "expected" "Ljava/lang/String;" .null) (F_at : Fld Z h0 r0 "com/example/libbisim/libbisim/TextFormat$Cursor" "at" "I" (.int (0 : Int32))) (E_o : Exa Z h0 r0 "com/example/libbisim/libbisim/TextFormat$Cursor") (g_r0 : n0 ≤ r0) :
    MetFree l (⟨"com/example/libbisim/libbisim/TextFormat$Cursor", "<init>", "(Ljava/lang/String;Ljava/lang/String;JLjava/lang/String;)V"⟩ : MethodName) (head1 (Jvm.Cond.code (⟨"com/example/libbisim/libbisim/TextFormat$Cursor", "<init>", "(Ljava/lang/String;Ljava/lang/String;JLjava/lang/String;)V"⟩ : MethodName) prog_69_method_1_code 6 none :: ws) ({ frames := 1, cells := 0, slots := 0, locals := 12 } : Room)) (fun a U => a = #[(.ref r0), (.ref r1), (.ref r2), (.long q3), (.ref r4)] ∧ Z.Warmed39 U.vm ∧ U.heap = h0) (fun _ _ _ _ _ => True) (fun _ U o U' => ∃ v L, o = .returned v ∧ Q_rmCur Z r0 r1 r2 q3 r4 h0 n0 v U'.heap L ∧ FrameEnd U o U' L ({ frames := 1, cells := 0, slots := 0, locals := 12 } : Room).cells ({ frames := 1, cells := 0, slots := 0, locals := 12 } : Room).slots) := by
  refine MetFree.of_bodySF (plainFor_of_name pn_5) hisR ?_
  intro p e s m args below meth c s₁ Bd hml0 hP hK
  obtain ⟨rfl, hZ, hh⟩ := hP
  have hx := Bd.exec
  have hby := Bd.bytes
  have hml : c.maxLocals = 6 := hml0
  have hown : s.vm.findClass "com/example/libbisim/libbisim/TextFormat$Cursor" = some m.cls := findClass_of_methodNamed Bd.named
  have hnm := (name_of_methodNamed Bd.named Bd.method).1
  have X0 : Stand p l e ({ frames := 1, cells := 0, slots := 0, locals := 12 } : Room) s m #[(.ref r0), (.ref r1), (.ref r2), (.long q3), (.ref r4)] below meth c s₁ [] 0 0 := Stand.of_body Bd
  have e0 : s₁.heap = h0 := by rw [← hh, Bd.state]; rfl
  have N0 := Fr.nil n0
  have pre0 : ∀ t, Steps p.tables e below (s₁.setTop (mkF m 0 #[.val (.ref r0), .val (.ref r1), .val (.ref r2), .val (.long q3), .second, .val (.ref r4)] [])) t → Steps p.tables e below (s₁.setTop (entryFrame m #[(.ref r0), (.ref r1), (.ref r2), (.long q3), (.ref r4)] 6)) t := fun t k => castTop (ef_rmCur m r0 r1 r2 q3 r4) k
  have Kp : Keep h0 h0 [r0] := Keep.refl _ _
  have st1 : own_S p e below s₁ (mkF m 1 #[.val (.ref r0), .val (.ref r1), .val (.ref r2), .val (.long q3), .second, .val (.ref r4)] [(.ref r0)]) (mkF m 0 #[.val (.ref r0), .val (.ref r1), .val (.ref r2), .val (.long q3), .second, .val (.ref r4)] []) := by
    intro target kt
    refine XS.aloadN X0.here hx rfl (hb hby d4_0) rfl rfl ?_
    exact kt
  obtain ⟨T2, X2, e2, st2⟩ := initO X0 hx hZ hown (own_w hw 31 rfl) (own_w hw 16 rfl) (own_w hw 17 rfl) e0 (g := (mkF m 1 #[.val (.ref r0), .val (.ref r1), .val (.ref r2), .val (.long q3), .second, .val (.ref r4)] [(.ref r0)])) rfl (by rw [hml]; rfl) rfl (hb hby d4_1) (by decide) (W := 0) (by show 2 * 0 + _ ≤ _; exact Nat.le_of_eq rfl) (by decide)
  have st3 : own_S p e below T2 (mkF m 6 #[.val (.ref r0), .val (.ref r1), .val (.ref r2), .val (.long q3), .second, .val (.ref r4)] [(.ref r1), (.ref r0)]) (mkF m 4 #[.val (.ref r0), .val (.ref r1), .val (.ref r2), .val (.long q3), .second, .val (.ref r4)] []) := by
    intro target kt
    refine XS.aloadN X2.here hx rfl (hb hby d4_4) rfl rfl ?_
    refine XS.aloadN X2.here hx rfl (hb hby d4_5) rfl rfl ?_
    exact kt
  obtain ⟨T4, h4, X4, e4, W4, st4⟩ := putF X2 hx hZ hown (host := "") (Or.inl (own_w hw 32 rfl)) Via.refl e2 F_text E_o (Or.inr ⟨(own_w hw 33 rfl), rfl, hnm⟩) (own_w hw 3 rfl) (ty := (.object "java/lang/String")) (by decide) rfl rfl (g := (mkF m 6 #[.val (.ref r0), .val (.ref r1), .val (.ref r2), .val (.long q3), .second, .val (.ref r4)] [(.ref r1), (.ref r0)])) rfl rfl (hb hby d4_6)
  have F_text_r0_4 : Fld Z h4 r0 "com/example/libbisim/libbisim/TextFormat$Cursor" "text" "Ljava/lang/String;" (.ref r1) := F_text.same W4
  have E_o_4 := E_o.wr W4
  have F_source_4 := F_source.other W4 (Or.inr (slot_ne (Or.inr (own_w hw 35 rfl)) (Or.inr (own_w hw 33 rfl)) (by decide) (t := (.object "java/lang/String")) (t' := (.object "java/lang/String")) (by decide) (by decide)))
  have F_line_4 := F_line.other W4 (Or.inr (slot_ne (Or.inr (own_w hw 37 rfl)) (Or.inr (own_w hw 33 rfl)) (by decide) (t := .long) (t' := (.object "java/lang/String")) (by decide) (by decide)))
  have F_expected_4 := F_expected.other W4 (Or.inr (slot_ne (Or.inr (own_w hw 39 rfl)) (Or.inr (own_w hw 33 rfl)) (by decide) (t := (.object "java/lang/String")) (t' := (.object "java/lang/String")) (by decide) (by decide)))
  have F_at_4 := F_at.other W4 (Or.inr (slot_ne (Or.inl (own_w hw 50 rfl)) (Or.inr (own_w hw 33 rfl)) (by decide) (t := .int) (t' := (.object "java/lang/String")) (by decide) (by decide)))
  have Z_4 : n0 ≤ h4.size := Nat.le_trans Z0 (Keep.of_wr W4).1
  have Kp_4 : Keep h0 h4 [r0] := Kp.wr W4 (Or.inl (List.mem_of_getElem? (i := 0) rfl))
  have N4 := Fr.snoc X4 N0 g_r0
  have st5 : own_S p e below T4 (mkF m 11 #[.val (.ref r0), .val (.ref r1), .val (.ref r2), .val (.long q3), .second, .val (.ref r4)] [(.ref r2), (.ref r0)]) (mkF m 9 #[.val (.ref r0), .val (.ref r1), .val (.ref r2), .val (.long q3), .second, .val (.ref r4)] []) := by
    intro target kt
    refine XS.aloadN X4.here hx rfl (hb hby d4_9) rfl rfl ?_
    refine XS.aloadN X4.here hx rfl (hb hby d4_10) rfl rfl ?_
    exact kt
  obtain ⟨T6, h6, X6, e6, W6, st6⟩ := putF X4 hx hZ hown (host := "") (Or.inl (own_w hw 34 rfl)) Via.refl e4 F_source_4 E_o_4 (Or.inr ⟨(own_w hw 35 rfl), rfl, hnm⟩) (own_w hw 3 rfl) (ty := (.object "java/lang/String")) (by decide) rfl rfl (g := (mkF m 11 #[.val (.ref r0), .val (.ref r1), .val (.ref r2), .val (.long q3), .second, .val (.ref r4)] [(.ref r2), (.ref r0)])) rfl rfl (hb hby d4_11)
  have F_source_r0_6 : Fld Z h6 r0 "com/example/libbisim/libbisim/TextFormat$Cursor" "source" "Ljava/lang/String;" (.ref r2) := F_source_4.same W6
  have E_o_6 := E_o_4.wr W6
  have F_line_6 := F_line_4.other W6 (Or.inr (slot_ne (Or.inr (own_w hw 37 rfl)) (Or.inr (own_w hw 35 rfl)) (by decide) (t := .long) (t' := (.object "java/lang/String")) (by decide) (by decide)))
  have F_expected_6 := F_expected_4.other W6 (Or.inr (slot_ne (Or.inr (own_w hw 39 rfl)) (Or.inr (own_w hw 35 rfl)) (by decide) (t := (.object "java/lang/String")) (t' := (.object "java/lang/String")) (by decide) (by decide)))
  have F_at_6 := F_at_4.other W6 (Or.inr (slot_ne (Or.inl (own_w hw 50 rfl)) (Or.inr (own_w hw 35 rfl)) (by decide) (t := .int) (t' := (.object "java/lang/String")) (by decide) (by decide)))
  have F_text_r0_6 := F_text_r0_4.other W6 (Or.inr (slot_ne (Or.inr (own_w hw 33 rfl)) (Or.inr (own_w hw 35 rfl)) (by decide) (t := (.object "java/lang/String")) (t' := (.object "java/lang/String")) (by decide) (by decide)))
  have Z_6 : n0 ≤ h6.size := Nat.le_trans Z_4 (Keep.of_wr W6).1
  have Kp_6 : Keep h0 h6 [r0] := Kp_4.wr W6 (Or.inl (List.mem_of_getElem? (i := 0) rfl))
  have N6 := Fr.snoc X6 N4 g_r0
  have st7 : own_S p e below T6 (mkF m 16 #[.val (.ref r0), .val (.ref r1), .val (.ref r2), .val (.long q3), .second, .val (.ref r4)] [(.long q3), (.ref r0)]) (mkF m 14 #[.val (.ref r0), .val (.ref r1), .val (.ref r2), .val (.long q3), .second, .val (.ref r4)] []) := by
    intro target kt
    refine XS.aloadN X6.here hx rfl (hb hby d4_14) rfl rfl ?_
    refine XS.lloadN X6.here hx rfl (hb hby d4_15) rfl ?_
    exact kt
  obtain ⟨T8, h8, X8, e8, W8, st8⟩ := putF X6 hx hZ hown (host := "") (Or.inl (own_w hw 36 rfl)) Via.refl e6 F_line_6 E_o_6 (Or.inr ⟨(own_w hw 37 rfl), rfl, hnm⟩) (own_w hw 3 rfl) (ty := .long) (by decide) rfl rfl (g := (mkF m 16 #[.val (.ref r0), .val (.ref r1), .val (.ref r2), .val (.long q3), .second, .val (.ref r4)] [(.long q3), (.ref r0)])) rfl rfl (hb hby d4_16)
  have F_line_r0_8 : Fld Z h8 r0 "com/example/libbisim/libbisim/TextFormat$Cursor" "line" "J" (.long q3) := F_line_6.same W8
  have E_o_8 := E_o_6.wr W8
  have F_expected_8 := F_expected_6.other W8 (Or.inr (slot_ne (Or.inr (own_w hw 39 rfl)) (Or.inr (own_w hw 37 rfl)) (by decide) (t := (.object "java/lang/String")) (t' := .long) (by decide) (by decide)))
  have F_at_8 := F_at_6.other W8 (Or.inr (slot_ne (Or.inl (own_w hw 50 rfl)) (Or.inr (own_w hw 37 rfl)) (by decide) (t := .int) (t' := .long) (by decide) (by decide)))
  have F_text_r0_8 := F_text_r0_6.other W8 (Or.inr (slot_ne (Or.inr (own_w hw 33 rfl)) (Or.inr (own_w hw 37 rfl)) (by decide) (t := (.object "java/lang/String")) (t' := .long) (by decide) (by decide)))
  have F_source_r0_8 := F_source_r0_6.other W8 (Or.inr (slot_ne (Or.inr (own_w hw 35 rfl)) (Or.inr (own_w hw 37 rfl)) (by decide) (t := (.object "java/lang/String")) (t' := .long) (by decide) (by decide)))
  have Z_8 : n0 ≤ h8.size := Nat.le_trans Z_6 (Keep.of_wr W8).1
  have Kp_8 : Keep h0 h8 [r0] := Kp_6.wr W8 (Or.inl (List.mem_of_getElem? (i := 0) rfl))
  have N8 := Fr.snoc X8 N6 g_r0
  have st9 : own_S p e below T8 (mkF m 22 #[.val (.ref r0), .val (.ref r1), .val (.ref r2), .val (.long q3), .second, .val (.ref r4)] [(.ref r4), (.ref r0)]) (mkF m 19 #[.val (.ref r0), .val (.ref r1), .val (.ref r2), .val (.long q3), .second, .val (.ref r4)] []) := by
    intro target kt
    refine XS.aloadN X8.here hx rfl (hb hby d4_19) rfl rfl ?_
    refine XS.aload X8.here hx rfl (hb hby d4_20) rfl rfl ?_
    exact kt
  obtain ⟨T10, h10, X10, e10, W10, st10⟩ := putF X8 hx hZ hown (host := "") (Or.inl (own_w hw 38 rfl)) Via.refl e8 F_expected_8 E_o_8 (Or.inr ⟨(own_w hw 39 rfl), rfl, hnm⟩) (own_w hw 3 rfl) (ty := (.object "java/lang/String")) (by decide) rfl rfl (g := (mkF m 22 #[.val (.ref r0), .val (.ref r1), .val (.ref r2), .val (.long q3), .second, .val (.ref r4)] [(.ref r4), (.ref r0)])) rfl rfl (hb hby d4_22)
  have F_expected_r0_10 : Fld Z h10 r0 "com/example/libbisim/libbisim/TextFormat$Cursor" "expected" "Ljava/lang/String;" (.ref r4) := F_expected_8.same W10
  have E_o_10 := E_o_8.wr W10
  have F_at_10 := F_at_8.other W10 (Or.inr (slot_ne (Or.inl (own_w hw 50 rfl)) (Or.inr (own_w hw 39 rfl)) (by decide) (t := .int) (t' := (.object "java/lang/String")) (by decide) (by decide)))
  have F_text_r0_10 := F_text_r0_8.other W10 (Or.inr (slot_ne (Or.inr (own_w hw 33 rfl)) (Or.inr (own_w hw 39 rfl)) (by decide) (t := (.object "java/lang/String")) (t' := (.object "java/lang/String")) (by decide) (by decide)))
  have F_source_r0_10 := F_source_r0_8.other W10 (Or.inr (slot_ne (Or.inr (own_w hw 35 rfl)) (Or.inr (own_w hw 39 rfl)) (by decide) (t := (.object "java/lang/String")) (t' := (.object "java/lang/String")) (by decide) (by decide)))
  have F_line_r0_10 := F_line_r0_8.other W10 (Or.inr (slot_ne (Or.inr (own_w hw 37 rfl)) (Or.inr (own_w hw 39 rfl)) (by decide) (t := .long) (t' := (.object "java/lang/String")) (by decide) (by decide)))
  have Z_10 : n0 ≤ h10.size := Nat.le_trans Z_8 (Keep.of_wr W10).1
  have Kp_10 : Keep h0 h10 [r0] := Kp_8.wr W10 (Or.inl (List.mem_of_getElem? (i := 0) rfl))
  have N10 := Fr.snoc X10 N8 g_r0
  obtain ⟨fs, hr, hrun, hended, hW, hsame⟩ := X10.leave (v := none) (fun _ => rfl)
  refine ⟨_, _, pre0 _ (st1 _ (st2 _ (st3 _ (st4 _ (st5 _ (st6 _ (st7 _ (st8 _ (st9 _ (st10 _ ?_)))))))))), hrun, hended, _, _, rfl, ?_, ⟨_, rfl⟩, hW, hsame.mono (by decide) (by decide)⟩
  · show Steps p.tables e below (T10.setTop (mkF m 25 #[.val (.ref r0), .val (.ref r1), .val (.ref r2), .val (.long q3), .second, .val (.ref r4)] [])) _
    exact X10.returnOut hx Bd.returns (hb hby d4_25) hr
  · show Q_rmCur Z r0 r1 r2 q3 r4 h0 n0 _ T10.heap _
    rw [e10]
    exact ⟨rfl, N10, Kp_10, E_o_10, F_text_r0_10, F_source_r0_10, F_line_r0_10, F_expected_r0_10, F_at_10⟩
theorem d36_0 : decode prog_67_method_8_code 0 = .ok (.iload_n 0, 1) := by decide +kernel
theorem d36_1 : decode prog_67_method_8_code 1 = .ok (.bipush 32, 2) := by decide +kernel
theorem d36_3 : decode prog_67_method_8_code 3 = .ok (.if_icmp .eq 9, 3) := by decide +kernel
theorem d36_6 : decode prog_67_method_8_code 6 = .ok (.iload_n 0, 1) := by decide +kernel
theorem d36_7 : decode prog_67_method_8_code 7 = .ok (.bipush 9, 2) := by decide +kernel
theorem d36_9 : decode prog_67_method_8_code 9 = .ok (.if_icmp .ne 7, 3) := by decide +kernel
theorem d36_12 : decode prog_67_method_8_code 12 = .ok (.iconst 1, 1) := by decide +kernel
theorem d36_13 : decode prog_67_method_8_code 13 = .ok (.goto 4, 3) := by decide +kernel
theorem d36_16 : decode prog_67_method_8_code 16 = .ok (.iconst 0, 1) := by decide +kernel
theorem d36_17 : decode prog_67_method_8_code 17 = .ok (.ireturn, 1) := by decide +kernel
theorem pn_6 : plainName "com/example/libbisim/libbisim/TextFormat" = true := by first | (simp [plainName, overriddenIn]; done) | decide +kernel
theorem ef_rmBl (m : MethodId) (x0 : Int32) : entryFrame m #[(.int x0)] 1 = mkF m 0 #[.val (.int x0)] [] := by first | (simp [entryFrame, mkF, argsToLocals, Value.category]; done) | rfl
def Q_rmBl (Z : State) (p0 : Int32) (h0 : Heap) (n0 : Nat) (v : Option Value) (h : Heap) (L : List Loc) : Prop := ∃ b : Int32, (b = 0 ↔ ¬ own_bl p0) ∧ v = some (.int b) ∧ Fr n0 L ∧ h = h0
set_option maxRecDepth 65536 in
set_option maxHeartbeats 40000000 in
theorem rmBl (l : Launch) (Z : State) (a0 : Array Value) (hw : ∀ d ∈ tables_1, d.before a0 Z = true) (ws : List Jvm.Cond) (p0 : Int32) (h0 : Heap) (n0 : Nat) (Z0 : n0 ≤ h0.size) :
    MetFree l (⟨"com/example/libbisim/libbisim/TextFormat", "isBlank", "(C)Z"⟩ : MethodName) (head1 (Jvm.Cond.code (⟨"com/example/libbisim/libbisim/TextFormat", "isBlank", "(C)Z"⟩ : MethodName) prog_67_method_8_code 1 (some .boolean) :: ws) ({ frames := 0, cells := 0, slots := 0, locals := 0 } : Room)) (fun a U => a = #[(.int p0)] ∧ Z.Warmed39 U.vm ∧ U.heap = h0) (fun _ _ _ _ _ => True) (fun _ U o U' => ∃ v L, o = .returned v ∧ Q_rmBl Z p0 h0 n0 v U'.heap L ∧ FrameEnd U o U' L ({ frames := 0, cells := 0, slots := 0, locals := 0 } : Room).cells ({ frames := 0, cells := 0, slots := 0, locals := 0 } : Room).slots) := by
  refine MetFree.of_bodySF (plainFor_of_name pn_6) hisR ?_
  intro p e s m args below meth c s₁ Bd hml0 hP hK
  obtain ⟨rfl, hZ, hh⟩ := hP
  have hx := Bd.exec
  have hby := Bd.bytes
  have hml : c.maxLocals = 1 := hml0
  have hown : s.vm.findClass "com/example/libbisim/libbisim/TextFormat" = some m.cls := findClass_of_methodNamed Bd.named
  have hnm := (name_of_methodNamed Bd.named Bd.method).1
  have X0 : Stand p l e ({ frames := 0, cells := 0, slots := 0, locals := 0 } : Room) s m #[(.int p0)] below meth c s₁ [] 0 0 := Stand.of_body Bd
  have e0 : s₁.heap = h0 := by rw [← hh, Bd.state]; rfl
  have N0 := Fr.nil n0
  have pre0 : ∀ t, Steps p.tables e below (s₁.setTop (mkF m 0 #[.val (.int p0)] [])) t → Steps p.tables e below (s₁.setTop (entryFrame m #[(.int p0)] 1)) t := fun t k => castTop (ef_rmBl m p0) k
  obtain ⟨fs, hr, hrun, hended, hW, hsame⟩ := X0.leave (v := some (.int (if p0 = (32 : Int32) then (1 : Int32) else (if p0 = (9 : Int32) then (1 : Int32) else (0 : Int32))))) (fun h => by rw [Bd.returns] at h; cases h)
  refine ⟨_, _, pre0 _ ?_, hrun, hended, _, _, rfl, ?_, ⟨_, rfl⟩, hW, hsame.mono (by decide) (by decide)⟩
  · refine XS.iloadN X0.here hx rfl (hb hby d36_0) rfl ?_
    refine XS.bipush X0.here hx rfl (hb hby d36_1) ?_
    by_cases hc3 : p0 = (32 : Int32)
    · rw [if_pos hc3] at hr
      refine XS.icmpYes X0.here hx rfl (pc0 := 3) (pc' := 12) rfl (hb hby d36_3) rfl (teq hc3).1 (by decide) (by decide) ?_
      refine XS.iconst X0.here hx rfl (hb hby d36_12) ?_
      refine XS.goto X0.here hx rfl (pc0 := 13) (pc' := 17) rfl (hb hby d36_13) (by decide) (by decide) ?_
      show Steps p.tables e below (s₁.setTop (mkF m 17 #[.val (.int p0)] [(.int (1 : Int32))])) _
      exact retN X0 hx (t := .boolean) Bd.returns (by simp) (hb hby d36_17) hr
    · rw [if_neg hc3] at hr
      refine XS.icmpNo X0.here hx rfl (hb hby d36_3) rfl (feq hc3).1 ?_
      refine XS.iloadN X0.here hx rfl (hb hby d36_6) rfl ?_
      refine XS.bipush X0.here hx rfl (hb hby d36_7) ?_
      by_cases hc9 : p0 = (9 : Int32)
      · rw [if_pos hc9] at hr
        refine XS.icmpNo X0.here hx rfl (hb hby d36_9) rfl (teq hc9).2 ?_
        refine XS.iconst X0.here hx rfl (hb hby d36_12) ?_
        refine XS.goto X0.here hx rfl (pc0 := 13) (pc' := 17) rfl (hb hby d36_13) (by decide) (by decide) ?_
        show Steps p.tables e below (s₁.setTop (mkF m 17 #[.val (.int p0)] [(.int (1 : Int32))])) _
        exact retN X0 hx (t := .boolean) Bd.returns (by simp) (hb hby d36_17) hr
      · rw [if_neg hc9] at hr
        refine XS.icmpYes X0.here hx rfl (pc0 := 9) (pc' := 16) rfl (hb hby d36_9) rfl (feq hc9).2 (by decide) (by decide) ?_
        refine XS.iconst X0.here hx rfl (hb hby d36_16) ?_
        show Steps p.tables e below (s₁.setTop (mkF m 17 #[.val (.int p0)] [(.int (0 : Int32))])) _
        exact retN X0 hx (t := .boolean) Bd.returns (by simp) (hb hby d36_17) hr
  · show Q_rmBl Z p0 h0 n0 _ s₁.heap _
    rw [e0]
    exact ⟨_, own_isb p0, rfl, N0, rfl⟩
theorem d29_0 : decode prog_69_method_14_code 0 = .ok (.aload_n 0, 1) := by decide +kernel
theorem d29_1 : decode prog_69_method_14_code 1 = .ok (.getfield 31, 3) := by decide +kernel
theorem d29_4 : decode prog_69_method_14_code 4 = .ok (.aload_n 0, 1) := by decide +kernel
theorem d29_5 : decode prog_69_method_14_code 5 = .ok (.getfield 7, 3) := by decide +kernel
theorem d29_8 : decode prog_69_method_14_code 8 = .ok (.invokevirtual 35, 3) := by decide +kernel
theorem d29_11 : decode prog_69_method_14_code 11 = .ok (.if_icmp .ge 33, 3) := by decide +kernel
theorem d29_14 : decode prog_69_method_14_code 14 = .ok (.aload_n 0, 1) := by decide +kernel
theorem d29_15 : decode prog_69_method_14_code 15 = .ok (.getfield 7, 3) := by decide +kernel
theorem d29_18 : decode prog_69_method_14_code 18 = .ok (.aload_n 0, 1) := by decide +kernel
theorem d29_19 : decode prog_69_method_14_code 19 = .ok (.getfield 31, 3) := by decide +kernel
theorem d29_22 : decode prog_69_method_14_code 22 = .ok (.invokevirtual 41, 3) := by decide +kernel
theorem d29_25 : decode prog_69_method_14_code 25 = .ok (.invokestatic 101, 3) := by decide +kernel
theorem d29_28 : decode prog_69_method_14_code 28 = .ok (.ifCond .eq 16, 3) := by decide +kernel
theorem d29_31 : decode prog_69_method_14_code 31 = .ok (.aload_n 0, 1) := by decide +kernel
theorem d29_32 : decode prog_69_method_14_code 32 = .ok (.dup, 1) := by decide +kernel
theorem d29_33 : decode prog_69_method_14_code 33 = .ok (.getfield 31, 3) := by decide +kernel
theorem d29_36 : decode prog_69_method_14_code 36 = .ok (.iconst 1, 1) := by decide +kernel
theorem d29_37 : decode prog_69_method_14_code 37 = .ok (.iadd, 1) := by decide +kernel
theorem d29_38 : decode prog_69_method_14_code 38 = .ok (.putfield 31, 3) := by decide +kernel
theorem d29_41 : decode prog_69_method_14_code 41 = .ok (.goto (-41), 3) := by decide +kernel
theorem d29_44 : decode prog_69_method_14_code 44 = .ok (.return_, 1) := by decide +kernel
theorem ef_rmSb (m : MethodId) (x0 : Addr) : entryFrame m #[(.ref x0)] 1 = mkF m 0 #[.val (.ref x0)] [] := by first | (simp [entryFrame, mkF, argsToLocals, Value.category]; done) | rfl
def Q_rmSb (Z : State) (r0 : Addr) (cs : Int32) (fm : Value) (t : Addr) (y : Addr) (ky : ClassId) (cd : Int32) (nb : Int32) (vs : List Value) (n : Int32) (c0 : Int32) (c1 : Int32) (c2 : Int32) (c3 : Int32) (a : Int32) (k : Int32) (h0 : Heap) (n0 : Nat) (v : Option Value) (h : Heap) (L : List Loc) : Prop := v = none ∧ Fr n0 L ∧ Keep h0 h [r0] ∧ Fld Z h r0 "com/example/libbisim/libbisim/TextFormat$Cursor" "text" "Ljava/lang/String;" (.ref t) ∧ Fld Z h r0 "com/example/libbisim/libbisim/TextFormat$Cursor" "at" "I" (.int k)
set_option maxRecDepth 65536 in
set_option maxHeartbeats 40000000 in
theorem rmSb (l : Launch) (Z : State) (a0 : Array Value) (hw : ∀ d ∈ tables_1, d.before a0 Z = true) (ws : List Jvm.Cond) (r0 : Addr) (cs : Int32) (fm : Value) (t : Addr) (y : Addr) (ky : ClassId) (cd : Int32) (nb : Int32) (vs : List Value) (n : Int32) (c0 : Int32) (c1 : Int32) (c2 : Int32) (c3 : Int32) (a : Int32) (k : Int32) (h0 : Heap) (n0 : Nat) (Z0 : n0 ≤ h0.size) (SB : own_St Z cs fm) (Od : Old Z n0 h0) (Ft : Fld Z h0 r0 "com/example/libbisim/libbisim/TextFormat$Cursor" "text" "Ljava/lang/String;" (.ref t)) (Fa : Fld Z h0 r0 "com/example/libbisim/libbisim/TextFormat$Cursor" "at" "I" (.int a)) (Ec : Exa Z h0 r0 "com/example/libbisim/libbisim/TextFormat$Cursor") (g_r0 : n0 ≤ r0) (Fv : Fld Z h0 t "java/lang/String" "value" "[B" (.ref y)) (Fc : Fld Z h0 t "java/lang/String" "coder" "B" (.int cd)) (Et : Exa Z h0 t "java/lang/String") (Vy : Arv Z h0 y ky .byte nb vs (.int (0 : Int32))) (hcd : own_cd cd nb vs n c0 c1 c2 c3) (hN : own_n n) (hch : own_chs c0 c1 c2 c3) (hi : own_n a) (hR : own_R n c0 c1 c2 c3 5 a k) :
    MetFree l (⟨"com/example/libbisim/libbisim/TextFormat$Cursor", "skipBlanks", "()V"⟩ : MethodName) (head1 (Jvm.Cond.code (⟨"com/example/libbisim/libbisim/TextFormat$Cursor", "skipBlanks", "()V"⟩ : MethodName) prog_69_method_14_code 1 none :: ws) ({ frames := 5, cells := 0, slots := 0, locals := 66 } : Room)) (fun a U => a = #[(.ref r0)] ∧ Z.Warmed39 U.vm ∧ U.heap = h0) (fun _ _ _ _ _ => True) (fun _ U o U' => ∃ v L, o = .returned v ∧ Q_rmSb Z r0 cs fm t y ky cd nb vs n c0 c1 c2 c3 a k h0 n0 v U'.heap L ∧ FrameEnd U o U' L ({ frames := 5, cells := 0, slots := 0, locals := 66 } : Room).cells ({ frames := 5, cells := 0, slots := 0, locals := 66 } : Room).slots) := by
  refine MetFree.of_bodySF (plainFor_of_name pn_5) hisR ?_
  intro p e s m args below meth c s₁ Bd hml0 hP hK
  obtain ⟨rfl, hZ, hh⟩ := hP
  have hx := Bd.exec
  have hby := Bd.bytes
  have hml : c.maxLocals = 1 := hml0
  have hown : s.vm.findClass "com/example/libbisim/libbisim/TextFormat$Cursor" = some m.cls := findClass_of_methodNamed Bd.named
  have hnm := (name_of_methodNamed Bd.named Bd.method).1
  have X0 : Stand p l e ({ frames := 5, cells := 0, slots := 0, locals := 66 } : Room) s m #[(.ref r0)] below meth c s₁ [] 0 0 := Stand.of_body Bd
  have e0 : s₁.heap = h0 := by rw [← hh, Bd.state]; rfl
  have N0 := Fr.nil n0
  have pre0 : ∀ t, Steps p.tables e below (s₁.setTop (mkF m 0 #[.val (.ref r0)] [])) t → Steps p.tables e below (s₁.setTop (entryFrame m #[(.ref r0)] 1)) t := fun t k => castTop (ef_rmSb m r0) k
  have ne1 : t ≠ r0 := Exa.ne Et Ec (by decide)
  have ne2 : y ≠ r0 := (Exa.neArv Ec Vy (own_w hw 3 rfl)).symm
  have Kp : Keep h0 h0 [r0] := Keep.refl _ _
  have st1 : own_S p e below s₁ (mkF m 1 #[.val (.ref r0)] [(.ref r0)]) (mkF m 0 #[.val (.ref r0)] []) := by
    intro target kt
    refine XS.aloadN X0.here hx rfl (hb hby d29_0) rfl rfl ?_
    exact kt
  obtain ⟨T2, X2, e2, st2⟩ := getF X0 hx hZ hown (host := "") (Or.inl (own_w hw 49 rfl)) Via.refl e0 Fa (g := (mkF m 1 #[.val (.ref r0)] [(.ref r0)])) rfl rfl (hb hby d29_1)
  have st3 : own_S p e below T2 (mkF m 5 #[.val (.ref r0)] [(.ref r0), (.int a)]) (mkF m 4 #[.val (.ref r0)] [(.int a)]) := by
    intro target kt
    refine XS.aloadN X2.here hx rfl (hb hby d29_4) rfl rfl ?_
    exact kt
  obtain ⟨T4, X4, e4, st4⟩ := getF X2 hx hZ hown (host := "") (Or.inl (own_w hw 32 rfl)) Via.refl e2 Ft (g := (mkF m 5 #[.val (.ref r0)] [(.ref r0), (.int a)])) rfl rfl (hb hby d29_5)
  obtain ⟨cq5, kq5, qv5a, qv5b, qv5c⟩ := isOf hZ e4 Et
  obtain ⟨_, _, ⟨T5, L5, k5, n5⟩, -, X5, ⟨Lc5, hQ5, l5, y5, z5⟩, st5⟩ := X4.virtualBack hx (y := (⟨"java/lang/String", "length", "()I"⟩ : MethodName)) (z := (⟨"java/lang/String", "length", "()I"⟩ : MethodName)) hown (mvT hZ (own_w hw 140 rfl)) (mvT hZ (own_w hw 63 rfl)) (notFace_of_selects (args := #[]) (mvT hZ (own_w hw 65 rfl))) (mvT hZ (own_w hw 65 rfl)) (mvT hZ (own_w hw 64 rfl)) (by decide) (backOf (W := 1) (rmLn l Z a0 hw [] t cs fm y ky cd nb vs n c0 c1 c2 c3 h0 n0 Z0 SB Od Fv Fc Et Vy hcd hN hch) hZ (own_w hw 66 rfl) (own_w hw 7 rfl) (by decide) (by decide)) qv5a qv5c (g := (mkF m 8 #[.val (.ref r0)] [(.ref t), (.int a)])) rfl (by rw [hml]; rfl) (Steps.refl _) (argsL := []) (rest := [(.int a)]) (lenOf pd_7 rfl) rfl (by show 2 * 0 + _ ≤ _; exact Nat.le_of_eq rfl) (hb hby d29_8) (fun _ _ => ⟨rfl, e4, (by decide : 0 + 0 ≤ _), (by decide : 0 + 0 ≤ _)⟩)
  dsimp only [Pt.U, Pt.locs, Pt.cells, Pt.slots] at X5 l5 y5 z5 st5 hQ5
  subst l5 y5 z5
  obtain ⟨rfl, Nq5, e5⟩ := hQ5
  have N5 := Fr.app N0 Nq5
  rcases hR with ⟨bc_, hR⟩ | ⟨bc_, ek_⟩
  · have st6 : own_S p e below T5 (mkF m 14 #[.val (.ref r0)] []) (mkF m 11 #[.val (.ref r0)] [(.int n), (.int a)]) := by
      intro target kt
      refine XS.icmpNo X5.here hx rfl (hb hby d29_11) rfl (tlt bc_.1).2.1 ?_
      exact kt
    have st7 : own_S p e below T5 (mkF m 15 #[.val (.ref r0)] [(.ref r0)]) (mkF m 14 #[.val (.ref r0)] []) := by
      intro target kt
      refine XS.aloadN X5.here hx rfl (hb hby d29_14) rfl rfl ?_
      exact kt
    obtain ⟨T8, X8, e8, st8⟩ := getF X5 hx hZ hown (host := "") (Or.inl (own_w hw 32 rfl)) Via.refl e5 Ft (g := (mkF m 15 #[.val (.ref r0)] [(.ref r0)])) rfl rfl (hb hby d29_15)
    have st9 : own_S p e below T8 (mkF m 19 #[.val (.ref r0)] [(.ref r0), (.ref t)]) (mkF m 18 #[.val (.ref r0)] [(.ref t)]) := by
      intro target kt
      refine XS.aloadN X8.here hx rfl (hb hby d29_18) rfl rfl ?_
      exact kt
    obtain ⟨T10, X10, e10, st10⟩ := getF X8 hx hZ hown (host := "") (Or.inl (own_w hw 49 rfl)) Via.refl e8 Fa (g := (mkF m 19 #[.val (.ref r0)] [(.ref r0), (.ref t)])) rfl rfl (hb hby d29_19)
    obtain ⟨cq11, kq11, qv11a, qv11b, qv11c⟩ := isOf hZ e10 Et
    obtain ⟨_, _, ⟨T11, L11, k11, n11⟩, -, X11, ⟨Lc11, hQ11, l11, y11, z11⟩, st11⟩ := X10.virtualBack hx (y := (⟨"java/lang/String", "charAt", "(I)C"⟩ : MethodName)) (z := (⟨"java/lang/String", "charAt", "(I)C"⟩ : MethodName)) hown (mvT hZ (own_w hw 141 rfl)) (mvT hZ (own_w hw 142 rfl)) (notFace_of_selects (args := #[]) (mvT hZ (own_w hw 144 rfl))) (mvT hZ (own_w hw 144 rfl)) (mvT hZ (own_w hw 143 rfl)) (by decide) (backOf (W := 0) (rmCh l Z a0 hw [] t a cs fm y ky cd nb vs n c0 c1 c2 c3 h0 n0 Z0 SB Od Fv Fc Et Vy hcd hN hch hi bc_.1) hZ (own_w hw 145 rfl) (own_w hw 7 rfl) (by decide) (by decide)) qv11a qv11c (g := (mkF m 22 #[.val (.ref r0)] [(.int a), (.ref t)])) rfl (by rw [hml]; rfl) (Steps.refl _) (argsL := [(.int a)]) (rest := []) (lenOf pd_11 rfl) rfl (by show 2 * 0 + _ ≤ _; exact Nat.le_of_eq rfl) (hb hby d29_22) (fun _ _ => ⟨rfl, e10, (by decide : 0 + 0 ≤ _), (by decide : 0 + 0 ≤ _)⟩)
    dsimp only [Pt.U, Pt.locs, Pt.cells, Pt.slots] at X11 l11 y11 z11 st11 hQ11
    subst l11 y11 z11
    obtain ⟨rfl, Nq11, e11⟩ := hQ11
    have N11 := Fr.app N5 Nq11
    obtain ⟨_, _, ⟨T12, L12, k12, n12⟩, -, X12, ⟨Lc12, hQ12, l12, y12, z12⟩, st12⟩ := Jvm.RoadKit.callSN X11 hx (y := (⟨"com/example/libbisim/libbisim/TextFormat", "isBlank", "(C)Z"⟩ : MethodName)) hown ((Cond.methodLinkNest_wide hZ (own_w hw 163 rfl)) :) (mvT hZ (own_w hw 164 rfl)) (mvT hZ (own_w hw 165 rfl)) (mvT hZ (own_w hw 166 rfl)) (by decide) (backOf (W := 0) (rmBl l Z a0 hw [] (own_at a c0 c1 c2 c3)  h0 n0 Z0 ) hZ (own_w hw 166 rfl) (own_w hw 165 rfl) (by decide) (by decide)) (g := (mkF m 25 #[.val (.ref r0)] [(.int (own_at a c0 c1 c2 c3))])) rfl (by rw [hml]; rfl) (argsL := [(.int (own_at a c0 c1 c2 c3))]) (rest := []) (lenOf pd_27 rfl) rfl (by show 2 * 0 + _ ≤ _; exact Nat.le_of_eq rfl) (hb hby d29_25) (fun _ _ => ⟨rfl, e11, (by decide : 0 + 0 ≤ _), (by decide : 0 + 0 ≤ _)⟩)
    dsimp only [Pt.U, Pt.locs, Pt.cells, Pt.slots] at X12 l12 y12 z12 st12 hQ12
    subst l12 y12 z12
    obtain ⟨b12, hb12, rfl, Nq12, e12⟩ := hQ12
    have N12 := Fr.app N11 Nq12
    have st13 : own_S p e below T12 (mkF m 31 #[.val (.ref r0)] []) (mkF m 28 #[.val (.ref r0)] [(.int b12)]) := by
      intro target kt
      refine XS.ifNo X12.here hx rfl (hb hby d29_28) rfl ((if0 _ _).trans (feq (fun q => hb12.mp q bc_.2)).1) ?_
      exact kt
    have st14 : own_S p e below T12 (mkF m 33 #[.val (.ref r0)] [(.ref r0), (.ref r0)]) (mkF m 31 #[.val (.ref r0)] []) := by
      intro target kt
      refine XS.aloadN X12.here hx rfl (hb hby d29_31) rfl rfl ?_
      refine XS.dup X12.here hx rfl (hb hby d29_32) rfl rfl ?_
      exact kt
    obtain ⟨T15, X15, e15, st15⟩ := getF X12 hx hZ hown (host := "") (Or.inl (own_w hw 49 rfl)) Via.refl e12 Fa (g := (mkF m 33 #[.val (.ref r0)] [(.ref r0), (.ref r0)])) rfl rfl (hb hby d29_33)
    have st16 : own_S p e below T15 (mkF m 38 #[.val (.ref r0)] [(.int (a + (1 : Int32))), (.ref r0)]) (mkF m 36 #[.val (.ref r0)] [(.int a), (.ref r0)]) := by
      intro target kt
      refine XS.iconst X15.here hx rfl (hb hby d29_36) ?_
      refine XS.iadd X15.here hx rfl (hb hby d29_37) rfl ?_
      exact kt
    obtain ⟨T17, h17, X17, e17, W17, st17⟩ := putF X15 hx hZ hown (host := "") (Or.inl (own_w hw 49 rfl)) Via.refl e15 Fa Ec (Or.inl (own_w hw 50 rfl)) (own_w hw 3 rfl) (ty := .int) (by decide) rfl rfl (g := (mkF m 38 #[.val (.ref r0)] [(.int (a + (1 : Int32))), (.ref r0)])) rfl rfl (hb hby d29_38)
    have F_at_r0_17 : Fld Z h17 r0 "com/example/libbisim/libbisim/TextFormat$Cursor" "at" "I" (.int (a + (1 : Int32))) := Fa.same W17
    have Od_17 := Od.wr W17 g_r0
    have Ft_17 := Ft.other W17 (Or.inr (slot_ne (Or.inr (own_w hw 33 rfl)) (Or.inl (own_w hw 50 rfl)) (by decide) (t := (.object "java/lang/String")) (t' := .int) (by decide) (by decide)))
    have Ec_17 := Ec.wr W17
    have Fv_17 := Fv.other W17 (Or.inl ne1)
    have Fc_17 := Fc.other W17 (Or.inl ne1)
    have Et_17 := Et.wr W17
    have Vy_17 := Vy.other W17 ne2
    have Z_17 : n0 ≤ h17.size := Nat.le_trans Z0 (Keep.of_wr W17).1
    have Kp_17 : Keep h0 h17 [r0] := Kp.wr W17 (Or.inl (List.mem_of_getElem? (i := 0) rfl))
    have N17 := Fr.snoc X17 N12 g_r0
    have hj_1 := own_nx hi hN bc_.1
    have st18 : own_S p e below T17 (mkF m 1 #[.val (.ref r0)] [(.ref r0)]) (mkF m 41 #[.val (.ref r0)] []) := by
      intro target kt
      refine XS.goto X17.here hx rfl (pc0 := 41) (pc' := 0) rfl (hb hby d29_41) (by decide) (by decide) ?_
      refine XS.aloadN X17.here hx rfl (hb hby d29_0) rfl rfl ?_
      exact kt
    obtain ⟨T19, X19, e19, st19⟩ := getF X17 hx hZ hown (host := "") (Or.inl (own_w hw 49 rfl)) Via.refl e17 F_at_r0_17 (g := (mkF m 1 #[.val (.ref r0)] [(.ref r0)])) rfl rfl (hb hby d29_1)
    have st20 : own_S p e below T19 (mkF m 5 #[.val (.ref r0)] [(.ref r0), (.int (a + (1 : Int32)))]) (mkF m 4 #[.val (.ref r0)] [(.int (a + (1 : Int32)))]) := by
      intro target kt
      refine XS.aloadN X19.here hx rfl (hb hby d29_4) rfl rfl ?_
      exact kt
    obtain ⟨T21, X21, e21, st21⟩ := getF X19 hx hZ hown (host := "") (Or.inl (own_w hw 32 rfl)) Via.refl e19 Ft_17 (g := (mkF m 5 #[.val (.ref r0)] [(.ref r0), (.int (a + (1 : Int32)))])) rfl rfl (hb hby d29_5)
    obtain ⟨cq22, kq22, qv22a, qv22b, qv22c⟩ := isOf hZ e21 Et_17
    obtain ⟨_, _, ⟨T22, L22, k22, n22⟩, -, X22, ⟨Lc22, hQ22, l22, y22, z22⟩, st22⟩ := X21.virtualBack hx (y := (⟨"java/lang/String", "length", "()I"⟩ : MethodName)) (z := (⟨"java/lang/String", "length", "()I"⟩ : MethodName)) hown (mvT hZ (own_w hw 140 rfl)) (mvT hZ (own_w hw 63 rfl)) (notFace_of_selects (args := #[]) (mvT hZ (own_w hw 65 rfl))) (mvT hZ (own_w hw 65 rfl)) (mvT hZ (own_w hw 64 rfl)) (by decide) (backOf (W := 1) (rmLn l Z a0 hw [] t cs fm y ky cd nb vs n c0 c1 c2 c3 h17 n0 Z_17 SB Od_17 Fv_17 Fc_17 Et_17 Vy_17 hcd hN hch) hZ (own_w hw 66 rfl) (own_w hw 7 rfl) (by decide) (by decide)) qv22a qv22c (g := (mkF m 8 #[.val (.ref r0)] [(.ref t), (.int (a + (1 : Int32)))])) rfl (by rw [hml]; rfl) (Steps.refl _) (argsL := []) (rest := [(.int (a + (1 : Int32)))]) (lenOf pd_7 rfl) rfl (by show 2 * 0 + _ ≤ _; exact Nat.le_of_eq rfl) (hb hby d29_8) (fun _ _ => ⟨rfl, e21, (by decide : 0 + 0 ≤ _), (by decide : 0 + 0 ≤ _)⟩)
    dsimp only [Pt.U, Pt.locs, Pt.cells, Pt.slots] at X22 l22 y22 z22 st22 hQ22
    subst l22 y22 z22
    obtain ⟨rfl, Nq22, e22⟩ := hQ22
    have N22 := Fr.app N17 Nq22
    rcases hR with ⟨bc_, hR⟩ | ⟨bc_, ek_⟩
    · have st23 : own_S p e below T22 (mkF m 14 #[.val (.ref r0)] []) (mkF m 11 #[.val (.ref r0)] [(.int n), (.int (a + (1 : Int32)))]) := by
        intro target kt
        refine XS.icmpNo X22.here hx rfl (hb hby d29_11) rfl (tlt bc_.1).2.1 ?_
        exact kt
      have st24 : own_S p e below T22 (mkF m 15 #[.val (.ref r0)] [(.ref r0)]) (mkF m 14 #[.val (.ref r0)] []) := by
        intro target kt
        refine XS.aloadN X22.here hx rfl (hb hby d29_14) rfl rfl ?_
        exact kt
      obtain ⟨T25, X25, e25, st25⟩ := getF X22 hx hZ hown (host := "") (Or.inl (own_w hw 32 rfl)) Via.refl e22 Ft_17 (g := (mkF m 15 #[.val (.ref r0)] [(.ref r0)])) rfl rfl (hb hby d29_15)
      have st26 : own_S p e below T25 (mkF m 19 #[.val (.ref r0)] [(.ref r0), (.ref t)]) (mkF m 18 #[.val (.ref r0)] [(.ref t)]) := by
        intro target kt
        refine XS.aloadN X25.here hx rfl (hb hby d29_18) rfl rfl ?_
        exact kt
      obtain ⟨T27, X27, e27, st27⟩ := getF X25 hx hZ hown (host := "") (Or.inl (own_w hw 49 rfl)) Via.refl e25 F_at_r0_17 (g := (mkF m 19 #[.val (.ref r0)] [(.ref r0), (.ref t)])) rfl rfl (hb hby d29_19)
      obtain ⟨cq28, kq28, qv28a, qv28b, qv28c⟩ := isOf hZ e27 Et_17
      obtain ⟨_, _, ⟨T28, L28, k28, n28⟩, -, X28, ⟨Lc28, hQ28, l28, y28, z28⟩, st28⟩ := X27.virtualBack hx (y := (⟨"java/lang/String", "charAt", "(I)C"⟩ : MethodName)) (z := (⟨"java/lang/String", "charAt", "(I)C"⟩ : MethodName)) hown (mvT hZ (own_w hw 141 rfl)) (mvT hZ (own_w hw 142 rfl)) (notFace_of_selects (args := #[]) (mvT hZ (own_w hw 144 rfl))) (mvT hZ (own_w hw 144 rfl)) (mvT hZ (own_w hw 143 rfl)) (by decide) (backOf (W := 0) (rmCh l Z a0 hw [] t (a + (1 : Int32)) cs fm y ky cd nb vs n c0 c1 c2 c3 h17 n0 Z_17 SB Od_17 Fv_17 Fc_17 Et_17 Vy_17 hcd hN hch hj_1 bc_.1) hZ (own_w hw 145 rfl) (own_w hw 7 rfl) (by decide) (by decide)) qv28a qv28c (g := (mkF m 22 #[.val (.ref r0)] [(.int (a + (1 : Int32))), (.ref t)])) rfl (by rw [hml]; rfl) (Steps.refl _) (argsL := [(.int (a + (1 : Int32)))]) (rest := []) (lenOf pd_11 rfl) rfl (by show 2 * 0 + _ ≤ _; exact Nat.le_of_eq rfl) (hb hby d29_22) (fun _ _ => ⟨rfl, e27, (by decide : 0 + 0 ≤ _), (by decide : 0 + 0 ≤ _)⟩)
      dsimp only [Pt.U, Pt.locs, Pt.cells, Pt.slots] at X28 l28 y28 z28 st28 hQ28
      subst l28 y28 z28
      obtain ⟨rfl, Nq28, e28⟩ := hQ28
      have N28 := Fr.app N22 Nq28
      obtain ⟨_, _, ⟨T29, L29, k29, n29⟩, -, X29, ⟨Lc29, hQ29, l29, y29, z29⟩, st29⟩ := Jvm.RoadKit.callSN X28 hx (y := (⟨"com/example/libbisim/libbisim/TextFormat", "isBlank", "(C)Z"⟩ : MethodName)) hown ((Cond.methodLinkNest_wide hZ (own_w hw 163 rfl)) :) (mvT hZ (own_w hw 164 rfl)) (mvT hZ (own_w hw 165 rfl)) (mvT hZ (own_w hw 166 rfl)) (by decide) (backOf (W := 0) (rmBl l Z a0 hw [] (own_at (a + (1 : Int32)) c0 c1 c2 c3)  h17 n0 Z_17 ) hZ (own_w hw 166 rfl) (own_w hw 165 rfl) (by decide) (by decide)) (g := (mkF m 25 #[.val (.ref r0)] [(.int (own_at (a + (1 : Int32)) c0 c1 c2 c3))])) rfl (by rw [hml]; rfl) (argsL := [(.int (own_at (a + (1 : Int32)) c0 c1 c2 c3))]) (rest := []) (lenOf pd_27 rfl) rfl (by show 2 * 0 + _ ≤ _; exact Nat.le_of_eq rfl) (hb hby d29_25) (fun _ _ => ⟨rfl, e28, (by decide : 0 + 0 ≤ _), (by decide : 0 + 0 ≤ _)⟩)
      dsimp only [Pt.U, Pt.locs, Pt.cells, Pt.slots] at X29 l29 y29 z29 st29 hQ29
      subst l29 y29 z29
      obtain ⟨b29, hb29, rfl, Nq29, e29⟩ := hQ29
      have N29 := Fr.app N28 Nq29
      have st30 : own_S p e below T29 (mkF m 31 #[.val (.ref r0)] []) (mkF m 28 #[.val (.ref r0)] [(.int b29)]) := by
        intro target kt
        refine XS.ifNo X29.here hx rfl (hb hby d29_28) rfl ((if0 _ _).trans (feq (fun q => hb29.mp q bc_.2)).1) ?_
        exact kt
      have st31 : own_S p e below T29 (mkF m 33 #[.val (.ref r0)] [(.ref r0), (.ref r0)]) (mkF m 31 #[.val (.ref r0)] []) := by
        intro target kt
        refine XS.aloadN X29.here hx rfl (hb hby d29_31) rfl rfl ?_
        refine XS.dup X29.here hx rfl (hb hby d29_32) rfl rfl ?_
        exact kt
      obtain ⟨T32, X32, e32, st32⟩ := getF X29 hx hZ hown (host := "") (Or.inl (own_w hw 49 rfl)) Via.refl e29 F_at_r0_17 (g := (mkF m 33 #[.val (.ref r0)] [(.ref r0), (.ref r0)])) rfl rfl (hb hby d29_33)
      have st33 : own_S p e below T32 (mkF m 38 #[.val (.ref r0)] [(.int ((a + (1 : Int32)) + (1 : Int32))), (.ref r0)]) (mkF m 36 #[.val (.ref r0)] [(.int (a + (1 : Int32))), (.ref r0)]) := by
        intro target kt
        refine XS.iconst X32.here hx rfl (hb hby d29_36) ?_
        refine XS.iadd X32.here hx rfl (hb hby d29_37) rfl ?_
        exact kt
      obtain ⟨T34, h34, X34, e34, W34, st34⟩ := putF X32 hx hZ hown (host := "") (Or.inl (own_w hw 49 rfl)) Via.refl e32 F_at_r0_17 Ec_17 (Or.inl (own_w hw 50 rfl)) (own_w hw 3 rfl) (ty := .int) (by decide) rfl rfl (g := (mkF m 38 #[.val (.ref r0)] [(.int ((a + (1 : Int32)) + (1 : Int32))), (.ref r0)])) rfl rfl (hb hby d29_38)
      have F_at_r0_34 : Fld Z h34 r0 "com/example/libbisim/libbisim/TextFormat$Cursor" "at" "I" (.int ((a + (1 : Int32)) + (1 : Int32))) := F_at_r0_17.same W34
      have Od_34 := Od_17.wr W34 g_r0
      have Ft_34 := Ft_17.other W34 (Or.inr (slot_ne (Or.inr (own_w hw 33 rfl)) (Or.inl (own_w hw 50 rfl)) (by decide) (t := (.object "java/lang/String")) (t' := .int) (by decide) (by decide)))
      have Ec_34 := Ec_17.wr W34
      have Fv_34 := Fv_17.other W34 (Or.inl ne1)
      have Fc_34 := Fc_17.other W34 (Or.inl ne1)
      have Et_34 := Et_17.wr W34
      have Vy_34 := Vy_17.other W34 ne2
      have Z_34 : n0 ≤ h34.size := Nat.le_trans Z_17 (Keep.of_wr W34).1
      have Kp_34 : Keep h0 h34 [r0] := Kp_17.wr W34 (Or.inl (List.mem_of_getElem? (i := 0) rfl))
      have N34 := Fr.snoc X34 N29 g_r0
      have hj_2 := own_nx hj_1 hN bc_.1
      have st35 : own_S p e below T34 (mkF m 1 #[.val (.ref r0)] [(.ref r0)]) (mkF m 41 #[.val (.ref r0)] []) := by
        intro target kt
        refine XS.goto X34.here hx rfl (pc0 := 41) (pc' := 0) rfl (hb hby d29_41) (by decide) (by decide) ?_
        refine XS.aloadN X34.here hx rfl (hb hby d29_0) rfl rfl ?_
        exact kt
      obtain ⟨T36, X36, e36, st36⟩ := getF X34 hx hZ hown (host := "") (Or.inl (own_w hw 49 rfl)) Via.refl e34 F_at_r0_34 (g := (mkF m 1 #[.val (.ref r0)] [(.ref r0)])) rfl rfl (hb hby d29_1)
      have st37 : own_S p e below T36 (mkF m 5 #[.val (.ref r0)] [(.ref r0), (.int ((a + (1 : Int32)) + (1 : Int32)))]) (mkF m 4 #[.val (.ref r0)] [(.int ((a + (1 : Int32)) + (1 : Int32)))]) := by
        intro target kt
        refine XS.aloadN X36.here hx rfl (hb hby d29_4) rfl rfl ?_
        exact kt
      obtain ⟨T38, X38, e38, st38⟩ := getF X36 hx hZ hown (host := "") (Or.inl (own_w hw 32 rfl)) Via.refl e36 Ft_34 (g := (mkF m 5 #[.val (.ref r0)] [(.ref r0), (.int ((a + (1 : Int32)) + (1 : Int32)))])) rfl rfl (hb hby d29_5)
      obtain ⟨cq39, kq39, qv39a, qv39b, qv39c⟩ := isOf hZ e38 Et_34
      obtain ⟨_, _, ⟨T39, L39, k39, n39⟩, -, X39, ⟨Lc39, hQ39, l39, y39, z39⟩, st39⟩ := X38.virtualBack hx (y := (⟨"java/lang/String", "length", "()I"⟩ : MethodName)) (z := (⟨"java/lang/String", "length", "()I"⟩ : MethodName)) hown (mvT hZ (own_w hw 140 rfl)) (mvT hZ (own_w hw 63 rfl)) (notFace_of_selects (args := #[]) (mvT hZ (own_w hw 65 rfl))) (mvT hZ (own_w hw 65 rfl)) (mvT hZ (own_w hw 64 rfl)) (by decide) (backOf (W := 1) (rmLn l Z a0 hw [] t cs fm y ky cd nb vs n c0 c1 c2 c3 h34 n0 Z_34 SB Od_34 Fv_34 Fc_34 Et_34 Vy_34 hcd hN hch) hZ (own_w hw 66 rfl) (own_w hw 7 rfl) (by decide) (by decide)) qv39a qv39c (g := (mkF m 8 #[.val (.ref r0)] [(.ref t), (.int ((a + (1 : Int32)) + (1 : Int32)))])) rfl (by rw [hml]; rfl) (Steps.refl _) (argsL := []) (rest := [(.int ((a + (1 : Int32)) + (1 : Int32)))]) (lenOf pd_7 rfl) rfl (by show 2 * 0 + _ ≤ _; exact Nat.le_of_eq rfl) (hb hby d29_8) (fun _ _ => ⟨rfl, e38, (by decide : 0 + 0 ≤ _), (by decide : 0 + 0 ≤ _)⟩)
      dsimp only [Pt.U, Pt.locs, Pt.cells, Pt.slots] at X39 l39 y39 z39 st39 hQ39
      subst l39 y39 z39
      obtain ⟨rfl, Nq39, e39⟩ := hQ39
      have N39 := Fr.app N34 Nq39
      rcases hR with ⟨bc_, hR⟩ | ⟨bc_, ek_⟩
      · have st40 : own_S p e below T39 (mkF m 14 #[.val (.ref r0)] []) (mkF m 11 #[.val (.ref r0)] [(.int n), (.int ((a + (1 : Int32)) + (1 : Int32)))]) := by
          intro target kt
          refine XS.icmpNo X39.here hx rfl (hb hby d29_11) rfl (tlt bc_.1).2.1 ?_
          exact kt
        have st41 : own_S p e below T39 (mkF m 15 #[.val (.ref r0)] [(.ref r0)]) (mkF m 14 #[.val (.ref r0)] []) := by
          intro target kt
          refine XS.aloadN X39.here hx rfl (hb hby d29_14) rfl rfl ?_
          exact kt
        obtain ⟨T42, X42, e42, st42⟩ := getF X39 hx hZ hown (host := "") (Or.inl (own_w hw 32 rfl)) Via.refl e39 Ft_34 (g := (mkF m 15 #[.val (.ref r0)] [(.ref r0)])) rfl rfl (hb hby d29_15)
        have st43 : own_S p e below T42 (mkF m 19 #[.val (.ref r0)] [(.ref r0), (.ref t)]) (mkF m 18 #[.val (.ref r0)] [(.ref t)]) := by
          intro target kt
          refine XS.aloadN X42.here hx rfl (hb hby d29_18) rfl rfl ?_
          exact kt
        obtain ⟨T44, X44, e44, st44⟩ := getF X42 hx hZ hown (host := "") (Or.inl (own_w hw 49 rfl)) Via.refl e42 F_at_r0_34 (g := (mkF m 19 #[.val (.ref r0)] [(.ref r0), (.ref t)])) rfl rfl (hb hby d29_19)
        obtain ⟨cq45, kq45, qv45a, qv45b, qv45c⟩ := isOf hZ e44 Et_34
        obtain ⟨_, _, ⟨T45, L45, k45, n45⟩, -, X45, ⟨Lc45, hQ45, l45, y45, z45⟩, st45⟩ := X44.virtualBack hx (y := (⟨"java/lang/String", "charAt", "(I)C"⟩ : MethodName)) (z := (⟨"java/lang/String", "charAt", "(I)C"⟩ : MethodName)) hown (mvT hZ (own_w hw 141 rfl)) (mvT hZ (own_w hw 142 rfl)) (notFace_of_selects (args := #[]) (mvT hZ (own_w hw 144 rfl))) (mvT hZ (own_w hw 144 rfl)) (mvT hZ (own_w hw 143 rfl)) (by decide) (backOf (W := 0) (rmCh l Z a0 hw [] t ((a + (1 : Int32)) + (1 : Int32)) cs fm y ky cd nb vs n c0 c1 c2 c3 h34 n0 Z_34 SB Od_34 Fv_34 Fc_34 Et_34 Vy_34 hcd hN hch hj_2 bc_.1) hZ (own_w hw 145 rfl) (own_w hw 7 rfl) (by decide) (by decide)) qv45a qv45c (g := (mkF m 22 #[.val (.ref r0)] [(.int ((a + (1 : Int32)) + (1 : Int32))), (.ref t)])) rfl (by rw [hml]; rfl) (Steps.refl _) (argsL := [(.int ((a + (1 : Int32)) + (1 : Int32)))]) (rest := []) (lenOf pd_11 rfl) rfl (by show 2 * 0 + _ ≤ _; exact Nat.le_of_eq rfl) (hb hby d29_22) (fun _ _ => ⟨rfl, e44, (by decide : 0 + 0 ≤ _), (by decide : 0 + 0 ≤ _)⟩)
        dsimp only [Pt.U, Pt.locs, Pt.cells, Pt.slots] at X45 l45 y45 z45 st45 hQ45
        subst l45 y45 z45
        obtain ⟨rfl, Nq45, e45⟩ := hQ45
        have N45 := Fr.app N39 Nq45
        obtain ⟨_, _, ⟨T46, L46, k46, n46⟩, -, X46, ⟨Lc46, hQ46, l46, y46, z46⟩, st46⟩ := Jvm.RoadKit.callSN X45 hx (y := (⟨"com/example/libbisim/libbisim/TextFormat", "isBlank", "(C)Z"⟩ : MethodName)) hown ((Cond.methodLinkNest_wide hZ (own_w hw 163 rfl)) :) (mvT hZ (own_w hw 164 rfl)) (mvT hZ (own_w hw 165 rfl)) (mvT hZ (own_w hw 166 rfl)) (by decide) (backOf (W := 0) (rmBl l Z a0 hw [] (own_at ((a + (1 : Int32)) + (1 : Int32)) c0 c1 c2 c3)  h34 n0 Z_34 ) hZ (own_w hw 166 rfl) (own_w hw 165 rfl) (by decide) (by decide)) (g := (mkF m 25 #[.val (.ref r0)] [(.int (own_at ((a + (1 : Int32)) + (1 : Int32)) c0 c1 c2 c3))])) rfl (by rw [hml]; rfl) (argsL := [(.int (own_at ((a + (1 : Int32)) + (1 : Int32)) c0 c1 c2 c3))]) (rest := []) (lenOf pd_27 rfl) rfl (by show 2 * 0 + _ ≤ _; exact Nat.le_of_eq rfl) (hb hby d29_25) (fun _ _ => ⟨rfl, e45, (by decide : 0 + 0 ≤ _), (by decide : 0 + 0 ≤ _)⟩)
        dsimp only [Pt.U, Pt.locs, Pt.cells, Pt.slots] at X46 l46 y46 z46 st46 hQ46
        subst l46 y46 z46
        obtain ⟨b46, hb46, rfl, Nq46, e46⟩ := hQ46
        have N46 := Fr.app N45 Nq46
        have st47 : own_S p e below T46 (mkF m 31 #[.val (.ref r0)] []) (mkF m 28 #[.val (.ref r0)] [(.int b46)]) := by
          intro target kt
          refine XS.ifNo X46.here hx rfl (hb hby d29_28) rfl ((if0 _ _).trans (feq (fun q => hb46.mp q bc_.2)).1) ?_
          exact kt
        have st48 : own_S p e below T46 (mkF m 33 #[.val (.ref r0)] [(.ref r0), (.ref r0)]) (mkF m 31 #[.val (.ref r0)] []) := by
          intro target kt
          refine XS.aloadN X46.here hx rfl (hb hby d29_31) rfl rfl ?_
          refine XS.dup X46.here hx rfl (hb hby d29_32) rfl rfl ?_
          exact kt
        obtain ⟨T49, X49, e49, st49⟩ := getF X46 hx hZ hown (host := "") (Or.inl (own_w hw 49 rfl)) Via.refl e46 F_at_r0_34 (g := (mkF m 33 #[.val (.ref r0)] [(.ref r0), (.ref r0)])) rfl rfl (hb hby d29_33)
        have st50 : own_S p e below T49 (mkF m 38 #[.val (.ref r0)] [(.int (((a + (1 : Int32)) + (1 : Int32)) + (1 : Int32))), (.ref r0)]) (mkF m 36 #[.val (.ref r0)] [(.int ((a + (1 : Int32)) + (1 : Int32))), (.ref r0)]) := by
          intro target kt
          refine XS.iconst X49.here hx rfl (hb hby d29_36) ?_
          refine XS.iadd X49.here hx rfl (hb hby d29_37) rfl ?_
          exact kt
        obtain ⟨T51, h51, X51, e51, W51, st51⟩ := putF X49 hx hZ hown (host := "") (Or.inl (own_w hw 49 rfl)) Via.refl e49 F_at_r0_34 Ec_34 (Or.inl (own_w hw 50 rfl)) (own_w hw 3 rfl) (ty := .int) (by decide) rfl rfl (g := (mkF m 38 #[.val (.ref r0)] [(.int (((a + (1 : Int32)) + (1 : Int32)) + (1 : Int32))), (.ref r0)])) rfl rfl (hb hby d29_38)
        have F_at_r0_51 : Fld Z h51 r0 "com/example/libbisim/libbisim/TextFormat$Cursor" "at" "I" (.int (((a + (1 : Int32)) + (1 : Int32)) + (1 : Int32))) := F_at_r0_34.same W51
        have Od_51 := Od_34.wr W51 g_r0
        have Ft_51 := Ft_34.other W51 (Or.inr (slot_ne (Or.inr (own_w hw 33 rfl)) (Or.inl (own_w hw 50 rfl)) (by decide) (t := (.object "java/lang/String")) (t' := .int) (by decide) (by decide)))
        have Ec_51 := Ec_34.wr W51
        have Fv_51 := Fv_34.other W51 (Or.inl ne1)
        have Fc_51 := Fc_34.other W51 (Or.inl ne1)
        have Et_51 := Et_34.wr W51
        have Vy_51 := Vy_34.other W51 ne2
        have Z_51 : n0 ≤ h51.size := Nat.le_trans Z_34 (Keep.of_wr W51).1
        have Kp_51 : Keep h0 h51 [r0] := Kp_34.wr W51 (Or.inl (List.mem_of_getElem? (i := 0) rfl))
        have N51 := Fr.snoc X51 N46 g_r0
        have hj_3 := own_nx hj_2 hN bc_.1
        have st52 : own_S p e below T51 (mkF m 1 #[.val (.ref r0)] [(.ref r0)]) (mkF m 41 #[.val (.ref r0)] []) := by
          intro target kt
          refine XS.goto X51.here hx rfl (pc0 := 41) (pc' := 0) rfl (hb hby d29_41) (by decide) (by decide) ?_
          refine XS.aloadN X51.here hx rfl (hb hby d29_0) rfl rfl ?_
          exact kt
        obtain ⟨T53, X53, e53, st53⟩ := getF X51 hx hZ hown (host := "") (Or.inl (own_w hw 49 rfl)) Via.refl e51 F_at_r0_51 (g := (mkF m 1 #[.val (.ref r0)] [(.ref r0)])) rfl rfl (hb hby d29_1)
        have st54 : own_S p e below T53 (mkF m 5 #[.val (.ref r0)] [(.ref r0), (.int (((a + (1 : Int32)) + (1 : Int32)) + (1 : Int32)))]) (mkF m 4 #[.val (.ref r0)] [(.int (((a + (1 : Int32)) + (1 : Int32)) + (1 : Int32)))]) := by
          intro target kt
          refine XS.aloadN X53.here hx rfl (hb hby d29_4) rfl rfl ?_
          exact kt
        obtain ⟨T55, X55, e55, st55⟩ := getF X53 hx hZ hown (host := "") (Or.inl (own_w hw 32 rfl)) Via.refl e53 Ft_51 (g := (mkF m 5 #[.val (.ref r0)] [(.ref r0), (.int (((a + (1 : Int32)) + (1 : Int32)) + (1 : Int32)))])) rfl rfl (hb hby d29_5)
        obtain ⟨cq56, kq56, qv56a, qv56b, qv56c⟩ := isOf hZ e55 Et_51
        obtain ⟨_, _, ⟨T56, L56, k56, n56⟩, -, X56, ⟨Lc56, hQ56, l56, y56, z56⟩, st56⟩ := X55.virtualBack hx (y := (⟨"java/lang/String", "length", "()I"⟩ : MethodName)) (z := (⟨"java/lang/String", "length", "()I"⟩ : MethodName)) hown (mvT hZ (own_w hw 140 rfl)) (mvT hZ (own_w hw 63 rfl)) (notFace_of_selects (args := #[]) (mvT hZ (own_w hw 65 rfl))) (mvT hZ (own_w hw 65 rfl)) (mvT hZ (own_w hw 64 rfl)) (by decide) (backOf (W := 1) (rmLn l Z a0 hw [] t cs fm y ky cd nb vs n c0 c1 c2 c3 h51 n0 Z_51 SB Od_51 Fv_51 Fc_51 Et_51 Vy_51 hcd hN hch) hZ (own_w hw 66 rfl) (own_w hw 7 rfl) (by decide) (by decide)) qv56a qv56c (g := (mkF m 8 #[.val (.ref r0)] [(.ref t), (.int (((a + (1 : Int32)) + (1 : Int32)) + (1 : Int32)))])) rfl (by rw [hml]; rfl) (Steps.refl _) (argsL := []) (rest := [(.int (((a + (1 : Int32)) + (1 : Int32)) + (1 : Int32)))]) (lenOf pd_7 rfl) rfl (by show 2 * 0 + _ ≤ _; exact Nat.le_of_eq rfl) (hb hby d29_8) (fun _ _ => ⟨rfl, e55, (by decide : 0 + 0 ≤ _), (by decide : 0 + 0 ≤ _)⟩)
        dsimp only [Pt.U, Pt.locs, Pt.cells, Pt.slots] at X56 l56 y56 z56 st56 hQ56
        subst l56 y56 z56
        obtain ⟨rfl, Nq56, e56⟩ := hQ56
        have N56 := Fr.app N51 Nq56
        rcases hR with ⟨bc_, hR⟩ | ⟨bc_, ek_⟩
        · have st57 : own_S p e below T56 (mkF m 14 #[.val (.ref r0)] []) (mkF m 11 #[.val (.ref r0)] [(.int n), (.int (((a + (1 : Int32)) + (1 : Int32)) + (1 : Int32)))]) := by
            intro target kt
            refine XS.icmpNo X56.here hx rfl (hb hby d29_11) rfl (tlt bc_.1).2.1 ?_
            exact kt
          have st58 : own_S p e below T56 (mkF m 15 #[.val (.ref r0)] [(.ref r0)]) (mkF m 14 #[.val (.ref r0)] []) := by
            intro target kt
            refine XS.aloadN X56.here hx rfl (hb hby d29_14) rfl rfl ?_
            exact kt
          obtain ⟨T59, X59, e59, st59⟩ := getF X56 hx hZ hown (host := "") (Or.inl (own_w hw 32 rfl)) Via.refl e56 Ft_51 (g := (mkF m 15 #[.val (.ref r0)] [(.ref r0)])) rfl rfl (hb hby d29_15)
          have st60 : own_S p e below T59 (mkF m 19 #[.val (.ref r0)] [(.ref r0), (.ref t)]) (mkF m 18 #[.val (.ref r0)] [(.ref t)]) := by
            intro target kt
            refine XS.aloadN X59.here hx rfl (hb hby d29_18) rfl rfl ?_
            exact kt
          obtain ⟨T61, X61, e61, st61⟩ := getF X59 hx hZ hown (host := "") (Or.inl (own_w hw 49 rfl)) Via.refl e59 F_at_r0_51 (g := (mkF m 19 #[.val (.ref r0)] [(.ref r0), (.ref t)])) rfl rfl (hb hby d29_19)
          obtain ⟨cq62, kq62, qv62a, qv62b, qv62c⟩ := isOf hZ e61 Et_51
          obtain ⟨_, _, ⟨T62, L62, k62, n62⟩, -, X62, ⟨Lc62, hQ62, l62, y62, z62⟩, st62⟩ := X61.virtualBack hx (y := (⟨"java/lang/String", "charAt", "(I)C"⟩ : MethodName)) (z := (⟨"java/lang/String", "charAt", "(I)C"⟩ : MethodName)) hown (mvT hZ (own_w hw 141 rfl)) (mvT hZ (own_w hw 142 rfl)) (notFace_of_selects (args := #[]) (mvT hZ (own_w hw 144 rfl))) (mvT hZ (own_w hw 144 rfl)) (mvT hZ (own_w hw 143 rfl)) (by decide) (backOf (W := 0) (rmCh l Z a0 hw [] t (((a + (1 : Int32)) + (1 : Int32)) + (1 : Int32)) cs fm y ky cd nb vs n c0 c1 c2 c3 h51 n0 Z_51 SB Od_51 Fv_51 Fc_51 Et_51 Vy_51 hcd hN hch hj_3 bc_.1) hZ (own_w hw 145 rfl) (own_w hw 7 rfl) (by decide) (by decide)) qv62a qv62c (g := (mkF m 22 #[.val (.ref r0)] [(.int (((a + (1 : Int32)) + (1 : Int32)) + (1 : Int32))), (.ref t)])) rfl (by rw [hml]; rfl) (Steps.refl _) (argsL := [(.int (((a + (1 : Int32)) + (1 : Int32)) + (1 : Int32)))]) (rest := []) (lenOf pd_11 rfl) rfl (by show 2 * 0 + _ ≤ _; exact Nat.le_of_eq rfl) (hb hby d29_22) (fun _ _ => ⟨rfl, e61, (by decide : 0 + 0 ≤ _), (by decide : 0 + 0 ≤ _)⟩)
          dsimp only [Pt.U, Pt.locs, Pt.cells, Pt.slots] at X62 l62 y62 z62 st62 hQ62
          subst l62 y62 z62
          obtain ⟨rfl, Nq62, e62⟩ := hQ62
          have N62 := Fr.app N56 Nq62
          obtain ⟨_, _, ⟨T63, L63, k63, n63⟩, -, X63, ⟨Lc63, hQ63, l63, y63, z63⟩, st63⟩ := Jvm.RoadKit.callSN X62 hx (y := (⟨"com/example/libbisim/libbisim/TextFormat", "isBlank", "(C)Z"⟩ : MethodName)) hown ((Cond.methodLinkNest_wide hZ (own_w hw 163 rfl)) :) (mvT hZ (own_w hw 164 rfl)) (mvT hZ (own_w hw 165 rfl)) (mvT hZ (own_w hw 166 rfl)) (by decide) (backOf (W := 0) (rmBl l Z a0 hw [] (own_at (((a + (1 : Int32)) + (1 : Int32)) + (1 : Int32)) c0 c1 c2 c3)  h51 n0 Z_51 ) hZ (own_w hw 166 rfl) (own_w hw 165 rfl) (by decide) (by decide)) (g := (mkF m 25 #[.val (.ref r0)] [(.int (own_at (((a + (1 : Int32)) + (1 : Int32)) + (1 : Int32)) c0 c1 c2 c3))])) rfl (by rw [hml]; rfl) (argsL := [(.int (own_at (((a + (1 : Int32)) + (1 : Int32)) + (1 : Int32)) c0 c1 c2 c3))]) (rest := []) (lenOf pd_27 rfl) rfl (by show 2 * 0 + _ ≤ _; exact Nat.le_of_eq rfl) (hb hby d29_25) (fun _ _ => ⟨rfl, e62, (by decide : 0 + 0 ≤ _), (by decide : 0 + 0 ≤ _)⟩)
          dsimp only [Pt.U, Pt.locs, Pt.cells, Pt.slots] at X63 l63 y63 z63 st63 hQ63
          subst l63 y63 z63
          obtain ⟨b63, hb63, rfl, Nq63, e63⟩ := hQ63
          have N63 := Fr.app N62 Nq63
          have st64 : own_S p e below T63 (mkF m 31 #[.val (.ref r0)] []) (mkF m 28 #[.val (.ref r0)] [(.int b63)]) := by
            intro target kt
            refine XS.ifNo X63.here hx rfl (hb hby d29_28) rfl ((if0 _ _).trans (feq (fun q => hb63.mp q bc_.2)).1) ?_
            exact kt
          have st65 : own_S p e below T63 (mkF m 33 #[.val (.ref r0)] [(.ref r0), (.ref r0)]) (mkF m 31 #[.val (.ref r0)] []) := by
            intro target kt
            refine XS.aloadN X63.here hx rfl (hb hby d29_31) rfl rfl ?_
            refine XS.dup X63.here hx rfl (hb hby d29_32) rfl rfl ?_
            exact kt
          obtain ⟨T66, X66, e66, st66⟩ := getF X63 hx hZ hown (host := "") (Or.inl (own_w hw 49 rfl)) Via.refl e63 F_at_r0_51 (g := (mkF m 33 #[.val (.ref r0)] [(.ref r0), (.ref r0)])) rfl rfl (hb hby d29_33)
          have st67 : own_S p e below T66 (mkF m 38 #[.val (.ref r0)] [(.int ((((a + (1 : Int32)) + (1 : Int32)) + (1 : Int32)) + (1 : Int32))), (.ref r0)]) (mkF m 36 #[.val (.ref r0)] [(.int (((a + (1 : Int32)) + (1 : Int32)) + (1 : Int32))), (.ref r0)]) := by
            intro target kt
            refine XS.iconst X66.here hx rfl (hb hby d29_36) ?_
            refine XS.iadd X66.here hx rfl (hb hby d29_37) rfl ?_
            exact kt
          obtain ⟨T68, h68, X68, e68, W68, st68⟩ := putF X66 hx hZ hown (host := "") (Or.inl (own_w hw 49 rfl)) Via.refl e66 F_at_r0_51 Ec_51 (Or.inl (own_w hw 50 rfl)) (own_w hw 3 rfl) (ty := .int) (by decide) rfl rfl (g := (mkF m 38 #[.val (.ref r0)] [(.int ((((a + (1 : Int32)) + (1 : Int32)) + (1 : Int32)) + (1 : Int32))), (.ref r0)])) rfl rfl (hb hby d29_38)
          have F_at_r0_68 : Fld Z h68 r0 "com/example/libbisim/libbisim/TextFormat$Cursor" "at" "I" (.int ((((a + (1 : Int32)) + (1 : Int32)) + (1 : Int32)) + (1 : Int32))) := F_at_r0_51.same W68
          have Od_68 := Od_51.wr W68 g_r0
          have Ft_68 := Ft_51.other W68 (Or.inr (slot_ne (Or.inr (own_w hw 33 rfl)) (Or.inl (own_w hw 50 rfl)) (by decide) (t := (.object "java/lang/String")) (t' := .int) (by decide) (by decide)))
          have Ec_68 := Ec_51.wr W68
          have Fv_68 := Fv_51.other W68 (Or.inl ne1)
          have Fc_68 := Fc_51.other W68 (Or.inl ne1)
          have Et_68 := Et_51.wr W68
          have Vy_68 := Vy_51.other W68 ne2
          have Z_68 : n0 ≤ h68.size := Nat.le_trans Z_51 (Keep.of_wr W68).1
          have Kp_68 : Keep h0 h68 [r0] := Kp_51.wr W68 (Or.inl (List.mem_of_getElem? (i := 0) rfl))
          have N68 := Fr.snoc X68 N63 g_r0
          have hj_4 := own_nx hj_3 hN bc_.1
          have st69 : own_S p e below T68 (mkF m 1 #[.val (.ref r0)] [(.ref r0)]) (mkF m 41 #[.val (.ref r0)] []) := by
            intro target kt
            refine XS.goto X68.here hx rfl (pc0 := 41) (pc' := 0) rfl (hb hby d29_41) (by decide) (by decide) ?_
            refine XS.aloadN X68.here hx rfl (hb hby d29_0) rfl rfl ?_
            exact kt
          obtain ⟨T70, X70, e70, st70⟩ := getF X68 hx hZ hown (host := "") (Or.inl (own_w hw 49 rfl)) Via.refl e68 F_at_r0_68 (g := (mkF m 1 #[.val (.ref r0)] [(.ref r0)])) rfl rfl (hb hby d29_1)
          have st71 : own_S p e below T70 (mkF m 5 #[.val (.ref r0)] [(.ref r0), (.int ((((a + (1 : Int32)) + (1 : Int32)) + (1 : Int32)) + (1 : Int32)))]) (mkF m 4 #[.val (.ref r0)] [(.int ((((a + (1 : Int32)) + (1 : Int32)) + (1 : Int32)) + (1 : Int32)))]) := by
            intro target kt
            refine XS.aloadN X70.here hx rfl (hb hby d29_4) rfl rfl ?_
            exact kt
          obtain ⟨T72, X72, e72, st72⟩ := getF X70 hx hZ hown (host := "") (Or.inl (own_w hw 32 rfl)) Via.refl e70 Ft_68 (g := (mkF m 5 #[.val (.ref r0)] [(.ref r0), (.int ((((a + (1 : Int32)) + (1 : Int32)) + (1 : Int32)) + (1 : Int32)))])) rfl rfl (hb hby d29_5)
          obtain ⟨cq73, kq73, qv73a, qv73b, qv73c⟩ := isOf hZ e72 Et_68
          obtain ⟨_, _, ⟨T73, L73, k73, n73⟩, -, X73, ⟨Lc73, hQ73, l73, y73, z73⟩, st73⟩ := X72.virtualBack hx (y := (⟨"java/lang/String", "length", "()I"⟩ : MethodName)) (z := (⟨"java/lang/String", "length", "()I"⟩ : MethodName)) hown (mvT hZ (own_w hw 140 rfl)) (mvT hZ (own_w hw 63 rfl)) (notFace_of_selects (args := #[]) (mvT hZ (own_w hw 65 rfl))) (mvT hZ (own_w hw 65 rfl)) (mvT hZ (own_w hw 64 rfl)) (by decide) (backOf (W := 1) (rmLn l Z a0 hw [] t cs fm y ky cd nb vs n c0 c1 c2 c3 h68 n0 Z_68 SB Od_68 Fv_68 Fc_68 Et_68 Vy_68 hcd hN hch) hZ (own_w hw 66 rfl) (own_w hw 7 rfl) (by decide) (by decide)) qv73a qv73c (g := (mkF m 8 #[.val (.ref r0)] [(.ref t), (.int ((((a + (1 : Int32)) + (1 : Int32)) + (1 : Int32)) + (1 : Int32)))])) rfl (by rw [hml]; rfl) (Steps.refl _) (argsL := []) (rest := [(.int ((((a + (1 : Int32)) + (1 : Int32)) + (1 : Int32)) + (1 : Int32)))]) (lenOf pd_7 rfl) rfl (by show 2 * 0 + _ ≤ _; exact Nat.le_of_eq rfl) (hb hby d29_8) (fun _ _ => ⟨rfl, e72, (by decide : 0 + 0 ≤ _), (by decide : 0 + 0 ≤ _)⟩)
          dsimp only [Pt.U, Pt.locs, Pt.cells, Pt.slots] at X73 l73 y73 z73 st73 hQ73
          subst l73 y73 z73
          obtain ⟨rfl, Nq73, e73⟩ := hQ73
          have N73 := Fr.app N68 Nq73
          have g4_ := own_four hi hN (i := a)
          have ek_ : k = ((((a + (1 : Int32)) + (1 : Int32)) + (1 : Int32)) + (1 : Int32)) := by
            rcases hR with ⟨q, -⟩ | ⟨-, q⟩
            · exact absurd q.1 g4_
            · exact q
          have st74 : own_S p e below T73 (mkF m 44 #[.val (.ref r0)] []) (mkF m 11 #[.val (.ref r0)] [(.int n), (.int ((((a + (1 : Int32)) + (1 : Int32)) + (1 : Int32)) + (1 : Int32)))]) := by
            intro target kt
            refine XS.icmpYes X73.here hx rfl (pc0 := 11) (pc' := 44) rfl (hb hby d29_11) rfl (flt g4_).2.1 (by decide) (by decide) ?_
            exact kt
          have fa_ := F_at_r0_68
          rw [← ek_] at fa_
          obtain ⟨fs, hr, hrun, hended, hW, hsame⟩ := X73.leave (v := none) (fun _ => rfl)
          refine ⟨_, _, pre0 _ (st1 _ (st2 _ (st3 _ (st4 _ (st5.trans (st6 _ (st7 _ (st8 _ (st9 _ (st10 _ (st11.trans (st12.trans (st13 _ (st14 _ (st15 _ (st16 _ (st17 _ (st18 _ (st19 _ (st20 _ (st21 _ (st22.trans (st23 _ (st24 _ (st25 _ (st26 _ (st27 _ (st28.trans (st29.trans (st30 _ (st31 _ (st32 _ (st33 _ (st34 _ (st35 _ (st36 _ (st37 _ (st38 _ (st39.trans (st40 _ (st41 _ (st42 _ (st43 _ (st44 _ (st45.trans (st46.trans (st47 _ (st48 _ (st49 _ (st50 _ (st51 _ (st52 _ (st53 _ (st54 _ (st55 _ (st56.trans (st57 _ (st58 _ (st59 _ (st60 _ (st61 _ (st62.trans (st63.trans (st64 _ (st65 _ (st66 _ (st67 _ (st68 _ (st69 _ (st70 _ (st71 _ (st72 _ (st73.trans (st74 _ ?_)))))))))))))))))))))))))))))))))))))))))))))))))))))))))))))))))))))))))), hrun, hended, _, _, rfl, ?_, ⟨_, rfl⟩, hW, hsame.mono (by decide) (by decide)⟩
          · show Steps p.tables e below (T73.setTop (mkF m 44 #[.val (.ref r0)] [])) _
            exact X73.returnOut hx Bd.returns (hb hby d29_44) hr
          · show Q_rmSb Z r0 cs fm t y ky cd nb vs n c0 c1 c2 c3 a k h0 n0 _ T73.heap _
            rw [e73]
            exact ⟨rfl, N73, Kp_68, Ft_68, fa_⟩
        · by_cases hl_3 : (((a + (1 : Int32)) + (1 : Int32)) + (1 : Int32)) < n
          · have st75 : own_S p e below T56 (mkF m 14 #[.val (.ref r0)] []) (mkF m 11 #[.val (.ref r0)] [(.int n), (.int (((a + (1 : Int32)) + (1 : Int32)) + (1 : Int32)))]) := by
              intro target kt
              refine XS.icmpNo X56.here hx rfl (hb hby d29_11) rfl (tlt hl_3).2.1 ?_
              exact kt
            have st76 : own_S p e below T56 (mkF m 15 #[.val (.ref r0)] [(.ref r0)]) (mkF m 14 #[.val (.ref r0)] []) := by
              intro target kt
              refine XS.aloadN X56.here hx rfl (hb hby d29_14) rfl rfl ?_
              exact kt
            obtain ⟨T77, X77, e77, st77⟩ := getF X56 hx hZ hown (host := "") (Or.inl (own_w hw 32 rfl)) Via.refl e56 Ft_51 (g := (mkF m 15 #[.val (.ref r0)] [(.ref r0)])) rfl rfl (hb hby d29_15)
            have st78 : own_S p e below T77 (mkF m 19 #[.val (.ref r0)] [(.ref r0), (.ref t)]) (mkF m 18 #[.val (.ref r0)] [(.ref t)]) := by
              intro target kt
              refine XS.aloadN X77.here hx rfl (hb hby d29_18) rfl rfl ?_
              exact kt
            obtain ⟨T79, X79, e79, st79⟩ := getF X77 hx hZ hown (host := "") (Or.inl (own_w hw 49 rfl)) Via.refl e77 F_at_r0_51 (g := (mkF m 19 #[.val (.ref r0)] [(.ref r0), (.ref t)])) rfl rfl (hb hby d29_19)
            obtain ⟨cq80, kq80, qv80a, qv80b, qv80c⟩ := isOf hZ e79 Et_51
            obtain ⟨_, _, ⟨T80, L80, k80, n80⟩, -, X80, ⟨Lc80, hQ80, l80, y80, z80⟩, st80⟩ := X79.virtualBack hx (y := (⟨"java/lang/String", "charAt", "(I)C"⟩ : MethodName)) (z := (⟨"java/lang/String", "charAt", "(I)C"⟩ : MethodName)) hown (mvT hZ (own_w hw 141 rfl)) (mvT hZ (own_w hw 142 rfl)) (notFace_of_selects (args := #[]) (mvT hZ (own_w hw 144 rfl))) (mvT hZ (own_w hw 144 rfl)) (mvT hZ (own_w hw 143 rfl)) (by decide) (backOf (W := 0) (rmCh l Z a0 hw [] t (((a + (1 : Int32)) + (1 : Int32)) + (1 : Int32)) cs fm y ky cd nb vs n c0 c1 c2 c3 h51 n0 Z_51 SB Od_51 Fv_51 Fc_51 Et_51 Vy_51 hcd hN hch hj_3 hl_3) hZ (own_w hw 145 rfl) (own_w hw 7 rfl) (by decide) (by decide)) qv80a qv80c (g := (mkF m 22 #[.val (.ref r0)] [(.int (((a + (1 : Int32)) + (1 : Int32)) + (1 : Int32))), (.ref t)])) rfl (by rw [hml]; rfl) (Steps.refl _) (argsL := [(.int (((a + (1 : Int32)) + (1 : Int32)) + (1 : Int32)))]) (rest := []) (lenOf pd_11 rfl) rfl (by show 2 * 0 + _ ≤ _; exact Nat.le_of_eq rfl) (hb hby d29_22) (fun _ _ => ⟨rfl, e79, (by decide : 0 + 0 ≤ _), (by decide : 0 + 0 ≤ _)⟩)
            dsimp only [Pt.U, Pt.locs, Pt.cells, Pt.slots] at X80 l80 y80 z80 st80 hQ80
            subst l80 y80 z80
            obtain ⟨rfl, Nq80, e80⟩ := hQ80
            have N80 := Fr.app N56 Nq80
            obtain ⟨_, _, ⟨T81, L81, k81, n81⟩, -, X81, ⟨Lc81, hQ81, l81, y81, z81⟩, st81⟩ := Jvm.RoadKit.callSN X80 hx (y := (⟨"com/example/libbisim/libbisim/TextFormat", "isBlank", "(C)Z"⟩ : MethodName)) hown ((Cond.methodLinkNest_wide hZ (own_w hw 163 rfl)) :) (mvT hZ (own_w hw 164 rfl)) (mvT hZ (own_w hw 165 rfl)) (mvT hZ (own_w hw 166 rfl)) (by decide) (backOf (W := 0) (rmBl l Z a0 hw [] (own_at (((a + (1 : Int32)) + (1 : Int32)) + (1 : Int32)) c0 c1 c2 c3)  h51 n0 Z_51 ) hZ (own_w hw 166 rfl) (own_w hw 165 rfl) (by decide) (by decide)) (g := (mkF m 25 #[.val (.ref r0)] [(.int (own_at (((a + (1 : Int32)) + (1 : Int32)) + (1 : Int32)) c0 c1 c2 c3))])) rfl (by rw [hml]; rfl) (argsL := [(.int (own_at (((a + (1 : Int32)) + (1 : Int32)) + (1 : Int32)) c0 c1 c2 c3))]) (rest := []) (lenOf pd_27 rfl) rfl (by show 2 * 0 + _ ≤ _; exact Nat.le_of_eq rfl) (hb hby d29_25) (fun _ _ => ⟨rfl, e80, (by decide : 0 + 0 ≤ _), (by decide : 0 + 0 ≤ _)⟩)
            dsimp only [Pt.U, Pt.locs, Pt.cells, Pt.slots] at X81 l81 y81 z81 st81 hQ81
            subst l81 y81 z81
            obtain ⟨b81, hb81, rfl, Nq81, e81⟩ := hQ81
            have N81 := Fr.app N80 Nq81
            have st82 : own_S p e below T81 (mkF m 44 #[.val (.ref r0)] []) (mkF m 28 #[.val (.ref r0)] [(.int b81)]) := by
              intro target kt
              refine XS.ifYes X81.here hx rfl (pc0 := 28) (pc' := 44) rfl (hb hby d29_28) rfl ((if0 _ _).trans (teq (hb81.mpr (fun q => bc_ ⟨hl_3, q⟩))).1) (by decide) (by decide) ?_
              exact kt
            have fa_ := F_at_r0_51
            rw [← ek_] at fa_
            obtain ⟨fs, hr, hrun, hended, hW, hsame⟩ := X81.leave (v := none) (fun _ => rfl)
            refine ⟨_, _, pre0 _ (st1 _ (st2 _ (st3 _ (st4 _ (st5.trans (st6 _ (st7 _ (st8 _ (st9 _ (st10 _ (st11.trans (st12.trans (st13 _ (st14 _ (st15 _ (st16 _ (st17 _ (st18 _ (st19 _ (st20 _ (st21 _ (st22.trans (st23 _ (st24 _ (st25 _ (st26 _ (st27 _ (st28.trans (st29.trans (st30 _ (st31 _ (st32 _ (st33 _ (st34 _ (st35 _ (st36 _ (st37 _ (st38 _ (st39.trans (st40 _ (st41 _ (st42 _ (st43 _ (st44 _ (st45.trans (st46.trans (st47 _ (st48 _ (st49 _ (st50 _ (st51 _ (st52 _ (st53 _ (st54 _ (st55 _ (st56.trans (st75 _ (st76 _ (st77 _ (st78 _ (st79 _ (st80.trans (st81.trans (st82 _ ?_)))))))))))))))))))))))))))))))))))))))))))))))))))))))))))))))), hrun, hended, _, _, rfl, ?_, ⟨_, rfl⟩, hW, hsame.mono (by decide) (by decide)⟩
            · show Steps p.tables e below (T81.setTop (mkF m 44 #[.val (.ref r0)] [])) _
              exact X81.returnOut hx Bd.returns (hb hby d29_44) hr
            · show Q_rmSb Z r0 cs fm t y ky cd nb vs n c0 c1 c2 c3 a k h0 n0 _ T81.heap _
              rw [e81]
              exact ⟨rfl, N81, Kp_51, Ft_51, fa_⟩
          · have st83 : own_S p e below T56 (mkF m 44 #[.val (.ref r0)] []) (mkF m 11 #[.val (.ref r0)] [(.int n), (.int (((a + (1 : Int32)) + (1 : Int32)) + (1 : Int32)))]) := by
              intro target kt
              refine XS.icmpYes X56.here hx rfl (pc0 := 11) (pc' := 44) rfl (hb hby d29_11) rfl (flt hl_3).2.1 (by decide) (by decide) ?_
              exact kt
            have fa_ := F_at_r0_51
            rw [← ek_] at fa_
            obtain ⟨fs, hr, hrun, hended, hW, hsame⟩ := X56.leave (v := none) (fun _ => rfl)
            refine ⟨_, _, pre0 _ (st1 _ (st2 _ (st3 _ (st4 _ (st5.trans (st6 _ (st7 _ (st8 _ (st9 _ (st10 _ (st11.trans (st12.trans (st13 _ (st14 _ (st15 _ (st16 _ (st17 _ (st18 _ (st19 _ (st20 _ (st21 _ (st22.trans (st23 _ (st24 _ (st25 _ (st26 _ (st27 _ (st28.trans (st29.trans (st30 _ (st31 _ (st32 _ (st33 _ (st34 _ (st35 _ (st36 _ (st37 _ (st38 _ (st39.trans (st40 _ (st41 _ (st42 _ (st43 _ (st44 _ (st45.trans (st46.trans (st47 _ (st48 _ (st49 _ (st50 _ (st51 _ (st52 _ (st53 _ (st54 _ (st55 _ (st56.trans (st83 _ ?_))))))))))))))))))))))))))))))))))))))))))))))))))))))))), hrun, hended, _, _, rfl, ?_, ⟨_, rfl⟩, hW, hsame.mono (by decide) (by decide)⟩
            · show Steps p.tables e below (T56.setTop (mkF m 44 #[.val (.ref r0)] [])) _
              exact X56.returnOut hx Bd.returns (hb hby d29_44) hr
            · show Q_rmSb Z r0 cs fm t y ky cd nb vs n c0 c1 c2 c3 a k h0 n0 _ T56.heap _
              rw [e56]
              exact ⟨rfl, N56, Kp_51, Ft_51, fa_⟩
      · by_cases hl_2 : ((a + (1 : Int32)) + (1 : Int32)) < n
        · have st84 : own_S p e below T39 (mkF m 14 #[.val (.ref r0)] []) (mkF m 11 #[.val (.ref r0)] [(.int n), (.int ((a + (1 : Int32)) + (1 : Int32)))]) := by
            intro target kt
            refine XS.icmpNo X39.here hx rfl (hb hby d29_11) rfl (tlt hl_2).2.1 ?_
            exact kt
          have st85 : own_S p e below T39 (mkF m 15 #[.val (.ref r0)] [(.ref r0)]) (mkF m 14 #[.val (.ref r0)] []) := by
            intro target kt
            refine XS.aloadN X39.here hx rfl (hb hby d29_14) rfl rfl ?_
            exact kt
          obtain ⟨T86, X86, e86, st86⟩ := getF X39 hx hZ hown (host := "") (Or.inl (own_w hw 32 rfl)) Via.refl e39 Ft_34 (g := (mkF m 15 #[.val (.ref r0)] [(.ref r0)])) rfl rfl (hb hby d29_15)
          have st87 : own_S p e below T86 (mkF m 19 #[.val (.ref r0)] [(.ref r0), (.ref t)]) (mkF m 18 #[.val (.ref r0)] [(.ref t)]) := by
            intro target kt
            refine XS.aloadN X86.here hx rfl (hb hby d29_18) rfl rfl ?_
            exact kt
          obtain ⟨T88, X88, e88, st88⟩ := getF X86 hx hZ hown (host := "") (Or.inl (own_w hw 49 rfl)) Via.refl e86 F_at_r0_34 (g := (mkF m 19 #[.val (.ref r0)] [(.ref r0), (.ref t)])) rfl rfl (hb hby d29_19)
          obtain ⟨cq89, kq89, qv89a, qv89b, qv89c⟩ := isOf hZ e88 Et_34
          obtain ⟨_, _, ⟨T89, L89, k89, n89⟩, -, X89, ⟨Lc89, hQ89, l89, y89, z89⟩, st89⟩ := X88.virtualBack hx (y := (⟨"java/lang/String", "charAt", "(I)C"⟩ : MethodName)) (z := (⟨"java/lang/String", "charAt", "(I)C"⟩ : MethodName)) hown (mvT hZ (own_w hw 141 rfl)) (mvT hZ (own_w hw 142 rfl)) (notFace_of_selects (args := #[]) (mvT hZ (own_w hw 144 rfl))) (mvT hZ (own_w hw 144 rfl)) (mvT hZ (own_w hw 143 rfl)) (by decide) (backOf (W := 0) (rmCh l Z a0 hw [] t ((a + (1 : Int32)) + (1 : Int32)) cs fm y ky cd nb vs n c0 c1 c2 c3 h34 n0 Z_34 SB Od_34 Fv_34 Fc_34 Et_34 Vy_34 hcd hN hch hj_2 hl_2) hZ (own_w hw 145 rfl) (own_w hw 7 rfl) (by decide) (by decide)) qv89a qv89c (g := (mkF m 22 #[.val (.ref r0)] [(.int ((a + (1 : Int32)) + (1 : Int32))), (.ref t)])) rfl (by rw [hml]; rfl) (Steps.refl _) (argsL := [(.int ((a + (1 : Int32)) + (1 : Int32)))]) (rest := []) (lenOf pd_11 rfl) rfl (by show 2 * 0 + _ ≤ _; exact Nat.le_of_eq rfl) (hb hby d29_22) (fun _ _ => ⟨rfl, e88, (by decide : 0 + 0 ≤ _), (by decide : 0 + 0 ≤ _)⟩)
          dsimp only [Pt.U, Pt.locs, Pt.cells, Pt.slots] at X89 l89 y89 z89 st89 hQ89
          subst l89 y89 z89
          obtain ⟨rfl, Nq89, e89⟩ := hQ89
          have N89 := Fr.app N39 Nq89
          obtain ⟨_, _, ⟨T90, L90, k90, n90⟩, -, X90, ⟨Lc90, hQ90, l90, y90, z90⟩, st90⟩ := Jvm.RoadKit.callSN X89 hx (y := (⟨"com/example/libbisim/libbisim/TextFormat", "isBlank", "(C)Z"⟩ : MethodName)) hown ((Cond.methodLinkNest_wide hZ (own_w hw 163 rfl)) :) (mvT hZ (own_w hw 164 rfl)) (mvT hZ (own_w hw 165 rfl)) (mvT hZ (own_w hw 166 rfl)) (by decide) (backOf (W := 0) (rmBl l Z a0 hw [] (own_at ((a + (1 : Int32)) + (1 : Int32)) c0 c1 c2 c3)  h34 n0 Z_34 ) hZ (own_w hw 166 rfl) (own_w hw 165 rfl) (by decide) (by decide)) (g := (mkF m 25 #[.val (.ref r0)] [(.int (own_at ((a + (1 : Int32)) + (1 : Int32)) c0 c1 c2 c3))])) rfl (by rw [hml]; rfl) (argsL := [(.int (own_at ((a + (1 : Int32)) + (1 : Int32)) c0 c1 c2 c3))]) (rest := []) (lenOf pd_27 rfl) rfl (by show 2 * 0 + _ ≤ _; exact Nat.le_of_eq rfl) (hb hby d29_25) (fun _ _ => ⟨rfl, e89, (by decide : 0 + 0 ≤ _), (by decide : 0 + 0 ≤ _)⟩)
          dsimp only [Pt.U, Pt.locs, Pt.cells, Pt.slots] at X90 l90 y90 z90 st90 hQ90
          subst l90 y90 z90
          obtain ⟨b90, hb90, rfl, Nq90, e90⟩ := hQ90
          have N90 := Fr.app N89 Nq90
          have st91 : own_S p e below T90 (mkF m 44 #[.val (.ref r0)] []) (mkF m 28 #[.val (.ref r0)] [(.int b90)]) := by
            intro target kt
            refine XS.ifYes X90.here hx rfl (pc0 := 28) (pc' := 44) rfl (hb hby d29_28) rfl ((if0 _ _).trans (teq (hb90.mpr (fun q => bc_ ⟨hl_2, q⟩))).1) (by decide) (by decide) ?_
            exact kt
          have fa_ := F_at_r0_34
          rw [← ek_] at fa_
          obtain ⟨fs, hr, hrun, hended, hW, hsame⟩ := X90.leave (v := none) (fun _ => rfl)
          refine ⟨_, _, pre0 _ (st1 _ (st2 _ (st3 _ (st4 _ (st5.trans (st6 _ (st7 _ (st8 _ (st9 _ (st10 _ (st11.trans (st12.trans (st13 _ (st14 _ (st15 _ (st16 _ (st17 _ (st18 _ (st19 _ (st20 _ (st21 _ (st22.trans (st23 _ (st24 _ (st25 _ (st26 _ (st27 _ (st28.trans (st29.trans (st30 _ (st31 _ (st32 _ (st33 _ (st34 _ (st35 _ (st36 _ (st37 _ (st38 _ (st39.trans (st84 _ (st85 _ (st86 _ (st87 _ (st88 _ (st89.trans (st90.trans (st91 _ ?_))))))))))))))))))))))))))))))))))))))))))))))), hrun, hended, _, _, rfl, ?_, ⟨_, rfl⟩, hW, hsame.mono (by decide) (by decide)⟩
          · show Steps p.tables e below (T90.setTop (mkF m 44 #[.val (.ref r0)] [])) _
            exact X90.returnOut hx Bd.returns (hb hby d29_44) hr
          · show Q_rmSb Z r0 cs fm t y ky cd nb vs n c0 c1 c2 c3 a k h0 n0 _ T90.heap _
            rw [e90]
            exact ⟨rfl, N90, Kp_34, Ft_34, fa_⟩
        · have st92 : own_S p e below T39 (mkF m 44 #[.val (.ref r0)] []) (mkF m 11 #[.val (.ref r0)] [(.int n), (.int ((a + (1 : Int32)) + (1 : Int32)))]) := by
            intro target kt
            refine XS.icmpYes X39.here hx rfl (pc0 := 11) (pc' := 44) rfl (hb hby d29_11) rfl (flt hl_2).2.1 (by decide) (by decide) ?_
            exact kt
          have fa_ := F_at_r0_34
          rw [← ek_] at fa_
          obtain ⟨fs, hr, hrun, hended, hW, hsame⟩ := X39.leave (v := none) (fun _ => rfl)
          refine ⟨_, _, pre0 _ (st1 _ (st2 _ (st3 _ (st4 _ (st5.trans (st6 _ (st7 _ (st8 _ (st9 _ (st10 _ (st11.trans (st12.trans (st13 _ (st14 _ (st15 _ (st16 _ (st17 _ (st18 _ (st19 _ (st20 _ (st21 _ (st22.trans (st23 _ (st24 _ (st25 _ (st26 _ (st27 _ (st28.trans (st29.trans (st30 _ (st31 _ (st32 _ (st33 _ (st34 _ (st35 _ (st36 _ (st37 _ (st38 _ (st39.trans (st92 _ ?_)))))))))))))))))))))))))))))))))))))))), hrun, hended, _, _, rfl, ?_, ⟨_, rfl⟩, hW, hsame.mono (by decide) (by decide)⟩
          · show Steps p.tables e below (T39.setTop (mkF m 44 #[.val (.ref r0)] [])) _
            exact X39.returnOut hx Bd.returns (hb hby d29_44) hr
          · show Q_rmSb Z r0 cs fm t y ky cd nb vs n c0 c1 c2 c3 a k h0 n0 _ T39.heap _
            rw [e39]
            exact ⟨rfl, N39, Kp_34, Ft_34, fa_⟩
    · by_cases hl_1 : (a + (1 : Int32)) < n
      · have st93 : own_S p e below T22 (mkF m 14 #[.val (.ref r0)] []) (mkF m 11 #[.val (.ref r0)] [(.int n), (.int (a + (1 : Int32)))]) := by
          intro target kt
          refine XS.icmpNo X22.here hx rfl (hb hby d29_11) rfl (tlt hl_1).2.1 ?_
          exact kt
        have st94 : own_S p e below T22 (mkF m 15 #[.val (.ref r0)] [(.ref r0)]) (mkF m 14 #[.val (.ref r0)] []) := by
          intro target kt
          refine XS.aloadN X22.here hx rfl (hb hby d29_14) rfl rfl ?_
          exact kt
        obtain ⟨T95, X95, e95, st95⟩ := getF X22 hx hZ hown (host := "") (Or.inl (own_w hw 32 rfl)) Via.refl e22 Ft_17 (g := (mkF m 15 #[.val (.ref r0)] [(.ref r0)])) rfl rfl (hb hby d29_15)
        have st96 : own_S p e below T95 (mkF m 19 #[.val (.ref r0)] [(.ref r0), (.ref t)]) (mkF m 18 #[.val (.ref r0)] [(.ref t)]) := by
          intro target kt
          refine XS.aloadN X95.here hx rfl (hb hby d29_18) rfl rfl ?_
          exact kt
        obtain ⟨T97, X97, e97, st97⟩ := getF X95 hx hZ hown (host := "") (Or.inl (own_w hw 49 rfl)) Via.refl e95 F_at_r0_17 (g := (mkF m 19 #[.val (.ref r0)] [(.ref r0), (.ref t)])) rfl rfl (hb hby d29_19)
        obtain ⟨cq98, kq98, qv98a, qv98b, qv98c⟩ := isOf hZ e97 Et_17
        obtain ⟨_, _, ⟨T98, L98, k98, n98⟩, -, X98, ⟨Lc98, hQ98, l98, y98, z98⟩, st98⟩ := X97.virtualBack hx (y := (⟨"java/lang/String", "charAt", "(I)C"⟩ : MethodName)) (z := (⟨"java/lang/String", "charAt", "(I)C"⟩ : MethodName)) hown (mvT hZ (own_w hw 141 rfl)) (mvT hZ (own_w hw 142 rfl)) (notFace_of_selects (args := #[]) (mvT hZ (own_w hw 144 rfl))) (mvT hZ (own_w hw 144 rfl)) (mvT hZ (own_w hw 143 rfl)) (by decide) (backOf (W := 0) (rmCh l Z a0 hw [] t (a + (1 : Int32)) cs fm y ky cd nb vs n c0 c1 c2 c3 h17 n0 Z_17 SB Od_17 Fv_17 Fc_17 Et_17 Vy_17 hcd hN hch hj_1 hl_1) hZ (own_w hw 145 rfl) (own_w hw 7 rfl) (by decide) (by decide)) qv98a qv98c (g := (mkF m 22 #[.val (.ref r0)] [(.int (a + (1 : Int32))), (.ref t)])) rfl (by rw [hml]; rfl) (Steps.refl _) (argsL := [(.int (a + (1 : Int32)))]) (rest := []) (lenOf pd_11 rfl) rfl (by show 2 * 0 + _ ≤ _; exact Nat.le_of_eq rfl) (hb hby d29_22) (fun _ _ => ⟨rfl, e97, (by decide : 0 + 0 ≤ _), (by decide : 0 + 0 ≤ _)⟩)
        dsimp only [Pt.U, Pt.locs, Pt.cells, Pt.slots] at X98 l98 y98 z98 st98 hQ98
        subst l98 y98 z98
        obtain ⟨rfl, Nq98, e98⟩ := hQ98
        have N98 := Fr.app N22 Nq98
        obtain ⟨_, _, ⟨T99, L99, k99, n99⟩, -, X99, ⟨Lc99, hQ99, l99, y99, z99⟩, st99⟩ := Jvm.RoadKit.callSN X98 hx (y := (⟨"com/example/libbisim/libbisim/TextFormat", "isBlank", "(C)Z"⟩ : MethodName)) hown ((Cond.methodLinkNest_wide hZ (own_w hw 163 rfl)) :) (mvT hZ (own_w hw 164 rfl)) (mvT hZ (own_w hw 165 rfl)) (mvT hZ (own_w hw 166 rfl)) (by decide) (backOf (W := 0) (rmBl l Z a0 hw [] (own_at (a + (1 : Int32)) c0 c1 c2 c3)  h17 n0 Z_17 ) hZ (own_w hw 166 rfl) (own_w hw 165 rfl) (by decide) (by decide)) (g := (mkF m 25 #[.val (.ref r0)] [(.int (own_at (a + (1 : Int32)) c0 c1 c2 c3))])) rfl (by rw [hml]; rfl) (argsL := [(.int (own_at (a + (1 : Int32)) c0 c1 c2 c3))]) (rest := []) (lenOf pd_27 rfl) rfl (by show 2 * 0 + _ ≤ _; exact Nat.le_of_eq rfl) (hb hby d29_25) (fun _ _ => ⟨rfl, e98, (by decide : 0 + 0 ≤ _), (by decide : 0 + 0 ≤ _)⟩)
        dsimp only [Pt.U, Pt.locs, Pt.cells, Pt.slots] at X99 l99 y99 z99 st99 hQ99
        subst l99 y99 z99
        obtain ⟨b99, hb99, rfl, Nq99, e99⟩ := hQ99
        have N99 := Fr.app N98 Nq99
        have st100 : own_S p e below T99 (mkF m 44 #[.val (.ref r0)] []) (mkF m 28 #[.val (.ref r0)] [(.int b99)]) := by
          intro target kt
          refine XS.ifYes X99.here hx rfl (pc0 := 28) (pc' := 44) rfl (hb hby d29_28) rfl ((if0 _ _).trans (teq (hb99.mpr (fun q => bc_ ⟨hl_1, q⟩))).1) (by decide) (by decide) ?_
          exact kt
        have fa_ := F_at_r0_17
        rw [← ek_] at fa_
        obtain ⟨fs, hr, hrun, hended, hW, hsame⟩ := X99.leave (v := none) (fun _ => rfl)
        refine ⟨_, _, pre0 _ (st1 _ (st2 _ (st3 _ (st4 _ (st5.trans (st6 _ (st7 _ (st8 _ (st9 _ (st10 _ (st11.trans (st12.trans (st13 _ (st14 _ (st15 _ (st16 _ (st17 _ (st18 _ (st19 _ (st20 _ (st21 _ (st22.trans (st93 _ (st94 _ (st95 _ (st96 _ (st97 _ (st98.trans (st99.trans (st100 _ ?_)))))))))))))))))))))))))))))), hrun, hended, _, _, rfl, ?_, ⟨_, rfl⟩, hW, hsame.mono (by decide) (by decide)⟩
        · show Steps p.tables e below (T99.setTop (mkF m 44 #[.val (.ref r0)] [])) _
          exact X99.returnOut hx Bd.returns (hb hby d29_44) hr
        · show Q_rmSb Z r0 cs fm t y ky cd nb vs n c0 c1 c2 c3 a k h0 n0 _ T99.heap _
          rw [e99]
          exact ⟨rfl, N99, Kp_17, Ft_17, fa_⟩
      · have st101 : own_S p e below T22 (mkF m 44 #[.val (.ref r0)] []) (mkF m 11 #[.val (.ref r0)] [(.int n), (.int (a + (1 : Int32)))]) := by
          intro target kt
          refine XS.icmpYes X22.here hx rfl (pc0 := 11) (pc' := 44) rfl (hb hby d29_11) rfl (flt hl_1).2.1 (by decide) (by decide) ?_
          exact kt
        have fa_ := F_at_r0_17
        rw [← ek_] at fa_
        obtain ⟨fs, hr, hrun, hended, hW, hsame⟩ := X22.leave (v := none) (fun _ => rfl)
        refine ⟨_, _, pre0 _ (st1 _ (st2 _ (st3 _ (st4 _ (st5.trans (st6 _ (st7 _ (st8 _ (st9 _ (st10 _ (st11.trans (st12.trans (st13 _ (st14 _ (st15 _ (st16 _ (st17 _ (st18 _ (st19 _ (st20 _ (st21 _ (st22.trans (st101 _ ?_))))))))))))))))))))))), hrun, hended, _, _, rfl, ?_, ⟨_, rfl⟩, hW, hsame.mono (by decide) (by decide)⟩
        · show Steps p.tables e below (T22.setTop (mkF m 44 #[.val (.ref r0)] [])) _
          exact X22.returnOut hx Bd.returns (hb hby d29_44) hr
        · show Q_rmSb Z r0 cs fm t y ky cd nb vs n c0 c1 c2 c3 a k h0 n0 _ T22.heap _
          rw [e22]
          exact ⟨rfl, N22, Kp_17, Ft_17, fa_⟩
  · by_cases hl_0 : a < n
    · have st102 : own_S p e below T5 (mkF m 14 #[.val (.ref r0)] []) (mkF m 11 #[.val (.ref r0)] [(.int n), (.int a)]) := by
        intro target kt
        refine XS.icmpNo X5.here hx rfl (hb hby d29_11) rfl (tlt hl_0).2.1 ?_
        exact kt
      have st103 : own_S p e below T5 (mkF m 15 #[.val (.ref r0)] [(.ref r0)]) (mkF m 14 #[.val (.ref r0)] []) := by
        intro target kt
        refine XS.aloadN X5.here hx rfl (hb hby d29_14) rfl rfl ?_
        exact kt
      obtain ⟨T104, X104, e104, st104⟩ := getF X5 hx hZ hown (host := "") (Or.inl (own_w hw 32 rfl)) Via.refl e5 Ft (g := (mkF m 15 #[.val (.ref r0)] [(.ref r0)])) rfl rfl (hb hby d29_15)
      have st105 : own_S p e below T104 (mkF m 19 #[.val (.ref r0)] [(.ref r0), (.ref t)]) (mkF m 18 #[.val (.ref r0)] [(.ref t)]) := by
        intro target kt
        refine XS.aloadN X104.here hx rfl (hb hby d29_18) rfl rfl ?_
        exact kt
      obtain ⟨T106, X106, e106, st106⟩ := getF X104 hx hZ hown (host := "") (Or.inl (own_w hw 49 rfl)) Via.refl e104 Fa (g := (mkF m 19 #[.val (.ref r0)] [(.ref r0), (.ref t)])) rfl rfl (hb hby d29_19)
      obtain ⟨cq107, kq107, qv107a, qv107b, qv107c⟩ := isOf hZ e106 Et
      obtain ⟨_, _, ⟨T107, L107, k107, n107⟩, -, X107, ⟨Lc107, hQ107, l107, y107, z107⟩, st107⟩ := X106.virtualBack hx (y := (⟨"java/lang/String", "charAt", "(I)C"⟩ : MethodName)) (z := (⟨"java/lang/String", "charAt", "(I)C"⟩ : MethodName)) hown (mvT hZ (own_w hw 141 rfl)) (mvT hZ (own_w hw 142 rfl)) (notFace_of_selects (args := #[]) (mvT hZ (own_w hw 144 rfl))) (mvT hZ (own_w hw 144 rfl)) (mvT hZ (own_w hw 143 rfl)) (by decide) (backOf (W := 0) (rmCh l Z a0 hw [] t a cs fm y ky cd nb vs n c0 c1 c2 c3 h0 n0 Z0 SB Od Fv Fc Et Vy hcd hN hch hi hl_0) hZ (own_w hw 145 rfl) (own_w hw 7 rfl) (by decide) (by decide)) qv107a qv107c (g := (mkF m 22 #[.val (.ref r0)] [(.int a), (.ref t)])) rfl (by rw [hml]; rfl) (Steps.refl _) (argsL := [(.int a)]) (rest := []) (lenOf pd_11 rfl) rfl (by show 2 * 0 + _ ≤ _; exact Nat.le_of_eq rfl) (hb hby d29_22) (fun _ _ => ⟨rfl, e106, (by decide : 0 + 0 ≤ _), (by decide : 0 + 0 ≤ _)⟩)
      dsimp only [Pt.U, Pt.locs, Pt.cells, Pt.slots] at X107 l107 y107 z107 st107 hQ107
      subst l107 y107 z107
      obtain ⟨rfl, Nq107, e107⟩ := hQ107
      have N107 := Fr.app N5 Nq107
      obtain ⟨_, _, ⟨T108, L108, k108, n108⟩, -, X108, ⟨Lc108, hQ108, l108, y108, z108⟩, st108⟩ := Jvm.RoadKit.callSN X107 hx (y := (⟨"com/example/libbisim/libbisim/TextFormat", "isBlank", "(C)Z"⟩ : MethodName)) hown ((Cond.methodLinkNest_wide hZ (own_w hw 163 rfl)) :) (mvT hZ (own_w hw 164 rfl)) (mvT hZ (own_w hw 165 rfl)) (mvT hZ (own_w hw 166 rfl)) (by decide) (backOf (W := 0) (rmBl l Z a0 hw [] (own_at a c0 c1 c2 c3)  h0 n0 Z0 ) hZ (own_w hw 166 rfl) (own_w hw 165 rfl) (by decide) (by decide)) (g := (mkF m 25 #[.val (.ref r0)] [(.int (own_at a c0 c1 c2 c3))])) rfl (by rw [hml]; rfl) (argsL := [(.int (own_at a c0 c1 c2 c3))]) (rest := []) (lenOf pd_27 rfl) rfl (by show 2 * 0 + _ ≤ _; exact Nat.le_of_eq rfl) (hb hby d29_25) (fun _ _ => ⟨rfl, e107, (by decide : 0 + 0 ≤ _), (by decide : 0 + 0 ≤ _)⟩)
      dsimp only [Pt.U, Pt.locs, Pt.cells, Pt.slots] at X108 l108 y108 z108 st108 hQ108
      subst l108 y108 z108
      obtain ⟨b108, hb108, rfl, Nq108, e108⟩ := hQ108
      have N108 := Fr.app N107 Nq108
      have st109 : own_S p e below T108 (mkF m 44 #[.val (.ref r0)] []) (mkF m 28 #[.val (.ref r0)] [(.int b108)]) := by
        intro target kt
        refine XS.ifYes X108.here hx rfl (pc0 := 28) (pc' := 44) rfl (hb hby d29_28) rfl ((if0 _ _).trans (teq (hb108.mpr (fun q => bc_ ⟨hl_0, q⟩))).1) (by decide) (by decide) ?_
        exact kt
      have fa_ := Fa
      rw [← ek_] at fa_
      obtain ⟨fs, hr, hrun, hended, hW, hsame⟩ := X108.leave (v := none) (fun _ => rfl)
      refine ⟨_, _, pre0 _ (st1 _ (st2 _ (st3 _ (st4 _ (st5.trans (st102 _ (st103 _ (st104 _ (st105 _ (st106 _ (st107.trans (st108.trans (st109 _ ?_))))))))))))), hrun, hended, _, _, rfl, ?_, ⟨_, rfl⟩, hW, hsame.mono (by decide) (by decide)⟩
      · show Steps p.tables e below (T108.setTop (mkF m 44 #[.val (.ref r0)] [])) _
        exact X108.returnOut hx Bd.returns (hb hby d29_44) hr
      · show Q_rmSb Z r0 cs fm t y ky cd nb vs n c0 c1 c2 c3 a k h0 n0 _ T108.heap _
        rw [e108]
        exact ⟨rfl, N108, Kp, Ft, fa_⟩
    · have st110 : own_S p e below T5 (mkF m 44 #[.val (.ref r0)] []) (mkF m 11 #[.val (.ref r0)] [(.int n), (.int a)]) := by
        intro target kt
        refine XS.icmpYes X5.here hx rfl (pc0 := 11) (pc' := 44) rfl (hb hby d29_11) rfl (flt hl_0).2.1 (by decide) (by decide) ?_
        exact kt
      have fa_ := Fa
      rw [← ek_] at fa_
      obtain ⟨fs, hr, hrun, hended, hW, hsame⟩ := X5.leave (v := none) (fun _ => rfl)
      refine ⟨_, _, pre0 _ (st1 _ (st2 _ (st3 _ (st4 _ (st5.trans (st110 _ ?_)))))), hrun, hended, _, _, rfl, ?_, ⟨_, rfl⟩, hW, hsame.mono (by decide) (by decide)⟩
      · show Steps p.tables e below (T5.setTop (mkF m 44 #[.val (.ref r0)] [])) _
        exact X5.returnOut hx Bd.returns (hb hby d29_44) hr
      · show Q_rmSb Z r0 cs fm t y ky cd nb vs n c0 c1 c2 c3 a k h0 n0 _ T5.heap _
        rw [e5]
        exact ⟨rfl, N5, Kp, Ft, fa_⟩
theorem d28_0 : decode prog_69_method_3_code 0 = .ok (.aload_n 0, 1) := by decide +kernel
theorem d28_1 : decode prog_69_method_3_code 1 = .ok (.invokevirtual 28, 3) := by decide +kernel
theorem d28_4 : decode prog_69_method_3_code 4 = .ok (.aload_n 0, 1) := by decide +kernel
theorem d28_5 : decode prog_69_method_3_code 5 = .ok (.getfield 31, 3) := by decide +kernel
theorem d28_8 : decode prog_69_method_3_code 8 = .ok (.aload_n 0, 1) := by decide +kernel
theorem d28_9 : decode prog_69_method_3_code 9 = .ok (.getfield 7, 3) := by decide +kernel
theorem d28_12 : decode prog_69_method_3_code 12 = .ok (.invokevirtual 35, 3) := by decide +kernel
theorem d28_15 : decode prog_69_method_3_code 15 = .ok (.if_icmp .eq 18, 3) := by decide +kernel
theorem d28_18 : decode prog_69_method_3_code 18 = .ok (.aload_n 0, 1) := by decide +kernel
theorem d28_19 : decode prog_69_method_3_code 19 = .ok (.getfield 7, 3) := by decide +kernel
theorem d28_22 : decode prog_69_method_3_code 22 = .ok (.aload_n 0, 1) := by decide +kernel
theorem d28_23 : decode prog_69_method_3_code 23 = .ok (.getfield 31, 3) := by decide +kernel
theorem d28_26 : decode prog_69_method_3_code 26 = .ok (.invokevirtual 41, 3) := by decide +kernel
theorem d28_29 : decode prog_69_method_3_code 29 = .ok (.iload_n 1, 1) := by decide +kernel
theorem d28_30 : decode prog_69_method_3_code 30 = .ok (.if_icmp .eq 12, 3) := by decide +kernel
theorem d28_42 : decode prog_69_method_3_code 42 = .ok (.aload_n 0, 1) := by decide +kernel
theorem d28_43 : decode prog_69_method_3_code 43 = .ok (.dup, 1) := by decide +kernel
theorem d28_44 : decode prog_69_method_3_code 44 = .ok (.getfield 31, 3) := by decide +kernel
theorem d28_47 : decode prog_69_method_3_code 47 = .ok (.iconst 1, 1) := by decide +kernel
theorem d28_48 : decode prog_69_method_3_code 48 = .ok (.iadd, 1) := by decide +kernel
theorem d28_49 : decode prog_69_method_3_code 49 = .ok (.putfield 31, 3) := by decide +kernel
theorem d28_52 : decode prog_69_method_3_code 52 = .ok (.return_, 1) := by decide +kernel
theorem ef_rmEx (m : MethodId) (x0 : Addr) (x1 : Int32) : entryFrame m #[(.ref x0), (.int x1)] 2 = mkF m 0 #[.val (.ref x0), .val (.int x1)] [] := by first | (simp [entryFrame, mkF, argsToLocals, Value.category]; done) | rfl
def Q_rmEx (Z : State) (r0 : Addr) (p1 : Int32) (cs : Int32) (fm : Value) (t : Addr) (y : Addr) (ky : ClassId) (cd : Int32) (nb : Int32) (vs : List Value) (n : Int32) (c0 : Int32) (c1 : Int32) (c2 : Int32) (c3 : Int32) (a : Int32) (k : Int32) (h0 : Heap) (n0 : Nat) (v : Option Value) (h : Heap) (L : List Loc) : Prop := v = none ∧ Fr n0 L ∧ Keep h0 h [r0] ∧ Fld Z h r0 "com/example/libbisim/libbisim/TextFormat$Cursor" "text" "Ljava/lang/String;" (.ref t) ∧ Fld Z h r0 "com/example/libbisim/libbisim/TextFormat$Cursor" "at" "I" (.int (k + (1 : Int32)))
set_option maxRecDepth 65536 in
set_option maxHeartbeats 40000000 in
theorem rmEx (l : Launch) (Z : State) (a0 : Array Value) (hw : ∀ d ∈ tables_1, d.before a0 Z = true) (ws : List Jvm.Cond) (r0 : Addr) (p1 : Int32) (cs : Int32) (fm : Value) (t : Addr) (y : Addr) (ky : ClassId) (cd : Int32) (nb : Int32) (vs : List Value) (n : Int32) (c0 : Int32) (c1 : Int32) (c2 : Int32) (c3 : Int32) (a : Int32) (k : Int32) (h0 : Heap) (n0 : Nat) (Z0 : n0 ≤ h0.size) (SB : own_St Z cs fm) (Od : Old Z n0 h0) (Ft : Fld Z h0 r0 "com/example/libbisim/libbisim/TextFormat$Cursor" "text" "Ljava/lang/String;" (.ref t)) (Fa : Fld Z h0 r0 "com/example/libbisim/libbisim/TextFormat$Cursor" "at" "I" (.int a)) (Ec : Exa Z h0 r0 "com/example/libbisim/libbisim/TextFormat$Cursor") (g_r0 : n0 ≤ r0) (Fv : Fld Z h0 t "java/lang/String" "value" "[B" (.ref y)) (Fc : Fld Z h0 t "java/lang/String" "coder" "B" (.int cd)) (Et : Exa Z h0 t "java/lang/String") (Vy : Arv Z h0 y ky .byte nb vs (.int (0 : Int32))) (hcd : own_cd cd nb vs n c0 c1 c2 c3) (hN : own_n n) (hch : own_chs c0 c1 c2 c3) (hi : own_n a) (hR : own_R n c0 c1 c2 c3 5 a k) (hk : k < n) (hp : own_at k c0 c1 c2 c3 = p1) :
    MetFree l (⟨"com/example/libbisim/libbisim/TextFormat$Cursor", "expect", "(C)V"⟩ : MethodName) (head1 (Jvm.Cond.code (⟨"com/example/libbisim/libbisim/TextFormat$Cursor", "expect", "(C)V"⟩ : MethodName) prog_69_method_3_code 2 none :: ws) ({ frames := 6, cells := 0, slots := 0, locals := 78 } : Room)) (fun a U => a = #[(.ref r0), (.int p1)] ∧ Z.Warmed39 U.vm ∧ U.heap = h0) (fun _ _ _ _ _ => True) (fun _ U o U' => ∃ v L, o = .returned v ∧ Q_rmEx Z r0 p1 cs fm t y ky cd nb vs n c0 c1 c2 c3 a k h0 n0 v U'.heap L ∧ FrameEnd U o U' L ({ frames := 6, cells := 0, slots := 0, locals := 78 } : Room).cells ({ frames := 6, cells := 0, slots := 0, locals := 78 } : Room).slots) := by
  refine MetFree.of_bodySF (plainFor_of_name pn_5) hisR ?_
  intro p e s m args below meth c s₁ Bd hml0 hP hK
  obtain ⟨rfl, hZ, hh⟩ := hP
  have hx := Bd.exec
  have hby := Bd.bytes
  have hml : c.maxLocals = 2 := hml0
  have hown : s.vm.findClass "com/example/libbisim/libbisim/TextFormat$Cursor" = some m.cls := findClass_of_methodNamed Bd.named
  have hnm := (name_of_methodNamed Bd.named Bd.method).1
  have X0 : Stand p l e ({ frames := 6, cells := 0, slots := 0, locals := 78 } : Room) s m #[(.ref r0), (.int p1)] below meth c s₁ [] 0 0 := Stand.of_body Bd
  have e0 : s₁.heap = h0 := by rw [← hh, Bd.state]; rfl
  have N0 := Fr.nil n0
  have pre0 : ∀ t, Steps p.tables e below (s₁.setTop (mkF m 0 #[.val (.ref r0), .val (.int p1)] [])) t → Steps p.tables e below (s₁.setTop (entryFrame m #[(.ref r0), (.int p1)] 2)) t := fun t k => castTop (ef_rmEx m r0 p1) k
  have ne1 : t ≠ r0 := Exa.ne Et Ec (by decide)
  have ne2 : y ≠ r0 := (Exa.neArv Ec Vy (own_w hw 3 rfl)).symm
  have Kp : Keep h0 h0 [r0] := Keep.refl _ _
  have nk := own_Rn hN 5 a k hi hR
  have st1 : own_S p e below s₁ (mkF m 1 #[.val (.ref r0), .val (.int p1)] [(.ref r0)]) (mkF m 0 #[.val (.ref r0), .val (.int p1)] []) := by
    intro target kt
    refine XS.aloadN X0.here hx rfl (hb hby d28_0) rfl rfl ?_
    exact kt
  obtain ⟨cq2, qp2, qp2'⟩ := Ec.cell
  obtain ⟨_, _, ⟨T2, L2, k2, n2⟩, -, X2, ⟨Lc2, hQ2, l2, y2, z2⟩, st2⟩ := X0.privateBack hx (y := (⟨"com/example/libbisim/libbisim/TextFormat$Cursor", "skipBlanks", "()V"⟩ : MethodName)) hown (mvT hZ (own_w hw 136 rfl)) (mvT hZ (own_w hw 137 rfl)) (mvT hZ (own_selp (y := (⟨"com/example/libbisim/libbisim/TextFormat$Cursor", "skipBlanks", "()V"⟩ : MethodName)) (by decide) (own_w hw 3 rfl) (own_w hw 138 rfl) (own_w hw 137 rfl))) (Cond.privateMethod_at (mvP hZ (own_w hw 138 rfl) (args := #[]))) (mvT hZ (own_w hw 139 rfl)) (by decide) (backOf (W := 0) (rmSb l Z a0 hw [] r0 cs fm t y ky cd nb vs n c0 c1 c2 c3 a k h0 n0 Z0 SB Od Ft Fa Ec g_r0 Fv Fc Et Vy hcd hN hch hi hR) hZ (own_w hw 139 rfl) (own_w hw 4 rfl) (by decide) (by decide)) (g := (mkF m 1 #[.val (.ref r0), .val (.int p1)] [(.ref r0)])) rfl (by rw [hml]; rfl) (Steps.refl _) (a := r0) (by rw [e0]; exact qp2) qp2' (argsL := []) (rest := []) (lenOf pd_2 rfl) rfl (by show 2 * 0 + _ ≤ _; exact Nat.le_of_eq rfl) (hb hby d28_1) (fun _ _ => ⟨rfl, e0, (by decide : 0 + 0 ≤ _), (by decide : 0 + 0 ≤ _)⟩)
  dsimp only [Pt.U, Pt.locs, Pt.cells, Pt.slots] at X2 l2 y2 z2 st2 hQ2
  subst l2 y2 z2
  obtain ⟨rfl, Nq2, K2, Ft_, Fa_⟩ := hQ2
  have N2 := Fr.app N0 Nq2
  have Od_2 := Od.keep K2 (allS g_r0 (all0))
  have Ec_2 := Ec.keep K2
  have Fv_2 := Fv.keep K2 (ninS ne1 nin0)
  have Fc_2 := Fc.keep K2 (ninS ne1 nin0)
  have Et_2 := Et.keep K2
  have Vy_2 := Vy.keep K2 (ninS ne2 nin0)
  have Z_2 : n0 ≤ T2.heap.size := Nat.le_trans Z0 K2.1
  have Kp_2 : Keep h0 T2.heap [r0] := Kp.trans K2 (allS (Or.inl (List.mem_of_getElem? (i := 0) rfl)) (all0))
  have st3 : own_S p e below T2 (mkF m 5 #[.val (.ref r0), .val (.int p1)] [(.ref r0)]) (mkF m 4 #[.val (.ref r0), .val (.int p1)] []) := by
    intro target kt
    refine XS.aloadN X2.here hx rfl (hb hby d28_4) rfl rfl ?_
    exact kt
  obtain ⟨T4, X4, e4, st4⟩ := getF X2 hx hZ hown (host := "") (Or.inl (own_w hw 49 rfl)) Via.refl rfl Fa_ (g := (mkF m 5 #[.val (.ref r0), .val (.int p1)] [(.ref r0)])) rfl rfl (hb hby d28_5)
  have st5 : own_S p e below T4 (mkF m 9 #[.val (.ref r0), .val (.int p1)] [(.ref r0), (.int k)]) (mkF m 8 #[.val (.ref r0), .val (.int p1)] [(.int k)]) := by
    intro target kt
    refine XS.aloadN X4.here hx rfl (hb hby d28_8) rfl rfl ?_
    exact kt
  obtain ⟨T6, X6, e6, st6⟩ := getF X4 hx hZ hown (host := "") (Or.inl (own_w hw 32 rfl)) Via.refl e4 Ft_ (g := (mkF m 9 #[.val (.ref r0), .val (.int p1)] [(.ref r0), (.int k)])) rfl rfl (hb hby d28_9)
  obtain ⟨cq7, kq7, qv7a, qv7b, qv7c⟩ := isOf hZ e6 Et_2
  obtain ⟨_, _, ⟨T7, L7, k7, n7⟩, -, X7, ⟨Lc7, hQ7, l7, y7, z7⟩, st7⟩ := X6.virtualBack hx (y := (⟨"java/lang/String", "length", "()I"⟩ : MethodName)) (z := (⟨"java/lang/String", "length", "()I"⟩ : MethodName)) hown (mvT hZ (own_w hw 140 rfl)) (mvT hZ (own_w hw 63 rfl)) (notFace_of_selects (args := #[]) (mvT hZ (own_w hw 65 rfl))) (mvT hZ (own_w hw 65 rfl)) (mvT hZ (own_w hw 64 rfl)) (by decide) (backOf (W := 1) (rmLn l Z a0 hw [] t cs fm y ky cd nb vs n c0 c1 c2 c3 T2.heap n0 Z_2 SB Od_2 Fv_2 Fc_2 Et_2 Vy_2 hcd hN hch) hZ (own_w hw 66 rfl) (own_w hw 7 rfl) (by decide) (by decide)) qv7a qv7c (g := (mkF m 12 #[.val (.ref r0), .val (.int p1)] [(.ref t), (.int k)])) rfl (by rw [hml]; rfl) (Steps.refl _) (argsL := []) (rest := [(.int k)]) (lenOf pd_7 rfl) rfl (by show 2 * 0 + _ ≤ _; exact Nat.le_of_eq rfl) (hb hby d28_12) (fun _ _ => ⟨rfl, e6, (by decide : 0 + 0 ≤ _), (by decide : 0 + 0 ≤ _)⟩)
  dsimp only [Pt.U, Pt.locs, Pt.cells, Pt.slots] at X7 l7 y7 z7 st7 hQ7
  subst l7 y7 z7
  obtain ⟨rfl, Nq7, e7⟩ := hQ7
  have N7 := Fr.app N2 Nq7
  have st8 : own_S p e below T7 (mkF m 19 #[.val (.ref r0), .val (.int p1)] [(.ref r0)]) (mkF m 15 #[.val (.ref r0), .val (.int p1)] [(.int n), (.int k)]) := by
    intro target kt
    refine XS.icmpNo X7.here hx rfl (hb hby d28_15) rfl (feq (own_ltne hk)).1 ?_
    refine XS.aloadN X7.here hx rfl (hb hby d28_18) rfl rfl ?_
    exact kt
  obtain ⟨T9, X9, e9, st9⟩ := getF X7 hx hZ hown (host := "") (Or.inl (own_w hw 32 rfl)) Via.refl e7 Ft_ (g := (mkF m 19 #[.val (.ref r0), .val (.int p1)] [(.ref r0)])) rfl rfl (hb hby d28_19)
  have st10 : own_S p e below T9 (mkF m 23 #[.val (.ref r0), .val (.int p1)] [(.ref r0), (.ref t)]) (mkF m 22 #[.val (.ref r0), .val (.int p1)] [(.ref t)]) := by
    intro target kt
    refine XS.aloadN X9.here hx rfl (hb hby d28_22) rfl rfl ?_
    exact kt
  obtain ⟨T11, X11, e11, st11⟩ := getF X9 hx hZ hown (host := "") (Or.inl (own_w hw 49 rfl)) Via.refl e9 Fa_ (g := (mkF m 23 #[.val (.ref r0), .val (.int p1)] [(.ref r0), (.ref t)])) rfl rfl (hb hby d28_23)
  obtain ⟨cq12, kq12, qv12a, qv12b, qv12c⟩ := isOf hZ e11 Et_2
  obtain ⟨_, _, ⟨T12, L12, k12, n12⟩, -, X12, ⟨Lc12, hQ12, l12, y12, z12⟩, st12⟩ := X11.virtualBack hx (y := (⟨"java/lang/String", "charAt", "(I)C"⟩ : MethodName)) (z := (⟨"java/lang/String", "charAt", "(I)C"⟩ : MethodName)) hown (mvT hZ (own_w hw 141 rfl)) (mvT hZ (own_w hw 142 rfl)) (notFace_of_selects (args := #[]) (mvT hZ (own_w hw 144 rfl))) (mvT hZ (own_w hw 144 rfl)) (mvT hZ (own_w hw 143 rfl)) (by decide) (backOf (W := 0) (rmCh l Z a0 hw [] t k cs fm y ky cd nb vs n c0 c1 c2 c3 T2.heap n0 Z_2 SB Od_2 Fv_2 Fc_2 Et_2 Vy_2 hcd hN hch nk hk) hZ (own_w hw 145 rfl) (own_w hw 7 rfl) (by decide) (by decide)) qv12a qv12c (g := (mkF m 26 #[.val (.ref r0), .val (.int p1)] [(.int k), (.ref t)])) rfl (by rw [hml]; rfl) (Steps.refl _) (argsL := [(.int k)]) (rest := []) (lenOf pd_11 rfl) rfl (by show 2 * 0 + _ ≤ _; exact Nat.le_of_eq rfl) (hb hby d28_26) (fun _ _ => ⟨rfl, e11, (by decide : 0 + 0 ≤ _), (by decide : 0 + 0 ≤ _)⟩)
  dsimp only [Pt.U, Pt.locs, Pt.cells, Pt.slots] at X12 l12 y12 z12 st12 hQ12
  subst l12 y12 z12
  obtain ⟨rfl, Nq12, e12⟩ := hQ12
  have N12 := Fr.app N7 Nq12
  have st13 : own_S p e below T12 (mkF m 44 #[.val (.ref r0), .val (.int p1)] [(.ref r0), (.ref r0)]) (mkF m 29 #[.val (.ref r0), .val (.int p1)] [(.int (own_at k c0 c1 c2 c3))]) := by
    intro target kt
    refine XS.iloadN X12.here hx rfl (hb hby d28_29) rfl ?_
    refine XS.icmpYes X12.here hx rfl (pc0 := 30) (pc' := 42) rfl (hb hby d28_30) rfl (teq hp).1 (by decide) (by decide) ?_
    refine XS.aloadN X12.here hx rfl (hb hby d28_42) rfl rfl ?_
    refine XS.dup X12.here hx rfl (hb hby d28_43) rfl rfl ?_
    exact kt
  obtain ⟨T14, X14, e14, st14⟩ := getF X12 hx hZ hown (host := "") (Or.inl (own_w hw 49 rfl)) Via.refl e12 Fa_ (g := (mkF m 44 #[.val (.ref r0), .val (.int p1)] [(.ref r0), (.ref r0)])) rfl rfl (hb hby d28_44)
  have st15 : own_S p e below T14 (mkF m 49 #[.val (.ref r0), .val (.int p1)] [(.int (k + (1 : Int32))), (.ref r0)]) (mkF m 47 #[.val (.ref r0), .val (.int p1)] [(.int k), (.ref r0)]) := by
    intro target kt
    refine XS.iconst X14.here hx rfl (hb hby d28_47) ?_
    refine XS.iadd X14.here hx rfl (hb hby d28_48) rfl ?_
    exact kt
  obtain ⟨T16, h16, X16, e16, W16, st16⟩ := putF X14 hx hZ hown (host := "") (Or.inl (own_w hw 49 rfl)) Via.refl e14 Fa_ Ec_2 (Or.inl (own_w hw 50 rfl)) (own_w hw 3 rfl) (ty := .int) (by decide) rfl rfl (g := (mkF m 49 #[.val (.ref r0), .val (.int p1)] [(.int (k + (1 : Int32))), (.ref r0)])) rfl rfl (hb hby d28_49)
  have F_at_r0_16 : Fld Z h16 r0 "com/example/libbisim/libbisim/TextFormat$Cursor" "at" "I" (.int (k + (1 : Int32))) := Fa_.same W16
  have Od_16 := Od_2.wr W16 g_r0
  have Ec_16 := Ec_2.wr W16
  have Fv_16 := Fv_2.other W16 (Or.inl ne1)
  have Fc_16 := Fc_2.other W16 (Or.inl ne1)
  have Et_16 := Et_2.wr W16
  have Vy_16 := Vy_2.other W16 ne2
  have Ft__16 := Ft_.other W16 (Or.inr (slot_ne (Or.inr (own_w hw 33 rfl)) (Or.inl (own_w hw 50 rfl)) (by decide) (t := (.object "java/lang/String")) (t' := .int) (by decide) (by decide)))
  have Z_16 : n0 ≤ h16.size := Nat.le_trans Z_2 (Keep.of_wr W16).1
  have Kp_16 : Keep h0 h16 [r0] := Kp_2.wr W16 (Or.inl (List.mem_of_getElem? (i := 0) rfl))
  have N16 := Fr.snoc X16 N12 g_r0
  obtain ⟨fs, hr, hrun, hended, hW, hsame⟩ := X16.leave (v := none) (fun _ => rfl)
  refine ⟨_, _, pre0 _ (st1 _ (st2.trans (st3 _ (st4 _ (st5 _ (st6 _ (st7.trans (st8 _ (st9 _ (st10 _ (st11 _ (st12.trans (st13 _ (st14 _ (st15 _ (st16 _ ?_)))))))))))))))), hrun, hended, _, _, rfl, ?_, ⟨_, rfl⟩, hW, hsame.mono (by decide) (by decide)⟩
  · show Steps p.tables e below (T16.setTop (mkF m 52 #[.val (.ref r0), .val (.int p1)] [])) _
    exact X16.returnOut hx Bd.returns (hb hby d28_52) hr
  · show Q_rmEx Z r0 p1 cs fm t y ky cd nb vs n c0 c1 c2 c3 a k h0 n0 _ T16.heap _
    rw [e16]
    exact ⟨rfl, N16, Kp_16, Ft__16, F_at_r0_16⟩
theorem d44_0 : decode prog_69_method_5_code 0 = .ok (.aload_n 0, 1) := by decide +kernel
theorem d44_1 : decode prog_69_method_5_code 1 = .ok (.invokevirtual 28, 3) := by decide +kernel
theorem d44_4 : decode prog_69_method_5_code 4 = .ok (.aload_n 0, 1) := by decide +kernel
theorem d44_5 : decode prog_69_method_5_code 5 = .ok (.getfield 31, 3) := by decide +kernel
theorem d44_8 : decode prog_69_method_5_code 8 = .ok (.aload_n 0, 1) := by decide +kernel
theorem d44_9 : decode prog_69_method_5_code 9 = .ok (.getfield 7, 3) := by decide +kernel
theorem d44_12 : decode prog_69_method_5_code 12 = .ok (.invokevirtual 35, 3) := by decide +kernel
theorem d44_15 : decode prog_69_method_5_code 15 = .ok (.if_icmp .eq 12, 3) := by decide +kernel
theorem d44_27 : decode prog_69_method_5_code 27 = .ok (.return_, 1) := by decide +kernel
theorem ef_rmEe (m : MethodId) (x0 : Addr) : entryFrame m #[(.ref x0)] 1 = mkF m 0 #[.val (.ref x0)] [] := by first | (simp [entryFrame, mkF, argsToLocals, Value.category]; done) | rfl
def Q_rmEe (Z : State) (r0 : Addr) (cs : Int32) (fm : Value) (t : Addr) (y : Addr) (ky : ClassId) (cd : Int32) (nb : Int32) (vs : List Value) (n : Int32) (c0 : Int32) (c1 : Int32) (c2 : Int32) (c3 : Int32) (a : Int32) (k : Int32) (h0 : Heap) (n0 : Nat) (v : Option Value) (h : Heap) (L : List Loc) : Prop := v = none ∧ Fr n0 L ∧ Keep h0 h [r0] ∧ Fld Z h r0 "com/example/libbisim/libbisim/TextFormat$Cursor" "text" "Ljava/lang/String;" (.ref t) ∧ Fld Z h r0 "com/example/libbisim/libbisim/TextFormat$Cursor" "at" "I" (.int k)
set_option maxRecDepth 65536 in
set_option maxHeartbeats 40000000 in
theorem rmEe (l : Launch) (Z : State) (a0 : Array Value) (hw : ∀ d ∈ tables_1, d.before a0 Z = true) (ws : List Jvm.Cond) (r0 : Addr) (cs : Int32) (fm : Value) (t : Addr) (y : Addr) (ky : ClassId) (cd : Int32) (nb : Int32) (vs : List Value) (n : Int32) (c0 : Int32) (c1 : Int32) (c2 : Int32) (c3 : Int32) (a : Int32) (k : Int32) (h0 : Heap) (n0 : Nat) (Z0 : n0 ≤ h0.size) (SB : own_St Z cs fm) (Od : Old Z n0 h0) (Ft : Fld Z h0 r0 "com/example/libbisim/libbisim/TextFormat$Cursor" "text" "Ljava/lang/String;" (.ref t)) (Fa : Fld Z h0 r0 "com/example/libbisim/libbisim/TextFormat$Cursor" "at" "I" (.int a)) (Ec : Exa Z h0 r0 "com/example/libbisim/libbisim/TextFormat$Cursor") (g_r0 : n0 ≤ r0) (Fv : Fld Z h0 t "java/lang/String" "value" "[B" (.ref y)) (Fc : Fld Z h0 t "java/lang/String" "coder" "B" (.int cd)) (Et : Exa Z h0 t "java/lang/String") (Vy : Arv Z h0 y ky .byte nb vs (.int (0 : Int32))) (hcd : own_cd cd nb vs n c0 c1 c2 c3) (hN : own_n n) (hch : own_chs c0 c1 c2 c3) (hi : own_n a) (hR : own_R n c0 c1 c2 c3 5 a k) (hk : k = n) :
    MetFree l (⟨"com/example/libbisim/libbisim/TextFormat$Cursor", "expectEnd", "()V"⟩ : MethodName) (head1 (Jvm.Cond.code (⟨"com/example/libbisim/libbisim/TextFormat$Cursor", "expectEnd", "()V"⟩ : MethodName) prog_69_method_5_code 1 none :: ws) ({ frames := 6, cells := 0, slots := 0, locals := 78 } : Room)) (fun a U => a = #[(.ref r0)] ∧ Z.Warmed39 U.vm ∧ U.heap = h0) (fun _ _ _ _ _ => True) (fun _ U o U' => ∃ v L, o = .returned v ∧ Q_rmEe Z r0 cs fm t y ky cd nb vs n c0 c1 c2 c3 a k h0 n0 v U'.heap L ∧ FrameEnd U o U' L ({ frames := 6, cells := 0, slots := 0, locals := 78 } : Room).cells ({ frames := 6, cells := 0, slots := 0, locals := 78 } : Room).slots) := by
  refine MetFree.of_bodySF (plainFor_of_name pn_5) hisR ?_
  intro p e s m args below meth c s₁ Bd hml0 hP hK
  obtain ⟨rfl, hZ, hh⟩ := hP
  have hx := Bd.exec
  have hby := Bd.bytes
  have hml : c.maxLocals = 1 := hml0
  have hown : s.vm.findClass "com/example/libbisim/libbisim/TextFormat$Cursor" = some m.cls := findClass_of_methodNamed Bd.named
  have hnm := (name_of_methodNamed Bd.named Bd.method).1
  have X0 : Stand p l e ({ frames := 6, cells := 0, slots := 0, locals := 78 } : Room) s m #[(.ref r0)] below meth c s₁ [] 0 0 := Stand.of_body Bd
  have e0 : s₁.heap = h0 := by rw [← hh, Bd.state]; rfl
  have N0 := Fr.nil n0
  have pre0 : ∀ t, Steps p.tables e below (s₁.setTop (mkF m 0 #[.val (.ref r0)] [])) t → Steps p.tables e below (s₁.setTop (entryFrame m #[(.ref r0)] 1)) t := fun t k => castTop (ef_rmEe m r0) k
  have ne1 : t ≠ r0 := Exa.ne Et Ec (by decide)
  have ne2 : y ≠ r0 := (Exa.neArv Ec Vy (own_w hw 3 rfl)).symm
  have Kp : Keep h0 h0 [r0] := Keep.refl _ _
  have st1 : own_S p e below s₁ (mkF m 1 #[.val (.ref r0)] [(.ref r0)]) (mkF m 0 #[.val (.ref r0)] []) := by
    intro target kt
    refine XS.aloadN X0.here hx rfl (hb hby d44_0) rfl rfl ?_
    exact kt
  obtain ⟨cq2, qp2, qp2'⟩ := Ec.cell
  obtain ⟨_, _, ⟨T2, L2, k2, n2⟩, -, X2, ⟨Lc2, hQ2, l2, y2, z2⟩, st2⟩ := X0.privateBack hx (y := (⟨"com/example/libbisim/libbisim/TextFormat$Cursor", "skipBlanks", "()V"⟩ : MethodName)) hown (mvT hZ (own_w hw 136 rfl)) (mvT hZ (own_w hw 137 rfl)) (mvT hZ (own_selp (y := (⟨"com/example/libbisim/libbisim/TextFormat$Cursor", "skipBlanks", "()V"⟩ : MethodName)) (by decide) (own_w hw 3 rfl) (own_w hw 138 rfl) (own_w hw 137 rfl))) (Cond.privateMethod_at (mvP hZ (own_w hw 138 rfl) (args := #[]))) (mvT hZ (own_w hw 139 rfl)) (by decide) (backOf (W := 0) (rmSb l Z a0 hw [] r0 cs fm t y ky cd nb vs n c0 c1 c2 c3 a k h0 n0 Z0 SB Od Ft Fa Ec g_r0 Fv Fc Et Vy hcd hN hch hi hR) hZ (own_w hw 139 rfl) (own_w hw 4 rfl) (by decide) (by decide)) (g := (mkF m 1 #[.val (.ref r0)] [(.ref r0)])) rfl (by rw [hml]; rfl) (Steps.refl _) (a := r0) (by rw [e0]; exact qp2) qp2' (argsL := []) (rest := []) (lenOf pd_2 rfl) rfl (by show 2 * 0 + _ ≤ _; exact Nat.le_of_eq rfl) (hb hby d44_1) (fun _ _ => ⟨rfl, e0, (by decide : 0 + 0 ≤ _), (by decide : 0 + 0 ≤ _)⟩)
  dsimp only [Pt.U, Pt.locs, Pt.cells, Pt.slots] at X2 l2 y2 z2 st2 hQ2
  subst l2 y2 z2
  obtain ⟨rfl, Nq2, K2, Ft_, Fa_⟩ := hQ2
  have N2 := Fr.app N0 Nq2
  have Od_2 := Od.keep K2 (allS g_r0 (all0))
  have Ec_2 := Ec.keep K2
  have Fv_2 := Fv.keep K2 (ninS ne1 nin0)
  have Fc_2 := Fc.keep K2 (ninS ne1 nin0)
  have Et_2 := Et.keep K2
  have Vy_2 := Vy.keep K2 (ninS ne2 nin0)
  have Z_2 : n0 ≤ T2.heap.size := Nat.le_trans Z0 K2.1
  have Kp_2 : Keep h0 T2.heap [r0] := Kp.trans K2 (allS (Or.inl (List.mem_of_getElem? (i := 0) rfl)) (all0))
  have st3 : own_S p e below T2 (mkF m 5 #[.val (.ref r0)] [(.ref r0)]) (mkF m 4 #[.val (.ref r0)] []) := by
    intro target kt
    refine XS.aloadN X2.here hx rfl (hb hby d44_4) rfl rfl ?_
    exact kt
  obtain ⟨T4, X4, e4, st4⟩ := getF X2 hx hZ hown (host := "") (Or.inl (own_w hw 49 rfl)) Via.refl rfl Fa_ (g := (mkF m 5 #[.val (.ref r0)] [(.ref r0)])) rfl rfl (hb hby d44_5)
  have st5 : own_S p e below T4 (mkF m 9 #[.val (.ref r0)] [(.ref r0), (.int k)]) (mkF m 8 #[.val (.ref r0)] [(.int k)]) := by
    intro target kt
    refine XS.aloadN X4.here hx rfl (hb hby d44_8) rfl rfl ?_
    exact kt
  obtain ⟨T6, X6, e6, st6⟩ := getF X4 hx hZ hown (host := "") (Or.inl (own_w hw 32 rfl)) Via.refl e4 Ft_ (g := (mkF m 9 #[.val (.ref r0)] [(.ref r0), (.int k)])) rfl rfl (hb hby d44_9)
  obtain ⟨cq7, kq7, qv7a, qv7b, qv7c⟩ := isOf hZ e6 Et_2
  obtain ⟨_, _, ⟨T7, L7, k7, n7⟩, -, X7, ⟨Lc7, hQ7, l7, y7, z7⟩, st7⟩ := X6.virtualBack hx (y := (⟨"java/lang/String", "length", "()I"⟩ : MethodName)) (z := (⟨"java/lang/String", "length", "()I"⟩ : MethodName)) hown (mvT hZ (own_w hw 140 rfl)) (mvT hZ (own_w hw 63 rfl)) (notFace_of_selects (args := #[]) (mvT hZ (own_w hw 65 rfl))) (mvT hZ (own_w hw 65 rfl)) (mvT hZ (own_w hw 64 rfl)) (by decide) (backOf (W := 1) (rmLn l Z a0 hw [] t cs fm y ky cd nb vs n c0 c1 c2 c3 T2.heap n0 Z_2 SB Od_2 Fv_2 Fc_2 Et_2 Vy_2 hcd hN hch) hZ (own_w hw 66 rfl) (own_w hw 7 rfl) (by decide) (by decide)) qv7a qv7c (g := (mkF m 12 #[.val (.ref r0)] [(.ref t), (.int k)])) rfl (by rw [hml]; rfl) (Steps.refl _) (argsL := []) (rest := [(.int k)]) (lenOf pd_7 rfl) rfl (by show 2 * 0 + _ ≤ _; exact Nat.le_of_eq rfl) (hb hby d44_12) (fun _ _ => ⟨rfl, e6, (by decide : 0 + 0 ≤ _), (by decide : 0 + 0 ≤ _)⟩)
  dsimp only [Pt.U, Pt.locs, Pt.cells, Pt.slots] at X7 l7 y7 z7 st7 hQ7
  subst l7 y7 z7
  obtain ⟨rfl, Nq7, e7⟩ := hQ7
  have N7 := Fr.app N2 Nq7
  obtain ⟨fs, hr, hrun, hended, hW, hsame⟩ := X7.leave (v := none) (fun _ => rfl)
  refine ⟨_, _, pre0 _ (st1 _ (st2.trans (st3 _ (st4 _ (st5 _ (st6 _ (st7.trans ?_))))))), hrun, hended, _, _, rfl, ?_, ⟨_, rfl⟩, hW, hsame.mono (by decide) (by decide)⟩
  · refine XS.icmpYes X7.here hx rfl (pc0 := 15) (pc' := 27) rfl (hb hby d44_15) rfl (teq hk).1 (by decide) (by decide) ?_
    show Steps p.tables e below (T7.setTop (mkF m 27 #[.val (.ref r0)] [])) _
    exact X7.returnOut hx Bd.returns (hb hby d44_27) hr
  · show Q_rmEe Z r0 cs fm t y ky cd nb vs n c0 c1 c2 c3 a k h0 n0 _ T7.heap _
    rw [e7]
    exact ⟨rfl, N7, Kp_2, Ft_, Fa_⟩
theorem d6_0 : decode prog_69_method_11_code 0 = .ok (.aload_n 0, 1) := by decide +kernel
theorem d6_1 : decode prog_69_method_11_code 1 = .ok (.getfield 7, 3) := by decide +kernel
theorem d6_4 : decode prog_69_method_11_code 4 = .ok (.bipush 44, 2) := by decide +kernel
theorem d6_6 : decode prog_69_method_11_code 6 = .ok (.aload_n 0, 1) := by decide +kernel
theorem d6_7 : decode prog_69_method_11_code 7 = .ok (.getfield 31, 3) := by decide +kernel
theorem d6_10 : decode prog_69_method_11_code 10 = .ok (.invokevirtual 97, 3) := by decide +kernel
theorem d6_13 : decode prog_69_method_11_code 13 = .ok (.ifCond .lt 7, 3) := by decide +kernel
theorem d6_16 : decode prog_69_method_11_code 16 = .ok (.iconst 1, 1) := by decide +kernel
theorem d6_17 : decode prog_69_method_11_code 17 = .ok (.goto 4, 3) := by decide +kernel
theorem d6_20 : decode prog_69_method_11_code 20 = .ok (.iconst 0, 1) := by decide +kernel
theorem d6_21 : decode prog_69_method_11_code 21 = .ok (.ireturn, 1) := by decide +kernel
theorem ef_rmCf (m : MethodId) (x0 : Addr) : entryFrame m #[(.ref x0)] 1 = mkF m 0 #[.val (.ref x0)] [] := by first | (simp [entryFrame, mkF, argsToLocals, Value.category]; done) | rfl
def Q_rmCf (Z : State) (r0 : Addr) (cs : Int32) (fm : Value) (t : Addr) (y : Addr) (ky : ClassId) (cd : Int32) (nb : Int32) (vs : List Value) (n : Int32) (c0 : Int32) (c1 : Int32) (c2 : Int32) (c3 : Int32) (a : Int32) (h0 : Heap) (n0 : Nat) (v : Option Value) (h : Heap) (L : List Loc) : Prop := ∃ z : Int32, ((z = 0 ∧ ¬ own_cf n c0 c1 c2 c3 5 a) ∨ (z = 1 ∧ own_cf n c0 c1 c2 c3 5 a)) ∧ v = some (.int z) ∧ Fr n0 L ∧ h = h0
set_option maxRecDepth 65536 in
set_option maxHeartbeats 40000000 in
theorem rmCf (l : Launch) (Z : State) (a0 : Array Value) (hw : ∀ d ∈ tables_1, d.before a0 Z = true) (ws : List Jvm.Cond) (r0 : Addr) (cs : Int32) (fm : Value) (t : Addr) (y : Addr) (ky : ClassId) (cd : Int32) (nb : Int32) (vs : List Value) (n : Int32) (c0 : Int32) (c1 : Int32) (c2 : Int32) (c3 : Int32) (a : Int32) (h0 : Heap) (n0 : Nat) (Z0 : n0 ≤ h0.size) (SB : own_St Z cs fm) (Od : Old Z n0 h0) (Ft : Fld Z h0 r0 "com/example/libbisim/libbisim/TextFormat$Cursor" "text" "Ljava/lang/String;" (.ref t)) (Fa : Fld Z h0 r0 "com/example/libbisim/libbisim/TextFormat$Cursor" "at" "I" (.int a)) (Ec : Exa Z h0 r0 "com/example/libbisim/libbisim/TextFormat$Cursor") (Fv : Fld Z h0 t "java/lang/String" "value" "[B" (.ref y)) (Fc : Fld Z h0 t "java/lang/String" "coder" "B" (.int cd)) (Et : Exa Z h0 t "java/lang/String") (Vy : Arv Z h0 y ky .byte nb vs (.int (0 : Int32))) (hcd : own_cd cd nb vs n c0 c1 c2 c3) (hN : own_n n) (hch : own_chs c0 c1 c2 c3) (hi : own_n a) :
    MetFree l (⟨"com/example/libbisim/libbisim/TextFormat$Cursor", "commaFollows", "()Z"⟩ : MethodName) (head1 (Jvm.Cond.code (⟨"com/example/libbisim/libbisim/TextFormat$Cursor", "commaFollows", "()Z"⟩ : MethodName) prog_69_method_11_code 1 (some .boolean) :: ws) ({ frames := 6, cells := 0, slots := 0, locals := 87 } : Room)) (fun a U => a = #[(.ref r0)] ∧ Z.Warmed39 U.vm ∧ U.heap = h0) (fun _ _ _ _ _ => True) (fun _ U o U' => ∃ v L, o = .returned v ∧ Q_rmCf Z r0 cs fm t y ky cd nb vs n c0 c1 c2 c3 a h0 n0 v U'.heap L ∧ FrameEnd U o U' L ({ frames := 6, cells := 0, slots := 0, locals := 87 } : Room).cells ({ frames := 6, cells := 0, slots := 0, locals := 87 } : Room).slots) := by
  refine MetFree.of_bodySF (plainFor_of_name pn_5) hisR ?_
  intro p e s m args below meth c s₁ Bd hml0 hP hK
  obtain ⟨rfl, hZ, hh⟩ := hP
  have hx := Bd.exec
  have hby := Bd.bytes
  have hml : c.maxLocals = 1 := hml0
  have hown : s.vm.findClass "com/example/libbisim/libbisim/TextFormat$Cursor" = some m.cls := findClass_of_methodNamed Bd.named
  have hnm := (name_of_methodNamed Bd.named Bd.method).1
  have X0 : Stand p l e ({ frames := 6, cells := 0, slots := 0, locals := 87 } : Room) s m #[(.ref r0)] below meth c s₁ [] 0 0 := Stand.of_body Bd
  have e0 : s₁.heap = h0 := by rw [← hh, Bd.state]; rfl
  have N0 := Fr.nil n0
  have pre0 : ∀ t, Steps p.tables e below (s₁.setTop (mkF m 0 #[.val (.ref r0)] [])) t → Steps p.tables e below (s₁.setTop (entryFrame m #[(.ref r0)] 1)) t := fun t k => castTop (ef_rmCf m r0) k
  have st1 : own_S p e below s₁ (mkF m 1 #[.val (.ref r0)] [(.ref r0)]) (mkF m 0 #[.val (.ref r0)] []) := by
    intro target kt
    refine XS.aloadN X0.here hx rfl (hb hby d6_0) rfl rfl ?_
    exact kt
  obtain ⟨T2, X2, e2, st2⟩ := getF X0 hx hZ hown (host := "") (Or.inl (own_w hw 32 rfl)) Via.refl e0 Ft (g := (mkF m 1 #[.val (.ref r0)] [(.ref r0)])) rfl rfl (hb hby d6_1)
  have st3 : own_S p e below T2 (mkF m 7 #[.val (.ref r0)] [(.ref r0), (.int (44 : Int32)), (.ref t)]) (mkF m 4 #[.val (.ref r0)] [(.ref t)]) := by
    intro target kt
    refine XS.bipush X2.here hx rfl (hb hby d6_4) ?_
    refine XS.aloadN X2.here hx rfl (hb hby d6_6) rfl rfl ?_
    exact kt
  obtain ⟨T4, X4, e4, st4⟩ := getF X2 hx hZ hown (host := "") (Or.inl (own_w hw 49 rfl)) Via.refl e2 Fa (g := (mkF m 7 #[.val (.ref r0)] [(.ref r0), (.int (44 : Int32)), (.ref t)])) rfl rfl (hb hby d6_7)
  obtain ⟨cq5, kq5, qv5a, qv5b, qv5c⟩ := isOf hZ e4 Et
  obtain ⟨_, _, ⟨T5, L5, k5, n5⟩, -, X5, ⟨Lc5, hQ5, l5, y5, z5⟩, st5⟩ := X4.virtualBack hx (y := (⟨"java/lang/String", "indexOf", "(II)I"⟩ : MethodName)) (z := (⟨"java/lang/String", "indexOf", "(II)I"⟩ : MethodName)) hown (mvT hZ (own_w hw 51 rfl)) (mvT hZ (own_w hw 52 rfl)) (notFace_of_selects (args := #[]) (mvT hZ (own_w hw 54 rfl))) (mvT hZ (own_w hw 54 rfl)) (mvT hZ (own_w hw 53 rfl)) (by decide) (backOf (W := 0) (rmIo l Z a0 hw [] t a cs fm y ky cd nb vs n c0 c1 c2 c3 h0 n0 Z0 SB Od Fv Fc Et Vy hcd hN hch hi) hZ (own_w hw 55 rfl) (own_w hw 7 rfl) (by decide) (by decide)) qv5a qv5c (g := (mkF m 10 #[.val (.ref r0)] [(.int a), (.int (44 : Int32)), (.ref t)])) rfl (by rw [hml]; rfl) (Steps.refl _) (argsL := [(.int (44 : Int32)), (.int a)]) (rest := []) (lenOf pd_6 rfl) rfl (by show 2 * 0 + _ ≤ _; exact Nat.le_of_eq rfl) (hb hby d6_10) (fun _ _ => ⟨rfl, e4, (by decide : 0 + 0 ≤ _), (by decide : 0 + 0 ≤ _)⟩)
  dsimp only [Pt.U, Pt.locs, Pt.cells, Pt.slots] at X5 l5 y5 z5 st5 hQ5
  subst l5 y5 z5
  obtain ⟨z5, hz5, rfl, Nq5, e5⟩ := hQ5
  have N5 := Fr.app N0 Nq5
  obtain ⟨fs, hr, hrun, hended, hW, hsame⟩ := X5.leave (v := some (.int (if z5 < (0 : Int32) then (0 : Int32) else (1 : Int32)))) (fun h => by rw [Bd.returns] at h; cases h)
  refine ⟨_, _, pre0 _ (st1 _ (st2 _ (st3 _ (st4 _ (st5.trans ?_))))), hrun, hended, _, _, rfl, ?_, ⟨_, rfl⟩, hW, hsame.mono (by decide) (by decide)⟩
  · by_cases hc13 : z5 < (0 : Int32)
    · rw [if_pos hc13] at hr
      refine XS.ifYes X5.here hx rfl (pc0 := 13) (pc' := 20) rfl (hb hby d6_13) rfl ((if0 _ _).trans (tlt hc13).1) (by decide) (by decide) ?_
      refine XS.iconst X5.here hx rfl (hb hby d6_20) ?_
      show Steps p.tables e below (T5.setTop (mkF m 21 #[.val (.ref r0)] [(.int (0 : Int32))])) _
      exact retN X5 hx (t := .boolean) Bd.returns (by simp) (hb hby d6_21) hr
    · rw [if_neg hc13] at hr
      refine XS.ifNo X5.here hx rfl (hb hby d6_13) rfl ((if0 _ _).trans (flt hc13).1) ?_
      refine XS.iconst X5.here hx rfl (hb hby d6_16) ?_
      refine XS.goto X5.here hx rfl (pc0 := 17) (pc' := 21) rfl (hb hby d6_17) (by decide) (by decide) ?_
      show Steps p.tables e below (T5.setTop (mkF m 21 #[.val (.ref r0)] [(.int (1 : Int32))])) _
      exact retN X5 hx (t := .boolean) Bd.returns (by simp) (hb hby d6_21) hr
  · show Q_rmCf Z r0 cs fm t y ky cd nb vs n c0 c1 c2 c3 a h0 n0 _ T5.heap _
    rw [e5]
    exact ⟨_, own_cfz hz5, rfl, N5, rfl⟩
theorem d25_0 : decode method_6_code 0 = .ok (.aload_n 1, 1) := by decide +kernel
theorem d25_1 : decode method_6_code 1 = .ok (.iload_n 2, 1) := by decide +kernel
theorem d25_2 : decode method_6_code 2 = .ok (.invokestatic 45, 3) := by decide +kernel
theorem d25_5 : decode method_6_code 5 = .ok (.istore_n 3, 1) := by decide +kernel
theorem d25_6 : decode method_6_code 6 = .ok (.iload_n 3, 1) := by decide +kernel
theorem d25_7 : decode method_6_code 7 = .ok (.aload_n 1, 1) := by decide +kernel
theorem d25_8 : decode method_6_code 8 = .ok (.arraylength, 1) := by decide +kernel
theorem d25_9 : decode method_6_code 9 = .ok (.if_icmp .ge 14, 3) := by decide +kernel
theorem d25_12 : decode method_6_code 12 = .ok (.aload_n 0, 1) := by decide +kernel
theorem d25_13 : decode method_6_code 13 = .ok (.aload_n 1, 1) := by decide +kernel
theorem d25_14 : decode method_6_code 14 = .ok (.iload_n 3, 1) := by decide +kernel
theorem d25_15 : decode method_6_code 15 = .ok (.caload, 1) := by decide +kernel
theorem d25_16 : decode method_6_code 16 = .ok (.invokevirtual 49, 3) := by decide +kernel
theorem d25_19 : decode method_6_code 19 = .ok (.iload_n 3, 1) := by decide +kernel
theorem d25_20 : decode method_6_code 20 = .ok (.iconst 1, 1) := by decide +kernel
theorem d25_21 : decode method_6_code 21 = .ok (.iadd, 1) := by decide +kernel
theorem d25_22 : decode method_6_code 22 = .ok (.ireturn, 1) := by decide +kernel
theorem d25_23 : decode method_6_code 23 = .ok (.aload_n 0, 1) := by decide +kernel
theorem d25_24 : decode method_6_code 24 = .ok (.invokevirtual 53, 3) := by decide +kernel
theorem d25_27 : decode method_6_code 27 = .ok (.iload_n 3, 1) := by decide +kernel
theorem d25_28 : decode method_6_code 28 = .ok (.ireturn, 1) := by decide +kernel
theorem ef_rmSt (m : MethodId) (x0 : Addr) (x1 : Addr) (x2 : Int32) : entryFrame m #[(.ref x0), (.ref x1), (.int x2)] 4 = mkF m 0 #[.val (.ref x0), .val (.ref x1), .val (.int x2), .unset] [] := by first | (simp [entryFrame, mkF, argsToLocals, Value.category]; done) | rfl
def Q_rmSt (Z : State) (r0 : Addr) (r1 : Addr) (p2 : Int32) (cs : Int32) (fm : Value) (t : Addr) (y : Addr) (ky : ClassId) (cd : Int32) (nb : Int32) (vs : List Value) (n : Int32) (c0 : Int32) (c1 : Int32) (c2 : Int32) (c3 : Int32) (kc : ClassId) (h0 : Heap) (n0 : Nat) (v : Option Value) (h : Heap) (L : List Loc) : Prop := ∃ p : Int32, (own_n p ∧ ¬ n < p) ∧ v = some (.int p) ∧ Fr n0 L ∧ Keep h0 h [r0] ∧ Fld Z h r0 "com/example/libbisim/libbisim/TextFormat$Cursor" "text" "Ljava/lang/String;" (.ref t) ∧ Fld Z h r0 "com/example/libbisim/libbisim/TextFormat$Cursor" "at" "I" (.int p)
set_option maxRecDepth 65536 in
set_option maxHeartbeats 40000000 in
theorem rmSt (l : Launch) (Z : State) (a0 : Array Value) (hw : ∀ d ∈ tables_1, d.before a0 Z = true) (ws : List Jvm.Cond) (r0 : Addr) (r1 : Addr) (p2 : Int32) (cs : Int32) (fm : Value) (t : Addr) (y : Addr) (ky : ClassId) (cd : Int32) (nb : Int32) (vs : List Value) (n : Int32) (c0 : Int32) (c1 : Int32) (c2 : Int32) (c3 : Int32) (kc : ClassId) (h0 : Heap) (n0 : Nat) (Z0 : n0 ≤ h0.size) (SB : own_St Z cs fm) (Od : Old Z n0 h0) (Ft : Fld Z h0 r0 "com/example/libbisim/libbisim/TextFormat$Cursor" "text" "Ljava/lang/String;" (.ref t)) (Fa : Fld Z h0 r0 "com/example/libbisim/libbisim/TextFormat$Cursor" "at" "I" (.int p2)) (Ec : Exa Z h0 r0 "com/example/libbisim/libbisim/TextFormat$Cursor") (g_r0 : n0 ≤ r0) (Fv : Fld Z h0 t "java/lang/String" "value" "[B" (.ref y)) (Fc : Fld Z h0 t "java/lang/String" "coder" "B" (.int cd)) (Et : Exa Z h0 t "java/lang/String") (Vy : Arv Z h0 y ky .byte nb vs (.int (0 : Int32))) (hcd : own_cd cd nb vs n c0 c1 c2 c3) (hN : own_n n) (hch : own_chs c0 c1 c2 c3) (hi : own_n p2) (hle : ¬ n < p2) (Vc : Arv Z h0 r1 kc .char n [(.int c0), (.int c1), (.int c2), (.int c3)] (.int (0 : Int32))) :
    MetFree l (⟨"com/example/libbisim/libbisim/CursorCommaFollowsPinLaw", "step", "(Lcom/example/libbisim/libbisim/TextFormat$Cursor;[CI)I"⟩ : MethodName) (head1 (Jvm.Cond.code (⟨"com/example/libbisim/libbisim/CursorCommaFollowsPinLaw", "step", "(Lcom/example/libbisim/libbisim/TextFormat$Cursor;[CI)I"⟩ : MethodName) method_6_code 4 (some .int) :: ws) ({ frames := 7, cells := 0, slots := 0, locals := 91 } : Room)) (fun a U => a = #[(.ref r0), (.ref r1), (.int p2)] ∧ Z.Warmed39 U.vm ∧ U.heap = h0) (fun _ _ _ _ _ => True) (fun _ U o U' => ∃ v L, o = .returned v ∧ Q_rmSt Z r0 r1 p2 cs fm t y ky cd nb vs n c0 c1 c2 c3 kc h0 n0 v U'.heap L ∧ FrameEnd U o U' L ({ frames := 7, cells := 0, slots := 0, locals := 91 } : Room).cells ({ frames := 7, cells := 0, slots := 0, locals := 91 } : Room).slots) := by
  refine MetFree.of_bodySF (plainFor_of_name pn_0) hisR ?_
  intro p e s m args below meth c s₁ Bd hml0 hP hK
  obtain ⟨rfl, hZ, hh⟩ := hP
  have hx := Bd.exec
  have hby := Bd.bytes
  have hml : c.maxLocals = 4 := hml0
  have hown : s.vm.findClass "com/example/libbisim/libbisim/CursorCommaFollowsPinLaw" = some m.cls := findClass_of_methodNamed Bd.named
  have hnm := (name_of_methodNamed Bd.named Bd.method).1
  have X0 : Stand p l e ({ frames := 7, cells := 0, slots := 0, locals := 91 } : Room) s m #[(.ref r0), (.ref r1), (.int p2)] below meth c s₁ [] 0 0 := Stand.of_body Bd
  have e0 : s₁.heap = h0 := by rw [← hh, Bd.state]; rfl
  have N0 := Fr.nil n0
  have pre0 : ∀ t, Steps p.tables e below (s₁.setTop (mkF m 0 #[.val (.ref r0), .val (.ref r1), .val (.int p2), .unset] [])) t → Steps p.tables e below (s₁.setTop (entryFrame m #[(.ref r0), (.ref r1), (.int p2)] 4)) t := fun t k => castTop (ef_rmSt m r0 r1 p2) k
  have ne1 : t ≠ r0 := Exa.ne Et Ec (by decide)
  have ne2 : y ≠ r0 := (Exa.neArv Ec Vy (own_w hw 3 rfl)).symm
  have Kp : Keep h0 h0 [r0] := Keep.refl _ _
  have ne3 : r1 ≠ r0 := (Exa.neArv Ec Vc (own_w hw 3 rfl)).symm
  have st1 : own_S p e below s₁ (mkF m 2 #[.val (.ref r0), .val (.ref r1), .val (.int p2), .unset] [(.int p2), (.ref r1)]) (mkF m 0 #[.val (.ref r0), .val (.ref r1), .val (.int p2), .unset] []) := by
    intro target kt
    refine XS.aloadN X0.here hx rfl (hb hby d25_0) rfl rfl ?_
    refine XS.iloadN X0.here hx rfl (hb hby d25_1) rfl ?_
    exact kt
  obtain ⟨_, _, ⟨T2, L2, k2, n2⟩, -, X2, ⟨Lc2, hQ2, l2, y2, z2⟩, st2⟩ := Jvm.LawKit.callS X0 hx (y := (⟨"com/example/libbisim/libbisim/CursorCommaFollowsPinLaw", "skip", "([CI)I"⟩ : MethodName)) hown (mvT hZ (own_w hw 125 rfl)) (mvT hZ (own_w hw 126 rfl)) (mvT hZ (own_w hw 42 rfl)) (mvT hZ (own_w hw 127 rfl)) (by decide) (backOf (W := 0) (rmSk l Z a0 hw [] r1 p2 kc n c0 c1 c2 c3 h0 n0 Z0 Vc hN hi) hZ (own_w hw 127 rfl) (own_w hw 42 rfl) (by decide) (by decide)) (g := (mkF m 2 #[.val (.ref r0), .val (.ref r1), .val (.int p2), .unset] [(.int p2), (.ref r1)])) rfl (by rw [hml]; rfl) (argsL := [(.ref r1), (.int p2)]) (rest := []) (lenOf pd_20 rfl) rfl (by show 2 * 0 + _ ≤ _; exact Nat.le_of_eq rfl) (hb hby d25_2) (fun _ _ => ⟨rfl, e0, (by decide : 0 + 0 ≤ _), (by decide : 0 + 0 ≤ _)⟩)
  dsimp only [Pt.U, Pt.locs, Pt.cells, Pt.slots] at X2 l2 y2 z2 st2 hQ2
  subst l2 y2 z2
  obtain ⟨q2, hq2, rfl, Nq2, e2⟩ := hQ2
  have N2 := Fr.app N0 Nq2
  have nq := own_Rn hN 5 p2 q2 hi hq2
  have lq := own_Rle hN 5 p2 q2 hi hle hq2
  have st3 : own_S p e below T2 (mkF m 8 #[.val (.ref r0), .val (.ref r1), .val (.int p2), .val (.int q2)] [(.ref r1), (.int q2)]) (mkF m 5 #[.val (.ref r0), .val (.ref r1), .val (.int p2), .unset] [(.int q2)]) := by
    intro target kt
    refine XS.istoreN X2.here hx rfl (hb hby d25_5) rfl (l' := #[.val (.ref r0), .val (.ref r1), .val (.int p2), .val (.int q2)]) rfl ?_
    refine XS.iloadN X2.here hx rfl (hb hby d25_6) rfl ?_
    refine XS.aloadN X2.here hx rfl (hb hby d25_7) rfl rfl ?_
    exact kt
  obtain ⟨cl4, Ar4, qc4, Sz4, Mn4, Hs4, Gs4⟩ := id Vc
  have st4 : own_S p e below T2 (mkF m 9 #[.val (.ref r0), .val (.ref r1), .val (.int p2), .val (.int q2)] [(.int n), (.int q2)]) (mkF m 8 #[.val (.ref r0), .val (.ref r1), .val (.int p2), .val (.int q2)] [(.ref r1), (.int q2)]) := fun target kt => X2.arraylength hx (cell := cl4) (by rw [e2]; exact Ar4.1) (State.isArrayOf_alike hZ.alike Ar4.2.1) (g := (mkF m 8 #[.val (.ref r0), .val (.ref r1), .val (.int p2), .val (.int q2)] [(.ref r1), (.int q2)])) rfl rfl (hb hby d25_8) _ (by rw [len_of Sz4 Mn4]; exact kt)
  by_cases hl : q2 < n
  · have st5 : own_S p e below T2 (mkF m 12 #[.val (.ref r0), .val (.ref r1), .val (.int p2), .val (.int q2)] []) (mkF m 9 #[.val (.ref r0), .val (.ref r1), .val (.int p2), .val (.int q2)] [(.int n), (.int q2)]) := by
      intro target kt
      refine XS.icmpNo X2.here hx rfl (hb hby d25_9) rfl (tlt hl).2.1 ?_
      exact kt
    have st6 : own_S p e below T2 (mkF m 15 #[.val (.ref r0), .val (.ref r1), .val (.int p2), .val (.int q2)] [(.int q2), (.ref r1), (.ref r0)]) (mkF m 12 #[.val (.ref r0), .val (.ref r1), .val (.int p2), .val (.int q2)] []) := by
      intro target kt
      refine XS.aloadN X2.here hx rfl (hb hby d25_12) rfl rfl ?_
      refine XS.aloadN X2.here hx rfl (hb hby d25_13) rfl rfl ?_
      refine XS.iloadN X2.here hx rfl (hb hby d25_14) rfl ?_
      exact kt
    obtain ⟨cl7, Ar7, qc7, Sz7, Mn7, Hs7, Gs7⟩ := id Vc
    have hin7 : ¬ (q2 < 0 ∨ cl7.slots.size ≤ (q2).toNatClampNeg) := inb_of Sz7 ⟨own_nn nq, hl⟩
    have hat7 : cl7.slots[(q2).toNatClampNeg]? = some (.int (own_at q2 c0 c1 c2 c3)) := Hs7.at hin7 (own_gat nq hN hl)
    have st7 : own_S p e below T2 (mkF m 16 #[.val (.ref r0), .val (.ref r1), .val (.int p2), .val (.int q2)] [(.int (own_at q2 c0 c1 c2 c3)), (.ref r0)]) (mkF m 15 #[.val (.ref r0), .val (.ref r1), .val (.int p2), .val (.int q2)] [(.int q2), (.ref r1), (.ref r0)]) := fun target kt => X2.caload hx (j := q2) (v := (.int (own_at q2 c0 c1 c2 c3))) (by rw [e2]; exact Ar7.1) (State.isArrayOf_alike hZ.alike Ar7.2.1) Ar7.2.2 hin7 hat7 (g := (mkF m 15 #[.val (.ref r0), .val (.ref r1), .val (.int p2), .val (.int q2)] [(.int q2), (.ref r1), (.ref r0)])) rfl rfl (hb hby d25_15) _ kt
    obtain ⟨cq8, kq8, qv8a, qv8b, qv8c⟩ := isOf hZ e2 Ec
    obtain ⟨_, _, ⟨T8, L8, k8, n8⟩, -, X8, ⟨Lc8, hQ8, l8, y8, z8⟩, st8⟩ := X2.virtualBack hx (y := (⟨"com/example/libbisim/libbisim/TextFormat$Cursor", "expect", "(C)V"⟩ : MethodName)) (z := (⟨"com/example/libbisim/libbisim/TextFormat$Cursor", "expect", "(C)V"⟩ : MethodName)) hown (mvT hZ (own_w hw 131 rfl)) (mvT hZ (own_w hw 132 rfl)) (notFace_of_selects (args := #[]) (mvT hZ (own_w hw 134 rfl))) (mvT hZ (own_w hw 134 rfl)) (mvT hZ (own_w hw 133 rfl)) (by decide) (backOf (W := 0) (rmEx l Z a0 hw [] r0 (own_at q2 c0 c1 c2 c3) cs fm t y ky cd nb vs n c0 c1 c2 c3 p2 q2 h0 n0 Z0 SB Od Ft Fa Ec g_r0 Fv Fc Et Vy hcd hN hch hi hq2 hl rfl) hZ (own_w hw 135 rfl) (own_w hw 4 rfl) (by decide) (by decide)) qv8a qv8c (g := (mkF m 16 #[.val (.ref r0), .val (.ref r1), .val (.int p2), .val (.int q2)] [(.int (own_at q2 c0 c1 c2 c3)), (.ref r0)])) rfl (by rw [hml]; rfl) (Steps.refl _) (argsL := [(.int (own_at q2 c0 c1 c2 c3))]) (rest := []) (lenOf pd_22 rfl) rfl (by show 2 * 0 + _ ≤ _; exact Nat.le_of_eq rfl) (hb hby d25_16) (fun _ _ => ⟨rfl, e2, (by decide : 0 + 0 ≤ _), (by decide : 0 + 0 ≤ _)⟩)
    dsimp only [Pt.U, Pt.locs, Pt.cells, Pt.slots] at X8 l8 y8 z8 st8 hQ8
    subst l8 y8 z8
    obtain ⟨rfl, Nq8, K8, Ft_, Fa_⟩ := hQ8
    have N8 := Fr.app N2 Nq8
    have Od_8 := Od.keep K8 (allS g_r0 (all0))
    have Ec_8 := Ec.keep K8
    have Fv_8 := Fv.keep K8 (ninS ne1 nin0)
    have Fc_8 := Fc.keep K8 (ninS ne1 nin0)
    have Et_8 := Et.keep K8
    have Vy_8 := Vy.keep K8 (ninS ne2 nin0)
    have Vc_8 := Vc.keep K8 (ninS ne3 nin0)
    have Z_8 : n0 ≤ T8.heap.size := Nat.le_trans Z0 K8.1
    have Kp_8 : Keep h0 T8.heap [r0] := Kp.trans K8 (allS (Or.inl (List.mem_of_getElem? (i := 0) rfl)) (all0))
    obtain ⟨fs, hr, hrun, hended, hW, hsame⟩ := X8.leave (v := some (.int (q2 + (1 : Int32)))) (fun h => by rw [Bd.returns] at h; cases h)
    refine ⟨_, _, pre0 _ (st1 _ (st2 _ (st3 _ (st4 _ (st5 _ (st6 _ (st7 _ (st8.trans ?_)))))))), hrun, hended, _, _, rfl, ?_, ⟨_, rfl⟩, hW, hsame.mono (by decide) (by decide)⟩
    · refine XS.iloadN X8.here hx rfl (hb hby d25_19) rfl ?_
      refine XS.iconst X8.here hx rfl (hb hby d25_20) ?_
      refine XS.iadd X8.here hx rfl (hb hby d25_21) rfl ?_
      show Steps p.tables e below (T8.setTop (mkF m 22 #[.val (.ref r0), .val (.ref r1), .val (.int p2), .val (.int q2)] [(.int (q2 + (1 : Int32)))])) _
      exact retI X8 hx Bd.returns (hb hby d25_22) hr
    · show Q_rmSt Z r0 r1 p2 cs fm t y ky cd nb vs n c0 c1 c2 c3 kc h0 n0 _ T8.heap _
      exact ⟨_, ⟨own_nx nq hN hl, own_lt1 nq hN hl⟩, rfl, N8, Kp_8, Ft_, Fa_⟩
  · have st9 : own_S p e below T2 (mkF m 23 #[.val (.ref r0), .val (.ref r1), .val (.int p2), .val (.int q2)] []) (mkF m 9 #[.val (.ref r0), .val (.ref r1), .val (.int p2), .val (.int q2)] [(.int n), (.int q2)]) := by
      intro target kt
      refine XS.icmpYes X2.here hx rfl (pc0 := 9) (pc' := 23) rfl (hb hby d25_9) rfl (flt hl).2.1 (by decide) (by decide) ?_
      exact kt
    have st10 : own_S p e below T2 (mkF m 24 #[.val (.ref r0), .val (.ref r1), .val (.int p2), .val (.int q2)] [(.ref r0)]) (mkF m 23 #[.val (.ref r0), .val (.ref r1), .val (.int p2), .val (.int q2)] []) := by
      intro target kt
      refine XS.aloadN X2.here hx rfl (hb hby d25_23) rfl rfl ?_
      exact kt
    obtain ⟨cq11, kq11, qv11a, qv11b, qv11c⟩ := isOf hZ e2 Ec
    obtain ⟨_, _, ⟨T11, L11, k11, n11⟩, -, X11, ⟨Lc11, hQ11, l11, y11, z11⟩, st11⟩ := X2.virtualBack hx (y := (⟨"com/example/libbisim/libbisim/TextFormat$Cursor", "expectEnd", "()V"⟩ : MethodName)) (z := (⟨"com/example/libbisim/libbisim/TextFormat$Cursor", "expectEnd", "()V"⟩ : MethodName)) hown (mvT hZ (own_w hw 192 rfl)) (mvT hZ (own_w hw 193 rfl)) (notFace_of_selects (args := #[]) (mvT hZ (own_w hw 195 rfl))) (mvT hZ (own_w hw 195 rfl)) (mvT hZ (own_w hw 194 rfl)) (by decide) (backOf (W := 0) (rmEe l Z a0 hw [] r0 cs fm t y ky cd nb vs n c0 c1 c2 c3 p2 q2 h0 n0 Z0 SB Od Ft Fa Ec g_r0 Fv Fc Et Vy hcd hN hch hi hq2 (own_anti hl lq)) hZ (own_w hw 196 rfl) (own_w hw 4 rfl) (by decide) (by decide)) qv11a qv11c (g := (mkF m 24 #[.val (.ref r0), .val (.ref r1), .val (.int p2), .val (.int q2)] [(.ref r0)])) rfl (by rw [hml]; rfl) (Steps.refl _) (argsL := []) (rest := []) (lenOf pd_2 rfl) rfl (by show 2 * 0 + _ ≤ _; exact Nat.le_of_eq rfl) (hb hby d25_24) (fun _ _ => ⟨rfl, e2, (by decide : 0 + 0 ≤ _), (by decide : 0 + 0 ≤ _)⟩)
    dsimp only [Pt.U, Pt.locs, Pt.cells, Pt.slots] at X11 l11 y11 z11 st11 hQ11
    subst l11 y11 z11
    obtain ⟨rfl, Nq11, K11, Ft_, Fa_⟩ := hQ11
    have N11 := Fr.app N2 Nq11
    have Od_11 := Od.keep K11 (allS g_r0 (all0))
    have Ec_11 := Ec.keep K11
    have Fv_11 := Fv.keep K11 (ninS ne1 nin0)
    have Fc_11 := Fc.keep K11 (ninS ne1 nin0)
    have Et_11 := Et.keep K11
    have Vy_11 := Vy.keep K11 (ninS ne2 nin0)
    have Vc_11 := Vc.keep K11 (ninS ne3 nin0)
    have Z_11 : n0 ≤ T11.heap.size := Nat.le_trans Z0 K11.1
    have Kp_11 : Keep h0 T11.heap [r0] := Kp.trans K11 (allS (Or.inl (List.mem_of_getElem? (i := 0) rfl)) (all0))
    obtain ⟨fs, hr, hrun, hended, hW, hsame⟩ := X11.leave (v := some (.int q2)) (fun h => by rw [Bd.returns] at h; cases h)
    refine ⟨_, _, pre0 _ (st1 _ (st2 _ (st3 _ (st4 _ (st9 _ (st10 _ (st11.trans ?_))))))), hrun, hended, _, _, rfl, ?_, ⟨_, rfl⟩, hW, hsame.mono (by decide) (by decide)⟩
    · refine XS.iloadN X11.here hx rfl (hb hby d25_27) rfl ?_
      show Steps p.tables e below (T11.setTop (mkF m 28 #[.val (.ref r0), .val (.ref r1), .val (.int p2), .val (.int q2)] [(.int q2)])) _
      exact retI X11 hx Bd.returns (hb hby d25_28) hr
    · show Q_rmSt Z r0 r1 p2 cs fm t y ky cd nb vs n c0 c1 c2 c3 kc h0 n0 _ T11.heap _
      exact ⟨_, ⟨nq, lq⟩, rfl, N11, Kp_11, Ft_, Fa_⟩
theorem ef_rm0 (m : MethodId) (x0 : Int32) (x1 : Int32) (x2 : Int32) (x3 : Int32) (x4 : Int32) : entryFrame m #[(.int x0), (.int x1), (.int x2), (.int x3), (.int x4)] maxLocals = mkF m 0 #[.val (.int x0), .val (.int x1), .val (.int x2), .val (.int x3), .val (.int x4), .unset, .unset, .unset, .unset, .unset, .unset] [] := by first | (simp [entryFrame, mkF, argsToLocals, Value.category, maxLocals]; done) | rfl
def Q_rm0 (Z : State) (p0 : Int32) (p1 : Int32) (p2 : Int32) (p3 : Int32) (p4 : Int32) (cs : Int32) (fm : Value) (h0 : Heap) (n0 : Nat) (v : Option Value) (h : Heap) (L : List Loc) : Prop := v = some (.int 1) ∧ Fr n0 L
set_option maxRecDepth 65536 in
set_option maxHeartbeats 40000000 in
theorem rm0 (l : Launch) (Z : State) (a0 : Array Value) (hw : ∀ d ∈ tables_1, d.before a0 Z = true) (ws : List Jvm.Cond) (p0 : Int32) (p1 : Int32) (p2 : Int32) (p3 : Int32) (p4 : Int32) (cs : Int32) (fm : Value) (h0 : Heap) (n0 : Nat) (Z0 : n0 ≤ h0.size) (SB : own_St Z cs fm) (Od : Old Z n0 h0) :
    MetFree l x (head1 (Jvm.Cond.code x code maxLocals ret :: ws) room_1) (fun a U => a = #[(.int p0), (.int p1), (.int p2), (.int p3), (.int p4)] ∧ Z.Warmed39 U.vm ∧ U.heap = h0 ∧ CHv Z own_EL U.vm h0) (fun _ _ _ _ _ => True) (fun _ U o U' => ∃ v L, o = .returned v ∧ Q_rm0 Z p0 p1 p2 p3 p4 cs fm h0 n0 v U'.heap L ∧ ReturnedEndW U o U' L room_1.cells room_1.slots) := by
  refine MetFree.of_bodySF (plainFor_of_name pn_0) hisR ?_
  intro p e s m args below meth c s₁ Bd hml0 hP hK
  obtain ⟨rfl, hZ, hh, hCH⟩ := hP
  have hx := Bd.exec
  have hby := Bd.bytes
  have hml : c.maxLocals = 11 := hml0
  have hown : s.vm.findClass "com/example/libbisim/libbisim/CursorCommaFollowsPinLaw" = some m.cls := findClass_of_methodNamed Bd.named
  have hnm := (name_of_methodNamed Bd.named Bd.method).1
  have X0 : Stand p l e room_1 s m #[(.int p0), (.int p1), (.int p2), (.int p3), (.int p4)] below meth c s₁ [] 0 0 := Stand.of_body Bd
  have e0 : s₁.heap = h0 := by rw [← hh, Bd.state]; rfl
  have N0 := Fr.nil n0
  have pre0 : ∀ t, Steps p.tables e below (s₁.setTop (mkF m 0 #[.val (.int p0), .val (.int p1), .val (.int p2), .val (.int p3), .val (.int p4), .unset, .unset, .unset, .unset, .unset, .unset] [])) t → Steps p.tables e below (s₁.setTop (entryFrame m #[(.int p0), (.int p1), (.int p2), (.int p3), (.int p4)] maxLocals)) t := fun t k => castTop (ef_rm0 m p0 p1 p2 p3 p4) k
  have CA := CHr.refl hCH
  have hEL := own_hEL hw
  have wS : ∀ a ∈ Bundle.stringAtoms, a.before a0 Z = true := fun d hd => hw d ((by decide +kernel : ∀ d ∈ Bundle.stringAtoms, d ∈ tables_1) d hd)
  have st1 : own_S p e below s₁ (mkF m 9 #[.val (.int p0), .val (.int p1), .val (.int p2), .val (.int p3), .val (.int p4), .val (.int ((p4 &&& (2147483647 : Int32)) % (5 : Int32))), .unset, .unset, .unset, .unset, .unset] []) (mkF m 0 #[.val (.int p0), .val (.int p1), .val (.int p2), .val (.int p3), .val (.int p4), .unset, .unset, .unset, .unset, .unset, .unset] []) := by
    intro target kt
    refine XS.iload X0.here hx rfl (hb hby at_0) rfl ?_
    refine X0.ldcInt hx hown (mvT hZ (own_w hw 0 rfl)) (g := (mkF m 2 #[.val (.int p0), .val (.int p1), .val (.int p2), .val (.int p3), .val (.int p4), .unset, .unset, .unset, .unset, .unset, .unset] [(.int p4)])) rfl (hb hby at_2) _ ?_
    refine XS.iand X0.here hx rfl (hb hby at_4) rfl ?_
    refine XS.iconst X0.here hx rfl (hb hby at_5) ?_
    refine iremM (g := (mkF m 6 #[.val (.int p0), .val (.int p1), .val (.int p2), .val (.int p3), .val (.int p4), .unset, .unset, .unset, .unset, .unset, .unset] [(.int (5 : Int32)), (.int (p4 &&& (2147483647 : Int32)))])) X0 hx rfl (hb hby at_6) rfl (by decide) ?_
    refine XS.istore X0.here hx rfl (hb hby at_7) rfl (l' := #[.val (.int p0), .val (.int p1), .val (.int p2), .val (.int p3), .val (.int p4), .val (.int ((p4 &&& (2147483647 : Int32)) % (5 : Int32))), .unset, .unset, .unset, .unset, .unset]) rfl ?_
    exact kt
  obtain ⟨n, hn⟩ : ∃ z : Int32, z = ((p4 &&& (2147483647 : Int32)) % (5 : Int32)) := ⟨_, rfl⟩
  rw [← hn] at st1
  have hN : own_n n := by rw [hn]; exact own_mod _
  have st2 : own_S p e below s₁ (mkF m 11 #[.val (.int p0), .val (.int p1), .val (.int p2), .val (.int p3), .val (.int p4), .val (.int n), .unset, .unset, .unset, .unset, .unset] [(.int n)]) (mkF m 9 #[.val (.int p0), .val (.int p1), .val (.int p2), .val (.int p3), .val (.int p4), .val (.int n), .unset, .unset, .unset, .unset, .unset] []) := by
    intro target kt
    refine XS.iload X0.here hx rfl (hb hby at_9) rfl ?_
    exact kt
  obtain ⟨T3, h3, k3, X3, e3, E3, A3, st3⟩ := newP X0 hx hZ (own_w hw 1 rfl) e0 (g := (mkF m 11 #[.val (.int p0), .val (.int p1), .val (.int p2), .val (.int p3), .val (.int p4), .val (.int n), .unset, .unset, .unset, .unset, .unset] [(.int n)])) rfl (hb hby at_11) rfl (own_nn hN) (cap := 4) (own_le4 hN) (by decide) (by decide) (by decide)
  obtain ⟨ca, g3⟩ : ∃ z, z = h0.size := ⟨_, rfl⟩
  rw [← g3] at A3 st3
  have g_ca : n0 ≤ ca := Nat.le_trans Z0 (Nat.le_of_eq g3.symm)
  have Sf_ca : Safe Z own_EL s.vm h0 ca := Safe.new (Nat.le_of_eq g3.symm)
  have Od_3 := Od.ext E3
  have Sf_ca_3 := Safe.ext E3 CA.1 Sf_ca
  have CA_3 := CA.trans (CHr.ext E3 CA.1)
  have Z_3 : n0 ≤ h3.size := Nat.le_trans Z0 E3.1
  have V_ca : Arv Z h3 ca k3 .char n [(.int (0 : Int32)), (.int (0 : Int32)), (.int (0 : Int32)), (.int (0 : Int32))] (.int (0 : Int32)) := (Arv.new A3 (own_nn hN)).pad (pad_rep [] (.int (0 : Int32)) 4)
  have st4 : own_S p e below T3 (mkF m 15 #[.val (.int p0), .val (.int p1), .val (.int p2), .val (.int p3), .val (.int p4), .val (.int n), .val (.ref ca), .unset, .unset, .unset, .unset] []) (mkF m 13 #[.val (.int p0), .val (.int p1), .val (.int p2), .val (.int p3), .val (.int p4), .val (.int n), .unset, .unset, .unset, .unset, .unset] [(.ref ca)]) := by
    intro target kt
    refine XS.astore X3.here hx rfl (hb hby at_13) rfl rfl (l' := #[.val (.int p0), .val (.int p1), .val (.int p2), .val (.int p3), .val (.int p4), .val (.int n), .val (.ref ca), .unset, .unset, .unset, .unset]) rfl ?_
    exact kt
  obtain ⟨d0_, T5, h5, L5, p5_0, p5_1, X5, e5, K5, N5, st5⟩ : ∃ (d0_ : Int32) (T' : State) (h' : Heap) (L' : List Loc), (own_ch d0_ ∧ (¬ (0 : Int32) < n → d0_ = 0)) ∧ (Arv Z h' ca k3 .char n [(.int d0_), (.int (0 : Int32)), (.int (0 : Int32)), (.int (0 : Int32))] (.int (0 : Int32))) ∧ Stand p l e room_1 s m #[(.int p0), (.int p1), (.int p2), (.int p3), (.int p4)] below meth c T' L' 1 4 ∧ T'.heap = h' ∧ Keep h3 h' [ca] ∧ Fr n0 L' ∧ ∀ target, Steps p.tables e below (T'.setTop (mkF m 28 #[.val (.int p0), .val (.int p1), .val (.int p2), .val (.int p3), .val (.int p4), .val (.int n), .val (.ref ca), .unset, .unset, .unset, .unset] [])) target → Steps p.tables e below (T3.setTop (mkF m 15 #[.val (.int p0), .val (.int p1), .val (.int p2), .val (.int p3), .val (.int p4), .val (.int n), .val (.ref ca), .unset, .unset, .unset, .unset] [])) target := by
    have Km : Keep h3 h3 [ca] := Keep.refl _ _
    have st6 : own_S p e below T3 (mkF m 17 #[.val (.int p0), .val (.int p1), .val (.int p2), .val (.int p3), .val (.int p4), .val (.int n), .val (.ref ca), .unset, .unset, .unset, .unset] [(.int n)]) (mkF m 15 #[.val (.int p0), .val (.int p1), .val (.int p2), .val (.int p3), .val (.int p4), .val (.int n), .val (.ref ca), .unset, .unset, .unset, .unset] []) := by
      intro target kt
      refine XS.iload X3.here hx rfl (hb hby at_15) rfl ?_
      exact kt
    by_cases gd_ : (0 : Int32) < n
    · have st7 : own_S p e below T3 (mkF m 20 #[.val (.int p0), .val (.int p1), .val (.int p2), .val (.int p3), .val (.int p4), .val (.int n), .val (.ref ca), .unset, .unset, .unset, .unset] []) (mkF m 17 #[.val (.int p0), .val (.int p1), .val (.int p2), .val (.int p3), .val (.int p4), .val (.int n), .val (.ref ca), .unset, .unset, .unset, .unset] [(.int n)]) := by
        intro target kt
        refine XS.ifNo X3.here hx rfl (hb hby at_17) rfl ((if0 _ _).trans (tlt gd_).2.2.2) ?_
        exact kt
      have st8 : own_S p e below T3 (mkF m 24 #[.val (.int p0), .val (.int p1), .val (.int p2), .val (.int p3), .val (.int p4), .val (.int n), .val (.ref ca), .unset, .unset, .unset, .unset] [(.int p0), (.int (0 : Int32)), (.ref ca)]) (mkF m 20 #[.val (.int p0), .val (.int p1), .val (.int p2), .val (.int p3), .val (.int p4), .val (.int n), .val (.ref ca), .unset, .unset, .unset, .unset] []) := by
        intro target kt
        refine XS.aload X3.here hx rfl (hb hby at_20) rfl rfl ?_
        refine XS.iconst X3.here hx rfl (hb hby at_22) ?_
        refine XS.iloadN X3.here hx rfl (hb hby at_23) rfl ?_
        exact kt
      obtain ⟨_, _, ⟨T9, L9, k9, n9⟩, -, X9, ⟨Lc9, hQ9, l9, y9, z9⟩, st9⟩ := Jvm.LawKit.callS X3 hx (y := (⟨"com/example/libbisim/libbisim/CursorCommaFollowsPinLaw", "draw", "(I)C"⟩ : MethodName)) hown (mvT hZ (own_w hw 86 rfl)) (mvT hZ (own_w hw 87 rfl)) (mvT hZ (own_w hw 42 rfl)) (mvT hZ (own_w hw 88 rfl)) (by decide) (backOf (W := 2) (rmDr l Z a0 hw [] p0  h3 n0 Z_3 ) hZ (own_w hw 88 rfl) (own_w hw 42 rfl) (by decide) (by decide)) (g := (mkF m 24 #[.val (.int p0), .val (.int p1), .val (.int p2), .val (.int p3), .val (.int p4), .val (.int n), .val (.ref ca), .unset, .unset, .unset, .unset] [(.int p0), (.int (0 : Int32)), (.ref ca)])) rfl (by rw [hml]; rfl) (argsL := [(.int p0)]) (rest := [(.int (0 : Int32)), (.ref ca)]) (lenOf pd_11 rfl) rfl (by show 2 * 0 + _ ≤ _; exact Nat.le_of_eq rfl) (hb hby at_24) (fun _ _ => ⟨rfl, e3, (by decide : 1 + 0 ≤ _), (by decide : 4 + 0 ≤ _)⟩)
      dsimp only [Pt.U, Pt.locs, Pt.cells, Pt.slots] at X9 l9 y9 z9 st9 hQ9
      subst l9 y9 z9
      obtain ⟨x9, hx9, rfl, Nq9, e9⟩ := hQ9
      have N9 := Fr.app N0 Nq9
      obtain ⟨cl10, Ar10, qc10, Sz10, Mn10, Hs10, Gs10⟩ := id V_ca
      have hin10 : ¬ ((0 : Int32) < 0 ∨ cl10.slots.size ≤ ((0 : Int32)).toNatClampNeg) := inb_of Sz10 ⟨by decide, gd_⟩
      obtain ⟨T10, h10, X10, e10, W10, st10⟩ := stC X9 hx hZ e9 Ar10 (j := (0 : Int32)) hin10 (g := (mkF m 27 #[.val (.int p0), .val (.int p1), .val (.int p2), .val (.int p3), .val (.int p4), .val (.int n), .val (.ref ca), .unset, .unset, .unset, .unset] [(.int x9), (.int (0 : Int32)), (.ref ca)])) rfl rfl (hb hby at_27)
      have V_ca_10 : Arv Z h10 ca k3 .char n [(.int (nar .char x9)), (.int (0 : Int32)), (.int (0 : Int32)), (.int (0 : Int32))] (.int (0 : Int32)) := Arv.set Ar10 qc10 Sz10 Mn10 Hs10 Gs10 (fits_nar_char _) W10 0 rfl (Nat.le_of_ble_eq_true rfl)
      have Od_10 := Od_3.wr W10 g_ca
      have Sf_ca_10 := Safe.wr W10 Sf_ca_3 CA_3.1 Sf_ca_3
      have CA_10 := CA_3.trans (CHr.wr W10 Sf_ca_3 CA_3.1)
      have Z_10 : n0 ≤ h10.size := Nat.le_trans Z_3 (Keep.of_wr W10).1
      have Kp_10 : Keep h3 h10 [ca] := Km.wr W10 (Or.inl (List.mem_of_getElem? (i := 0) rfl))
      have N10 := Fr.snoc X10 N9 g_ca
      rw [own_ncI hx9] at V_ca_10
      exact ⟨x9, _, _, _, ⟨hx9, fun q => absurd gd_ q⟩, V_ca_10, X10, e10, Kp_10, N10, fun target kt => (st6 _ (st7 _ (st8 _ (st9 _ (st10 _ kt)))))⟩
    · have st11 : own_S p e below T3 (mkF m 28 #[.val (.int p0), .val (.int p1), .val (.int p2), .val (.int p3), .val (.int p4), .val (.int n), .val (.ref ca), .unset, .unset, .unset, .unset] []) (mkF m 17 #[.val (.int p0), .val (.int p1), .val (.int p2), .val (.int p3), .val (.int p4), .val (.int n), .val (.ref ca), .unset, .unset, .unset, .unset] [(.int n)]) := by
        intro target kt
        refine XS.ifYes X3.here hx rfl (pc0 := 17) (pc' := 28) rfl (hb hby at_17) rfl ((if0 _ _).trans (flt gd_).2.2.2) (by decide) (by decide) ?_
        exact kt
      exact ⟨(0 : Int32), _, _, _, ⟨own_ch0, fun _ => rfl⟩, V_ca, X3, e3, Km, N0, fun target kt => (st6 _ (st11 _ kt))⟩
  have Od_5 := Od_3.keep K5 (allS g_ca (all0))
  have Sf_ca_5 := Safe.keep K5 (allS Sf_ca_3 all0) CA_3.1 Sf_ca_3
  have CA_5 := CA_3.trans (CHr.keep K5 (allS Sf_ca_3 all0) CA_3.1)
  have Z_5 : n0 ≤ h5.size := Nat.le_trans Z_3 K5.1
  obtain ⟨d1_, T12, h12, L12, p12_0, p12_1, X12, e12, K12, N12, st12⟩ : ∃ (d1_ : Int32) (T' : State) (h' : Heap) (L' : List Loc), (own_ch d1_ ∧ (¬ (1 : Int32) < n → d1_ = 0)) ∧ (Arv Z h' ca k3 .char n [(.int d0_), (.int d1_), (.int (0 : Int32)), (.int (0 : Int32))] (.int (0 : Int32))) ∧ Stand p l e room_1 s m #[(.int p0), (.int p1), (.int p2), (.int p3), (.int p4)] below meth c T' L' 1 4 ∧ T'.heap = h' ∧ Keep h5 h' [ca] ∧ Fr n0 L' ∧ ∀ target, Steps p.tables e below (T'.setTop (mkF m 42 #[.val (.int p0), .val (.int p1), .val (.int p2), .val (.int p3), .val (.int p4), .val (.int n), .val (.ref ca), .unset, .unset, .unset, .unset] [])) target → Steps p.tables e below (T5.setTop (mkF m 28 #[.val (.int p0), .val (.int p1), .val (.int p2), .val (.int p3), .val (.int p4), .val (.int n), .val (.ref ca), .unset, .unset, .unset, .unset] [])) target := by
    have Km : Keep h5 h5 [ca] := Keep.refl _ _
    have st13 : own_S p e below T5 (mkF m 31 #[.val (.int p0), .val (.int p1), .val (.int p2), .val (.int p3), .val (.int p4), .val (.int n), .val (.ref ca), .unset, .unset, .unset, .unset] [(.int (1 : Int32)), (.int n)]) (mkF m 28 #[.val (.int p0), .val (.int p1), .val (.int p2), .val (.int p3), .val (.int p4), .val (.int n), .val (.ref ca), .unset, .unset, .unset, .unset] []) := by
      intro target kt
      refine XS.iload X5.here hx rfl (hb hby at_28) rfl ?_
      refine XS.iconst X5.here hx rfl (hb hby at_30) ?_
      exact kt
    by_cases gd_ : (1 : Int32) < n
    · have st14 : own_S p e below T5 (mkF m 34 #[.val (.int p0), .val (.int p1), .val (.int p2), .val (.int p3), .val (.int p4), .val (.int n), .val (.ref ca), .unset, .unset, .unset, .unset] []) (mkF m 31 #[.val (.int p0), .val (.int p1), .val (.int p2), .val (.int p3), .val (.int p4), .val (.int n), .val (.ref ca), .unset, .unset, .unset, .unset] [(.int (1 : Int32)), (.int n)]) := by
        intro target kt
        refine XS.icmpNo X5.here hx rfl (hb hby at_31) rfl (tlt gd_).2.2.2 ?_
        exact kt
      have st15 : own_S p e below T5 (mkF m 38 #[.val (.int p0), .val (.int p1), .val (.int p2), .val (.int p3), .val (.int p4), .val (.int n), .val (.ref ca), .unset, .unset, .unset, .unset] [(.int p1), (.int (1 : Int32)), (.ref ca)]) (mkF m 34 #[.val (.int p0), .val (.int p1), .val (.int p2), .val (.int p3), .val (.int p4), .val (.int n), .val (.ref ca), .unset, .unset, .unset, .unset] []) := by
        intro target kt
        refine XS.aload X5.here hx rfl (hb hby at_34) rfl rfl ?_
        refine XS.iconst X5.here hx rfl (hb hby at_36) ?_
        refine XS.iloadN X5.here hx rfl (hb hby at_37) rfl ?_
        exact kt
      obtain ⟨_, _, ⟨T16, L16, k16, n16⟩, -, X16, ⟨Lc16, hQ16, l16, y16, z16⟩, st16⟩ := Jvm.LawKit.callS X5 hx (y := (⟨"com/example/libbisim/libbisim/CursorCommaFollowsPinLaw", "draw", "(I)C"⟩ : MethodName)) hown (mvT hZ (own_w hw 86 rfl)) (mvT hZ (own_w hw 87 rfl)) (mvT hZ (own_w hw 42 rfl)) (mvT hZ (own_w hw 88 rfl)) (by decide) (backOf (W := 2) (rmDr l Z a0 hw [] p1  h5 n0 Z_5 ) hZ (own_w hw 88 rfl) (own_w hw 42 rfl) (by decide) (by decide)) (g := (mkF m 38 #[.val (.int p0), .val (.int p1), .val (.int p2), .val (.int p3), .val (.int p4), .val (.int n), .val (.ref ca), .unset, .unset, .unset, .unset] [(.int p1), (.int (1 : Int32)), (.ref ca)])) rfl (by rw [hml]; rfl) (argsL := [(.int p1)]) (rest := [(.int (1 : Int32)), (.ref ca)]) (lenOf pd_11 rfl) rfl (by show 2 * 0 + _ ≤ _; exact Nat.le_of_eq rfl) (hb hby at_38) (fun _ _ => ⟨rfl, e5, (by decide : 1 + 0 ≤ _), (by decide : 4 + 0 ≤ _)⟩)
      dsimp only [Pt.U, Pt.locs, Pt.cells, Pt.slots] at X16 l16 y16 z16 st16 hQ16
      subst l16 y16 z16
      obtain ⟨x16, hx16, rfl, Nq16, e16⟩ := hQ16
      have N16 := Fr.app N5 Nq16
      obtain ⟨cl17, Ar17, qc17, Sz17, Mn17, Hs17, Gs17⟩ := id p5_1
      have hin17 : ¬ ((1 : Int32) < 0 ∨ cl17.slots.size ≤ ((1 : Int32)).toNatClampNeg) := inb_of Sz17 ⟨by decide, gd_⟩
      obtain ⟨T17, h17, X17, e17, W17, st17⟩ := stC X16 hx hZ e16 Ar17 (j := (1 : Int32)) hin17 (g := (mkF m 41 #[.val (.int p0), .val (.int p1), .val (.int p2), .val (.int p3), .val (.int p4), .val (.int n), .val (.ref ca), .unset, .unset, .unset, .unset] [(.int x16), (.int (1 : Int32)), (.ref ca)])) rfl rfl (hb hby at_41)
      have V_ca_17 : Arv Z h17 ca k3 .char n [(.int d0_), (.int (nar .char x16)), (.int (0 : Int32)), (.int (0 : Int32))] (.int (0 : Int32)) := Arv.set Ar17 qc17 Sz17 Mn17 Hs17 Gs17 (fits_nar_char _) W17 1 rfl (Nat.le_of_ble_eq_true rfl)
      have Od_17 := Od_5.wr W17 g_ca
      have Sf_ca_17 := Safe.wr W17 Sf_ca_5 CA_5.1 Sf_ca_5
      have CA_17 := CA_5.trans (CHr.wr W17 Sf_ca_5 CA_5.1)
      have Z_17 : n0 ≤ h17.size := Nat.le_trans Z_5 (Keep.of_wr W17).1
      have Kp_17 : Keep h5 h17 [ca] := Km.wr W17 (Or.inl (List.mem_of_getElem? (i := 0) rfl))
      have N17 := Fr.snoc X17 N16 g_ca
      rw [own_ncI hx16] at V_ca_17
      exact ⟨x16, _, _, _, ⟨hx16, fun q => absurd gd_ q⟩, V_ca_17, X17, e17, Kp_17, N17, fun target kt => (st13 _ (st14 _ (st15 _ (st16 _ (st17 _ kt)))))⟩
    · have st18 : own_S p e below T5 (mkF m 42 #[.val (.int p0), .val (.int p1), .val (.int p2), .val (.int p3), .val (.int p4), .val (.int n), .val (.ref ca), .unset, .unset, .unset, .unset] []) (mkF m 31 #[.val (.int p0), .val (.int p1), .val (.int p2), .val (.int p3), .val (.int p4), .val (.int n), .val (.ref ca), .unset, .unset, .unset, .unset] [(.int (1 : Int32)), (.int n)]) := by
        intro target kt
        refine XS.icmpYes X5.here hx rfl (pc0 := 31) (pc' := 42) rfl (hb hby at_31) rfl (flt gd_).2.2.2 (by decide) (by decide) ?_
        exact kt
      exact ⟨(0 : Int32), _, _, _, ⟨own_ch0, fun _ => rfl⟩, p5_1, X5, e5, Km, N5, fun target kt => (st13 _ (st18 _ kt))⟩
  have Od_12 := Od_5.keep K12 (allS g_ca (all0))
  have Sf_ca_12 := Safe.keep K12 (allS Sf_ca_5 all0) CA_5.1 Sf_ca_5
  have CA_12 := CA_5.trans (CHr.keep K12 (allS Sf_ca_5 all0) CA_5.1)
  have Z_12 : n0 ≤ h12.size := Nat.le_trans Z_5 K12.1
  obtain ⟨d2_, T19, h19, L19, p19_0, p19_1, X19, e19, K19, N19, st19⟩ : ∃ (d2_ : Int32) (T' : State) (h' : Heap) (L' : List Loc), (own_ch d2_ ∧ (¬ (2 : Int32) < n → d2_ = 0)) ∧ (Arv Z h' ca k3 .char n [(.int d0_), (.int d1_), (.int d2_), (.int (0 : Int32))] (.int (0 : Int32))) ∧ Stand p l e room_1 s m #[(.int p0), (.int p1), (.int p2), (.int p3), (.int p4)] below meth c T' L' 1 4 ∧ T'.heap = h' ∧ Keep h12 h' [ca] ∧ Fr n0 L' ∧ ∀ target, Steps p.tables e below (T'.setTop (mkF m 56 #[.val (.int p0), .val (.int p1), .val (.int p2), .val (.int p3), .val (.int p4), .val (.int n), .val (.ref ca), .unset, .unset, .unset, .unset] [])) target → Steps p.tables e below (T12.setTop (mkF m 42 #[.val (.int p0), .val (.int p1), .val (.int p2), .val (.int p3), .val (.int p4), .val (.int n), .val (.ref ca), .unset, .unset, .unset, .unset] [])) target := by
    have Km : Keep h12 h12 [ca] := Keep.refl _ _
    have st20 : own_S p e below T12 (mkF m 45 #[.val (.int p0), .val (.int p1), .val (.int p2), .val (.int p3), .val (.int p4), .val (.int n), .val (.ref ca), .unset, .unset, .unset, .unset] [(.int (2 : Int32)), (.int n)]) (mkF m 42 #[.val (.int p0), .val (.int p1), .val (.int p2), .val (.int p3), .val (.int p4), .val (.int n), .val (.ref ca), .unset, .unset, .unset, .unset] []) := by
      intro target kt
      refine XS.iload X12.here hx rfl (hb hby at_42) rfl ?_
      refine XS.iconst X12.here hx rfl (hb hby at_44) ?_
      exact kt
    by_cases gd_ : (2 : Int32) < n
    · have st21 : own_S p e below T12 (mkF m 48 #[.val (.int p0), .val (.int p1), .val (.int p2), .val (.int p3), .val (.int p4), .val (.int n), .val (.ref ca), .unset, .unset, .unset, .unset] []) (mkF m 45 #[.val (.int p0), .val (.int p1), .val (.int p2), .val (.int p3), .val (.int p4), .val (.int n), .val (.ref ca), .unset, .unset, .unset, .unset] [(.int (2 : Int32)), (.int n)]) := by
        intro target kt
        refine XS.icmpNo X12.here hx rfl (hb hby at_45) rfl (tlt gd_).2.2.2 ?_
        exact kt
      have st22 : own_S p e below T12 (mkF m 52 #[.val (.int p0), .val (.int p1), .val (.int p2), .val (.int p3), .val (.int p4), .val (.int n), .val (.ref ca), .unset, .unset, .unset, .unset] [(.int p2), (.int (2 : Int32)), (.ref ca)]) (mkF m 48 #[.val (.int p0), .val (.int p1), .val (.int p2), .val (.int p3), .val (.int p4), .val (.int n), .val (.ref ca), .unset, .unset, .unset, .unset] []) := by
        intro target kt
        refine XS.aload X12.here hx rfl (hb hby at_48) rfl rfl ?_
        refine XS.iconst X12.here hx rfl (hb hby at_50) ?_
        refine XS.iloadN X12.here hx rfl (hb hby at_51) rfl ?_
        exact kt
      obtain ⟨_, _, ⟨T23, L23, k23, n23⟩, -, X23, ⟨Lc23, hQ23, l23, y23, z23⟩, st23⟩ := Jvm.LawKit.callS X12 hx (y := (⟨"com/example/libbisim/libbisim/CursorCommaFollowsPinLaw", "draw", "(I)C"⟩ : MethodName)) hown (mvT hZ (own_w hw 86 rfl)) (mvT hZ (own_w hw 87 rfl)) (mvT hZ (own_w hw 42 rfl)) (mvT hZ (own_w hw 88 rfl)) (by decide) (backOf (W := 2) (rmDr l Z a0 hw [] p2  h12 n0 Z_12 ) hZ (own_w hw 88 rfl) (own_w hw 42 rfl) (by decide) (by decide)) (g := (mkF m 52 #[.val (.int p0), .val (.int p1), .val (.int p2), .val (.int p3), .val (.int p4), .val (.int n), .val (.ref ca), .unset, .unset, .unset, .unset] [(.int p2), (.int (2 : Int32)), (.ref ca)])) rfl (by rw [hml]; rfl) (argsL := [(.int p2)]) (rest := [(.int (2 : Int32)), (.ref ca)]) (lenOf pd_11 rfl) rfl (by show 2 * 0 + _ ≤ _; exact Nat.le_of_eq rfl) (hb hby at_52) (fun _ _ => ⟨rfl, e12, (by decide : 1 + 0 ≤ _), (by decide : 4 + 0 ≤ _)⟩)
      dsimp only [Pt.U, Pt.locs, Pt.cells, Pt.slots] at X23 l23 y23 z23 st23 hQ23
      subst l23 y23 z23
      obtain ⟨x23, hx23, rfl, Nq23, e23⟩ := hQ23
      have N23 := Fr.app N12 Nq23
      obtain ⟨cl24, Ar24, qc24, Sz24, Mn24, Hs24, Gs24⟩ := id p12_1
      have hin24 : ¬ ((2 : Int32) < 0 ∨ cl24.slots.size ≤ ((2 : Int32)).toNatClampNeg) := inb_of Sz24 ⟨by decide, gd_⟩
      obtain ⟨T24, h24, X24, e24, W24, st24⟩ := stC X23 hx hZ e23 Ar24 (j := (2 : Int32)) hin24 (g := (mkF m 55 #[.val (.int p0), .val (.int p1), .val (.int p2), .val (.int p3), .val (.int p4), .val (.int n), .val (.ref ca), .unset, .unset, .unset, .unset] [(.int x23), (.int (2 : Int32)), (.ref ca)])) rfl rfl (hb hby at_55)
      have V_ca_24 : Arv Z h24 ca k3 .char n [(.int d0_), (.int d1_), (.int (nar .char x23)), (.int (0 : Int32))] (.int (0 : Int32)) := Arv.set Ar24 qc24 Sz24 Mn24 Hs24 Gs24 (fits_nar_char _) W24 2 rfl (Nat.le_of_ble_eq_true rfl)
      have Od_24 := Od_12.wr W24 g_ca
      have Sf_ca_24 := Safe.wr W24 Sf_ca_12 CA_12.1 Sf_ca_12
      have CA_24 := CA_12.trans (CHr.wr W24 Sf_ca_12 CA_12.1)
      have Z_24 : n0 ≤ h24.size := Nat.le_trans Z_12 (Keep.of_wr W24).1
      have Kp_24 : Keep h12 h24 [ca] := Km.wr W24 (Or.inl (List.mem_of_getElem? (i := 0) rfl))
      have N24 := Fr.snoc X24 N23 g_ca
      rw [own_ncI hx23] at V_ca_24
      exact ⟨x23, _, _, _, ⟨hx23, fun q => absurd gd_ q⟩, V_ca_24, X24, e24, Kp_24, N24, fun target kt => (st20 _ (st21 _ (st22 _ (st23 _ (st24 _ kt)))))⟩
    · have st25 : own_S p e below T12 (mkF m 56 #[.val (.int p0), .val (.int p1), .val (.int p2), .val (.int p3), .val (.int p4), .val (.int n), .val (.ref ca), .unset, .unset, .unset, .unset] []) (mkF m 45 #[.val (.int p0), .val (.int p1), .val (.int p2), .val (.int p3), .val (.int p4), .val (.int n), .val (.ref ca), .unset, .unset, .unset, .unset] [(.int (2 : Int32)), (.int n)]) := by
        intro target kt
        refine XS.icmpYes X12.here hx rfl (pc0 := 45) (pc' := 56) rfl (hb hby at_45) rfl (flt gd_).2.2.2 (by decide) (by decide) ?_
        exact kt
      exact ⟨(0 : Int32), _, _, _, ⟨own_ch0, fun _ => rfl⟩, p12_1, X12, e12, Km, N12, fun target kt => (st20 _ (st25 _ kt))⟩
  have Od_19 := Od_12.keep K19 (allS g_ca (all0))
  have Sf_ca_19 := Safe.keep K19 (allS Sf_ca_12 all0) CA_12.1 Sf_ca_12
  have CA_19 := CA_12.trans (CHr.keep K19 (allS Sf_ca_12 all0) CA_12.1)
  have Z_19 : n0 ≤ h19.size := Nat.le_trans Z_12 K19.1
  obtain ⟨d3_, T26, h26, L26, p26_0, p26_1, X26, e26, K26, N26, st26⟩ : ∃ (d3_ : Int32) (T' : State) (h' : Heap) (L' : List Loc), (own_ch d3_ ∧ (¬ (3 : Int32) < n → d3_ = 0)) ∧ (Arv Z h' ca k3 .char n [(.int d0_), (.int d1_), (.int d2_), (.int d3_)] (.int (0 : Int32))) ∧ Stand p l e room_1 s m #[(.int p0), (.int p1), (.int p2), (.int p3), (.int p4)] below meth c T' L' 1 4 ∧ T'.heap = h' ∧ Keep h19 h' [ca] ∧ Fr n0 L' ∧ ∀ target, Steps p.tables e below (T'.setTop (mkF m 70 #[.val (.int p0), .val (.int p1), .val (.int p2), .val (.int p3), .val (.int p4), .val (.int n), .val (.ref ca), .unset, .unset, .unset, .unset] [])) target → Steps p.tables e below (T19.setTop (mkF m 56 #[.val (.int p0), .val (.int p1), .val (.int p2), .val (.int p3), .val (.int p4), .val (.int n), .val (.ref ca), .unset, .unset, .unset, .unset] [])) target := by
    have Km : Keep h19 h19 [ca] := Keep.refl _ _
    have st27 : own_S p e below T19 (mkF m 59 #[.val (.int p0), .val (.int p1), .val (.int p2), .val (.int p3), .val (.int p4), .val (.int n), .val (.ref ca), .unset, .unset, .unset, .unset] [(.int (3 : Int32)), (.int n)]) (mkF m 56 #[.val (.int p0), .val (.int p1), .val (.int p2), .val (.int p3), .val (.int p4), .val (.int n), .val (.ref ca), .unset, .unset, .unset, .unset] []) := by
      intro target kt
      refine XS.iload X19.here hx rfl (hb hby at_56) rfl ?_
      refine XS.iconst X19.here hx rfl (hb hby at_58) ?_
      exact kt
    by_cases gd_ : (3 : Int32) < n
    · have st28 : own_S p e below T19 (mkF m 62 #[.val (.int p0), .val (.int p1), .val (.int p2), .val (.int p3), .val (.int p4), .val (.int n), .val (.ref ca), .unset, .unset, .unset, .unset] []) (mkF m 59 #[.val (.int p0), .val (.int p1), .val (.int p2), .val (.int p3), .val (.int p4), .val (.int n), .val (.ref ca), .unset, .unset, .unset, .unset] [(.int (3 : Int32)), (.int n)]) := by
        intro target kt
        refine XS.icmpNo X19.here hx rfl (hb hby at_59) rfl (tlt gd_).2.2.2 ?_
        exact kt
      have st29 : own_S p e below T19 (mkF m 66 #[.val (.int p0), .val (.int p1), .val (.int p2), .val (.int p3), .val (.int p4), .val (.int n), .val (.ref ca), .unset, .unset, .unset, .unset] [(.int p3), (.int (3 : Int32)), (.ref ca)]) (mkF m 62 #[.val (.int p0), .val (.int p1), .val (.int p2), .val (.int p3), .val (.int p4), .val (.int n), .val (.ref ca), .unset, .unset, .unset, .unset] []) := by
        intro target kt
        refine XS.aload X19.here hx rfl (hb hby at_62) rfl rfl ?_
        refine XS.iconst X19.here hx rfl (hb hby at_64) ?_
        refine XS.iloadN X19.here hx rfl (hb hby at_65) rfl ?_
        exact kt
      obtain ⟨_, _, ⟨T30, L30, k30, n30⟩, -, X30, ⟨Lc30, hQ30, l30, y30, z30⟩, st30⟩ := Jvm.LawKit.callS X19 hx (y := (⟨"com/example/libbisim/libbisim/CursorCommaFollowsPinLaw", "draw", "(I)C"⟩ : MethodName)) hown (mvT hZ (own_w hw 86 rfl)) (mvT hZ (own_w hw 87 rfl)) (mvT hZ (own_w hw 42 rfl)) (mvT hZ (own_w hw 88 rfl)) (by decide) (backOf (W := 2) (rmDr l Z a0 hw [] p3  h19 n0 Z_19 ) hZ (own_w hw 88 rfl) (own_w hw 42 rfl) (by decide) (by decide)) (g := (mkF m 66 #[.val (.int p0), .val (.int p1), .val (.int p2), .val (.int p3), .val (.int p4), .val (.int n), .val (.ref ca), .unset, .unset, .unset, .unset] [(.int p3), (.int (3 : Int32)), (.ref ca)])) rfl (by rw [hml]; rfl) (argsL := [(.int p3)]) (rest := [(.int (3 : Int32)), (.ref ca)]) (lenOf pd_11 rfl) rfl (by show 2 * 0 + _ ≤ _; exact Nat.le_of_eq rfl) (hb hby at_66) (fun _ _ => ⟨rfl, e19, (by decide : 1 + 0 ≤ _), (by decide : 4 + 0 ≤ _)⟩)
      dsimp only [Pt.U, Pt.locs, Pt.cells, Pt.slots] at X30 l30 y30 z30 st30 hQ30
      subst l30 y30 z30
      obtain ⟨x30, hx30, rfl, Nq30, e30⟩ := hQ30
      have N30 := Fr.app N19 Nq30
      obtain ⟨cl31, Ar31, qc31, Sz31, Mn31, Hs31, Gs31⟩ := id p19_1
      have hin31 : ¬ ((3 : Int32) < 0 ∨ cl31.slots.size ≤ ((3 : Int32)).toNatClampNeg) := inb_of Sz31 ⟨by decide, gd_⟩
      obtain ⟨T31, h31, X31, e31, W31, st31⟩ := stC X30 hx hZ e30 Ar31 (j := (3 : Int32)) hin31 (g := (mkF m 69 #[.val (.int p0), .val (.int p1), .val (.int p2), .val (.int p3), .val (.int p4), .val (.int n), .val (.ref ca), .unset, .unset, .unset, .unset] [(.int x30), (.int (3 : Int32)), (.ref ca)])) rfl rfl (hb hby at_69)
      have V_ca_31 : Arv Z h31 ca k3 .char n [(.int d0_), (.int d1_), (.int d2_), (.int (nar .char x30))] (.int (0 : Int32)) := Arv.set Ar31 qc31 Sz31 Mn31 Hs31 Gs31 (fits_nar_char _) W31 3 rfl (Nat.le_of_ble_eq_true rfl)
      have Od_31 := Od_19.wr W31 g_ca
      have Sf_ca_31 := Safe.wr W31 Sf_ca_19 CA_19.1 Sf_ca_19
      have CA_31 := CA_19.trans (CHr.wr W31 Sf_ca_19 CA_19.1)
      have Z_31 : n0 ≤ h31.size := Nat.le_trans Z_19 (Keep.of_wr W31).1
      have Kp_31 : Keep h19 h31 [ca] := Km.wr W31 (Or.inl (List.mem_of_getElem? (i := 0) rfl))
      have N31 := Fr.snoc X31 N30 g_ca
      rw [own_ncI hx30] at V_ca_31
      exact ⟨x30, _, _, _, ⟨hx30, fun q => absurd gd_ q⟩, V_ca_31, X31, e31, Kp_31, N31, fun target kt => (st27 _ (st28 _ (st29 _ (st30 _ (st31 _ kt)))))⟩
    · have st32 : own_S p e below T19 (mkF m 70 #[.val (.int p0), .val (.int p1), .val (.int p2), .val (.int p3), .val (.int p4), .val (.int n), .val (.ref ca), .unset, .unset, .unset, .unset] []) (mkF m 59 #[.val (.int p0), .val (.int p1), .val (.int p2), .val (.int p3), .val (.int p4), .val (.int n), .val (.ref ca), .unset, .unset, .unset, .unset] [(.int (3 : Int32)), (.int n)]) := by
        intro target kt
        refine XS.icmpYes X19.here hx rfl (pc0 := 59) (pc' := 70) rfl (hb hby at_59) rfl (flt gd_).2.2.2 (by decide) (by decide) ?_
        exact kt
      exact ⟨(0 : Int32), _, _, _, ⟨own_ch0, fun _ => rfl⟩, p19_1, X19, e19, Km, N19, fun target kt => (st27 _ (st32 _ kt))⟩
  have Od_26 := Od_19.keep K26 (allS g_ca (all0))
  have Sf_ca_26 := Safe.keep K26 (allS Sf_ca_19 all0) CA_19.1 Sf_ca_19
  have CA_26 := CA_19.trans (CHr.keep K26 (allS Sf_ca_19 all0) CA_19.1)
  have Z_26 : n0 ≤ h26.size := Nat.le_trans Z_19 K26.1
  have hch : own_chs d0_ d1_ d2_ d3_ := ⟨p5_0.1, p12_0.1, p19_0.1, p26_0.1⟩
  have hZs : own_zs n d0_ d1_ d2_ d3_ := ⟨p5_0.2, p12_0.2, p19_0.2, p26_0.2⟩
  obtain ⟨T33, h33, X33, e33, E33, A33, D33, -, st33⟩ := newO X26 hx hZ hown (own_w hw 2 rfl) (own_w hw 3 rfl) (own_w hw 4 rfl) e26 (g := (mkF m 70 #[.val (.int p0), .val (.int p1), .val (.int p2), .val (.int p3), .val (.int p4), .val (.int n), .val (.ref ca), .unset, .unset, .unset, .unset] [])) rfl (hb hby at_70) (by decide) (by decide)
  obtain ⟨cu, g33⟩ : ∃ z, z = h26.size := ⟨_, rfl⟩
  rw [← g33] at A33 D33 st33
  have g_cu : n0 ≤ cu := Nat.le_trans Z_26 (Nat.le_of_eq g33.symm)
  have Sf_cu : Safe Z own_EL s.vm h26 cu := Safe.new (Nat.le_of_eq g33.symm)
  have ne_ca_cu : ca ≠ cu := Nat.ne_of_lt (Nat.lt_of_lt_of_le p26_1.lt (Nat.le_of_eq g33.symm))
  have Od_33 := Od_26.ext E33
  have Sf_ca_33 := Safe.ext E33 CA_26.1 Sf_ca_26
  have p26_33 := p26_1.ext E33
  have Sf_cu_33 := Safe.ext E33 CA_26.1 Sf_cu
  have CA_33 := CA_26.trans (CHr.ext E33 CA_26.1)
  have Z_33 : n0 ≤ h33.size := Nat.le_trans Z_26 E33.1
  have E_cu : Exa Z h33 cu "com/example/libbisim/libbisim/TextFormat$Cursor" := A33
  have F_text_cu : Fld Z h33 cu "com/example/libbisim/libbisim/TextFormat$Cursor" "text" "Ljava/lang/String;" .null := D33 (Or.inr (own_w hw 33 rfl)) (ty := (.object "java/lang/String")) (by decide)
  have F_source_cu : Fld Z h33 cu "com/example/libbisim/libbisim/TextFormat$Cursor" "source" "Ljava/lang/String;" .null := D33 (Or.inr (own_w hw 35 rfl)) (ty := (.object "java/lang/String")) (by decide)
  have F_line_cu : Fld Z h33 cu "com/example/libbisim/libbisim/TextFormat$Cursor" "line" "J" (.long (0 : Int64)) := D33 (Or.inr (own_w hw 37 rfl)) (ty := .long) (by decide)
  have F_expected_cu : Fld Z h33 cu "com/example/libbisim/libbisim/TextFormat$Cursor" "expected" "Ljava/lang/String;" .null := D33 (Or.inr (own_w hw 39 rfl)) (ty := (.object "java/lang/String")) (by decide)
  have F_at_cu : Fld Z h33 cu "com/example/libbisim/libbisim/TextFormat$Cursor" "at" "I" (.int (0 : Int32)) := D33 (Or.inl (own_w hw 50 rfl)) (ty := .int) (by decide)
  have st34 : own_S p e below T33 (mkF m 74 #[.val (.int p0), .val (.int p1), .val (.int p2), .val (.int p3), .val (.int p4), .val (.int n), .val (.ref ca), .unset, .unset, .unset, .unset] [(.ref cu), (.ref cu)]) (mkF m 73 #[.val (.int p0), .val (.int p1), .val (.int p2), .val (.int p3), .val (.int p4), .val (.int n), .val (.ref ca), .unset, .unset, .unset, .unset] [(.ref cu)]) := by
    intro target kt
    refine XS.dup X33.here hx rfl (hb hby at_73) rfl rfl ?_
    exact kt
  obtain ⟨T35, h35, X35, e35, E35, A35, D35, -, st35⟩ := newO X33 hx hZ hown (own_w hw 5 rfl) (own_w hw 6 rfl) (own_w hw 7 rfl) e33 (g := (mkF m 74 #[.val (.int p0), .val (.int p1), .val (.int p2), .val (.int p3), .val (.int p4), .val (.int n), .val (.ref ca), .unset, .unset, .unset, .unset] [(.ref cu), (.ref cu)])) rfl (hb hby at_74) (by decide) (by decide)
  obtain ⟨t, g35⟩ : ∃ z, z = h33.size := ⟨_, rfl⟩
  rw [← g35] at A35 D35 st35
  have g_t : n0 ≤ t := Nat.le_trans Z_33 (Nat.le_of_eq g35.symm)
  have Sf_t : Safe Z own_EL s.vm h33 t := Safe.new (Nat.le_of_eq g35.symm)
  have ne_ca_t : ca ≠ t := Nat.ne_of_lt (Nat.lt_of_lt_of_le p26_33.lt (Nat.le_of_eq g35.symm))
  have ne_cu_t : cu ≠ t := Nat.ne_of_lt (Nat.lt_of_lt_of_le E_cu.lt (Nat.le_of_eq g35.symm))
  have Od_35 := Od_33.ext E35
  have Sf_ca_35 := Safe.ext E35 CA_33.1 Sf_ca_33
  have p26_35 := p26_33.ext E35
  have Sf_cu_35 := Safe.ext E35 CA_33.1 Sf_cu_33
  have E_cu_35 := E_cu.ext E35
  have F_text_cu_35 := F_text_cu.ext E35
  have F_source_cu_35 := F_source_cu.ext E35
  have F_line_cu_35 := F_line_cu.ext E35
  have F_expected_cu_35 := F_expected_cu.ext E35
  have F_at_cu_35 := F_at_cu.ext E35
  have Sf_t_35 := Safe.ext E35 CA_33.1 Sf_t
  have CA_35 := CA_33.trans (CHr.ext E35 CA_33.1)
  have Z_35 : n0 ≤ h35.size := Nat.le_trans Z_33 E35.1
  have E_t : Exa Z h35 t "java/lang/String" := A35
  have F_value_t : Fld Z h35 t "java/lang/String" "value" "[B" .null := D35 (Or.inr (own_w hw 20 rfl)) (ty := (.array .byte)) (by decide)
  have F_coder_t : Fld Z h35 t "java/lang/String" "coder" "B" (.int (0 : Int32)) := D35 (Or.inr (own_w hw 21 rfl)) (ty := .byte) (by decide)
  have st36 : own_S p e below T35 (mkF m 80 #[.val (.int p0), .val (.int p1), .val (.int p2), .val (.int p3), .val (.int p4), .val (.int n), .val (.ref ca), .unset, .unset, .unset, .unset] [(.ref ca), (.ref t), (.ref t), (.ref cu), (.ref cu)]) (mkF m 77 #[.val (.int p0), .val (.int p1), .val (.int p2), .val (.int p3), .val (.int p4), .val (.int n), .val (.ref ca), .unset, .unset, .unset, .unset] [(.ref t), (.ref cu), (.ref cu)]) := by
    intro target kt
    refine XS.dup X35.here hx rfl (hb hby at_77) rfl rfl ?_
    refine XS.aload X35.here hx rfl (hb hby at_78) rfl rfl ?_
    exact kt
  obtain ⟨_, _, ⟨T37, L37, k37, n37⟩, -, X37, hSi37, hge37, ⟨Lc37, hQ37, l37, y37, z37, CHn37⟩, st37⟩ := X35.specialBackS hx (y := (⟨"java/lang/String", "<init>", "([C)V"⟩ : MethodName)) rfl hown (mvT hZ (own_w hw 8 rfl)) (mvT hZ (own_w hw 9 rfl)) (mvT hZ (own_w hw 10 rfl)) (by decide) (backOfSH (vm0 := s.vm) (s := s) (W := 3) (rmI1 l Z a0 hw [] t ca cs fm k3 n d0_ d1_ d2_ d3_ h35 n0 Z_35 SB Od_35 F_value_t F_coder_t E_t g_t p26_35 hN hZs hch (Ne.symm ne_ca_t)) hZ (own_w hw 10 rfl) (own_w hw 7 rfl) (by decide) (by decide) hEL CA_35.1) (g := (mkF m 80 #[.val (.int p0), .val (.int p1), .val (.int p2), .val (.int p3), .val (.int p4), .val (.int n), .val (.ref ca), .unset, .unset, .unset, .unset] [(.ref ca), (.ref t), (.ref t), (.ref cu), (.ref cu)])) rfl (by rw [hml]; rfl) (Steps.refl _) (a := t) (argsL := [(.ref ca)]) (rest := [(.ref t), (.ref cu), (.ref cu)]) (lenOf pd_0 rfl) rfl (by show 2 * 0 + _ ≤ _; exact Nat.le_of_eq rfl) (hb hby at_80) (fun _ _ => ⟨rfl, e35, (by decide : 3 + 4 ≤ _), (by decide : 13 + 12 ≤ _)⟩)
  dsimp only [Pt.U, Pt.locs, Pt.cells, Pt.slots] at X37 l37 y37 z37 st37 hQ37 hSi37 hge37 CHn37
  subst l37 y37 z37
  have hS := foldS (s := s) (vm0 := s.vm) ((State.WarmedH.refl s).since 0) (Nat.zero_le _) hSi37 hge37
  have hZ : Z.Warmed39 (s.setVm T37.vm).vm := State.Warmed39.trans (t := s.setVm s.vm) hZ hSi37.1
  have hown : (s.setVm T37.vm).vm.findClass "com/example/libbisim/libbisim/CursorCommaFollowsPinLaw" = some m.cls := by rw [show (s.setVm T37.vm).vm = T37.vm from rfl, hSi37.1.alike.findClass]; exact hown
  have X37 : Stand p l e room_1 (s.setVm T37.vm) m #[(.int p0), (.int p1), (.int p2), (.int p3), (.int p4)] below meth c T37 _ _ _ := X37
  obtain ⟨rfl, Nq37, K37, Et, yy, ky, cd, nb, vs, Fvt, Ct, Vy, hcd⟩ := hQ37
  have N37 := Fr.app N26 Nq37
  have Od_37 := Od_35.keep K37 (allS g_t (all0))
  have Sf_ca_37 := CHr.safe CHn37 p26_35.lt Sf_ca_35
  have p26_37 := p26_35.keep K37 (ninS ne_ca_t nin0)
  have Sf_cu_37 := CHr.safe CHn37 E_cu_35.lt Sf_cu_35
  have E_cu_37 := E_cu_35.keep K37
  have F_text_cu_37 := F_text_cu_35.keep K37 (ninS ne_cu_t nin0)
  have F_source_cu_37 := F_source_cu_35.keep K37 (ninS ne_cu_t nin0)
  have F_line_cu_37 := F_line_cu_35.keep K37 (ninS ne_cu_t nin0)
  have F_expected_cu_37 := F_expected_cu_35.keep K37 (ninS ne_cu_t nin0)
  have F_at_cu_37 := F_at_cu_35.keep K37 (ninS ne_cu_t nin0)
  have Sf_t_37 := CHr.safe CHn37 E_t.lt Sf_t_35
  have E_t_37 := E_t.keep K37
  have CA_37 := CA_35.trans CHn37
  have Z_37 : n0 ≤ T37.heap.size := Nat.le_trans Z_35 K37.1
  have kz_37 : T37.heap.size ≤ T37.heap.size := Nat.le_refl _
  have ne_yy_cu : yy ≠ cu := (Exa.neArv E_cu_37 Vy (own_w hw 3 rfl)).symm
  obtain ⟨sl, T38, h38, k1_38, X38, e38, E38, hS, kz_38, hZ, hown, st38⟩ := Jvm.RoadKit.ldcS (s := s) (vm0 := T37.vm) X37 hx hZ hown (own_w hw 26 rfl) wS rfl hS kz_37 (g := (mkF m 83 #[.val (.int p0), .val (.int p1), .val (.int p2), .val (.int p3), .val (.int p4), .val (.int n), .val (.ref ca), .unset, .unset, .unset, .unset] [(.ref t), (.ref cu), (.ref cu)])) rfl (hb hby at_83) (n := 4) (by decide) (by decide) (by decide) (by decide)
  have Od_38 := Od_37.ext E38
  have p26_38 := p26_37.ext E38
  have E_cu_38 := E_cu_37.ext E38
  have F_text_cu_38 := F_text_cu_37.ext E38
  have F_source_cu_38 := F_source_cu_37.ext E38
  have F_line_cu_38 := F_line_cu_37.ext E38
  have F_expected_cu_38 := F_expected_cu_37.ext E38
  have F_at_cu_38 := F_at_cu_37.ext E38
  have Et_38 := Et.ext E38
  have Fvt_38 := Fvt.ext E38
  have Ct_38 := Ct.ext E38
  have Vy_38 := Vy.ext E38
  have Z_38 : n0 ≤ h38.size := Nat.le_trans Z_37 E38.1
  have st39 : own_S p e below T38 (mkF m 86 #[.val (.int p0), .val (.int p1), .val (.int p2), .val (.int p3), .val (.int p4), .val (.int n), .val (.ref ca), .unset, .unset, .unset, .unset] [(.long (1 : Int64)), (.ref sl), (.ref t), (.ref cu), (.ref cu)]) (mkF m 85 #[.val (.int p0), .val (.int p1), .val (.int p2), .val (.int p3), .val (.int p4), .val (.int n), .val (.ref ca), .unset, .unset, .unset, .unset] [(.ref sl), (.ref t), (.ref cu), (.ref cu)]) := by
    intro target kt
    refine XS.lconst X38.here hx rfl (hb hby at_85) ?_
    exact kt
  obtain ⟨el, T40, h40, k1_40, X40, e40, E40, hS, kz_40, hZ, hown, st40⟩ := Jvm.RoadKit.ldcS (s := s) (vm0 := T38.vm) X38 hx hZ hown (own_w hw 27 rfl) wS e38 hS kz_38 (g := (mkF m 86 #[.val (.int p0), .val (.int p1), .val (.int p2), .val (.int p3), .val (.int p4), .val (.int n), .val (.ref ca), .unset, .unset, .unset, .unset] [(.long (1 : Int64)), (.ref sl), (.ref t), (.ref cu), (.ref cu)])) rfl (hb hby at_86) (n := 4) (by decide) (by decide) (by decide) (by decide)
  have Od_40 := Od_38.ext E40
  have p26_40 := p26_38.ext E40
  have E_cu_40 := E_cu_38.ext E40
  have F_text_cu_40 := F_text_cu_38.ext E40
  have F_source_cu_40 := F_source_cu_38.ext E40
  have F_line_cu_40 := F_line_cu_38.ext E40
  have F_expected_cu_40 := F_expected_cu_38.ext E40
  have F_at_cu_40 := F_at_cu_38.ext E40
  have Et_40 := Et_38.ext E40
  have Fvt_40 := Fvt_38.ext E40
  have Ct_40 := Ct_38.ext E40
  have Vy_40 := Vy_38.ext E40
  have Z_40 : n0 ≤ h40.size := Nat.le_trans Z_38 E40.1
  obtain ⟨_, _, ⟨T41, L41, k41, n41⟩, -, X41, ⟨Lc41, hQ41, l41, y41, z41⟩, st41⟩ := X40.specialBack hx (y := (⟨"com/example/libbisim/libbisim/TextFormat$Cursor", "<init>", "(Ljava/lang/String;Ljava/lang/String;JLjava/lang/String;)V"⟩ : MethodName)) rfl hown (mvT hZ (own_w hw 28 rfl)) (mvT hZ (own_w hw 29 rfl)) (mvT hZ (own_w hw 30 rfl)) (by decide) (backOf (W := 1) (rmCur l Z a0 hw [] cu t sl (1 : Int64) el  h40 n0 Z_40 F_text_cu_40 F_source_cu_40 F_line_cu_40 F_expected_cu_40 F_at_cu_40 E_cu_40 g_cu) hZ (own_w hw 30 rfl) (own_w hw 4 rfl) (by decide) (by decide)) (g := (mkF m 88 #[.val (.int p0), .val (.int p1), .val (.int p2), .val (.int p3), .val (.int p4), .val (.int n), .val (.ref ca), .unset, .unset, .unset, .unset] [(.ref el), (.long (1 : Int64)), (.ref sl), (.ref t), (.ref cu), (.ref cu)])) rfl (by rw [hml]; rfl) (Steps.refl _) (a := cu) (argsL := [(.ref t), (.ref sl), (.long (1 : Int64)), (.ref el)]) (rest := [(.ref cu)]) (lenOf pd_3 rfl) rfl (by show 2 * 0 + _ ≤ _; exact Nat.le_of_eq rfl) (hb hby at_88) (fun _ _ => ⟨rfl, e40, (by decide : 11 + 0 ≤ _), (by decide : 41 + 0 ≤ _)⟩)
  dsimp only [Pt.U, Pt.locs, Pt.cells, Pt.slots] at X41 l41 y41 z41 st41 hQ41
  subst l41 y41 z41
  obtain ⟨rfl, Nq41, K41, E_cu_i, F_text_cu_i, F_source_cu_i, F_line_cu_i, F_expected_cu_i, F_at_cu_i⟩ := hQ41
  have N41 := Fr.app N37 Nq41
  have Od_41 := Od_40.keep K41 (allS g_cu (all0))
  have p26_41 := p26_40.keep K41 (ninS ne_ca_cu nin0)
  have E_cu_41 := E_cu_40.keep K41
  have Et_41 := Et_40.keep K41
  have Fvt_41 := Fvt_40.keep K41 (ninS (Ne.symm ne_cu_t) nin0)
  have Ct_41 := Ct_40.keep K41 (ninS (Ne.symm ne_cu_t) nin0)
  have Vy_41 := Vy_40.keep K41 (ninS ne_yy_cu nin0)
  have Z_41 : n0 ≤ T41.heap.size := Nat.le_trans Z_40 K41.1
  have kz_41 : k1_40 ≤ T41.heap.size := Nat.le_trans kz_40 K41.1
  have st42 : own_S p e below T41 (mkF m 102 #[.val (.int p0), .val (.int p1), .val (.int p2), .val (.int p3), .val (.int p4), .val (.int n), .val (.ref ca), .val (.ref cu), .val (.int (((p4.toUInt32 >>> ((8 : Int32) &&& 31).toUInt32).toInt32) &&& (3 : Int32))), .unset, .unset] []) (mkF m 91 #[.val (.int p0), .val (.int p1), .val (.int p2), .val (.int p3), .val (.int p4), .val (.int n), .val (.ref ca), .unset, .unset, .unset, .unset] [(.ref cu)]) := by
    intro target kt
    refine XS.astore X41.here hx rfl (hb hby at_91) rfl rfl (l' := #[.val (.int p0), .val (.int p1), .val (.int p2), .val (.int p3), .val (.int p4), .val (.int n), .val (.ref ca), .val (.ref cu), .unset, .unset, .unset]) rfl ?_
    refine XS.iload X41.here hx rfl (hb hby at_93) rfl ?_
    refine XS.bipush X41.here hx rfl (hb hby at_95) ?_
    refine XS.iushr X41.here hx rfl (hb hby at_97) rfl ?_
    refine XS.iconst X41.here hx rfl (hb hby at_98) ?_
    refine XS.iand X41.here hx rfl (hb hby at_99) rfl ?_
    refine XS.istore X41.here hx rfl (hb hby at_100) rfl (l' := #[.val (.int p0), .val (.int p1), .val (.int p2), .val (.int p3), .val (.int p4), .val (.int n), .val (.ref ca), .val (.ref cu), .val (.int (((p4.toUInt32 >>> ((8 : Int32) &&& 31).toUInt32).toInt32) &&& (3 : Int32))), .unset, .unset]) rfl ?_
    exact kt
  obtain ⟨stp, hstp⟩ : ∃ z : Int32, z = (((p4.toUInt32 >>> ((8 : Int32) &&& 31).toUInt32).toInt32) &&& (3 : Int32)) := ⟨_, rfl⟩
  rw [← hstp] at st42
  have st43 : own_S p e below T41 (mkF m 105 #[.val (.int p0), .val (.int p1), .val (.int p2), .val (.int p3), .val (.int p4), .val (.int n), .val (.ref ca), .val (.ref cu), .val (.int stp), .val (.int (0 : Int32)), .unset] []) (mkF m 102 #[.val (.int p0), .val (.int p1), .val (.int p2), .val (.int p3), .val (.int p4), .val (.int n), .val (.ref ca), .val (.ref cu), .val (.int stp), .unset, .unset] []) := by
    intro target kt
    refine XS.iconst X41.here hx rfl (hb hby at_102) ?_
    refine XS.istore X41.here hx rfl (hb hby at_103) rfl (l' := #[.val (.int p0), .val (.int p1), .val (.int p2), .val (.int p3), .val (.int p4), .val (.int n), .val (.ref ca), .val (.ref cu), .val (.int stp), .val (.int (0 : Int32)), .unset]) rfl ?_
    exact kt
  obtain ⟨pp0, T44, h44, L44, p44_0, p44_1, p44_2, X44, e44, K44, N44, st44⟩ : ∃ (pp0 : Int32) (T' : State) (h' : Heap) (L' : List Loc), (own_n pp0 ∧ ¬ n < pp0) ∧ (Fld Z h' cu "com/example/libbisim/libbisim/TextFormat$Cursor" "text" "Ljava/lang/String;" (.ref t)) ∧ (Fld Z h' cu "com/example/libbisim/libbisim/TextFormat$Cursor" "at" "I" (.int pp0)) ∧ Stand p l e room_1 (s.setVm T40.vm) m #[(.int p0), (.int p1), (.int p2), (.int p3), (.int p4)] below meth c T' L' 11 41 ∧ T'.heap = h' ∧ Keep T41.heap h' [cu] ∧ Fr n0 L' ∧ ∀ target, Steps p.tables e below (T'.setTop (mkF m 121 #[.val (.int p0), .val (.int p1), .val (.int p2), .val (.int p3), .val (.int p4), .val (.int n), .val (.ref ca), .val (.ref cu), .val (.int stp), .val (.int pp0), .unset] [])) target → Steps p.tables e below (T41.setTop (mkF m 105 #[.val (.int p0), .val (.int p1), .val (.int p2), .val (.int p3), .val (.int p4), .val (.int n), .val (.ref ca), .val (.ref cu), .val (.int stp), .val (.int (0 : Int32)), .unset] [])) target := by
    have Km : Keep T41.heap T41.heap [cu] := Keep.refl _ _
    have st45 : own_S p e below T41 (mkF m 107 #[.val (.int p0), .val (.int p1), .val (.int p2), .val (.int p3), .val (.int p4), .val (.int n), .val (.ref ca), .val (.ref cu), .val (.int stp), .val (.int (0 : Int32)), .unset] [(.int stp)]) (mkF m 105 #[.val (.int p0), .val (.int p1), .val (.int p2), .val (.int p3), .val (.int p4), .val (.int n), .val (.ref ca), .val (.ref cu), .val (.int stp), .val (.int (0 : Int32)), .unset] []) := by
      intro target kt
      refine XS.iload X41.here hx rfl (hb hby at_105) rfl ?_
      exact kt
    by_cases gs_ : (0 : Int32) < stp
    · have st46 : own_S p e below T41 (mkF m 110 #[.val (.int p0), .val (.int p1), .val (.int p2), .val (.int p3), .val (.int p4), .val (.int n), .val (.ref ca), .val (.ref cu), .val (.int stp), .val (.int (0 : Int32)), .unset] []) (mkF m 107 #[.val (.int p0), .val (.int p1), .val (.int p2), .val (.int p3), .val (.int p4), .val (.int n), .val (.ref ca), .val (.ref cu), .val (.int stp), .val (.int (0 : Int32)), .unset] [(.int stp)]) := by
        intro target kt
        refine XS.ifNo X41.here hx rfl (hb hby at_107) rfl ((if0 _ _).trans (tlt gs_).2.2.2) ?_
        exact kt
      have st47 : own_S p e below T41 (mkF m 116 #[.val (.int p0), .val (.int p1), .val (.int p2), .val (.int p3), .val (.int p4), .val (.int n), .val (.ref ca), .val (.ref cu), .val (.int stp), .val (.int (0 : Int32)), .unset] [(.int (0 : Int32)), (.ref ca), (.ref cu)]) (mkF m 110 #[.val (.int p0), .val (.int p1), .val (.int p2), .val (.int p3), .val (.int p4), .val (.int n), .val (.ref ca), .val (.ref cu), .val (.int stp), .val (.int (0 : Int32)), .unset] []) := by
        intro target kt
        refine XS.aload X41.here hx rfl (hb hby at_110) rfl rfl ?_
        refine XS.aload X41.here hx rfl (hb hby at_112) rfl rfl ?_
        refine XS.iload X41.here hx rfl (hb hby at_114) rfl ?_
        exact kt
      obtain ⟨_, _, ⟨T48, L48, k48, n48⟩, -, X48, ⟨Lc48, hQ48, l48, y48, z48⟩, st48⟩ := Jvm.LawKit.callS X41 hx (y := (⟨"com/example/libbisim/libbisim/CursorCommaFollowsPinLaw", "step", "(Lcom/example/libbisim/libbisim/TextFormat$Cursor;[CI)I"⟩ : MethodName)) hown (mvT hZ (own_w hw 122 rfl)) (mvT hZ (own_w hw 123 rfl)) (mvT hZ (own_w hw 42 rfl)) (mvT hZ (own_w hw 124 rfl)) (by decide) (backOf (W := 0) (rmSt l Z a0 hw [] cu ca (0 : Int32) cs fm t yy ky cd nb vs n d0_ d1_ d2_ d3_ k3 T41.heap n0 Z_41 SB Od_41 F_text_cu_i F_at_cu_i E_cu_i g_cu Fvt_41 Ct_41 Et_41 Vy_41 hcd hN hch own_n0 (own_nn hN) p26_41) hZ (own_w hw 124 rfl) (own_w hw 42 rfl) (by decide) (by decide)) (g := (mkF m 116 #[.val (.int p0), .val (.int p1), .val (.int p2), .val (.int p3), .val (.int p4), .val (.int n), .val (.ref ca), .val (.ref cu), .val (.int stp), .val (.int (0 : Int32)), .unset] [(.int (0 : Int32)), (.ref ca), (.ref cu)])) rfl (by rw [hml]; rfl) (argsL := [(.ref cu), (.ref ca), (.int (0 : Int32))]) (rest := []) (lenOf pd_19 rfl) rfl (by show 2 * 0 + _ ≤ _; exact Nat.le_of_eq rfl) (hb hby at_116) (fun _ _ => ⟨rfl, rfl, (by decide : 11 + 0 ≤ _), (by decide : 41 + 0 ≤ _)⟩)
      dsimp only [Pt.U, Pt.locs, Pt.cells, Pt.slots] at X48 l48 y48 z48 st48 hQ48
      subst l48 y48 z48
      obtain ⟨p48, hp48, rfl, Nq48, K48, Ft48, Fa48⟩ := hQ48
      have N48 := Fr.app N41 Nq48
      have Od_48 := Od_41.keep K48 (allS g_cu (all0))
      have p26_48 := p26_41.keep K48 (ninS ne_ca_cu nin0)
      have E_cu_i_48 := E_cu_i.keep K48
      have Et_48 := Et_41.keep K48
      have Fvt_48 := Fvt_41.keep K48 (ninS (Ne.symm ne_cu_t) nin0)
      have Ct_48 := Ct_41.keep K48 (ninS (Ne.symm ne_cu_t) nin0)
      have Vy_48 := Vy_41.keep K48 (ninS ne_yy_cu nin0)
      have Z_48 : n0 ≤ T48.heap.size := Nat.le_trans Z_41 K48.1
      have kz_48 : k1_40 ≤ T48.heap.size := Nat.le_trans kz_41 K48.1
      have Kp_48 : Keep T41.heap T48.heap [cu] := Km.trans K48 (allS (Or.inl (List.mem_of_getElem? (i := 0) rfl)) (all0))
      have st49 : own_S p e below T48 (mkF m 121 #[.val (.int p0), .val (.int p1), .val (.int p2), .val (.int p3), .val (.int p4), .val (.int n), .val (.ref ca), .val (.ref cu), .val (.int stp), .val (.int p48), .unset] []) (mkF m 119 #[.val (.int p0), .val (.int p1), .val (.int p2), .val (.int p3), .val (.int p4), .val (.int n), .val (.ref ca), .val (.ref cu), .val (.int stp), .val (.int (0 : Int32)), .unset] [(.int p48)]) := by
        intro target kt
        refine XS.istore X48.here hx rfl (hb hby at_119) rfl (l' := #[.val (.int p0), .val (.int p1), .val (.int p2), .val (.int p3), .val (.int p4), .val (.int n), .val (.ref ca), .val (.ref cu), .val (.int stp), .val (.int p48), .unset]) rfl ?_
        exact kt
      exact ⟨p48, _, _, _, hp48, Ft48, Fa48, X48, rfl, Kp_48, N48, fun target kt => (st45 _ (st46 _ (st47 _ (st48 _ (st49 _ kt)))))⟩
    · have st50 : own_S p e below T41 (mkF m 121 #[.val (.int p0), .val (.int p1), .val (.int p2), .val (.int p3), .val (.int p4), .val (.int n), .val (.ref ca), .val (.ref cu), .val (.int stp), .val (.int (0 : Int32)), .unset] []) (mkF m 107 #[.val (.int p0), .val (.int p1), .val (.int p2), .val (.int p3), .val (.int p4), .val (.int n), .val (.ref ca), .val (.ref cu), .val (.int stp), .val (.int (0 : Int32)), .unset] [(.int stp)]) := by
        intro target kt
        refine XS.ifYes X41.here hx rfl (pc0 := 107) (pc' := 121) rfl (hb hby at_107) rfl ((if0 _ _).trans (flt gs_).2.2.2) (by decide) (by decide) ?_
        exact kt
      exact ⟨(0 : Int32), _, _, _, ⟨own_n0, (own_nn hN)⟩, F_text_cu_i, F_at_cu_i, X41, rfl, Km, N41, fun target kt => (st45 _ (st50 _ kt))⟩
  have Od_44 := Od_41.keep K44 (allS g_cu (all0))
  have p26_44 := p26_41.keep K44 (ninS ne_ca_cu nin0)
  have E_cu_i_44 := E_cu_i.keep K44
  have Et_44 := Et_41.keep K44
  have Fvt_44 := Fvt_41.keep K44 (ninS (Ne.symm ne_cu_t) nin0)
  have Ct_44 := Ct_41.keep K44 (ninS (Ne.symm ne_cu_t) nin0)
  have Vy_44 := Vy_41.keep K44 (ninS ne_yy_cu nin0)
  have Z_44 : n0 ≤ h44.size := Nat.le_trans Z_41 K44.1
  have kz_44 : k1_40 ≤ h44.size := Nat.le_trans kz_41 K44.1
  obtain ⟨pp1, T51, h51, L51, p51_0, p51_1, p51_2, X51, e51, K51, N51, st51⟩ : ∃ (pp1 : Int32) (T' : State) (h' : Heap) (L' : List Loc), (own_n pp1 ∧ ¬ n < pp1) ∧ (Fld Z h' cu "com/example/libbisim/libbisim/TextFormat$Cursor" "text" "Ljava/lang/String;" (.ref t)) ∧ (Fld Z h' cu "com/example/libbisim/libbisim/TextFormat$Cursor" "at" "I" (.int pp1)) ∧ Stand p l e room_1 (s.setVm T40.vm) m #[(.int p0), (.int p1), (.int p2), (.int p3), (.int p4)] below meth c T' L' 11 41 ∧ T'.heap = h' ∧ Keep h44 h' [cu] ∧ Fr n0 L' ∧ ∀ target, Steps p.tables e below (T'.setTop (mkF m 138 #[.val (.int p0), .val (.int p1), .val (.int p2), .val (.int p3), .val (.int p4), .val (.int n), .val (.ref ca), .val (.ref cu), .val (.int stp), .val (.int pp1), .unset] [])) target → Steps p.tables e below (T44.setTop (mkF m 121 #[.val (.int p0), .val (.int p1), .val (.int p2), .val (.int p3), .val (.int p4), .val (.int n), .val (.ref ca), .val (.ref cu), .val (.int stp), .val (.int pp0), .unset] [])) target := by
    have Km : Keep h44 h44 [cu] := Keep.refl _ _
    have st52 : own_S p e below T44 (mkF m 124 #[.val (.int p0), .val (.int p1), .val (.int p2), .val (.int p3), .val (.int p4), .val (.int n), .val (.ref ca), .val (.ref cu), .val (.int stp), .val (.int pp0), .unset] [(.int (1 : Int32)), (.int stp)]) (mkF m 121 #[.val (.int p0), .val (.int p1), .val (.int p2), .val (.int p3), .val (.int p4), .val (.int n), .val (.ref ca), .val (.ref cu), .val (.int stp), .val (.int pp0), .unset] []) := by
      intro target kt
      refine XS.iload X44.here hx rfl (hb hby at_121) rfl ?_
      refine XS.iconst X44.here hx rfl (hb hby at_123) ?_
      exact kt
    by_cases gs_ : (1 : Int32) < stp
    · have st53 : own_S p e below T44 (mkF m 127 #[.val (.int p0), .val (.int p1), .val (.int p2), .val (.int p3), .val (.int p4), .val (.int n), .val (.ref ca), .val (.ref cu), .val (.int stp), .val (.int pp0), .unset] []) (mkF m 124 #[.val (.int p0), .val (.int p1), .val (.int p2), .val (.int p3), .val (.int p4), .val (.int n), .val (.ref ca), .val (.ref cu), .val (.int stp), .val (.int pp0), .unset] [(.int (1 : Int32)), (.int stp)]) := by
        intro target kt
        refine XS.icmpNo X44.here hx rfl (hb hby at_124) rfl (tlt gs_).2.2.2 ?_
        exact kt
      have st54 : own_S p e below T44 (mkF m 133 #[.val (.int p0), .val (.int p1), .val (.int p2), .val (.int p3), .val (.int p4), .val (.int n), .val (.ref ca), .val (.ref cu), .val (.int stp), .val (.int pp0), .unset] [(.int pp0), (.ref ca), (.ref cu)]) (mkF m 127 #[.val (.int p0), .val (.int p1), .val (.int p2), .val (.int p3), .val (.int p4), .val (.int n), .val (.ref ca), .val (.ref cu), .val (.int stp), .val (.int pp0), .unset] []) := by
        intro target kt
        refine XS.aload X44.here hx rfl (hb hby at_127) rfl rfl ?_
        refine XS.aload X44.here hx rfl (hb hby at_129) rfl rfl ?_
        refine XS.iload X44.here hx rfl (hb hby at_131) rfl ?_
        exact kt
      obtain ⟨_, _, ⟨T55, L55, k55, n55⟩, -, X55, ⟨Lc55, hQ55, l55, y55, z55⟩, st55⟩ := Jvm.LawKit.callS X44 hx (y := (⟨"com/example/libbisim/libbisim/CursorCommaFollowsPinLaw", "step", "(Lcom/example/libbisim/libbisim/TextFormat$Cursor;[CI)I"⟩ : MethodName)) hown (mvT hZ (own_w hw 122 rfl)) (mvT hZ (own_w hw 123 rfl)) (mvT hZ (own_w hw 42 rfl)) (mvT hZ (own_w hw 124 rfl)) (by decide) (backOf (W := 0) (rmSt l Z a0 hw [] cu ca pp0 cs fm t yy ky cd nb vs n d0_ d1_ d2_ d3_ k3 h44 n0 Z_44 SB Od_44 p44_1 p44_2 E_cu_i_44 g_cu Fvt_44 Ct_44 Et_44 Vy_44 hcd hN hch p44_0.1 p44_0.2 p26_44) hZ (own_w hw 124 rfl) (own_w hw 42 rfl) (by decide) (by decide)) (g := (mkF m 133 #[.val (.int p0), .val (.int p1), .val (.int p2), .val (.int p3), .val (.int p4), .val (.int n), .val (.ref ca), .val (.ref cu), .val (.int stp), .val (.int pp0), .unset] [(.int pp0), (.ref ca), (.ref cu)])) rfl (by rw [hml]; rfl) (argsL := [(.ref cu), (.ref ca), (.int pp0)]) (rest := []) (lenOf pd_19 rfl) rfl (by show 2 * 0 + _ ≤ _; exact Nat.le_of_eq rfl) (hb hby at_133) (fun _ _ => ⟨rfl, e44, (by decide : 11 + 0 ≤ _), (by decide : 41 + 0 ≤ _)⟩)
      dsimp only [Pt.U, Pt.locs, Pt.cells, Pt.slots] at X55 l55 y55 z55 st55 hQ55
      subst l55 y55 z55
      obtain ⟨p55, hp55, rfl, Nq55, K55, Ft55, Fa55⟩ := hQ55
      have N55 := Fr.app N44 Nq55
      have Od_55 := Od_44.keep K55 (allS g_cu (all0))
      have p26_55 := p26_44.keep K55 (ninS ne_ca_cu nin0)
      have E_cu_i_55 := E_cu_i_44.keep K55
      have Et_55 := Et_44.keep K55
      have Fvt_55 := Fvt_44.keep K55 (ninS (Ne.symm ne_cu_t) nin0)
      have Ct_55 := Ct_44.keep K55 (ninS (Ne.symm ne_cu_t) nin0)
      have Vy_55 := Vy_44.keep K55 (ninS ne_yy_cu nin0)
      have Z_55 : n0 ≤ T55.heap.size := Nat.le_trans Z_44 K55.1
      have kz_55 : k1_40 ≤ T55.heap.size := Nat.le_trans kz_44 K55.1
      have Kp_55 : Keep h44 T55.heap [cu] := Km.trans K55 (allS (Or.inl (List.mem_of_getElem? (i := 0) rfl)) (all0))
      have st56 : own_S p e below T55 (mkF m 138 #[.val (.int p0), .val (.int p1), .val (.int p2), .val (.int p3), .val (.int p4), .val (.int n), .val (.ref ca), .val (.ref cu), .val (.int stp), .val (.int p55), .unset] []) (mkF m 136 #[.val (.int p0), .val (.int p1), .val (.int p2), .val (.int p3), .val (.int p4), .val (.int n), .val (.ref ca), .val (.ref cu), .val (.int stp), .val (.int pp0), .unset] [(.int p55)]) := by
        intro target kt
        refine XS.istore X55.here hx rfl (hb hby at_136) rfl (l' := #[.val (.int p0), .val (.int p1), .val (.int p2), .val (.int p3), .val (.int p4), .val (.int n), .val (.ref ca), .val (.ref cu), .val (.int stp), .val (.int p55), .unset]) rfl ?_
        exact kt
      exact ⟨p55, _, _, _, hp55, Ft55, Fa55, X55, rfl, Kp_55, N55, fun target kt => (st52 _ (st53 _ (st54 _ (st55 _ (st56 _ kt)))))⟩
    · have st57 : own_S p e below T44 (mkF m 138 #[.val (.int p0), .val (.int p1), .val (.int p2), .val (.int p3), .val (.int p4), .val (.int n), .val (.ref ca), .val (.ref cu), .val (.int stp), .val (.int pp0), .unset] []) (mkF m 124 #[.val (.int p0), .val (.int p1), .val (.int p2), .val (.int p3), .val (.int p4), .val (.int n), .val (.ref ca), .val (.ref cu), .val (.int stp), .val (.int pp0), .unset] [(.int (1 : Int32)), (.int stp)]) := by
        intro target kt
        refine XS.icmpYes X44.here hx rfl (pc0 := 124) (pc' := 138) rfl (hb hby at_124) rfl (flt gs_).2.2.2 (by decide) (by decide) ?_
        exact kt
      exact ⟨pp0, _, _, _, ⟨p44_0.1, p44_0.2⟩, p44_1, p44_2, X44, e44, Km, N44, fun target kt => (st52 _ (st57 _ kt))⟩
  have Od_51 := Od_44.keep K51 (allS g_cu (all0))
  have p26_51 := p26_44.keep K51 (ninS ne_ca_cu nin0)
  have E_cu_i_51 := E_cu_i_44.keep K51
  have Et_51 := Et_44.keep K51
  have Fvt_51 := Fvt_44.keep K51 (ninS (Ne.symm ne_cu_t) nin0)
  have Ct_51 := Ct_44.keep K51 (ninS (Ne.symm ne_cu_t) nin0)
  have Vy_51 := Vy_44.keep K51 (ninS ne_yy_cu nin0)
  have Z_51 : n0 ≤ h51.size := Nat.le_trans Z_44 K51.1
  have kz_51 : k1_40 ≤ h51.size := Nat.le_trans kz_44 K51.1
  obtain ⟨pp2, T58, h58, L58, p58_0, p58_1, p58_2, X58, e58, K58, N58, st58⟩ : ∃ (pp2 : Int32) (T' : State) (h' : Heap) (L' : List Loc), (own_n pp2 ∧ ¬ n < pp2) ∧ (Fld Z h' cu "com/example/libbisim/libbisim/TextFormat$Cursor" "text" "Ljava/lang/String;" (.ref t)) ∧ (Fld Z h' cu "com/example/libbisim/libbisim/TextFormat$Cursor" "at" "I" (.int pp2)) ∧ Stand p l e room_1 (s.setVm T40.vm) m #[(.int p0), (.int p1), (.int p2), (.int p3), (.int p4)] below meth c T' L' 11 41 ∧ T'.heap = h' ∧ Keep h51 h' [cu] ∧ Fr n0 L' ∧ ∀ target, Steps p.tables e below (T'.setTop (mkF m 155 #[.val (.int p0), .val (.int p1), .val (.int p2), .val (.int p3), .val (.int p4), .val (.int n), .val (.ref ca), .val (.ref cu), .val (.int stp), .val (.int pp2), .unset] [])) target → Steps p.tables e below (T51.setTop (mkF m 138 #[.val (.int p0), .val (.int p1), .val (.int p2), .val (.int p3), .val (.int p4), .val (.int n), .val (.ref ca), .val (.ref cu), .val (.int stp), .val (.int pp1), .unset] [])) target := by
    have Km : Keep h51 h51 [cu] := Keep.refl _ _
    have st59 : own_S p e below T51 (mkF m 141 #[.val (.int p0), .val (.int p1), .val (.int p2), .val (.int p3), .val (.int p4), .val (.int n), .val (.ref ca), .val (.ref cu), .val (.int stp), .val (.int pp1), .unset] [(.int (2 : Int32)), (.int stp)]) (mkF m 138 #[.val (.int p0), .val (.int p1), .val (.int p2), .val (.int p3), .val (.int p4), .val (.int n), .val (.ref ca), .val (.ref cu), .val (.int stp), .val (.int pp1), .unset] []) := by
      intro target kt
      refine XS.iload X51.here hx rfl (hb hby at_138) rfl ?_
      refine XS.iconst X51.here hx rfl (hb hby at_140) ?_
      exact kt
    by_cases gs_ : (2 : Int32) < stp
    · have st60 : own_S p e below T51 (mkF m 144 #[.val (.int p0), .val (.int p1), .val (.int p2), .val (.int p3), .val (.int p4), .val (.int n), .val (.ref ca), .val (.ref cu), .val (.int stp), .val (.int pp1), .unset] []) (mkF m 141 #[.val (.int p0), .val (.int p1), .val (.int p2), .val (.int p3), .val (.int p4), .val (.int n), .val (.ref ca), .val (.ref cu), .val (.int stp), .val (.int pp1), .unset] [(.int (2 : Int32)), (.int stp)]) := by
        intro target kt
        refine XS.icmpNo X51.here hx rfl (hb hby at_141) rfl (tlt gs_).2.2.2 ?_
        exact kt
      have st61 : own_S p e below T51 (mkF m 150 #[.val (.int p0), .val (.int p1), .val (.int p2), .val (.int p3), .val (.int p4), .val (.int n), .val (.ref ca), .val (.ref cu), .val (.int stp), .val (.int pp1), .unset] [(.int pp1), (.ref ca), (.ref cu)]) (mkF m 144 #[.val (.int p0), .val (.int p1), .val (.int p2), .val (.int p3), .val (.int p4), .val (.int n), .val (.ref ca), .val (.ref cu), .val (.int stp), .val (.int pp1), .unset] []) := by
        intro target kt
        refine XS.aload X51.here hx rfl (hb hby at_144) rfl rfl ?_
        refine XS.aload X51.here hx rfl (hb hby at_146) rfl rfl ?_
        refine XS.iload X51.here hx rfl (hb hby at_148) rfl ?_
        exact kt
      obtain ⟨_, _, ⟨T62, L62, k62, n62⟩, -, X62, ⟨Lc62, hQ62, l62, y62, z62⟩, st62⟩ := Jvm.LawKit.callS X51 hx (y := (⟨"com/example/libbisim/libbisim/CursorCommaFollowsPinLaw", "step", "(Lcom/example/libbisim/libbisim/TextFormat$Cursor;[CI)I"⟩ : MethodName)) hown (mvT hZ (own_w hw 122 rfl)) (mvT hZ (own_w hw 123 rfl)) (mvT hZ (own_w hw 42 rfl)) (mvT hZ (own_w hw 124 rfl)) (by decide) (backOf (W := 0) (rmSt l Z a0 hw [] cu ca pp1 cs fm t yy ky cd nb vs n d0_ d1_ d2_ d3_ k3 h51 n0 Z_51 SB Od_51 p51_1 p51_2 E_cu_i_51 g_cu Fvt_51 Ct_51 Et_51 Vy_51 hcd hN hch p51_0.1 p51_0.2 p26_51) hZ (own_w hw 124 rfl) (own_w hw 42 rfl) (by decide) (by decide)) (g := (mkF m 150 #[.val (.int p0), .val (.int p1), .val (.int p2), .val (.int p3), .val (.int p4), .val (.int n), .val (.ref ca), .val (.ref cu), .val (.int stp), .val (.int pp1), .unset] [(.int pp1), (.ref ca), (.ref cu)])) rfl (by rw [hml]; rfl) (argsL := [(.ref cu), (.ref ca), (.int pp1)]) (rest := []) (lenOf pd_19 rfl) rfl (by show 2 * 0 + _ ≤ _; exact Nat.le_of_eq rfl) (hb hby at_150) (fun _ _ => ⟨rfl, e51, (by decide : 11 + 0 ≤ _), (by decide : 41 + 0 ≤ _)⟩)
      dsimp only [Pt.U, Pt.locs, Pt.cells, Pt.slots] at X62 l62 y62 z62 st62 hQ62
      subst l62 y62 z62
      obtain ⟨p62, hp62, rfl, Nq62, K62, Ft62, Fa62⟩ := hQ62
      have N62 := Fr.app N51 Nq62
      have Od_62 := Od_51.keep K62 (allS g_cu (all0))
      have p26_62 := p26_51.keep K62 (ninS ne_ca_cu nin0)
      have E_cu_i_62 := E_cu_i_51.keep K62
      have Et_62 := Et_51.keep K62
      have Fvt_62 := Fvt_51.keep K62 (ninS (Ne.symm ne_cu_t) nin0)
      have Ct_62 := Ct_51.keep K62 (ninS (Ne.symm ne_cu_t) nin0)
      have Vy_62 := Vy_51.keep K62 (ninS ne_yy_cu nin0)
      have Z_62 : n0 ≤ T62.heap.size := Nat.le_trans Z_51 K62.1
      have kz_62 : k1_40 ≤ T62.heap.size := Nat.le_trans kz_51 K62.1
      have Kp_62 : Keep h51 T62.heap [cu] := Km.trans K62 (allS (Or.inl (List.mem_of_getElem? (i := 0) rfl)) (all0))
      have st63 : own_S p e below T62 (mkF m 155 #[.val (.int p0), .val (.int p1), .val (.int p2), .val (.int p3), .val (.int p4), .val (.int n), .val (.ref ca), .val (.ref cu), .val (.int stp), .val (.int p62), .unset] []) (mkF m 153 #[.val (.int p0), .val (.int p1), .val (.int p2), .val (.int p3), .val (.int p4), .val (.int n), .val (.ref ca), .val (.ref cu), .val (.int stp), .val (.int pp1), .unset] [(.int p62)]) := by
        intro target kt
        refine XS.istore X62.here hx rfl (hb hby at_153) rfl (l' := #[.val (.int p0), .val (.int p1), .val (.int p2), .val (.int p3), .val (.int p4), .val (.int n), .val (.ref ca), .val (.ref cu), .val (.int stp), .val (.int p62), .unset]) rfl ?_
        exact kt
      exact ⟨p62, _, _, _, hp62, Ft62, Fa62, X62, rfl, Kp_62, N62, fun target kt => (st59 _ (st60 _ (st61 _ (st62 _ (st63 _ kt)))))⟩
    · have st64 : own_S p e below T51 (mkF m 155 #[.val (.int p0), .val (.int p1), .val (.int p2), .val (.int p3), .val (.int p4), .val (.int n), .val (.ref ca), .val (.ref cu), .val (.int stp), .val (.int pp1), .unset] []) (mkF m 141 #[.val (.int p0), .val (.int p1), .val (.int p2), .val (.int p3), .val (.int p4), .val (.int n), .val (.ref ca), .val (.ref cu), .val (.int stp), .val (.int pp1), .unset] [(.int (2 : Int32)), (.int stp)]) := by
        intro target kt
        refine XS.icmpYes X51.here hx rfl (pc0 := 141) (pc' := 155) rfl (hb hby at_141) rfl (flt gs_).2.2.2 (by decide) (by decide) ?_
        exact kt
      exact ⟨pp1, _, _, _, ⟨p51_0.1, p51_0.2⟩, p51_1, p51_2, X51, e51, Km, N51, fun target kt => (st59 _ (st64 _ kt))⟩
  have Od_58 := Od_51.keep K58 (allS g_cu (all0))
  have p26_58 := p26_51.keep K58 (ninS ne_ca_cu nin0)
  have E_cu_i_58 := E_cu_i_51.keep K58
  have Et_58 := Et_51.keep K58
  have Fvt_58 := Fvt_51.keep K58 (ninS (Ne.symm ne_cu_t) nin0)
  have Ct_58 := Ct_51.keep K58 (ninS (Ne.symm ne_cu_t) nin0)
  have Vy_58 := Vy_51.keep K58 (ninS ne_yy_cu nin0)
  have Z_58 : n0 ≤ h58.size := Nat.le_trans Z_51 K58.1
  have kz_58 : k1_40 ≤ h58.size := Nat.le_trans kz_51 K58.1
  have st65 : own_S p e below T58 (mkF m 160 #[.val (.int p0), .val (.int p1), .val (.int p2), .val (.int p3), .val (.int p4), .val (.int n), .val (.ref ca), .val (.ref cu), .val (.int stp), .val (.int pp2), .unset] [(.int pp2), (.int (0 : Int32)), (.ref ca)]) (mkF m 155 #[.val (.int p0), .val (.int p1), .val (.int p2), .val (.int p3), .val (.int p4), .val (.int n), .val (.ref ca), .val (.ref cu), .val (.int stp), .val (.int pp2), .unset] []) := by
    intro target kt
    refine XS.aload X58.here hx rfl (hb hby at_155) rfl rfl ?_
    refine XS.iconst X58.here hx rfl (hb hby at_157) ?_
    refine XS.iload X58.here hx rfl (hb hby at_158) rfl ?_
    exact kt
  obtain ⟨_, _, ⟨T66, L66, k66, n66⟩, -, X66, ⟨Lc66, hQ66, l66, y66, z66⟩, st66⟩ := Jvm.LawKit.callS X58 hx (y := (⟨"com/example/libbisim/libbisim/CursorCommaFollowsPinLaw", "commaAt", "([CII)Z"⟩ : MethodName)) hown (mvT hZ (own_w hw 40 rfl)) (mvT hZ (own_w hw 41 rfl)) (mvT hZ (own_w hw 42 rfl)) (mvT hZ (own_w hw 43 rfl)) (by decide) (backOf (W := 0) (rmCa l Z a0 hw [] ca (0 : Int32) pp2 k3 n d0_ d1_ d2_ d3_ h58 n0 Z_58 p26_58 hN own_n0) hZ (own_w hw 43 rfl) (own_w hw 42 rfl) (by decide) (by decide)) (g := (mkF m 160 #[.val (.int p0), .val (.int p1), .val (.int p2), .val (.int p3), .val (.int p4), .val (.int n), .val (.ref ca), .val (.ref cu), .val (.int stp), .val (.int pp2), .unset] [(.int pp2), (.int (0 : Int32)), (.ref ca)])) rfl (by rw [hml]; rfl) (argsL := [(.ref ca), (.int (0 : Int32)), (.int pp2)]) (rest := []) (lenOf pd_4 rfl) rfl (by show 2 * 0 + _ ≤ _; exact Nat.le_of_eq rfl) (hb hby at_160) (fun _ _ => ⟨rfl, e58, (by decide : 11 + 0 ≤ _), (by decide : 41 + 0 ≤ _)⟩)
  dsimp only [Pt.U, Pt.locs, Pt.cells, Pt.slots] at X66 l66 y66 z66 st66 hQ66
  subst l66 y66 z66
  obtain ⟨b66, hb66, rfl, Nq66, e66⟩ := hQ66
  have N66 := Fr.app N58 Nq66
  by_cases he_0 : b66 = (0 : Int32)
  · have st67 : own_S p e below T66 (mkF m 166 #[.val (.int p0), .val (.int p1), .val (.int p2), .val (.int p3), .val (.int p4), .val (.int n), .val (.ref ca), .val (.ref cu), .val (.int stp), .val (.int pp2), .unset] []) (mkF m 163 #[.val (.int p0), .val (.int p1), .val (.int p2), .val (.int p3), .val (.int p4), .val (.int n), .val (.ref ca), .val (.ref cu), .val (.int stp), .val (.int pp2), .unset] [(.int b66)]) := by
      intro target kt
      refine XS.ifNo X66.here hx rfl (hb hby at_163) rfl ((if0 _ _).trans (teq he_0).2) ?_
      exact kt
    have st68 : own_S p e below T66 (mkF m 171 #[.val (.int p0), .val (.int p1), .val (.int p2), .val (.int p3), .val (.int p4), .val (.int n), .val (.ref ca), .val (.ref cu), .val (.int stp), .val (.int pp2), .unset] [(.int pp2), (.int (1 : Int32)), (.ref ca)]) (mkF m 166 #[.val (.int p0), .val (.int p1), .val (.int p2), .val (.int p3), .val (.int p4), .val (.int n), .val (.ref ca), .val (.ref cu), .val (.int stp), .val (.int pp2), .unset] []) := by
      intro target kt
      refine XS.aload X66.here hx rfl (hb hby at_166) rfl rfl ?_
      refine XS.iconst X66.here hx rfl (hb hby at_168) ?_
      refine XS.iload X66.here hx rfl (hb hby at_169) rfl ?_
      exact kt
    obtain ⟨_, _, ⟨T69, L69, k69, n69⟩, -, X69, ⟨Lc69, hQ69, l69, y69, z69⟩, st69⟩ := Jvm.LawKit.callS X66 hx (y := (⟨"com/example/libbisim/libbisim/CursorCommaFollowsPinLaw", "commaAt", "([CII)Z"⟩ : MethodName)) hown (mvT hZ (own_w hw 40 rfl)) (mvT hZ (own_w hw 41 rfl)) (mvT hZ (own_w hw 42 rfl)) (mvT hZ (own_w hw 43 rfl)) (by decide) (backOf (W := 0) (rmCa l Z a0 hw [] ca (1 : Int32) pp2 k3 n d0_ d1_ d2_ d3_ h58 n0 Z_58 p26_58 hN own_n1) hZ (own_w hw 43 rfl) (own_w hw 42 rfl) (by decide) (by decide)) (g := (mkF m 171 #[.val (.int p0), .val (.int p1), .val (.int p2), .val (.int p3), .val (.int p4), .val (.int n), .val (.ref ca), .val (.ref cu), .val (.int stp), .val (.int pp2), .unset] [(.int pp2), (.int (1 : Int32)), (.ref ca)])) rfl (by rw [hml]; rfl) (argsL := [(.ref ca), (.int (1 : Int32)), (.int pp2)]) (rest := []) (lenOf pd_4 rfl) rfl (by show 2 * 0 + _ ≤ _; exact Nat.le_of_eq rfl) (hb hby at_171) (fun _ _ => ⟨rfl, e66, (by decide : 11 + 0 ≤ _), (by decide : 41 + 0 ≤ _)⟩)
    dsimp only [Pt.U, Pt.locs, Pt.cells, Pt.slots] at X69 l69 y69 z69 st69 hQ69
    subst l69 y69 z69
    obtain ⟨b69, hb69, rfl, Nq69, e69⟩ := hQ69
    have N69 := Fr.app N66 Nq69
    by_cases he_1 : b69 = (0 : Int32)
    · have st70 : own_S p e below T69 (mkF m 177 #[.val (.int p0), .val (.int p1), .val (.int p2), .val (.int p3), .val (.int p4), .val (.int n), .val (.ref ca), .val (.ref cu), .val (.int stp), .val (.int pp2), .unset] []) (mkF m 174 #[.val (.int p0), .val (.int p1), .val (.int p2), .val (.int p3), .val (.int p4), .val (.int n), .val (.ref ca), .val (.ref cu), .val (.int stp), .val (.int pp2), .unset] [(.int b69)]) := by
        intro target kt
        refine XS.ifNo X69.here hx rfl (hb hby at_174) rfl ((if0 _ _).trans (teq he_1).2) ?_
        exact kt
      have st71 : own_S p e below T69 (mkF m 182 #[.val (.int p0), .val (.int p1), .val (.int p2), .val (.int p3), .val (.int p4), .val (.int n), .val (.ref ca), .val (.ref cu), .val (.int stp), .val (.int pp2), .unset] [(.int pp2), (.int (2 : Int32)), (.ref ca)]) (mkF m 177 #[.val (.int p0), .val (.int p1), .val (.int p2), .val (.int p3), .val (.int p4), .val (.int n), .val (.ref ca), .val (.ref cu), .val (.int stp), .val (.int pp2), .unset] []) := by
        intro target kt
        refine XS.aload X69.here hx rfl (hb hby at_177) rfl rfl ?_
        refine XS.iconst X69.here hx rfl (hb hby at_179) ?_
        refine XS.iload X69.here hx rfl (hb hby at_180) rfl ?_
        exact kt
      obtain ⟨_, _, ⟨T72, L72, k72, n72⟩, -, X72, ⟨Lc72, hQ72, l72, y72, z72⟩, st72⟩ := Jvm.LawKit.callS X69 hx (y := (⟨"com/example/libbisim/libbisim/CursorCommaFollowsPinLaw", "commaAt", "([CII)Z"⟩ : MethodName)) hown (mvT hZ (own_w hw 40 rfl)) (mvT hZ (own_w hw 41 rfl)) (mvT hZ (own_w hw 42 rfl)) (mvT hZ (own_w hw 43 rfl)) (by decide) (backOf (W := 0) (rmCa l Z a0 hw [] ca (2 : Int32) pp2 k3 n d0_ d1_ d2_ d3_ h58 n0 Z_58 p26_58 hN own_n2) hZ (own_w hw 43 rfl) (own_w hw 42 rfl) (by decide) (by decide)) (g := (mkF m 182 #[.val (.int p0), .val (.int p1), .val (.int p2), .val (.int p3), .val (.int p4), .val (.int n), .val (.ref ca), .val (.ref cu), .val (.int stp), .val (.int pp2), .unset] [(.int pp2), (.int (2 : Int32)), (.ref ca)])) rfl (by rw [hml]; rfl) (argsL := [(.ref ca), (.int (2 : Int32)), (.int pp2)]) (rest := []) (lenOf pd_4 rfl) rfl (by show 2 * 0 + _ ≤ _; exact Nat.le_of_eq rfl) (hb hby at_182) (fun _ _ => ⟨rfl, e69, (by decide : 11 + 0 ≤ _), (by decide : 41 + 0 ≤ _)⟩)
      dsimp only [Pt.U, Pt.locs, Pt.cells, Pt.slots] at X72 l72 y72 z72 st72 hQ72
      subst l72 y72 z72
      obtain ⟨b72, hb72, rfl, Nq72, e72⟩ := hQ72
      have N72 := Fr.app N69 Nq72
      by_cases he_2 : b72 = (0 : Int32)
      · have st73 : own_S p e below T72 (mkF m 188 #[.val (.int p0), .val (.int p1), .val (.int p2), .val (.int p3), .val (.int p4), .val (.int n), .val (.ref ca), .val (.ref cu), .val (.int stp), .val (.int pp2), .unset] []) (mkF m 185 #[.val (.int p0), .val (.int p1), .val (.int p2), .val (.int p3), .val (.int p4), .val (.int n), .val (.ref ca), .val (.ref cu), .val (.int stp), .val (.int pp2), .unset] [(.int b72)]) := by
          intro target kt
          refine XS.ifNo X72.here hx rfl (hb hby at_185) rfl ((if0 _ _).trans (teq he_2).2) ?_
          exact kt
        have st74 : own_S p e below T72 (mkF m 193 #[.val (.int p0), .val (.int p1), .val (.int p2), .val (.int p3), .val (.int p4), .val (.int n), .val (.ref ca), .val (.ref cu), .val (.int stp), .val (.int pp2), .unset] [(.int pp2), (.int (3 : Int32)), (.ref ca)]) (mkF m 188 #[.val (.int p0), .val (.int p1), .val (.int p2), .val (.int p3), .val (.int p4), .val (.int n), .val (.ref ca), .val (.ref cu), .val (.int stp), .val (.int pp2), .unset] []) := by
          intro target kt
          refine XS.aload X72.here hx rfl (hb hby at_188) rfl rfl ?_
          refine XS.iconst X72.here hx rfl (hb hby at_190) ?_
          refine XS.iload X72.here hx rfl (hb hby at_191) rfl ?_
          exact kt
        obtain ⟨_, _, ⟨T75, L75, k75, n75⟩, -, X75, ⟨Lc75, hQ75, l75, y75, z75⟩, st75⟩ := Jvm.LawKit.callS X72 hx (y := (⟨"com/example/libbisim/libbisim/CursorCommaFollowsPinLaw", "commaAt", "([CII)Z"⟩ : MethodName)) hown (mvT hZ (own_w hw 40 rfl)) (mvT hZ (own_w hw 41 rfl)) (mvT hZ (own_w hw 42 rfl)) (mvT hZ (own_w hw 43 rfl)) (by decide) (backOf (W := 0) (rmCa l Z a0 hw [] ca (3 : Int32) pp2 k3 n d0_ d1_ d2_ d3_ h58 n0 Z_58 p26_58 hN own_n3) hZ (own_w hw 43 rfl) (own_w hw 42 rfl) (by decide) (by decide)) (g := (mkF m 193 #[.val (.int p0), .val (.int p1), .val (.int p2), .val (.int p3), .val (.int p4), .val (.int n), .val (.ref ca), .val (.ref cu), .val (.int stp), .val (.int pp2), .unset] [(.int pp2), (.int (3 : Int32)), (.ref ca)])) rfl (by rw [hml]; rfl) (argsL := [(.ref ca), (.int (3 : Int32)), (.int pp2)]) (rest := []) (lenOf pd_4 rfl) rfl (by show 2 * 0 + _ ≤ _; exact Nat.le_of_eq rfl) (hb hby at_193) (fun _ _ => ⟨rfl, e72, (by decide : 11 + 0 ≤ _), (by decide : 41 + 0 ≤ _)⟩)
        dsimp only [Pt.U, Pt.locs, Pt.cells, Pt.slots] at X75 l75 y75 z75 st75 hQ75
        subst l75 y75 z75
        obtain ⟨b75, hb75, rfl, Nq75, e75⟩ := hQ75
        have N75 := Fr.app N72 Nq75
        by_cases he_3 : b75 = (0 : Int32)
        · have st76 : own_S p e below T75 (mkF m 203 #[.val (.int p0), .val (.int p1), .val (.int p2), .val (.int p3), .val (.int p4), .val (.int n), .val (.ref ca), .val (.ref cu), .val (.int stp), .val (.int pp2), .unset] []) (mkF m 196 #[.val (.int p0), .val (.int p1), .val (.int p2), .val (.int p3), .val (.int p4), .val (.int n), .val (.ref ca), .val (.ref cu), .val (.int stp), .val (.int pp2), .unset] [(.int b75)]) := by
            intro target kt
            refine XS.ifYes X75.here hx rfl (pc0 := 196) (pc' := 203) rfl (hb hby at_196) rfl ((if0 _ _).trans (teq he_3).1) (by decide) (by decide) ?_
            exact kt
          have hP : ¬ own_cf n d0_ d1_ d2_ d3_ 5 pp2 := fun q => by
            rcases (own_fin p58_0.1 hN).mp q with q | q | q | q
            · exact (hb66.mp he_0) q
            · exact (hb69.mp he_1) q
            · exact (hb72.mp he_2) q
            · exact (hb75.mp he_3) q
          have st77 : own_S p e below T75 (mkF m 208 #[.val (.int p0), .val (.int p1), .val (.int p2), .val (.int p3), .val (.int p4), .val (.int n), .val (.ref ca), .val (.ref cu), .val (.int stp), .val (.int pp2), .val (.int (0 : Int32))] [(.ref cu)]) (mkF m 203 #[.val (.int p0), .val (.int p1), .val (.int p2), .val (.int p3), .val (.int p4), .val (.int n), .val (.ref ca), .val (.ref cu), .val (.int stp), .val (.int pp2), .unset] []) := by
            intro target kt
            refine XS.iconst X75.here hx rfl (hb hby at_203) ?_
            refine XS.istore X75.here hx rfl (hb hby at_204) rfl (l' := #[.val (.int p0), .val (.int p1), .val (.int p2), .val (.int p3), .val (.int p4), .val (.int n), .val (.ref ca), .val (.ref cu), .val (.int stp), .val (.int pp2), .val (.int (0 : Int32))]) rfl ?_
            refine XS.aload X75.here hx rfl (hb hby at_206) rfl rfl ?_
            exact kt
          obtain ⟨cq78, kq78, qv78a, qv78b, qv78c⟩ := isOf hZ e75 E_cu_i_58
          obtain ⟨_, _, ⟨T78, L78, k78, n78⟩, -, X78, ⟨Lc78, hQ78, l78, y78, z78⟩, st78⟩ := X75.virtualBack hx (y := (⟨"com/example/libbisim/libbisim/TextFormat$Cursor", "commaFollows", "()Z"⟩ : MethodName)) (z := (⟨"com/example/libbisim/libbisim/TextFormat$Cursor", "commaFollows", "()Z"⟩ : MethodName)) hown (mvT hZ (own_w hw 44 rfl)) (mvT hZ (own_w hw 45 rfl)) (notFace_of_selects (args := #[]) (mvT hZ (own_w hw 47 rfl))) (mvT hZ (own_w hw 47 rfl)) (mvT hZ (own_w hw 46 rfl)) (by decide) (backOf (W := 0) (rmCf l Z a0 hw [] cu cs fm t yy ky cd nb vs n d0_ d1_ d2_ d3_ pp2 h58 n0 Z_58 SB Od_58 p58_1 p58_2 E_cu_i_58 Fvt_58 Ct_58 Et_58 Vy_58 hcd hN hch p58_0.1) hZ (own_w hw 48 rfl) (own_w hw 4 rfl) (by decide) (by decide)) qv78a qv78c (g := (mkF m 208 #[.val (.int p0), .val (.int p1), .val (.int p2), .val (.int p3), .val (.int p4), .val (.int n), .val (.ref ca), .val (.ref cu), .val (.int stp), .val (.int pp2), .val (.int (0 : Int32))] [(.ref cu)])) rfl (by rw [hml]; rfl) (Steps.refl _) (argsL := []) (rest := []) (lenOf pd_5 rfl) rfl (by show 2 * 0 + _ ≤ _; exact Nat.le_of_eq rfl) (hb hby at_208) (fun _ _ => ⟨rfl, e75, (by decide : 11 + 0 ≤ _), (by decide : 41 + 0 ≤ _)⟩)
          dsimp only [Pt.U, Pt.locs, Pt.cells, Pt.slots] at X78 l78 y78 z78 st78 hQ78
          subst l78 y78 z78
          obtain ⟨z78, hz78, rfl, Nq78, e78⟩ := hQ78
          have N78 := Fr.app N75 Nq78
          obtain ⟨fs, hr, hrun, hended, hRW⟩ := Jvm.Stand.leaveW (s := s) X78 hS (by rw [e78]; exact kz_58) (v := some (.int (1 : Int32))) (fun h => by rw [Bd.returns] at h; cases h)
          refine ⟨_, _, pre0 _ (st1 _ (st2 _ (st3 _ (st4 _ (st5 _ (st12 _ (st19 _ (st26 _ (st33 _ (st34 _ (st35 _ (st36 _ (st37.trans (st38 _ (st39 _ (st40 _ (st41.trans (st42 _ (st43 _ (st44 _ (st51 _ (st58 _ (st65 _ (st66 _ (st67 _ (st68 _ (st69 _ (st70 _ (st71 _ (st72 _ (st73 _ (st74 _ (st75 _ (st76 _ (st77 _ (st78.trans ?_)))))))))))))))))))))))))))))))))))), hrun, hended, _, _, rfl, ?_, hRW.1, hRW.2.1, hRW.2.2.1, hRW.2.2.2.mono (by decide) (by decide)⟩
          · refine XS.iload X78.here hx rfl (hb hby at_211) rfl ?_
            refine XS.icmpNo X78.here hx rfl (hb hby at_213) rfl (teq (own_z0 hz78 hP)).2 ?_
            refine XS.iconst X78.here hx rfl (hb hby at_216) ?_
            refine XS.goto X78.here hx rfl (pc0 := 217) (pc' := 221) rfl (hb hby at_217) (by decide) (by decide) ?_
            show Steps p.tables e below (T78.setTop (mkF m 221 #[.val (.int p0), .val (.int p1), .val (.int p2), .val (.int p3), .val (.int p4), .val (.int n), .val (.ref ca), .val (.ref cu), .val (.int stp), .val (.int pp2), .val (.int (0 : Int32))] [(.int (1 : Int32))])) _
            exact retN X78 hx (t := .boolean) Bd.returns (by simp) (hb hby at_221) hr
          · show Q_rm0 Z p0 p1 p2 p3 p4 cs fm h0 n0 _ T78.heap _
            rw [e78]
            exact ⟨rfl, N78⟩
        · have st79 : own_S p e below T75 (mkF m 199 #[.val (.int p0), .val (.int p1), .val (.int p2), .val (.int p3), .val (.int p4), .val (.int n), .val (.ref ca), .val (.ref cu), .val (.int stp), .val (.int pp2), .unset] []) (mkF m 196 #[.val (.int p0), .val (.int p1), .val (.int p2), .val (.int p3), .val (.int p4), .val (.int n), .val (.ref ca), .val (.ref cu), .val (.int stp), .val (.int pp2), .unset] [(.int b75)]) := by
            intro target kt
            refine XS.ifNo X75.here hx rfl (hb hby at_196) rfl ((if0 _ _).trans (feq he_3).1) ?_
            exact kt
          have hP : own_cf n d0_ d1_ d2_ d3_ 5 pp2 := (own_fin p58_0.1 hN).mpr (Or.inr (Or.inr (Or.inr (own_bn hb75 he_3))))
          have st80 : own_S p e below T75 (mkF m 208 #[.val (.int p0), .val (.int p1), .val (.int p2), .val (.int p3), .val (.int p4), .val (.int n), .val (.ref ca), .val (.ref cu), .val (.int stp), .val (.int pp2), .val (.int (1 : Int32))] [(.ref cu)]) (mkF m 199 #[.val (.int p0), .val (.int p1), .val (.int p2), .val (.int p3), .val (.int p4), .val (.int n), .val (.ref ca), .val (.ref cu), .val (.int stp), .val (.int pp2), .unset] []) := by
            intro target kt
            refine XS.iconst X75.here hx rfl (hb hby at_199) ?_
            refine XS.goto X75.here hx rfl (pc0 := 200) (pc' := 204) rfl (hb hby at_200) (by decide) (by decide) ?_
            refine XS.istore X75.here hx rfl (hb hby at_204) rfl (l' := #[.val (.int p0), .val (.int p1), .val (.int p2), .val (.int p3), .val (.int p4), .val (.int n), .val (.ref ca), .val (.ref cu), .val (.int stp), .val (.int pp2), .val (.int (1 : Int32))]) rfl ?_
            refine XS.aload X75.here hx rfl (hb hby at_206) rfl rfl ?_
            exact kt
          obtain ⟨cq81, kq81, qv81a, qv81b, qv81c⟩ := isOf hZ e75 E_cu_i_58
          obtain ⟨_, _, ⟨T81, L81, k81, n81⟩, -, X81, ⟨Lc81, hQ81, l81, y81, z81⟩, st81⟩ := X75.virtualBack hx (y := (⟨"com/example/libbisim/libbisim/TextFormat$Cursor", "commaFollows", "()Z"⟩ : MethodName)) (z := (⟨"com/example/libbisim/libbisim/TextFormat$Cursor", "commaFollows", "()Z"⟩ : MethodName)) hown (mvT hZ (own_w hw 44 rfl)) (mvT hZ (own_w hw 45 rfl)) (notFace_of_selects (args := #[]) (mvT hZ (own_w hw 47 rfl))) (mvT hZ (own_w hw 47 rfl)) (mvT hZ (own_w hw 46 rfl)) (by decide) (backOf (W := 0) (rmCf l Z a0 hw [] cu cs fm t yy ky cd nb vs n d0_ d1_ d2_ d3_ pp2 h58 n0 Z_58 SB Od_58 p58_1 p58_2 E_cu_i_58 Fvt_58 Ct_58 Et_58 Vy_58 hcd hN hch p58_0.1) hZ (own_w hw 48 rfl) (own_w hw 4 rfl) (by decide) (by decide)) qv81a qv81c (g := (mkF m 208 #[.val (.int p0), .val (.int p1), .val (.int p2), .val (.int p3), .val (.int p4), .val (.int n), .val (.ref ca), .val (.ref cu), .val (.int stp), .val (.int pp2), .val (.int (1 : Int32))] [(.ref cu)])) rfl (by rw [hml]; rfl) (Steps.refl _) (argsL := []) (rest := []) (lenOf pd_5 rfl) rfl (by show 2 * 0 + _ ≤ _; exact Nat.le_of_eq rfl) (hb hby at_208) (fun _ _ => ⟨rfl, e75, (by decide : 11 + 0 ≤ _), (by decide : 41 + 0 ≤ _)⟩)
          dsimp only [Pt.U, Pt.locs, Pt.cells, Pt.slots] at X81 l81 y81 z81 st81 hQ81
          subst l81 y81 z81
          obtain ⟨z81, hz81, rfl, Nq81, e81⟩ := hQ81
          have N81 := Fr.app N75 Nq81
          obtain ⟨fs, hr, hrun, hended, hRW⟩ := Jvm.Stand.leaveW (s := s) X81 hS (by rw [e81]; exact kz_58) (v := some (.int (1 : Int32))) (fun h => by rw [Bd.returns] at h; cases h)
          refine ⟨_, _, pre0 _ (st1 _ (st2 _ (st3 _ (st4 _ (st5 _ (st12 _ (st19 _ (st26 _ (st33 _ (st34 _ (st35 _ (st36 _ (st37.trans (st38 _ (st39 _ (st40 _ (st41.trans (st42 _ (st43 _ (st44 _ (st51 _ (st58 _ (st65 _ (st66 _ (st67 _ (st68 _ (st69 _ (st70 _ (st71 _ (st72 _ (st73 _ (st74 _ (st75 _ (st79 _ (st80 _ (st81.trans ?_)))))))))))))))))))))))))))))))))))), hrun, hended, _, _, rfl, ?_, hRW.1, hRW.2.1, hRW.2.2.1, hRW.2.2.2.mono (by decide) (by decide)⟩
          · refine XS.iload X81.here hx rfl (hb hby at_211) rfl ?_
            refine XS.icmpNo X81.here hx rfl (hb hby at_213) rfl (teq (own_z1 hz81 hP)).2 ?_
            refine XS.iconst X81.here hx rfl (hb hby at_216) ?_
            refine XS.goto X81.here hx rfl (pc0 := 217) (pc' := 221) rfl (hb hby at_217) (by decide) (by decide) ?_
            show Steps p.tables e below (T81.setTop (mkF m 221 #[.val (.int p0), .val (.int p1), .val (.int p2), .val (.int p3), .val (.int p4), .val (.int n), .val (.ref ca), .val (.ref cu), .val (.int stp), .val (.int pp2), .val (.int (1 : Int32))] [(.int (1 : Int32))])) _
            exact retN X81 hx (t := .boolean) Bd.returns (by simp) (hb hby at_221) hr
          · show Q_rm0 Z p0 p1 p2 p3 p4 cs fm h0 n0 _ T81.heap _
            rw [e81]
            exact ⟨rfl, N81⟩
      · have st82 : own_S p e below T72 (mkF m 199 #[.val (.int p0), .val (.int p1), .val (.int p2), .val (.int p3), .val (.int p4), .val (.int n), .val (.ref ca), .val (.ref cu), .val (.int stp), .val (.int pp2), .unset] []) (mkF m 185 #[.val (.int p0), .val (.int p1), .val (.int p2), .val (.int p3), .val (.int p4), .val (.int n), .val (.ref ca), .val (.ref cu), .val (.int stp), .val (.int pp2), .unset] [(.int b72)]) := by
          intro target kt
          refine XS.ifYes X72.here hx rfl (pc0 := 185) (pc' := 199) rfl (hb hby at_185) rfl ((if0 _ _).trans (feq he_2).2) (by decide) (by decide) ?_
          exact kt
        have hP : own_cf n d0_ d1_ d2_ d3_ 5 pp2 := (own_fin p58_0.1 hN).mpr (Or.inr (Or.inr (Or.inl (own_bn hb72 he_2))))
        have st83 : own_S p e below T72 (mkF m 208 #[.val (.int p0), .val (.int p1), .val (.int p2), .val (.int p3), .val (.int p4), .val (.int n), .val (.ref ca), .val (.ref cu), .val (.int stp), .val (.int pp2), .val (.int (1 : Int32))] [(.ref cu)]) (mkF m 199 #[.val (.int p0), .val (.int p1), .val (.int p2), .val (.int p3), .val (.int p4), .val (.int n), .val (.ref ca), .val (.ref cu), .val (.int stp), .val (.int pp2), .unset] []) := by
          intro target kt
          refine XS.iconst X72.here hx rfl (hb hby at_199) ?_
          refine XS.goto X72.here hx rfl (pc0 := 200) (pc' := 204) rfl (hb hby at_200) (by decide) (by decide) ?_
          refine XS.istore X72.here hx rfl (hb hby at_204) rfl (l' := #[.val (.int p0), .val (.int p1), .val (.int p2), .val (.int p3), .val (.int p4), .val (.int n), .val (.ref ca), .val (.ref cu), .val (.int stp), .val (.int pp2), .val (.int (1 : Int32))]) rfl ?_
          refine XS.aload X72.here hx rfl (hb hby at_206) rfl rfl ?_
          exact kt
        obtain ⟨cq84, kq84, qv84a, qv84b, qv84c⟩ := isOf hZ e72 E_cu_i_58
        obtain ⟨_, _, ⟨T84, L84, k84, n84⟩, -, X84, ⟨Lc84, hQ84, l84, y84, z84⟩, st84⟩ := X72.virtualBack hx (y := (⟨"com/example/libbisim/libbisim/TextFormat$Cursor", "commaFollows", "()Z"⟩ : MethodName)) (z := (⟨"com/example/libbisim/libbisim/TextFormat$Cursor", "commaFollows", "()Z"⟩ : MethodName)) hown (mvT hZ (own_w hw 44 rfl)) (mvT hZ (own_w hw 45 rfl)) (notFace_of_selects (args := #[]) (mvT hZ (own_w hw 47 rfl))) (mvT hZ (own_w hw 47 rfl)) (mvT hZ (own_w hw 46 rfl)) (by decide) (backOf (W := 0) (rmCf l Z a0 hw [] cu cs fm t yy ky cd nb vs n d0_ d1_ d2_ d3_ pp2 h58 n0 Z_58 SB Od_58 p58_1 p58_2 E_cu_i_58 Fvt_58 Ct_58 Et_58 Vy_58 hcd hN hch p58_0.1) hZ (own_w hw 48 rfl) (own_w hw 4 rfl) (by decide) (by decide)) qv84a qv84c (g := (mkF m 208 #[.val (.int p0), .val (.int p1), .val (.int p2), .val (.int p3), .val (.int p4), .val (.int n), .val (.ref ca), .val (.ref cu), .val (.int stp), .val (.int pp2), .val (.int (1 : Int32))] [(.ref cu)])) rfl (by rw [hml]; rfl) (Steps.refl _) (argsL := []) (rest := []) (lenOf pd_5 rfl) rfl (by show 2 * 0 + _ ≤ _; exact Nat.le_of_eq rfl) (hb hby at_208) (fun _ _ => ⟨rfl, e72, (by decide : 11 + 0 ≤ _), (by decide : 41 + 0 ≤ _)⟩)
        dsimp only [Pt.U, Pt.locs, Pt.cells, Pt.slots] at X84 l84 y84 z84 st84 hQ84
        subst l84 y84 z84
        obtain ⟨z84, hz84, rfl, Nq84, e84⟩ := hQ84
        have N84 := Fr.app N72 Nq84
        obtain ⟨fs, hr, hrun, hended, hRW⟩ := Jvm.Stand.leaveW (s := s) X84 hS (by rw [e84]; exact kz_58) (v := some (.int (1 : Int32))) (fun h => by rw [Bd.returns] at h; cases h)
        refine ⟨_, _, pre0 _ (st1 _ (st2 _ (st3 _ (st4 _ (st5 _ (st12 _ (st19 _ (st26 _ (st33 _ (st34 _ (st35 _ (st36 _ (st37.trans (st38 _ (st39 _ (st40 _ (st41.trans (st42 _ (st43 _ (st44 _ (st51 _ (st58 _ (st65 _ (st66 _ (st67 _ (st68 _ (st69 _ (st70 _ (st71 _ (st72 _ (st82 _ (st83 _ (st84.trans ?_))))))))))))))))))))))))))))))))), hrun, hended, _, _, rfl, ?_, hRW.1, hRW.2.1, hRW.2.2.1, hRW.2.2.2.mono (by decide) (by decide)⟩
        · refine XS.iload X84.here hx rfl (hb hby at_211) rfl ?_
          refine XS.icmpNo X84.here hx rfl (hb hby at_213) rfl (teq (own_z1 hz84 hP)).2 ?_
          refine XS.iconst X84.here hx rfl (hb hby at_216) ?_
          refine XS.goto X84.here hx rfl (pc0 := 217) (pc' := 221) rfl (hb hby at_217) (by decide) (by decide) ?_
          show Steps p.tables e below (T84.setTop (mkF m 221 #[.val (.int p0), .val (.int p1), .val (.int p2), .val (.int p3), .val (.int p4), .val (.int n), .val (.ref ca), .val (.ref cu), .val (.int stp), .val (.int pp2), .val (.int (1 : Int32))] [(.int (1 : Int32))])) _
          exact retN X84 hx (t := .boolean) Bd.returns (by simp) (hb hby at_221) hr
        · show Q_rm0 Z p0 p1 p2 p3 p4 cs fm h0 n0 _ T84.heap _
          rw [e84]
          exact ⟨rfl, N84⟩
    · have st85 : own_S p e below T69 (mkF m 199 #[.val (.int p0), .val (.int p1), .val (.int p2), .val (.int p3), .val (.int p4), .val (.int n), .val (.ref ca), .val (.ref cu), .val (.int stp), .val (.int pp2), .unset] []) (mkF m 174 #[.val (.int p0), .val (.int p1), .val (.int p2), .val (.int p3), .val (.int p4), .val (.int n), .val (.ref ca), .val (.ref cu), .val (.int stp), .val (.int pp2), .unset] [(.int b69)]) := by
        intro target kt
        refine XS.ifYes X69.here hx rfl (pc0 := 174) (pc' := 199) rfl (hb hby at_174) rfl ((if0 _ _).trans (feq he_1).2) (by decide) (by decide) ?_
        exact kt
      have hP : own_cf n d0_ d1_ d2_ d3_ 5 pp2 := (own_fin p58_0.1 hN).mpr (Or.inr (Or.inl (own_bn hb69 he_1)))
      have st86 : own_S p e below T69 (mkF m 208 #[.val (.int p0), .val (.int p1), .val (.int p2), .val (.int p3), .val (.int p4), .val (.int n), .val (.ref ca), .val (.ref cu), .val (.int stp), .val (.int pp2), .val (.int (1 : Int32))] [(.ref cu)]) (mkF m 199 #[.val (.int p0), .val (.int p1), .val (.int p2), .val (.int p3), .val (.int p4), .val (.int n), .val (.ref ca), .val (.ref cu), .val (.int stp), .val (.int pp2), .unset] []) := by
        intro target kt
        refine XS.iconst X69.here hx rfl (hb hby at_199) ?_
        refine XS.goto X69.here hx rfl (pc0 := 200) (pc' := 204) rfl (hb hby at_200) (by decide) (by decide) ?_
        refine XS.istore X69.here hx rfl (hb hby at_204) rfl (l' := #[.val (.int p0), .val (.int p1), .val (.int p2), .val (.int p3), .val (.int p4), .val (.int n), .val (.ref ca), .val (.ref cu), .val (.int stp), .val (.int pp2), .val (.int (1 : Int32))]) rfl ?_
        refine XS.aload X69.here hx rfl (hb hby at_206) rfl rfl ?_
        exact kt
      obtain ⟨cq87, kq87, qv87a, qv87b, qv87c⟩ := isOf hZ e69 E_cu_i_58
      obtain ⟨_, _, ⟨T87, L87, k87, n87⟩, -, X87, ⟨Lc87, hQ87, l87, y87, z87⟩, st87⟩ := X69.virtualBack hx (y := (⟨"com/example/libbisim/libbisim/TextFormat$Cursor", "commaFollows", "()Z"⟩ : MethodName)) (z := (⟨"com/example/libbisim/libbisim/TextFormat$Cursor", "commaFollows", "()Z"⟩ : MethodName)) hown (mvT hZ (own_w hw 44 rfl)) (mvT hZ (own_w hw 45 rfl)) (notFace_of_selects (args := #[]) (mvT hZ (own_w hw 47 rfl))) (mvT hZ (own_w hw 47 rfl)) (mvT hZ (own_w hw 46 rfl)) (by decide) (backOf (W := 0) (rmCf l Z a0 hw [] cu cs fm t yy ky cd nb vs n d0_ d1_ d2_ d3_ pp2 h58 n0 Z_58 SB Od_58 p58_1 p58_2 E_cu_i_58 Fvt_58 Ct_58 Et_58 Vy_58 hcd hN hch p58_0.1) hZ (own_w hw 48 rfl) (own_w hw 4 rfl) (by decide) (by decide)) qv87a qv87c (g := (mkF m 208 #[.val (.int p0), .val (.int p1), .val (.int p2), .val (.int p3), .val (.int p4), .val (.int n), .val (.ref ca), .val (.ref cu), .val (.int stp), .val (.int pp2), .val (.int (1 : Int32))] [(.ref cu)])) rfl (by rw [hml]; rfl) (Steps.refl _) (argsL := []) (rest := []) (lenOf pd_5 rfl) rfl (by show 2 * 0 + _ ≤ _; exact Nat.le_of_eq rfl) (hb hby at_208) (fun _ _ => ⟨rfl, e69, (by decide : 11 + 0 ≤ _), (by decide : 41 + 0 ≤ _)⟩)
      dsimp only [Pt.U, Pt.locs, Pt.cells, Pt.slots] at X87 l87 y87 z87 st87 hQ87
      subst l87 y87 z87
      obtain ⟨z87, hz87, rfl, Nq87, e87⟩ := hQ87
      have N87 := Fr.app N69 Nq87
      obtain ⟨fs, hr, hrun, hended, hRW⟩ := Jvm.Stand.leaveW (s := s) X87 hS (by rw [e87]; exact kz_58) (v := some (.int (1 : Int32))) (fun h => by rw [Bd.returns] at h; cases h)
      refine ⟨_, _, pre0 _ (st1 _ (st2 _ (st3 _ (st4 _ (st5 _ (st12 _ (st19 _ (st26 _ (st33 _ (st34 _ (st35 _ (st36 _ (st37.trans (st38 _ (st39 _ (st40 _ (st41.trans (st42 _ (st43 _ (st44 _ (st51 _ (st58 _ (st65 _ (st66 _ (st67 _ (st68 _ (st69 _ (st85 _ (st86 _ (st87.trans ?_)))))))))))))))))))))))))))))), hrun, hended, _, _, rfl, ?_, hRW.1, hRW.2.1, hRW.2.2.1, hRW.2.2.2.mono (by decide) (by decide)⟩
      · refine XS.iload X87.here hx rfl (hb hby at_211) rfl ?_
        refine XS.icmpNo X87.here hx rfl (hb hby at_213) rfl (teq (own_z1 hz87 hP)).2 ?_
        refine XS.iconst X87.here hx rfl (hb hby at_216) ?_
        refine XS.goto X87.here hx rfl (pc0 := 217) (pc' := 221) rfl (hb hby at_217) (by decide) (by decide) ?_
        show Steps p.tables e below (T87.setTop (mkF m 221 #[.val (.int p0), .val (.int p1), .val (.int p2), .val (.int p3), .val (.int p4), .val (.int n), .val (.ref ca), .val (.ref cu), .val (.int stp), .val (.int pp2), .val (.int (1 : Int32))] [(.int (1 : Int32))])) _
        exact retN X87 hx (t := .boolean) Bd.returns (by simp) (hb hby at_221) hr
      · show Q_rm0 Z p0 p1 p2 p3 p4 cs fm h0 n0 _ T87.heap _
        rw [e87]
        exact ⟨rfl, N87⟩
  · have st88 : own_S p e below T66 (mkF m 199 #[.val (.int p0), .val (.int p1), .val (.int p2), .val (.int p3), .val (.int p4), .val (.int n), .val (.ref ca), .val (.ref cu), .val (.int stp), .val (.int pp2), .unset] []) (mkF m 163 #[.val (.int p0), .val (.int p1), .val (.int p2), .val (.int p3), .val (.int p4), .val (.int n), .val (.ref ca), .val (.ref cu), .val (.int stp), .val (.int pp2), .unset] [(.int b66)]) := by
      intro target kt
      refine XS.ifYes X66.here hx rfl (pc0 := 163) (pc' := 199) rfl (hb hby at_163) rfl ((if0 _ _).trans (feq he_0).2) (by decide) (by decide) ?_
      exact kt
    have hP : own_cf n d0_ d1_ d2_ d3_ 5 pp2 := (own_fin p58_0.1 hN).mpr (Or.inl (own_bn hb66 he_0))
    have st89 : own_S p e below T66 (mkF m 208 #[.val (.int p0), .val (.int p1), .val (.int p2), .val (.int p3), .val (.int p4), .val (.int n), .val (.ref ca), .val (.ref cu), .val (.int stp), .val (.int pp2), .val (.int (1 : Int32))] [(.ref cu)]) (mkF m 199 #[.val (.int p0), .val (.int p1), .val (.int p2), .val (.int p3), .val (.int p4), .val (.int n), .val (.ref ca), .val (.ref cu), .val (.int stp), .val (.int pp2), .unset] []) := by
      intro target kt
      refine XS.iconst X66.here hx rfl (hb hby at_199) ?_
      refine XS.goto X66.here hx rfl (pc0 := 200) (pc' := 204) rfl (hb hby at_200) (by decide) (by decide) ?_
      refine XS.istore X66.here hx rfl (hb hby at_204) rfl (l' := #[.val (.int p0), .val (.int p1), .val (.int p2), .val (.int p3), .val (.int p4), .val (.int n), .val (.ref ca), .val (.ref cu), .val (.int stp), .val (.int pp2), .val (.int (1 : Int32))]) rfl ?_
      refine XS.aload X66.here hx rfl (hb hby at_206) rfl rfl ?_
      exact kt
    obtain ⟨cq90, kq90, qv90a, qv90b, qv90c⟩ := isOf hZ e66 E_cu_i_58
    obtain ⟨_, _, ⟨T90, L90, k90, n90⟩, -, X90, ⟨Lc90, hQ90, l90, y90, z90⟩, st90⟩ := X66.virtualBack hx (y := (⟨"com/example/libbisim/libbisim/TextFormat$Cursor", "commaFollows", "()Z"⟩ : MethodName)) (z := (⟨"com/example/libbisim/libbisim/TextFormat$Cursor", "commaFollows", "()Z"⟩ : MethodName)) hown (mvT hZ (own_w hw 44 rfl)) (mvT hZ (own_w hw 45 rfl)) (notFace_of_selects (args := #[]) (mvT hZ (own_w hw 47 rfl))) (mvT hZ (own_w hw 47 rfl)) (mvT hZ (own_w hw 46 rfl)) (by decide) (backOf (W := 0) (rmCf l Z a0 hw [] cu cs fm t yy ky cd nb vs n d0_ d1_ d2_ d3_ pp2 h58 n0 Z_58 SB Od_58 p58_1 p58_2 E_cu_i_58 Fvt_58 Ct_58 Et_58 Vy_58 hcd hN hch p58_0.1) hZ (own_w hw 48 rfl) (own_w hw 4 rfl) (by decide) (by decide)) qv90a qv90c (g := (mkF m 208 #[.val (.int p0), .val (.int p1), .val (.int p2), .val (.int p3), .val (.int p4), .val (.int n), .val (.ref ca), .val (.ref cu), .val (.int stp), .val (.int pp2), .val (.int (1 : Int32))] [(.ref cu)])) rfl (by rw [hml]; rfl) (Steps.refl _) (argsL := []) (rest := []) (lenOf pd_5 rfl) rfl (by show 2 * 0 + _ ≤ _; exact Nat.le_of_eq rfl) (hb hby at_208) (fun _ _ => ⟨rfl, e66, (by decide : 11 + 0 ≤ _), (by decide : 41 + 0 ≤ _)⟩)
    dsimp only [Pt.U, Pt.locs, Pt.cells, Pt.slots] at X90 l90 y90 z90 st90 hQ90
    subst l90 y90 z90
    obtain ⟨z90, hz90, rfl, Nq90, e90⟩ := hQ90
    have N90 := Fr.app N66 Nq90
    obtain ⟨fs, hr, hrun, hended, hRW⟩ := Jvm.Stand.leaveW (s := s) X90 hS (by rw [e90]; exact kz_58) (v := some (.int (1 : Int32))) (fun h => by rw [Bd.returns] at h; cases h)
    refine ⟨_, _, pre0 _ (st1 _ (st2 _ (st3 _ (st4 _ (st5 _ (st12 _ (st19 _ (st26 _ (st33 _ (st34 _ (st35 _ (st36 _ (st37.trans (st38 _ (st39 _ (st40 _ (st41.trans (st42 _ (st43 _ (st44 _ (st51 _ (st58 _ (st65 _ (st66 _ (st88 _ (st89 _ (st90.trans ?_))))))))))))))))))))))))))), hrun, hended, _, _, rfl, ?_, hRW.1, hRW.2.1, hRW.2.2.1, hRW.2.2.2.mono (by decide) (by decide)⟩
    · refine XS.iload X90.here hx rfl (hb hby at_211) rfl ?_
      refine XS.icmpNo X90.here hx rfl (hb hby at_213) rfl (teq (own_z1 hz90 hP)).2 ?_
      refine XS.iconst X90.here hx rfl (hb hby at_216) ?_
      refine XS.goto X90.here hx rfl (pc0 := 217) (pc' := 221) rfl (hb hby at_217) (by decide) (by decide) ?_
      show Steps p.tables e below (T90.setTop (mkF m 221 #[.val (.int p0), .val (.int p1), .val (.int p2), .val (.int p3), .val (.int p4), .val (.int n), .val (.ref ca), .val (.ref cu), .val (.int stp), .val (.int pp2), .val (.int (1 : Int32))] [(.int (1 : Int32))])) _
      exact retN X90 hx (t := .boolean) Bd.returns (by simp) (hb hby at_221) hr
    · show Q_rm0 Z p0 p1 p2 p3 p4 cs fm h0 n0 _ T90.heap _
      rw [e90]
      exact ⟨rfl, N90⟩
set_option maxRecDepth 65536 in
set_option maxHeartbeats 40000000 in
theorem comes_1 {Post : Tables → Env → Array Value → State → Outcome → State → Prop} (hpost : ∀ tb e args s v u, (limb_1_1.after args s (.returned v) u = true ∧ limb_1_2.after args s (.returned v) u = true ∧ True) → FramedW s (.returned v) u (Jvm.fieldLocs frame_1_writes args s ++ Jvm.arrayLocs frame_1_arrays args s ++ Jvm.staticLocs frame_1_statics s) 24 3200 → Post tb e args s (.returned v) u) :
    ArmFor flags0 classFile x code maxLocals ret World_1 tables_1 room_1 Calls_1 rest_1 Pre_1 Post := by
  intro l hfl _ _ p e ha hc hk s m args below hf hA hF happ hP
  obtain ⟨hcalls, hrest, hpre⟩ := hP
  obtain ⟨-, -, -, hnamed, -, -, -, hat⟩ := (Spec.applies_iff hf).mp happ
  obtain ⟨hg, hn⟩ := and_e (Cond.before_iff.mp (show (Jvm.Cond.and given_1 narrow_1).before args s = true from hpre))
  obtain ⟨gg1, gg2⟩ := and_e hg
  obtain ⟨gg3, gg4⟩ := and_e gg2
  obtain ⟨gg5, gg6⟩ := and_e gg4
  obtain ⟨gg7, gg8⟩ := and_e gg6
  obtain ⟨gg9, gg10⟩ := and_e gg8
  obtain ⟨w0, w1, w2, w3, w4, rfl⟩ : ∃ w0 w1 w2 w3 w4 : Value, args = #[w0, w1, w2, w3, w4] := by
    have hs : args.size = 5 := by simpa [Cond.value, given_1] using gg1
    obtain ⟨L⟩ := args
    match L, hs with
    | [w0, w1, w2, w3, w4], _ => exact ⟨w0, w1, w2, w3, w4, rfl⟩
  have hw := fun d (hd : d ∈ tables_1) => atoms_spec (ws := Jvm.Cond.code x code maxLocals ret :: tables_1) hat d (List.mem_cons_of_mem _ hd)
  have hfit : Fit s := fun {y c} hc i hi => by
    obtain ⟨ha, rfl⟩ := Array.getElem?_eq_some_iff.mp hc
    have q := List.all_eq_true.mp ((Array.all_eq_true_iff_forall_mem.mp hF) _ (Array.getElem_mem ha)) i (List.mem_range.mpr hi)
    simpa [Array.getElem?_eq_getElem hi] using q
  obtain ⟨hsets, hown0⟩ := atoms_of _ (rest_1_c_eq ▸ (show rest_1_c.before _ s = true from hrest))
  have hr0 := Cond.before_iff.mp hown0
  obtain ⟨i0, ei0⟩ := is_v gg3
  obtain rfl : w0 = (.int i0) := Option.some.inj ei0
  obtain ⟨i1, ei1⟩ := is_v gg5
  obtain rfl : w1 = (.int i1) := Option.some.inj ei1
  obtain ⟨i2, ei2⟩ := is_v gg7
  obtain rfl : w2 = (.int i2) := Option.some.inj ei2
  obtain ⟨i3, ei3⟩ := is_v gg9
  obtain rfl : w3 = (.int i3) := Option.some.inj ei3
  obtain ⟨i4, ei4⟩ := is_v gg10
  obtain rfl : w4 = (.int i4) := Option.some.inj ei4
  obtain ⟨cs, ev_cs⟩ := is_v (Cond.before_iff.mp (hsets _ (List.mem_of_getElem? (i := 1) rfl)))
  have S_cs : Sta s s.heap "java/lang/String" "COMPACT_STRINGS" "Z" (.int cs) := Sta.start ev_cs (Or.inl (hsets _ (List.mem_of_getElem? (i := 0) rfl)))
  have hcs : ¬ cs = 0 := by
    intro q
    have u := not_v (Cond.before_iff.mp (hsets _ (List.mem_of_getElem? (i := 2) rfl)))
    have u2 := eq_i (o := none) (idx := []) ev_cs (Term.int_eval (0 : Int32)) (by rw [q])
    rw [u2] at u; cases u
  obtain ⟨fm, ev_fm, r_fm⟩ := isR_v (Cond.before_iff.mp (hsets _ (List.mem_of_getElem? (i := 8) rfl)))
  have S_fm : Sta s s.heap "jdk/internal/util/Preconditions" "SIOOBE_FORMATTER" "Ljava/util/function/BiFunction;" fm := Sta.start ev_fm (Or.inl (hsets _ (List.mem_of_getElem? (i := 7) rfl)))
  have S_ad : Sta s s.heap "java/lang/StringUTF16" "$assertionsDisabled" "Z" (.int (1 : Int32)) := Sta.start (eqv_i (Term.int_eval (1 : Int32)) (Cond.before_iff.mp (hsets _ (List.mem_of_getElem? (i := 12) rfl)))) (Or.inl (hsets _ (List.mem_of_getElem? (i := 11) rfl)))
  have S_hi : Sta s s.heap "java/lang/StringUTF16" "HI_BYTE_SHIFT" "I" (.int (0 : Int32)) := Sta.start (eqv_i (Term.int_eval (0 : Int32)) (Cond.before_iff.mp (hsets _ (List.mem_of_getElem? (i := 15) rfl)))) (Or.inl (hsets _ (List.mem_of_getElem? (i := 14) rfl)))
  have S_lo : Sta s s.heap "java/lang/StringUTF16" "LO_BYTE_SHIFT" "I" (.int (8 : Int32)) := Sta.start (eqv_i (Term.int_eval (8 : Int32)) (Cond.before_iff.mp (hsets _ (List.mem_of_getElem? (i := 18) rfl)))) (Or.inl (hsets _ (List.mem_of_getElem? (i := 17) rfl)))
  have hh0 : ∀ p ∈ own_EL, Jvm.Lit.constHeld s p.1 p.2 := fun p hp => (show _ ∧ True from hcalls).1 p (by rcases List.mem_singleton.mp hp with rfl; decide)
  obtain ⟨n, o, h1, h2, h3, _, L, rfl, ⟨rfl, N⟩, hq⟩ := rm0 l s _ hw tables_1 i0 i1 i2 i3 i4 cs fm s.heap s.heap.size (Nat.le_refl _) ⟨S_cs, hcs, S_fm, r_fm, S_ad, S_hi, S_lo⟩ (Old.start s) p e ha hc hk s m _ below hf ((Spec.applies_iff_loose hf).mp happ).1 ⟨rfl, State.Warmed39.refl s, rfl, CHv.start (own_hEL hw) hh0 (hsets _ (List.mem_of_getElem? (i := 2) rfl)) (own_w hw 19 rfl) (own_w hw 6 rfl)⟩ trivial
  refine ⟨n, _, h1, h2, h3, hpost _ _ _ _ _ _ ⟨Cond.after_iff.mpr rfl, Cond.after_iff.mpr (eq_i res_at (Term.int_eval (1)) rfl), trivial⟩ ⟨hq.1, hq.2.1, hq.2.2.1, (hq.2.2.2.sift fun y hy => Or.inr (N y hy)).mono (by decide) (by decide)⟩⟩
theorem main_1_1 : Claimed_1_1 := comes_1 fun _ _ _ _ _ _ h hF => ⟨h.1, hF⟩
theorem main_1_2 : Claimed_1_2 := comes_1 fun _ _ _ _ _ _ h hF => ⟨h.2.1, hF⟩
end Jvm.Pilot.@@N@@
namespace Jvm.Pilot.@@N@@
open Jvm Jvm.ClassFile Sem Op Lib Jvm.Free Jvm.Stand Jvm.Pilot.@@N@@.Jvm.D
/-! MADE BY PROGRAM (witnessworld.py) out of the Statement's table words and the real class files: 22 classes; the members and pool entries that the words name. The judged class is class 1, her method 1. -/
namespace start1
open Jvm.ClassFile
def u (s : String) : CpInfo := .utf8 (stringToUtf16 s)
/-- a pool by its gaps: so many unusable entries, then the entry; so many at the end -/
def gap : Nat → List CpInfo → List CpInfo
  | 0, r => r
  | n + 1, r => .unusable :: gap n r
def poolList (es : List (Nat × CpInfo)) (last : Nat) : List CpInfo := es.foldr (fun e r => gap e.1 (e.2 :: r)) (gap last [])
def pool (es : List (Nat × CpInfo)) (last : Nat) : Array CpInfo := ⟨poolList es last⟩
def fileOf (pool : Array CpInfo) (this : Nat) (attrs : Array Attribute := #[]) (ms : Array MethodInfo := #[]) (fl : Nat := 33) (sup : Nat := 0) (ifs : Array Nat := #[]) (fds : Array FieldInfo := #[]) : ClassFile where
  minorVersion := 0
  majorVersion := 65
  constantPool := pool
  accessFlags := fl
  thisClass := this
  superClass := sup
  interfaces := ifs
  fields := fds
  methods := ms
  attributes := attrs
def plain (name : String) (sup : Option ClassId) : Class where
  name := name
  kind := .ordinary
  loader := none
  accessFlags := 33
  super := sup
  interfaces := #[]
  cf := none
  fields := #[]
  methods := #[]
  instanceTypes := #[]
  staticTypes := #[]
  resolved := #[]
  callSites := []
  init := .initialized
  statics := none
  mirror := none

def pool0 : Array CpInfo := pool [(5, u "<init>"), (0, u "()V"), (1, .class_ 10), (1, u "java/lang/Object")] 113

def k0c0 : Code := { maxStack := 0, maxLocals := 1, code := object_method_1_code, exceptionTable := #[], attributes := #[] }
def k0m0 : Method := { name := "<init>", desc := "()V", sig := { parameters := [], returnType := none }, accessFlags := 1, code := some k0c0 }
/-- java/lang/Object -/
def k0 : Class := { plain "java/lang/Object" none with
  accessFlags := 33
  interfaces := #[]
  cf := some (fileOf pool0 8 #[] #[{ accessFlags := 1, nameIndex := 5, descriptorIndex := 6, attributes := #[] }] 33 0 #[] #[])
  fields := #[]
  methods := #[k0m0]
  instanceTypes := #[]
  staticTypes := #[]
  resolved := Array.replicate 124 none
  statics := none }

def pool1 : Array CpInfo := pool [(2, .class_ 4), (1, u "java/lang/Object"), (0, u "<init>"), (0, u "()V"), (0, .integer 2147483647), (0, .methodref 9 10), (0, .class_ 11), (0, .nameAndType 12 13), (0, u "com/example/libbisim/libbisim/CursorCommaFollowsPinLaw"), (0, u "draw"), (0, u "(I)C"), (0, .class_ 15), (0, u "com/example/libbisim/libbisim/TextFormat$Cursor"), (0, .class_ 17), (0, u "java/lang/String"), (0, .methodref 16 19), (0, .nameAndType 5 20), (0, u "([C)V"), (0, .string 22), (0, u "s"), (0, .string 24), (0, u "e"), (0, .methodref 14 26), (0, .nameAndType 5 27), (0, u "(Ljava/lang/String;Ljava/lang/String;JLjava/lang/String;)V"), (0, .methodref 9 29), (0, .nameAndType 30 31), (0, u "step"), (0, u "(Lcom/example/libbisim/libbisim/TextFormat$Cursor;[CI)I"), (0, .methodref 9 33), (0, .nameAndType 34 35), (0, u "commaAt"), (0, u "([CII)Z"), (0, .methodref 14 37), (0, .nameAndType 38 39), (0, u "commaFollows"), (0, u "()Z"), (0, .integer 65535), (0, .methodref 9 42), (0, .nameAndType 43 44), (0, u "blankAt"), (0, u "([CI)Z"), (0, .methodref 9 46), (0, .nameAndType 47 48), (0, u "skip"), (0, u "([CI)I"), (0, .methodref 14 50), (0, .nameAndType 51 52), (0, u "expect"), (0, u "(C)V"), (0, .methodref 14 54), (0, .nameAndType 55 6), (0, u "expectEnd"), (2, u "law"), (0, u "(IIIII)Z")] 12

def k1m0 : Method := { name := "<init>", desc := "()V", sig := { parameters := [], returnType := none }, accessFlags := 2, code := none }
def k1c1 : Code := { maxStack := 7, maxLocals := 11, code := code, exceptionTable := #[], attributes := #[] }
def k1m1 : Method := { name := "law", desc := "(IIIII)Z", sig := { parameters := [.int, .int, .int, .int, .int], returnType := some .boolean }, accessFlags := 9, code := some k1c1 }
def k1c2 : Code := { maxStack := 2, maxLocals := 2, code := method_3_code, exceptionTable := #[], attributes := #[] }
def k1m2 : Method := { name := "draw", desc := "(I)C", sig := { parameters := [.int], returnType := some .char }, accessFlags := 10, code := some k1c2 }
def k1c3 : Code := { maxStack := 2, maxLocals := 2, code := method_4_code, exceptionTable := #[], attributes := #[] }
def k1m3 : Method := { name := "blankAt", desc := "([CI)Z", sig := { parameters := [(.array .char), .int], returnType := some .boolean }, accessFlags := 10, code := some k1c3 }
def k1c4 : Code := { maxStack := 2, maxLocals := 3, code := method_5_code, exceptionTable := #[], attributes := #[] }
def k1m4 : Method := { name := "skip", desc := "([CI)I", sig := { parameters := [(.array .char), .int], returnType := some .int }, accessFlags := 10, code := some k1c4 }
def k1c5 : Code := { maxStack := 3, maxLocals := 4, code := method_6_code, exceptionTable := #[], attributes := #[] }
def k1m5 : Method := { name := "step", desc := "(Lcom/example/libbisim/libbisim/TextFormat$Cursor;[CI)I", sig := { parameters := [(.object "com/example/libbisim/libbisim/TextFormat$Cursor"), (.array .char), .int], returnType := some .int }, accessFlags := 10, code := some k1c5 }
def k1c6 : Code := { maxStack := 2, maxLocals := 3, code := method_7_code, exceptionTable := #[], attributes := #[] }
def k1m6 : Method := { name := "commaAt", desc := "([CII)Z", sig := { parameters := [(.array .char), .int, .int], returnType := some .boolean }, accessFlags := 10, code := some k1c6 }
/-- com/example/libbisim/libbisim/CursorCommaFollowsPinLaw -/
def k1 : Class := { plain "com/example/libbisim/libbisim/CursorCommaFollowsPinLaw" (some 0) with
  accessFlags := 49
  interfaces := #[]
  cf := some (fileOf pool1 9 #[] #[{ accessFlags := 2, nameIndex := 5, descriptorIndex := 6, attributes := #[] }, { accessFlags := 9, nameIndex := 58, descriptorIndex := 59, attributes := #[] }, { accessFlags := 10, nameIndex := 12, descriptorIndex := 13, attributes := #[] }, { accessFlags := 10, nameIndex := 43, descriptorIndex := 44, attributes := #[] }, { accessFlags := 10, nameIndex := 47, descriptorIndex := 48, attributes := #[] }, { accessFlags := 10, nameIndex := 30, descriptorIndex := 31, attributes := #[] }, { accessFlags := 10, nameIndex := 34, descriptorIndex := 35, attributes := #[] }] 49 2 #[] #[])
  fields := #[]
  methods := #[k1m0, k1m1, k1m2, k1m3, k1m4, k1m5, k1m6]
  instanceTypes := #[]
  staticTypes := #[]
  resolved := Array.replicate 72 none
  statics := none }

def pool2 : Array CpInfo := pool [(1, .methodref 2 3), (0, .class_ 4), (0, .nameAndType 5 6), (0, u "java/lang/Object"), (0, u "<init>"), (0, u "()V"), (0, .fieldref 8 9), (0, .class_ 10), (0, .nameAndType 11 12), (0, u "com/example/libbisim/libbisim/TextFormat$Cursor"), (0, u "text"), (0, u "Ljava/lang/String;"), (0, .fieldref 8 14), (0, .nameAndType 15 12), (0, u "source"), (0, .fieldref 8 17), (0, .nameAndType 18 19), (0, u "line"), (0, u "J"), (0, .fieldref 8 21), (0, .nameAndType 22 12), (0, u "expected"), (5, .methodref 8 29), (0, .nameAndType 30 6), (0, u "skipBlanks"), (0, .fieldref 8 32), (0, .nameAndType 33 34), (0, u "at"), (0, u "I"), (0, .methodref 36 37), (0, .class_ 38), (0, .nameAndType 39 40), (0, u "java/lang/String"), (0, u "length"), (0, u "()I"), (0, .methodref 36 42), (0, .nameAndType 43 44), (0, u "charAt"), (0, u "(I)C"), (29, .class_ 76), (1, u "com/example/libbisim/libbisim/TextFormat"), (7, u "expect"), (0, u "(C)V"), (2, u "expectEnd"), (8, .methodref 36 98), (0, .nameAndType 99 100), (0, u "indexOf"), (0, u "(II)I"), (0, .methodref 74 102), (0, .nameAndType 103 104), (0, u "isBlank"), (0, u "(C)Z"), (6, u "(Ljava/lang/String;Ljava/lang/String;JLjava/lang/String;)V"), (9, u "commaFollows"), (0, u "()Z")] 20

def k2c0 : Code := { maxStack := 3, maxLocals := 6, code := prog_69_method_1_code, exceptionTable := #[], attributes := #[] }
def k2m0 : Method := { name := "<init>", desc := "(Ljava/lang/String;Ljava/lang/String;JLjava/lang/String;)V", sig := { parameters := [(.object "java/lang/String"), (.object "java/lang/String"), .long, (.object "java/lang/String")], returnType := none }, accessFlags := 0, code := some k2c0 }
def k2c1 : Code := { maxStack := 3, maxLocals := 2, code := prog_69_method_3_code, exceptionTable := #[], attributes := #[] }
def k2m1 : Method := { name := "expect", desc := "(C)V", sig := { parameters := [.char], returnType := none }, accessFlags := 0, code := some k2c1 }
def k2c2 : Code := { maxStack := 2, maxLocals := 1, code := prog_69_method_5_code, exceptionTable := #[], attributes := #[] }
def k2m2 : Method := { name := "expectEnd", desc := "()V", sig := { parameters := [], returnType := none }, accessFlags := 0, code := some k2c2 }
def k2c3 : Code := { maxStack := 3, maxLocals := 1, code := prog_69_method_11_code, exceptionTable := #[], attributes := #[] }
def k2m3 : Method := { name := "commaFollows", desc := "()Z", sig := { parameters := [], returnType := some .boolean }, accessFlags := 0, code := some k2c3 }
def k2c4 : Code := { maxStack := 3, maxLocals := 1, code := prog_69_method_14_code, exceptionTable := #[], attributes := #[] }
def k2m4 : Method := { name := "skipBlanks", desc := "()V", sig := { parameters := [], returnType := none }, accessFlags := 2, code := some k2c4 }
/-- com/example/libbisim/libbisim/TextFormat$Cursor -/
def k2 : Class := { plain "com/example/libbisim/libbisim/TextFormat$Cursor" (some 0) with
  accessFlags := 48
  interfaces := #[]
  cf := some (fileOf pool2 8 #[.nestHost 74] #[{ accessFlags := 0, nameIndex := 5, descriptorIndex := 111, attributes := #[] }, { accessFlags := 0, nameIndex := 84, descriptorIndex := 85, attributes := #[] }, { accessFlags := 0, nameIndex := 88, descriptorIndex := 6, attributes := #[] }, { accessFlags := 0, nameIndex := 121, descriptorIndex := 122, attributes := #[] }, { accessFlags := 2, nameIndex := 30, descriptorIndex := 6, attributes := #[] }] 48 2 #[] #[{ accessFlags := 18, nameIndex := 11, descriptorIndex := 12, attributes := #[] }, { accessFlags := 18, nameIndex := 15, descriptorIndex := 12, attributes := #[] }, { accessFlags := 18, nameIndex := 18, descriptorIndex := 19, attributes := #[] }, { accessFlags := 18, nameIndex := 22, descriptorIndex := 12, attributes := #[] }, { accessFlags := 2, nameIndex := 33, descriptorIndex := 34, attributes := #[] }])
  fields := #[{ name := "text", type := (.object "java/lang/String"), accessFlags := 18, slot := 0, constantValue := 0 }, { name := "source", type := (.object "java/lang/String"), accessFlags := 18, slot := 1, constantValue := 0 }, { name := "line", type := .long, accessFlags := 18, slot := 2, constantValue := 0 }, { name := "expected", type := (.object "java/lang/String"), accessFlags := 18, slot := 3, constantValue := 0 }, { name := "at", type := .int, accessFlags := 2, slot := 4, constantValue := 0 }]
  methods := #[k2m0, k2m1, k2m2, k2m3, k2m4]
  instanceTypes := #[(.object "java/lang/String"), (.object "java/lang/String"), .long, (.object "java/lang/String"), .int]
  staticTypes := #[]
  resolved := Array.replicate 143 none
  statics := none }

def pool3 : Array CpInfo := pool [(1, .class_ 2), (0, u "java/io/Serializable"), (0, .class_ 4), (0, u "java/lang/Object")] 2

/-- java/io/Serializable -/
def k3 : Class := { plain "java/io/Serializable" (some 0) with
  accessFlags := 1537
  interfaces := #[]
  cf := some (fileOf pool3 1 #[] #[] 1537 3 #[] #[])
  fields := #[]
  methods := #[]
  instanceTypes := #[]
  staticTypes := #[]
  resolved := Array.replicate 7 none
  statics := none }

def pool4 : Array CpInfo := pool [(1, .class_ 2), (0, u "java/lang/Comparable"), (0, .class_ 4), (0, u "java/lang/Object")] 7

/-- java/lang/Comparable -/
def k4 : Class := { plain "java/lang/Comparable" (some 0) with
  accessFlags := 1537
  interfaces := #[]
  cf := some (fileOf pool4 1 #[] #[] 1537 3 #[] #[])
  fields := #[]
  methods := #[]
  instanceTypes := #[]
  staticTypes := #[]
  resolved := Array.replicate 12 none
  statics := none }

def pool5 : Array CpInfo := pool [(2, .class_ 4), (1, u "java/lang/CharSequence"), (42, .class_ 48), (0, u "java/lang/CharSequence$1CodePointIterator"), (10, .class_ 60), (0, u "java/lang/CharSequence$1CharIterator"), (5, .class_ 67), (0, u "java/lang/Object")] 63

/-- java/lang/CharSequence -/
def k5 : Class := { plain "java/lang/CharSequence" (some 0) with
  accessFlags := 1537
  interfaces := #[]
  cf := some (fileOf pool5 2 #[.nestMembers #[47, 59]] #[] 1537 66 #[] #[])
  fields := #[]
  methods := #[]
  instanceTypes := #[]
  staticTypes := #[]
  resolved := Array.replicate 131 none
  statics := none }

def pool6 : Array CpInfo := pool [(1, .class_ 2), (0, u "java/lang/constant/Constable"), (0, .class_ 4), (0, u "java/lang/Object")] 6

/-- java/lang/constant/Constable -/
def k6 : Class := { plain "java/lang/constant/Constable" (some 0) with
  accessFlags := 1537
  interfaces := #[]
  cf := some (fileOf pool6 1 #[] #[] 1537 3 #[] #[])
  fields := #[]
  methods := #[]
  instanceTypes := #[]
  staticTypes := #[]
  resolved := Array.replicate 11 none
  statics := none }

def pool7 : Array CpInfo := pool [(1, .class_ 2), (0, u "java/lang/constant/ConstantDesc"), (0, .class_ 4), (0, u "java/lang/Object")] 32

/-- java/lang/constant/ConstantDesc -/
def k7 : Class := { plain "java/lang/constant/ConstantDesc" (some 0) with
  accessFlags := 1537
  interfaces := #[]
  cf := some (fileOf pool7 1 #[] #[] 1537 3 #[] #[])
  fields := #[]
  methods := #[]
  instanceTypes := #[]
  staticTypes := #[]
  resolved := Array.replicate 37 none
  statics := none }

def pool8 : Array CpInfo := pool [(1, .methodref 2 3), (0, .class_ 4), (0, .nameAndType 5 6), (0, u "java/lang/Object"), (0, u "<init>"), (0, u "()V"), (0, .string 8), (0, u ""), (0, .fieldref 10 11), (0, .class_ 12), (0, .nameAndType 13 14), (0, u "java/lang/String"), (0, u "value"), (0, u "[B"), (0, .fieldref 10 16), (0, .nameAndType 17 18), (0, u "coder"), (0, u "B"), (2, u "hash"), (0, u "I"), (2, u "hashIsZero"), (0, u "Z"), (0, .methodref 10 28), (0, .nameAndType 5 29), (0, u "([CIILjava/lang/Void;)V"), (8, .fieldref 10 39), (0, .nameAndType 40 26), (0, u "COMPACT_STRINGS"), (1, .class_ 44), (1, u "java/lang/StringUTF16"), (0, u "compress"), (1, .methodref 42 48), (0, .nameAndType 49 50), (0, u "coderFromArrayLen"), (0, u "([BI)B"), (56, .class_ 109), (1, u "java/lang/StringLatin1"), (32, u "()Z"), (34, .methodref 42 178), (0, .nameAndType 45 179), (0, u "([CII)[B"), (154, u "()I"), (0, .methodref 10 336), (0, .nameAndType 17 337), (0, u "()B"), (25, u "([BI)C"), (27, u "(II)V"), (35, u "(I)C"), (64, .methodref 10 493), (0, .nameAndType 494 142), (0, u "isLatin1"), (0, .methodref 107 496), (0, .nameAndType 497 363), (0, u "charAt"), (0, .methodref 42 496), (2, u "checkIndex"), (3, .methodref 10 506), (0, .nameAndType 507 334), (0, u "length"), (5, u "checkFromToIndex"), (9, u "checkBoundsBeginEnd"), (0, u "(III)V"), (50, .class_ 576), (0, u "java/lang/CharSequence"), (22, u "CASE_INSENSITIVE_ORDER"), (0, u "Ljava/util/Comparator;"), (34, u "indexOf"), (0, u "(II)I"), (0, .methodref 107 638), (0, .nameAndType 635 639), (0, u "([BIII)I"), (0, .methodref 42 638), (369, u "([C)V"), (42, .fieldref 1054 1055), (0, .class_ 1056), (0, .nameAndType 1057 1058), (0, u "jdk/internal/util/Preconditions"), (0, u "SIOOBE_FORMATTER"), (0, u "Ljava/util/function/BiFunction;"), (0, .methodref 1054 1060), (0, .nameAndType 501 1061), (0, u "(IILjava/util/function/BiFunction;)I"), (0, .methodref 1054 1063), (0, .nameAndType 513 1064), (0, u "(IIILjava/util/function/BiFunction;)I"), (36, u "serialPersistentFields"), (0, u "[Ljava/io/ObjectStreamField;"), (0, .class_ 1104), (0, u "java/lang/String$CaseInsensitiveComparator"), (1, .class_ 1107), (0, u "java/io/Serializable"), (0, .class_ 1109), (0, u "java/lang/Comparable"), (0, .class_ 1111), (0, u "java/lang/constant/Constable"), (0, .class_ 1113), (0, u "java/lang/constant/ConstantDesc"), (2, u "serialVersionUID"), (0, u "J"), (3, u "REPL"), (0, u "C"), (2, u "LATIN1"), (1, u "UTF16")] 323

def k8m0 : Method := { name := "<init>", desc := "()V", sig := { parameters := [], returnType := none }, accessFlags := 1, code := none }
def k8c1 : Code := { maxStack := 5, maxLocals := 2, code := jdk_42_method_3_code, exceptionTable := #[], attributes := #[] }
def k8m1 : Method := { name := "<init>", desc := "([C)V", sig := { parameters := [(.array .char)], returnType := none }, accessFlags := 1, code := some k8c1 }
def k8c2 : Code := { maxStack := 2, maxLocals := 1, code := jdk_42_method_54_code, exceptionTable := #[], attributes := #[] }
def k8m2 : Method := { name := "length", desc := "()I", sig := { parameters := [], returnType := some .int }, accessFlags := 1, code := some k8c2 }
def k8c3 : Code := { maxStack := 2, maxLocals := 2, code := jdk_42_method_56_code, exceptionTable := #[], attributes := #[] }
def k8m3 : Method := { name := "charAt", desc := "(I)C", sig := { parameters := [.int], returnType := some .char }, accessFlags := 1, code := some k8c3 }
def k8c4 : Code := { maxStack := 4, maxLocals := 3, code := jdk_42_method_80_code, exceptionTable := #[], attributes := #[] }
def k8m4 : Method := { name := "indexOf", desc := "(II)I", sig := { parameters := [.int, .int], returnType := some .int }, accessFlags := 1, code := some k8c4 }
def k8c5 : Code := { maxStack := 4, maxLocals := 6, code := jdk_42_method_149_code, exceptionTable := #[], attributes := #[] }
def k8m5 : Method := { name := "<init>", desc := "([CIILjava/lang/Void;)V", sig := { parameters := [(.array .char), .int, .int, (.object "java/lang/Void")], returnType := none }, accessFlags := 2, code := some k8c5 }
def k8c6 : Code := { maxStack := 1, maxLocals := 1, code := jdk_42_method_152_code, exceptionTable := #[], attributes := #[] }
def k8m6 : Method := { name := "coder", desc := "()B", sig := { parameters := [], returnType := some .byte }, accessFlags := 0, code := some k8c6 }
def k8c7 : Code := { maxStack := 1, maxLocals := 1, code := jdk_42_method_154_code, exceptionTable := #[], attributes := #[] }
def k8m7 : Method := { name := "isLatin1", desc := "()Z", sig := { parameters := [], returnType := some .boolean }, accessFlags := 0, code := some k8c7 }
def k8c8 : Code := { maxStack := 3, maxLocals := 2, code := jdk_42_method_155_code, exceptionTable := #[], attributes := #[] }
def k8m8 : Method := { name := "checkIndex", desc := "(II)V", sig := { parameters := [.int, .int], returnType := none }, accessFlags := 8, code := some k8c8 }
def k8c9 : Code := { maxStack := 4, maxLocals := 3, code := jdk_42_method_158_code, exceptionTable := #[], attributes := #[] }
def k8m9 : Method := { name := "checkBoundsBeginEnd", desc := "(III)V", sig := { parameters := [.int, .int, .int], returnType := none }, accessFlags := 8, code := some k8c9 }
/-- java/lang/String -/
def k8 : Class := { plain "java/lang/String" (some 0) with
  accessFlags := 49
  interfaces := #[3, 4, 5, 6, 7]
  cf := some (fileOf pool8 10 #[.nestMembers #[1103]] #[{ accessFlags := 1, nameIndex := 5, descriptorIndex := 6, attributes := #[] }, { accessFlags := 1, nameIndex := 5, descriptorIndex := 1010, attributes := #[] }, { accessFlags := 1, nameIndex := 507, descriptorIndex := 334, attributes := #[] }, { accessFlags := 1, nameIndex := 497, descriptorIndex := 427, attributes := #[] }, { accessFlags := 1, nameIndex := 635, descriptorIndex := 636, attributes := #[] }, { accessFlags := 2, nameIndex := 5, descriptorIndex := 29, attributes := #[] }, { accessFlags := 0, nameIndex := 17, descriptorIndex := 337, attributes := #[] }, { accessFlags := 0, nameIndex := 494, descriptorIndex := 142, attributes := #[] }, { accessFlags := 8, nameIndex := 501, descriptorIndex := 391, attributes := #[] }, { accessFlags := 8, nameIndex := 523, descriptorIndex := 524, attributes := #[] }] 49 2 #[1106, 1108, 575, 1110, 1112] #[{ accessFlags := 18, nameIndex := 13, descriptorIndex := 14, attributes := #[] }, { accessFlags := 18, nameIndex := 17, descriptorIndex := 18, attributes := #[] }, { accessFlags := 2, nameIndex := 21, descriptorIndex := 22, attributes := #[] }, { accessFlags := 2, nameIndex := 25, descriptorIndex := 26, attributes := #[] }, { accessFlags := 26, nameIndex := 1116, descriptorIndex := 1117, attributes := #[] }, { accessFlags := 24, nameIndex := 40, descriptorIndex := 26, attributes := #[] }, { accessFlags := 26, nameIndex := 1101, descriptorIndex := 1102, attributes := #[] }, { accessFlags := 26, nameIndex := 1121, descriptorIndex := 1122, attributes := #[] }, { accessFlags := 25, nameIndex := 599, descriptorIndex := 600, attributes := #[] }, { accessFlags := 24, nameIndex := 1125, descriptorIndex := 18, attributes := #[] }, { accessFlags := 24, nameIndex := 1127, descriptorIndex := 18, attributes := #[] }])
  fields := #[{ name := "value", type := (.array .byte), accessFlags := 18, slot := 0, constantValue := 0 }, { name := "coder", type := .byte, accessFlags := 18, slot := 1, constantValue := 0 }, { name := "hash", type := .int, accessFlags := 2, slot := 2, constantValue := 0 }, { name := "hashIsZero", type := .boolean, accessFlags := 2, slot := 3, constantValue := 0 }, { name := "serialVersionUID", type := .long, accessFlags := 26, slot := 0, constantValue := 0 }, { name := "COMPACT_STRINGS", type := .boolean, accessFlags := 24, slot := 1, constantValue := 0 }, { name := "serialPersistentFields", type := (.array (.object "java/io/ObjectStreamField")), accessFlags := 26, slot := 2, constantValue := 0 }, { name := "REPL", type := .char, accessFlags := 26, slot := 3, constantValue := 0 }, { name := "CASE_INSENSITIVE_ORDER", type := (.object "java/util/Comparator"), accessFlags := 25, slot := 4, constantValue := 0 }, { name := "LATIN1", type := .byte, accessFlags := 24, slot := 5, constantValue := 0 }, { name := "UTF16", type := .byte, accessFlags := 24, slot := 6, constantValue := 0 }]
  methods := #[k8m0, k8m1, k8m2, k8m3, k8m4, k8m5, k8m6, k8m7, k8m8, k8m9]
  instanceTypes := #[(.array .byte), .byte, .int, .boolean]
  staticTypes := #[.long, .boolean, (.array (.object "java/io/ObjectStreamField")), .char, (.object "java/util/Comparator"), .byte, .byte]
  resolved := Array.replicate 1451 none
  statics := some 0 }

def pool9 : Array CpInfo := pool [(1, .class_ 2), (0, u "java/lang/String"), (1, .class_ 6), (1, u "java/lang/Object"), (0, u "<init>"), (0, u "()V"), (0, .methodref 1 10), (0, .nameAndType 11 12), (0, u "checkIndex"), (0, u "(II)V"), (1, .class_ 16), (1, u "java/lang/StringLatin1"), (21, .methodref 39 40), (0, .class_ 41), (0, .nameAndType 42 43), (0, u "java/lang/Math"), (0, u "min"), (0, u "(II)I"), (9, u "([BI)C"), (34, .methodref 14 89), (0, .nameAndType 90 91), (0, u "canEncode"), (0, u "(I)Z"), (0, .methodref 39 93), (0, .nameAndType 94 43), (0, u "max"), (0, .methodref 14 96), (0, .nameAndType 97 98), (0, u "indexOfChar"), (0, u "([BIII)I"), (2, u "indexOf"), (19, u "$assertionsDisabled"), (0, u "Z"), (98, .class_ 223), (1, u "java/lang/StringLatin1$LinesSpliterator"), (28, u "charAt"), (137, .class_ 391), (0, u "java/lang/StringLatin1$CharsSpliterator")] 3

def k9m0 : Method := { name := "<init>", desc := "()V", sig := { parameters := [], returnType := none }, accessFlags := 0, code := none }
def k9c1 : Code := { maxStack := 2, maxLocals := 2, code := jdk_43_method_2_code, exceptionTable := #[], attributes := #[] }
def k9m1 : Method := { name := "charAt", desc := "([BI)C", sig := { parameters := [(.array .byte), .int], returnType := some .char }, accessFlags := 9, code := some k9c1 }
def k9c2 : Code := { maxStack := 2, maxLocals := 1, code := jdk_43_method_4_code, exceptionTable := #[], attributes := #[] }
def k9m2 : Method := { name := "canEncode", desc := "(I)Z", sig := { parameters := [.int], returnType := some .boolean }, accessFlags := 9, code := some k9c2 }
def k9c3 : Code := { maxStack := 4, maxLocals := 4, code := jdk_43_method_22_code, exceptionTable := #[], attributes := #[] }
def k9m3 : Method := { name := "indexOf", desc := "([BIII)I", sig := { parameters := [(.array .byte), .int, .int, .int], returnType := some .int }, accessFlags := 9, code := some k9c3 }
def k9c4 : Code := { maxStack := 2, maxLocals := 6, code := jdk_43_method_23_code, exceptionTable := #[], attributes := #[] }
def k9m4 : Method := { name := "indexOfChar", desc := "([BIII)I", sig := { parameters := [(.array .byte), .int, .int, .int], returnType := some .int }, accessFlags := 10, code := some k9c4 }
/-- java/lang/StringLatin1 -/
def k9 : Class := { plain "java/lang/StringLatin1" (some 0) with
  accessFlags := 48
  interfaces := #[]
  cf := some (fileOf pool9 14 #[.nestMembers #[390, 221]] #[{ accessFlags := 0, nameIndex := 7, descriptorIndex := 8, attributes := #[] }, { accessFlags := 9, nameIndex := 252, descriptorIndex := 53, attributes := #[] }, { accessFlags := 9, nameIndex := 90, descriptorIndex := 91, attributes := #[] }, { accessFlags := 9, nameIndex := 101, descriptorIndex := 98, attributes := #[] }, { accessFlags := 10, nameIndex := 97, descriptorIndex := 98, attributes := #[] }] 48 4 #[] #[{ accessFlags := 4120, nameIndex := 121, descriptorIndex := 122, attributes := #[] }])
  fields := #[{ name := "$assertionsDisabled", type := .boolean, accessFlags := 4120, slot := 0, constantValue := 0 }]
  methods := #[k9m0, k9m1, k9m2, k9m3, k9m4]
  instanceTypes := #[]
  staticTypes := #[.boolean]
  resolved := Array.replicate 395 none
  statics := none }

def pool10 : Array CpInfo := pool [(1, .class_ 2), (0, u "java/lang/Math"), (1, .class_ 6), (1, u "java/lang/Object"), (0, u "<init>"), (0, u "()V"), (89, .class_ 100), (1, u "java/lang/Math$RandomNumberGeneratorHolder"), (71, u "negativeZeroFloatBits"), (0, u "J"), (2, u "negativeZeroDoubleBits"), (21, u "max"), (2, u "min"), (43, u "$assertionsDisabled"), (0, u "Z"), (88, u "(II)I"), (2, u "twoToTheDoubleScaleDown"), (0, u "D"), (4, u "twoToTheDoubleScaleUp"), (9, u "E"), (3, u "PI"), (2, u "TAU"), (2, u "DEGREES_TO_RADIANS"), (0, u "RADIANS_TO_DEGREES")] 94

def k10m0 : Method := { name := "<init>", desc := "()V", sig := { parameters := [], returnType := none }, accessFlags := 2, code := none }
def k10c1 : Code := { maxStack := 2, maxLocals := 2, code := jdk_29_method_65_code, exceptionTable := #[], attributes := #[] }
def k10m1 : Method := { name := "max", desc := "(II)I", sig := { parameters := [.int, .int], returnType := some .int }, accessFlags := 9, code := some k10c1 }
def k10c2 : Code := { maxStack := 2, maxLocals := 2, code := jdk_29_method_69_code, exceptionTable := #[], attributes := #[] }
def k10m2 : Method := { name := "min", desc := "(II)I", sig := { parameters := [.int, .int], returnType := some .int }, accessFlags := 9, code := some k10c2 }
/-- java/lang/Math -/
def k10 : Class := { plain "java/lang/Math" (some 0) with
  accessFlags := 49
  interfaces := #[]
  cf := some (fileOf pool10 1 #[.nestMembers #[98]] #[{ accessFlags := 2, nameIndex := 7, descriptorIndex := 8, attributes := #[] }, { accessFlags := 9, nameIndex := 198, descriptorIndex := 335, attributes := #[] }, { accessFlags := 9, nameIndex := 201, descriptorIndex := 335, attributes := #[] }] 49 4 #[] #[{ accessFlags := 25, nameIndex := 354, descriptorIndex := 339, attributes := #[] }, { accessFlags := 25, nameIndex := 358, descriptorIndex := 339, attributes := #[] }, { accessFlags := 25, nameIndex := 361, descriptorIndex := 339, attributes := #[] }, { accessFlags := 26, nameIndex := 364, descriptorIndex := 339, attributes := #[] }, { accessFlags := 26, nameIndex := 365, descriptorIndex := 339, attributes := #[] }, { accessFlags := 26, nameIndex := 172, descriptorIndex := 173, attributes := #[] }, { accessFlags := 26, nameIndex := 176, descriptorIndex := 173, attributes := #[] }, { accessFlags := 8, nameIndex := 344, descriptorIndex := 339, attributes := #[] }, { accessFlags := 8, nameIndex := 338, descriptorIndex := 339, attributes := #[] }, { accessFlags := 4120, nameIndex := 245, descriptorIndex := 246, attributes := #[] }])
  fields := #[{ name := "E", type := .double, accessFlags := 25, slot := 0, constantValue := 0 }, { name := "PI", type := .double, accessFlags := 25, slot := 1, constantValue := 0 }, { name := "TAU", type := .double, accessFlags := 25, slot := 2, constantValue := 0 }, { name := "DEGREES_TO_RADIANS", type := .double, accessFlags := 26, slot := 3, constantValue := 0 }, { name := "RADIANS_TO_DEGREES", type := .double, accessFlags := 26, slot := 4, constantValue := 0 }, { name := "negativeZeroFloatBits", type := .long, accessFlags := 26, slot := 5, constantValue := 0 }, { name := "negativeZeroDoubleBits", type := .long, accessFlags := 26, slot := 6, constantValue := 0 }, { name := "twoToTheDoubleScaleUp", type := .double, accessFlags := 8, slot := 7, constantValue := 0 }, { name := "twoToTheDoubleScaleDown", type := .double, accessFlags := 8, slot := 8, constantValue := 0 }, { name := "$assertionsDisabled", type := .boolean, accessFlags := 4120, slot := 9, constantValue := 0 }]
  methods := #[k10m0, k10m1, k10m2]
  instanceTypes := #[]
  staticTypes := #[.double, .double, .double, .double, .double, .long, .long, .double, .double, .boolean]
  resolved := Array.replicate 460 none
  statics := none }

def pool11 : Array CpInfo := pool [(3, .class_ 4), (0, u "java/lang/String"), (1, .class_ 8), (1, u "java/lang/Object"), (0, u "<init>"), (0, u "()V"), (0, .methodref 12 13), (0, .class_ 14), (0, .nameAndType 15 16), (0, u "java/lang/StringUTF16"), (0, u "newBytesLength"), (0, u "(I)I"), (3, .integer 1073741823), (23, .fieldref 12 45), (0, .nameAndType 46 47), (0, u "$assertionsDisabled"), (0, u "Z"), (0, .methodref 12 49), (0, .nameAndType 50 51), (0, u "length"), (0, u "([B)I"), (7, .fieldref 12 60), (0, .nameAndType 61 62), (0, u "HI_BYTE_SHIFT"), (0, u "I"), (0, .fieldref 12 64), (0, .nameAndType 65 62), (0, u "LO_BYTE_SHIFT"), (1, .methodref 12 68), (0, .nameAndType 69 70), (0, u "checkIndex"), (0, u "(I[B)V"), (0, .methodref 12 72), (0, .nameAndType 73 74), (0, u "getChar"), (0, u "([BI)C"), (21, .methodref 12 97), (0, .nameAndType 98 99), (0, u "checkBoundsBeginEnd"), (0, u "(II[B)V"), (7, .methodref 12 108), (0, .nameAndType 109 110), (0, u "newBytesFor"), (0, u "(I)[B"), (0, .methodref 12 112), (0, .nameAndType 113 114), (0, u "putChar"), (0, u "([BII)V"), (0, .methodref 12 116), (0, .nameAndType 117 118), (0, u "compress"), (0, u "([CI[BII)I"), (0, .methodref 12 120), (0, .nameAndType 121 122), (0, u "toBytes"), (0, u "([CII)[B"), (60, .methodref 184 185), (0, .class_ 186), (0, .nameAndType 187 188), (0, u "java/lang/Math"), (0, u "min"), (0, u "(II)I"), (35, .methodref 184 225), (0, .nameAndType 226 188), (0, u "max"), (0, .integer 65536), (0, .methodref 12 229), (0, .nameAndType 230 231), (0, u "indexOfChar"), (0, u "([BIII)I"), (9, .methodref 3 242), (0, .nameAndType 98 243), (0, u "(III)V"), (0, .methodref 12 245), (0, .nameAndType 246 231), (0, u "indexOfCharUnsafe"), (14, u "coderFromArrayLen"), (0, u "([BI)B"), (5, u "indexOf"), (100, .class_ 371), (1, u "java/lang/StringUTF16$LinesSpliterator"), (20, u "charAt"), (21, .methodref 3 415), (0, .nameAndType 69 416), (0, u "(II)V"), (13, u "MAX_LENGTH"), (196, .class_ 628), (0, u "java/lang/StringUTF16$CodePointsSpliterator"), (0, .class_ 630), (0, u "java/lang/StringUTF16$CharsSpliterator")] 4

def k11m0 : Method := { name := "<init>", desc := "()V", sig := { parameters := [], returnType := none }, accessFlags := 0, code := none }
def k11c1 : Code := { maxStack := 1, maxLocals := 1, code := jdk_52_method_2_code, exceptionTable := #[], attributes := #[] }
def k11m1 : Method := { name := "newBytesFor", desc := "(I)[B", sig := { parameters := [.int], returnType := some (.array .byte) }, accessFlags := 9, code := some k11c1 }
def k11c2 : Code := { maxStack := 4, maxLocals := 1, code := jdk_52_method_3_code, exceptionTable := #[], attributes := #[] }
def k11m2 : Method := { name := "newBytesLength", desc := "(I)I", sig := { parameters := [.int], returnType := some .int }, accessFlags := 9, code := some k11c2 }
def k11c3 : Code := { maxStack := 4, maxLocals := 3, code := jdk_52_method_4_code, exceptionTable := #[], attributes := #[] }
def k11m3 : Method := { name := "putChar", desc := "([BII)V", sig := { parameters := [(.array .byte), .int, .int], returnType := none }, accessFlags := 8, code := some k11c3 }
def k11c4 : Code := { maxStack := 3, maxLocals := 2, code := jdk_52_method_5_code, exceptionTable := #[], attributes := #[] }
def k11m4 : Method := { name := "getChar", desc := "([BI)C", sig := { parameters := [(.array .byte), .int], returnType := some .char }, accessFlags := 8, code := some k11c4 }
def k11c5 : Code := { maxStack := 2, maxLocals := 1, code := jdk_52_method_6_code, exceptionTable := #[], attributes := #[] }
def k11m5 : Method := { name := "length", desc := "([B)I", sig := { parameters := [(.array .byte)], returnType := some .int }, accessFlags := 9, code := some k11c5 }
def k11c6 : Code := { maxStack := 4, maxLocals := 5, code := jdk_52_method_14_code, exceptionTable := #[], attributes := #[] }
def k11m6 : Method := { name := "toBytes", desc := "([CII)[B", sig := { parameters := [(.array .char), .int, .int], returnType := some (.array .byte) }, accessFlags := 9, code := some k11c6 }
def k11c7 : Code := { maxStack := 2, maxLocals := 2, code := jdk_52_method_15_code, exceptionTable := #[], attributes := #[] }
def k11m7 : Method := { name := "coderFromArrayLen", desc := "([BI)B", sig := { parameters := [(.array .byte), .int], returnType := some .byte }, accessFlags := 8, code := some k11c7 }
def k11c8 : Code := { maxStack := 5, maxLocals := 6, code := jdk_52_method_16_code, exceptionTable := #[], attributes := #[] }
def k11m8 : Method := { name := "compress", desc := "([CII)[B", sig := { parameters := [(.array .char), .int, .int], returnType := some (.array .byte) }, accessFlags := 9, code := some k11c8 }
def k11c9 : Code := { maxStack := 3, maxLocals := 7, code := jdk_52_method_21_code, exceptionTable := #[], attributes := #[] }
def k11m9 : Method := { name := "compress", desc := "([CI[BII)I", sig := { parameters := [(.array .char), .int, (.array .byte), .int, .int], returnType := some .int }, accessFlags := 9, code := some k11c9 }
def k11c10 : Code := { maxStack := 4, maxLocals := 4, code := jdk_52_method_40_code, exceptionTable := #[], attributes := #[] }
def k11m10 : Method := { name := "indexOf", desc := "([BIII)I", sig := { parameters := [(.array .byte), .int, .int, .int], returnType := some .int }, accessFlags := 9, code := some k11c10 }
def k11c11 : Code := { maxStack := 4, maxLocals := 4, code := jdk_52_method_47_code, exceptionTable := #[], attributes := #[] }
def k11m11 : Method := { name := "indexOfChar", desc := "([BIII)I", sig := { parameters := [(.array .byte), .int, .int, .int], returnType := some .int }, accessFlags := 10, code := some k11c11 }
def k11c12 : Code := { maxStack := 2, maxLocals := 5, code := jdk_52_method_48_code, exceptionTable := #[], attributes := #[] }
def k11m12 : Method := { name := "indexOfCharUnsafe", desc := "([BIII)I", sig := { parameters := [(.array .byte), .int, .int, .int], returnType := some .int }, accessFlags := 10, code := some k11c12 }
def k11c13 : Code := { maxStack := 2, maxLocals := 2, code := jdk_52_method_83_code, exceptionTable := #[], attributes := #[] }
def k11m13 : Method := { name := "charAt", desc := "([BI)C", sig := { parameters := [(.array .byte), .int], returnType := some .char }, accessFlags := 9, code := some k11c13 }
def k11c14 : Code := { maxStack := 2, maxLocals := 2, code := jdk_52_method_91_code, exceptionTable := #[], attributes := #[] }
def k11m14 : Method := { name := "checkIndex", desc := "(I[B)V", sig := { parameters := [.int, (.array .byte)], returnType := none }, accessFlags := 9, code := some k11c14 }
def k11c15 : Code := { maxStack := 3, maxLocals := 3, code := jdk_52_method_93_code, exceptionTable := #[], attributes := #[] }
def k11m15 : Method := { name := "checkBoundsBeginEnd", desc := "(II[B)V", sig := { parameters := [.int, .int, (.array .byte)], returnType := none }, accessFlags := 9, code := some k11c15 }
/-- java/lang/StringUTF16 -/
def k11 : Class := { plain "java/lang/StringUTF16" (some 0) with
  accessFlags := 48
  interfaces := #[]
  cf := some (fileOf pool11 12 #[.nestMembers #[627, 629, 369]] #[{ accessFlags := 0, nameIndex := 9, descriptorIndex := 10, attributes := #[] }, { accessFlags := 9, nameIndex := 109, descriptorIndex := 110, attributes := #[] }, { accessFlags := 9, nameIndex := 15, descriptorIndex := 16, attributes := #[] }, { accessFlags := 8, nameIndex := 113, descriptorIndex := 114, attributes := #[] }, { accessFlags := 8, nameIndex := 73, descriptorIndex := 74, attributes := #[] }, { accessFlags := 9, nameIndex := 50, descriptorIndex := 51, attributes := #[] }, { accessFlags := 9, nameIndex := 121, descriptorIndex := 122, attributes := #[] }, { accessFlags := 8, nameIndex := 261, descriptorIndex := 262, attributes := #[] }, { accessFlags := 9, nameIndex := 117, descriptorIndex := 122, attributes := #[] }, { accessFlags := 9, nameIndex := 117, descriptorIndex := 118, attributes := #[] }, { accessFlags := 9, nameIndex := 268, descriptorIndex := 231, attributes := #[] }, { accessFlags := 10, nameIndex := 230, descriptorIndex := 231, attributes := #[] }, { accessFlags := 10, nameIndex := 246, descriptorIndex := 231, attributes := #[] }, { accessFlags := 9, nameIndex := 392, descriptorIndex := 74, attributes := #[] }, { accessFlags := 9, nameIndex := 69, descriptorIndex := 70, attributes := #[] }, { accessFlags := 9, nameIndex := 98, descriptorIndex := 99, attributes := #[] }] 48 6 #[] #[{ accessFlags := 26, nameIndex := 61, descriptorIndex := 62, attributes := #[] }, { accessFlags := 26, nameIndex := 65, descriptorIndex := 62, attributes := #[] }, { accessFlags := 24, nameIndex := 430, descriptorIndex := 62, attributes := #[] }, { accessFlags := 4120, nameIndex := 46, descriptorIndex := 47, attributes := #[] }])
  fields := #[{ name := "HI_BYTE_SHIFT", type := .int, accessFlags := 26, slot := 0, constantValue := 0 }, { name := "LO_BYTE_SHIFT", type := .int, accessFlags := 26, slot := 1, constantValue := 0 }, { name := "MAX_LENGTH", type := .int, accessFlags := 24, slot := 2, constantValue := 0 }, { name := "$assertionsDisabled", type := .boolean, accessFlags := 4120, slot := 3, constantValue := 0 }]
  methods := #[k11m0, k11m1, k11m2, k11m3, k11m4, k11m5, k11m6, k11m7, k11m8, k11m9, k11m10, k11m11, k11m12, k11m13, k11m14, k11m15]
  instanceTypes := #[]
  staticTypes := #[.int, .int, .int, .boolean]
  resolved := Array.replicate 635 none
  statics := some 1 }

def pool12 : Array CpInfo := pool [(2, .class_ 4), (1, u "java/lang/Object"), (0, u "<init>"), (0, u "()V"), (17, .class_ 26), (1, u "jdk/internal/util/Preconditions"), (6, u "checkIndex"), (13, u "checkFromToIndex"), (7, .class_ 56), (0, u "jdk/internal/util/Preconditions$4"), (57, .class_ 115), (0, u "jdk/internal/util/Preconditions$1"), (7, u "SIOOBE_FORMATTER"), (0, u "Ljava/util/function/BiFunction;"), (0, .class_ 126), (0, u "jdk/internal/util/Preconditions$2"), (3, u "AIOOBE_FORMATTER"), (0, .class_ 132), (0, u "jdk/internal/util/Preconditions$3"), (3, u "IOOBE_FORMATTER"), (41, u "(IILjava/util/function/BiFunction;)I"), (4, u "(IIILjava/util/function/BiFunction;)I")] 10

def k12m0 : Method := { name := "<init>", desc := "()V", sig := { parameters := [], returnType := none }, accessFlags := 1, code := none }
def k12c1 : Code := { maxStack := 3, maxLocals := 3, code := jdk_41_method_11_code, exceptionTable := #[], attributes := #[] }
def k12m1 : Method := { name := "checkIndex", desc := "(IILjava/util/function/BiFunction;)I", sig := { parameters := [.int, .int, (.object "java/util/function/BiFunction")], returnType := some .int }, accessFlags := 9, code := some k12c1 }
def k12c2 : Code := { maxStack := 4, maxLocals := 4, code := jdk_41_method_12_code, exceptionTable := #[], attributes := #[] }
def k12m2 : Method := { name := "checkFromToIndex", desc := "(IIILjava/util/function/BiFunction;)I", sig := { parameters := [.int, .int, .int, (.object "java/util/function/BiFunction")], returnType := some .int }, accessFlags := 9, code := some k12c2 }
/-- jdk/internal/util/Preconditions -/
def k12 : Class := { plain "jdk/internal/util/Preconditions" (some 0) with
  accessFlags := 33
  interfaces := #[]
  cf := some (fileOf pool12 24 #[.nestMembers #[55, 131, 125, 114]] #[{ accessFlags := 1, nameIndex := 5, descriptorIndex := 6, attributes := #[] }, { accessFlags := 9, nameIndex := 33, descriptorIndex := 178, attributes := #[] }, { accessFlags := 9, nameIndex := 47, descriptorIndex := 183, attributes := #[] }] 33 2 #[] #[{ accessFlags := 25, nameIndex := 123, descriptorIndex := 124, attributes := #[] }, { accessFlags := 25, nameIndex := 130, descriptorIndex := 124, attributes := #[] }, { accessFlags := 25, nameIndex := 136, descriptorIndex := 124, attributes := #[] }])
  fields := #[{ name := "SIOOBE_FORMATTER", type := (.object "java/util/function/BiFunction"), accessFlags := 25, slot := 0, constantValue := 0 }, { name := "AIOOBE_FORMATTER", type := (.object "java/util/function/BiFunction"), accessFlags := 25, slot := 1, constantValue := 0 }, { name := "IOOBE_FORMATTER", type := (.object "java/util/function/BiFunction"), accessFlags := 25, slot := 2, constantValue := 0 }]
  methods := #[k12m0, k12m1, k12m2]
  instanceTypes := #[]
  staticTypes := #[(.object "java/util/function/BiFunction"), (.object "java/util/function/BiFunction"), (.object "java/util/function/BiFunction")]
  resolved := Array.replicate 194 none
  statics := some 2 }

def pool13 : Array CpInfo := pool [(2, .class_ 4), (1, u "java/lang/Object"), (0, u "<init>"), (0, u "()V"), (10, .class_ 19), (1, u "com/example/libbisim/libbisim/TextFormat"), (0, u "isBlank"), (8, .class_ 30), (0, u "com/example/libbisim/libbisim/TextFormat$Cursor"), (65, .class_ 98), (1, u "com/example/libbisim/libbisim/TextFormat$BuilderStart"), (6, .class_ 107), (1, u "com/example/libbisim/libbisim/TextFormat$TransitionReader"), (19, .class_ 128), (0, u "com/example/libbisim/libbisim/TextFormat$Relation"), (114, u "(C)Z"), (11, u "HEADER"), (0, u "Ljava/lang/String;"), (29, .class_ 287), (0, u "com/example/libbisim/libbisim/TextFormat$TransitionWriter")] 52

def k13m0 : Method := { name := "<init>", desc := "()V", sig := { parameters := [], returnType := none }, accessFlags := 2, code := none }
def k13c1 : Code := { maxStack := 2, maxLocals := 1, code := prog_67_method_8_code, exceptionTable := #[], attributes := #[] }
def k13m1 : Method := { name := "isBlank", desc := "(C)Z", sig := { parameters := [.char], returnType := some .boolean }, accessFlags := 10, code := some k13c1 }
/-- com/example/libbisim/libbisim/TextFormat -/
def k13 : Class := { plain "com/example/libbisim/libbisim/TextFormat" (some 0) with
  accessFlags := 48
  interfaces := #[]
  cf := some (fileOf pool13 17 #[.nestMembers #[29, 127, 286, 105, 96]] #[{ accessFlags := 2, nameIndex := 5, descriptorIndex := 6, attributes := #[] }, { accessFlags := 10, nameIndex := 20, descriptorIndex := 243, attributes := #[] }] 48 2 #[] #[{ accessFlags := 26, nameIndex := 255, descriptorIndex := 256, attributes := #[] }])
  fields := #[{ name := "HEADER", type := (.object "java/lang/String"), accessFlags := 26, slot := 0, constantValue := 0 }]
  methods := #[k13m0, k13m1]
  instanceTypes := #[]
  staticTypes := #[(.object "java/lang/String")]
  resolved := Array.replicate 340 none
  statics := none }

def pool14 : Array CpInfo := pool [(9, u "<init>"), (6, .class_ 18), (1, u "java/lang/Object"), (0, u "()V"), (1, .class_ 23), (1, u "jdk/internal/util/ArraysSupport"), (0, u "LOG2_ARRAY_LONG_INDEX_SCALE"), (0, u "I"), (2, u "U"), (0, u "Ljdk/internal/misc/Unsafe;"), (8, u "BIG_ENDIAN"), (0, u "Z"), (8, u "LOG2_BYTE_BIT_SIZE"), (4, u "LOG2_ARRAY_INT_INDEX_SCALE"), (54, u "JLA"), (0, u "Ljdk/internal/access/JavaLangAccess;"), (11, u "LOG2_ARRAY_BOOLEAN_INDEX_SCALE"), (9, u "LOG2_ARRAY_BYTE_INDEX_SCALE"), (5, u "LOG2_ARRAY_CHAR_INDEX_SCALE"), (5, u "LOG2_ARRAY_SHORT_INDEX_SCALE"), (18, u "LOG2_ARRAY_FLOAT_INDEX_SCALE"), (24, u "LOG2_ARRAY_DOUBLE_INDEX_SCALE"), (89, u "T_BOOLEAN"), (2, u "T_CHAR"), (1, u "T_FLOAT"), (1, u "T_DOUBLE"), (1, u "T_BYTE"), (1, u "T_SHORT"), (1, u "T_INT"), (1, u "T_LONG"), (1, u "SOFT_MAX_ARRAY_LENGTH")] 83

def k14m0 : Method := { name := "<init>", desc := "()V", sig := { parameters := [], returnType := none }, accessFlags := 2, code := none }
/-- jdk/internal/util/ArraysSupport -/
def k14 : Class := { plain "jdk/internal/util/ArraysSupport" (some 0) with
  accessFlags := 33
  interfaces := #[]
  cf := some (fileOf pool14 21 #[] #[{ accessFlags := 2, nameIndex := 9, descriptorIndex := 19, attributes := #[] }] 33 16 #[] #[{ accessFlags := 24, nameIndex := 28, descriptorIndex := 29, attributes := #[] }, { accessFlags := 26, nameIndex := 38, descriptorIndex := 39, attributes := #[] }, { accessFlags := 25, nameIndex := 121, descriptorIndex := 25, attributes := #[] }, { accessFlags := 25, nameIndex := 131, descriptorIndex := 25, attributes := #[] }, { accessFlags := 25, nameIndex := 137, descriptorIndex := 25, attributes := #[] }, { accessFlags := 25, nameIndex := 143, descriptorIndex := 25, attributes := #[] }, { accessFlags := 25, nameIndex := 53, descriptorIndex := 25, attributes := #[] }, { accessFlags := 25, nameIndex := 24, descriptorIndex := 25, attributes := #[] }, { accessFlags := 25, nameIndex := 162, descriptorIndex := 25, attributes := #[] }, { accessFlags := 25, nameIndex := 187, descriptorIndex := 25, attributes := #[] }, { accessFlags := 26, nameIndex := 48, descriptorIndex := 25, attributes := #[] }, { accessFlags := 25, nameIndex := 277, descriptorIndex := 25, attributes := #[] }, { accessFlags := 25, nameIndex := 280, descriptorIndex := 25, attributes := #[] }, { accessFlags := 25, nameIndex := 282, descriptorIndex := 25, attributes := #[] }, { accessFlags := 25, nameIndex := 284, descriptorIndex := 25, attributes := #[] }, { accessFlags := 25, nameIndex := 286, descriptorIndex := 25, attributes := #[] }, { accessFlags := 25, nameIndex := 288, descriptorIndex := 25, attributes := #[] }, { accessFlags := 25, nameIndex := 290, descriptorIndex := 25, attributes := #[] }, { accessFlags := 25, nameIndex := 292, descriptorIndex := 25, attributes := #[] }, { accessFlags := 26, nameIndex := 108, descriptorIndex := 109, attributes := #[] }, { accessFlags := 25, nameIndex := 294, descriptorIndex := 25, attributes := #[] }])
  fields := #[{ name := "U", type := (.object "jdk/internal/misc/Unsafe"), accessFlags := 24, slot := 0, constantValue := 0 }, { name := "BIG_ENDIAN", type := .boolean, accessFlags := 26, slot := 1, constantValue := 0 }, { name := "LOG2_ARRAY_BOOLEAN_INDEX_SCALE", type := .int, accessFlags := 25, slot := 2, constantValue := 0 }, { name := "LOG2_ARRAY_BYTE_INDEX_SCALE", type := .int, accessFlags := 25, slot := 3, constantValue := 0 }, { name := "LOG2_ARRAY_CHAR_INDEX_SCALE", type := .int, accessFlags := 25, slot := 4, constantValue := 0 }, { name := "LOG2_ARRAY_SHORT_INDEX_SCALE", type := .int, accessFlags := 25, slot := 5, constantValue := 0 }, { name := "LOG2_ARRAY_INT_INDEX_SCALE", type := .int, accessFlags := 25, slot := 6, constantValue := 0 }, { name := "LOG2_ARRAY_LONG_INDEX_SCALE", type := .int, accessFlags := 25, slot := 7, constantValue := 0 }, { name := "LOG2_ARRAY_FLOAT_INDEX_SCALE", type := .int, accessFlags := 25, slot := 8, constantValue := 0 }, { name := "LOG2_ARRAY_DOUBLE_INDEX_SCALE", type := .int, accessFlags := 25, slot := 9, constantValue := 0 }, { name := "LOG2_BYTE_BIT_SIZE", type := .int, accessFlags := 26, slot := 10, constantValue := 0 }, { name := "T_BOOLEAN", type := .int, accessFlags := 25, slot := 11, constantValue := 0 }, { name := "T_CHAR", type := .int, accessFlags := 25, slot := 12, constantValue := 0 }, { name := "T_FLOAT", type := .int, accessFlags := 25, slot := 13, constantValue := 0 }, { name := "T_DOUBLE", type := .int, accessFlags := 25, slot := 14, constantValue := 0 }, { name := "T_BYTE", type := .int, accessFlags := 25, slot := 15, constantValue := 0 }, { name := "T_SHORT", type := .int, accessFlags := 25, slot := 16, constantValue := 0 }, { name := "T_INT", type := .int, accessFlags := 25, slot := 17, constantValue := 0 }, { name := "T_LONG", type := .int, accessFlags := 25, slot := 18, constantValue := 0 }, { name := "JLA", type := (.object "jdk/internal/access/JavaLangAccess"), accessFlags := 26, slot := 19, constantValue := 0 }, { name := "SOFT_MAX_ARRAY_LENGTH", type := .int, accessFlags := 25, slot := 20, constantValue := 0 }]
  methods := #[k14m0]
  instanceTypes := #[]
  staticTypes := #[(.object "jdk/internal/misc/Unsafe"), .boolean, .int, .int, .int, .int, .int, .int, .int, .int, .int, .int, .int, .int, .int, .int, .int, .int, .int, (.object "jdk/internal/access/JavaLangAccess"), .int]
  resolved := Array.replicate 378 none
  statics := none }

def pool15 : Array CpInfo := pool [(1, u "java/lang/Cloneable"), (0, .class_ 1), (0, u "java/lang/Object"), (0, .class_ 3)] 3

/-- java/lang/Cloneable -/
def k15 : Class := { plain "java/lang/Cloneable" (some 0) with
  accessFlags := 1537
  interfaces := #[]
  cf := some (fileOf pool15 2 #[] #[] 1537 4 #[] #[])
  fields := #[]
  methods := #[]
  instanceTypes := #[]
  staticTypes := #[]
  resolved := Array.replicate 8 none
  statics := none }

/-- the primitive byte -/
def k16 : Class := { plain "byte" none with kind := .primitive 'B', accessFlags := 0x411 }
/-- [B -/
def k17 : Class := { plain "[B" (some 0) with kind := .array 16 .byte, interfaces := #[15, 3], accessFlags := 1041 }

/-- the primitive char -/
def k18 : Class := { plain "char" none with kind := .primitive 'C', accessFlags := 0x411 }
/-- [C -/
def k19 : Class := { plain "[C" (some 0) with kind := .array 18 .char, interfaces := #[15, 3], accessFlags := 1041 }

/-- the primitive int -/
def k20 : Class := { plain "int" none with kind := .primitive 'I', accessFlags := 0x411 }
/-- [I -/
def k21 : Class := { plain "[I" (some 0) with kind := .array 20 .int, interfaces := #[15, 3], accessFlags := 1041 }

def heap : Heap := #[{ cls := 8, slots := #[.long 0, .int 1, .null, .int 0, .null, .int 0, .int 0], vm := .statics 8 },
  { cls := 11, slots := #[.int 0, .int 8, .int 0, .int 1], vm := .statics 11 },
  { cls := 12, slots := #[.null, .null, .null], vm := .statics 12 }]
def classes : Array Class := #[k0, k1, k2, k3, k4, k5, k6, k7, k8, k9, k10, k11, k12, k13, k14, k15, k16, k17, k18, k19, k20, k21]
def interned : List (Array UInt16 × Addr) := []
def slotsUsed : Nat := 14
def theMethod : MethodId := ⟨1, 1⟩
def args0 : Array Value := #[.int 5, .int 5, .int 5, .int 5, .int 5]
def aboutOver (below : List Frame) : State where
  vm := { classes := classes, interned := interned.toArray }
  heap := heap
  slotsUsed := slotsUsed
  threads := #[{ frames := .invoking theMethod args0 :: below }]
def below0 : List Frame := [.native { method := ⟨0, 0⟩, args := #[] }]
def about1 : State := aboutOver below0
def p0 : Program := .bare "" "" ""
def e0 : Env := launch0.env 0 0 0
theorem w_frames : about1.frames = Frame.invoking theMethod args0 :: below0 := rfl
set_option maxRecDepth 65536 in
theorem w_args : argsFit about1.vm theMethod args0 = true := by decide +kernel
set_option maxRecDepth 65536 in
theorem w_heap : heapFits about1 = true := by decide +kernel
set_option maxRecDepth 65536 in
theorem w_runnable : about1.curStatus? = some .runnable := by decide +kernel
set_option maxRecDepth 65536 in
theorem w_alone : about1.alone = true := by decide +kernel
set_option maxRecDepth 65536 in
theorem w_named : about1.methodNamed? x = some theMethod := by decide +kernel
set_option maxRecDepth 65536 in
theorem w_hears : about1.hears theMethod below0 = true := by decide +kernel
set_option maxRecDepth 65536 in
theorem w_ripe : about1.ripe theMethod args0 below0 = true := by decide +kernel
theorem w_running : about1.status = .running := rfl
set_option maxRecDepth 65536 in
theorem w_room : about1.hasRoom e0.platform room_1 = true :=
  launch0.hasRoom_least _ room_1 (by decide +kernel) (by decide +kernel) (by decide +kernel) (by decide +kernel) (by decide +kernel) (by decide +kernel)
theorem allAtoms_all (ts : List Jvm.Cond) (a : Array Jvm.Value) (st : Jvm.State) : (allAtoms ts).before a st = ts.all (fun c => c.before a st) := by
  induction ts with
  | nil => rfl
  | cons c t ih =>
    show (Jvm.Cond.and c (allAtoms t)).before a st = _
    rw [Jvm.Cond.before_and, ih, List.all_cons]
def words1 : List Jvm.Cond := Jvm.Cond.code x code maxLocals ret :: tables_1
/-- a 'code' word, met by the world's own term for the bytes: nothing is compared byte by byte -/
theorem code_word {y : MethodName} {bytes : ByteArray} {mx : Nat} {rt : Option FieldType} {a : Array Value} {s : State} {m : MethodId} {meth : Method} {c : Code} (h1 : s.methodNamed? y = some m) (h2 : s.vm.method? m = some meth) (h3 : meth.code = some c) (h4 : c.code = bytes)
    (h5 : (c.maxLocals == mx && c.exceptionTable.isEmpty && decide (c.maxStack ≤ mostOperands) && decide (meth.sig.returnType = rt) && !meth.locks && decide (parseMethodDescriptor y.desc = some meth.sig)) = true) : (Jvm.Cond.code y bytes mx rt).before a s = true := by
  simp only [Bool.and_eq_true, beq_iff_eq, Bool.not_eq_true', decide_eq_true_eq] at h5
  obtain ⟨⟨⟨⟨⟨g1, g2⟩, g3⟩, g4⟩, g5⟩, g6⟩ := h5
  simp [Cond.before, Cond.holds, Cond.value, h1, h2, h3, h4, g1, g2, g3, g4, g5, g6]
def isCode : Jvm.Cond → Bool
  | .code _ _ _ _ => true
  | _ => false
theorem all_split {L : List Jvm.Cond} {P : Jvm.Cond → Bool} (h1 : L.all (fun c => isCode c || P c) = true) (h2 : ∀ c ∈ L.filter isCode, P c = true) : L.all P = true := by
  refine List.all_eq_true.mpr fun c hc => ?_
  have h := List.all_eq_true.mp h1 c hc
  rcases Bool.eq_false_or_eq_true (isCode c) with hi | hi
  · exact h2 c (List.mem_filter.mpr ⟨hc, hi⟩)
  · simpa [hi] using h
set_option maxRecDepth 65536 in
theorem w_c0 : (Jvm.Cond.code x code maxLocals ret).before args0 about1 = true := code_word (m := ⟨1, 1⟩) (meth := k1m1) (c := k1c1) (by decide +kernel) rfl rfl rfl (by decide +kernel)
set_option maxRecDepth 65536 in
theorem w_c1 : (Jvm.Cond.code ({ cls := "java/lang/String", name := "<init>", desc := "([C)V" } : Jvm.MethodName) jdk_42_method_3_code (2 : Nat) (Option.none : Option Jvm.ClassFile.FieldType)).before args0 about1 = true := code_word (m := ⟨8, 1⟩) (meth := k8m1) (c := k8c1) (by decide +kernel) rfl rfl rfl (by decide +kernel)
set_option maxRecDepth 65536 in
theorem w_c2 : (Jvm.Cond.code ({ cls := "java/lang/String", name := "<init>", desc := "([CIILjava/lang/Void;)V" } : Jvm.MethodName) jdk_42_method_149_code (6 : Nat) (Option.none : Option Jvm.ClassFile.FieldType)).before args0 about1 = true := code_word (m := ⟨8, 5⟩) (meth := k8m5) (c := k8c5) (by decide +kernel) rfl rfl rfl (by decide +kernel)
set_option maxRecDepth 65536 in
theorem w_c3 : (Jvm.Cond.code ({ cls := "java/lang/Object", name := "<init>", desc := "()V" } : Jvm.MethodName) object_method_1_code (1 : Nat) (Option.none : Option Jvm.ClassFile.FieldType)).before args0 about1 = true := code_word (m := ⟨0, 0⟩) (meth := k0m0) (c := k0c0) (by decide +kernel) rfl rfl rfl (by decide +kernel)
set_option maxRecDepth 65536 in
theorem w_c4 : (Jvm.Cond.code ({ cls := "com/example/libbisim/libbisim/TextFormat$Cursor", name := "<init>", desc := "(Ljava/lang/String;Ljava/lang/String;JLjava/lang/String;)V" } : Jvm.MethodName) prog_69_method_1_code (6 : Nat) (Option.none : Option Jvm.ClassFile.FieldType)).before args0 about1 = true := code_word (m := ⟨2, 0⟩) (meth := k2m0) (c := k2c0) (by decide +kernel) rfl rfl rfl (by decide +kernel)
set_option maxRecDepth 65536 in
theorem w_c5 : (Jvm.Cond.code ({ cls := "com/example/libbisim/libbisim/CursorCommaFollowsPinLaw", name := "commaAt", desc := "([CII)Z" } : Jvm.MethodName) method_7_code (3 : Nat) (Option.some Jvm.ClassFile.FieldType.boolean)).before args0 about1 = true := code_word (m := ⟨1, 6⟩) (meth := k1m6) (c := k1c6) (by decide +kernel) rfl rfl rfl (by decide +kernel)
set_option maxRecDepth 65536 in
theorem w_c6 : (Jvm.Cond.code ({ cls := "com/example/libbisim/libbisim/TextFormat$Cursor", name := "commaFollows", desc := "()Z" } : Jvm.MethodName) prog_69_method_11_code (1 : Nat) (Option.some Jvm.ClassFile.FieldType.boolean)).before args0 about1 = true := code_word (m := ⟨2, 3⟩) (meth := k2m3) (c := k2c3) (by decide +kernel) rfl rfl rfl (by decide +kernel)
set_option maxRecDepth 65536 in
theorem w_c7 : (Jvm.Cond.code ({ cls := "java/lang/String", name := "indexOf", desc := "(II)I" } : Jvm.MethodName) jdk_42_method_80_code (3 : Nat) (Option.some Jvm.ClassFile.FieldType.int)).before args0 about1 = true := code_word (m := ⟨8, 4⟩) (meth := k8m4) (c := k8c4) (by decide +kernel) rfl rfl rfl (by decide +kernel)
set_option maxRecDepth 65536 in
theorem w_c8 : (Jvm.Cond.code ({ cls := "java/lang/String", name := "isLatin1", desc := "()Z" } : Jvm.MethodName) jdk_42_method_154_code (1 : Nat) (Option.some Jvm.ClassFile.FieldType.boolean)).before args0 about1 = true := code_word (m := ⟨8, 7⟩) (meth := k8m7) (c := k8c7) (by decide +kernel) rfl rfl rfl (by decide +kernel)
set_option maxRecDepth 65536 in
theorem w_c9 : (Jvm.Cond.code ({ cls := "java/lang/String", name := "length", desc := "()I" } : Jvm.MethodName) jdk_42_method_54_code (1 : Nat) (Option.some Jvm.ClassFile.FieldType.int)).before args0 about1 = true := code_word (m := ⟨8, 2⟩) (meth := k8m2) (c := k8c2) (by decide +kernel) rfl rfl rfl (by decide +kernel)
set_option maxRecDepth 65536 in
theorem w_c10 : (Jvm.Cond.code ({ cls := "java/lang/String", name := "coder", desc := "()B" } : Jvm.MethodName) jdk_42_method_152_code (1 : Nat) (Option.some Jvm.ClassFile.FieldType.byte)).before args0 about1 = true := code_word (m := ⟨8, 6⟩) (meth := k8m6) (c := k8c6) (by decide +kernel) rfl rfl rfl (by decide +kernel)
set_option maxRecDepth 65536 in
theorem w_c11 : (Jvm.Cond.code ({ cls := "java/lang/StringLatin1", name := "indexOf", desc := "([BIII)I" } : Jvm.MethodName) jdk_43_method_22_code (4 : Nat) (Option.some Jvm.ClassFile.FieldType.int)).before args0 about1 = true := code_word (m := ⟨9, 3⟩) (meth := k9m3) (c := k9c3) (by decide +kernel) rfl rfl rfl (by decide +kernel)
set_option maxRecDepth 65536 in
theorem w_c12 : (Jvm.Cond.code ({ cls := "java/lang/StringLatin1", name := "canEncode", desc := "(I)Z" } : Jvm.MethodName) jdk_43_method_4_code (1 : Nat) (Option.some Jvm.ClassFile.FieldType.boolean)).before args0 about1 = true := code_word (m := ⟨9, 2⟩) (meth := k9m2) (c := k9c2) (by decide +kernel) rfl rfl rfl (by decide +kernel)
set_option maxRecDepth 65536 in
theorem w_c13 : (Jvm.Cond.code ({ cls := "java/lang/Math", name := "max", desc := "(II)I" } : Jvm.MethodName) jdk_29_method_65_code (2 : Nat) (Option.some Jvm.ClassFile.FieldType.int)).before args0 about1 = true := code_word (m := ⟨10, 1⟩) (meth := k10m1) (c := k10c1) (by decide +kernel) rfl rfl rfl (by decide +kernel)
set_option maxRecDepth 65536 in
theorem w_c14 : (Jvm.Cond.code ({ cls := "java/lang/Math", name := "min", desc := "(II)I" } : Jvm.MethodName) jdk_29_method_69_code (2 : Nat) (Option.some Jvm.ClassFile.FieldType.int)).before args0 about1 = true := code_word (m := ⟨10, 2⟩) (meth := k10m2) (c := k10c2) (by decide +kernel) rfl rfl rfl (by decide +kernel)
set_option maxRecDepth 65536 in
theorem w_c15 : (Jvm.Cond.code ({ cls := "com/example/libbisim/libbisim/CursorCommaFollowsPinLaw", name := "draw", desc := "(I)C" } : Jvm.MethodName) method_3_code (2 : Nat) (Option.some Jvm.ClassFile.FieldType.char)).before args0 about1 = true := code_word (m := ⟨1, 2⟩) (meth := k1m2) (c := k1c2) (by decide +kernel) rfl rfl rfl (by decide +kernel)
set_option maxRecDepth 65536 in
theorem w_c16 : (Jvm.Cond.code ({ cls := "java/lang/StringUTF16", name := "compress", desc := "([CII)[B" } : Jvm.MethodName) jdk_52_method_16_code (6 : Nat) (Option.some (Jvm.ClassFile.FieldType.array Jvm.ClassFile.FieldType.byte))).before args0 about1 = true := code_word (m := ⟨11, 8⟩) (meth := k11m8) (c := k11c8) (by decide +kernel) rfl rfl rfl (by decide +kernel)
set_option maxRecDepth 65536 in
theorem w_c17 : (Jvm.Cond.code ({ cls := "java/lang/StringUTF16", name := "compress", desc := "([CI[BII)I" } : Jvm.MethodName) jdk_52_method_21_code (7 : Nat) (Option.some Jvm.ClassFile.FieldType.int)).before args0 about1 = true := code_word (m := ⟨11, 9⟩) (meth := k11m9) (c := k11c9) (by decide +kernel) rfl rfl rfl (by decide +kernel)
set_option maxRecDepth 65536 in
theorem w_c18 : (Jvm.Cond.code ({ cls := "java/lang/StringUTF16", name := "coderFromArrayLen", desc := "([BI)B" } : Jvm.MethodName) jdk_52_method_15_code (2 : Nat) (Option.some Jvm.ClassFile.FieldType.byte)).before args0 about1 = true := code_word (m := ⟨11, 7⟩) (meth := k11m7) (c := k11c7) (by decide +kernel) rfl rfl rfl (by decide +kernel)
set_option maxRecDepth 65536 in
theorem w_c19 : (Jvm.Cond.code ({ cls := "java/lang/StringLatin1", name := "indexOfChar", desc := "([BIII)I" } : Jvm.MethodName) jdk_43_method_23_code (6 : Nat) (Option.some Jvm.ClassFile.FieldType.int)).before args0 about1 = true := code_word (m := ⟨9, 4⟩) (meth := k9m4) (c := k9c4) (by decide +kernel) rfl rfl rfl (by decide +kernel)
set_option maxRecDepth 65536 in
theorem w_c20 : (Jvm.Cond.code ({ cls := "java/lang/StringUTF16", name := "toBytes", desc := "([CII)[B" } : Jvm.MethodName) jdk_52_method_14_code (5 : Nat) (Option.some (Jvm.ClassFile.FieldType.array Jvm.ClassFile.FieldType.byte))).before args0 about1 = true := code_word (m := ⟨11, 6⟩) (meth := k11m6) (c := k11c6) (by decide +kernel) rfl rfl rfl (by decide +kernel)
set_option maxRecDepth 65536 in
theorem w_c21 : (Jvm.Cond.code ({ cls := "java/lang/StringUTF16", name := "newBytesFor", desc := "(I)[B" } : Jvm.MethodName) jdk_52_method_2_code (1 : Nat) (Option.some (Jvm.ClassFile.FieldType.array Jvm.ClassFile.FieldType.byte))).before args0 about1 = true := code_word (m := ⟨11, 1⟩) (meth := k11m1) (c := k11c1) (by decide +kernel) rfl rfl rfl (by decide +kernel)
set_option maxRecDepth 65536 in
theorem w_c22 : (Jvm.Cond.code ({ cls := "java/lang/StringUTF16", name := "newBytesLength", desc := "(I)I" } : Jvm.MethodName) jdk_52_method_3_code (1 : Nat) (Option.some Jvm.ClassFile.FieldType.int)).before args0 about1 = true := code_word (m := ⟨11, 2⟩) (meth := k11m2) (c := k11c2) (by decide +kernel) rfl rfl rfl (by decide +kernel)
set_option maxRecDepth 65536 in
theorem w_c23 : (Jvm.Cond.code ({ cls := "java/lang/StringUTF16", name := "putChar", desc := "([BII)V" } : Jvm.MethodName) jdk_52_method_4_code (3 : Nat) (Option.none : Option Jvm.ClassFile.FieldType)).before args0 about1 = true := code_word (m := ⟨11, 3⟩) (meth := k11m3) (c := k11c3) (by decide +kernel) rfl rfl rfl (by decide +kernel)
set_option maxRecDepth 65536 in
theorem w_c24 : (Jvm.Cond.code ({ cls := "java/lang/StringUTF16", name := "getChar", desc := "([BI)C" } : Jvm.MethodName) jdk_52_method_5_code (2 : Nat) (Option.some Jvm.ClassFile.FieldType.char)).before args0 about1 = true := code_word (m := ⟨11, 4⟩) (meth := k11m4) (c := k11c4) (by decide +kernel) rfl rfl rfl (by decide +kernel)
set_option maxRecDepth 65536 in
theorem w_c25 : (Jvm.Cond.code ({ cls := "com/example/libbisim/libbisim/CursorCommaFollowsPinLaw", name := "step", desc := "(Lcom/example/libbisim/libbisim/TextFormat$Cursor;[CI)I" } : Jvm.MethodName) method_6_code (4 : Nat) (Option.some Jvm.ClassFile.FieldType.int)).before args0 about1 = true := code_word (m := ⟨1, 5⟩) (meth := k1m5) (c := k1c5) (by decide +kernel) rfl rfl rfl (by decide +kernel)
set_option maxRecDepth 65536 in
theorem w_c26 : (Jvm.Cond.code ({ cls := "com/example/libbisim/libbisim/CursorCommaFollowsPinLaw", name := "skip", desc := "([CI)I" } : Jvm.MethodName) method_5_code (3 : Nat) (Option.some Jvm.ClassFile.FieldType.int)).before args0 about1 = true := code_word (m := ⟨1, 4⟩) (meth := k1m4) (c := k1c4) (by decide +kernel) rfl rfl rfl (by decide +kernel)
set_option maxRecDepth 65536 in
theorem w_c27 : (Jvm.Cond.code ({ cls := "com/example/libbisim/libbisim/CursorCommaFollowsPinLaw", name := "blankAt", desc := "([CI)Z" } : Jvm.MethodName) method_4_code (2 : Nat) (Option.some Jvm.ClassFile.FieldType.boolean)).before args0 about1 = true := code_word (m := ⟨1, 3⟩) (meth := k1m3) (c := k1c3) (by decide +kernel) rfl rfl rfl (by decide +kernel)
set_option maxRecDepth 65536 in
theorem w_c28 : (Jvm.Cond.code ({ cls := "com/example/libbisim/libbisim/TextFormat$Cursor", name := "expect", desc := "(C)V" } : Jvm.MethodName) prog_69_method_3_code (2 : Nat) (Option.none : Option Jvm.ClassFile.FieldType)).before args0 about1 = true := code_word (m := ⟨2, 1⟩) (meth := k2m1) (c := k2c1) (by decide +kernel) rfl rfl rfl (by decide +kernel)
set_option maxRecDepth 65536 in
theorem w_c29 : (Jvm.Cond.code ({ cls := "com/example/libbisim/libbisim/TextFormat$Cursor", name := "skipBlanks", desc := "()V" } : Jvm.MethodName) prog_69_method_14_code (1 : Nat) (Option.none : Option Jvm.ClassFile.FieldType)).before args0 about1 = true := code_word (m := ⟨2, 4⟩) (meth := k2m4) (c := k2c4) (by decide +kernel) rfl rfl rfl (by decide +kernel)
set_option maxRecDepth 65536 in
theorem w_c30 : (Jvm.Cond.code ({ cls := "java/lang/String", name := "charAt", desc := "(I)C" } : Jvm.MethodName) jdk_42_method_56_code (2 : Nat) (Option.some Jvm.ClassFile.FieldType.char)).before args0 about1 = true := code_word (m := ⟨8, 3⟩) (meth := k8m3) (c := k8c3) (by decide +kernel) rfl rfl rfl (by decide +kernel)
set_option maxRecDepth 65536 in
theorem w_c31 : (Jvm.Cond.code ({ cls := "java/lang/StringUTF16", name := "charAt", desc := "([BI)C" } : Jvm.MethodName) jdk_52_method_83_code (2 : Nat) (Option.some Jvm.ClassFile.FieldType.char)).before args0 about1 = true := code_word (m := ⟨11, 13⟩) (meth := k11m13) (c := k11c13) (by decide +kernel) rfl rfl rfl (by decide +kernel)
set_option maxRecDepth 65536 in
theorem w_c32 : (Jvm.Cond.code ({ cls := "java/lang/StringUTF16", name := "checkIndex", desc := "(I[B)V" } : Jvm.MethodName) jdk_52_method_91_code (2 : Nat) (Option.none : Option Jvm.ClassFile.FieldType)).before args0 about1 = true := code_word (m := ⟨11, 14⟩) (meth := k11m14) (c := k11c14) (by decide +kernel) rfl rfl rfl (by decide +kernel)
set_option maxRecDepth 65536 in
theorem w_c33 : (Jvm.Cond.code ({ cls := "java/lang/StringUTF16", name := "length", desc := "([B)I" } : Jvm.MethodName) jdk_52_method_6_code (1 : Nat) (Option.some Jvm.ClassFile.FieldType.int)).before args0 about1 = true := code_word (m := ⟨11, 5⟩) (meth := k11m5) (c := k11c5) (by decide +kernel) rfl rfl rfl (by decide +kernel)
set_option maxRecDepth 65536 in
theorem w_c34 : (Jvm.Cond.code ({ cls := "java/lang/String", name := "checkIndex", desc := "(II)V" } : Jvm.MethodName) jdk_42_method_155_code (2 : Nat) (Option.none : Option Jvm.ClassFile.FieldType)).before args0 about1 = true := code_word (m := ⟨8, 8⟩) (meth := k8m8) (c := k8c8) (by decide +kernel) rfl rfl rfl (by decide +kernel)
set_option maxRecDepth 65536 in
theorem w_c35 : (Jvm.Cond.code ({ cls := "jdk/internal/util/Preconditions", name := "checkIndex", desc := "(IILjava/util/function/BiFunction;)I" } : Jvm.MethodName) jdk_41_method_11_code (3 : Nat) (Option.some Jvm.ClassFile.FieldType.int)).before args0 about1 = true := code_word (m := ⟨12, 1⟩) (meth := k12m1) (c := k12c1) (by decide +kernel) rfl rfl rfl (by decide +kernel)
set_option maxRecDepth 65536 in
theorem w_c36 : (Jvm.Cond.code ({ cls := "com/example/libbisim/libbisim/TextFormat", name := "isBlank", desc := "(C)Z" } : Jvm.MethodName) prog_67_method_8_code (1 : Nat) (Option.some Jvm.ClassFile.FieldType.boolean)).before args0 about1 = true := code_word (m := ⟨13, 1⟩) (meth := k13m1) (c := k13c1) (by decide +kernel) rfl rfl rfl (by decide +kernel)
set_option maxRecDepth 65536 in
theorem w_c37 : (Jvm.Cond.code ({ cls := "java/lang/StringUTF16", name := "indexOf", desc := "([BIII)I" } : Jvm.MethodName) jdk_52_method_40_code (4 : Nat) (Option.some Jvm.ClassFile.FieldType.int)).before args0 about1 = true := code_word (m := ⟨11, 10⟩) (meth := k11m10) (c := k11c10) (by decide +kernel) rfl rfl rfl (by decide +kernel)
set_option maxRecDepth 65536 in
theorem w_c38 : (Jvm.Cond.code ({ cls := "java/lang/StringUTF16", name := "indexOfChar", desc := "([BIII)I" } : Jvm.MethodName) jdk_52_method_47_code (4 : Nat) (Option.some Jvm.ClassFile.FieldType.int)).before args0 about1 = true := code_word (m := ⟨11, 11⟩) (meth := k11m11) (c := k11c11) (by decide +kernel) rfl rfl rfl (by decide +kernel)
set_option maxRecDepth 65536 in
theorem w_c39 : (Jvm.Cond.code ({ cls := "java/lang/StringUTF16", name := "checkBoundsBeginEnd", desc := "(II[B)V" } : Jvm.MethodName) jdk_52_method_93_code (3 : Nat) (Option.none : Option Jvm.ClassFile.FieldType)).before args0 about1 = true := code_word (m := ⟨11, 15⟩) (meth := k11m15) (c := k11c15) (by decide +kernel) rfl rfl rfl (by decide +kernel)
set_option maxRecDepth 65536 in
theorem w_c40 : (Jvm.Cond.code ({ cls := "java/lang/String", name := "checkBoundsBeginEnd", desc := "(III)V" } : Jvm.MethodName) jdk_42_method_158_code (3 : Nat) (Option.none : Option Jvm.ClassFile.FieldType)).before args0 about1 = true := code_word (m := ⟨8, 9⟩) (meth := k8m9) (c := k8c9) (by decide +kernel) rfl rfl rfl (by decide +kernel)
set_option maxRecDepth 65536 in
theorem w_c41 : (Jvm.Cond.code ({ cls := "jdk/internal/util/Preconditions", name := "checkFromToIndex", desc := "(IIILjava/util/function/BiFunction;)I" } : Jvm.MethodName) jdk_41_method_12_code (4 : Nat) (Option.some Jvm.ClassFile.FieldType.int)).before args0 about1 = true := code_word (m := ⟨12, 2⟩) (meth := k12m2) (c := k12c2) (by decide +kernel) rfl rfl rfl (by decide +kernel)
set_option maxRecDepth 65536 in
theorem w_c42 : (Jvm.Cond.code ({ cls := "java/lang/StringUTF16", name := "indexOfCharUnsafe", desc := "([BIII)I" } : Jvm.MethodName) jdk_52_method_48_code (5 : Nat) (Option.some Jvm.ClassFile.FieldType.int)).before args0 about1 = true := code_word (m := ⟨11, 12⟩) (meth := k11m12) (c := k11c12) (by decide +kernel) rfl rfl rfl (by decide +kernel)
set_option maxRecDepth 65536 in
theorem w_c43 : (Jvm.Cond.code ({ cls := "java/lang/StringLatin1", name := "charAt", desc := "([BI)C" } : Jvm.MethodName) jdk_43_method_2_code (2 : Nat) (Option.some Jvm.ClassFile.FieldType.char)).before args0 about1 = true := code_word (m := ⟨9, 1⟩) (meth := k9m1) (c := k9c1) (by decide +kernel) rfl rfl rfl (by decide +kernel)
set_option maxRecDepth 65536 in
theorem w_c44 : (Jvm.Cond.code ({ cls := "com/example/libbisim/libbisim/TextFormat$Cursor", name := "expectEnd", desc := "()V" } : Jvm.MethodName) prog_69_method_5_code (1 : Nat) (Option.none : Option Jvm.ClassFile.FieldType)).before args0 about1 = true := code_word (m := ⟨2, 2⟩) (meth := k2m2) (c := k2c2) (by decide +kernel) rfl rfl rfl (by decide +kernel)
def codes1 : List Jvm.Cond := [Jvm.Cond.code x code maxLocals ret, Jvm.Cond.code ({ cls := "java/lang/String", name := "<init>", desc := "([C)V" } : Jvm.MethodName) jdk_42_method_3_code (2 : Nat) (Option.none : Option Jvm.ClassFile.FieldType), Jvm.Cond.code ({ cls := "java/lang/String", name := "<init>", desc := "([CIILjava/lang/Void;)V" } : Jvm.MethodName) jdk_42_method_149_code (6 : Nat) (Option.none : Option Jvm.ClassFile.FieldType), Jvm.Cond.code ({ cls := "java/lang/Object", name := "<init>", desc := "()V" } : Jvm.MethodName) object_method_1_code (1 : Nat) (Option.none : Option Jvm.ClassFile.FieldType), Jvm.Cond.code ({ cls := "com/example/libbisim/libbisim/TextFormat$Cursor", name := "<init>", desc := "(Ljava/lang/String;Ljava/lang/String;JLjava/lang/String;)V" } : Jvm.MethodName) prog_69_method_1_code (6 : Nat) (Option.none : Option Jvm.ClassFile.FieldType), Jvm.Cond.code ({ cls := "com/example/libbisim/libbisim/CursorCommaFollowsPinLaw", name := "commaAt", desc := "([CII)Z" } : Jvm.MethodName) method_7_code (3 : Nat) (Option.some Jvm.ClassFile.FieldType.boolean), Jvm.Cond.code ({ cls := "com/example/libbisim/libbisim/TextFormat$Cursor", name := "commaFollows", desc := "()Z" } : Jvm.MethodName) prog_69_method_11_code (1 : Nat) (Option.some Jvm.ClassFile.FieldType.boolean), Jvm.Cond.code ({ cls := "java/lang/String", name := "indexOf", desc := "(II)I" } : Jvm.MethodName) jdk_42_method_80_code (3 : Nat) (Option.some Jvm.ClassFile.FieldType.int), Jvm.Cond.code ({ cls := "java/lang/String", name := "isLatin1", desc := "()Z" } : Jvm.MethodName) jdk_42_method_154_code (1 : Nat) (Option.some Jvm.ClassFile.FieldType.boolean), Jvm.Cond.code ({ cls := "java/lang/String", name := "length", desc := "()I" } : Jvm.MethodName) jdk_42_method_54_code (1 : Nat) (Option.some Jvm.ClassFile.FieldType.int), Jvm.Cond.code ({ cls := "java/lang/String", name := "coder", desc := "()B" } : Jvm.MethodName) jdk_42_method_152_code (1 : Nat) (Option.some Jvm.ClassFile.FieldType.byte), Jvm.Cond.code ({ cls := "java/lang/StringLatin1", name := "indexOf", desc := "([BIII)I" } : Jvm.MethodName) jdk_43_method_22_code (4 : Nat) (Option.some Jvm.ClassFile.FieldType.int), Jvm.Cond.code ({ cls := "java/lang/StringLatin1", name := "canEncode", desc := "(I)Z" } : Jvm.MethodName) jdk_43_method_4_code (1 : Nat) (Option.some Jvm.ClassFile.FieldType.boolean), Jvm.Cond.code ({ cls := "java/lang/Math", name := "max", desc := "(II)I" } : Jvm.MethodName) jdk_29_method_65_code (2 : Nat) (Option.some Jvm.ClassFile.FieldType.int), Jvm.Cond.code ({ cls := "java/lang/Math", name := "min", desc := "(II)I" } : Jvm.MethodName) jdk_29_method_69_code (2 : Nat) (Option.some Jvm.ClassFile.FieldType.int), Jvm.Cond.code ({ cls := "com/example/libbisim/libbisim/CursorCommaFollowsPinLaw", name := "draw", desc := "(I)C" } : Jvm.MethodName) method_3_code (2 : Nat) (Option.some Jvm.ClassFile.FieldType.char), Jvm.Cond.code ({ cls := "java/lang/StringUTF16", name := "compress", desc := "([CII)[B" } : Jvm.MethodName) jdk_52_method_16_code (6 : Nat) (Option.some (Jvm.ClassFile.FieldType.array Jvm.ClassFile.FieldType.byte)), Jvm.Cond.code ({ cls := "java/lang/StringUTF16", name := "compress", desc := "([CI[BII)I" } : Jvm.MethodName) jdk_52_method_21_code (7 : Nat) (Option.some Jvm.ClassFile.FieldType.int), Jvm.Cond.code ({ cls := "java/lang/StringUTF16", name := "coderFromArrayLen", desc := "([BI)B" } : Jvm.MethodName) jdk_52_method_15_code (2 : Nat) (Option.some Jvm.ClassFile.FieldType.byte), Jvm.Cond.code ({ cls := "java/lang/StringLatin1", name := "indexOfChar", desc := "([BIII)I" } : Jvm.MethodName) jdk_43_method_23_code (6 : Nat) (Option.some Jvm.ClassFile.FieldType.int), Jvm.Cond.code ({ cls := "java/lang/StringUTF16", name := "toBytes", desc := "([CII)[B" } : Jvm.MethodName) jdk_52_method_14_code (5 : Nat) (Option.some (Jvm.ClassFile.FieldType.array Jvm.ClassFile.FieldType.byte)), Jvm.Cond.code ({ cls := "java/lang/StringUTF16", name := "newBytesFor", desc := "(I)[B" } : Jvm.MethodName) jdk_52_method_2_code (1 : Nat) (Option.some (Jvm.ClassFile.FieldType.array Jvm.ClassFile.FieldType.byte)), Jvm.Cond.code ({ cls := "java/lang/StringUTF16", name := "newBytesLength", desc := "(I)I" } : Jvm.MethodName) jdk_52_method_3_code (1 : Nat) (Option.some Jvm.ClassFile.FieldType.int), Jvm.Cond.code ({ cls := "java/lang/StringUTF16", name := "putChar", desc := "([BII)V" } : Jvm.MethodName) jdk_52_method_4_code (3 : Nat) (Option.none : Option Jvm.ClassFile.FieldType), Jvm.Cond.code ({ cls := "java/lang/StringUTF16", name := "getChar", desc := "([BI)C" } : Jvm.MethodName) jdk_52_method_5_code (2 : Nat) (Option.some Jvm.ClassFile.FieldType.char), Jvm.Cond.code ({ cls := "com/example/libbisim/libbisim/CursorCommaFollowsPinLaw", name := "step", desc := "(Lcom/example/libbisim/libbisim/TextFormat$Cursor;[CI)I" } : Jvm.MethodName) method_6_code (4 : Nat) (Option.some Jvm.ClassFile.FieldType.int), Jvm.Cond.code ({ cls := "com/example/libbisim/libbisim/CursorCommaFollowsPinLaw", name := "skip", desc := "([CI)I" } : Jvm.MethodName) method_5_code (3 : Nat) (Option.some Jvm.ClassFile.FieldType.int), Jvm.Cond.code ({ cls := "com/example/libbisim/libbisim/CursorCommaFollowsPinLaw", name := "blankAt", desc := "([CI)Z" } : Jvm.MethodName) method_4_code (2 : Nat) (Option.some Jvm.ClassFile.FieldType.boolean), Jvm.Cond.code ({ cls := "com/example/libbisim/libbisim/TextFormat$Cursor", name := "expect", desc := "(C)V" } : Jvm.MethodName) prog_69_method_3_code (2 : Nat) (Option.none : Option Jvm.ClassFile.FieldType), Jvm.Cond.code ({ cls := "com/example/libbisim/libbisim/TextFormat$Cursor", name := "skipBlanks", desc := "()V" } : Jvm.MethodName) prog_69_method_14_code (1 : Nat) (Option.none : Option Jvm.ClassFile.FieldType), Jvm.Cond.code ({ cls := "java/lang/String", name := "charAt", desc := "(I)C" } : Jvm.MethodName) jdk_42_method_56_code (2 : Nat) (Option.some Jvm.ClassFile.FieldType.char), Jvm.Cond.code ({ cls := "java/lang/StringUTF16", name := "charAt", desc := "([BI)C" } : Jvm.MethodName) jdk_52_method_83_code (2 : Nat) (Option.some Jvm.ClassFile.FieldType.char), Jvm.Cond.code ({ cls := "java/lang/StringUTF16", name := "checkIndex", desc := "(I[B)V" } : Jvm.MethodName) jdk_52_method_91_code (2 : Nat) (Option.none : Option Jvm.ClassFile.FieldType), Jvm.Cond.code ({ cls := "java/lang/StringUTF16", name := "length", desc := "([B)I" } : Jvm.MethodName) jdk_52_method_6_code (1 : Nat) (Option.some Jvm.ClassFile.FieldType.int), Jvm.Cond.code ({ cls := "java/lang/String", name := "checkIndex", desc := "(II)V" } : Jvm.MethodName) jdk_42_method_155_code (2 : Nat) (Option.none : Option Jvm.ClassFile.FieldType), Jvm.Cond.code ({ cls := "jdk/internal/util/Preconditions", name := "checkIndex", desc := "(IILjava/util/function/BiFunction;)I" } : Jvm.MethodName) jdk_41_method_11_code (3 : Nat) (Option.some Jvm.ClassFile.FieldType.int), Jvm.Cond.code ({ cls := "com/example/libbisim/libbisim/TextFormat", name := "isBlank", desc := "(C)Z" } : Jvm.MethodName) prog_67_method_8_code (1 : Nat) (Option.some Jvm.ClassFile.FieldType.boolean), Jvm.Cond.code ({ cls := "java/lang/StringUTF16", name := "indexOf", desc := "([BIII)I" } : Jvm.MethodName) jdk_52_method_40_code (4 : Nat) (Option.some Jvm.ClassFile.FieldType.int), Jvm.Cond.code ({ cls := "java/lang/StringUTF16", name := "indexOfChar", desc := "([BIII)I" } : Jvm.MethodName) jdk_52_method_47_code (4 : Nat) (Option.some Jvm.ClassFile.FieldType.int), Jvm.Cond.code ({ cls := "java/lang/StringUTF16", name := "checkBoundsBeginEnd", desc := "(II[B)V" } : Jvm.MethodName) jdk_52_method_93_code (3 : Nat) (Option.none : Option Jvm.ClassFile.FieldType), Jvm.Cond.code ({ cls := "java/lang/String", name := "checkBoundsBeginEnd", desc := "(III)V" } : Jvm.MethodName) jdk_42_method_158_code (3 : Nat) (Option.none : Option Jvm.ClassFile.FieldType), Jvm.Cond.code ({ cls := "jdk/internal/util/Preconditions", name := "checkFromToIndex", desc := "(IIILjava/util/function/BiFunction;)I" } : Jvm.MethodName) jdk_41_method_12_code (4 : Nat) (Option.some Jvm.ClassFile.FieldType.int), Jvm.Cond.code ({ cls := "java/lang/StringUTF16", name := "indexOfCharUnsafe", desc := "([BIII)I" } : Jvm.MethodName) jdk_52_method_48_code (5 : Nat) (Option.some Jvm.ClassFile.FieldType.int), Jvm.Cond.code ({ cls := "java/lang/StringLatin1", name := "charAt", desc := "([BI)C" } : Jvm.MethodName) jdk_43_method_2_code (2 : Nat) (Option.some Jvm.ClassFile.FieldType.char), Jvm.Cond.code ({ cls := "com/example/libbisim/libbisim/TextFormat$Cursor", name := "expectEnd", desc := "()V" } : Jvm.MethodName) prog_69_method_5_code (1 : Nat) (Option.none : Option Jvm.ClassFile.FieldType)]
set_option maxRecDepth 65536 in
theorem codes_eq : words1.filter isCode = codes1 := rfl
theorem w_codes : ∀ c ∈ words1.filter isCode, c.before args0 about1 = true := by
  rw [codes_eq]
  intro c hc
  simp only [codes1, List.mem_cons, List.not_mem_nil, or_false] at hc
  rcases hc with rfl | rfl | rfl | rfl | rfl | rfl | rfl | rfl | rfl | rfl | rfl | rfl | rfl | rfl | rfl | rfl | rfl | rfl | rfl | rfl | rfl | rfl | rfl | rfl | rfl | rfl | rfl | rfl | rfl | rfl | rfl | rfl | rfl | rfl | rfl | rfl | rfl | rfl | rfl | rfl | rfl | rfl | rfl | rfl | rfl
  · exact w_c0
  · exact w_c1
  · exact w_c2
  · exact w_c3
  · exact w_c4
  · exact w_c5
  · exact w_c6
  · exact w_c7
  · exact w_c8
  · exact w_c9
  · exact w_c10
  · exact w_c11
  · exact w_c12
  · exact w_c13
  · exact w_c14
  · exact w_c15
  · exact w_c16
  · exact w_c17
  · exact w_c18
  · exact w_c19
  · exact w_c20
  · exact w_c21
  · exact w_c22
  · exact w_c23
  · exact w_c24
  · exact w_c25
  · exact w_c26
  · exact w_c27
  · exact w_c28
  · exact w_c29
  · exact w_c30
  · exact w_c31
  · exact w_c32
  · exact w_c33
  · exact w_c34
  · exact w_c35
  · exact w_c36
  · exact w_c37
  · exact w_c38
  · exact w_c39
  · exact w_c40
  · exact w_c41
  · exact w_c42
  · exact w_c43
  · exact w_c44
set_option maxRecDepth 65536 in
theorem w_t1 : (words1.take 24).all (fun c => isCode c || c.before args0 about1) = true := by decide +kernel
set_option maxRecDepth 65536 in
theorem w_t2 : ((words1.drop 24).take 24).all (fun c => isCode c || c.before args0 about1) = true := by decide +kernel
set_option maxRecDepth 65536 in
theorem w_t3 : (((words1.drop 24).drop 24).take 24).all (fun c => isCode c || c.before args0 about1) = true := by decide +kernel
set_option maxRecDepth 65536 in
theorem w_t4 : ((((words1.drop 24).drop 24).drop 24).take 24).all (fun c => isCode c || c.before args0 about1) = true := by decide +kernel
set_option maxRecDepth 65536 in
theorem w_t5 : (((((words1.drop 24).drop 24).drop 24).drop 24).take 24).all (fun c => isCode c || c.before args0 about1) = true := by decide +kernel
set_option maxRecDepth 65536 in
theorem w_t6 : ((((((words1.drop 24).drop 24).drop 24).drop 24).drop 24).take 24).all (fun c => isCode c || c.before args0 about1) = true := by decide +kernel
set_option maxRecDepth 65536 in
theorem w_t7 : (((((((words1.drop 24).drop 24).drop 24).drop 24).drop 24).drop 24).take 24).all (fun c => isCode c || c.before args0 about1) = true := by decide +kernel
set_option maxRecDepth 65536 in
theorem w_t8 : ((((((((words1.drop 24).drop 24).drop 24).drop 24).drop 24).drop 24).drop 24).take 24).all (fun c => isCode c || c.before args0 about1) = true := by decide +kernel
set_option maxRecDepth 65536 in
theorem w_t9 : ((((((((words1.drop 24).drop 24).drop 24).drop 24).drop 24).drop 24).drop 24).drop 24).all (fun c => isCode c || c.before args0 about1) = true := by decide +kernel
theorem w_tables : (allAtoms (Jvm.Cond.code x code maxLocals ret :: tables_1)).before args0 about1 = true := by
  rw [allAtoms_all]
  show words1.all (fun c => c.before args0 about1) = true
  refine all_split ?_ w_codes
  rw [← List.take_append_drop 24 words1, List.all_append, w_t1, ← List.take_append_drop 24 (words1.drop 24), List.all_append, w_t2, ← List.take_append_drop 24 ((words1.drop 24).drop 24), List.all_append, w_t3, ← List.take_append_drop 24 (((words1.drop 24).drop 24).drop 24), List.all_append, w_t4, ← List.take_append_drop 24 ((((words1.drop 24).drop 24).drop 24).drop 24), List.all_append, w_t5, ← List.take_append_drop 24 (((((words1.drop 24).drop 24).drop 24).drop 24).drop 24), List.all_append, w_t6, ← List.take_append_drop 24 ((((((words1.drop 24).drop 24).drop 24).drop 24).drop 24).drop 24), List.all_append, w_t7, ← List.take_append_drop 24 (((((((words1.drop 24).drop 24).drop 24).drop 24).drop 24).drop 24).drop 24), List.all_append, w_t8, w_t9]
  rfl
set_option maxRecDepth 65536 in
theorem w_rest : rest_1_c.before args0 about1 = true := by decide +kernel
set_option maxRecDepth 65536 in
theorem w_case : (Jvm.Cond.and given_1 narrow_1).before args0 about1 = true := by decide +kernel
set_option maxRecDepth 65536 in
theorem w_consts : constsHeld consts_1 about1 := Jvm.Lit.constsHeldB_iff.mp (by decide +kernel)
theorem w_applies : (headSpec (Jvm.Cond.code x code maxLocals ret :: tables_1) room_1).applies x e0.platform about1 = true :=
  (Spec.applies_iff w_frames).mpr ⟨w_running, w_runnable, w_alone, w_named, w_hears, w_ripe, w_room, w_tables⟩
theorem atStart : AtStart classFile x code maxLocals ret World_1 tables_1 room_1 Calls_1 rest_1 Pre_1 launch0 p0 e0 about1 theMethod args0 below0 :=
  ⟨lists_1, trivial, launch0.admits_env _ _ _, launch0.least_env, fairChoices_fair.cas, fairChoices_fair.clock, w_frames, w_args, w_heap, w_applies, ⟨w_consts, trivial⟩, w_rest, w_case⟩
end start1
theorem witness_1 : WitnessClaimed_1 := ⟨start1.p0, start1.e0, start1.about1, start1.theMethod, start1.args0, start1.below0, start1.atStart⟩
end Jvm.Pilot.@@N@@
