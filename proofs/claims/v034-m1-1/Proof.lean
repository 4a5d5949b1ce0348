import JvmDerived
import JvmDerived.Pilot.@@N@@Statement
import JvmDerived.Pilot.@@N@@Code
set_option linter.unusedVariables false
set_option linter.unusedSimpArgs false
namespace Jvm.RoadKit
open Sem ClassFile Op Lib Jvm.Stand Jvm.Free Jvm.LawKit
section New
variable {p : Program} {l : Launch} {e : Env} {R : Room} {s : State} {m : MethodId} {args : Array Value} {below : List Frame} {meth : Method} {c : Code} {T : State} {locs : List Loc} {cells slots : Nat}
theorem retI (X : Stand p l e R s m args below meth c T locs cells slots) (hx : p.tables.exec = Jvm.exec) {pc : Nat} {Ls : Array Slot} {z : Int32} {rest : List Value} (hret : meth.sig.returnType = some .int) (hd : decode c.code pc = .ok (.ireturn, 1)) {fs : List Frame}
    (hl : ∀ (f : JFrame) (acts : List Action), f.method = m → f.locked = none → f.entered = [] → (doReturn e (T.setTop f) acts (some (.int z))).1 = T.setFrames fs) : Steps p.tables e below (T.setTop (mkF m pc Ls (.int z :: rest))) (T.setFrames fs) := by
  have hm' : T.vm.method? m = some meth := X.method'
  have hn : narrow .int (.int z) = .int z := rfl
  show Steps p.tables e below (T.setTop { method := m, pc := pc, locals := Ls, stack := _ :: rest, locked := none }) _
  jvm_step X.here [X.here.top, hx, hd, hm', hret, hn]
  first | (intro acts; rw [hl _ acts rfl rfl rfl]) | rw [hl _ _ rfl rfl rfl]
  exact Steps.refl _
end New
end Jvm.RoadKit
/- laws to paste: Road.backV, Road.lenW, Road.chN, Road.codOf (cut by pick.py; bodies as the Statement names them) -/
namespace Jvm.Pilot.@@N@@
namespace StrChars
open Jvm Sem ClassFile Op Lib Jvm.Stand Jvm.Free.XT Jvm.Free.ALB Jvm.Free.JM Jvm.Free
open Jvm.Lib.Cold (StaticIs)
/-- a char array whose places are chars -/
def Ch (a : Addr) (A : Cell) (U : State) : Prop := Arr .char a A U ∧ Typed .char A
theorem Ch.mv {a : Addr} {A : Cell} {U U' : State} (h : Ch a A U) (hal : U.vm.Alike U'.vm) (hh : U'.heap = U.heap) : Ch a A U' := ⟨h.1.mv hal hh, h.2⟩
theorem Ch.keep {a : Addr} {A : Cell} {U U' : State} (h : Ch a A U) (hal : U.vm.Alike U'.vm) (hk : U'.heap[a]? = some A) : Ch a A U' := ⟨h.1.keep hal hk, h.2⟩
/-- what place i of a char[]'s cell holds -/
def cv (A : Cell) (i : Nat) : Int32 := match A.slots[i]? with | some (.int x) => x | _ => 0
theorem Ch.get {a : Addr} {A : Cell} {U : State} (h : Ch a A U) {i : Nat} (hi : i < A.slots.size) : A.slots[i]? = some (.int (cv A i)) := by
  have e := Array.getElem?_eq_getElem hi
  have f := h.2 i _ e
  unfold cv; rw [e]
  generalize A.slots[i] = v at f
  cases v <;> simp [fits] at f ⊢
/-- the byte that i2b leaves of a char -/
def lo8 (x : Int32) : Int32 := x.toInt8.toInt32
theorem fits_lo8 (y : Int32) : fits .byte (.int (lo8 y)) = true := by
  have h1 := y.toInt8.le_toInt
  have h2 := y.toInt8.toInt_lt
  simp only [lo8, fits, Bool.and_eq_true, decide_eq_true_eq, Int32.le_iff_toInt_le, Int8.toInt_toInt32, show (-128 : Int32).toInt = -128 from by decide, show (127 : Int32).toInt = 127 from by decide]
  omega
/-- A' is A but that each place j of lo .. hi - 1 holds f j -/
def Laid (A A' : Cell) (lo hi : Nat) (f : Nat → Value) : Prop := A'.cls = A.cls ∧ A'.vm = A.vm ∧ A'.slots.size = A.slots.size ∧ ∀ i, A'.slots[i]? = if lo ≤ i ∧ i < hi then some (f i) else A.slots[i]?
theorem Laid.zero (A : Cell) (lo : Nat) (f : Nat → Value) : Laid A A lo (lo + 0) f := ⟨rfl, rfl, rfl, fun i => by rw [if_neg (by omega)]⟩
theorem Laid.step {A Ak : Cell} {lo k : Nat} {f : Nat → Value} {v : Value} (h : Laid A Ak lo k f) (hlo : lo ≤ k) (hk : k < Ak.slots.size) (hv : v = f k) : Laid A (Ak.setSlot k v) lo (k + 1) f := by
  refine ⟨h.1, h.2.1, by simpa [Cell.setSlot] using h.2.2.1, fun i => ?_⟩
  by_cases e : k = i
  · subst e; rw [Cell.slots_setSlot_self v hk, if_pos (by omega), hv]
  · rw [Cell.slots_setSlot_ne v e, h.2.2.2 i]
    by_cases q : lo ≤ i ∧ i < k
    · rw [if_pos q, if_pos (by omega)]
    · rw [if_neg q, if_neg (by omega)]
def U16 : String := "java/lang/StringUTF16"
namespace Cmp5
def yN : MethodName := ⟨"java/lang/StringUTF16", "compress", "([CI[BII)I"⟩
abbrev yB : ByteArray := jdk_52_method_21_code
theorem d0 : decode yB 0 = .ok (.iconst 0, 1) := by decide +kernel
theorem d1 : decode yB 1 = .ok (.istore 5, 2) := by decide +kernel
theorem d3 : decode yB 3 = .ok (.iload 5, 2) := by decide +kernel
theorem d5 : decode yB 5 = .ok (.iload 4, 2) := by decide +kernel
theorem d7 : decode yB 7 = .ok (.if_icmp (.ge) 37, 3) := by decide +kernel
theorem d10 : decode yB 10 = .ok (.aload_n 0, 1) := by decide +kernel
theorem d11 : decode yB 11 = .ok (.iload_n 1, 1) := by decide +kernel
theorem d12 : decode yB 12 = .ok (.caload, 1) := by decide +kernel
theorem d13 : decode yB 13 = .ok (.istore 6, 2) := by decide +kernel
theorem d15 : decode yB 15 = .ok (.iload 6, 2) := by decide +kernel
theorem d17 : decode yB 17 = .ok (.sipush 255, 3) := by decide +kernel
theorem d20 : decode yB 20 = .ok (.if_icmp (.le) 6, 3) := by decide +kernel
theorem d26 : decode yB 26 = .ok (.aload_n 2, 1) := by decide +kernel
theorem d27 : decode yB 27 = .ok (.iload_n 3, 1) := by decide +kernel
theorem d28 : decode yB 28 = .ok (.iload 6, 2) := by decide +kernel
theorem d30 : decode yB 30 = .ok (.i2b, 1) := by decide +kernel
theorem d31 : decode yB 31 = .ok (.bastore, 1) := by decide +kernel
theorem d32 : decode yB 32 = .ok (.iinc 1 1, 3) := by decide +kernel
theorem d35 : decode yB 35 = .ok (.iinc 3 1, 3) := by decide +kernel
theorem d38 : decode yB 38 = .ok (.iinc 5 1, 3) := by decide +kernel
theorem d41 : decode yB 41 = .ok (.goto (-38), 3) := by decide +kernel
theorem d44 : decode yB 44 = .ok (.iload 4, 2) := by decide +kernel
theorem d46 : decode yB 46 = .ok (.ireturn, 1) := by decide +kernel
def site : List Cond := []
def tab : Cond := tabOf yN yB 7 (some .int) site
def P (b : Addr) (A : Cell) (d : Addr) (B : Cell) (o q len : Nat) (args : Array Value) (s : State) : Prop := args = #[.ref b, .int (Int32.ofNat o), .ref d, .int (Int32.ofNat q), .int (Int32.ofNat len)] ∧ Ch b A s ∧ Arr .byte d B s ∧ b ≠ d ∧ o + len ≤ A.slots.size ∧ q + len ≤ B.slots.size ∧ ∀ i, i < len → ¬ 255 < cv A (o + i)
def E (b : Addr) (A : Cell) (d : Addr) (B : Cell) (o q len : Nat) (r : Option Value) (s u : State) : Prop := r = some (.int (Int32.ofNat len)) ∧ ∃ B', Put d B' s u ∧ Laid B B' q (q + len) (fun j => Value.int (lo8 (cv A (o + (j - q)))))
/-- no char of the range above 255: len; the places written hold each char's low byte -/
theorem law (l : Launch) (b : Addr) (A : Cell) (d : Addr) (B : Cell) (o q len : Nat) : Law l yN 5 5 0 0 yB 7 (some .int) site (P b A d B o q len) (E b A d B o q len) (copyLocs d q len) 0 0 := by
  refine Law.of_walk (plainFor_of_name (by decide +kernel)) (by decide +kernel) (by decide +kernel) (by decide) (fun _ _ h => by rw [h.1]; rfl) (fun _ U U' hal hh h => ⟨h.1, h.2.1.mv hal hh, h.2.2.1.mv hal hh, h.2.2.2⟩) (fun r U U' V V' h1 hal h2 h => ⟨h.1, h.2.elim fun B' q => ⟨B', q.1.mv h1 h2, q.2⟩⟩) ?_
  intro p e s m args below meth c s₁ X0 hexec hbytes hml hret hlk hnm hown hh0 W hP
  obtain ⟨rfl, hA, hB, hne, l1, l2, hp⟩ := hP
  have c1 : Steps p.tables e below (s₁.setTop (entryFrame m #[.ref b, .int (Int32.ofNat o), .ref d, .int (Int32.ofNat q), .int (Int32.ofNat len)] 7)) (s₁.setTop (mkF m 0 #[.val (.ref b), .val (.int (Int32.ofNat o)), .val (.ref d), .val (.int (Int32.ofNat q)), .val (.int (Int32.ofNat len)), .unset, .unset] [])) := entry rfl
  have hA0 := hA.1.mv X0.warmed.alike hh0
  have hB0 := hB.mv X0.warmed.alike hh0
  have a31 := hA.1.2.2.2
  have c2 : Steps p.tables e below (s₁.setTop (entryFrame m #[.ref b, .int (Int32.ofNat o), .ref d, .int (Int32.ofNat q), .int (Int32.ofNat len)] 7)) (s₁.setTop (mkF m 3 #[.val (.ref b), .val (.int (Int32.ofNat o)), .val (.ref d), .val (.int (Int32.ofNat q)), .val (.int (Int32.ofNat len)), .val (.int 0), .unset] [])) := c1.trans (by
    refine iconstV X0.here hexec rfl 0 (hb hbytes d0) (by decide) ?_
    refine XS.istore X0.here hexec rfl (hb hbytes d1) rfl rfl ?_
    exact Steps.refl _)
  have loop : ∀ (r i : Nat), i + r = len → ∀ (z : Slot), (z = .unset ∨ ∃ w, z = .val w ∧ w.category = 1) → ∀ (Tl : State) (Bk : Cell), Stand p l e { frames := 0, locals := 0, cells := 0, slots := 0 } s m #[.ref b, .int (Int32.ofNat o), .ref d, .int (Int32.ofNat q), .int (Int32.ofNat len)] below meth c Tl ([] ++ copyLocs d q i) 0 0 → Put d Bk s₁ Tl → Laid B Bk q (q + i) (fun j => Value.int (lo8 (cv A (o + (j - q))))) →
      Steps p.tables e below (s₁.setTop (entryFrame m #[.ref b, .int (Int32.ofNat o), .ref d, .int (Int32.ofNat q), .int (Int32.ofNat len)] 7)) (Tl.setTop (mkF m 3 #[.val (.ref b), .val (.int (Int32.ofNat (o + i))), .val (.ref d), .val (.int (Int32.ofNat (q + i))), .val (.int (Int32.ofNat len)), .val (.int (Int32.ofNat i)), z] [])) → ∃ (T' : State) (B' : Cell) (z' : Slot), Stand p l e { frames := 0, locals := 0, cells := 0, slots := 0 } s m #[.ref b, .int (Int32.ofNat o), .ref d, .int (Int32.ofNat q), .int (Int32.ofNat len)] below meth c T' ([] ++ copyLocs d q len) 0 0 ∧ Put d B' s₁ T' ∧ Laid B B' q (q + len) (fun j => Value.int (lo8 (cv A (o + (j - q))))) ∧
      Steps p.tables e below (s₁.setTop (entryFrame m #[.ref b, .int (Int32.ofNat o), .ref d, .int (Int32.ofNat q), .int (Int32.ofNat len)] 7)) (T'.setTop (mkF m 3 #[.val (.ref b), .val (.int (Int32.ofNat (o + len))), .val (.ref d), .val (.int (Int32.ofNat (q + len))), .val (.int (Int32.ofNat len)), .val (.int (Int32.ofNat len)), z'] [])) := by
    intro r
    induction r with
    | zero =>
      intro i hi z hz Tl Bk Xl pl fl cl
      have hil : i = len := by omega
      rw [hil] at Xl fl cl
      exact ⟨Tl, Bk, z, Xl, pl, fl, cl⟩
    | succ r ih =>
      intro i hi z hz Tl Bk Xl pl fl cl
      have all := X0.warmed.alike.symm.trans Xl.warmed.alike
      have hAl := hA0.keep all (pl.other hne hA0.1)
      have hBk := hB0.like all pl.1 fl.1 fl.2.1 fl.2.2.1
      have hlt : q + i < Bk.slots.size := by rw [fl.2.2.1]; omega
      have c3 : Steps p.tables e below (s₁.setTop (entryFrame m #[.ref b, .int (Int32.ofNat o), .ref d, .int (Int32.ofNat q), .int (Int32.ofNat len)] 7)) (Tl.setTop (mkF m 12 #[.val (.ref b), .val (.int (Int32.ofNat (o + i))), .val (.ref d), .val (.int (Int32.ofNat (q + i))), .val (.int (Int32.ofNat len)), .val (.int (Int32.ofNat i)), z] [.int (Int32.ofNat (o + i)), .ref b])) := cl.trans (by
        refine XS.iload Xl.here hexec rfl (hb hbytes d3) rfl ?_
        refine XS.iload Xl.here hexec rfl (hb hbytes d5) rfl ?_
        refine XS.icmpNo Xl.here hexec rfl (hb hbytes d7) rfl (ii_ge_f (lt32 (by omega) (by omega))) ?_
        refine XS.aloadN Xl.here hexec rfl (hb hbytes d10) rfl rfl ?_
        refine XS.iloadN Xl.here hexec rfl (hb hbytes d11) rfl ?_
        exact Steps.refl _)
      have c4 : Steps p.tables e below (s₁.setTop (entryFrame m #[.ref b, .int (Int32.ofNat o), .ref d, .int (Int32.ofNat q), .int (Int32.ofNat len)] 7)) (Tl.setTop (mkF m 13 #[.val (.ref b), .val (.int (Int32.ofNat (o + i))), .val (.ref d), .val (.int (Int32.ofNat (q + i))), .val (.int (Int32.ofNat len)), .val (.int (Int32.ofNat i)), z] [.int (cv A (o + i))])) := c3.trans (by
        refine Xl.aget hexec hAl rfl (hA.get (i := o + i) (by omega)) rfl rfl (hb hbytes d12) ?_
        exact Steps.refl _)
      have c5 : Steps p.tables e below (s₁.setTop (entryFrame m #[.ref b, .int (Int32.ofNat o), .ref d, .int (Int32.ofNat q), .int (Int32.ofNat len)] 7)) (Tl.setTop (mkF m 15 #[.val (.ref b), .val (.int (Int32.ofNat (o + i))), .val (.ref d), .val (.int (Int32.ofNat (q + i))), .val (.int (Int32.ofNat len)), .val (.int (Int32.ofNat i)), .val (.int (cv A (o + i)))] [])) := c4.trans (by
        refine XS.istoreS Xl.here hexec rfl (hb hbytes d13) rfl rfl hz ?_
        exact Steps.refl _)
      have c6 : Steps p.tables e below (s₁.setTop (entryFrame m #[.ref b, .int (Int32.ofNat o), .ref d, .int (Int32.ofNat q), .int (Int32.ofNat len)] 7)) (Tl.setTop (mkF m 31 #[.val (.ref b), .val (.int (Int32.ofNat (o + i))), .val (.ref d), .val (.int (Int32.ofNat (q + i))), .val (.int (Int32.ofNat len)), .val (.int (Int32.ofNat i)), .val (.int (cv A (o + i)))] [.int (lo8 (cv A (o + i))), .int (Int32.ofNat (q + i)), .ref d])) := c5.trans (by
        refine XS.iload Xl.here hexec rfl (hb hbytes d15) rfl ?_
        refine sipushV Xl.here hexec rfl 255 (hb hbytes d17) (by decide) ?_
        refine XS.icmpYes Xl.here hexec rfl (pc0 := 20) rfl (hb hbytes d20) rfl (ii_le_t (hp i (by omega))) (by decide) rfl ?_
        refine XS.aloadN Xl.here hexec rfl (hb hbytes d26) rfl rfl ?_
        refine XS.iloadN Xl.here hexec rfl (hb hbytes d27) rfl ?_
        refine XS.iload Xl.here hexec rfl (hb hbytes d28) rfl ?_
        refine i2b Xl.here hexec rfl (hb hbytes d30) rfl ?_
        exact Steps.refl _)
      obtain ⟨T7, X7, p7, st7⟩ := Xl.aput hexec hBk rfl hlt rfl (fits_lo8 (cv A (o + i))) (g := (mkF m 31 #[.val (.ref b), .val (.int (Int32.ofNat (o + i))), .val (.ref d), .val (.int (Int32.ofNat (q + i))), .val (.int (Int32.ofNat len)), .val (.int (Int32.ofNat i)), .val (.int (cv A (o + i)))] [.int (lo8 (cv A (o + i))), .int (Int32.ofNat (q + i)), .ref d])) rfl (rest := []) rfl (hb hbytes d31)
      have c8 : Steps p.tables e below (s₁.setTop (entryFrame m #[.ref b, .int (Int32.ofNat o), .ref d, .int (Int32.ofNat q), .int (Int32.ofNat len)] 7)) (T7.setTop (mkF m 32 #[.val (.ref b), .val (.int (Int32.ofNat (o + i))), .val (.ref d), .val (.int (Int32.ofNat (q + i))), .val (.int (Int32.ofNat len)), .val (.int (Int32.ofNat i)), .val (.int (cv A (o + i)))] [])) := c6.trans (st7 _ (Steps.refl _))
      have c9 : Steps p.tables e below (s₁.setTop (entryFrame m #[.ref b, .int (Int32.ofNat o), .ref d, .int (Int32.ofNat q), .int (Int32.ofNat len)] 7)) (T7.setTop (mkF m 3 #[.val (.ref b), .val (.int (Int32.ofNat (o + i) + 1)), .val (.ref d), .val (.int (Int32.ofNat (q + i) + 1)), .val (.int (Int32.ofNat len)), .val (.int (Int32.ofNat i + 1)), .val (.int (cv A (o + i)))] [])) := c8.trans (by
        refine iincV X7.here hexec rfl 1 (hb hbytes d32) (by decide) rfl rfl ?_
        refine iincV X7.here hexec rfl 1 (hb hbytes d35) (by decide) rfl rfl ?_
        refine iincV X7.here hexec rfl 1 (hb hbytes d38) (by decide) rfl rfl ?_
        refine XS.goto X7.here hexec rfl (pc0 := 41) rfl (hb hbytes d41) (by decide) rfl ?_
        exact Steps.refl _)
      have c10 : Steps p.tables e below (s₁.setTop (entryFrame m #[.ref b, .int (Int32.ofNat o), .ref d, .int (Int32.ofNat q), .int (Int32.ofNat len)] 7)) (T7.setTop (mkF m 3 #[.val (.ref b), .val (.int (Int32.ofNat (o + (i + 1)))), .val (.ref d), .val (.int (Int32.ofNat (q + (i + 1)))), .val (.int (Int32.ofNat len)), .val (.int (Int32.ofNat (i + 1))), .val (.int (cv A (o + i)))] [])) := by
        have := c9
        rw [succ32, succ32, succ32] at this
        exact this
      exact ih (i + 1) (by omega) _ (Or.inr ⟨_, rfl, rfl⟩) T7 _ (by rw [copyLocs_step, ← List.append_assoc]; exact X7) (pl.trans p7) (fl.step (by omega) hlt (by simp)) c10
  obtain ⟨T9, B9, z9, X9, p9, f9, g9⟩ := loop len 0 (by omega) .unset (Or.inl rfl) s₁ B (by simpa [copyLocs] using X0) ⟨hB0.1, fun _ _ => rfl, rfl⟩ (Laid.zero _ _ _) c2
  have c11 : Steps p.tables e below (s₁.setTop (entryFrame m #[.ref b, .int (Int32.ofNat o), .ref d, .int (Int32.ofNat q), .int (Int32.ofNat len)] 7)) (T9.setTop (mkF m 46 #[.val (.ref b), .val (.int (Int32.ofNat (o + len))), .val (.ref d), .val (.int (Int32.ofNat (q + len))), .val (.int (Int32.ofNat len)), .val (.int (Int32.ofNat len)), z9] [.int (Int32.ofNat len)])) := g9.trans (by
    refine XS.iload X9.here hexec rfl (hb hbytes d3) rfl ?_
    refine XS.iload X9.here hexec rfl (hb hbytes d5) rfl ?_
    refine XS.icmpYes X9.here hexec rfl (pc0 := 7) rfl (hb hbytes d7) rfl (ii_ge_t (nlt32 (by omega) (Nat.le_refl _))) (by decide) rfl ?_
    refine XS.iload X9.here hexec rfl (hb hbytes d44) rfl ?_
    exact Steps.refl _)
  exact ⟨T9, some (.int (Int32.ofNat len)), _, _, _, X9, by simp, rfl, rfl, (fun h => by cases h), ⟨rfl, B9, p9.from hh0, f9⟩, fun fs hl => c11.trans (X9.ireturnOut hexec hret rfl (Or.inl rfl) (hb hbytes d46) hl)⟩
end Cmp5
namespace Cmp3
def yN : MethodName := ⟨"java/lang/StringUTF16", "compress", "([CII)[B"⟩
abbrev yB : ByteArray := jdk_52_method_16_code
theorem d0 : decode yB 0 = .ok (.iload_n 2, 1) := by decide +kernel
theorem d1 : decode yB 1 = .ok (.newarray .byte, 2) := by decide +kernel
theorem d3 : decode yB 3 = .ok (.astore_n 3, 1) := by decide +kernel
theorem d4 : decode yB 4 = .ok (.aload_n 0, 1) := by decide +kernel
theorem d5 : decode yB 5 = .ok (.iload_n 1, 1) := by decide +kernel
theorem d6 : decode yB 6 = .ok (.aload_n 3, 1) := by decide +kernel
theorem d7 : decode yB 7 = .ok (.iconst 0, 1) := by decide +kernel
theorem d8 : decode yB 8 = .ok (.iload_n 2, 1) := by decide +kernel
theorem d9 : decode yB 9 = .ok (.invokestatic 115, 3) := by decide +kernel
theorem d12 : decode yB 12 = .ok (.istore 4, 2) := by decide +kernel
theorem d14 : decode yB 14 = .ok (.iload 4, 2) := by decide +kernel
theorem d16 : decode yB 16 = .ok (.iload_n 2, 1) := by decide +kernel
theorem d17 : decode yB 17 = .ok (.if_icmp (.eq) 40, 3) := by decide +kernel
theorem d57 : decode yB 57 = .ok (.aload_n 3, 1) := by decide +kernel
theorem d58 : decode yB 58 = .ok (.areturn, 1) := by decide +kernel
def site : List Cond := [.arrayClass .byte, Cmp5.tab] ++ staticW U16 115 Cmp5.yN
def tab : Cond := tabOf yN yB 6 (some (.array .byte)) site
def P (b : Addr) (A : Cell) (o len : Nat) (args : Array Value) (s : State) : Prop := args = #[.ref b, .int (Int32.ofNat o), .int (Int32.ofNat len)] ∧ Ch b A s ∧ o + len ≤ A.slots.size ∧ len ≤ 536870912 ∧ ∀ i, i < len → ¬ 255 < cv A (o + i)
def E (b : Addr) (A : Cell) (o len : Nat) (r : Option Value) (s u : State) : Prop := NewArr .byte "[B" len (fun j => .int (lo8 (cv A (o + j)))) r s u ∧ u.heap.size = s.heap.size + 1
/-- no char of the range above 255: a new byte[] of their low bytes -/
theorem law (l : Launch) (b : Addr) (A : Cell) (o len : Nat) : Law l yN 3 3 1 18 yB 6 (some (.array .byte)) site (P b A o len) (E b A o len) [] 1 len := by
  refine Law.of_walk (plainFor_of_name (by decide +kernel)) (by decide +kernel) (by decide +kernel) (by decide) (fun _ _ h => by rw [h.1]; rfl) (fun _ U U' hal hh h => ⟨h.1, h.2.1.mv hal hh, h.2.2⟩) (fun r U U' V V' h1 hal h2 h => ⟨NewArr.mv r U U' V V' h1 hal h2 h.1, by rw [h1, h2]; exact h.2⟩) ?_
  intro p e s m args below meth c s₁ X0 hexec hbytes hml hret hlk hnm hown hh0 W hP
  obtain ⟨rfl, hA, l1, l2, hp⟩ := hP
  have a31 := hA.1.2.2.2
  have c1 : Steps p.tables e below (s₁.setTop (entryFrame m #[.ref b, .int (Int32.ofNat o), .int (Int32.ofNat len)] 6)) (s₁.setTop (mkF m 0 #[.val (.ref b), .val (.int (Int32.ofNat o)), .val (.int (Int32.ofNat len)), .unset, .unset, .unset] [])) := entry rfl
  have c2 : Steps p.tables e below (s₁.setTop (entryFrame m #[.ref b, .int (Int32.ofNat o), .int (Int32.ofNat len)] 6)) (s₁.setTop (mkF m 1 #[.val (.ref b), .val (.int (Int32.ofNat o)), .val (.int (Int32.ofNat len)), .unset, .unset, .unset] [.int (Int32.ofNat len)])) := c1.trans (by
    refine XS.iloadN X0.here hexec rfl (hb hbytes d0) rfl ?_
    exact Steps.refl _)
  obtain ⟨T3, B3, X3, ba3, bs3, bv3, bh3, bf3, st3⟩ := X0.anew hexec (atype := .byte) (wk W (.arrayClass .byte)) rfl (by show len * 1 ≤ _; omega) (by omega) (g := (mkF m 1 #[.val (.ref b), .val (.int (Int32.ofNat o)), .val (.int (Int32.ofNat len)), .unset, .unset, .unset] [.int (Int32.ofNat len)])) rfl (hb hbytes d1) (rest := []) rfl (Nat.le_refl _) (by show 0 + len ≤ len; omega)
  rw [hh0] at ba3 st3
  have kp3 : XT.Kept s T3 := (XT.Kept.of_eq hh0).push bh3
  have hA3 := hA.keep X3.warmed.alike (kp3 _ _ hA.1.1)
  have hne : b ≠ s.heap.size := hA.1.ne
  have c4 : Steps p.tables e below (s₁.setTop (entryFrame m #[.ref b, .int (Int32.ofNat o), .int (Int32.ofNat len)] 6)) (T3.setTop (mkF m 3 #[.val (.ref b), .val (.int (Int32.ofNat o)), .val (.int (Int32.ofNat len)), .unset, .unset, .unset] [.ref s.heap.size])) := c2.trans (st3 _ (Steps.refl _))
  have c5 : Steps p.tables e below (s₁.setTop (entryFrame m #[.ref b, .int (Int32.ofNat o), .int (Int32.ofNat len)] 6)) (T3.setTop (mkF m 9 #[.val (.ref b), .val (.int (Int32.ofNat o)), .val (.int (Int32.ofNat len)), .val (.ref s.heap.size), .unset, .unset] [.int (Int32.ofNat len), .int 0, .ref s.heap.size, .int (Int32.ofNat o), .ref b])) := c4.trans (by
    refine XS.astoreN X3.here hexec rfl (hb hbytes d3) rfl rfl rfl ?_
    refine XS.aloadN X3.here hexec rfl (hb hbytes d4) rfl rfl ?_
    refine XS.iloadN X3.here hexec rfl (hb hbytes d5) rfl ?_
    refine XS.aloadN X3.here hexec rfl (hb hbytes d6) rfl rfl ?_
    refine iconstV X3.here hexec rfl 0 (hb hbytes d7) (by decide) ?_
    refine XS.iloadN X3.here hexec rfl (hb hbytes d8) rfl ?_
    exact Steps.refl _)
  obtain ⟨v6, T6, X6, E6, g6⟩ := X3.callS hexec (Cmp5.law l b A s.heap.size B3 o 0 len) hown (wks W (staticW U16 115 Cmp5.yN)) (wk W Cmp5.tab) (W := 0) (Nat.le_of_ble_eq_true rfl) (Nat.le_of_ble_eq_true rfl) (Nat.le_refl _) (by show 0 + len + 0 ≤ len; omega) (g := (mkF m 9 #[.val (.ref b), .val (.int (Int32.ofNat o)), .val (.int (Int32.ofNat len)), .val (.ref s.heap.size), .unset, .unset] [.int (Int32.ofNat len), .int (Int32.ofNat 0), .ref s.heap.size, .int (Int32.ofNat o), .ref b])) rfl (by rw [hml]; rfl) c5 (argsL := [.ref b, .int (Int32.ofNat o), .ref s.heap.size, .int (Int32.ofNat 0), .int (Int32.ofNat len)]) (rest := []) rfl rfl (by show 2 * 0 + 0 ≤ _; decide) (hb hbytes d9) (⟨rfl, hA3, ba3, hne, l1, by rw [bs3]; simp, hp⟩)
  obtain ⟨rfl, B6, p6, f6⟩ := E6
  have c7 : Steps p.tables e below (s₁.setTop (entryFrame m #[.ref b, .int (Int32.ofNat o), .int (Int32.ofNat len)] 6)) (T6.setTop (mkF m 12 #[.val (.ref b), .val (.int (Int32.ofNat o)), .val (.int (Int32.ofNat len)), .val (.ref s.heap.size), .unset, .unset] [.int (Int32.ofNat len)])) := g6
  have c8 : Steps p.tables e below (s₁.setTop (entryFrame m #[.ref b, .int (Int32.ofNat o), .int (Int32.ofNat len)] 6)) (T6.setTop (mkF m 58 #[.val (.ref b), .val (.int (Int32.ofNat o)), .val (.int (Int32.ofNat len)), .val (.ref s.heap.size), .val (.int (Int32.ofNat len)), .unset] [.ref s.heap.size])) := c7.trans (by
    refine XS.istore X6.here hexec rfl (hb hbytes d12) rfl rfl ?_
    refine XS.iload X6.here hexec rfl (hb hbytes d14) rfl ?_
    refine XS.iloadN X6.here hexec rfl (hb hbytes d16) rfl ?_
    refine XS.icmpYes X6.here hexec rfl (pc0 := 17) rfl (hb hbytes d17) rfl (ii_eq_t rfl) (by decide) rfl ?_
    refine XS.aloadN X6.here hexec rfl (hb hbytes d57) rfl rfl ?_
    exact Steps.refl _)
  have X8 := X6.wide (L' := []) (cells' := 1) (slots' := len) (fun x hx hlt => by
    simp only [List.nil_append, copyLocs, List.mem_map, List.mem_range] at hx
    obtain ⟨i, -, rfl⟩ := hx
    exact absurd hlt (Nat.lt_irrefl _)) (Nat.le_refl _) (by omega)
  exact ⟨T6, some (.ref s.heap.size), _, _, _, X8, rfl, rfl, rfl, (fun h => by cases h), ⟨⟨rfl, B6, ba3.like (X3.warmed.alike.symm.trans X6.warmed.alike) p6.1 f6.1 f6.2.1 f6.2.2.1, f6.2.1.trans bv3, by rw [X6.warmed.alike.findClass, f6.1]; exact bf3, by rw [f6.2.2.1, bs3]; simp, fun j hj => by rw [f6.2.2.2 j, if_pos (by omega)]; rfl, kp3.put p6 (Nat.le_refl _)⟩, by rw [p6.2.2, bh3, hh0]; simp⟩, fun fs hl => c8.trans (X8.areturnOut hexec rfl hret rfl (hb hbytes d58) hl)⟩
end Cmp3
namespace CodL
def yN : MethodName := ⟨"java/lang/StringUTF16", "coderFromArrayLen", "([BI)B"⟩
abbrev yB : ByteArray := jdk_52_method_15_code
theorem d0 : decode yB 0 = .ok (.iload_n 1, 1) := by decide +kernel
theorem d1 : decode yB 1 = .ok (.aload_n 0, 1) := by decide +kernel
theorem d2 : decode yB 2 = .ok (.arraylength, 1) := by decide +kernel
theorem d3 : decode yB 3 = .ok (.isub, 1) := by decide +kernel
theorem d4 : decode yB 4 = .ok (.bipush 31, 2) := by decide +kernel
theorem d6 : decode yB 6 = .ok (.iushr, 1) := by decide +kernel
theorem d7 : decode yB 7 = .ok (.i2b, 1) := by decide +kernel
theorem d8 : decode yB 8 = .ok (.ireturn, 1) := by decide +kernel
def site : List Cond := []
def tab : Cond := tabOf yN yB 2 (some .byte) site
def P (d : Addr) (B : Cell) (args : Array Value) (s : State) : Prop := args = #[.ref d, .int (Int32.ofNat B.slots.size)] ∧ Arr .byte d B s
def E (r : Option Value) (s u : State) : Prop := XT.PureE (some (.int 0)) r s u
/-- an array as long as the number of chars: LATIN1 -/
theorem law (l : Launch) (d : Addr) (B : Cell) : Law l yN 2 2 0 0 yB 2 (some .byte) site (P d B) E [] 0 0 := by
  refine Law.of_walk (plainFor_of_name (by decide +kernel)) (by decide +kernel) (by decide +kernel) (by decide) (fun _ _ h => by rw [h.1]; rfl) (fun _ U U' hal hh h => ⟨h.1, h.2.mv hal hh⟩) (fun r U U' V V' h1 hal h2 h => XT.PureE.mv r U U' V V' h1 hal h2 h) ?_
  intro p e s m args below meth c s₁ X0 hexec hbytes hml hret hlk hnm hown hh0 W hP
  obtain ⟨rfl, hB⟩ := hP
  have hB0 := hB.mv X0.warmed.alike hh0
  have c1 : Steps p.tables e below (s₁.setTop (entryFrame m #[.ref d, .int (Int32.ofNat B.slots.size)] 2)) (s₁.setTop (mkF m 0 #[.val (.ref d), .val (.int (Int32.ofNat B.slots.size))] [])) := entry rfl
  have c2 : Steps p.tables e below (s₁.setTop (entryFrame m #[.ref d, .int (Int32.ofNat B.slots.size)] 2)) (s₁.setTop (mkF m 2 #[.val (.ref d), .val (.int (Int32.ofNat B.slots.size))] [.ref d, .int (Int32.ofNat B.slots.size)])) := c1.trans (by
    refine XS.iloadN X0.here hexec rfl (hb hbytes d0) rfl ?_
    refine XS.aloadN X0.here hexec rfl (hb hbytes d1) rfl rfl ?_
    exact Steps.refl _)
  have c3 : Steps p.tables e below (s₁.setTop (entryFrame m #[.ref d, .int (Int32.ofNat B.slots.size)] 2)) (s₁.setTop (mkF m 8 #[.val (.ref d), .val (.int (Int32.ofNat B.slots.size))] [.int (lo8 (ushr (Int32.ofNat B.slots.size - Int32.ofNat B.slots.size) 31))])) := c2.trans (by
    refine X0.alen hexec hB0 rfl rfl (hb hbytes d2) ?_
    refine XS.isub X0.here hexec rfl (hb hbytes d3) rfl ?_
    refine bipushV X0.here hexec rfl 31 (hb hbytes d4) (by decide) ?_
    refine iushr X0.here hexec rfl (hb hbytes d6) rfl ?_
    refine i2b X0.here hexec rfl (hb hbytes d7) rfl ?_
    exact Steps.refl _)
  have e0 : lo8 (ushr (Int32.ofNat B.slots.size - Int32.ofNat B.slots.size) 31) = 0 := by rw [Int32.sub_self]; decide
  rw [e0] at c3
  exact ⟨s₁, some (.int 0), _, _, _, X0, rfl, rfl, rfl, (fun h => by cases h), ⟨rfl, hh0⟩, fun fs hl => c3.trans (X0.ireturnOut hexec hret rfl (Or.inr (Or.inr (Or.inl rfl))) (hb hbytes d8) hl)⟩
end CodL
/-- the String at a is Latin-1 over a new byte[] (the heap's one new cell): the low bytes of the len chars of A from o on; every cell but a is kept -/
def Got (a : Addr) (D : Cell) (fV fC : Field) (A : Cell) (o len : Nat) (r : Option Value) (s u : State) : Prop := r = none ∧ ∃ D' V : Cell, Blank "java/lang/String" a D' u ∧ Same D D' [fV.slot, fC.slot] ∧ D'.slots[fV.slot]? = some (.ref s.heap.size) ∧ D'.slots[fC.slot]? = some (.int 0) ∧ Arr .byte s.heap.size V u ∧ V.vm = .none ∧ u.vm.findClass "[B" = some V.cls ∧ V.slots.size = len ∧ (∀ j, j < len → V.slots[j]? = some (.int (lo8 (cv A (o + j))))) ∧ (∀ (y : Addr) (c : Cell), y ≠ a → s.heap[y]? = some c → u.heap[y]? = some c) ∧ u.heap.size = s.heap.size + 1
theorem Got.mv {a : Addr} {D A : Cell} {fV fC : Field} {o len : Nat} : ∀ r (U U' V V' : State), U'.heap = U.heap → V.vm.Alike V'.vm → V'.heap = V.heap → Got a D fV fC A o len r U V → Got a D fV fC A o len r U' V' :=
  fun r U U' V V' h1 hal h2 ⟨e0, D', X, a1, a2, a3, a4, a5, a6, a7, a8, a9, a10, a11⟩ => ⟨e0, D', X, a1.mv hal h2, a2, by rw [h1]; exact a3, a4, by rw [h1]; exact a5.mv hal h2, a6, by rw [hal.findClass]; exact a7, a8, a9, by rw [h1, h2]; exact a10, by rw [h1, h2]; exact a11⟩
namespace New4
def yN : MethodName := ⟨"java/lang/String", "<init>", "([CIILjava/lang/Void;)V"⟩
abbrev yB : ByteArray := jdk_42_method_149_code
theorem d0 : decode yB 0 = .ok (.aload_n 0, 1) := by decide +kernel
theorem d1 : decode yB 1 = .ok (.invokespecial 1, 3) := by decide +kernel
theorem d4 : decode yB 4 = .ok (.iload_n 3, 1) := by decide +kernel
theorem d5 : decode yB 5 = .ok (.ifCond (.ne) 22, 3) := by decide +kernel
theorem d27 : decode yB 27 = .ok (.getstatic 38, 3) := by decide +kernel
theorem d30 : decode yB 30 = .ok (.ifCond (.eq) 28, 3) := by decide +kernel
theorem d33 : decode yB 33 = .ok (.aload_n 1, 1) := by decide +kernel
theorem d34 : decode yB 34 = .ok (.iload_n 2, 1) := by decide +kernel
theorem d35 : decode yB 35 = .ok (.iload_n 3, 1) := by decide +kernel
theorem d36 : decode yB 36 = .ok (.invokestatic 177, 3) := by decide +kernel
theorem d39 : decode yB 39 = .ok (.astore 5, 2) := by decide +kernel
theorem d41 : decode yB 41 = .ok (.aload_n 0, 1) := by decide +kernel
theorem d42 : decode yB 42 = .ok (.aload 5, 2) := by decide +kernel
theorem d44 : decode yB 44 = .ok (.iload_n 3, 1) := by decide +kernel
theorem d45 : decode yB 45 = .ok (.invokestatic 47, 3) := by decide +kernel
theorem d48 : decode yB 48 = .ok (.putfield 15, 3) := by decide +kernel
theorem d51 : decode yB 51 = .ok (.aload_n 0, 1) := by decide +kernel
theorem d52 : decode yB 52 = .ok (.aload 5, 2) := by decide +kernel
theorem d54 : decode yB 54 = .ok (.putfield 9, 3) := by decide +kernel
theorem d57 : decode yB 57 = .ok (.return_, 1) := by decide +kernel
def site : List Cond := [.fieldLink "java/lang/String" 38 "java/lang/String" "COMPACT_STRINGS" "Z", Cmp3.tab, CodL.tab, .laysFinal "java/lang/String" "java/lang/String" "value" "[B", .fieldLink "java/lang/String" 9 "java/lang/String" "value" "[B", .laysFinal "java/lang/String" "java/lang/String" "coder" "B", .fieldLink "java/lang/String" 15 "java/lang/String" "coder" "B"] ++ objW "java/lang/String" 1 ++ staticW "java/lang/String" 177 Cmp3.yN ++ staticW "java/lang/String" 47 CodL.yN
def tab : Cond := tabOf yN yB 6 none site
def P (a : Addr) (D : Cell) (fV fC : Field) (b : Addr) (A : Cell) (z : Int32) (o len : Nat) (args : Array Value) (s : State) : Prop := args = #[.ref a, .ref b, .int (Int32.ofNat o), .int (Int32.ofNat len), .null] ∧ Blank "java/lang/String" a D s ∧ Found "java/lang/String" "value" "[B" fV s ∧ Found "java/lang/String" "coder" "B" fC s ∧ Ch b A s ∧ StaticIs s "java/lang/String" "COMPACT_STRINGS" "Z" (.int z) ∧ ¬ z = 0 ∧ 0 < len ∧ o + len ≤ A.slots.size ∧ len ≤ 536870912 ∧ ∀ i, i < len → ¬ 255 < cv A (o + i)
def E (a : Addr) (D : Cell) (fV fC : Field) (A : Cell) (o len : Nat) (r : Option Value) (s u : State) : Prop := Got a D fV fC A o len r s u
/-- len > 0, no char of the range above 255: a Latin-1 String of their low bytes -/
theorem law (l : Launch) (a : Addr) (D : Cell) (fV fC : Field) (b : Addr) (A : Cell) (z : Int32) (o len : Nat) : Law l yN 5 4 2 35 yB 6 none site (P a D fV fC b A z o len) (E a D fV fC A o len) [⟨a, fC.slot⟩, ⟨a, fV.slot⟩] 1 len := by
  refine Law.of_walk (plainFor_of_name (by decide +kernel)) (by decide +kernel) (by decide +kernel) (by decide) (fun _ _ h => by rw [h.1]; rfl) (fun _ U U' hal hh h => ⟨h.1, h.2.1.mv hal hh, h.2.2.1.al hal, h.2.2.2.1.al hal, h.2.2.2.2.1.mv hal hh, h.2.2.2.2.2.1.there hal hh, h.2.2.2.2.2.2⟩) (fun r U U' V V' h1 hal h2 h => Got.mv r U U' V V' h1 hal h2 h) ?_
  intro p e s m args below meth c s₁ X0 hexec hbytes hml hret hlk hnm hown hh0 W hP
  obtain ⟨rfl, hB, f1, f2, hA, s1, hz, l0, l1, l2, hp⟩ := hP
  have a31 := hA.1.2.2.2
  have c1 : Steps p.tables e below (s₁.setTop (entryFrame m #[.ref a, .ref b, .int (Int32.ofNat o), .int (Int32.ofNat len), .null] 6)) (s₁.setTop (mkF m 0 #[.val (.ref a), .val (.ref b), .val (.int (Int32.ofNat o)), .val (.int (Int32.ofNat len)), .val .null, .unset] [])) := entry rfl
  have c2 : Steps p.tables e below (s₁.setTop (entryFrame m #[.ref a, .ref b, .int (Int32.ofNat o), .int (Int32.ofNat len), .null] 6)) (s₁.setTop (mkF m 1 #[.val (.ref a), .val (.ref b), .val (.int (Int32.ofNat o)), .val (.int (Int32.ofNat len)), .val .null, .unset] [.ref a])) := c1.trans (by
    refine XS.aloadN X0.here hexec rfl (hb hbytes d0) rfl rfl ?_
    exact Steps.refl _)
  obtain ⟨T3, X3, q3, st3⟩ := X0.oinit hexec hown (wks W (objW "java/lang/String" 1)) (g := (mkF m 1 #[.val (.ref a), .val (.ref b), .val (.int (Int32.ofNat o)), .val (.int (Int32.ofNat len)), .val .null, .unset] [.ref a])) rfl (by rw [hml]; rfl) (rest := []) rfl (hb hbytes d1) (W := 0) (by show 2 * 0 + 0 ≤ _; decide) (Nat.le_of_ble_eq_true rfl) (Nat.le_of_ble_eq_true rfl)
  have hh3 := q3.trans hh0
  have c4 : Steps p.tables e below (s₁.setTop (entryFrame m #[.ref a, .ref b, .int (Int32.ofNat o), .int (Int32.ofNat len), .null] 6)) (T3.setTop (mkF m 27 #[.val (.ref a), .val (.ref b), .val (.int (Int32.ofNat o)), .val (.int (Int32.ofNat len)), .val .null, .unset] [])) := (c2.trans (st3 _ (Steps.refl _))).trans (by
    refine XS.iloadN X3.here hexec rfl (hb hbytes d4) rfl ?_
    refine XS.ifYes X3.here hexec rfl (pc0 := 5) rfl (hb hbytes d5) rfl (i0_ne_t (nz32 (by omega) l0)) (by decide) rfl ?_
    exact Steps.refl _)
  obtain ⟨T5, X5, q5, st5⟩ := X3.sget hexec hown (wk W (.fieldLink "java/lang/String" 38 "java/lang/String" "COMPACT_STRINGS" "Z")) s1 (fun _ _ h => by rw [hh3]; exact h) (g := (mkF m 27 #[.val (.ref a), .val (.ref b), .val (.int (Int32.ofNat o)), .val (.int (Int32.ofNat len)), .val .null, .unset] [])) rfl (hb hbytes d27)
  have hh5 := q5.trans hh3
  have c6 : Steps p.tables e below (s₁.setTop (entryFrame m #[.ref a, .ref b, .int (Int32.ofNat o), .int (Int32.ofNat len), .null] 6)) (T5.setTop (mkF m 30 #[.val (.ref a), .val (.ref b), .val (.int (Int32.ofNat o)), .val (.int (Int32.ofNat len)), .val .null, .unset] [.int z])) := c4.trans (st5 _ (Steps.refl _))
  have c7 : Steps p.tables e below (s₁.setTop (entryFrame m #[.ref a, .ref b, .int (Int32.ofNat o), .int (Int32.ofNat len), .null] 6)) (T5.setTop (mkF m 36 #[.val (.ref a), .val (.ref b), .val (.int (Int32.ofNat o)), .val (.int (Int32.ofNat len)), .val .null, .unset] [.int (Int32.ofNat len), .int (Int32.ofNat o), .ref b])) := c6.trans (by
    refine XS.ifNo X5.here hexec rfl (hb hbytes d30) rfl (i0_eq_f hz) ?_
    refine XS.aloadN X5.here hexec rfl (hb hbytes d33) rfl rfl ?_
    refine XS.iloadN X5.here hexec rfl (hb hbytes d34) rfl ?_
    refine XS.iloadN X5.here hexec rfl (hb hbytes d35) rfl ?_
    exact Steps.refl _)
  obtain ⟨v8, T8, X8, E8, g8⟩ := X5.callS hexec (Cmp3.law l b A o len) hown (wks W (staticW "java/lang/String" 177 Cmp3.yN)) (wk W Cmp3.tab) (W := 0) (Nat.le_of_ble_eq_true rfl) (Nat.le_of_ble_eq_true rfl) (Nat.le_refl _) (by show 0 + len ≤ len; omega) (g := (mkF m 36 #[.val (.ref a), .val (.ref b), .val (.int (Int32.ofNat o)), .val (.int (Int32.ofNat len)), .val .null, .unset] [.int (Int32.ofNat len), .int (Int32.ofNat o), .ref b])) rfl (by rw [hml]; rfl) c7 (argsL := [.ref b, .int (Int32.ofNat o), .int (Int32.ofNat len)]) (rest := []) rfl rfl (by show 2 * 0 + 0 ≤ _; decide) (hb hbytes d36) (⟨rfl, hA.mv X5.warmed.alike hh5, l1, l2, hp⟩)
  obtain ⟨e8, z8⟩ := E8
  obtain ⟨rfl, N, n1, n2, n3, n4, n5, n6⟩ := NewArr.mv _ T5 s _ _ hh5.symm (Vm.Alike.refl _) rfl e8
  rw [hh5] at z8
  have hB1 := hB.keep X8.warmed.alike (n6 _ _ hB.1)
  have hne : s.heap.size ≠ a := (Nat.ne_of_lt (Array.getElem?_eq_some_iff.mp hB.1).1).symm
  have c9 : Steps p.tables e below (s₁.setTop (entryFrame m #[.ref a, .ref b, .int (Int32.ofNat o), .int (Int32.ofNat len), .null] 6)) (T8.setTop (mkF m 39 #[.val (.ref a), .val (.ref b), .val (.int (Int32.ofNat o)), .val (.int (Int32.ofNat len)), .val .null, .unset] [.ref s.heap.size])) := g8
  have c10 : Steps p.tables e below (s₁.setTop (entryFrame m #[.ref a, .ref b, .int (Int32.ofNat o), .int (Int32.ofNat len), .null] 6)) (T8.setTop (mkF m 45 #[.val (.ref a), .val (.ref b), .val (.int (Int32.ofNat o)), .val (.int (Int32.ofNat len)), .val .null, .val (.ref s.heap.size)] [.int (Int32.ofNat N.slots.size), .ref s.heap.size, .ref a])) := by
    have hc : Steps p.tables e below (s₁.setTop (entryFrame m #[.ref a, .ref b, .int (Int32.ofNat o), .int (Int32.ofNat len), .null] 6)) (T8.setTop (mkF m 45 #[.val (.ref a), .val (.ref b), .val (.int (Int32.ofNat o)), .val (.int (Int32.ofNat len)), .val .null, .val (.ref s.heap.size)] [.int (Int32.ofNat len), .ref s.heap.size, .ref a])) := c9.trans (by
      refine XS.astore X8.here hexec rfl (hb hbytes d39) rfl rfl rfl ?_
      refine XS.aloadN X8.here hexec rfl (hb hbytes d41) rfl rfl ?_
      refine XS.aload X8.here hexec rfl (hb hbytes d42) rfl rfl ?_
      refine XS.iloadN X8.here hexec rfl (hb hbytes d44) rfl ?_
      exact Steps.refl _)
    rw [n4]; exact hc
  obtain ⟨v11, T11, X11, E11, g11⟩ := X8.callS hexec (CodL.law l s.heap.size N) hown (wks W (staticW "java/lang/String" 47 CodL.yN)) (wk W CodL.tab) (W := 1) (Nat.le_of_ble_eq_true rfl) (Nat.le_of_ble_eq_true rfl) (Nat.le_refl _) (by show 0 + len + 0 ≤ len; omega) (g := (mkF m 45 #[.val (.ref a), .val (.ref b), .val (.int (Int32.ofNat o)), .val (.int (Int32.ofNat len)), .val .null, .val (.ref s.heap.size)] [.int (Int32.ofNat N.slots.size), .ref s.heap.size, .ref a])) rfl (by rw [hml]; rfl) c10 (argsL := [.ref s.heap.size, .int (Int32.ofNat N.slots.size)]) (rest := [.ref a]) rfl rfl (by show 2 * 0 + (1 + 0) ≤ _; decide) (hb hbytes d45) (⟨rfl, n1⟩)
  obtain ⟨rfl, q11⟩ := E11
  have hB11 := hB1.mv (X8.warmed.alike.symm.trans X11.warmed.alike) q11
  have c12 : Steps p.tables e below (s₁.setTop (entryFrame m #[.ref a, .ref b, .int (Int32.ofNat o), .int (Int32.ofNat len), .null] 6)) (T11.setTop (mkF m 48 #[.val (.ref a), .val (.ref b), .val (.int (Int32.ofNat o)), .val (.int (Int32.ofNat len)), .val .null, .val (.ref s.heap.size)] [.int 0, .ref a])) := g11
  obtain ⟨T13, X13, p13, bl13, sl13, st13⟩ := X11.finit hexec hown (wk W (.fieldLink "java/lang/String" 15 "java/lang/String" "coder" "B")) (Or.inr ⟨_, (wk W (.laysFinal "java/lang/String" "java/lang/String" "coder" "B"))⟩) (Or.inl ⟨rfl, hnm⟩) f2 (Or.inl rfl) hB11 (t := .byte) (by decide +kernel) rfl (g := (mkF m 48 #[.val (.ref a), .val (.ref b), .val (.int (Int32.ofNat o)), .val (.int (Int32.ofNat len)), .val .null, .val (.ref s.heap.size)] [.int 0, .ref a])) rfl (rest := []) rfl (hb hbytes d48)
  have c14 : Steps p.tables e below (s₁.setTop (entryFrame m #[.ref a, .ref b, .int (Int32.ofNat o), .int (Int32.ofNat len), .null] 6)) (T13.setTop (mkF m 54 #[.val (.ref a), .val (.ref b), .val (.int (Int32.ofNat o)), .val (.int (Int32.ofNat len)), .val .null, .val (.ref s.heap.size)] [.ref s.heap.size, .ref a])) := (c12.trans (st13 _ (Steps.refl _))).trans (by
    refine XS.aloadN X13.here hexec rfl (hb hbytes d51) rfl rfl ?_
    refine XS.aload X13.here hexec rfl (hb hbytes d52) rfl rfl ?_
    exact Steps.refl _)
  obtain ⟨T15, X15, p15, bl15, sl15, st15⟩ := X13.finit hexec hown (wk W (.fieldLink "java/lang/String" 9 "java/lang/String" "value" "[B")) (Or.inr ⟨_, (wk W (.laysFinal "java/lang/String" "java/lang/String" "value" "[B"))⟩) (Or.inl ⟨rfl, hnm⟩) f1 (Or.inl rfl) bl13 (t := (.array .byte)) (by decide +kernel) rfl (g := (mkF m 54 #[.val (.ref a), .val (.ref b), .val (.int (Int32.ofNat o)), .val (.int (Int32.ofNat len)), .val .null, .val (.ref s.heap.size)] [.ref s.heap.size, .ref a])) rfl (rest := []) rfl (hb hbytes d54)
  have c16 : Steps p.tables e below (s₁.setTop (entryFrame m #[.ref a, .ref b, .int (Int32.ofNat o), .int (Int32.ofNat len), .null] 6)) (T15.setTop (mkF m 57 #[.val (.ref a), .val (.ref b), .val (.int (Int32.ofNat o)), .val (.int (Int32.ofNat len)), .val .null, .val (.ref s.heap.size)] [])) := c14.trans (st15 _ (Steps.refl _))
  have ap := apart (Or.inr ⟨_, (wk W (.laysFinal "java/lang/String" "java/lang/String" "value" "[B"))⟩) (Or.inr ⟨_, (wk W (.laysFinal "java/lang/String" "java/lang/String" "coder" "B"))⟩) f1 f2 (t₁ := .array .byte) (t₂ := .byte) (by decide +kernel) (by decide +kernel) (by decide)
  have al := X8.warmed.alike.symm.trans X15.warmed.alike
  have n7 : T11.heap[s.heap.size]? = some N := by rw [q11]; exact n1.1
  exact ⟨T15, none, _, _, _, X15, by simp, rfl, by omega, (fun _ => rfl), ⟨rfl, _, N, bl15, ((Same.refl D _).set _ (by simp)).set _ (by simp), sl15, (Cell.slots_setSlot_ne _ ap).trans sl13, n1.keep al (p15.other hne (p13.other hne n7)), n2, by rw [al.findClass]; exact n3, n4, n5, fun y c h1 h2 => p15.other h1 (p13.other h1 (by rw [q11]; exact n6 y c h2)), by rw [p15.2.2, p13.2.2, q11]; exact z8⟩, fun fs hl => c16.trans (X15.returnOut hexec hret (hb hbytes d57) hl)⟩
end New4
namespace New1
def yN : MethodName := ⟨"java/lang/String", "<init>", "([C)V"⟩
abbrev yB : ByteArray := jdk_42_method_3_code
theorem d0 : decode yB 0 = .ok (.aload_n 0, 1) := by decide +kernel
theorem d1 : decode yB 1 = .ok (.aload_n 1, 1) := by decide +kernel
theorem d2 : decode yB 2 = .ok (.iconst 0, 1) := by decide +kernel
theorem d3 : decode yB 3 = .ok (.aload_n 1, 1) := by decide +kernel
theorem d4 : decode yB 4 = .ok (.arraylength, 1) := by decide +kernel
theorem d5 : decode yB 5 = .ok (.aconst_null, 1) := by decide +kernel
theorem d6 : decode yB 6 = .ok (.invokespecial 27, 3) := by decide +kernel
theorem d9 : decode yB 9 = .ok (.return_, 1) := by decide +kernel
def site : List Cond := [New4.tab] ++ initW "java/lang/String" 27 New4.yN
def tab : Cond := tabOf yN yB 2 none site
def P (a : Addr) (D : Cell) (fV fC : Field) (b : Addr) (A : Cell) (z : Int32) (args : Array Value) (s : State) : Prop := args = #[.ref a, .ref b] ∧ Blank "java/lang/String" a D s ∧ Found "java/lang/String" "value" "[B" fV s ∧ Found "java/lang/String" "coder" "B" fC s ∧ Ch b A s ∧ StaticIs s "java/lang/String" "COMPACT_STRINGS" "Z" (.int z) ∧ ¬ z = 0 ∧ 0 < A.slots.size ∧ A.slots.size ≤ 536870912 ∧ ∀ i, i < A.slots.size → ¬ 255 < cv A i
def E (a : Addr) (D : Cell) (fV fC : Field) (A : Cell) (r : Option Value) (s u : State) : Prop := Got a D fV fC A 0 A.slots.size r s u
/-- new String(chars), not empty, no char above 255: a Latin-1 String of their low bytes -/
theorem law (l : Launch) (a : Addr) (D : Cell) (fV fC : Field) (b : Addr) (A : Cell) (z : Int32) : Law l yN 2 1 3 52 yB 2 none site (P a D fV fC b A z) (E a D fV fC A) [⟨a, fC.slot⟩, ⟨a, fV.slot⟩] 1 A.slots.size := by
  refine Law.of_walk (plainFor_of_name (by decide +kernel)) (by decide +kernel) (by decide +kernel) (by decide) (fun _ _ h => by rw [h.1]; rfl) (fun _ U U' hal hh h => ⟨h.1, h.2.1.mv hal hh, h.2.2.1.al hal, h.2.2.2.1.al hal, h.2.2.2.2.1.mv hal hh, h.2.2.2.2.2.1.there hal hh, h.2.2.2.2.2.2⟩) (fun r U U' V V' h1 hal h2 h => Got.mv r U U' V V' h1 hal h2 h) ?_
  intro p e s m args below meth c s₁ X0 hexec hbytes hml hret hlk hnm hown hh0 W hP
  obtain ⟨rfl, hB, f1, f2, hA, s1, hz, l0, l2, hp⟩ := hP
  have c1 : Steps p.tables e below (s₁.setTop (entryFrame m #[.ref a, .ref b] 2)) (s₁.setTop (mkF m 0 #[.val (.ref a), .val (.ref b)] [])) := entry rfl
  have c2 : Steps p.tables e below (s₁.setTop (entryFrame m #[.ref a, .ref b] 2)) (s₁.setTop (mkF m 6 #[.val (.ref a), .val (.ref b)] [.null, .int (Int32.ofNat A.slots.size), .int 0, .ref b, .ref a])) := c1.trans (by
    refine XS.aloadN X0.here hexec rfl (hb hbytes d0) rfl rfl ?_
    refine XS.aloadN X0.here hexec rfl (hb hbytes d1) rfl rfl ?_
    refine iconstV X0.here hexec rfl 0 (hb hbytes d2) (by decide) ?_
    refine XS.aloadN X0.here hexec rfl (hb hbytes d3) rfl rfl ?_
    refine X0.alen hexec (hA.1.mv X0.warmed.alike hh0) rfl rfl (hb hbytes d4) ?_
    refine XS.aconstNull X0.here hexec rfl (hb hbytes d5) ?_
    exact Steps.refl _)
  obtain ⟨v3, T3, X3, E3, g3⟩ := X0.callN hexec (New4.law l a D fV fC b A z 0 A.slots.size) rfl hown (wks W (initW "java/lang/String" 27 New4.yN)) (W New4.tab (by simp only [site, List.mem_cons, List.mem_append, true_or, or_true])) (W := 0) (Nat.le_of_ble_eq_true rfl) (Nat.le_of_ble_eq_true rfl) (Nat.le_refl _) (by show 0 + A.slots.size ≤ A.slots.size; omega) (g := (mkF m 6 #[.val (.ref a), .val (.ref b)] [.null, .int (Int32.ofNat A.slots.size), .int (Int32.ofNat 0), .ref b, .ref a])) rfl (by rw [hml]; rfl) c2 (argsL := [.ref b, .int (Int32.ofNat 0), .int (Int32.ofNat A.slots.size), .null]) (rest := []) rfl rfl (by show 2 * 0 + 0 ≤ _; decide) (hb hbytes d6) (⟨rfl, hB.mv X0.warmed.alike hh0, f1.al X0.warmed.alike, f2.al X0.warmed.alike, hA.mv X0.warmed.alike hh0, s1.there X0.warmed.alike hh0, hz, l0, by omega, l2, fun i hi => by rw [Nat.zero_add]; exact hp i hi⟩)
  have e0 := Got.mv _ s₁ s _ _ hh0.symm (Vm.Alike.refl _) rfl E3
  obtain rfl := e0.1
  have c4 : Steps p.tables e below (s₁.setTop (entryFrame m #[.ref a, .ref b] 2)) (T3.setTop (mkF m 9 #[.val (.ref a), .val (.ref b)] [])) := g3
  exact ⟨T3, none, _, _, _, X3, by simp, rfl, by omega, (fun _ => rfl), e0, fun fs hl => c4.trans (X3.returnOut hexec hret (hb hbytes d9) hl)⟩
theorem pays {l : Launch} {R : Room} {p : Program} {e : Env} {below : List Frame} {s : State} {sargs : Array Value} {len W : Nat} (a : Addr) (D : Cell) (fV fC : Field) (b : Addr) (A : Cell) (z : Int32) (htab : tab.before sargs s = true) (hfr : 4 ≤ R.frames) (hlo : W + 65 ≤ R.locals) :
    Back l R p e below s sargs yN len W (fun A₁ a₁ => A₁.cells + 1 ≤ R.cells ∧ A₁.slots + A.slots.size ≤ R.slots ∧ P a D fV fC b A z a₁ A₁.U) (fun A₁ _ v₁ B₁ => E a D fV fC A v₁ A₁.U B₁.U ∧ B₁.locs = A₁.locs ++ [⟨a, fC.slot⟩, ⟨a, fV.slot⟩] ∧ B₁.cells = A₁.cells + 1 ∧ B₁.slots = A₁.slots + A.slots.size) :=
  (law l a D fV fC b A z).pays htab hfr (by omega)
end New1
/-- the byte, read back as charAt reads it, is the char -/
theorem lo8_mask {x : Int32} (h0 : ¬ x < 0) (h1 : ¬ 255 < x) : lo8 x &&& 255 = x := by
  have t : ∀ k : Fin 256, lo8 (Int32.ofNat k.val) &&& 255 = Int32.ofNat k.val := by decide +kernel
  rw [Int32.lt_iff_toInt_lt] at h0 h1
  have e0 : (0 : Int32).toInt = 0 := rfl
  have e1 : (255 : Int32).toInt = 255 := rfl
  obtain ⟨k, hk⟩ : ∃ k : Nat, x.toInt = k := ⟨x.toInt.toNat, by omega⟩
  have hx : x = Int32.ofNat k := Int32.toInt_inj.mp (by rw [hk, Int32.toInt_ofNat_small (by omega)])
  rw [hx]
  exact t ⟨k, by omega⟩
end StrChars
namespace StrChars.Road
open Jvm Sem ClassFile Op Lib Jvm.Stand Jvm.Free Jvm.Free.XT
open Jvm.Lib.Cold (StaticIs)
abbrev ST : String := "java/lang/String"
/-- every table word that New1's law asks, flat -/
abbrev words : List Jvm.Cond := [.code New1.yN New1.yB 2 none, .initialized ST, .methodLink ST 27 New4.yN, .instanceMethod New4.yN,
  .code New4.yN New4.yB 6 none, .fieldLink ST 38 ST "COMPACT_STRINGS" "Z", .laysFinal ST ST "value" "[B", .fieldLink ST 9 ST "value" "[B", .laysFinal ST ST "coder" "B", .fieldLink ST 15 ST "coder" "B",
  .methodLink ST 1 Lib.objectInit, .instanceMethod Lib.objectInit, .code Lib.objectInit ⟨#[0xb1]⟩ 1 none, .methodLink ST 177 Cmp3.yN, .static Cmp3.yN, .methodLink ST 47 CodL.yN, .static CodL.yN,
  .code Cmp3.yN Cmp3.yB 6 (some (.array .byte)), .initialized U16, .arrayClass .byte, .methodLink U16 115 Cmp5.yN, .static Cmp5.yN, .code Cmp5.yN Cmp5.yB 7 (some .int), .code CodL.yN CodL.yB 2 (some .byte)]
theorem tab_of {a : Array Value} {s : State} (h : ∀ w ∈ words, w.before a s = true) : New1.tab.before a s = true := by
  have h5 : Cmp5.tab.before a s = true := unparts (wk h (.code Cmp5.yN Cmp5.yB 7 (some .int))) (wks h (.initialized Cmp5.yN.cls :: Cmp5.site))
  have hc : CodL.tab.before a s = true := unparts (wk h (.code CodL.yN CodL.yB 2 (some .byte))) (wks h (.initialized CodL.yN.cls :: CodL.site))
  have q5 : ∀ w ∈ Cmp5.tab :: words, w.before a s = true := fun w hw => (List.mem_cons.mp hw).elim (fun e => e ▸ h5) (h w)
  have h3 : Cmp3.tab.before a s = true := unparts (wk q5 (.code Cmp3.yN Cmp3.yB 6 (some (.array .byte)))) (wks q5 (.initialized Cmp3.yN.cls :: Cmp3.site))
  have q3 : ∀ w ∈ Cmp3.tab :: CodL.tab :: words, w.before a s = true := fun w hw => (List.mem_cons.mp hw).elim (fun e => e ▸ h3) fun hw => (List.mem_cons.mp hw).elim (fun e => e ▸ hc) (h w)
  have h4 : New4.tab.before a s = true := unparts (wk q3 (.code New4.yN New4.yB 6 none)) (wks q3 (.initialized New4.yN.cls :: New4.site))
  have q4 : ∀ w ∈ New4.tab :: words, w.before a s = true := fun w hw => (List.mem_cons.mp hw).elim (fun e => e ▸ h4) (h w)
  exact unparts (wk q4 (.code New1.yN New1.yB 2 none)) (wks q4 (.initialized New1.yN.cls :: New1.site))
/-- the words ride from the start Z to the walk's own state -/
theorem moved {Z s : State} {a0 args : Array Value} (hZ : Z.Warmed39 s.vm) (hw : ∀ d ∈ words, d.before a0 Z = true) : ∀ d ∈ words, d.before args s = true := fun d hd => by
  have q := hw d hd
  have t : ∀ d ∈ words, d = .arrayClass .byte ∨ (d.onTables && d.keepsFace) = true := by decide +kernel
  rcases t d hd with rfl | t
  · exact RoadKit.mvA hZ q
  · exact RoadKit.mv hZ q t
/-- WHAT COMES BACK, over the tables of the start Z: h the heap at the call, h' behind it -/
def Q (Z : State) (x : Addr) (A : Cell) (h : Heap) (v : Option Value) (h' : Heap) (L : List Loc) : Prop := v = none ∧ (∀ y ∈ L, y.base = x) ∧ RoadKit.Keep h h' [x] ∧ h'.size = h.size + 1 ∧ RoadKit.Exa Z h' x ST ∧ RoadKit.Fld Z h' x ST "value" "[B" (.ref h.size) ∧ RoadKit.Fld Z h' x ST "coder" "B" (.int 0) ∧
  (∃ V : Cell, RoadKit.Arr Z h' h.size V .byte ∧ V.vm = .none ∧ Z.vm.findClass "[B" = some V.cls ∧ V.slots.size = A.slots.size ∧ ∀ j, j < A.slots.size → V.slots[j]? = some (.int (lo8 (cv A j)))) ∧
  ∀ (O n d : String) (w : Value), RoadKit.Fld Z h x O n d w → RoadKit.slotOf Z O n d ≠ RoadKit.slotOf Z ST "value" "[B" → RoadKit.slotOf Z O n d ≠ RoadKit.slotOf Z ST "coder" "B" → RoadKit.Fld Z h' x O n d w
/-- **new String(chars) AT A CALL, IN THE ROAD'S FORM**: for specialBack behind newO: x the fresh String, b the char[] with the cell A -/
theorem back {p : Program} {l : Launch} {e : Env} {R : Room} {s : State} {args : Array Value} {below : List Frame} {len W : Nat} {Z : State} {a0 : Array Value} {h : Heap} (hZ : Z.Warmed39 s.vm) (hw : ∀ d ∈ words, d.before a0 Z = true) {kI : Nat} (wi : (Jvm.Cond.instantiable ST kI).before a0 Z = true)
    {x b : Addr} {A : Cell} {z : Int32} {v0 c0 : Value} (E : RoadKit.Exa Z h x ST) (V : RoadKit.Fld Z h x ST "value" "[B" v0) (C : RoadKit.Fld Z h x ST "coder" "B" c0) (K : RoadKit.Arr Z h b A .char) (hty : Typed .char A) (S : RoadKit.Sta Z h ST "COMPACT_STRINGS" "Z" (.int z)) (hz : ¬ z = 0)
    (l0 : 0 < A.slots.size) (l2 : A.slots.size ≤ 536870912) (hp : ∀ i, i < A.slots.size → ¬ 255 < cv A i) (hfr : 4 ≤ R.frames) (hlo : W + 65 ≤ R.locals) :
    Back l R p e below s args New1.yN len W (fun P a => a = #[.ref x, .ref b] ∧ P.U.heap = h ∧ P.cells + 1 ≤ R.cells ∧ P.slots + A.slots.size ≤ R.slots)
      (fun P _ v B => ∃ L, Q Z x A h v B.U.heap L ∧ B.locs = P.locs ++ L ∧ B.cells = P.cells + 1 ∧ B.slots = P.slots + A.slots.size) := by
  intro m meth c P g ig mk a X hg hsize hdg hW hn hp'
  obtain ⟨rfl, rfl, r1, r2⟩ := hp'
  have al : Z.vm.Alike P.U.vm := hZ.alike.trans X.warmed.alike
  obtain ⟨D, cfV, kV, iV, fV, hD, gV, stV, knV, obV, asV, slV⟩ := id V
  obtain ⟨D', cfC, kC, iC, fC, hD', gC, stC, -, -, asC, slC⟩ := id C
  cases hD.symm.trans hD'
  obtain ⟨D2, kD, e1, e2, e3, e4, e5⟩ := id E
  cases hD.symm.trans e1
  obtain ⟨c2, k2, i1, i2, i3, -⟩ := Cond.instantiable_spec wi
  cases e2.symm.trans i1
  cases e3.symm.trans i2
  obtain ⟨kU, u1, u2⟩ := al.2.2 _ _ e3
  have hB : Blank ST x D P.U := ⟨hD, ⟨knV, fun q hq => by rw [hq] at obV; cases obV⟩, by rw [al.findClass]; exact e2, kU, u1, by rw [u2]; exact i3, by rw [u2]; exact e5 i3⟩
  have F1 : Found ST "value" "[B" fV P.U := ⟨SBG.found_only al ⟨cfV, kV, iV, gV⟩, stV⟩
  have F2 : Found ST "coder" "B" fC P.U := ⟨SBG.found_only al ⟨cfC, kC, iC, gC⟩, stC⟩
  have hA : Ch b A P.U := ⟨⟨K.1, State.isArrayOf_alike al K.2.1, K.2.2, by omega⟩, hty⟩
  have hS : StaticIs P.U ST "COMPACT_STRINGS" "Z" (.int z) := by
    obtain ⟨cfS, iS, kS, fS, st, cS, t1, t2, t3, t4, t5, t6, t7⟩ := S
    exact StaticIs.there (s := { Z with heap := P.U.heap }) ⟨cfS, iS, kS, fS, st, cS, t1, t2, t3, t4, t5, (fun q => by rw [q] at t6; cases t6), t7⟩ al rfl
  obtain ⟨v, B, X', ⟨⟨hv, E', V', q1, q2, q3, q4, q5, q6, q7, q8, q9, q10, q11⟩, hl, hc, hs⟩, st⟩ := New1.pays x D fV fC b A z (tab_of (moved hZ hw)) hfr hlo m meth c P g ig mk _ X hg hsize hdg hW hn ⟨r1, r2, rfl, hB, F1, F2, hA, hS, hz, l0, l2, hp⟩
  have al' : Z.vm.Alike B.U.vm := hZ.alike.trans X'.warmed.alike
  have hsz : E'.slots.size = D.slots.size := by
    obtain ⟨-, -, -, kB, w1, w2, w3⟩ := q1
    obtain ⟨kB', y1, y2⟩ := al'.2.2 _ _ e3
    rw [q2.2.1] at w1
    cases w1.symm.trans y1
    rw [w3, e5 i3, y2]
  refine ⟨v, B, X', ⟨_, ⟨hv, ?_, ⟨by omega, fun y cy hy hn' => q10 y cy (by simpa using hn') hy, fun y cy hy => ?_⟩, q11, ⟨E', _, q1.1, by rw [q2.2.1]; exact e2, by rw [q2.2.1]; exact e3, by rw [q2.1]; exact obV, fun _ => by rw [hsz]; exact e5 i3⟩,
    ⟨E', cfV, kV, iV, fV, q1.1, gV, stV, by rw [q2.1]; exact knV, by rw [q2.1]; exact obV, by rw [q2.2.1]; exact asV, q3⟩, ⟨E', cfC, kC, iC, fC, q1.1, gC, stC, by rw [q2.1]; exact knV, by rw [q2.1]; exact obV, by rw [q2.2.1]; exact asC, q4⟩,
    ⟨V', ⟨q5.1, State.isArrayOf_alike al'.symm q5.2.1, q5.2.2.1⟩, q6, by rw [← al'.findClass]; exact q7, q8, fun j hj => by have := q9 j hj; rwa [Nat.zero_add] at this⟩, fun O n d w F n1 n2 => ?_⟩, hl, hc, hs⟩, st⟩
  · intro y hy
    simp only [List.mem_cons, List.not_mem_nil, or_false] at hy
    rcases hy with rfl | rfl <;> rfl
  · by_cases q : y = x
    · subst q
      cases hD.symm.trans hy
      exact ⟨E', q1.1, q2.2.1, q2.1, hsz⟩
    · exact ⟨cy, q10 y cy q hy, rfl, rfl, rfl⟩
  · obtain ⟨D3, cf, k, i, f, g1, g2, g3, g4, g5, g6, g7⟩ := F
    cases hD.symm.trans g1
    simp only [RoadKit.slotOf, g2, gV, gC, Option.map_some, Option.getD_some] at n1 n2
    exact ⟨E', cf, k, i, f, q1.1, g2, g3, by rw [q2.1]; exact g4, by rw [q2.1]; exact g5, by rw [q2.2.1]; exact g6, by rw [q2.2.2 f.slot (by simp [n1, n2])]; exact g7⟩
end StrChars.Road
namespace StrChars.Road
open Jvm Sem ClassFile Op Lib Jvm.Stand Jvm.Free Jvm.Free.XT
/-- WHAT COMES BACK, the byte[] as a list of values -/
def QA (Z : State) (x : Addr) (zn : Int32) (cs : List Int32) (h : Heap) (v : Option Value) (h' : Heap) (L : List Loc) : Prop := v = none ∧ (∀ y ∈ L, y.base = x) ∧ RoadKit.Keep h h' [x] ∧ h'.size = h.size + 1 ∧ RoadKit.Exa Z h' x ST ∧ RoadKit.Fld Z h' x ST "value" "[B" (.ref h.size) ∧ RoadKit.Fld Z h' x ST "coder" "B" (.int 0) ∧
  (∃ kb, Z.vm.findClass "[B" = some kb ∧ RoadKit.Arv Z h' h.size kb .byte zn (cs.map fun c => .int (lo8 c)) (.int 0)) ∧
  ∀ (O n d : String) (w : Value), RoadKit.Fld Z h x O n d w → RoadKit.slotOf Z O n d ≠ RoadKit.slotOf Z ST "value" "[B" → RoadKit.slotOf Z O n d ≠ RoadKit.slotOf Z ST "coder" "B" → RoadKit.Fld Z h' x O n d w
/-- **new String(chars) AT A CALL, THE ARRAYS AS LISTS**: the char[] at b holds cs, not empty, no char above 255 -/
theorem backArv {p : Program} {l : Launch} {e : Env} {R : Room} {s : State} {args : Array Value} {below : List Frame} {len W : Nat} {Z : State} {a0 : Array Value} {h : Heap} (hZ : Z.Warmed39 s.vm) (hw : ∀ d ∈ words, d.before a0 Z = true) {kI : Nat} (wi : (Jvm.Cond.instantiable ST kI).before a0 Z = true)
    {x b : Addr} {k : ClassId} {zn z : Int32} {cs : List Int32} {dv v0 c0 : Value} (E : RoadKit.Exa Z h x ST) (V : RoadKit.Fld Z h x ST "value" "[B" v0) (C : RoadKit.Fld Z h x ST "coder" "B" c0) (K : RoadKit.Arv Z h b k .char zn (cs.map Value.int) dv) (S : RoadKit.Sta Z h ST "COMPACT_STRINGS" "Z" (.int z)) (hz : ¬ z = 0)
    (hlen : zn.toNatClampNeg = cs.length) (h0 : 0 < cs.length) (hbig : cs.length ≤ 536870912) (hall : ∀ c ∈ cs, ¬ 255 < c) (hfr : 4 ≤ R.frames) (hlo : W + 65 ≤ R.locals) :
    Back l R p e below s args New1.yN len W (fun P a => a = #[.ref x, .ref b] ∧ P.U.heap = h ∧ P.cells + 1 ≤ R.cells ∧ P.slots + cs.length ≤ R.slots)
      (fun P _ v B => ∃ L, QA Z x zn cs h v B.U.heap L ∧ B.locs = P.locs ++ L ∧ B.cells = P.cells + 1 ∧ B.slots = P.slots + cs.length) := by
  obtain ⟨A, K1, K2, K3, K4, K5, K6⟩ := K
  have e : A.slots.size = cs.length := K3.trans hlen
  have hat : ∀ (i : Nat) (hi : i < cs.length), A.slots[i]? = some (.int cs[i]) := fun i hi => by rw [K5 i (by omega)]; simp [List.getD_eq_getElem?_getD, hi]
  have hcv : ∀ (i : Nat) (hi : i < cs.length), cv A i = cs[i] := fun i hi => by unfold cv; rw [hat i hi]
  have hty : Typed .char A := fun i v hv => by
    have hi : i < A.slots.size := (Array.getElem?_eq_some_iff.mp hv).1
    have q := K5 i hi
    rw [hv] at q
    rw [Option.some.inj q]
    exact K6 i hi
  refine Back.mono (back hZ hw wi E V C K1 hty S hz (by omega) (by omega) (fun i hi => by rw [hcv i (by omega)]; exact hall _ (List.getElem_mem _)) hfr hlo) (fun P a hp => ⟨hp.1, hp.2.1, hp.2.2.1, by rw [e]; exact hp.2.2.2⟩) (fun P a v B hp hq => ?_)
  obtain ⟨L, ⟨q1, q2, q3, q4, q5, q6, q7, ⟨V', v1, v2, v3, v4, v5⟩, q9⟩, hl, hc, hs⟩ := hq
  refine ⟨L, ⟨q1, q2, q3, q4, q5, q6, q7, ⟨V'.cls, v3, V', v1, rfl, by rw [v4, e, hlen], K4, fun i hi => ?_, fun i hi => ?_⟩, q9⟩, hl, hc, by rw [hs, e]⟩
  · have hi' : i < cs.length := by omega
    rw [v5 i (by omega), hcv i hi']; simp [List.getD_eq_getElem?_getD, hi']
  · have hi' : i < cs.length := by omega
    simp only [List.getD_eq_getElem?_getD, List.getElem?_map, List.getElem?_eq_getElem hi', Option.map_some, Option.getD_some]
    exact fits_lo8 _
end StrChars.Road
namespace StrChars.Road
open Jvm Sem ClassFile Op Lib Jvm.Stand Jvm.Free Jvm.Free.XT
/-- WHAT COMES BACK, in the writer's own shape -/
def QV (Z : State) (x : Addr) (N : Int32) (bs : List Int32) (h : Heap) (n0 : Nat) (v : Option Value) (h' : Heap) (L : List Loc) : Prop := v = none ∧ RoadKit.Fr n0 L ∧ RoadKit.Keep h h' [x] ∧ RoadKit.Exa Z h' x ST ∧ RoadKit.Fld Z h' x ST "coder" "B" (.int 0) ∧
  ∃ (t : Addr) (kb : ClassId), n0 ≤ t ∧ h.size ≤ t ∧ ¬ t = x ∧ RoadKit.Fld Z h' x ST "value" "[B" (.ref t) ∧ RoadKit.Arv Z h' t kb .byte N (bs.map Value.int) (.int 0)
/-- **new String(chars) AT A CALL, FOR THE WRITER**: a char[] of n known ints, each 0 to 255 -/
theorem backV {p : Program} {l : Launch} {e : Env} {R : Room} {s : State} {args : Array Value} {below : List Frame} {len W : Nat} {Z : State} {a0 : Array Value} {h : Heap} (hZ : Z.Warmed39 s.vm) (hw : ∀ d ∈ words, d.before a0 Z = true) {kI : Nat} (wi : (Jvm.Cond.instantiable ST kI).before a0 Z = true)
    {x b : Addr} {kC : ClassId} {cs bs : List Int32} {d v0 c0 : Value} {z N : Int32} {n n0 : Nat} (hx0 : n0 ≤ x) (hh0 : n0 ≤ h.size) (E : RoadKit.Exa Z h x ST) (V : RoadKit.Fld Z h x ST "value" "[B" v0) (C : RoadKit.Fld Z h x ST "coder" "B" c0) (K : RoadKit.Arv Z h b kC .char N (cs.map Value.int) d) (S : RoadKit.Sta Z h ST "COMPACT_STRINGS" "Z" (.int z)) (hz : ¬ z = 0)
    (hn : cs.length = n) (hN : N = Int32.ofNat n) (l0 : 0 < n) (l2 : n ≤ 4000) (hp : ∀ c ∈ cs, ¬ c < 0 ∧ ¬ (255 : Int32) < c) (hb : bs = cs.map (fun c => c.toInt8.toInt32)) (hfr : 4 ≤ R.frames) (hlo : W + 65 ≤ R.locals) :
    Back l R p e below s args (⟨"java/lang/String", "<init>", "([C)V"⟩ : MethodName) len W (fun P a => a = #[.ref x, .ref b] ∧ P.U.heap = h ∧ P.cells + 1 ≤ R.cells ∧ P.slots + n ≤ R.slots)
      (fun P _ v B => ∃ L, QV Z x N bs h n0 v B.U.heap L ∧ B.locs = P.locs ++ L ∧ B.cells = P.cells + 1 ∧ B.slots = P.slots + n) := by
  subst hn hN hb
  refine Back.mono (backArv hZ hw wi E V C K S hz (n32 (by omega)) l0 (by omega) (fun c hc => (hp c hc).2) hfr hlo) (fun P a hp => hp) (fun P a v B hp hq => ?_)
  obtain ⟨L, ⟨q1, q2, q3, q4, q5, q6, q7, ⟨kb, v1, v2⟩, q9⟩, hl, hc, hs⟩ := hq
  exact ⟨L, ⟨q1, fun y hy => by rw [q2 y hy]; exact hx0, q3, q5, q7, h.size, kb, hh0, Nat.le_refl _, Nat.ne_of_gt E.lt, q6, by rw [List.map_map]; exact v2⟩, hl, hc, hs⟩
end StrChars.Road
namespace StrChars
open Jvm Sem ClassFile Op Lib Jvm.Stand Jvm.Free.XT Jvm.Free.ALB Jvm.Free.JM Jvm.Free
open Jvm.Lib.Cold (StaticIs)
def hi8 (x : Int32) : Int32 := lo8 (x >>> ((8 : Int32) &&& 31))
/-- what StringUTF16.getChar makes of two bytes -/
def pairCh (u v : Int32) : Int32 := (((u &&& 255) <<< ((0 : Int32) &&& 31)) ||| ((v &&& 255) <<< ((8 : Int32) &&& 31))).toUInt32.toUInt16.toUInt32.toInt32
theorem shr0 (c : Int32) : c >>> ((0 : Int32) &&& 31) = c := by
  have e : ((0 : Int32) &&& 31) = 0 := by decide
  rw [e]
  apply Int32.toBitVec_inj.mp
  rw [Int32.toBitVec_shiftRight]
  have e1 : ((0 : Int32).toBitVec.smod 32) = 0#32 := by decide
  rw [e1, BitVec.sshiftRight_eq']
  exact BitVec.sshiftRight_zero
theorem lo8_and (x : Int32) : (lo8 x &&& 255).toBitVec.toNat = x.toBitVec.toNat % 256 := by
  have h : (lo8 x).toBitVec = (x.toBitVec.signExtend 8).signExtend 32 := by rw [lo8, Int8.toBitVec_toInt32, Int32.toBitVec_toInt8]
  rw [Int32.toBitVec_and, BitVec.toNat_and, h]
  have e : ((x.toBitVec.signExtend 8).signExtend 32).toNat % 256 = x.toBitVec.toNat % 256 := by
    rw [BitVec.toNat_signExtend]
    have hlt := x.toBitVec.isLt
    simp only [BitVec.toNat_setWidth, BitVec.toNat_signExtend]
    split <;> split <;> omega
  rw [← e]
  exact Nat.and_two_pow_sub_one_eq_mod _ 8
theorem pair_says {c : Int32} (h0 : ¬ c < 0) (h1 : ¬ 65535 < c) : pairCh (lo8 c) (hi8 c) = c := by
  rw [Int32.lt_iff_toInt_lt] at h0 h1
  have e0 : (0 : Int32).toInt = 0 := rfl
  have e1 : (65535 : Int32).toInt = 65535 := rfl
  have hc : c.toInt = c.toBitVec.toNat := by
    have := c.toBitVec.isLt
    have e : c.toInt = c.toBitVec.toInt := rfl
    rw [e] at h0 h1
    rw [e]
    rw [BitVec.toInt_eq_toNat_cond] at h0 h1 ⊢
    split at h0 <;> split <;> omega
  have hn : c.toBitVec.toNat < 65536 := by omega
  have a1 := lo8_and c
  have a2 : (hi8 c &&& 255).toBitVec.toNat = c.toBitVec.toNat / 256 := by
    rw [hi8, lo8_and]
    have e : ((8 : Int32) &&& 31) = 8 := by decide
    rw [e, Int32.toBitVec_shiftRight]
    have e2 : ((8 : Int32).toBitVec.smod 32) = 8#32 := by decide
    rw [e2, BitVec.sshiftRight_eq', BitVec.toNat_sshiftRight_of_msb_false (by rw [BitVec.msb_eq_false_iff_two_mul_lt]; omega)]
    show c.toBitVec.toNat >>> 8 % 256 = _
    rw [Nat.shiftRight_eq_div_pow]
    omega
  unfold pairCh
  apply Int32.toBitVec_inj.mp
  apply BitVec.eq_of_toNat_eq
  have f0 : ((0 : Int32) &&& 31) = 0 := by decide
  have f8 : ((8 : Int32) &&& 31) = 8 := by decide
  rw [f0, f8]
  have g : (((lo8 c &&& 255) <<< (0 : Int32)) ||| ((hi8 c &&& 255) <<< (8 : Int32))).toBitVec.toNat = c.toBitVec.toNat := by
    rw [Int32.toBitVec_or, Int32.toBitVec_shiftLeft, Int32.toBitVec_shiftLeft]
    have s0 : ((0 : Int32).toBitVec.smod 32) = 0#32 := by decide
    have s8 : ((8 : Int32).toBitVec.smod 32) = 8#32 := by decide
    rw [s0, s8, BitVec.toNat_or]
    simp only [BitVec.shiftLeft_eq', BitVec.toNat_shiftLeft, a1, a2]
    show (c.toBitVec.toNat % 256) <<< 0 % 2 ^ 32 ||| (c.toBitVec.toNat / 256) <<< 8 % 2 ^ 32 = _
    rw [Nat.shiftLeft_zero, Nat.mod_eq_of_lt (show c.toBitVec.toNat % 256 < 2 ^ 32 by omega), Nat.mod_eq_of_lt (show (c.toBitVec.toNat / 256) <<< 8 < 2 ^ 32 by rw [Nat.shiftLeft_eq]; omega), Nat.or_comm, ← Nat.shiftLeft_add_eq_or_of_lt (by omega), Nat.shiftLeft_eq]
    omega
  show BitVec.toNat (((((lo8 c &&& 255) <<< (0 : Int32)) ||| ((hi8 c &&& 255) <<< (8 : Int32))).toBitVec.setWidth 16).setWidth 32) = _
  rw [BitVec.toNat_setWidth, BitVec.toNat_setWidth, g]
  omega
end StrChars
namespace StrChars
open Jvm Sem ClassFile Op Lib Jvm.Stand Jvm.Free.XT Jvm.Free.ALB Jvm.Free.JM Jvm.Free
open Jvm.Lib.Cold (StaticIs)
theorem shr1 {n : Nat} (h : 2 * n < 2 ^ 31) : Int32.ofNat (2 * n) >>> ((1 : Int32) &&& 31) = Int32.ofNat n := by
  have e : ((1 : Int32) &&& 31) = 1 := by decide
  rw [e]
  apply Int32.toBitVec_inj.mp
  rw [Int32.toBitVec_shiftRight]
  have e1 : ((1 : Int32).toBitVec.smod 32) = 1#32 := by decide
  have hm : (BitVec.ofNat 32 (2 * n)).toNat = 2 * n := by rw [BitVec.toNat_ofNat, Nat.mod_eq_of_lt (by omega)]
  rw [e1, BitVec.sshiftRight_eq']
  apply BitVec.eq_of_toNat_eq
  show ((BitVec.ofNat 32 (2 * n)).sshiftRight 1).toNat = (BitVec.ofNat 32 n).toNat
  rw [BitVec.toNat_sshiftRight_of_msb_false (by rw [BitVec.msb_eq_false_iff_two_mul_lt, hm]; omega), hm, BitVec.toNat_ofNat, Nat.shiftRight_eq_div_pow]
  omega
/-- charAt's cast of a byte read back -/
def chr8 (u : Int32) : Int32 := (u &&& 255).toUInt32.toUInt16.toUInt32.toInt32
theorem chr8_lo8 {c : Int32} (h0 : ¬ c < 0) (h1 : ¬ 255 < c) : chr8 (lo8 c) = c := by
  have t : ∀ k : Fin 256, (Int32.ofNat k.val).toUInt32.toUInt16.toUInt32.toInt32 = Int32.ofNat k.val := by decide +kernel
  unfold chr8
  rw [lo8_mask h0 h1]
  rw [Int32.lt_iff_toInt_lt] at h0 h1
  have e0 : (0 : Int32).toInt = 0 := rfl
  have e1 : (255 : Int32).toInt = 255 := rfl
  obtain ⟨k, hk⟩ : ∃ k : Nat, c.toInt = k := ⟨c.toInt.toNat, by omega⟩
  have hx : c = Int32.ofNat k := Int32.toInt_inj.mp (by rw [hk, Int32.toInt_ofNat_small (by omega)])
  rw [hx]
  exact t ⟨k, by omega⟩
theorem narrow_ch {c : Int32} (h0 : ¬ c < 0) (h1 : ¬ 65535 < c) : narrow .char (.int c) = .int c := by
  have q : narrow .char (.int (pairCh (lo8 c) (hi8 c))) = .int (pairCh (lo8 c) (hi8 c)) := narrow_c _
  rwa [pair_says h0 h1] at q
/-- the array's cell V codes the n chars f 0 .. f (n - 1) by the coder cd, as the JDK does: coder 1 just where some char is above 255 -/
def Cod (cd : Int32) (n : Nat) (f : Nat → Int32) (V : Cell) : Prop := (cd = 0 ∧ V.slots.size = n ∧ ∀ j, j < n → V.slots[j]? = some (.int (lo8 (f j))) ∧ ¬ 255 < f j) ∨ (cd = 1 ∧ V.slots.size = 2 * n ∧ (∀ j, j < n → V.slots[2 * j]? = some (.int (lo8 (f j))) ∧ V.slots[2 * j + 1]? = some (.int (hi8 (f j)))) ∧ ∃ j, j < n ∧ 255 < f j)
theorem Cod.cd {cd : Int32} {n : Nat} {f : Nat → Int32} {V : Cell} (h : Cod cd n f V) : cd = 0 ∨ cd = 1 := h.imp (fun q => q.1) fun q => q.1
theorem Cod.len {cd : Int32} {n : Nat} {f : Nat → Int32} {V : Cell} (h : Cod cd n f V) (hs : V.slots.size < 2 ^ 31) : Int32.ofNat V.slots.size >>> (cd &&& 31) = Int32.ofNat n := by
  rcases h with ⟨rfl, h, -⟩ | ⟨rfl, h, -⟩
  · rw [shr0, h]
  · rw [h, shr1 (by omega)]
/-- **x is a String of the n chars f 0 .. f (n - 1)**, Latin-1 or UTF-16; its array at t has the cell V -/
def Txt (x t : Addr) (V : Cell) (cd : Int32) (n : Nat) (f : Nat → Int32) (U : State) : Prop := Exact "java/lang/String" x U ∧ Has x "java/lang/String" "value" "[B" (.ref t) U ∧ Has x "java/lang/String" "coder" "B" (.int cd) U ∧ XT.Arr .byte t V U ∧ Cod cd n f V ∧ ∀ j, j < n → ¬ f j < 0 ∧ ¬ 65535 < f j
theorem Txt.mv {x t : Addr} {V : Cell} {cd : Int32} {n : Nat} {f : Nat → Int32} {U U' : State} (h : Txt x t V cd n f U) (hal : U.vm.Alike U'.vm) (hh : U'.heap = U.heap) : Txt x t V cd n f U' := ⟨h.1.mv hal hh, h.2.1.mv hal hh, h.2.2.1.mv hal hh, h.2.2.2.1.mv hal hh, h.2.2.2.2⟩
namespace Cdr
def yN : MethodName := ⟨"java/lang/String", "coder", "()B"⟩
abbrev yB : ByteArray := jdk_42_method_152_code
theorem d0 : decode yB 0 = .ok (.getstatic 38, 3) := by decide +kernel
theorem d3 : decode yB 3 = .ok (.ifCond (.eq) 10, 3) := by decide +kernel
theorem d6 : decode yB 6 = .ok (.aload_n 0, 1) := by decide +kernel
theorem d7 : decode yB 7 = .ok (.getfield 15, 3) := by decide +kernel
theorem d10 : decode yB 10 = .ok (.goto 4, 3) := by decide +kernel
theorem d14 : decode yB 14 = .ok (.ireturn, 1) := by decide +kernel
def site : List Cond := [.fieldLink "java/lang/String" 38 "java/lang/String" "COMPACT_STRINGS" "Z", .fieldLink "java/lang/String" 15 "java/lang/String" "coder" "B"]
def tab : Cond := tabOf yN yB 1 (some .byte) site
def P (x : Addr) (cd z : Int32) (args : Array Value) (s : State) : Prop := args = #[.ref x] ∧ Has x "java/lang/String" "coder" "B" (.int cd) s ∧ (cd = 0 ∨ cd = 1) ∧ StaticIs s "java/lang/String" "COMPACT_STRINGS" "Z" (.int z) ∧ ¬ z = 0
def E (cd : Int32) (r : Option Value) (s u : State) : Prop := XT.PureE (some (.int cd)) r s u
theorem law (l : Launch) (x : Addr) (cd z : Int32) : Law l yN 1 0 0 0 yB 1 (some .byte) site (P x cd z) (E cd) [] 0 0 := by
  refine Law.of_walk (plainFor_of_name (by decide +kernel)) (by decide +kernel) (by decide +kernel) (by decide) (fun _ _ h => by rw [h.1]; rfl) (fun _ U U' hal hh h => ⟨h.1, h.2.1.mv hal hh, h.2.2.1, h.2.2.2.1.there hal hh, h.2.2.2.2⟩) (fun r U U' V V' h1 hal h2 h => XT.PureE.mv r U U' V V' h1 hal h2 h) ?_
  intro p e s m args below meth c s₁ X0 hexec hbytes hml hret hlk hnm hown hh0 W hP
  obtain ⟨rfl, hx, hc, s1, hz⟩ := hP
  have c1 : Steps p.tables e below (s₁.setTop (entryFrame m #[.ref x] 1)) (s₁.setTop (mkF m 0 #[.val (.ref x)] [])) := entry rfl
  obtain ⟨T2, X2, q2, st2⟩ := X0.sget hexec hown (wk W (.fieldLink "java/lang/String" 38 "java/lang/String" "COMPACT_STRINGS" "Z")) s1 (fun _ _ h => by rw [hh0]; exact h) (g := (mkF m 0 #[.val (.ref x)] [])) rfl (hb hbytes d0)
  have hh2 := q2.trans hh0
  have c3 : Steps p.tables e below (s₁.setTop (entryFrame m #[.ref x] 1)) (T2.setTop (mkF m 7 #[.val (.ref x)] [.ref x])) := (c1.trans (st2 _ (Steps.refl _))).trans (by
    refine XS.ifNo X2.here hexec rfl (hb hbytes d3) rfl (i0_eq_f hz) ?_
    refine XS.aloadN X2.here hexec rfl (hb hbytes d6) rfl rfl ?_
    exact Steps.refl _)
  obtain ⟨T4, X4, q4, st4⟩ := X2.hget hexec hown (wk W (.fieldLink "java/lang/String" 15 "java/lang/String" "coder" "B")) (hx.mv X2.warmed.alike hh2) (g := (mkF m 7 #[.val (.ref x)] [.ref x])) rfl (rest := []) rfl (hb hbytes d7)
  have c5 : Steps p.tables e below (s₁.setTop (entryFrame m #[.ref x] 1)) (T4.setTop (mkF m 14 #[.val (.ref x)] [.int cd])) := (c3.trans (st4 _ (Steps.refl _))).trans (by
    refine XS.goto X4.here hexec rfl (pc0 := 10) rfl (hb hbytes d10) (by decide) rfl ?_
    exact Steps.refl _)
  exact ⟨T4, some (.int cd), _, _, _, X4, rfl, rfl, rfl, (fun h => by cases h), ⟨rfl, q4.trans hh2⟩, fun fs hl => c5.trans (X4.ireturnOut hexec hret (by rcases hc with rfl | rfl <;> rfl) (Or.inr (Or.inr (Or.inl rfl))) (hb hbytes d14) hl)⟩
end Cdr
namespace Len
def yN : MethodName := ⟨"java/lang/String", "length", "()I"⟩
abbrev yB : ByteArray := jdk_42_method_54_code
theorem d0 : decode yB 0 = .ok (.aload_n 0, 1) := by decide +kernel
theorem d1 : decode yB 1 = .ok (.getfield 9, 3) := by decide +kernel
theorem d4 : decode yB 4 = .ok (.arraylength, 1) := by decide +kernel
theorem d5 : decode yB 5 = .ok (.aload_n 0, 1) := by decide +kernel
theorem d6 : decode yB 6 = .ok (.invokevirtual 335, 3) := by decide +kernel
theorem d9 : decode yB 9 = .ok (.ishr, 1) := by decide +kernel
theorem d10 : decode yB 10 = .ok (.ireturn, 1) := by decide +kernel
def site : List Cond := [.fieldLink "java/lang/String" 9 "java/lang/String" "value" "[B", Cdr.tab] ++ virtW "java/lang/String" 335 "java/lang/String" Cdr.yN Cdr.yN
def tab : Cond := tabOf yN yB 1 (some .int) site
def P (x t : Addr) (V : Cell) (cd : Int32) (n : Nat) (f : Nat → Int32) (z : Int32) (args : Array Value) (s : State) : Prop := args = #[.ref x] ∧ Txt x t V cd n f s ∧ StaticIs s "java/lang/String" "COMPACT_STRINGS" "Z" (.int z) ∧ ¬ z = 0
def E (n : Nat) (r : Option Value) (s u : State) : Prop := XT.PureE (some (.int (Int32.ofNat n))) r s u
/-- length() of a String of n chars, in either coding -/
theorem law (l : Launch) (x t : Addr) (V : Cell) (cd : Int32) (n : Nat) (f : Nat → Int32) (z : Int32) : Law l yN 1 0 1 13 yB 1 (some .int) site (P x t V cd n f z) (E n) [] 0 0 := by
  refine Law.of_walk (plainFor_of_name (by decide +kernel)) (by decide +kernel) (by decide +kernel) (by decide) (fun _ _ h => by rw [h.1]; rfl) (fun _ U U' hal hh h => ⟨h.1, h.2.1.mv hal hh, h.2.2.1.there hal hh, h.2.2.2⟩) (fun r U U' V V' h1 hal h2 h => XT.PureE.mv r U U' V V' h1 hal h2 h) ?_
  intro p e s m args below meth c s₁ X0 hexec hbytes hml hret hlk hnm hown hh0 W hP
  obtain ⟨rfl, hx, s1, hz⟩ := hP
  have v31 := hx.2.2.2.1.2.2.2
  have c1 : Steps p.tables e below (s₁.setTop (entryFrame m #[.ref x] 1)) (s₁.setTop (mkF m 1 #[.val (.ref x)] [.ref x])) := Steps.trans (entry rfl) (by
    show Steps p.tables e below (s₁.setTop (mkF m 0 #[.val (.ref x)] [])) _
    refine XS.aloadN X0.here hexec rfl (hb hbytes d0) rfl rfl ?_
    exact Steps.refl _)
  obtain ⟨T2, X2, q2, st2⟩ := X0.hget hexec hown (wk W (.fieldLink "java/lang/String" 9 "java/lang/String" "value" "[B")) (hx.mv X0.warmed.alike hh0).2.1 (g := (mkF m 1 #[.val (.ref x)] [.ref x])) rfl (rest := []) rfl (hb hbytes d1)
  have hh2 := q2.trans hh0
  have hx2 := hx.mv X2.warmed.alike hh2
  have c3 : Steps p.tables e below (s₁.setTop (entryFrame m #[.ref x] 1)) (T2.setTop (mkF m 6 #[.val (.ref x)] [.ref x, .int (Int32.ofNat V.slots.size)])) := (c1.trans (st2 _ (Steps.refl _))).trans (by
    refine X2.alen hexec hx2.2.2.2.1 rfl rfl (hb hbytes d4) ?_
    refine XS.aloadN X2.here hexec rfl (hb hbytes d5) rfl rfl ?_
    exact Steps.refl _)
  obtain ⟨v4, T4, X4, E4, g4⟩ := X2.callV hexec (Cdr.law l x cd z) hown (wks W (virtW "java/lang/String" 335 "java/lang/String" Cdr.yN Cdr.yN)) rfl (by decide) (wk W Cdr.tab) (W := 1) (Nat.le_of_ble_eq_true rfl) (Nat.le_of_ble_eq_true rfl) (Nat.le_refl _) (Nat.le_refl _) (hx2.1.fc X2.warmed.alike) hx2.1.is (g := (mkF m 6 #[.val (.ref x)] [.ref x, .int (Int32.ofNat V.slots.size)])) rfl (by rw [hml]; rfl) c3 (argsL := []) (rest := [.int (Int32.ofNat V.slots.size)]) rfl rfl (by show 2 * 0 + (1 + 0) ≤ _; decide) (hb hbytes d6) (⟨rfl, hx2.2.2.1, hx.2.2.2.2.1.cd, s1.there X2.warmed.alike hh2, hz⟩)
  obtain ⟨rfl, q4⟩ := E4
  have c5 : Steps p.tables e below (s₁.setTop (entryFrame m #[.ref x] 1)) (T4.setTop (mkF m 10 #[.val (.ref x)] [.int (Int32.ofNat V.slots.size >>> (cd &&& 31))])) := Steps.trans g4 (by
    refine ishr X4.here hexec rfl (hb hbytes d9) rfl ?_
    exact Steps.refl _)
  rw [hx.2.2.2.2.1.len v31] at c5
  exact ⟨T4, some (.int (Int32.ofNat n)), _, _, _, X4, rfl, rfl, rfl, (fun h => by cases h), ⟨rfl, q4.trans hh2⟩, fun fs hl => c5.trans (X4.ireturnOut hexec hret rfl (Or.inl rfl) (hb hbytes d10) hl)⟩
theorem pays {l : Launch} {R : Room} {p : Program} {e : Env} {below : List Frame} {s : State} {sargs : Array Value} {len W : Nat} (x t : Addr) (V : Cell) (cd : Int32) (n : Nat) (f : Nat → Int32) (z : Int32) (htab : tab.before sargs s = true) (hfr : 2 ≤ R.frames) (hlo : W + 25 ≤ R.locals) :
    Back l R p e below s sargs yN len W (fun A₁ a₁ => A₁.cells + 0 ≤ R.cells ∧ A₁.slots + 0 ≤ R.slots ∧ P x t V cd n f z a₁ A₁.U) (fun A₁ _ v₁ B₁ => E n v₁ A₁.U B₁.U ∧ B₁.locs = A₁.locs ++ [] ∧ B₁.cells = A₁.cells + 0 ∧ B₁.slots = A₁.slots + 0) :=
  (law l x t V cd n f z).pays htab hfr (by omega)
end Len
namespace IsL
def yN : MethodName := ⟨"java/lang/String", "isLatin1", "()Z"⟩
abbrev yB : ByteArray := jdk_42_method_154_code
theorem d0 : decode yB 0 = .ok (.getstatic 38, 3) := by decide +kernel
theorem d3 : decode yB 3 = .ok (.ifCond (.eq) 14, 3) := by decide +kernel
theorem d6 : decode yB 6 = .ok (.aload_n 0, 1) := by decide +kernel
theorem d7 : decode yB 7 = .ok (.getfield 15, 3) := by decide +kernel
theorem d10 : decode yB 10 = .ok (.ifCond (.ne) 7, 3) := by decide +kernel
theorem d13 : decode yB 13 = .ok (.iconst 1, 1) := by decide +kernel
theorem d14 : decode yB 14 = .ok (.goto 4, 3) := by decide +kernel
theorem d17 : decode yB 17 = .ok (.iconst 0, 1) := by decide +kernel
theorem d18 : decode yB 18 = .ok (.ireturn, 1) := by decide +kernel
def site : List Cond := [.fieldLink "java/lang/String" 38 "java/lang/String" "COMPACT_STRINGS" "Z", .fieldLink "java/lang/String" 15 "java/lang/String" "coder" "B"]
def tab : Cond := tabOf yN yB 1 (some .boolean) site
def P (x : Addr) (cd z : Int32) (args : Array Value) (s : State) : Prop := args = #[.ref x] ∧ Has x "java/lang/String" "coder" "B" (.int cd) s ∧ (cd = 0 ∨ cd = 1) ∧ StaticIs s "java/lang/String" "COMPACT_STRINGS" "Z" (.int z) ∧ ¬ z = 0
def E (cd : Int32) (r : Option Value) (s u : State) : Prop := XT.PureE (some (.int (1 - cd))) r s u
theorem law (l : Launch) (x : Addr) (cd z : Int32) : Law l yN 1 0 0 0 yB 1 (some .boolean) site (P x cd z) (E cd) [] 0 0 := by
  refine Law.of_walk (plainFor_of_name (by decide +kernel)) (by decide +kernel) (by decide +kernel) (by decide) (fun _ _ h => by rw [h.1]; rfl) (fun _ U U' hal hh h => ⟨h.1, h.2.1.mv hal hh, h.2.2.1, h.2.2.2.1.there hal hh, h.2.2.2.2⟩) (fun r U U' V V' h1 hal h2 h => XT.PureE.mv r U U' V V' h1 hal h2 h) ?_
  intro p e s m args below meth c s₁ X0 hexec hbytes hml hret hlk hnm hown hh0 W hP
  obtain ⟨rfl, hx, hc, s1, hz⟩ := hP
  have c1 : Steps p.tables e below (s₁.setTop (entryFrame m #[.ref x] 1)) (s₁.setTop (mkF m 0 #[.val (.ref x)] [])) := entry rfl
  obtain ⟨T2, X2, q2, st2⟩ := X0.sget hexec hown (wk W (.fieldLink "java/lang/String" 38 "java/lang/String" "COMPACT_STRINGS" "Z")) s1 (fun _ _ h => by rw [hh0]; exact h) (g := (mkF m 0 #[.val (.ref x)] [])) rfl (hb hbytes d0)
  have hh2 := q2.trans hh0
  have c3 : Steps p.tables e below (s₁.setTop (entryFrame m #[.ref x] 1)) (T2.setTop (mkF m 7 #[.val (.ref x)] [.ref x])) := (c1.trans (st2 _ (Steps.refl _))).trans (by
    refine XS.ifNo X2.here hexec rfl (hb hbytes d3) rfl (i0_eq_f hz) ?_
    refine XS.aloadN X2.here hexec rfl (hb hbytes d6) rfl rfl ?_
    exact Steps.refl _)
  obtain ⟨T4, X4, q4, st4⟩ := X2.hget hexec hown (wk W (.fieldLink "java/lang/String" 15 "java/lang/String" "coder" "B")) (hx.mv X2.warmed.alike hh2) (g := (mkF m 7 #[.val (.ref x)] [.ref x])) rfl (rest := []) rfl (hb hbytes d7)
  have c5 : Steps p.tables e below (s₁.setTop (entryFrame m #[.ref x] 1)) (T4.setTop (mkF m 10 #[.val (.ref x)] [.int cd])) := c3.trans (st4 _ (Steps.refl _))
  have c6 : Steps p.tables e below (s₁.setTop (entryFrame m #[.ref x] 1)) (T4.setTop (mkF m 18 #[.val (.ref x)] [.int (1 - cd)])) := by
    rcases hc with rfl | rfl
    · exact c5.trans (by
        refine XS.ifNo X4.here hexec rfl (hb hbytes d10) rfl (i0_ne_f rfl) ?_
        refine iconstV X4.here hexec rfl 1 (hb hbytes d13) (by decide) ?_
        refine XS.goto X4.here hexec rfl (pc0 := 14) rfl (hb hbytes d14) (by decide) rfl ?_
        exact Steps.refl _)
    · exact c5.trans (by
        refine XS.ifYes X4.here hexec rfl (pc0 := 10) rfl (hb hbytes d10) rfl (i0_ne_t (by decide)) (by decide) rfl ?_
        refine iconstV X4.here hexec rfl 0 (hb hbytes d17) (by decide) ?_
        exact Steps.refl _)
  exact ⟨T4, some (.int (1 - cd)), _, _, _, X4, rfl, rfl, rfl, (fun h => by cases h), ⟨rfl, q4.trans hh2⟩, fun fs hl => c6.trans (X4.ireturnOut hexec hret (by rcases hc with rfl | rfl <;> rfl) (Or.inr (Or.inl rfl)) (hb hbytes d18) hl)⟩
end IsL
namespace LChA
def yN : MethodName := ⟨"java/lang/StringLatin1", "charAt", "([BI)C"⟩
abbrev yB : ByteArray := jdk_43_method_2_code
theorem d0 : decode yB 0 = .ok (.iload_n 1, 1) := by decide +kernel
theorem d1 : decode yB 1 = .ok (.aload_n 0, 1) := by decide +kernel
theorem d2 : decode yB 2 = .ok (.arraylength, 1) := by decide +kernel
theorem d3 : decode yB 3 = .ok (.invokestatic 9, 3) := by decide +kernel
theorem d6 : decode yB 6 = .ok (.aload_n 0, 1) := by decide +kernel
theorem d7 : decode yB 7 = .ok (.iload_n 1, 1) := by decide +kernel
theorem d8 : decode yB 8 = .ok (.baload, 1) := by decide +kernel
theorem d9 : decode yB 9 = .ok (.sipush 255, 3) := by decide +kernel
theorem d12 : decode yB 12 = .ok (.iand, 1) := by decide +kernel
theorem d13 : decode yB 13 = .ok (.i2c, 1) := by decide +kernel
theorem d14 : decode yB 14 = .ok (.ireturn, 1) := by decide +kernel
def site : List Cond := [JO.Str_checkIndex.tab] ++ staticW "java/lang/StringLatin1" 9 JO.Str_checkIndex.yN
def tab : Cond := tabOf yN yB 2 (some .char) site
def P (t : Addr) (V : Cell) (i : Nat) (u : Int32) (fm : Value) (args : Array Value) (s : State) : Prop := args = #[.ref t, .int (Int32.ofNat i)] ∧ XT.Arr .byte t V s ∧ V.slots[i]? = some (.int u) ∧ (StaticIs s "jdk/internal/util/Preconditions" "SIOOBE_FORMATTER" "Ljava/util/function/BiFunction;" fm ∧ fm.isRef = true)
def E (u : Int32) (r : Option Value) (s w : State) : Prop := XT.PureE (some (.int (chr8 u))) r s w
theorem law (l : Launch) (t : Addr) (V : Cell) (i : Nat) (u : Int32) (fm : Value) : Law l yN 2 2 2 27 yB 2 (some .char) site (P t V i u fm) (E u) [] 0 0 := by
  refine Law.of_walk (plainFor_of_name (by decide +kernel)) (by decide +kernel) (by decide +kernel) (by decide) (fun _ _ h => by rw [h.1]; rfl) (fun _ U U' hal hh h => ⟨h.1, h.2.1.mv hal hh, h.2.2.1, h.2.2.2.1.there hal hh, h.2.2.2.2⟩) (fun r U U' V V' h1 hal h2 h => XT.PureE.mv r U U' V V' h1 hal h2 h) ?_
  intro p e s m args below meth c s₁ X0 hexec hbytes hml hret hlk hnm hown hh0 W hP
  obtain ⟨rfl, hV, hu, s1, rf⟩ := hP
  have v31 := hV.2.2.2
  have hi : i < V.slots.size := (Array.getElem?_eq_some_iff.mp hu).1
  have c1 : Steps p.tables e below (s₁.setTop (entryFrame m #[.ref t, .int (Int32.ofNat i)] 2)) (s₁.setTop (mkF m 0 #[.val (.ref t), .val (.int (Int32.ofNat i))] [])) := entry rfl
  have c2 : Steps p.tables e below (s₁.setTop (entryFrame m #[.ref t, .int (Int32.ofNat i)] 2)) (s₁.setTop (mkF m 3 #[.val (.ref t), .val (.int (Int32.ofNat i))] [.int (Int32.ofNat V.slots.size), .int (Int32.ofNat i)])) := c1.trans (by
    refine XS.iloadN X0.here hexec rfl (hb hbytes d0) rfl ?_
    refine XS.aloadN X0.here hexec rfl (hb hbytes d1) rfl rfl ?_
    refine X0.alen hexec (hV.mv X0.warmed.alike hh0) rfl rfl (hb hbytes d2) ?_
    exact Steps.refl _)
  obtain ⟨v3, T3, X3, E3, g3⟩ := X0.callS hexec (JO.Str_checkIndex.law l (Int32.ofNat i) (Int32.ofNat V.slots.size) fm) hown (wks W (staticW "java/lang/StringLatin1" 9 JO.Str_checkIndex.yN)) (wk W JO.Str_checkIndex.tab) (W := 0) (Nat.le_of_ble_eq_true rfl) (Nat.le_of_ble_eq_true rfl) (Nat.le_refl _) (Nat.le_refl _) (g := (mkF m 3 #[.val (.ref t), .val (.int (Int32.ofNat i))] [.int (Int32.ofNat V.slots.size), .int (Int32.ofNat i)])) rfl (by rw [hml]; rfl) c2 (argsL := [.int (Int32.ofNat i), .int (Int32.ofNat V.slots.size)]) (rest := []) rfl rfl (by show 2 * 0 + 0 ≤ _; decide) (hb hbytes d3) (⟨rfl, rf, s1.there X0.warmed.alike hh0, Int32.ofNat_not_neg (by omega), lt32 v31 hi⟩)
  obtain ⟨rfl, q3⟩ := E3
  have hh3 := q3.trans hh0
  have c4 : Steps p.tables e below (s₁.setTop (entryFrame m #[.ref t, .int (Int32.ofNat i)] 2)) (T3.setTop (mkF m 14 #[.val (.ref t), .val (.int (Int32.ofNat i))] [.int (chr8 u)])) := Steps.trans g3 (by
    refine XS.aloadN X3.here hexec rfl (hb hbytes d6) rfl rfl ?_
    refine XS.iloadN X3.here hexec rfl (hb hbytes d7) rfl ?_
    refine X3.aget hexec (hV.mv X3.warmed.alike hh3) rfl hu rfl rfl (hb hbytes d8) ?_
    refine sipushV X3.here hexec rfl 255 (hb hbytes d9) (by decide) ?_
    refine XS.iand X3.here hexec rfl (hb hbytes d12) rfl ?_
    refine i2c X3.here hexec rfl (hb hbytes d13) rfl ?_
    exact Steps.refl _)
  exact ⟨T3, some (.int (chr8 u)), _, _, _, X3, rfl, rfl, rfl, (fun h => by cases h), ⟨rfl, hh3⟩, fun fs hl => c4.trans (X3.ireturnOut hexec hret (narrow_c _) (Or.inr (Or.inr (Or.inr (Or.inl rfl)))) (hb hbytes d14) hl)⟩
end LChA
end StrChars
namespace StrChars.Road
open Jvm Sem ClassFile Op Lib Jvm.Stand Jvm.Free Jvm.Free.XT
open Jvm.Lib.Cold (StaticIs)
theorem consq {a : Array Value} {s : State} {c : Jvm.Cond} {L : List Jvm.Cond} (h0 : c.before a s = true) (h : ∀ w ∈ L, w.before a s = true) : ∀ w ∈ c :: L, w.before a s = true := fun w hw => (List.mem_cons.mp hw).elim (fun e => e ▸ h0) (h w)
/-- the words of String.length(), either coding -/
abbrev wordsLen : List Jvm.Cond := [.code Len.yN Len.yB 1 (some .int), .initialized ST, .fieldLink ST 9 ST "value" "[B", .fieldLink ST 38 ST "COMPACT_STRINGS" "Z", .fieldLink ST 15 ST "coder" "B", .code Cdr.yN Cdr.yB 1 (some .byte), .methodLink ST 335 Cdr.yN, .declares Cdr.yN, .selects ST Cdr.yN Cdr.yN, .instanceMethod Cdr.yN]
theorem tabLen_of {a : Array Value} {s : State} (h : ∀ w ∈ wordsLen, w.before a s = true) : Len.tab.before a s = true := by
  have hc : Cdr.tab.before a s = true := unparts (wk h (.code Cdr.yN Cdr.yB 1 (some .byte))) (wks h (.initialized Cdr.yN.cls :: Cdr.site))
  have q := consq hc h
  exact unparts (wk q (.code Len.yN Len.yB 1 (some .int))) (wks q (.initialized Len.yN.cls :: Len.site))
theorem movedLen {Z s : State} {a0 args : Array Value} (hZ : Z.Warmed39 s.vm) (hw : ∀ d ∈ wordsLen, d.before a0 Z = true) : ∀ d ∈ wordsLen, d.before args s = true := fun d hd => by
  have q := hw d hd
  have t : ∀ d ∈ wordsLen, d = .arrayClass .byte ∨ (d.onTables && d.keepsFace) = true := by decide +kernel
  rcases t d hd with rfl | t
  · exact RoadKit.mvA hZ q
  · exact RoadKit.mv hZ q t
/-- the bytes of the chars cs, low before high -/
def wideBytes : List Int32 → List Value
  | [] => []
  | c :: cs => .int (lo8 c) :: .int (hi8 c) :: wideBytes cs
theorem wide_lo (d : Value) : ∀ (cs : List Int32) (j : Nat), j < cs.length → (wideBytes cs).getD (2 * j) d = .int (lo8 (cs.getD j 0))
  | [], j, h => absurd h (Nat.not_lt_zero j)
  | c :: cs, 0, _ => rfl
  | c :: cs, j + 1, h => by
    have q := wide_lo d cs j (by simpa using h)
    rw [show 2 * (j + 1) = 2 * j + 1 + 1 from by omega]
    simpa [wideBytes] using q
theorem wide_hi (d : Value) : ∀ (cs : List Int32) (j : Nat), j < cs.length → (wideBytes cs).getD (2 * j + 1) d = .int (hi8 (cs.getD j 0))
  | [], j, h => absurd h (Nat.not_lt_zero j)
  | c :: cs, 0, _ => rfl
  | c :: cs, j + 1, h => by
    have q := wide_hi d cs j (by simpa using h)
    rw [show 2 * (j + 1) + 1 = 2 * j + 1 + 1 + 1 from by omega]
    simpa [wideBytes] using q
theorem low_at (d : Value) (cs : List Int32) (j : Nat) (h : j < cs.length) : (cs.map fun c => Value.int (lo8 c)).getD j d = .int (lo8 (cs.getD j 0)) := by
  simp [List.getD_eq_getElem?_getD, h]
/-- an array of N2 bytes vs codes the chars cs by the coder cd -/
def CodA (cs : List Int32) (cd N2 : Int32) (vs : List Value) : Prop := (cd = 0 ∧ N2 = Int32.ofNat cs.length ∧ vs = (cs.map fun c => Value.int (lo8 c)) ∧ ∀ c ∈ cs, ¬ 255 < c) ∨ (cd = 1 ∧ N2 = Int32.ofNat (2 * cs.length) ∧ vs = wideBytes cs ∧ ∃ c ∈ cs, 255 < c)
theorem CodA.cod {cs : List Int32} {cd N2 : Int32} {vs : List Value} {V : Cell} (h : CodA cs cd N2 vs) (hn : 2 * cs.length < 2 ^ 31) (hs : V.slots.size = N2.toNatClampNeg) (hv : RoadKit.Has V vs (.int 0)) : Cod cd cs.length (fun j => cs.getD j 0) V := by
  rcases h with ⟨rfl, rfl, rfl, h⟩ | ⟨rfl, rfl, rfl, c, hc, hw⟩
  · rw [n32 (by omega)] at hs
    exact Or.inl ⟨rfl, hs, fun j hj => ⟨by rw [hv j (by omega), low_at _ _ _ hj], by
      have e : cs.getD j 0 = cs[j] := by simp [List.getD_eq_getElem?_getD, hj]
      show ¬ 255 < cs.getD j 0
      rw [e]; exact h _ (List.getElem_mem _)⟩⟩
  · rw [n32 (by omega)] at hs
    obtain ⟨j, hj, rfl⟩ := List.getElem_of_mem hc
    exact Or.inr ⟨rfl, hs, fun j hj => ⟨by rw [hv _ (by omega), wide_lo _ _ _ hj], by rw [hv _ (by omega), wide_hi _ _ _ hj]⟩, j, hj, by
      have e : cs.getD j 0 = cs[j] := by simp [List.getD_eq_getElem?_getD, hj]
      show 255 < cs.getD j 0
      rw [e]; exact hw⟩
/-- an object of exactly java/lang/String, its two fields found: as the laws ask it -/
theorem strObj {Z U : State} {a0 : Array Value} {kI : Nat} (wi : (Jvm.Cond.instantiable ST kI).before a0 Z = true) (al : Z.vm.Alike U.vm) {x : Addr} {v0 c0 : Value} (E : RoadKit.Exa Z U.heap x ST) (V : RoadKit.Fld Z U.heap x ST "value" "[B" v0) (C : RoadKit.Fld Z U.heap x ST "coder" "B" c0) :
    ∃ (D : Cell) (fV fC : Field), Blank ST x D U ∧ Found ST "value" "[B" fV U ∧ Found ST "coder" "B" fC U ∧ D.slots[fV.slot]? = some v0 ∧ D.slots[fC.slot]? = some c0 ∧ RoadKit.slotOf Z ST "value" "[B" = fV.slot ∧ RoadKit.slotOf Z ST "coder" "B" = fC.slot := by
  obtain ⟨D, cfV, kV, iV, fV, hD, gV, stV, knV, obV, asV, slV⟩ := V
  obtain ⟨D', cfC, kC, iC, fC, hD', gC, stC, -, -, asC, slC⟩ := C
  cases hD.symm.trans hD'
  obtain ⟨D2, kD, e1, e2, e3, e4, e5⟩ := E
  cases hD.symm.trans e1
  obtain ⟨c2, k2, i1, i2, i3, -⟩ := Cond.instantiable_spec wi
  cases e2.symm.trans i1
  cases e3.symm.trans i2
  obtain ⟨kU, u1, u2⟩ := al.2.2 _ _ e3
  exact ⟨D, fV, fC, ⟨hD, ⟨knV, fun q hq => by rw [hq] at obV; cases obV⟩, by rw [al.findClass]; exact e2, kU, u1, by rw [u2]; exact i3, by rw [u2]; exact e5 i3⟩, ⟨SBG.found_only al ⟨cfV, kV, iV, gV⟩, stV⟩, ⟨SBG.found_only al ⟨cfC, kC, iC, gC⟩, stC⟩, slV, slC, by simp [RoadKit.slotOf, gV], by simp [RoadKit.slotOf, gC]⟩
theorem sta_is {Z U : State} (al : Z.vm.Alike U.vm) {C n d : String} {v : Value} (S : RoadKit.Sta Z U.heap C n d v) : StaticIs U C n d v := by
  obtain ⟨cfS, iS, kS, fS, st, cS, t1, t2, t3, t4, t5, t6, t7⟩ := S
  exact StaticIs.there (s := { Z with heap := U.heap }) ⟨cfS, iS, kS, fS, st, cS, t1, t2, t3, t4, t5, (fun q => by rw [q] at t6; cases t6), t7⟩ al rfl
/-- **length() OF SUCH A STRING** -/
theorem lenW {p : Program} {l : Launch} {e : Env} {R : Room} {s : State} {args : Array Value} {below : List Frame} {len W : Nat} {Z : State} {a0 : Array Value} {h : Heap} (hZ : Z.Warmed39 s.vm) (hw : ∀ d ∈ wordsLen, d.before a0 Z = true) {kI : Nat} (wi : (Jvm.Cond.instantiable ST kI).before a0 Z = true)
    {x t : Addr} {kb : ClassId} {cs : List Int32} {cd N2 z : Int32} {vs : List Value} (E : RoadKit.Exa Z h x ST) (V : RoadKit.Fld Z h x ST "value" "[B" (.ref t)) (C : RoadKit.Fld Z h x ST "coder" "B" (.int cd)) (K : RoadKit.Arv Z h t kb .byte N2 vs (.int 0)) (hc : CodA cs cd N2 vs) (hb : ∀ c ∈ cs, ¬ c < 0 ∧ ¬ (65535 : Int32) < c)
    (S : RoadKit.Sta Z h ST "COMPACT_STRINGS" "Z" (.int z)) (hz : ¬ z = 0) (l2 : cs.length ≤ 4000) (hfr : 2 ≤ R.frames) (hlo : W + 25 ≤ R.locals) :
    Back l R p e below s args (⟨"java/lang/String", "length", "()I"⟩ : MethodName) len W (fun P a => a = #[.ref x] ∧ P.U.heap = h ∧ P.cells + 0 ≤ R.cells ∧ P.slots + 0 ≤ R.slots)
      (fun P _ v B => ∃ L, (v = some (.int (Int32.ofNat cs.length)) ∧ L = [] ∧ B.U.heap = h) ∧ B.locs = P.locs ++ L ∧ B.cells = P.cells + 0 ∧ B.slots = P.slots + 0) := by
  obtain ⟨A, K1, K2, K3, K4, K5, K6⟩ := K
  have hcod := hc.cod (by omega) K3 K5
  intro m meth c P g ig mk a X hg hsize hdg hW hn hp'
  obtain ⟨rfl, rfl, r1, r2⟩ := hp'
  have al : Z.vm.Alike P.U.vm := hZ.alike.trans X.warmed.alike
  obtain ⟨D, fV, fC, hB, F1, F2, g1, g2, -, -⟩ := strObj wi al E V C
  have hx : Txt x t A cd cs.length (fun j => cs.getD j 0) P.U := ⟨⟨_, hB.2.2.1, D, hB.1, rfl, by cases q : D.vm <;> first | rfl | exact absurd q (hB.2.1.2 _)⟩, Has.of hB F1 g1, Has.of hB F2 g2, ⟨K1.1, State.isArrayOf_alike al K1.2.1, K1.2.2, by rcases hcod with ⟨-, q, -⟩ | ⟨-, q, -⟩ <;> omega⟩, hcod, fun j hj => by
    have e : cs.getD j 0 = cs[j] := by simp [List.getD_eq_getElem?_getD, hj]
    show ¬ cs.getD j 0 < 0 ∧ ¬ 65535 < cs.getD j 0
    rw [e]; exact hb _ (List.getElem_mem _)⟩
  obtain ⟨v, B, X', ⟨⟨hv, hh⟩, hl, hk, hs⟩, st⟩ := Len.pays x t A cd cs.length (fun j => cs.getD j 0) z (tabLen_of (movedLen hZ hw)) hfr hlo m meth c P g ig mk _ X hg hsize hdg hW hn ⟨r1, r2, rfl, hx, sta_is al S, hz⟩
  exact ⟨v, B, X', ⟨[], ⟨hv, rfl, hh⟩, hl, hk, hs⟩, st⟩
end StrChars.Road
namespace StrChars.Road
open Jvm Sem ClassFile Op Lib Jvm.Stand Jvm.Free Jvm.Free.XT
open Jvm.Lib.Cold (StaticIs)
/-- the road's facts of a String, as the laws ask it -/
theorem txt_of {Z U : State} {a0 : Array Value} {kI : Nat} (wi : (Jvm.Cond.instantiable ST kI).before a0 Z = true) (al : Z.vm.Alike U.vm) {x t : Addr} {kb : ClassId} {cs : List Int32} {cd N2 : Int32} {vs : List Value} (E : RoadKit.Exa Z U.heap x ST) (V : RoadKit.Fld Z U.heap x ST "value" "[B" (.ref t)) (C : RoadKit.Fld Z U.heap x ST "coder" "B" (.int cd)) (K : RoadKit.Arv Z U.heap t kb .byte N2 vs (.int 0)) (hc : CodA cs cd N2 vs) (hb : ∀ c ∈ cs, ¬ c < 0 ∧ ¬ (65535 : Int32) < c) (l2 : cs.length ≤ 4000) :
    ∃ A, Txt x t A cd cs.length (fun j => cs.getD j 0) U := by
  obtain ⟨A, K1, K2, K3, K4, K5, K6⟩ := K
  have hcod := hc.cod (by omega) K3 K5
  obtain ⟨D, fV, fC, hB, F1, F2, g1, g2, -, -⟩ := strObj wi al E V C
  exact ⟨A, ⟨_, hB.2.2.1, D, hB.1, rfl, by cases q : D.vm <;> first | rfl | exact absurd q (hB.2.1.2 _)⟩, Has.of hB F1 g1, Has.of hB F2 g2, ⟨K1.1, State.isArrayOf_alike al K1.2.1, K1.2.2, by rcases hcod with ⟨-, q, -⟩ | ⟨-, q, -⟩ <;> omega⟩, hcod, fun j hj => by
    have e : cs.getD j 0 = cs[j] := by simp [List.getD_eq_getElem?_getD, hj]
    show ¬ cs.getD j 0 < 0 ∧ ¬ 65535 < cs.getD j 0
    rw [e]; exact hb _ (List.getElem_mem _)⟩
end StrChars.Road
namespace StrChars
open Jvm Sem ClassFile Op Lib Jvm.Stand Jvm.Free.XT Jvm.Free.ALB Jvm.Free.JM Jvm.Free
open Jvm.Lib.Cold (StaticIs)
namespace ChN
def yN : MethodName := ⟨"java/lang/String", "charAt", "(I)C"⟩
abbrev yB : ByteArray := jdk_42_method_56_code
theorem d0 : decode yB 0 = .ok (.aload_n 0, 1) := by decide +kernel
theorem d1 : decode yB 1 = .ok (.invokevirtual 492, 3) := by decide +kernel
theorem d4 : decode yB 4 = .ok (.ifCond (.eq) 12, 3) := by decide +kernel
theorem d7 : decode yB 7 = .ok (.aload_n 0, 1) := by decide +kernel
theorem d8 : decode yB 8 = .ok (.getfield 9, 3) := by decide +kernel
theorem d11 : decode yB 11 = .ok (.iload_n 1, 1) := by decide +kernel
theorem d12 : decode yB 12 = .ok (.invokestatic 495, 3) := by decide +kernel
theorem d15 : decode yB 15 = .ok (.ireturn, 1) := by decide +kernel
def site : List Cond := [.fieldLink "java/lang/String" 9 "java/lang/String" "value" "[B", IsL.tab, LChA.tab] ++ virtW "java/lang/String" 492 "java/lang/String" IsL.yN IsL.yN ++ staticW "java/lang/String" 495 LChA.yN
def tab : Cond := tabOf yN yB 2 (some .char) site
def P (x t : Addr) (V : Cell) (n : Nat) (f : Nat → Int32) (z : Int32) (fm : Value) (i : Nat) (args : Array Value) (s : State) : Prop := args = #[.ref x, .int (Int32.ofNat i)] ∧ Txt x t V 0 n f s ∧ i < n ∧ StaticIs s "java/lang/String" "COMPACT_STRINGS" "Z" (.int z) ∧ ¬ z = 0 ∧ StaticIs s "jdk/internal/util/Preconditions" "SIOOBE_FORMATTER" "Ljava/util/function/BiFunction;" fm ∧ fm.isRef = true
def E (f : Nat → Int32) (i : Nat) (r : Option Value) (s u : State) : Prop := XT.PureE (some (.int (f i))) r s u
/-- charAt(i) of a Latin-1 String of n chars, i < n: f i -/
theorem law (l : Launch) (x t : Addr) (V : Cell) (n : Nat) (f : Nat → Int32) (z : Int32) (fm : Value) (i : Nat) : Law l yN 2 1 3 40 yB 2 (some .char) site (P x t V n f z fm i) (E f i) [] 0 0 := by
  refine Law.of_walk (plainFor_of_name (by decide +kernel)) (by decide +kernel) (by decide +kernel) (by decide) (fun _ _ h => by rw [h.1]; rfl) (fun _ U U' hal hh h => ⟨h.1, h.2.1.mv hal hh, h.2.2.1, h.2.2.2.1.there hal hh, h.2.2.2.2.1, h.2.2.2.2.2.1.there hal hh, h.2.2.2.2.2.2⟩) (fun r U U' V V' h1 hal h2 h => XT.PureE.mv r U U' V V' h1 hal h2 h) ?_
  intro p e s m args below meth c s₁ X0 hexec hbytes hml hret hlk hnm hown hh0 W hP
  obtain ⟨rfl, hx, hi, s1, hz, s3, rf⟩ := hP
  have v31 := hx.2.2.2.1.2.2.2
  have hr := hx.2.2.2.2.2 i hi
  have hx0 := hx.mv X0.warmed.alike hh0
  have c1 : Steps p.tables e below (s₁.setTop (entryFrame m #[.ref x, .int (Int32.ofNat i)] 2)) (s₁.setTop (mkF m 1 #[.val (.ref x), .val (.int (Int32.ofNat i))] [.ref x])) := Steps.trans (entry rfl) (by
    show Steps p.tables e below (s₁.setTop (mkF m 0 #[.val (.ref x), .val (.int (Int32.ofNat i))] [])) _
    refine XS.aloadN X0.here hexec rfl (hb hbytes d0) rfl rfl ?_
    exact Steps.refl _)
  obtain ⟨v2, T2, X2, E2, g2⟩ := X0.callV hexec (IsL.law l x 0 z) hown (wks W (virtW "java/lang/String" 492 "java/lang/String" IsL.yN IsL.yN)) rfl (by decide) (wk W IsL.tab) (W := 0) (Nat.le_of_ble_eq_true rfl) (Nat.le_of_ble_eq_true rfl) (Nat.le_refl _) (Nat.le_refl _) (hx0.1.fc X0.warmed.alike) hx0.1.is (g := (mkF m 1 #[.val (.ref x), .val (.int (Int32.ofNat i))] [.ref x])) rfl (by rw [hml]; rfl) c1 (argsL := []) (rest := []) rfl rfl (by show 2 * 0 + 0 ≤ _; decide) (hb hbytes d1) (⟨rfl, hx0.2.2.1, hx.2.2.2.2.1.cd, s1.there X0.warmed.alike hh0, hz⟩)
  obtain ⟨rfl, q2⟩ := E2
  have hh2 := q2.trans hh0
  have hx2 := hx.mv X2.warmed.alike hh2
  obtain ⟨-, k1, k2⟩ | ⟨k0, -⟩ := hx.2.2.2.2.1
  · have c3 : Steps p.tables e below (s₁.setTop (entryFrame m #[.ref x, .int (Int32.ofNat i)] 2)) (T2.setTop (mkF m 8 #[.val (.ref x), .val (.int (Int32.ofNat i))] [.ref x])) := Steps.trans g2 (by
      refine XS.ifNo X2.here hexec rfl (hb hbytes d4) rfl (i0_eq_f (by decide)) ?_
      refine XS.aloadN X2.here hexec rfl (hb hbytes d7) rfl rfl ?_
      exact Steps.refl _)
    obtain ⟨T4, X4, q4, st4⟩ := X2.hget hexec hown (wk W (.fieldLink "java/lang/String" 9 "java/lang/String" "value" "[B")) hx2.2.1 (g := (mkF m 8 #[.val (.ref x), .val (.int (Int32.ofNat i))] [.ref x])) rfl (rest := []) rfl (hb hbytes d8)
    have hh4 := q4.trans hh2
    have c5 : Steps p.tables e below (s₁.setTop (entryFrame m #[.ref x, .int (Int32.ofNat i)] 2)) (T4.setTop (mkF m 12 #[.val (.ref x), .val (.int (Int32.ofNat i))] [.int (Int32.ofNat i), .ref t])) := (c3.trans (st4 _ (Steps.refl _))).trans (by
      refine XS.iloadN X4.here hexec rfl (hb hbytes d11) rfl ?_
      exact Steps.refl _)
    obtain ⟨v6, T6, X6, E6, g6⟩ := X4.callS hexec (LChA.law l t V i (lo8 (f i)) fm) hown (wks W (staticW "java/lang/String" 495 LChA.yN)) (wk W LChA.tab) (W := 0) (Nat.le_of_ble_eq_true rfl) (Nat.le_of_ble_eq_true rfl) (Nat.le_refl _) (Nat.le_refl _) (g := (mkF m 12 #[.val (.ref x), .val (.int (Int32.ofNat i))] [.int (Int32.ofNat i), .ref t])) rfl (by rw [hml]; rfl) c5 (argsL := [.ref t, .int (Int32.ofNat i)]) (rest := []) rfl rfl (by show 2 * 0 + 0 ≤ _; decide) (hb hbytes d12) (⟨rfl, hx.2.2.2.1.mv X4.warmed.alike hh4, (k2 i hi).1, s3.there X4.warmed.alike hh4, rf⟩)
    obtain ⟨rfl, q6⟩ := E6
    rw [chr8_lo8 hr.1 (k2 i hi).2] at g6
    exact ⟨T6, some (.int (f i)), _, _, _, X6, rfl, rfl, rfl, (fun h => by cases h), ⟨rfl, q6.trans hh4⟩, fun fs hl => Steps.trans g6 (X6.ireturnOut hexec hret (narrow_ch hr.1 hr.2) (Or.inr (Or.inr (Or.inr (Or.inl rfl)))) (hb hbytes d15) hl)⟩
  · exact absurd k0 (by decide)
theorem pays {l : Launch} {R : Room} {p : Program} {e : Env} {below : List Frame} {s : State} {sargs : Array Value} {len W : Nat} (x t : Addr) (V : Cell) (n : Nat) (f : Nat → Int32) (z : Int32) (fm : Value) (i : Nat) (htab : tab.before sargs s = true) (hfr : 4 ≤ R.frames) (hlo : W + 53 ≤ R.locals) :
    Back l R p e below s sargs yN len W (fun A₁ a₁ => A₁.cells + 0 ≤ R.cells ∧ A₁.slots + 0 ≤ R.slots ∧ P x t V n f z fm i a₁ A₁.U) (fun A₁ _ v₁ B₁ => E f i v₁ A₁.U B₁.U ∧ B₁.locs = A₁.locs ++ [] ∧ B₁.cells = A₁.cells + 0 ∧ B₁.slots = A₁.slots + 0) :=
  (law l x t V n f z fm i).pays htab hfr (by omega)
end ChN
end StrChars
namespace StrChars.Road
open Jvm Sem ClassFile Op Lib Jvm.Stand Jvm.Free Jvm.Free.XT
open Jvm.Lib.Cold (StaticIs)
/-- the words of String.charAt(int), the Latin-1 road alone -/
abbrev wordsChN : List Jvm.Cond := [.code ChN.yN ChN.yB 2 (some .char), .initialized ST, .fieldLink ST 9 ST "value" "[B", .fieldLink ST 38 ST "COMPACT_STRINGS" "Z", .fieldLink ST 15 ST "coder" "B", .code IsL.yN IsL.yB 1 (some .boolean), .methodLink ST 492 IsL.yN, .declares IsL.yN, .selects ST IsL.yN IsL.yN, .instanceMethod IsL.yN,
  .methodLink ST 495 LChA.yN, .static LChA.yN, .code LChA.yN LChA.yB 2 (some .char), .initialized "java/lang/StringLatin1", .methodLink "java/lang/StringLatin1" 9 JO.Str_checkIndex.yN, .static JO.Str_checkIndex.yN, .code JO.Str_checkIndex.yN JO.Str_checkIndex.yB 2 none,
  .fieldLink ST 1053 "jdk/internal/util/Preconditions" "SIOOBE_FORMATTER" "Ljava/util/function/BiFunction;", .methodLink ST 1059 JC.PreCheck.yN, .static JC.PreCheck.yN, .code JC.PreCheck.yN JC.PreCheck.yB 3 (some .int), .initialized "jdk/internal/util/Preconditions"]
theorem tabChN_of {a : Array Value} {s : State} (h : ∀ w ∈ wordsChN, w.before a s = true) : ChN.tab.before a s = true := by
  have hp : JC.PreCheck.tab.before a s = true := unparts (wk h (.code JC.PreCheck.yN JC.PreCheck.yB 3 (some .int))) (wks h (.initialized JC.PreCheck.yN.cls :: JC.PreCheck.site))
  have qk := consq hp h
  have hk : JO.Str_checkIndex.tab.before a s = true := unparts (wk qk (.code JO.Str_checkIndex.yN JO.Str_checkIndex.yB 2 none)) (wks qk (.initialized JO.Str_checkIndex.yN.cls :: JO.Str_checkIndex.site))
  have ql := consq hk h
  have hl : LChA.tab.before a s = true := unparts (wk ql (.code LChA.yN LChA.yB 2 (some .char))) (wks ql (.initialized LChA.yN.cls :: LChA.site))
  have hi : IsL.tab.before a s = true := unparts (wk h (.code IsL.yN IsL.yB 1 (some .boolean))) (wks h (.initialized IsL.yN.cls :: IsL.site))
  have q := consq hi (consq hl h)
  exact unparts (wk q (.code ChN.yN ChN.yB 2 (some .char))) (wks q (.initialized ChN.yN.cls :: ChN.site))
theorem movedChN {Z s : State} {a0 args : Array Value} (hZ : Z.Warmed39 s.vm) (hw : ∀ d ∈ wordsChN, d.before a0 Z = true) : ∀ d ∈ wordsChN, d.before args s = true := fun d hd => by
  have t : ∀ d ∈ wordsChN, (d.onTables && d.keepsFace) = true := by decide +kernel
  exact RoadKit.mv hZ (hw d hd) (t d hd)
/-- **charAt(i) OF A LATIN-1 STRING**, i < n: the char -/
theorem chN {p : Program} {l : Launch} {e : Env} {R : Room} {s : State} {args : Array Value} {below : List Frame} {len W : Nat} {Z : State} {a0 : Array Value} {h : Heap} (hZ : Z.Warmed39 s.vm) (hw : ∀ d ∈ wordsChN, d.before a0 Z = true) {kI : Nat} (wi : (Jvm.Cond.instantiable ST kI).before a0 Z = true)
    {x t : Addr} {kb : ClassId} {cs : List Int32} {N2 z : Int32} {vs : List Value} {fm : Value} {i : Nat} {j : Int32} (E : RoadKit.Exa Z h x ST) (V : RoadKit.Fld Z h x ST "value" "[B" (.ref t)) (C : RoadKit.Fld Z h x ST "coder" "B" (.int 0)) (K : RoadKit.Arv Z h t kb .byte N2 vs (.int 0)) (hc : CodA cs 0 N2 vs) (hb : ∀ c ∈ cs, ¬ c < 0 ∧ ¬ (65535 : Int32) < c)
    (S : RoadKit.Sta Z h ST "COMPACT_STRINGS" "Z" (.int z)) (hz : ¬ z = 0) (F : RoadKit.Sta Z h "jdk/internal/util/Preconditions" "SIOOBE_FORMATTER" "Ljava/util/function/BiFunction;" fm) (rf : fm.isRef = true) (l2 : cs.length ≤ 4000) (hi : i < cs.length) (hj : j = Int32.ofNat i) (hfr : 4 ≤ R.frames) (hlo : W + 53 ≤ R.locals) :
    Back l R p e below s args (⟨"java/lang/String", "charAt", "(I)C"⟩ : MethodName) len W (fun P a => a = #[.ref x, .int j] ∧ P.U.heap = h ∧ P.cells + 0 ≤ R.cells ∧ P.slots + 0 ≤ R.slots)
      (fun P _ v B => ∃ L, (v = some (.int (cs.getD i 0)) ∧ L = [] ∧ B.U.heap = h) ∧ B.locs = P.locs ++ L ∧ B.cells = P.cells + 0 ∧ B.slots = P.slots + 0) := by
  subst hj
  intro m meth c P g ig mk a X hg hsize hdg hW hn hp'
  obtain ⟨rfl, rfl, r1, r2⟩ := hp'
  have al : Z.vm.Alike P.U.vm := hZ.alike.trans X.warmed.alike
  obtain ⟨A, hx⟩ := txt_of wi al E V C K hc hb l2
  obtain ⟨v, B, X', ⟨⟨hv, hh⟩, hl, hk, hs⟩, st⟩ := ChN.pays x t A cs.length (fun j => cs.getD j 0) z fm i (tabChN_of (movedChN hZ hw)) hfr hlo m meth c P g ig mk _ X hg hsize hdg hW hn ⟨r1, r2, rfl, hx, hi, sta_is al S, hz, sta_is al F, rf⟩
  exact ⟨v, B, X', ⟨[], ⟨hv, rfl, hh⟩, hl, hk, hs⟩, st⟩
/-- what backV says of its String, as the contracts of this text ask it: cs's low bytes, coder 0 -/
theorem codOf {cs : List Int32} {n : Nat} (hn : cs.length = n) (hb : ∀ c ∈ cs, ¬ 255 < c) : CodA cs 0 (Int32.ofNat n) ((cs.map lo8).map Value.int) := Or.inl ⟨rfl, by rw [hn], by simp [List.map_map, Function.comp_def], hb⟩
end StrChars.Road
end Jvm.Pilot.@@N@@
namespace Jvm.Pilot.@@N@@
open Jvm Jvm.ClassFile Sem Op Lib Jvm.Free Jvm.Stand Jvm.LawKit Jvm.RoadKit Bundle Jvm.Pilot.@@N@@.Jvm.D
theorem own_lc_lt (x y : Int64) : lcmpW x y < 0 ↔ x < y := by rw [lcW]; exact lc_lt x y
theorem own_lc_gt (x y : Int64) : 0 < lcmpW x y ↔ y < x := by rw [lcW]; exact lc_gt x y
theorem own_lc_eq (x y : Int64) : lcmpW x y = 0 ↔ x = y := by rw [lcW]; exact lc_eq x y
theorem own_ri {P : Prop} [Decidable P] {a b : Value} (h1 : a.isRef = true) (h2 : b.isRef = true) : (if P then a else b).isRef = true := by
  by_cases h : P
  · rw [if_pos h]; exact h1
  · rw [if_neg h]; exact h2
theorem own_sta_keep {Z : State} {h h' : Heap} {C n d : String} {w : Value} {ws : List Addr} (F : Sta Z h C n d w) (K : Keep h h' ws) (q : ∀ x ∈ ws, ∀ cell : Cell, h[x]? = some cell → cell.vm.isStatics = false) : Sta Z h' C n d w := by
  obtain ⟨cf, i, k, f, st, cell, h1, h2, h3, h4, h5, h6, h7⟩ := F
  exact ⟨cf, i, k, f, st, cell, h1, h2, h3, h4, K.2.1 st cell h5 (fun z => by rw [q st z cell h5] at h6; cases h6), h6, h7⟩
theorem pd_0 : parseMethodDescriptor "(I[C)Ljava/lang/String;" = some ⟨[.int, (.array .char)], some (.object "java/lang/String")⟩ := by decide +kernel
theorem pd_1 : parseMethodDescriptor "([C)V" = some ⟨[(.array .char)], none⟩ := by decide +kernel
theorem pd_2 : parseMethodDescriptor "([CIILjava/lang/Void;)V" = some ⟨[(.array .char), .int, .int, (.object "java/lang/Void")], none⟩ := by decide +kernel
theorem pd_3 : parseMethodDescriptor "()V" = some ⟨[], none⟩ := by decide +kernel
theorem pd_4 : parseMethodDescriptor "(I)V" = some ⟨[.int], none⟩ := by decide +kernel
theorem pd_5 : parseMethodDescriptor "(Ljava/lang/String;)Lcom/example/murray_hill/murrayhill/AsciiLine;" = some ⟨[(.object "java/lang/String")], some (.object "com/example/murray_hill/murrayhill/AsciiLine")⟩ := by decide +kernel
theorem pd_6 : parseMethodDescriptor "()I" = some ⟨[], some .int⟩ := by decide +kernel
theorem pd_7 : parseMethodDescriptor "()B" = some ⟨[], some .byte⟩ := by decide +kernel
theorem pd_8 : parseMethodDescriptor "()Ljava/lang/String;" = some ⟨[], some (.object "java/lang/String")⟩ := by decide +kernel
theorem pd_9 : parseMethodDescriptor "(Ljava/lang/String;III[C[C)Z" = some ⟨[(.object "java/lang/String"), .int, .int, .int, (.array .char), (.array .char)], some .boolean⟩ := by decide +kernel
theorem pd_10 : parseMethodDescriptor "([CII)[B" = some ⟨[(.array .char), .int, .int], some (.array .byte)⟩ := by decide +kernel
theorem pd_11 : parseMethodDescriptor "([CI[BII)I" = some ⟨[(.array .char), .int, (.array .byte), .int, .int], some .int⟩ := by decide +kernel
theorem pd_12 : parseMethodDescriptor "([BI)B" = some ⟨[(.array .byte), .int], some .byte⟩ := by decide +kernel
theorem pd_13 : parseMethodDescriptor "(I)C" = some ⟨[.int], some .char⟩ := by decide +kernel
theorem pd_14 : parseMethodDescriptor "()Z" = some ⟨[], some .boolean⟩ := by decide +kernel
theorem pd_15 : parseMethodDescriptor "([BI)C" = some ⟨[(.array .byte), .int], some .char⟩ := by decide +kernel
theorem pd_16 : parseMethodDescriptor "(II)V" = some ⟨[.int, .int], none⟩ := by decide +kernel
theorem pd_17 : parseMethodDescriptor "(IILjava/util/function/BiFunction;)I" = some ⟨[.int, .int, (.object "java/util/function/BiFunction")], some .int⟩ := by decide +kernel
def own_St (Z : State) (cs : Int32) (fm : Value) : Prop := Sta Z Z.heap "java/lang/String" "COMPACT_STRINGS" "Z" (.int cs) ∧ (¬ cs = 0) ∧ Sta Z Z.heap "jdk/internal/util/Preconditions" "SIOOBE_FORMATTER" "Ljava/util/function/BiFunction;" fm ∧ fm.isRef = true
def own_lo (c : Int32) : Int32 := nar .byte ((c >>> ((0 : Int32) &&& 31)).toInt8.toInt32)
def own_hi (c : Int32) : Int32 := nar .byte ((c >>> ((8 : Int32) &&& 31)).toInt8.toInt32)
def own_gc (l h : Int32) : Int32 := nar .char (((((l &&& (255 : Int32)) <<< ((0 : Int32) &&& 31)) ||| ((h &&& (255 : Int32)) <<< ((8 : Int32) &&& 31)))).toUInt32.toUInt16.toUInt32.toInt32)
def own_lc (b : Int32) : Int32 := nar .char ((b &&& (255 : Int32)).toUInt32.toUInt16.toUInt32.toInt32)
def own_ch (c : Int32) : Prop := 0 ≤ c.toInt ∧ c.toInt < 65536
theorem own_gc_eq {c : Int32} (h : own_ch c) : own_gc (own_lo c) (own_hi c) = c := by
  obtain ⟨h0, h1⟩ := h
  show (((((own_lo c &&& (255 : Int32)) <<< ((0 : Int32) &&& 31)) ||| ((own_hi c &&& (255 : Int32)) <<< ((8 : Int32) &&& 31)))).toUInt32.toUInt16.toUInt32.toInt32).toUInt32.toUInt16.toUInt32.toInt32 = c
  have a1 := c_ishr c (0 : Int32) 0 rfl
  have a2 := c_ishr c (8 : Int32) 8 rfl
  have b1 := c_i2b (c >>> ((0 : Int32) &&& 31)); have b2 := c_i2b ((c >>> ((0 : Int32) &&& 31)).toInt8.toInt32)
  have b3 := c_i2b (c >>> ((8 : Int32) &&& 31)); have b4 := c_i2b ((c >>> ((8 : Int32) &&& 31)).toInt8.toInt32)
  have d1 : (own_lo c &&& (255 : Int32)).toInt = (own_lo c).toInt % 256 := c_mask _ 255 8 (by decide) rfl
  have d2 : (own_hi c &&& (255 : Int32)).toInt = (own_hi c).toInt % 256 := c_mask _ 255 8 (by decide) rfl
  have el : (own_lo c).toInt = ((c >>> ((0 : Int32) &&& 31)).toInt8.toInt32).toInt8.toInt32.toInt := rfl
  have eh : (own_hi c).toInt = ((c >>> ((8 : Int32) &&& 31)).toInt8.toInt32).toInt8.toInt32.toInt := rfl
  rw [show ((2 ^ 0 : Nat) : Int) = 1 from rfl] at a1
  rw [show ((2 ^ 8 : Nat) : Int) = 256 from rfl] at a2
  have x1 : (own_lo c &&& (255 : Int32)).toInt = c.toInt % 256 := by omega
  have x2 : (own_hi c &&& (255 : Int32)).toInt = c.toInt / 256 := by omega
  generalize own_lo c &&& (255 : Int32) = l at *
  generalize own_hi c &&& (255 : Int32) = hh at *
  have s1 := c_ishl l (0 : Int32) 0 rfl
  have s2 := c_ishl hh (8 : Int32) 8 rfl
  rw [show ((2 ^ 0 : Nat) : Int) = 1 from rfl] at s1
  rw [show ((2 ^ 8 : Nat) : Int) = 256 from rfl] at s2
  have t1 := Int32.le_toInt (l <<< ((0 : Int32) &&& 31)); have t2 := Int32.toInt_lt (l <<< ((0 : Int32) &&& 31))
  have t3 := Int32.le_toInt (hh <<< ((8 : Int32) &&& 31)); have t4 := Int32.toInt_lt (hh <<< ((8 : Int32) &&& 31))
  have y1 : (l <<< ((0 : Int32) &&& 31)).toInt = l.toInt := by omega
  have y2 : (hh <<< ((8 : Int32) &&& 31)).toInt = hh.toInt * 256 := by omega
  have o := c_or' (l <<< ((0 : Int32) &&& 31)) (hh <<< ((8 : Int32) &&& 31)) 8 (by decide) 256 rfl (by omega) (by omega) (by omega)
  have t5 := Int32.le_toInt ((l <<< ((0 : Int32) &&& 31)) ||| (hh <<< ((8 : Int32) &&& 31))); have t6 := Int32.toInt_lt ((l <<< ((0 : Int32) &&& 31)) ||| (hh <<< ((8 : Int32) &&& 31)))
  generalize (l <<< ((0 : Int32) &&& 31)) ||| (hh <<< ((8 : Int32) &&& 31)) = w at *
  have p1 := c_i2c w; have p2 := c_i2c (w.toUInt32.toUInt16.toUInt32.toInt32)
  apply Int32.toInt_inj.mp
  omega
theorem own_l1c_eq {c : Int32} (h0 : 0 ≤ c.toInt) (h1 : c.toInt < 256) : own_lc (c.toInt8.toInt32) = c := by
  show ((c.toInt8.toInt32 &&& (255 : Int32)).toUInt32.toUInt16.toUInt32.toInt32).toUInt32.toUInt16.toUInt32.toInt32 = c
  have a := c_i2b c
  have d : (c.toInt8.toInt32 &&& (255 : Int32)).toInt = (c.toInt8.toInt32).toInt % 256 := c_mask _ 255 8 (by decide) rfl
  generalize c.toInt8.toInt32 &&& (255 : Int32) = w at *
  have p1 := c_i2c w; have p2 := c_i2c (w.toUInt32.toUInt16.toUInt32.toInt32)
  apply Int32.toInt_inj.mp
  omega
theorem own_b44 {c : Int32} (h0 : 0 ≤ c.toInt) (h1 : c.toInt < 256) : (c.toInt8.toInt32 = 44) ↔ c = 44 := by
  have a := c_i2b c
  rw [← Int32.toInt_inj, ← Int32.toInt_inj, show (44 : Int32).toInt = 44 from rfl]
  omega
theorem own_ncI {x : Int32} (h : own_ch x) : nar .char x = x := by
  obtain ⟨h0, h1⟩ := h
  show x.toUInt32.toUInt16.toUInt32.toInt32 = x
  have a := c_i2c x
  apply Int32.toInt_inj.mp; omega
theorem own_chc (x : Int32) : own_ch (x.toUInt32.toUInt16.toUInt32.toInt32) := by
  have a := c_i2c x; exact ⟨by omega, by omega⟩
theorem own_nlt0 {x : Int32} (h : 0 ≤ x.toInt) : ¬ x < 0 := by rw [Int32.lt_iff_toInt_lt, show (0 : Int32).toInt = 0 from rfl]; omega
theorem own_w {a0 : Array Value} {Z : State} (hw : ∀ d ∈ tables_1, d.before a0 Z = true) (i : Nat) {d : Jvm.Cond} (h : tables_1[i]? = some d) : d.before a0 Z = true := hw d (List.mem_of_getElem? h)
abbrev own_S (p : Program) (e : Env) (below : List Frame) (T : State) (A B : JFrame) : Prop := ∀ target : State, Steps p.tables e below (T.setTop A) target → Steps p.tables e below (T.setTop B) target
abbrev own_EL : List (String × Nat) := [("java/lang/String", 7)]
theorem own_mem : ("java/lang/String", 7) ∈ own_EL := List.mem_cons_self
theorem own_hEL {a0 : Array Value} {Z : State} (hw : ∀ d ∈ tables_1, d.before a0 Z = true) : EW Z a0 own_EL := EW.cons (text := "") (own_w hw 18 rfl) (fun c hc => absurd hc (by simp)) EW.nil
theorem own_safe_null {Z : State} {EL : List (String × Nat)} {vm : Vm} {h : Heap} {x : Addr} (hal : Z.vm.Alike vm) (E : Exa Z h x "java/lang/String") (F : Fld Z h x "java/lang/String" "value" "[B" .null) : Safe Z EL vm h x := fun B => by
  obtain ⟨p, -, u, a, -, q, -, G, e | e⟩ := B
  · obtain ⟨cS, ⟨⟨s1, s2, s3, ⟨cv, kv, iv, s4, s4'⟩, -, s6, s7, s8, -⟩, -, -⟩, -⟩ := G
    obtain ⟨kv', z4⟩ := ff_back (U := Wst Z vm h) hal s4
    have F2 : Fld Z h q.sa "java/lang/String" "value" "[B" (.ref q.sd) := ⟨q.sC, cv, kv', iv, q.fSV, s1, z4, s6, s2, s3, by rw [← hal.assignable]; exact s4', s8⟩
    exact Fld.ne F F2 nofun e
  · subst e
    obtain ⟨cell, k, e1, e2, e3, -, -⟩ := E
    cases (show h[q.sd]? = some q.SA from G.hd).symm.trans e1
    obtain ⟨cS, -, -, f, -⟩ := G
    have f' : Z.vm.findClass "[B" = some q.SA.cls := by rw [← hal.findClass]; exact f
    obtain ⟨k1, q1, q2⟩ := Vm.findClass_spec f'
    obtain ⟨k2, q3, q4⟩ := Vm.findClass_spec e2
    cases q1.symm.trans q3
    exact absurd (q2.symm.trans q4) (by decide)
theorem d3_0 : decode jdk_42_method_149_code 0 = .ok (.aload_n 0, 1) := by decide +kernel
theorem d3_1 : decode jdk_42_method_149_code 1 = .ok (.invokespecial 1, 3) := by decide +kernel
theorem d3_4 : decode jdk_42_method_149_code 4 = .ok (.iload_n 3, 1) := by decide +kernel
theorem d3_5 : decode jdk_42_method_149_code 5 = .ok (.ifCond .ne 22, 3) := by decide +kernel
theorem d3_8 : decode jdk_42_method_149_code 8 = .ok (.aload_n 0, 1) := by decide +kernel
theorem d3_9 : decode jdk_42_method_149_code 9 = .ok (.ldc 7, 2) := by decide +kernel
theorem d3_11 : decode jdk_42_method_149_code 11 = .ok (.getfield 9, 3) := by decide +kernel
theorem d3_14 : decode jdk_42_method_149_code 14 = .ok (.putfield 9, 3) := by decide +kernel
theorem d3_17 : decode jdk_42_method_149_code 17 = .ok (.aload_n 0, 1) := by decide +kernel
theorem d3_18 : decode jdk_42_method_149_code 18 = .ok (.ldc 7, 2) := by decide +kernel
theorem d3_20 : decode jdk_42_method_149_code 20 = .ok (.getfield 15, 3) := by decide +kernel
theorem d3_23 : decode jdk_42_method_149_code 23 = .ok (.putfield 15, 3) := by decide +kernel
theorem d3_26 : decode jdk_42_method_149_code 26 = .ok (.return_, 1) := by decide +kernel
theorem pn_0 : plainName "java/lang/String" = true := by first | (simp [plainName, overriddenIn]; done) | decide +kernel
theorem ef_rmI4z (m : MethodId) (x0 : Addr) (x1 : Addr) (x2 : Int32) (x3 : Int32) : entryFrame m #[(.ref x0), (.ref x1), (.int x2), (.int x2), .null] 6 = mkF m 0 #[.val (.ref x0), .val (.ref x1), .val (.int x2), .val (.int x2), .val .null, .unset] [] := by first | (simp [entryFrame, mkF, argsToLocals, Value.category]; done) | rfl
def Q_rmI4z (Z : State) (r0 : Addr) (r1 : Addr) (cs : Int32) (fm : Value) (h0 : Heap) (n0 : Nat) (v : Option Value) (h : Heap) (L : List Loc) : Prop := v = none ∧ Fr n0 L ∧ Keep h0 h [r0] ∧ Exa Z h r0 "java/lang/String" ∧ ∃ y ky, Fld Z h r0 "java/lang/String" "value" "[B" (.ref y) ∧ Fld Z h r0 "java/lang/String" "coder" "B" (.int (0 : Int32)) ∧ Arv Z h y ky .byte (0 : Int32) [] (.int (0 : Int32))
set_option maxRecDepth 65536 in
set_option maxHeartbeats 40000000 in
theorem rmI4z (l : Launch) (Z : State) (a0 : Array Value) (hw : ∀ d ∈ tables_1, d.before a0 Z = true) (ws : List Jvm.Cond) (r0 : Addr) (r1 : Addr) (cs : Int32) (fm : Value) (h0 : Heap) (n0 : Nat) (Z0 : n0 ≤ h0.size) (SB : own_St Z cs fm) (Od : Old Z n0 h0) (Fv : Fld Z h0 r0 "java/lang/String" "value" "[B" .null) (Fc : Fld Z h0 r0 "java/lang/String" "coder" "B" (.int (0 : Int32))) (Et : Exa Z h0 r0 "java/lang/String") (g_r0 : n0 ≤ r0) :
    MetFree l (⟨"java/lang/String", "<init>", "([CIILjava/lang/Void;)V"⟩ : MethodName) (head1 (Jvm.Cond.code (⟨"java/lang/String", "<init>", "([CIILjava/lang/Void;)V"⟩ : MethodName) jdk_42_method_149_code 6 none :: ws) ({ frames := 1, cells := 4, slots := 8, locals := 12 } : Room)) (fun a U => a = #[(.ref r0), (.ref r1), (.int (0 : Int32)), (.int (0 : Int32)), .null] ∧ Z.Warmed39 U.vm ∧ U.heap = h0 ∧ CHv Z own_EL U.vm h0) (fun _ _ _ _ _ => True) (fun _ U o U' => ∃ v L, o = .returned v ∧ Q_rmI4z Z r0 r1 cs fm h0 n0 v U'.heap L ∧ CHr Z own_EL U.vm U.heap U'.vm U'.heap ∧ ReturnedEndW U o U' L ({ frames := 1, cells := 4, slots := 8, locals := 12 } : Room).cells ({ frames := 1, cells := 4, slots := 8, locals := 12 } : Room).slots) := by
  refine MetFree.of_bodySF (plainFor_of_name pn_0) hisR ?_
  intro p e s m args below meth c s₁ Bd hml0 hP hK
  obtain ⟨rfl, hZ, hh, hCH⟩ := hP
  have hx := Bd.exec
  have hby := Bd.bytes
  have hml : c.maxLocals = 6 := hml0
  have hown : s.vm.findClass "java/lang/String" = some m.cls := findClass_of_methodNamed Bd.named
  have hnm := (name_of_methodNamed Bd.named Bd.method).1
  have X0 : Stand p l e ({ frames := 1, cells := 4, slots := 8, locals := 12 } : Room) s m #[(.ref r0), (.ref r1), (.int (0 : Int32)), (.int (0 : Int32)), .null] below meth c s₁ [] 0 0 := Stand.of_body Bd
  have e0 : s₁.heap = h0 := by rw [← hh, Bd.state]; rfl
  have N0 := Fr.nil n0
  have pre0 : ∀ t, Steps p.tables e below (s₁.setTop (mkF m 0 #[.val (.ref r0), .val (.ref r1), .val (.int (0 : Int32)), .val (.int (0 : Int32)), .val .null, .unset] [])) t → Steps p.tables e below (s₁.setTop (entryFrame m #[(.ref r0), (.ref r1), (.int (0 : Int32)), (.int (0 : Int32)), .null] 6)) t := fun t k => castTop (ef_rmI4z m r0 r1 (0 : Int32) (0 : Int32)) k
  have CA := CHr.refl hCH
  have hEL := own_hEL hw
  have wS : ∀ a ∈ Bundle.stringAtoms, a.before a0 Z = true := fun d hd => hw d ((by decide +kernel : ∀ d ∈ Bundle.stringAtoms, d ∈ tables_1) d hd)
  have Kp : Keep h0 h0 [r0] := Keep.refl _ _
  have Sf := own_safe_null (EL := own_EL) hZ.alike Et Fv
  have st1 : own_S p e below s₁ (mkF m 1 #[.val (.ref r0), .val (.ref r1), .val (.int (0 : Int32)), .val (.int (0 : Int32)), .val .null, .unset] [(.ref r0)]) (mkF m 0 #[.val (.ref r0), .val (.ref r1), .val (.int (0 : Int32)), .val (.int (0 : Int32)), .val .null, .unset] []) := by
    intro target kt
    refine XS.aloadN X0.here hx rfl (hb hby d3_0) rfl rfl ?_
    exact kt
  obtain ⟨T2, X2, e2, st2⟩ := initO X0 hx hZ hown (own_w hw 15 rfl) (own_w hw 16 rfl) (own_w hw 17 rfl) e0 (g := (mkF m 1 #[.val (.ref r0), .val (.ref r1), .val (.int (0 : Int32)), .val (.int (0 : Int32)), .val .null, .unset] [(.ref r0)])) rfl (by rw [hml]; rfl) rfl (hb hby d3_1) (by decide) (W := 0) (by show 2 * 0 + _ ≤ _; exact Nat.le_of_eq rfl) (by decide)
  have st3 : own_S p e below T2 (mkF m 9 #[.val (.ref r0), .val (.ref r1), .val (.int (0 : Int32)), .val (.int (0 : Int32)), .val .null, .unset] [(.ref r0)]) (mkF m 4 #[.val (.ref r0), .val (.ref r1), .val (.int (0 : Int32)), .val (.int (0 : Int32)), .val .null, .unset] []) := by
    intro target kt
    refine XS.iloadN X2.here hx rfl (hb hby d3_4) rfl ?_
    refine XS.ifNo X2.here hx rfl (hb hby d3_5) rfl ((if0 _ _).trans (teq (rfl : (0 : Int32) = (0 : Int32))).2) ?_
    refine XS.aloadN X2.here hx rfl (hb hby d3_8) rfl rfl ?_
    exact kt
  obtain ⟨e1, T4, h4, k1_4, b1, kb4, X4, e4, E4, hS, kz_4, hZ, hown, Ex4, Fc4, Fv4, V4, lx4, lb4, CHn4, -, sf4, st4⟩ := ldcCH (s := s) (vm0 := s.vm) X2 hx hZ hown (own_w hw 18 rfl) wS e2 ((State.WarmedH.refl s).since 0) (Nat.zero_le _) hEL own_mem CA.1 (vs := []) (z := (0 : Int32)) ⟨fun c hc => absurd hc (by simp), rfl⟩ (by decide) rfl (g := (mkF m 9 #[.val (.ref r0), .val (.ref r1), .val (.int (0 : Int32)), .val (.int (0 : Int32)), .val .null, .unset] [(.ref r0)])) rfl (hb hby d3_9) (n := 0) (by decide) (by decide) (by decide) (by decide)
  have Od_4 := Od.ext E4
  have Et_4 := Et.ext E4
  have Fv_4 := Fv.ext E4
  have Fc_4 := Fc.ext E4
  have Sf_4 := CHr.safe CHn4 Et.lt Sf
  have CA_4 := CA.trans CHn4
  have Z_4 : n0 ≤ h4.size := Nat.le_trans Z0 E4.1
  have Kp_4 : Keep h0 h4 [r0] := Kp.ext E4
  have ne_r0_e1 := (sf4 r0 Sf_4).1
  have ne_r0_b1 := (sf4 r0 Sf_4).2
  obtain ⟨T5, X5, e5, st5⟩ := getF X4 hx hZ hown (host := "") (Or.inl (own_w hw 24 rfl)) Via.refl e4 Fv4 (g := (mkF m 11 #[.val (.ref r0), .val (.ref r1), .val (.int (0 : Int32)), .val (.int (0 : Int32)), .val .null, .unset] [(.ref e1), (.ref r0)])) rfl rfl (hb hby d3_11)
  obtain ⟨T6, h6, X6, e6, W6, st6⟩ := putF X5 hx hZ hown (host := "") (Or.inl (own_w hw 24 rfl)) Via.refl e5 Fv_4 Et_4 (Or.inr ⟨(own_w hw 20 rfl), rfl, hnm⟩) (own_w hw 6 rfl) (ty := (.array .byte)) (by decide) rfl rfl (g := (mkF m 14 #[.val (.ref r0), .val (.ref r1), .val (.int (0 : Int32)), .val (.int (0 : Int32)), .val .null, .unset] [(.ref b1), (.ref r0)])) rfl rfl (hb hby d3_14)
  have F_value_r0_6 : Fld Z h6 r0 "java/lang/String" "value" "[B" (.ref b1) := Fv_4.same W6
  have Od_6 := Od_4.wr W6 g_r0
  have Et_6 := Et_4.wr W6
  have Fc_6 := Fc_4.other W6 (Or.inr (slot_ne (Or.inr (own_w hw 21 rfl)) (Or.inr (own_w hw 20 rfl)) (by decide) (t := .byte) (t' := (.array .byte)) (by decide) (by decide)))
  have Sf_6 := Safe.wr W6 Sf_4 CA_4.1 Sf_4
  have Ex4_6 := Ex4.wr W6
  have Fc4_6 := Fc4.other W6 (Or.inl (Ne.symm ne_r0_e1))
  have Fv4_6 := Fv4.other W6 (Or.inl (Ne.symm ne_r0_e1))
  have V4_6 := V4.other W6 (Ne.symm ne_r0_b1)
  have CA_6 := CA_4.trans (CHr.wr W6 Sf_4 CA_4.1)
  have Z_6 : n0 ≤ h6.size := Nat.le_trans Z_4 (Keep.of_wr W6).1
  have kz_6 : k1_4 ≤ h6.size := Nat.le_trans kz_4 (Keep.of_wr W6).1
  have Kp_6 : Keep h0 h6 [r0] := Kp_4.wr W6 (Or.inl (List.mem_of_getElem? (i := 0) rfl))
  have N6 := Fr.snoc X6 N0 g_r0
  have st7 : own_S p e below T6 (mkF m 18 #[.val (.ref r0), .val (.ref r1), .val (.int (0 : Int32)), .val (.int (0 : Int32)), .val .null, .unset] [(.ref r0)]) (mkF m 17 #[.val (.ref r0), .val (.ref r1), .val (.int (0 : Int32)), .val (.int (0 : Int32)), .val .null, .unset] []) := by
    intro target kt
    refine XS.aloadN X6.here hx rfl (hb hby d3_17) rfl rfl ?_
    exact kt
  obtain ⟨e2, T8, h8, k1_8, b2, kb8, X8, e8, E8, hS, kz_8, hZ, hown, Ex8, Fc8, Fv8, V8, lx8, lb8, CHn8, -, sf8, st8⟩ := ldcCH (s := s) (vm0 := T4.vm) X6 hx hZ hown (own_w hw 18 rfl) wS e6 hS kz_6 hEL own_mem CA_6.1 (vs := []) (z := (0 : Int32)) ⟨fun c hc => absurd hc (by simp), rfl⟩ (by decide) rfl (g := (mkF m 18 #[.val (.ref r0), .val (.ref r1), .val (.int (0 : Int32)), .val (.int (0 : Int32)), .val .null, .unset] [(.ref r0)])) rfl (hb hby d3_18) (n := 0) (by decide) (by decide) (by decide) (by decide)
  have Od_8 := Od_6.ext E8
  have Et_8 := Et_6.ext E8
  have Fc_8 := Fc_6.ext E8
  have Sf_8 := CHr.safe CHn8 Et_6.lt Sf_6
  have Ex4_8 := Ex4_6.ext E8
  have Fc4_8 := Fc4_6.ext E8
  have Fv4_8 := Fv4_6.ext E8
  have V4_8 := V4_6.ext E8
  have F_value_r0_8 := F_value_r0_6.ext E8
  have CA_8 := CA_6.trans CHn8
  have Z_8 : n0 ≤ h8.size := Nat.le_trans Z_6 E8.1
  have Kp_8 : Keep h0 h8 [r0] := Kp_6.ext E8
  have ne_r0_e2 := (sf8 r0 Sf_8).1
  have ne_r0_b2 := (sf8 r0 Sf_8).2
  obtain ⟨T9, X9, e9, st9⟩ := getF X8 hx hZ hown (host := "") (Or.inl (own_w hw 25 rfl)) Via.refl e8 Fc8 (g := (mkF m 20 #[.val (.ref r0), .val (.ref r1), .val (.int (0 : Int32)), .val (.int (0 : Int32)), .val .null, .unset] [(.ref e2), (.ref r0)])) rfl rfl (hb hby d3_20)
  obtain ⟨T10, h10, X10, e10, W10, st10⟩ := putFN X9 hx hZ hown (own_w hw 25 rfl) Via.refl e9 Fc_8 Et_8 (Or.inr ⟨(own_w hw 21 rfl), rfl, hnm⟩) (own_w hw 6 rfl) (ty := .byte) (v' := (.int (nar .byte (0 : Int32)))) (by decide) rfl (fits_nar_byte _) (g := (mkF m 23 #[.val (.ref r0), .val (.ref r1), .val (.int (0 : Int32)), .val (.int (0 : Int32)), .val .null, .unset] [(.int (0 : Int32)), (.ref r0)])) rfl rfl (hb hby d3_23)
  have F_coder_r0_10 : Fld Z h10 r0 "java/lang/String" "coder" "B" (.int (nar .byte (0 : Int32))) := Fc_8.same W10
  have Od_10 := Od_8.wr W10 g_r0
  have Et_10 := Et_8.wr W10
  have Sf_10 := Safe.wr W10 Sf_8 CA_8.1 Sf_8
  have Ex4_10 := Ex4_8.wr W10
  have Fc4_10 := Fc4_8.other W10 (Or.inl (Ne.symm ne_r0_e1))
  have Fv4_10 := Fv4_8.other W10 (Or.inl (Ne.symm ne_r0_e1))
  have V4_10 := V4_8.other W10 (Ne.symm ne_r0_b1)
  have F_value_r0_10 := F_value_r0_8.other W10 (Or.inr (slot_ne (Or.inr (own_w hw 20 rfl)) (Or.inr (own_w hw 21 rfl)) (by decide) (t := (.array .byte)) (t' := .byte) (by decide) (by decide)))
  have Ex8_10 := Ex8.wr W10
  have Fc8_10 := Fc8.other W10 (Or.inl (Ne.symm ne_r0_e2))
  have Fv8_10 := Fv8.other W10 (Or.inl (Ne.symm ne_r0_e2))
  have V8_10 := V8.other W10 (Ne.symm ne_r0_b2)
  have CA_10 := CA_8.trans (CHr.wr W10 Sf_8 CA_8.1)
  have Z_10 : n0 ≤ h10.size := Nat.le_trans Z_8 (Keep.of_wr W10).1
  have kz_10 : k1_8 ≤ h10.size := Nat.le_trans kz_8 (Keep.of_wr W10).1
  have Kp_10 : Keep h0 h10 [r0] := Kp_8.wr W10 (Or.inl (List.mem_of_getElem? (i := 0) rfl))
  have N10 := Fr.snoc X10 N6 g_r0
  obtain ⟨fs, hr, hrun, hended, hRW⟩ := Jvm.Stand.leaveW (s := s) X10 hS (by rw [e10]; exact kz_10) (v := none) (fun h => by rfl)
  have CE : CHr Z own_EL s.vm s.heap T10.vm T10.heap := by
    rw [hh, e10]
    exact CA_10.trans (CHv.at (vm0 := T8.vm) (s := s) X10 hZ hEL CA_10.1)
  refine ⟨_, _, pre0 _ (st1 _ (st2 _ (st3 _ (st4 _ (st5 _ (st6 _ (st7 _ (st8 _ (st9 _ (st10 _ ?_)))))))))), hrun, hended, _, _, rfl, ?_, CE, hRW.1, hRW.2.1, hRW.2.2.1, hRW.2.2.2.mono (by decide) (by decide)⟩
  · show Steps p.tables e below (T10.setTop (mkF m 26 #[.val (.ref r0), .val (.ref r1), .val (.int (0 : Int32)), .val (.int (0 : Int32)), .val .null, .unset] [])) _
    exact X10.returnOut hx Bd.returns (hb hby d3_26) hr
  · show Q_rmI4z Z r0 r1 cs fm h0 n0 _ T10.heap _
    rw [e10]
    exact ⟨rfl, N10, Kp_10, Et_10, b1, _, F_value_r0_10, F_coder_r0_10, V4_10⟩
theorem d2_0 : decode jdk_42_method_3_code 0 = .ok (.aload_n 0, 1) := by decide +kernel
theorem d2_1 : decode jdk_42_method_3_code 1 = .ok (.aload_n 1, 1) := by decide +kernel
theorem d2_2 : decode jdk_42_method_3_code 2 = .ok (.iconst 0, 1) := by decide +kernel
theorem d2_3 : decode jdk_42_method_3_code 3 = .ok (.aload_n 1, 1) := by decide +kernel
theorem d2_4 : decode jdk_42_method_3_code 4 = .ok (.arraylength, 1) := by decide +kernel
theorem d2_5 : decode jdk_42_method_3_code 5 = .ok (.aconst_null, 1) := by decide +kernel
theorem d2_6 : decode jdk_42_method_3_code 6 = .ok (.invokespecial 27, 3) := by decide +kernel
theorem d2_9 : decode jdk_42_method_3_code 9 = .ok (.return_, 1) := by decide +kernel
theorem ef_rmI1z (m : MethodId) (x0 : Addr) (x1 : Addr) : entryFrame m #[(.ref x0), (.ref x1)] 2 = mkF m 0 #[.val (.ref x0), .val (.ref x1)] [] := by first | (simp [entryFrame, mkF, argsToLocals, Value.category]; done) | rfl
def Q_rmI1z (Z : State) (r0 : Addr) (r1 : Addr) (cs : Int32) (fm : Value) (kc : ClassId) (h0 : Heap) (n0 : Nat) (v : Option Value) (h : Heap) (L : List Loc) : Prop := v = none ∧ Fr n0 L ∧ Keep h0 h [r0] ∧ Exa Z h r0 "java/lang/String" ∧ ∃ y ky, Fld Z h r0 "java/lang/String" "value" "[B" (.ref y) ∧ Fld Z h r0 "java/lang/String" "coder" "B" (.int (0 : Int32)) ∧ Arv Z h y ky .byte (0 : Int32) [] (.int (0 : Int32))
set_option maxRecDepth 65536 in
set_option maxHeartbeats 40000000 in
theorem rmI1z (l : Launch) (Z : State) (a0 : Array Value) (hw : ∀ d ∈ tables_1, d.before a0 Z = true) (ws : List Jvm.Cond) (r0 : Addr) (r1 : Addr) (cs : Int32) (fm : Value) (kc : ClassId) (h0 : Heap) (n0 : Nat) (Z0 : n0 ≤ h0.size) (SB : own_St Z cs fm) (Od : Old Z n0 h0) (Fv : Fld Z h0 r0 "java/lang/String" "value" "[B" .null) (Fc : Fld Z h0 r0 "java/lang/String" "coder" "B" (.int (0 : Int32))) (Et : Exa Z h0 r0 "java/lang/String") (g_r0 : n0 ≤ r0) (Vc : Arv Z h0 r1 kc .char (0 : Int32) [] (.int (0 : Int32))) :
    MetFree l (⟨"java/lang/String", "<init>", "([C)V"⟩ : MethodName) (head1 (Jvm.Cond.code (⟨"java/lang/String", "<init>", "([C)V"⟩ : MethodName) jdk_42_method_3_code 2 none :: ws) ({ frames := 2, cells := 4, slots := 8, locals := 29 } : Room)) (fun a U => a = #[(.ref r0), (.ref r1)] ∧ Z.Warmed39 U.vm ∧ U.heap = h0 ∧ CHv Z own_EL U.vm h0) (fun _ _ _ _ _ => True) (fun _ U o U' => ∃ v L, o = .returned v ∧ Q_rmI1z Z r0 r1 cs fm kc h0 n0 v U'.heap L ∧ CHr Z own_EL U.vm U.heap U'.vm U'.heap ∧ ReturnedEndW U o U' L ({ frames := 2, cells := 4, slots := 8, locals := 29 } : Room).cells ({ frames := 2, cells := 4, slots := 8, locals := 29 } : Room).slots) := by
  refine MetFree.of_bodySF (plainFor_of_name pn_0) hisR ?_
  intro p e s m args below meth c s₁ Bd hml0 hP hK
  obtain ⟨rfl, hZ, hh, hCH⟩ := hP
  have hx := Bd.exec
  have hby := Bd.bytes
  have hml : c.maxLocals = 2 := hml0
  have hown : s.vm.findClass "java/lang/String" = some m.cls := findClass_of_methodNamed Bd.named
  have hnm := (name_of_methodNamed Bd.named Bd.method).1
  have X0 : Stand p l e ({ frames := 2, cells := 4, slots := 8, locals := 29 } : Room) s m #[(.ref r0), (.ref r1)] below meth c s₁ [] 0 0 := Stand.of_body Bd
  have e0 : s₁.heap = h0 := by rw [← hh, Bd.state]; rfl
  have N0 := Fr.nil n0
  have pre0 : ∀ t, Steps p.tables e below (s₁.setTop (mkF m 0 #[.val (.ref r0), .val (.ref r1)] [])) t → Steps p.tables e below (s₁.setTop (entryFrame m #[(.ref r0), (.ref r1)] 2)) t := fun t k => castTop (ef_rmI1z m r0 r1) k
  have CA := CHr.refl hCH
  have hEL := own_hEL hw
  have wS : ∀ a ∈ Bundle.stringAtoms, a.before a0 Z = true := fun d hd => hw d ((by decide +kernel : ∀ d ∈ Bundle.stringAtoms, d ∈ tables_1) d hd)
  have Kp : Keep h0 h0 [r0] := Keep.refl _ _
  have Sf := own_safe_null (EL := own_EL) hZ.alike Et Fv
  have st1 : own_S p e below s₁ (mkF m 4 #[.val (.ref r0), .val (.ref r1)] [(.ref r1), (.int (0 : Int32)), (.ref r1), (.ref r0)]) (mkF m 0 #[.val (.ref r0), .val (.ref r1)] []) := by
    intro target kt
    refine XS.aloadN X0.here hx rfl (hb hby d2_0) rfl rfl ?_
    refine XS.aloadN X0.here hx rfl (hb hby d2_1) rfl rfl ?_
    refine XS.iconst X0.here hx rfl (hb hby d2_2) ?_
    refine XS.aloadN X0.here hx rfl (hb hby d2_3) rfl rfl ?_
    exact kt
  obtain ⟨cl2, Ar2, qc2, Sz2, Mn2, Hs2, Gs2⟩ := id Vc
  have st2 : own_S p e below s₁ (mkF m 5 #[.val (.ref r0), .val (.ref r1)] [(.int (0 : Int32)), (.int (0 : Int32)), (.ref r1), (.ref r0)]) (mkF m 4 #[.val (.ref r0), .val (.ref r1)] [(.ref r1), (.int (0 : Int32)), (.ref r1), (.ref r0)]) := fun target kt => X0.arraylength hx (cell := cl2) (by rw [e0]; exact Ar2.1) (State.isArrayOf_alike hZ.alike Ar2.2.1) (g := (mkF m 4 #[.val (.ref r0), .val (.ref r1)] [(.ref r1), (.int (0 : Int32)), (.ref r1), (.ref r0)])) rfl rfl (hb hby d2_4) _ (by rw [len_of Sz2 Mn2]; exact kt)
  have st3 : own_S p e below s₁ (mkF m 6 #[.val (.ref r0), .val (.ref r1)] [.null, (.int (0 : Int32)), (.int (0 : Int32)), (.ref r1), (.ref r0)]) (mkF m 5 #[.val (.ref r0), .val (.ref r1)] [(.int (0 : Int32)), (.int (0 : Int32)), (.ref r1), (.ref r0)]) := by
    intro target kt
    refine XS.aconstNull X0.here hx rfl (hb hby d2_5) ?_
    exact kt
  obtain ⟨_, _, ⟨T4, L4, k4, n4⟩, -, X4, hSi4, hge4, ⟨Lc4, hQ4, l4, y4, z4, CHn4⟩, st4⟩ := X0.specialBackS hx (y := (⟨"java/lang/String", "<init>", "([CIILjava/lang/Void;)V"⟩ : MethodName)) rfl hown (mvT hZ (own_w hw 11 rfl)) (mvT hZ (own_w hw 12 rfl)) (mvT hZ (own_w hw 14 rfl)) (by decide) (backOfSH (vm0 := s.vm) (s := s) (W := 0) (rmI4z l Z a0 hw [] r0 r1 cs fm h0 n0 Z0 SB Od Fv Fc Et g_r0) hZ (own_w hw 14 rfl) (own_w hw 7 rfl) (by decide) (by decide) hEL CA.1) (g := (mkF m 6 #[.val (.ref r0), .val (.ref r1)] [.null, (.int (0 : Int32)), (.int (0 : Int32)), (.ref r1), (.ref r0)])) rfl (by rw [hml]; rfl) (Steps.refl _) (a := r0) (argsL := [(.ref r1), (.int (0 : Int32)), (.int (0 : Int32)), .null]) (rest := []) (lenOf pd_2 rfl) rfl (by show 2 * 0 + _ ≤ _; exact Nat.le_of_eq rfl) (hb hby d2_6) (fun _ _ => ⟨rfl, e0, (by decide : 0 + 4 ≤ _), (by decide : 0 + 8 ≤ _)⟩)
  dsimp only [Pt.U, Pt.locs, Pt.cells, Pt.slots] at X4 l4 y4 z4 st4 hQ4 hSi4 hge4 CHn4
  subst l4 y4 z4
  have hS := foldS (s := s) (vm0 := s.vm) ((State.WarmedH.refl s).since 0) (Nat.zero_le _) hSi4 hge4
  have hZ : Z.Warmed39 (s.setVm T4.vm).vm := State.Warmed39.trans (t := s.setVm s.vm) hZ hSi4.1
  have hown : (s.setVm T4.vm).vm.findClass "java/lang/String" = some m.cls := by rw [show (s.setVm T4.vm).vm = T4.vm from rfl, hSi4.1.alike.findClass]; exact hown
  have X4 : Stand p l e ({ frames := 2, cells := 4, slots := 8, locals := 29 } : Room) (s.setVm T4.vm) m #[(.ref r0), (.ref r1)] below meth c T4 _ _ _ := X4
  obtain ⟨rfl, Nq4, K4, rest_⟩ := hQ4
  have N4 := Fr.app N0 Nq4
  have Od_4 := Od.keep K4 (allS g_r0 (all0))
  have Et_4 := Et.keep K4
  have Sf_4 := CHr.safe CHn4 Et.lt Sf
  have CA_4 := CA.trans CHn4
  have Z_4 : n0 ≤ T4.heap.size := Nat.le_trans Z0 K4.1
  have Kp_4 : Keep h0 T4.heap [r0] := Kp.trans K4 (allS (Or.inl (List.mem_of_getElem? (i := 0) rfl)) (all0))
  have kz_4 : T4.heap.size ≤ T4.heap.size := Nat.le_refl _
  obtain ⟨fs, hr, hrun, hended, hRW⟩ := Jvm.Stand.leaveW (s := s) X4 hS kz_4 (v := none) (fun h => by rfl)
  have CE : CHr Z own_EL s.vm s.heap T4.vm T4.heap := by
    rw [hh]
    exact CA_4.trans (CHv.at (vm0 := T4.vm) (s := s) X4 hZ hEL CA_4.1)
  refine ⟨_, _, pre0 _ (st1 _ (st2 _ (st3 _ (st4.trans ?_)))), hrun, hended, _, _, rfl, ?_, CE, hRW.1, hRW.2.1, hRW.2.2.1, hRW.2.2.2.mono (by decide) (by decide)⟩
  · show Steps p.tables e below (T4.setTop (mkF m 9 #[.val (.ref r0), .val (.ref r1)] [])) _
    exact X4.returnOut hx Bd.returns (hb hby d2_9) hr
  · show Q_rmI1z Z r0 r1 cs fm kc h0 n0 _ T4.heap _
    exact ⟨rfl, N4, Kp_4, rest_⟩
def own_c7 (c : Int32) : Prop := 0 ≤ c.toInt ∧ c.toInt < 128
theorem own_i8 {c : Int32} (h : own_c7 c) : c.toInt8.toInt32 = c := by
  obtain ⟨h0, h1⟩ := h; have a := c_i2b c; apply Int32.toInt_inj.mp; omega
theorem own_nb {c : Int32} (h : own_c7 c) : nar .byte (c.toInt8.toInt32) = c := by
  show (c.toInt8.toInt32).toInt8.toInt32 = c; rw [own_i8 h, own_i8 h]
theorem own_c7c {c : Int32} (h : own_c7 c) : own_ch c := ⟨h.1, by have := h.2; omega⟩
theorem own_nc2 {c : Int32} (h : own_c7 c) : nar .char (c.toUInt32.toUInt16.toUInt32.toInt32) = c := by
  have e : c.toUInt32.toUInt16.toUInt32.toInt32 = c := own_ncI (own_c7c h)
  rw [e]; exact own_ncI (own_c7c h)
theorem own_l1 {c : Int32} (h : own_c7 c) : ¬ (255 : Int32) < c := by
  rw [Int32.lt_iff_toInt_lt, show (255 : Int32).toInt = 255 from rfl]; have := h.2; omega
theorem own_l3 {c : Int32} (h : own_c7 c) : ¬ (65535 : Int32) < c := by
  rw [Int32.lt_iff_toInt_lt, show (65535 : Int32).toInt = 65535 from rfl]; have := h.2; omega
abbrev own_bs (cs : List Int32) : List Value := (cs.map (fun c : Int32 => c.toInt8.toInt32)).map Value.int
theorem own_hp {cs : List Int32} (h : ∀ c ∈ cs, own_c7 c) : ∀ c ∈ cs, ¬ c < 0 ∧ ¬ (255 : Int32) < c := fun c hc => ⟨own_nlt0 (h c hc).1, own_l1 (h c hc)⟩
theorem own_hp2 {cs : List Int32} (h : ∀ c ∈ cs, own_c7 c) : ∀ c ∈ cs, ¬ c < 0 ∧ ¬ (65535 : Int32) < c := fun c hc => ⟨own_nlt0 (h c hc).1, own_l3 (h c hc)⟩
theorem own_hp1 {cs : List Int32} (h : ∀ c ∈ cs, own_c7 c) : ∀ c ∈ cs, ¬ (255 : Int32) < c := fun c hc => own_l1 (h c hc)
theorem own_all0 {P : Int32 → Prop} : ∀ c ∈ ([] : List Int32), P c := fun c hc => absurd hc (by simp)
theorem own_allS {P : Int32 → Prop} {x : Int32} {xs : List Int32} (a : P x) (b : ∀ c ∈ xs, P c) : ∀ c ∈ x :: xs, P c := fun c hc => by
  rcases List.mem_cons.mp hc with rfl | q
  · exact a
  · exact b c q
def own_mk (n : Int32) (cs : List Int32) (x0 x1 x2 : Int32) : Prop := (n = 0 ∧ cs = []) ∨ (n = 1 ∧ cs = [x0]) ∨ (n = 2 ∧ cs = [x0, x1]) ∨ (n = 3 ∧ cs = [x0, x1, x2])
theorem d1_0 : decode method_3_code 0 = .ok (.iload_n 0, 1) := by decide +kernel
theorem d1_1 : decode method_3_code 1 = .ok (.ifCond .ne 14, 3) := by decide +kernel
theorem d1_4 : decode method_3_code 4 = .ok (.new 27, 3) := by decide +kernel
theorem d1_7 : decode method_3_code 7 = .ok (.dup, 1) := by decide +kernel
theorem d1_8 : decode method_3_code 8 = .ok (.iconst 0, 1) := by decide +kernel
theorem d1_9 : decode method_3_code 9 = .ok (.newarray .char, 2) := by decide +kernel
theorem d1_11 : decode method_3_code 11 = .ok (.invokespecial 36, 3) := by decide +kernel
theorem d1_14 : decode method_3_code 14 = .ok (.areturn, 1) := by decide +kernel
theorem d1_15 : decode method_3_code 15 = .ok (.iload_n 0, 1) := by decide +kernel
theorem d1_16 : decode method_3_code 16 = .ok (.iconst 1, 1) := by decide +kernel
theorem d1_17 : decode method_3_code 17 = .ok (.if_icmp .ne 20, 3) := by decide +kernel
theorem d1_20 : decode method_3_code 20 = .ok (.new 27, 3) := by decide +kernel
theorem d1_23 : decode method_3_code 23 = .ok (.dup, 1) := by decide +kernel
theorem d1_24 : decode method_3_code 24 = .ok (.iconst 1, 1) := by decide +kernel
theorem d1_25 : decode method_3_code 25 = .ok (.newarray .char, 2) := by decide +kernel
theorem d1_27 : decode method_3_code 27 = .ok (.dup, 1) := by decide +kernel
theorem d1_28 : decode method_3_code 28 = .ok (.iconst 0, 1) := by decide +kernel
theorem d1_29 : decode method_3_code 29 = .ok (.aload_n 1, 1) := by decide +kernel
theorem d1_30 : decode method_3_code 30 = .ok (.iconst 0, 1) := by decide +kernel
theorem d1_31 : decode method_3_code 31 = .ok (.caload, 1) := by decide +kernel
theorem d1_32 : decode method_3_code 32 = .ok (.castore, 1) := by decide +kernel
theorem d1_33 : decode method_3_code 33 = .ok (.invokespecial 36, 3) := by decide +kernel
theorem d1_36 : decode method_3_code 36 = .ok (.areturn, 1) := by decide +kernel
theorem d1_37 : decode method_3_code 37 = .ok (.iload_n 0, 1) := by decide +kernel
theorem d1_38 : decode method_3_code 38 = .ok (.iconst 2, 1) := by decide +kernel
theorem d1_39 : decode method_3_code 39 = .ok (.if_icmp .ne 26, 3) := by decide +kernel
theorem d1_42 : decode method_3_code 42 = .ok (.new 27, 3) := by decide +kernel
theorem d1_45 : decode method_3_code 45 = .ok (.dup, 1) := by decide +kernel
theorem d1_46 : decode method_3_code 46 = .ok (.iconst 2, 1) := by decide +kernel
theorem d1_47 : decode method_3_code 47 = .ok (.newarray .char, 2) := by decide +kernel
theorem d1_49 : decode method_3_code 49 = .ok (.dup, 1) := by decide +kernel
theorem d1_50 : decode method_3_code 50 = .ok (.iconst 0, 1) := by decide +kernel
theorem d1_51 : decode method_3_code 51 = .ok (.aload_n 1, 1) := by decide +kernel
theorem d1_52 : decode method_3_code 52 = .ok (.iconst 0, 1) := by decide +kernel
theorem d1_53 : decode method_3_code 53 = .ok (.caload, 1) := by decide +kernel
theorem d1_54 : decode method_3_code 54 = .ok (.castore, 1) := by decide +kernel
theorem d1_55 : decode method_3_code 55 = .ok (.dup, 1) := by decide +kernel
theorem d1_56 : decode method_3_code 56 = .ok (.iconst 1, 1) := by decide +kernel
theorem d1_57 : decode method_3_code 57 = .ok (.aload_n 1, 1) := by decide +kernel
theorem d1_58 : decode method_3_code 58 = .ok (.iconst 1, 1) := by decide +kernel
theorem d1_59 : decode method_3_code 59 = .ok (.caload, 1) := by decide +kernel
theorem d1_60 : decode method_3_code 60 = .ok (.castore, 1) := by decide +kernel
theorem d1_61 : decode method_3_code 61 = .ok (.invokespecial 36, 3) := by decide +kernel
theorem d1_64 : decode method_3_code 64 = .ok (.areturn, 1) := by decide +kernel
theorem d1_65 : decode method_3_code 65 = .ok (.new 27, 3) := by decide +kernel
theorem d1_68 : decode method_3_code 68 = .ok (.dup, 1) := by decide +kernel
theorem d1_69 : decode method_3_code 69 = .ok (.iconst 3, 1) := by decide +kernel
theorem d1_70 : decode method_3_code 70 = .ok (.newarray .char, 2) := by decide +kernel
theorem d1_72 : decode method_3_code 72 = .ok (.dup, 1) := by decide +kernel
theorem d1_73 : decode method_3_code 73 = .ok (.iconst 0, 1) := by decide +kernel
theorem d1_74 : decode method_3_code 74 = .ok (.aload_n 1, 1) := by decide +kernel
theorem d1_75 : decode method_3_code 75 = .ok (.iconst 0, 1) := by decide +kernel
theorem d1_76 : decode method_3_code 76 = .ok (.caload, 1) := by decide +kernel
theorem d1_77 : decode method_3_code 77 = .ok (.castore, 1) := by decide +kernel
theorem d1_78 : decode method_3_code 78 = .ok (.dup, 1) := by decide +kernel
theorem d1_79 : decode method_3_code 79 = .ok (.iconst 1, 1) := by decide +kernel
theorem d1_80 : decode method_3_code 80 = .ok (.aload_n 1, 1) := by decide +kernel
theorem d1_81 : decode method_3_code 81 = .ok (.iconst 1, 1) := by decide +kernel
theorem d1_82 : decode method_3_code 82 = .ok (.caload, 1) := by decide +kernel
theorem d1_83 : decode method_3_code 83 = .ok (.castore, 1) := by decide +kernel
theorem d1_84 : decode method_3_code 84 = .ok (.dup, 1) := by decide +kernel
theorem d1_85 : decode method_3_code 85 = .ok (.iconst 2, 1) := by decide +kernel
theorem d1_86 : decode method_3_code 86 = .ok (.aload_n 1, 1) := by decide +kernel
theorem d1_87 : decode method_3_code 87 = .ok (.iconst 2, 1) := by decide +kernel
theorem d1_88 : decode method_3_code 88 = .ok (.caload, 1) := by decide +kernel
theorem d1_89 : decode method_3_code 89 = .ok (.castore, 1) := by decide +kernel
theorem d1_90 : decode method_3_code 90 = .ok (.invokespecial 36, 3) := by decide +kernel
theorem d1_93 : decode method_3_code 93 = .ok (.areturn, 1) := by decide +kernel
theorem pn_1 : plainName "com/example/murray_hill/murrayhill/AsciiLineAppendPinLaw" = true := by first | (simp [plainName, overriddenIn]; done) | decide +kernel
theorem ef_rmMk0 (m : MethodId) (x0 : Int32) (x1 : Addr) : entryFrame m #[(.int x0), (.ref x1)] 2 = mkF m 0 #[.val (.int x0), .val (.ref x1)] [] := by first | (simp [entryFrame, mkF, argsToLocals, Value.category]; done) | rfl
def Q_rmMk0 (Z : State) (r1 : Addr) (cs : Int32) (fm : Value) (kc : ClassId) (x0 : Int32) (x1 : Int32) (x2 : Int32) (h0 : Heap) (n0 : Nat) (v : Option Value) (h : Heap) (L : List Loc) : Prop := ∃ t, v = some (.ref t) ∧ Fr n0 L ∧ Keep h0 h [] ∧ h0.size ≤ t ∧ Exa Z h t "java/lang/String" ∧ Fld Z h t "java/lang/String" "coder" "B" (.int (0 : Int32)) ∧ ∃ y ky, Fld Z h t "java/lang/String" "value" "[B" (.ref y) ∧ Arv Z h y ky .byte (0 : Int32) (own_bs ([] : List Int32)) (.int (0 : Int32))
set_option maxRecDepth 65536 in
set_option maxHeartbeats 40000000 in
theorem rmMk0 (l : Launch) (Z : State) (a0 : Array Value) (hw : ∀ d ∈ tables_1, d.before a0 Z = true) (ws : List Jvm.Cond) (r1 : Addr) (cs : Int32) (fm : Value) (kc : ClassId) (x0 : Int32) (x1 : Int32) (x2 : Int32) (h0 : Heap) (n0 : Nat) (Z0 : n0 ≤ h0.size) (SB : own_St Z cs fm) (Od : Old Z n0 h0) (Vc : Arv Z h0 r1 kc .char (3 : Int32) [(.int x0), (.int x1), (.int x2)] (.int (0 : Int32))) (ec0 : own_c7 x0) (ec1 : own_c7 x1) (ec2 : own_c7 x2) :
    MetFree l (⟨"com/example/murray_hill/murrayhill/AsciiLineAppendPinLaw", "make", "(I[C)Ljava/lang/String;"⟩ : MethodName) (head1 (Jvm.Cond.code (⟨"com/example/murray_hill/murrayhill/AsciiLineAppendPinLaw", "make", "(I[C)Ljava/lang/String;"⟩ : MethodName) method_3_code 2 (some (.object "java/lang/String")) :: ws) ({ frames := 4, cells := 6, slots := 12, locals := 66 } : Room)) (fun a U => a = #[(.int (0 : Int32)), (.ref r1)] ∧ Z.Warmed39 U.vm ∧ U.heap = h0 ∧ CHv Z own_EL U.vm h0) (fun _ _ _ _ _ => True) (fun _ U o U' => ∃ v L, o = .returned v ∧ Q_rmMk0 Z r1 cs fm kc x0 x1 x2 h0 n0 v U'.heap L ∧ CHr Z own_EL U.vm U.heap U'.vm U'.heap ∧ ReturnedEndW U o U' L ({ frames := 4, cells := 6, slots := 12, locals := 66 } : Room).cells ({ frames := 4, cells := 6, slots := 12, locals := 66 } : Room).slots) := by
  refine MetFree.of_bodySF (plainFor_of_name pn_1) hisR ?_
  intro p e s m args below meth c s₁ Bd hml0 hP hK
  obtain ⟨rfl, hZ, hh, hCH⟩ := hP
  have hx := Bd.exec
  have hby := Bd.bytes
  have hml : c.maxLocals = 2 := hml0
  have hown : s.vm.findClass "com/example/murray_hill/murrayhill/AsciiLineAppendPinLaw" = some m.cls := findClass_of_methodNamed Bd.named
  have hnm := (name_of_methodNamed Bd.named Bd.method).1
  have X0 : Stand p l e ({ frames := 4, cells := 6, slots := 12, locals := 66 } : Room) s m #[(.int (0 : Int32)), (.ref r1)] below meth c s₁ [] 0 0 := Stand.of_body Bd
  have e0 : s₁.heap = h0 := by rw [← hh, Bd.state]; rfl
  have N0 := Fr.nil n0
  have pre0 : ∀ t, Steps p.tables e below (s₁.setTop (mkF m 0 #[.val (.int (0 : Int32)), .val (.ref r1)] [])) t → Steps p.tables e below (s₁.setTop (entryFrame m #[(.int (0 : Int32)), (.ref r1)] 2)) t := fun t k => castTop (ef_rmMk0 m (0 : Int32) r1) k
  have CA := CHr.refl hCH
  have hEL := own_hEL hw
  have wS : ∀ a ∈ Bundle.stringAtoms, a.before a0 Z = true := fun d hd => hw d ((by decide +kernel : ∀ d ∈ Bundle.stringAtoms, d ∈ tables_1) d hd)
  have Kp : Keep h0 h0 [] := Keep.refl _ _
  have st1 : own_S p e below s₁ (mkF m 4 #[.val (.int (0 : Int32)), .val (.ref r1)] []) (mkF m 0 #[.val (.int (0 : Int32)), .val (.ref r1)] []) := by
    intro target kt
    refine XS.iloadN X0.here hx rfl (hb hby d1_0) rfl ?_
    refine XS.ifNo X0.here hx rfl (hb hby d1_1) rfl ((if0 _ _).trans (teq (rfl : (0 : Int32) = (0 : Int32))).2) ?_
    exact kt
  obtain ⟨T2, h2, X2, e2, E2, A2, D2, -, st2⟩ := newO X0 hx hZ hown (own_w hw 5 rfl) (own_w hw 6 rfl) (own_w hw 7 rfl) e0 (g := (mkF m 4 #[.val (.int (0 : Int32)), .val (.ref r1)] [])) rfl (hb hby d1_4) (by decide) (by decide)
  obtain ⟨t, g2⟩ : ∃ z, z = h0.size := ⟨_, rfl⟩
  rw [← g2] at A2 D2 st2
  have g_t : n0 ≤ t := Nat.le_trans Z0 (Nat.le_of_eq g2.symm)
  have sz_t : h0.size ≤ t := Nat.le_trans Kp.1 (Nat.le_of_eq g2.symm)
  have Sf_t : Safe Z own_EL s.vm h0 t := Safe.new (Nat.le_of_eq g2.symm)
  have ne_r1_t : r1 ≠ t := Nat.ne_of_lt (Nat.lt_of_lt_of_le Vc.lt (Nat.le_of_eq g2.symm))
  have Od_2 := Od.ext E2
  have Vc_2 := Vc.ext E2
  have Sf_t_2 := Safe.ext E2 CA.1 Sf_t
  have CA_2 := CA.trans (CHr.ext E2 CA.1)
  have Z_2 : n0 ≤ h2.size := Nat.le_trans Z0 E2.1
  have Kp_2 : Keep h0 h2 [] := Kp.ext E2
  have E_t : Exa Z h2 t "java/lang/String" := A2
  have F_value_t : Fld Z h2 t "java/lang/String" "value" "[B" .null := D2 (Or.inr (own_w hw 20 rfl)) (ty := (.array .byte)) (by decide)
  have F_coder_t : Fld Z h2 t "java/lang/String" "coder" "B" (.int (0 : Int32)) := D2 (Or.inr (own_w hw 21 rfl)) (ty := .byte) (by decide)
  have st3 : own_S p e below T2 (mkF m 9 #[.val (.int (0 : Int32)), .val (.ref r1)] [(.int (0 : Int32)), (.ref t), (.ref t)]) (mkF m 7 #[.val (.int (0 : Int32)), .val (.ref r1)] [(.ref t)]) := by
    intro target kt
    refine XS.dup X2.here hx rfl (hb hby d1_7) rfl rfl ?_
    refine XS.iconst X2.here hx rfl (hb hby d1_8) ?_
    exact kt
  obtain ⟨T4, h4, k4, X4, e4, E4, A4, st4⟩ := newP X2 hx hZ (own_w hw 0 rfl) e2 (g := (mkF m 9 #[.val (.int (0 : Int32)), .val (.ref r1)] [(.int (0 : Int32)), (.ref t), (.ref t)])) rfl (hb hby d1_9) rfl (by decide) (cap := 0) (by decide) (by decide) (by decide) (by decide)
  obtain ⟨q, g4⟩ : ∃ z, z = h2.size := ⟨_, rfl⟩
  rw [← g4] at A4 st4
  have g_q : n0 ≤ q := Nat.le_trans Z_2 (Nat.le_of_eq g4.symm)
  have sz_q : h0.size ≤ q := Nat.le_trans Kp_2.1 (Nat.le_of_eq g4.symm)
  have Sf_q : Safe Z own_EL s.vm h2 q := Safe.new (Nat.le_of_eq g4.symm)
  have ne_r1_q : r1 ≠ q := Nat.ne_of_lt (Nat.lt_of_lt_of_le Vc_2.lt (Nat.le_of_eq g4.symm))
  have ne_t_q : t ≠ q := Nat.ne_of_lt (Nat.lt_of_lt_of_le E_t.lt (Nat.le_of_eq g4.symm))
  have Od_4 := Od_2.ext E4
  have Vc_4 := Vc_2.ext E4
  have Sf_t_4 := Safe.ext E4 CA_2.1 Sf_t_2
  have E_t_4 := E_t.ext E4
  have F_value_t_4 := F_value_t.ext E4
  have F_coder_t_4 := F_coder_t.ext E4
  have Sf_q_4 := Safe.ext E4 CA_2.1 Sf_q
  have CA_4 := CA_2.trans (CHr.ext E4 CA_2.1)
  have Z_4 : n0 ≤ h4.size := Nat.le_trans Z_2 E4.1
  have Kp_4 : Keep h0 h4 [] := Kp_2.ext E4
  have V_q : Arv Z h4 q k4 .char (0 : Int32) [] (.int (0 : Int32)) := Arv.new A4 (by decide)
  obtain ⟨_, _, ⟨T5, L5, k5, n5⟩, -, X5, hSi5, hge5, ⟨Lc5, hQ5, l5, y5, z5, CHn5⟩, st5⟩ := X4.specialBackS hx (y := (⟨"java/lang/String", "<init>", "([C)V"⟩ : MethodName)) rfl hown (mvT hZ (own_w hw 8 rfl)) (mvT hZ (own_w hw 9 rfl)) (mvT hZ (own_w hw 10 rfl)) (by decide) (backOfSH (vm0 := s.vm) (s := s) (W := 1) (rmI1z l Z a0 hw [] t q cs fm k4 h4 n0 Z_4 SB Od_4 F_value_t_4 F_coder_t_4 E_t_4 g_t V_q) hZ (own_w hw 10 rfl) (own_w hw 7 rfl) (by decide) (by decide) hEL CA_4.1) (g := (mkF m 11 #[.val (.int (0 : Int32)), .val (.ref r1)] [(.ref q), (.ref t), (.ref t)])) rfl (by rw [hml]; rfl) (Steps.refl _) (a := t) (argsL := [(.ref q)]) (rest := [(.ref t)]) (lenOf pd_1 rfl) rfl (by show 2 * 0 + _ ≤ _; exact Nat.le_of_eq rfl) (hb hby d1_11) (fun _ _ => ⟨rfl, e4, (by decide : 2 + 4 ≤ _), (by decide : 4 + 8 ≤ _)⟩)
  dsimp only [Pt.U, Pt.locs, Pt.cells, Pt.slots] at X5 l5 y5 z5 st5 hQ5 hSi5 hge5 CHn5
  subst l5 y5 z5
  have hS := foldS (s := s) (vm0 := s.vm) ((State.WarmedH.refl s).since 0) (Nat.zero_le _) hSi5 hge5
  have hZ : Z.Warmed39 (s.setVm T5.vm).vm := State.Warmed39.trans (t := s.setVm s.vm) hZ hSi5.1
  have hown : (s.setVm T5.vm).vm.findClass "com/example/murray_hill/murrayhill/AsciiLineAppendPinLaw" = some m.cls := by rw [show (s.setVm T5.vm).vm = T5.vm from rfl, hSi5.1.alike.findClass]; exact hown
  have X5 : Stand p l e ({ frames := 4, cells := 6, slots := 12, locals := 66 } : Room) (s.setVm T5.vm) m #[(.int (0 : Int32)), (.ref r1)] below meth c T5 _ _ _ := X5
  obtain ⟨rfl, Nq5, K5, Et, yy, ky, Fvt, Ct, Vy⟩ := hQ5
  have N5 := Fr.app N0 Nq5
  have Od_5 := Od_4.keep K5 (allS g_t (all0))
  have Vc_5 := Vc_4.keep K5 (ninS ne_r1_t nin0)
  have Sf_t_5 := CHr.safe CHn5 E_t_4.lt Sf_t_4
  have E_t_5 := E_t_4.keep K5
  have Sf_q_5 := CHr.safe CHn5 V_q.lt Sf_q_4
  have V_q_5 := V_q.keep K5 (ninS (Ne.symm ne_t_q) nin0)
  have CA_5 := CA_4.trans CHn5
  have Z_5 : n0 ≤ T5.heap.size := Nat.le_trans Z_4 K5.1
  have Kp_5 : Keep h0 T5.heap [] := Kp_4.trans K5 (allS (Or.inr sz_t) (all0))
  have kz_5 : T5.heap.size ≤ T5.heap.size := Nat.le_refl _
  obtain ⟨fs, hr, hrun, hended, hRW⟩ := Jvm.Stand.leaveW (s := s) X5 hS kz_5 (v := some (.ref t)) (fun h => by rw [Bd.returns] at h; cases h)
  have CE : CHr Z own_EL s.vm s.heap T5.vm T5.heap := by
    rw [hh]
    exact CA_5.trans (CHv.at (vm0 := T5.vm) (s := s) X5 hZ hEL CA_5.1)
  refine ⟨_, _, pre0 _ (st1 _ (st2 _ (st3 _ (st4 _ (st5.trans ?_))))), hrun, hended, _, _, rfl, ?_, CE, hRW.1, hRW.2.1, hRW.2.2.1, hRW.2.2.2.mono (by decide) (by decide)⟩
  · show Steps p.tables e below (T5.setTop (mkF m 14 #[.val (.int (0 : Int32)), .val (.ref r1)] [(.ref t)])) _
    jvm_step X5.here [X5.here.top, hx, (hb hby d1_14), X5.method', Bd.returns, Value.isRef, FieldType.isReference]
    first | (intro acts; rw [hr _ acts rfl rfl rfl]) | rw [hr _ _ rfl rfl rfl]
    exact Steps.refl _
  · show Q_rmMk0 Z r1 cs fm kc x0 x1 x2 h0 n0 _ T5.heap _
    exact ⟨t, rfl, N5, Kp_5, sz_t, Et, Ct, yy, ky, Fvt, Vy⟩
theorem ef_rmMk1 (m : MethodId) (x0 : Int32) (x1 : Addr) : entryFrame m #[(.int x0), (.ref x1)] 2 = mkF m 0 #[.val (.int x0), .val (.ref x1)] [] := by first | (simp [entryFrame, mkF, argsToLocals, Value.category]; done) | rfl
def Q_rmMk1 (Z : State) (r1 : Addr) (cs : Int32) (fm : Value) (kc : ClassId) (x0 : Int32) (x1 : Int32) (x2 : Int32) (h0 : Heap) (n0 : Nat) (v : Option Value) (h : Heap) (L : List Loc) : Prop := ∃ t, v = some (.ref t) ∧ Fr n0 L ∧ Keep h0 h [] ∧ h0.size ≤ t ∧ Exa Z h t "java/lang/String" ∧ Fld Z h t "java/lang/String" "coder" "B" (.int (0 : Int32)) ∧ ∃ y ky, Fld Z h t "java/lang/String" "value" "[B" (.ref y) ∧ Arv Z h y ky .byte (1 : Int32) (own_bs ([x0] : List Int32)) (.int (0 : Int32))
set_option maxRecDepth 65536 in
set_option maxHeartbeats 40000000 in
theorem rmMk1 (l : Launch) (Z : State) (a0 : Array Value) (hw : ∀ d ∈ tables_1, d.before a0 Z = true) (ws : List Jvm.Cond) (r1 : Addr) (cs : Int32) (fm : Value) (kc : ClassId) (x0 : Int32) (x1 : Int32) (x2 : Int32) (h0 : Heap) (n0 : Nat) (Z0 : n0 ≤ h0.size) (SB : own_St Z cs fm) (Od : Old Z n0 h0) (Vc : Arv Z h0 r1 kc .char (3 : Int32) [(.int x0), (.int x1), (.int x2)] (.int (0 : Int32))) (ec0 : own_c7 x0) (ec1 : own_c7 x1) (ec2 : own_c7 x2) :
    MetFree l (⟨"com/example/murray_hill/murrayhill/AsciiLineAppendPinLaw", "make", "(I[C)Ljava/lang/String;"⟩ : MethodName) (head1 (Jvm.Cond.code (⟨"com/example/murray_hill/murrayhill/AsciiLineAppendPinLaw", "make", "(I[C)Ljava/lang/String;"⟩ : MethodName) method_3_code 2 (some (.object "java/lang/String")) :: ws) ({ frames := 4, cells := 6, slots := 12, locals := 66 } : Room)) (fun a U => a = #[(.int (1 : Int32)), (.ref r1)] ∧ Z.Warmed39 U.vm ∧ U.heap = h0 ∧ CHv Z own_EL U.vm h0) (fun _ _ _ _ _ => True) (fun _ U o U' => ∃ v L, o = .returned v ∧ Q_rmMk1 Z r1 cs fm kc x0 x1 x2 h0 n0 v U'.heap L ∧ CHr Z own_EL U.vm U.heap U'.vm U'.heap ∧ ReturnedEndW U o U' L ({ frames := 4, cells := 6, slots := 12, locals := 66 } : Room).cells ({ frames := 4, cells := 6, slots := 12, locals := 66 } : Room).slots) := by
  refine MetFree.of_bodySF (plainFor_of_name pn_1) hisR ?_
  intro p e s m args below meth c s₁ Bd hml0 hP hK
  obtain ⟨rfl, hZ, hh, hCH⟩ := hP
  have hx := Bd.exec
  have hby := Bd.bytes
  have hml : c.maxLocals = 2 := hml0
  have hown : s.vm.findClass "com/example/murray_hill/murrayhill/AsciiLineAppendPinLaw" = some m.cls := findClass_of_methodNamed Bd.named
  have hnm := (name_of_methodNamed Bd.named Bd.method).1
  have X0 : Stand p l e ({ frames := 4, cells := 6, slots := 12, locals := 66 } : Room) s m #[(.int (1 : Int32)), (.ref r1)] below meth c s₁ [] 0 0 := Stand.of_body Bd
  have e0 : s₁.heap = h0 := by rw [← hh, Bd.state]; rfl
  have N0 := Fr.nil n0
  have pre0 : ∀ t, Steps p.tables e below (s₁.setTop (mkF m 0 #[.val (.int (1 : Int32)), .val (.ref r1)] [])) t → Steps p.tables e below (s₁.setTop (entryFrame m #[(.int (1 : Int32)), (.ref r1)] 2)) t := fun t k => castTop (ef_rmMk1 m (1 : Int32) r1) k
  have CA := CHr.refl hCH
  have hEL := own_hEL hw
  have wS : ∀ a ∈ Bundle.stringAtoms, a.before a0 Z = true := fun d hd => hw d ((by decide +kernel : ∀ d ∈ Bundle.stringAtoms, d ∈ tables_1) d hd)
  have Kp : Keep h0 h0 [] := Keep.refl _ _
  have st1 : own_S p e below s₁ (mkF m 20 #[.val (.int (1 : Int32)), .val (.ref r1)] []) (mkF m 0 #[.val (.int (1 : Int32)), .val (.ref r1)] []) := by
    intro target kt
    refine XS.iloadN X0.here hx rfl (hb hby d1_0) rfl ?_
    refine XS.ifYes X0.here hx rfl (pc0 := 1) (pc' := 15) rfl (hb hby d1_1) rfl ((if0 _ _).trans (feq (by decide : ¬ ((1 : Int32) = (0 : Int32)))).2) (by decide) (by decide) ?_
    refine XS.iloadN X0.here hx rfl (hb hby d1_15) rfl ?_
    refine XS.iconst X0.here hx rfl (hb hby d1_16) ?_
    refine XS.icmpNo X0.here hx rfl (hb hby d1_17) rfl (teq (rfl : (1 : Int32) = (1 : Int32))).2 ?_
    exact kt
  obtain ⟨T2, h2, X2, e2, E2, A2, D2, -, st2⟩ := newO X0 hx hZ hown (own_w hw 5 rfl) (own_w hw 6 rfl) (own_w hw 7 rfl) e0 (g := (mkF m 20 #[.val (.int (1 : Int32)), .val (.ref r1)] [])) rfl (hb hby d1_20) (by decide) (by decide)
  obtain ⟨t, g2⟩ : ∃ z, z = h0.size := ⟨_, rfl⟩
  rw [← g2] at A2 D2 st2
  have g_t : n0 ≤ t := Nat.le_trans Z0 (Nat.le_of_eq g2.symm)
  have sz_t : h0.size ≤ t := Nat.le_trans Kp.1 (Nat.le_of_eq g2.symm)
  have Sf_t : Safe Z own_EL s.vm h0 t := Safe.new (Nat.le_of_eq g2.symm)
  have ne_r1_t : r1 ≠ t := Nat.ne_of_lt (Nat.lt_of_lt_of_le Vc.lt (Nat.le_of_eq g2.symm))
  have Od_2 := Od.ext E2
  have Vc_2 := Vc.ext E2
  have Sf_t_2 := Safe.ext E2 CA.1 Sf_t
  have CA_2 := CA.trans (CHr.ext E2 CA.1)
  have Z_2 : n0 ≤ h2.size := Nat.le_trans Z0 E2.1
  have Kp_2 : Keep h0 h2 [] := Kp.ext E2
  have E_t : Exa Z h2 t "java/lang/String" := A2
  have F_value_t : Fld Z h2 t "java/lang/String" "value" "[B" .null := D2 (Or.inr (own_w hw 20 rfl)) (ty := (.array .byte)) (by decide)
  have F_coder_t : Fld Z h2 t "java/lang/String" "coder" "B" (.int (0 : Int32)) := D2 (Or.inr (own_w hw 21 rfl)) (ty := .byte) (by decide)
  have st3 : own_S p e below T2 (mkF m 25 #[.val (.int (1 : Int32)), .val (.ref r1)] [(.int (1 : Int32)), (.ref t), (.ref t)]) (mkF m 23 #[.val (.int (1 : Int32)), .val (.ref r1)] [(.ref t)]) := by
    intro target kt
    refine XS.dup X2.here hx rfl (hb hby d1_23) rfl rfl ?_
    refine XS.iconst X2.here hx rfl (hb hby d1_24) ?_
    exact kt
  obtain ⟨T4, h4, k4, X4, e4, E4, A4, st4⟩ := newP X2 hx hZ (own_w hw 0 rfl) e2 (g := (mkF m 25 #[.val (.int (1 : Int32)), .val (.ref r1)] [(.int (1 : Int32)), (.ref t), (.ref t)])) rfl (hb hby d1_25) rfl (by decide) (cap := 1) (by decide) (by decide) (by decide) (by decide)
  obtain ⟨q, g4⟩ : ∃ z, z = h2.size := ⟨_, rfl⟩
  rw [← g4] at A4 st4
  have g_q : n0 ≤ q := Nat.le_trans Z_2 (Nat.le_of_eq g4.symm)
  have sz_q : h0.size ≤ q := Nat.le_trans Kp_2.1 (Nat.le_of_eq g4.symm)
  have Sf_q : Safe Z own_EL s.vm h2 q := Safe.new (Nat.le_of_eq g4.symm)
  have ne_r1_q : r1 ≠ q := Nat.ne_of_lt (Nat.lt_of_lt_of_le Vc_2.lt (Nat.le_of_eq g4.symm))
  have ne_t_q : t ≠ q := Nat.ne_of_lt (Nat.lt_of_lt_of_le E_t.lt (Nat.le_of_eq g4.symm))
  have Od_4 := Od_2.ext E4
  have Vc_4 := Vc_2.ext E4
  have Sf_t_4 := Safe.ext E4 CA_2.1 Sf_t_2
  have E_t_4 := E_t.ext E4
  have F_value_t_4 := F_value_t.ext E4
  have F_coder_t_4 := F_coder_t.ext E4
  have Sf_q_4 := Safe.ext E4 CA_2.1 Sf_q
  have CA_4 := CA_2.trans (CHr.ext E4 CA_2.1)
  have Z_4 : n0 ≤ h4.size := Nat.le_trans Z_2 E4.1
  have Kp_4 : Keep h0 h4 [] := Kp_2.ext E4
  have V_q : Arv Z h4 q k4 .char (1 : Int32) [(.int (0 : Int32))] (.int (0 : Int32)) := (Arv.new A4 (by decide)).pad (pad_rep [] (.int (0 : Int32)) 1)
  have st5 : own_S p e below T4 (mkF m 31 #[.val (.int (1 : Int32)), .val (.ref r1)] [(.int (0 : Int32)), (.ref r1), (.int (0 : Int32)), (.ref q), (.ref q), (.ref t), (.ref t)]) (mkF m 27 #[.val (.int (1 : Int32)), .val (.ref r1)] [(.ref q), (.ref t), (.ref t)]) := by
    intro target kt
    refine XS.dup X4.here hx rfl (hb hby d1_27) rfl rfl ?_
    refine XS.iconst X4.here hx rfl (hb hby d1_28) ?_
    refine XS.aloadN X4.here hx rfl (hb hby d1_29) rfl rfl ?_
    refine XS.iconst X4.here hx rfl (hb hby d1_30) ?_
    exact kt
  obtain ⟨cl6, Ar6, qc6, Sz6, Mn6, Hs6, Gs6⟩ := id Vc_4
  have hin6 : ¬ ((0 : Int32) < 0 ∨ cl6.slots.size ≤ ((0 : Int32)).toNatClampNeg) := inb_of Sz6 ⟨by decide, by decide⟩
  have hat6 : cl6.slots[((0 : Int32)).toNatClampNeg]? = some (.int x0) := Hs6.at hin6 rfl
  have st6 : own_S p e below T4 (mkF m 32 #[.val (.int (1 : Int32)), .val (.ref r1)] [(.int x0), (.int (0 : Int32)), (.ref q), (.ref q), (.ref t), (.ref t)]) (mkF m 31 #[.val (.int (1 : Int32)), .val (.ref r1)] [(.int (0 : Int32)), (.ref r1), (.int (0 : Int32)), (.ref q), (.ref q), (.ref t), (.ref t)]) := fun target kt => X4.caload hx (j := (0 : Int32)) (v := (.int x0)) (by rw [e4]; exact Ar6.1) (State.isArrayOf_alike hZ.alike Ar6.2.1) Ar6.2.2 hin6 hat6 (g := (mkF m 31 #[.val (.int (1 : Int32)), .val (.ref r1)] [(.int (0 : Int32)), (.ref r1), (.int (0 : Int32)), (.ref q), (.ref q), (.ref t), (.ref t)])) rfl rfl (hb hby d1_31) _ kt
  obtain ⟨cl7, Ar7, qc7, Sz7, Mn7, Hs7, Gs7⟩ := id V_q
  have hin7 : ¬ ((0 : Int32) < 0 ∨ cl7.slots.size ≤ ((0 : Int32)).toNatClampNeg) := inb_of Sz7 ⟨by decide, by decide⟩
  obtain ⟨T7, h7, X7, e7, W7, st7⟩ := stC X4 hx hZ e4 Ar7 (j := (0 : Int32)) hin7 (g := (mkF m 32 #[.val (.int (1 : Int32)), .val (.ref r1)] [(.int x0), (.int (0 : Int32)), (.ref q), (.ref q), (.ref t), (.ref t)])) rfl rfl (hb hby d1_32)
  have V_q_7 : Arv Z h7 q k4 .char (1 : Int32) [(.int (nar .char x0))] (.int (0 : Int32)) := Arv.set Ar7 qc7 Sz7 Mn7 Hs7 Gs7 (fits_nar_char _) W7 0 rfl (Nat.le_of_ble_eq_true rfl)
  have Od_7 := Od_4.wr W7 g_q
  have Vc_7 := Vc_4.other W7 ne_r1_q
  have Sf_t_7 := Safe.wr W7 Sf_q_4 CA_4.1 Sf_t_4
  have E_t_7 := E_t_4.wr W7
  have F_value_t_7 := F_value_t_4.other W7 (Or.inl ne_t_q)
  have F_coder_t_7 := F_coder_t_4.other W7 (Or.inl ne_t_q)
  have Sf_q_7 := Safe.wr W7 Sf_q_4 CA_4.1 Sf_q_4
  have CA_7 := CA_4.trans (CHr.wr W7 Sf_q_4 CA_4.1)
  have Z_7 : n0 ≤ h7.size := Nat.le_trans Z_4 (Keep.of_wr W7).1
  have Kp_7 : Keep h0 h7 [] := Kp_4.wr W7 (Or.inr sz_q)
  have N7 := Fr.snoc X7 N0 g_q
  rw [own_ncI (own_c7c ec0)] at V_q_7
  have hwords : ∀ d ∈ StrChars.Road.words, d.before a0 Z = true := fun d hd => hw d ((by decide +kernel : ∀ d ∈ StrChars.Road.words, d ∈ tables_1) d hd)
  obtain ⟨_, _, ⟨T8, L8, k8, n8⟩, -, X8, ⟨Lc8, hQ8, l8, y8, z8⟩, st8⟩ := X7.specialBack hx (y := (⟨"java/lang/String", "<init>", "([C)V"⟩ : MethodName)) rfl hown (mvT hZ (own_w hw 8 rfl)) (mvT hZ (own_w hw 9 rfl)) (mvT hZ (own_w hw 10 rfl)) (by decide) (StrChars.Road.backV (W := 1) hZ hwords (kI := 4) (own_w hw 6 rfl) (cs := ([x0] : List Int32)) (bs := ([x0] : List Int32).map (fun c => c.toInt8.toInt32)) (n := 1) g_t Z_7 E_t_7 F_value_t_7 F_coder_t_7 V_q_7 (SB.1.ext Od_7.2) SB.2.1 rfl rfl (by decide) (by decide) (own_hp (own_allS ec0 own_all0)) rfl (by decide) (by decide)) (g := (mkF m 33 #[.val (.int (1 : Int32)), .val (.ref r1)] [(.ref q), (.ref t), (.ref t)])) rfl (by rw [hml]; rfl) (Steps.refl _) (a := t) (argsL := [(.ref q)]) (rest := [(.ref t)]) (lenOf pd_1 rfl) rfl (by show 2 * 0 + _ ≤ _; exact Nat.le_of_eq rfl) (hb hby d1_33) (fun _ _ => ⟨rfl, e7, (by decide : 2 + 1 ≤ _), (by decide : 5 + 1 ≤ _)⟩)
  dsimp only [Pt.U, Pt.locs, Pt.cells, Pt.slots] at X8 l8 y8 z8 st8 hQ8
  subst l8 y8 z8
  obtain ⟨rfl, Nq8, K8, Et, Ct, yy, ky, u1, szy, u3, Fvt, Vy⟩ := hQ8
  have N8 := Fr.app N7 Nq8
  have Od_8 := Od_7.keep K8 (allS g_t (all0))
  have Vc_8 := Vc_7.keep K8 (ninS ne_r1_t nin0)
  have Sf_t_8 := Safe.keep K8 (allS Sf_t_7 all0) CA_7.1 Sf_t_7
  have E_t_8 := E_t_7.keep K8
  have Sf_q_8 := Safe.keep K8 (allS Sf_t_7 all0) CA_7.1 Sf_q_7
  have V_q_8 := V_q_7.keep K8 (ninS (Ne.symm ne_t_q) nin0)
  have CA_8 := CA_7.trans (CHr.keep K8 (allS Sf_t_7 all0) CA_7.1)
  have Z_8 : n0 ≤ T8.heap.size := Nat.le_trans Z_7 K8.1
  have Kp_8 : Keep h0 T8.heap [] := Kp_7.trans K8 (allS (Or.inr sz_t) (all0))
  obtain ⟨fs, hr, hrun, hended, hRW⟩ := Jvm.Stand.leaveW (s := s) (vm₁ := s.vm) X8 ((State.WarmedH.refl s).since 0) (Nat.zero_le _) (v := some (.ref t)) (fun h => by rw [Bd.returns] at h; cases h)
  have CE : CHr Z own_EL s.vm s.heap T8.vm T8.heap := by
    rw [hh]
    exact CA_8.trans (CHv.at (vm0 := s.vm) (s := s) X8 hZ hEL CA_8.1)
  refine ⟨_, _, pre0 _ (st1 _ (st2 _ (st3 _ (st4 _ (st5 _ (st6 _ (st7 _ (st8.trans ?_)))))))), hrun, hended, _, _, rfl, ?_, CE, hRW.1, hRW.2.1, hRW.2.2.1, hRW.2.2.2.mono (by decide) (by decide)⟩
  · show Steps p.tables e below (T8.setTop (mkF m 36 #[.val (.int (1 : Int32)), .val (.ref r1)] [(.ref t)])) _
    jvm_step X8.here [X8.here.top, hx, (hb hby d1_36), X8.method', Bd.returns, Value.isRef, FieldType.isReference]
    first | (intro acts; rw [hr _ acts rfl rfl rfl]) | rw [hr _ _ rfl rfl rfl]
    exact Steps.refl _
  · show Q_rmMk1 Z r1 cs fm kc x0 x1 x2 h0 n0 _ T8.heap _
    exact ⟨t, rfl, N8, Kp_8, sz_t, Et, Ct, yy, ky, Fvt, Vy⟩
theorem ef_rmMk2 (m : MethodId) (x0 : Int32) (x1 : Addr) : entryFrame m #[(.int x0), (.ref x1)] 2 = mkF m 0 #[.val (.int x0), .val (.ref x1)] [] := by first | (simp [entryFrame, mkF, argsToLocals, Value.category]; done) | rfl
def Q_rmMk2 (Z : State) (r1 : Addr) (cs : Int32) (fm : Value) (kc : ClassId) (x0 : Int32) (x1 : Int32) (x2 : Int32) (h0 : Heap) (n0 : Nat) (v : Option Value) (h : Heap) (L : List Loc) : Prop := ∃ t, v = some (.ref t) ∧ Fr n0 L ∧ Keep h0 h [] ∧ h0.size ≤ t ∧ Exa Z h t "java/lang/String" ∧ Fld Z h t "java/lang/String" "coder" "B" (.int (0 : Int32)) ∧ ∃ y ky, Fld Z h t "java/lang/String" "value" "[B" (.ref y) ∧ Arv Z h y ky .byte (2 : Int32) (own_bs ([x0, x1] : List Int32)) (.int (0 : Int32))
set_option maxRecDepth 65536 in
set_option maxHeartbeats 40000000 in
theorem rmMk2 (l : Launch) (Z : State) (a0 : Array Value) (hw : ∀ d ∈ tables_1, d.before a0 Z = true) (ws : List Jvm.Cond) (r1 : Addr) (cs : Int32) (fm : Value) (kc : ClassId) (x0 : Int32) (x1 : Int32) (x2 : Int32) (h0 : Heap) (n0 : Nat) (Z0 : n0 ≤ h0.size) (SB : own_St Z cs fm) (Od : Old Z n0 h0) (Vc : Arv Z h0 r1 kc .char (3 : Int32) [(.int x0), (.int x1), (.int x2)] (.int (0 : Int32))) (ec0 : own_c7 x0) (ec1 : own_c7 x1) (ec2 : own_c7 x2) :
    MetFree l (⟨"com/example/murray_hill/murrayhill/AsciiLineAppendPinLaw", "make", "(I[C)Ljava/lang/String;"⟩ : MethodName) (head1 (Jvm.Cond.code (⟨"com/example/murray_hill/murrayhill/AsciiLineAppendPinLaw", "make", "(I[C)Ljava/lang/String;"⟩ : MethodName) method_3_code 2 (some (.object "java/lang/String")) :: ws) ({ frames := 4, cells := 6, slots := 12, locals := 66 } : Room)) (fun a U => a = #[(.int (2 : Int32)), (.ref r1)] ∧ Z.Warmed39 U.vm ∧ U.heap = h0 ∧ CHv Z own_EL U.vm h0) (fun _ _ _ _ _ => True) (fun _ U o U' => ∃ v L, o = .returned v ∧ Q_rmMk2 Z r1 cs fm kc x0 x1 x2 h0 n0 v U'.heap L ∧ CHr Z own_EL U.vm U.heap U'.vm U'.heap ∧ ReturnedEndW U o U' L ({ frames := 4, cells := 6, slots := 12, locals := 66 } : Room).cells ({ frames := 4, cells := 6, slots := 12, locals := 66 } : Room).slots) := by
  refine MetFree.of_bodySF (plainFor_of_name pn_1) hisR ?_
  intro p e s m args below meth c s₁ Bd hml0 hP hK
  obtain ⟨rfl, hZ, hh, hCH⟩ := hP
  have hx := Bd.exec
  have hby := Bd.bytes
  have hml : c.maxLocals = 2 := hml0
  have hown : s.vm.findClass "com/example/murray_hill/murrayhill/AsciiLineAppendPinLaw" = some m.cls := findClass_of_methodNamed Bd.named
  have hnm := (name_of_methodNamed Bd.named Bd.method).1
  have X0 : Stand p l e ({ frames := 4, cells := 6, slots := 12, locals := 66 } : Room) s m #[(.int (2 : Int32)), (.ref r1)] below meth c s₁ [] 0 0 := Stand.of_body Bd
  have e0 : s₁.heap = h0 := by rw [← hh, Bd.state]; rfl
  have N0 := Fr.nil n0
  have pre0 : ∀ t, Steps p.tables e below (s₁.setTop (mkF m 0 #[.val (.int (2 : Int32)), .val (.ref r1)] [])) t → Steps p.tables e below (s₁.setTop (entryFrame m #[(.int (2 : Int32)), (.ref r1)] 2)) t := fun t k => castTop (ef_rmMk2 m (2 : Int32) r1) k
  have CA := CHr.refl hCH
  have hEL := own_hEL hw
  have wS : ∀ a ∈ Bundle.stringAtoms, a.before a0 Z = true := fun d hd => hw d ((by decide +kernel : ∀ d ∈ Bundle.stringAtoms, d ∈ tables_1) d hd)
  have Kp : Keep h0 h0 [] := Keep.refl _ _
  have st1 : own_S p e below s₁ (mkF m 42 #[.val (.int (2 : Int32)), .val (.ref r1)] []) (mkF m 0 #[.val (.int (2 : Int32)), .val (.ref r1)] []) := by
    intro target kt
    refine XS.iloadN X0.here hx rfl (hb hby d1_0) rfl ?_
    refine XS.ifYes X0.here hx rfl (pc0 := 1) (pc' := 15) rfl (hb hby d1_1) rfl ((if0 _ _).trans (feq (by decide : ¬ ((2 : Int32) = (0 : Int32)))).2) (by decide) (by decide) ?_
    refine XS.iloadN X0.here hx rfl (hb hby d1_15) rfl ?_
    refine XS.iconst X0.here hx rfl (hb hby d1_16) ?_
    refine XS.icmpYes X0.here hx rfl (pc0 := 17) (pc' := 37) rfl (hb hby d1_17) rfl (feq (by decide : ¬ ((2 : Int32) = (1 : Int32)))).2 (by decide) (by decide) ?_
    refine XS.iloadN X0.here hx rfl (hb hby d1_37) rfl ?_
    refine XS.iconst X0.here hx rfl (hb hby d1_38) ?_
    refine XS.icmpNo X0.here hx rfl (hb hby d1_39) rfl (teq (rfl : (2 : Int32) = (2 : Int32))).2 ?_
    exact kt
  obtain ⟨T2, h2, X2, e2, E2, A2, D2, -, st2⟩ := newO X0 hx hZ hown (own_w hw 5 rfl) (own_w hw 6 rfl) (own_w hw 7 rfl) e0 (g := (mkF m 42 #[.val (.int (2 : Int32)), .val (.ref r1)] [])) rfl (hb hby d1_42) (by decide) (by decide)
  obtain ⟨t, g2⟩ : ∃ z, z = h0.size := ⟨_, rfl⟩
  rw [← g2] at A2 D2 st2
  have g_t : n0 ≤ t := Nat.le_trans Z0 (Nat.le_of_eq g2.symm)
  have sz_t : h0.size ≤ t := Nat.le_trans Kp.1 (Nat.le_of_eq g2.symm)
  have Sf_t : Safe Z own_EL s.vm h0 t := Safe.new (Nat.le_of_eq g2.symm)
  have ne_r1_t : r1 ≠ t := Nat.ne_of_lt (Nat.lt_of_lt_of_le Vc.lt (Nat.le_of_eq g2.symm))
  have Od_2 := Od.ext E2
  have Vc_2 := Vc.ext E2
  have Sf_t_2 := Safe.ext E2 CA.1 Sf_t
  have CA_2 := CA.trans (CHr.ext E2 CA.1)
  have Z_2 : n0 ≤ h2.size := Nat.le_trans Z0 E2.1
  have Kp_2 : Keep h0 h2 [] := Kp.ext E2
  have E_t : Exa Z h2 t "java/lang/String" := A2
  have F_value_t : Fld Z h2 t "java/lang/String" "value" "[B" .null := D2 (Or.inr (own_w hw 20 rfl)) (ty := (.array .byte)) (by decide)
  have F_coder_t : Fld Z h2 t "java/lang/String" "coder" "B" (.int (0 : Int32)) := D2 (Or.inr (own_w hw 21 rfl)) (ty := .byte) (by decide)
  have st3 : own_S p e below T2 (mkF m 47 #[.val (.int (2 : Int32)), .val (.ref r1)] [(.int (2 : Int32)), (.ref t), (.ref t)]) (mkF m 45 #[.val (.int (2 : Int32)), .val (.ref r1)] [(.ref t)]) := by
    intro target kt
    refine XS.dup X2.here hx rfl (hb hby d1_45) rfl rfl ?_
    refine XS.iconst X2.here hx rfl (hb hby d1_46) ?_
    exact kt
  obtain ⟨T4, h4, k4, X4, e4, E4, A4, st4⟩ := newP X2 hx hZ (own_w hw 0 rfl) e2 (g := (mkF m 47 #[.val (.int (2 : Int32)), .val (.ref r1)] [(.int (2 : Int32)), (.ref t), (.ref t)])) rfl (hb hby d1_47) rfl (by decide) (cap := 2) (by decide) (by decide) (by decide) (by decide)
  obtain ⟨q, g4⟩ : ∃ z, z = h2.size := ⟨_, rfl⟩
  rw [← g4] at A4 st4
  have g_q : n0 ≤ q := Nat.le_trans Z_2 (Nat.le_of_eq g4.symm)
  have sz_q : h0.size ≤ q := Nat.le_trans Kp_2.1 (Nat.le_of_eq g4.symm)
  have Sf_q : Safe Z own_EL s.vm h2 q := Safe.new (Nat.le_of_eq g4.symm)
  have ne_r1_q : r1 ≠ q := Nat.ne_of_lt (Nat.lt_of_lt_of_le Vc_2.lt (Nat.le_of_eq g4.symm))
  have ne_t_q : t ≠ q := Nat.ne_of_lt (Nat.lt_of_lt_of_le E_t.lt (Nat.le_of_eq g4.symm))
  have Od_4 := Od_2.ext E4
  have Vc_4 := Vc_2.ext E4
  have Sf_t_4 := Safe.ext E4 CA_2.1 Sf_t_2
  have E_t_4 := E_t.ext E4
  have F_value_t_4 := F_value_t.ext E4
  have F_coder_t_4 := F_coder_t.ext E4
  have Sf_q_4 := Safe.ext E4 CA_2.1 Sf_q
  have CA_4 := CA_2.trans (CHr.ext E4 CA_2.1)
  have Z_4 : n0 ≤ h4.size := Nat.le_trans Z_2 E4.1
  have Kp_4 : Keep h0 h4 [] := Kp_2.ext E4
  have V_q : Arv Z h4 q k4 .char (2 : Int32) [(.int (0 : Int32)), (.int (0 : Int32))] (.int (0 : Int32)) := (Arv.new A4 (by decide)).pad (pad_rep [] (.int (0 : Int32)) 2)
  have st5 : own_S p e below T4 (mkF m 53 #[.val (.int (2 : Int32)), .val (.ref r1)] [(.int (0 : Int32)), (.ref r1), (.int (0 : Int32)), (.ref q), (.ref q), (.ref t), (.ref t)]) (mkF m 49 #[.val (.int (2 : Int32)), .val (.ref r1)] [(.ref q), (.ref t), (.ref t)]) := by
    intro target kt
    refine XS.dup X4.here hx rfl (hb hby d1_49) rfl rfl ?_
    refine XS.iconst X4.here hx rfl (hb hby d1_50) ?_
    refine XS.aloadN X4.here hx rfl (hb hby d1_51) rfl rfl ?_
    refine XS.iconst X4.here hx rfl (hb hby d1_52) ?_
    exact kt
  obtain ⟨cl6, Ar6, qc6, Sz6, Mn6, Hs6, Gs6⟩ := id Vc_4
  have hin6 : ¬ ((0 : Int32) < 0 ∨ cl6.slots.size ≤ ((0 : Int32)).toNatClampNeg) := inb_of Sz6 ⟨by decide, by decide⟩
  have hat6 : cl6.slots[((0 : Int32)).toNatClampNeg]? = some (.int x0) := Hs6.at hin6 rfl
  have st6 : own_S p e below T4 (mkF m 54 #[.val (.int (2 : Int32)), .val (.ref r1)] [(.int x0), (.int (0 : Int32)), (.ref q), (.ref q), (.ref t), (.ref t)]) (mkF m 53 #[.val (.int (2 : Int32)), .val (.ref r1)] [(.int (0 : Int32)), (.ref r1), (.int (0 : Int32)), (.ref q), (.ref q), (.ref t), (.ref t)]) := fun target kt => X4.caload hx (j := (0 : Int32)) (v := (.int x0)) (by rw [e4]; exact Ar6.1) (State.isArrayOf_alike hZ.alike Ar6.2.1) Ar6.2.2 hin6 hat6 (g := (mkF m 53 #[.val (.int (2 : Int32)), .val (.ref r1)] [(.int (0 : Int32)), (.ref r1), (.int (0 : Int32)), (.ref q), (.ref q), (.ref t), (.ref t)])) rfl rfl (hb hby d1_53) _ kt
  obtain ⟨cl7, Ar7, qc7, Sz7, Mn7, Hs7, Gs7⟩ := id V_q
  have hin7 : ¬ ((0 : Int32) < 0 ∨ cl7.slots.size ≤ ((0 : Int32)).toNatClampNeg) := inb_of Sz7 ⟨by decide, by decide⟩
  obtain ⟨T7, h7, X7, e7, W7, st7⟩ := stC X4 hx hZ e4 Ar7 (j := (0 : Int32)) hin7 (g := (mkF m 54 #[.val (.int (2 : Int32)), .val (.ref r1)] [(.int x0), (.int (0 : Int32)), (.ref q), (.ref q), (.ref t), (.ref t)])) rfl rfl (hb hby d1_54)
  have V_q_7 : Arv Z h7 q k4 .char (2 : Int32) [(.int (nar .char x0)), (.int (0 : Int32))] (.int (0 : Int32)) := Arv.set Ar7 qc7 Sz7 Mn7 Hs7 Gs7 (fits_nar_char _) W7 0 rfl (Nat.le_of_ble_eq_true rfl)
  have Od_7 := Od_4.wr W7 g_q
  have Vc_7 := Vc_4.other W7 ne_r1_q
  have Sf_t_7 := Safe.wr W7 Sf_q_4 CA_4.1 Sf_t_4
  have E_t_7 := E_t_4.wr W7
  have F_value_t_7 := F_value_t_4.other W7 (Or.inl ne_t_q)
  have F_coder_t_7 := F_coder_t_4.other W7 (Or.inl ne_t_q)
  have Sf_q_7 := Safe.wr W7 Sf_q_4 CA_4.1 Sf_q_4
  have CA_7 := CA_4.trans (CHr.wr W7 Sf_q_4 CA_4.1)
  have Z_7 : n0 ≤ h7.size := Nat.le_trans Z_4 (Keep.of_wr W7).1
  have Kp_7 : Keep h0 h7 [] := Kp_4.wr W7 (Or.inr sz_q)
  have N7 := Fr.snoc X7 N0 g_q
  rw [own_ncI (own_c7c ec0)] at V_q_7
  have st8 : own_S p e below T7 (mkF m 59 #[.val (.int (2 : Int32)), .val (.ref r1)] [(.int (1 : Int32)), (.ref r1), (.int (1 : Int32)), (.ref q), (.ref q), (.ref t), (.ref t)]) (mkF m 55 #[.val (.int (2 : Int32)), .val (.ref r1)] [(.ref q), (.ref t), (.ref t)]) := by
    intro target kt
    refine XS.dup X7.here hx rfl (hb hby d1_55) rfl rfl ?_
    refine XS.iconst X7.here hx rfl (hb hby d1_56) ?_
    refine XS.aloadN X7.here hx rfl (hb hby d1_57) rfl rfl ?_
    refine XS.iconst X7.here hx rfl (hb hby d1_58) ?_
    exact kt
  obtain ⟨cl9, Ar9, qc9, Sz9, Mn9, Hs9, Gs9⟩ := id Vc_7
  have hin9 : ¬ ((1 : Int32) < 0 ∨ cl9.slots.size ≤ ((1 : Int32)).toNatClampNeg) := inb_of Sz9 ⟨by decide, by decide⟩
  have hat9 : cl9.slots[((1 : Int32)).toNatClampNeg]? = some (.int x1) := Hs9.at hin9 rfl
  have st9 : own_S p e below T7 (mkF m 60 #[.val (.int (2 : Int32)), .val (.ref r1)] [(.int x1), (.int (1 : Int32)), (.ref q), (.ref q), (.ref t), (.ref t)]) (mkF m 59 #[.val (.int (2 : Int32)), .val (.ref r1)] [(.int (1 : Int32)), (.ref r1), (.int (1 : Int32)), (.ref q), (.ref q), (.ref t), (.ref t)]) := fun target kt => X7.caload hx (j := (1 : Int32)) (v := (.int x1)) (by rw [e7]; exact Ar9.1) (State.isArrayOf_alike hZ.alike Ar9.2.1) Ar9.2.2 hin9 hat9 (g := (mkF m 59 #[.val (.int (2 : Int32)), .val (.ref r1)] [(.int (1 : Int32)), (.ref r1), (.int (1 : Int32)), (.ref q), (.ref q), (.ref t), (.ref t)])) rfl rfl (hb hby d1_59) _ kt
  obtain ⟨cl10, Ar10, qc10, Sz10, Mn10, Hs10, Gs10⟩ := id V_q_7
  have hin10 : ¬ ((1 : Int32) < 0 ∨ cl10.slots.size ≤ ((1 : Int32)).toNatClampNeg) := inb_of Sz10 ⟨by decide, by decide⟩
  obtain ⟨T10, h10, X10, e10, W10, st10⟩ := stC X7 hx hZ e7 Ar10 (j := (1 : Int32)) hin10 (g := (mkF m 60 #[.val (.int (2 : Int32)), .val (.ref r1)] [(.int x1), (.int (1 : Int32)), (.ref q), (.ref q), (.ref t), (.ref t)])) rfl rfl (hb hby d1_60)
  have V_q_10 : Arv Z h10 q k4 .char (2 : Int32) [(.int x0), (.int (nar .char x1))] (.int (0 : Int32)) := Arv.set Ar10 qc10 Sz10 Mn10 Hs10 Gs10 (fits_nar_char _) W10 1 rfl (Nat.le_of_ble_eq_true rfl)
  have Od_10 := Od_7.wr W10 g_q
  have Vc_10 := Vc_7.other W10 ne_r1_q
  have Sf_t_10 := Safe.wr W10 Sf_q_7 CA_7.1 Sf_t_7
  have E_t_10 := E_t_7.wr W10
  have F_value_t_10 := F_value_t_7.other W10 (Or.inl ne_t_q)
  have F_coder_t_10 := F_coder_t_7.other W10 (Or.inl ne_t_q)
  have Sf_q_10 := Safe.wr W10 Sf_q_7 CA_7.1 Sf_q_7
  have CA_10 := CA_7.trans (CHr.wr W10 Sf_q_7 CA_7.1)
  have Z_10 : n0 ≤ h10.size := Nat.le_trans Z_7 (Keep.of_wr W10).1
  have Kp_10 : Keep h0 h10 [] := Kp_7.wr W10 (Or.inr sz_q)
  have N10 := Fr.snoc X10 N7 g_q
  rw [own_ncI (own_c7c ec1)] at V_q_10
  have hwords : ∀ d ∈ StrChars.Road.words, d.before a0 Z = true := fun d hd => hw d ((by decide +kernel : ∀ d ∈ StrChars.Road.words, d ∈ tables_1) d hd)
  obtain ⟨_, _, ⟨T11, L11, k11, n11⟩, -, X11, ⟨Lc11, hQ11, l11, y11, z11⟩, st11⟩ := X10.specialBack hx (y := (⟨"java/lang/String", "<init>", "([C)V"⟩ : MethodName)) rfl hown (mvT hZ (own_w hw 8 rfl)) (mvT hZ (own_w hw 9 rfl)) (mvT hZ (own_w hw 10 rfl)) (by decide) (StrChars.Road.backV (W := 1) hZ hwords (kI := 4) (own_w hw 6 rfl) (cs := ([x0, x1] : List Int32)) (bs := ([x0, x1] : List Int32).map (fun c => c.toInt8.toInt32)) (n := 2) g_t Z_10 E_t_10 F_value_t_10 F_coder_t_10 V_q_10 (SB.1.ext Od_10.2) SB.2.1 rfl rfl (by decide) (by decide) (own_hp (own_allS ec0 (own_allS ec1 own_all0))) rfl (by decide) (by decide)) (g := (mkF m 61 #[.val (.int (2 : Int32)), .val (.ref r1)] [(.ref q), (.ref t), (.ref t)])) rfl (by rw [hml]; rfl) (Steps.refl _) (a := t) (argsL := [(.ref q)]) (rest := [(.ref t)]) (lenOf pd_1 rfl) rfl (by show 2 * 0 + _ ≤ _; exact Nat.le_of_eq rfl) (hb hby d1_61) (fun _ _ => ⟨rfl, e10, (by decide : 2 + 1 ≤ _), (by decide : 6 + 2 ≤ _)⟩)
  dsimp only [Pt.U, Pt.locs, Pt.cells, Pt.slots] at X11 l11 y11 z11 st11 hQ11
  subst l11 y11 z11
  obtain ⟨rfl, Nq11, K11, Et, Ct, yy, ky, u1, szy, u3, Fvt, Vy⟩ := hQ11
  have N11 := Fr.app N10 Nq11
  have Od_11 := Od_10.keep K11 (allS g_t (all0))
  have Vc_11 := Vc_10.keep K11 (ninS ne_r1_t nin0)
  have Sf_t_11 := Safe.keep K11 (allS Sf_t_10 all0) CA_10.1 Sf_t_10
  have E_t_11 := E_t_10.keep K11
  have Sf_q_11 := Safe.keep K11 (allS Sf_t_10 all0) CA_10.1 Sf_q_10
  have V_q_11 := V_q_10.keep K11 (ninS (Ne.symm ne_t_q) nin0)
  have CA_11 := CA_10.trans (CHr.keep K11 (allS Sf_t_10 all0) CA_10.1)
  have Z_11 : n0 ≤ T11.heap.size := Nat.le_trans Z_10 K11.1
  have Kp_11 : Keep h0 T11.heap [] := Kp_10.trans K11 (allS (Or.inr sz_t) (all0))
  obtain ⟨fs, hr, hrun, hended, hRW⟩ := Jvm.Stand.leaveW (s := s) (vm₁ := s.vm) X11 ((State.WarmedH.refl s).since 0) (Nat.zero_le _) (v := some (.ref t)) (fun h => by rw [Bd.returns] at h; cases h)
  have CE : CHr Z own_EL s.vm s.heap T11.vm T11.heap := by
    rw [hh]
    exact CA_11.trans (CHv.at (vm0 := s.vm) (s := s) X11 hZ hEL CA_11.1)
  refine ⟨_, _, pre0 _ (st1 _ (st2 _ (st3 _ (st4 _ (st5 _ (st6 _ (st7 _ (st8 _ (st9 _ (st10 _ (st11.trans ?_))))))))))), hrun, hended, _, _, rfl, ?_, CE, hRW.1, hRW.2.1, hRW.2.2.1, hRW.2.2.2.mono (by decide) (by decide)⟩
  · show Steps p.tables e below (T11.setTop (mkF m 64 #[.val (.int (2 : Int32)), .val (.ref r1)] [(.ref t)])) _
    jvm_step X11.here [X11.here.top, hx, (hb hby d1_64), X11.method', Bd.returns, Value.isRef, FieldType.isReference]
    first | (intro acts; rw [hr _ acts rfl rfl rfl]) | rw [hr _ _ rfl rfl rfl]
    exact Steps.refl _
  · show Q_rmMk2 Z r1 cs fm kc x0 x1 x2 h0 n0 _ T11.heap _
    exact ⟨t, rfl, N11, Kp_11, sz_t, Et, Ct, yy, ky, Fvt, Vy⟩
theorem ef_rmMk3 (m : MethodId) (x0 : Int32) (x1 : Addr) : entryFrame m #[(.int x0), (.ref x1)] 2 = mkF m 0 #[.val (.int x0), .val (.ref x1)] [] := by first | (simp [entryFrame, mkF, argsToLocals, Value.category]; done) | rfl
def Q_rmMk3 (Z : State) (r1 : Addr) (cs : Int32) (fm : Value) (kc : ClassId) (x0 : Int32) (x1 : Int32) (x2 : Int32) (h0 : Heap) (n0 : Nat) (v : Option Value) (h : Heap) (L : List Loc) : Prop := ∃ t, v = some (.ref t) ∧ Fr n0 L ∧ Keep h0 h [] ∧ h0.size ≤ t ∧ Exa Z h t "java/lang/String" ∧ Fld Z h t "java/lang/String" "coder" "B" (.int (0 : Int32)) ∧ ∃ y ky, Fld Z h t "java/lang/String" "value" "[B" (.ref y) ∧ Arv Z h y ky .byte (3 : Int32) (own_bs ([x0, x1, x2] : List Int32)) (.int (0 : Int32))
set_option maxRecDepth 65536 in
set_option maxHeartbeats 40000000 in
theorem rmMk3 (l : Launch) (Z : State) (a0 : Array Value) (hw : ∀ d ∈ tables_1, d.before a0 Z = true) (ws : List Jvm.Cond) (r1 : Addr) (cs : Int32) (fm : Value) (kc : ClassId) (x0 : Int32) (x1 : Int32) (x2 : Int32) (h0 : Heap) (n0 : Nat) (Z0 : n0 ≤ h0.size) (SB : own_St Z cs fm) (Od : Old Z n0 h0) (Vc : Arv Z h0 r1 kc .char (3 : Int32) [(.int x0), (.int x1), (.int x2)] (.int (0 : Int32))) (ec0 : own_c7 x0) (ec1 : own_c7 x1) (ec2 : own_c7 x2) :
    MetFree l (⟨"com/example/murray_hill/murrayhill/AsciiLineAppendPinLaw", "make", "(I[C)Ljava/lang/String;"⟩ : MethodName) (head1 (Jvm.Cond.code (⟨"com/example/murray_hill/murrayhill/AsciiLineAppendPinLaw", "make", "(I[C)Ljava/lang/String;"⟩ : MethodName) method_3_code 2 (some (.object "java/lang/String")) :: ws) ({ frames := 4, cells := 6, slots := 12, locals := 66 } : Room)) (fun a U => a = #[(.int (3 : Int32)), (.ref r1)] ∧ Z.Warmed39 U.vm ∧ U.heap = h0 ∧ CHv Z own_EL U.vm h0) (fun _ _ _ _ _ => True) (fun _ U o U' => ∃ v L, o = .returned v ∧ Q_rmMk3 Z r1 cs fm kc x0 x1 x2 h0 n0 v U'.heap L ∧ CHr Z own_EL U.vm U.heap U'.vm U'.heap ∧ ReturnedEndW U o U' L ({ frames := 4, cells := 6, slots := 12, locals := 66 } : Room).cells ({ frames := 4, cells := 6, slots := 12, locals := 66 } : Room).slots) := by
  refine MetFree.of_bodySF (plainFor_of_name pn_1) hisR ?_
  intro p e s m args below meth c s₁ Bd hml0 hP hK
  obtain ⟨rfl, hZ, hh, hCH⟩ := hP
  have hx := Bd.exec
  have hby := Bd.bytes
  have hml : c.maxLocals = 2 := hml0
  have hown : s.vm.findClass "com/example/murray_hill/murrayhill/AsciiLineAppendPinLaw" = some m.cls := findClass_of_methodNamed Bd.named
  have hnm := (name_of_methodNamed Bd.named Bd.method).1
  have X0 : Stand p l e ({ frames := 4, cells := 6, slots := 12, locals := 66 } : Room) s m #[(.int (3 : Int32)), (.ref r1)] below meth c s₁ [] 0 0 := Stand.of_body Bd
  have e0 : s₁.heap = h0 := by rw [← hh, Bd.state]; rfl
  have N0 := Fr.nil n0
  have pre0 : ∀ t, Steps p.tables e below (s₁.setTop (mkF m 0 #[.val (.int (3 : Int32)), .val (.ref r1)] [])) t → Steps p.tables e below (s₁.setTop (entryFrame m #[(.int (3 : Int32)), (.ref r1)] 2)) t := fun t k => castTop (ef_rmMk3 m (3 : Int32) r1) k
  have CA := CHr.refl hCH
  have hEL := own_hEL hw
  have wS : ∀ a ∈ Bundle.stringAtoms, a.before a0 Z = true := fun d hd => hw d ((by decide +kernel : ∀ d ∈ Bundle.stringAtoms, d ∈ tables_1) d hd)
  have Kp : Keep h0 h0 [] := Keep.refl _ _
  have st1 : own_S p e below s₁ (mkF m 65 #[.val (.int (3 : Int32)), .val (.ref r1)] []) (mkF m 0 #[.val (.int (3 : Int32)), .val (.ref r1)] []) := by
    intro target kt
    refine XS.iloadN X0.here hx rfl (hb hby d1_0) rfl ?_
    refine XS.ifYes X0.here hx rfl (pc0 := 1) (pc' := 15) rfl (hb hby d1_1) rfl ((if0 _ _).trans (feq (by decide : ¬ ((3 : Int32) = (0 : Int32)))).2) (by decide) (by decide) ?_
    refine XS.iloadN X0.here hx rfl (hb hby d1_15) rfl ?_
    refine XS.iconst X0.here hx rfl (hb hby d1_16) ?_
    refine XS.icmpYes X0.here hx rfl (pc0 := 17) (pc' := 37) rfl (hb hby d1_17) rfl (feq (by decide : ¬ ((3 : Int32) = (1 : Int32)))).2 (by decide) (by decide) ?_
    refine XS.iloadN X0.here hx rfl (hb hby d1_37) rfl ?_
    refine XS.iconst X0.here hx rfl (hb hby d1_38) ?_
    refine XS.icmpYes X0.here hx rfl (pc0 := 39) (pc' := 65) rfl (hb hby d1_39) rfl (feq (by decide : ¬ ((3 : Int32) = (2 : Int32)))).2 (by decide) (by decide) ?_
    exact kt
  obtain ⟨T2, h2, X2, e2, E2, A2, D2, -, st2⟩ := newO X0 hx hZ hown (own_w hw 5 rfl) (own_w hw 6 rfl) (own_w hw 7 rfl) e0 (g := (mkF m 65 #[.val (.int (3 : Int32)), .val (.ref r1)] [])) rfl (hb hby d1_65) (by decide) (by decide)
  obtain ⟨t, g2⟩ : ∃ z, z = h0.size := ⟨_, rfl⟩
  rw [← g2] at A2 D2 st2
  have g_t : n0 ≤ t := Nat.le_trans Z0 (Nat.le_of_eq g2.symm)
  have sz_t : h0.size ≤ t := Nat.le_trans Kp.1 (Nat.le_of_eq g2.symm)
  have Sf_t : Safe Z own_EL s.vm h0 t := Safe.new (Nat.le_of_eq g2.symm)
  have ne_r1_t : r1 ≠ t := Nat.ne_of_lt (Nat.lt_of_lt_of_le Vc.lt (Nat.le_of_eq g2.symm))
  have Od_2 := Od.ext E2
  have Vc_2 := Vc.ext E2
  have Sf_t_2 := Safe.ext E2 CA.1 Sf_t
  have CA_2 := CA.trans (CHr.ext E2 CA.1)
  have Z_2 : n0 ≤ h2.size := Nat.le_trans Z0 E2.1
  have Kp_2 : Keep h0 h2 [] := Kp.ext E2
  have E_t : Exa Z h2 t "java/lang/String" := A2
  have F_value_t : Fld Z h2 t "java/lang/String" "value" "[B" .null := D2 (Or.inr (own_w hw 20 rfl)) (ty := (.array .byte)) (by decide)
  have F_coder_t : Fld Z h2 t "java/lang/String" "coder" "B" (.int (0 : Int32)) := D2 (Or.inr (own_w hw 21 rfl)) (ty := .byte) (by decide)
  have st3 : own_S p e below T2 (mkF m 70 #[.val (.int (3 : Int32)), .val (.ref r1)] [(.int (3 : Int32)), (.ref t), (.ref t)]) (mkF m 68 #[.val (.int (3 : Int32)), .val (.ref r1)] [(.ref t)]) := by
    intro target kt
    refine XS.dup X2.here hx rfl (hb hby d1_68) rfl rfl ?_
    refine XS.iconst X2.here hx rfl (hb hby d1_69) ?_
    exact kt
  obtain ⟨T4, h4, k4, X4, e4, E4, A4, st4⟩ := newP X2 hx hZ (own_w hw 0 rfl) e2 (g := (mkF m 70 #[.val (.int (3 : Int32)), .val (.ref r1)] [(.int (3 : Int32)), (.ref t), (.ref t)])) rfl (hb hby d1_70) rfl (by decide) (cap := 3) (by decide) (by decide) (by decide) (by decide)
  obtain ⟨q, g4⟩ : ∃ z, z = h2.size := ⟨_, rfl⟩
  rw [← g4] at A4 st4
  have g_q : n0 ≤ q := Nat.le_trans Z_2 (Nat.le_of_eq g4.symm)
  have sz_q : h0.size ≤ q := Nat.le_trans Kp_2.1 (Nat.le_of_eq g4.symm)
  have Sf_q : Safe Z own_EL s.vm h2 q := Safe.new (Nat.le_of_eq g4.symm)
  have ne_r1_q : r1 ≠ q := Nat.ne_of_lt (Nat.lt_of_lt_of_le Vc_2.lt (Nat.le_of_eq g4.symm))
  have ne_t_q : t ≠ q := Nat.ne_of_lt (Nat.lt_of_lt_of_le E_t.lt (Nat.le_of_eq g4.symm))
  have Od_4 := Od_2.ext E4
  have Vc_4 := Vc_2.ext E4
  have Sf_t_4 := Safe.ext E4 CA_2.1 Sf_t_2
  have E_t_4 := E_t.ext E4
  have F_value_t_4 := F_value_t.ext E4
  have F_coder_t_4 := F_coder_t.ext E4
  have Sf_q_4 := Safe.ext E4 CA_2.1 Sf_q
  have CA_4 := CA_2.trans (CHr.ext E4 CA_2.1)
  have Z_4 : n0 ≤ h4.size := Nat.le_trans Z_2 E4.1
  have Kp_4 : Keep h0 h4 [] := Kp_2.ext E4
  have V_q : Arv Z h4 q k4 .char (3 : Int32) [(.int (0 : Int32)), (.int (0 : Int32)), (.int (0 : Int32))] (.int (0 : Int32)) := (Arv.new A4 (by decide)).pad (pad_rep [] (.int (0 : Int32)) 3)
  have st5 : own_S p e below T4 (mkF m 76 #[.val (.int (3 : Int32)), .val (.ref r1)] [(.int (0 : Int32)), (.ref r1), (.int (0 : Int32)), (.ref q), (.ref q), (.ref t), (.ref t)]) (mkF m 72 #[.val (.int (3 : Int32)), .val (.ref r1)] [(.ref q), (.ref t), (.ref t)]) := by
    intro target kt
    refine XS.dup X4.here hx rfl (hb hby d1_72) rfl rfl ?_
    refine XS.iconst X4.here hx rfl (hb hby d1_73) ?_
    refine XS.aloadN X4.here hx rfl (hb hby d1_74) rfl rfl ?_
    refine XS.iconst X4.here hx rfl (hb hby d1_75) ?_
    exact kt
  obtain ⟨cl6, Ar6, qc6, Sz6, Mn6, Hs6, Gs6⟩ := id Vc_4
  have hin6 : ¬ ((0 : Int32) < 0 ∨ cl6.slots.size ≤ ((0 : Int32)).toNatClampNeg) := inb_of Sz6 ⟨by decide, by decide⟩
  have hat6 : cl6.slots[((0 : Int32)).toNatClampNeg]? = some (.int x0) := Hs6.at hin6 rfl
  have st6 : own_S p e below T4 (mkF m 77 #[.val (.int (3 : Int32)), .val (.ref r1)] [(.int x0), (.int (0 : Int32)), (.ref q), (.ref q), (.ref t), (.ref t)]) (mkF m 76 #[.val (.int (3 : Int32)), .val (.ref r1)] [(.int (0 : Int32)), (.ref r1), (.int (0 : Int32)), (.ref q), (.ref q), (.ref t), (.ref t)]) := fun target kt => X4.caload hx (j := (0 : Int32)) (v := (.int x0)) (by rw [e4]; exact Ar6.1) (State.isArrayOf_alike hZ.alike Ar6.2.1) Ar6.2.2 hin6 hat6 (g := (mkF m 76 #[.val (.int (3 : Int32)), .val (.ref r1)] [(.int (0 : Int32)), (.ref r1), (.int (0 : Int32)), (.ref q), (.ref q), (.ref t), (.ref t)])) rfl rfl (hb hby d1_76) _ kt
  obtain ⟨cl7, Ar7, qc7, Sz7, Mn7, Hs7, Gs7⟩ := id V_q
  have hin7 : ¬ ((0 : Int32) < 0 ∨ cl7.slots.size ≤ ((0 : Int32)).toNatClampNeg) := inb_of Sz7 ⟨by decide, by decide⟩
  obtain ⟨T7, h7, X7, e7, W7, st7⟩ := stC X4 hx hZ e4 Ar7 (j := (0 : Int32)) hin7 (g := (mkF m 77 #[.val (.int (3 : Int32)), .val (.ref r1)] [(.int x0), (.int (0 : Int32)), (.ref q), (.ref q), (.ref t), (.ref t)])) rfl rfl (hb hby d1_77)
  have V_q_7 : Arv Z h7 q k4 .char (3 : Int32) [(.int (nar .char x0)), (.int (0 : Int32)), (.int (0 : Int32))] (.int (0 : Int32)) := Arv.set Ar7 qc7 Sz7 Mn7 Hs7 Gs7 (fits_nar_char _) W7 0 rfl (Nat.le_of_ble_eq_true rfl)
  have Od_7 := Od_4.wr W7 g_q
  have Vc_7 := Vc_4.other W7 ne_r1_q
  have Sf_t_7 := Safe.wr W7 Sf_q_4 CA_4.1 Sf_t_4
  have E_t_7 := E_t_4.wr W7
  have F_value_t_7 := F_value_t_4.other W7 (Or.inl ne_t_q)
  have F_coder_t_7 := F_coder_t_4.other W7 (Or.inl ne_t_q)
  have Sf_q_7 := Safe.wr W7 Sf_q_4 CA_4.1 Sf_q_4
  have CA_7 := CA_4.trans (CHr.wr W7 Sf_q_4 CA_4.1)
  have Z_7 : n0 ≤ h7.size := Nat.le_trans Z_4 (Keep.of_wr W7).1
  have Kp_7 : Keep h0 h7 [] := Kp_4.wr W7 (Or.inr sz_q)
  have N7 := Fr.snoc X7 N0 g_q
  rw [own_ncI (own_c7c ec0)] at V_q_7
  have st8 : own_S p e below T7 (mkF m 82 #[.val (.int (3 : Int32)), .val (.ref r1)] [(.int (1 : Int32)), (.ref r1), (.int (1 : Int32)), (.ref q), (.ref q), (.ref t), (.ref t)]) (mkF m 78 #[.val (.int (3 : Int32)), .val (.ref r1)] [(.ref q), (.ref t), (.ref t)]) := by
    intro target kt
    refine XS.dup X7.here hx rfl (hb hby d1_78) rfl rfl ?_
    refine XS.iconst X7.here hx rfl (hb hby d1_79) ?_
    refine XS.aloadN X7.here hx rfl (hb hby d1_80) rfl rfl ?_
    refine XS.iconst X7.here hx rfl (hb hby d1_81) ?_
    exact kt
  obtain ⟨cl9, Ar9, qc9, Sz9, Mn9, Hs9, Gs9⟩ := id Vc_7
  have hin9 : ¬ ((1 : Int32) < 0 ∨ cl9.slots.size ≤ ((1 : Int32)).toNatClampNeg) := inb_of Sz9 ⟨by decide, by decide⟩
  have hat9 : cl9.slots[((1 : Int32)).toNatClampNeg]? = some (.int x1) := Hs9.at hin9 rfl
  have st9 : own_S p e below T7 (mkF m 83 #[.val (.int (3 : Int32)), .val (.ref r1)] [(.int x1), (.int (1 : Int32)), (.ref q), (.ref q), (.ref t), (.ref t)]) (mkF m 82 #[.val (.int (3 : Int32)), .val (.ref r1)] [(.int (1 : Int32)), (.ref r1), (.int (1 : Int32)), (.ref q), (.ref q), (.ref t), (.ref t)]) := fun target kt => X7.caload hx (j := (1 : Int32)) (v := (.int x1)) (by rw [e7]; exact Ar9.1) (State.isArrayOf_alike hZ.alike Ar9.2.1) Ar9.2.2 hin9 hat9 (g := (mkF m 82 #[.val (.int (3 : Int32)), .val (.ref r1)] [(.int (1 : Int32)), (.ref r1), (.int (1 : Int32)), (.ref q), (.ref q), (.ref t), (.ref t)])) rfl rfl (hb hby d1_82) _ kt
  obtain ⟨cl10, Ar10, qc10, Sz10, Mn10, Hs10, Gs10⟩ := id V_q_7
  have hin10 : ¬ ((1 : Int32) < 0 ∨ cl10.slots.size ≤ ((1 : Int32)).toNatClampNeg) := inb_of Sz10 ⟨by decide, by decide⟩
  obtain ⟨T10, h10, X10, e10, W10, st10⟩ := stC X7 hx hZ e7 Ar10 (j := (1 : Int32)) hin10 (g := (mkF m 83 #[.val (.int (3 : Int32)), .val (.ref r1)] [(.int x1), (.int (1 : Int32)), (.ref q), (.ref q), (.ref t), (.ref t)])) rfl rfl (hb hby d1_83)
  have V_q_10 : Arv Z h10 q k4 .char (3 : Int32) [(.int x0), (.int (nar .char x1)), (.int (0 : Int32))] (.int (0 : Int32)) := Arv.set Ar10 qc10 Sz10 Mn10 Hs10 Gs10 (fits_nar_char _) W10 1 rfl (Nat.le_of_ble_eq_true rfl)
  have Od_10 := Od_7.wr W10 g_q
  have Vc_10 := Vc_7.other W10 ne_r1_q
  have Sf_t_10 := Safe.wr W10 Sf_q_7 CA_7.1 Sf_t_7
  have E_t_10 := E_t_7.wr W10
  have F_value_t_10 := F_value_t_7.other W10 (Or.inl ne_t_q)
  have F_coder_t_10 := F_coder_t_7.other W10 (Or.inl ne_t_q)
  have Sf_q_10 := Safe.wr W10 Sf_q_7 CA_7.1 Sf_q_7
  have CA_10 := CA_7.trans (CHr.wr W10 Sf_q_7 CA_7.1)
  have Z_10 : n0 ≤ h10.size := Nat.le_trans Z_7 (Keep.of_wr W10).1
  have Kp_10 : Keep h0 h10 [] := Kp_7.wr W10 (Or.inr sz_q)
  have N10 := Fr.snoc X10 N7 g_q
  rw [own_ncI (own_c7c ec1)] at V_q_10
  have st11 : own_S p e below T10 (mkF m 88 #[.val (.int (3 : Int32)), .val (.ref r1)] [(.int (2 : Int32)), (.ref r1), (.int (2 : Int32)), (.ref q), (.ref q), (.ref t), (.ref t)]) (mkF m 84 #[.val (.int (3 : Int32)), .val (.ref r1)] [(.ref q), (.ref t), (.ref t)]) := by
    intro target kt
    refine XS.dup X10.here hx rfl (hb hby d1_84) rfl rfl ?_
    refine XS.iconst X10.here hx rfl (hb hby d1_85) ?_
    refine XS.aloadN X10.here hx rfl (hb hby d1_86) rfl rfl ?_
    refine XS.iconst X10.here hx rfl (hb hby d1_87) ?_
    exact kt
  obtain ⟨cl12, Ar12, qc12, Sz12, Mn12, Hs12, Gs12⟩ := id Vc_10
  have hin12 : ¬ ((2 : Int32) < 0 ∨ cl12.slots.size ≤ ((2 : Int32)).toNatClampNeg) := inb_of Sz12 ⟨by decide, by decide⟩
  have hat12 : cl12.slots[((2 : Int32)).toNatClampNeg]? = some (.int x2) := Hs12.at hin12 rfl
  have st12 : own_S p e below T10 (mkF m 89 #[.val (.int (3 : Int32)), .val (.ref r1)] [(.int x2), (.int (2 : Int32)), (.ref q), (.ref q), (.ref t), (.ref t)]) (mkF m 88 #[.val (.int (3 : Int32)), .val (.ref r1)] [(.int (2 : Int32)), (.ref r1), (.int (2 : Int32)), (.ref q), (.ref q), (.ref t), (.ref t)]) := fun target kt => X10.caload hx (j := (2 : Int32)) (v := (.int x2)) (by rw [e10]; exact Ar12.1) (State.isArrayOf_alike hZ.alike Ar12.2.1) Ar12.2.2 hin12 hat12 (g := (mkF m 88 #[.val (.int (3 : Int32)), .val (.ref r1)] [(.int (2 : Int32)), (.ref r1), (.int (2 : Int32)), (.ref q), (.ref q), (.ref t), (.ref t)])) rfl rfl (hb hby d1_88) _ kt
  obtain ⟨cl13, Ar13, qc13, Sz13, Mn13, Hs13, Gs13⟩ := id V_q_10
  have hin13 : ¬ ((2 : Int32) < 0 ∨ cl13.slots.size ≤ ((2 : Int32)).toNatClampNeg) := inb_of Sz13 ⟨by decide, by decide⟩
  obtain ⟨T13, h13, X13, e13, W13, st13⟩ := stC X10 hx hZ e10 Ar13 (j := (2 : Int32)) hin13 (g := (mkF m 89 #[.val (.int (3 : Int32)), .val (.ref r1)] [(.int x2), (.int (2 : Int32)), (.ref q), (.ref q), (.ref t), (.ref t)])) rfl rfl (hb hby d1_89)
  have V_q_13 : Arv Z h13 q k4 .char (3 : Int32) [(.int x0), (.int x1), (.int (nar .char x2))] (.int (0 : Int32)) := Arv.set Ar13 qc13 Sz13 Mn13 Hs13 Gs13 (fits_nar_char _) W13 2 rfl (Nat.le_of_ble_eq_true rfl)
  have Od_13 := Od_10.wr W13 g_q
  have Vc_13 := Vc_10.other W13 ne_r1_q
  have Sf_t_13 := Safe.wr W13 Sf_q_10 CA_10.1 Sf_t_10
  have E_t_13 := E_t_10.wr W13
  have F_value_t_13 := F_value_t_10.other W13 (Or.inl ne_t_q)
  have F_coder_t_13 := F_coder_t_10.other W13 (Or.inl ne_t_q)
  have Sf_q_13 := Safe.wr W13 Sf_q_10 CA_10.1 Sf_q_10
  have CA_13 := CA_10.trans (CHr.wr W13 Sf_q_10 CA_10.1)
  have Z_13 : n0 ≤ h13.size := Nat.le_trans Z_10 (Keep.of_wr W13).1
  have Kp_13 : Keep h0 h13 [] := Kp_10.wr W13 (Or.inr sz_q)
  have N13 := Fr.snoc X13 N10 g_q
  rw [own_ncI (own_c7c ec2)] at V_q_13
  have hwords : ∀ d ∈ StrChars.Road.words, d.before a0 Z = true := fun d hd => hw d ((by decide +kernel : ∀ d ∈ StrChars.Road.words, d ∈ tables_1) d hd)
  obtain ⟨_, _, ⟨T14, L14, k14, n14⟩, -, X14, ⟨Lc14, hQ14, l14, y14, z14⟩, st14⟩ := X13.specialBack hx (y := (⟨"java/lang/String", "<init>", "([C)V"⟩ : MethodName)) rfl hown (mvT hZ (own_w hw 8 rfl)) (mvT hZ (own_w hw 9 rfl)) (mvT hZ (own_w hw 10 rfl)) (by decide) (StrChars.Road.backV (W := 1) hZ hwords (kI := 4) (own_w hw 6 rfl) (cs := ([x0, x1, x2] : List Int32)) (bs := ([x0, x1, x2] : List Int32).map (fun c => c.toInt8.toInt32)) (n := 3) g_t Z_13 E_t_13 F_value_t_13 F_coder_t_13 V_q_13 (SB.1.ext Od_13.2) SB.2.1 rfl rfl (by decide) (by decide) (own_hp (own_allS ec0 (own_allS ec1 (own_allS ec2 own_all0)))) rfl (by decide) (by decide)) (g := (mkF m 90 #[.val (.int (3 : Int32)), .val (.ref r1)] [(.ref q), (.ref t), (.ref t)])) rfl (by rw [hml]; rfl) (Steps.refl _) (a := t) (argsL := [(.ref q)]) (rest := [(.ref t)]) (lenOf pd_1 rfl) rfl (by show 2 * 0 + _ ≤ _; exact Nat.le_of_eq rfl) (hb hby d1_90) (fun _ _ => ⟨rfl, e13, (by decide : 2 + 1 ≤ _), (by decide : 7 + 3 ≤ _)⟩)
  dsimp only [Pt.U, Pt.locs, Pt.cells, Pt.slots] at X14 l14 y14 z14 st14 hQ14
  subst l14 y14 z14
  obtain ⟨rfl, Nq14, K14, Et, Ct, yy, ky, u1, szy, u3, Fvt, Vy⟩ := hQ14
  have N14 := Fr.app N13 Nq14
  have Od_14 := Od_13.keep K14 (allS g_t (all0))
  have Vc_14 := Vc_13.keep K14 (ninS ne_r1_t nin0)
  have Sf_t_14 := Safe.keep K14 (allS Sf_t_13 all0) CA_13.1 Sf_t_13
  have E_t_14 := E_t_13.keep K14
  have Sf_q_14 := Safe.keep K14 (allS Sf_t_13 all0) CA_13.1 Sf_q_13
  have V_q_14 := V_q_13.keep K14 (ninS (Ne.symm ne_t_q) nin0)
  have CA_14 := CA_13.trans (CHr.keep K14 (allS Sf_t_13 all0) CA_13.1)
  have Z_14 : n0 ≤ T14.heap.size := Nat.le_trans Z_13 K14.1
  have Kp_14 : Keep h0 T14.heap [] := Kp_13.trans K14 (allS (Or.inr sz_t) (all0))
  obtain ⟨fs, hr, hrun, hended, hRW⟩ := Jvm.Stand.leaveW (s := s) (vm₁ := s.vm) X14 ((State.WarmedH.refl s).since 0) (Nat.zero_le _) (v := some (.ref t)) (fun h => by rw [Bd.returns] at h; cases h)
  have CE : CHr Z own_EL s.vm s.heap T14.vm T14.heap := by
    rw [hh]
    exact CA_14.trans (CHv.at (vm0 := s.vm) (s := s) X14 hZ hEL CA_14.1)
  refine ⟨_, _, pre0 _ (st1 _ (st2 _ (st3 _ (st4 _ (st5 _ (st6 _ (st7 _ (st8 _ (st9 _ (st10 _ (st11 _ (st12 _ (st13 _ (st14.trans ?_)))))))))))))), hrun, hended, _, _, rfl, ?_, CE, hRW.1, hRW.2.1, hRW.2.2.1, hRW.2.2.2.mono (by decide) (by decide)⟩
  · show Steps p.tables e below (T14.setTop (mkF m 93 #[.val (.int (3 : Int32)), .val (.ref r1)] [(.ref t)])) _
    jvm_step X14.here [X14.here.top, hx, (hb hby d1_93), X14.method', Bd.returns, Value.isRef, FieldType.isReference]
    first | (intro acts; rw [hr _ acts rfl rfl rfl]) | rw [hr _ _ rfl rfl rfl]
    exact Steps.refl _
  · show Q_rmMk3 Z r1 cs fm kc x0 x1 x2 h0 n0 _ T14.heap _
    exact ⟨t, rfl, N14, Kp_14, sz_t, Et, Ct, yy, ky, Fvt, Vy⟩
def Q_rmMk (Z : State) (p0 : Int32) (r1 : Addr) (cs : Int32) (fm : Value) (kc : ClassId) (x0 : Int32) (x1 : Int32) (x2 : Int32) (cs_ : List Int32) (h0 : Heap) (n0 : Nat) (v : Option Value) (h : Heap) (L : List Loc) : Prop := ∃ t, v = some (.ref t) ∧ Fr n0 L ∧ Keep h0 h [] ∧ h0.size ≤ t ∧ Exa Z h t "java/lang/String" ∧ Fld Z h t "java/lang/String" "coder" "B" (.int (0 : Int32)) ∧ ∃ y ky, Fld Z h t "java/lang/String" "value" "[B" (.ref y) ∧ Arv Z h y ky .byte p0 (own_bs cs_) (.int (0 : Int32))
theorem rmMk (l : Launch) (Z : State) (a0 : Array Value) (hw : ∀ d ∈ tables_1, d.before a0 Z = true) (ws : List Jvm.Cond) (p0 : Int32) (r1 : Addr) (cs : Int32) (fm : Value) (kc : ClassId) (x0 : Int32) (x1 : Int32) (x2 : Int32) (cs_ : List Int32) (h0 : Heap) (n0 : Nat) (Z0 : n0 ≤ h0.size) (SB : own_St Z cs fm) (Od : Old Z n0 h0) (Vc : Arv Z h0 r1 kc .char (3 : Int32) [(.int x0), (.int x1), (.int x2)] (.int (0 : Int32))) (ec0 : own_c7 x0) (ec1 : own_c7 x1) (ec2 : own_c7 x2) (hm : own_mk p0 cs_ x0 x1 x2) :
    MetFree l (⟨"com/example/murray_hill/murrayhill/AsciiLineAppendPinLaw", "make", "(I[C)Ljava/lang/String;"⟩ : MethodName) (head1 (Jvm.Cond.code (⟨"com/example/murray_hill/murrayhill/AsciiLineAppendPinLaw", "make", "(I[C)Ljava/lang/String;"⟩ : MethodName) method_3_code 2 (some (.object "java/lang/String")) :: ws) ({ frames := 4, cells := 6, slots := 12, locals := 66 } : Room)) (fun a U => a = #[(.int p0), (.ref r1)] ∧ Z.Warmed39 U.vm ∧ U.heap = h0 ∧ CHv Z own_EL U.vm h0) (fun _ _ _ _ _ => True) (fun _ U o U' => ∃ v L, o = .returned v ∧ Q_rmMk Z p0 r1 cs fm kc x0 x1 x2 cs_ h0 n0 v U'.heap L ∧ CHr Z own_EL U.vm U.heap U'.vm U'.heap ∧ ReturnedEndW U o U' L ({ frames := 4, cells := 6, slots := 12, locals := 66 } : Room).cells ({ frames := 4, cells := 6, slots := 12, locals := 66 } : Room).slots) := by
  rcases hm with ⟨a, b⟩ | ⟨a, b⟩ | ⟨a, b⟩ | ⟨a, b⟩
  · subst a; subst b; exact rmMk0 l Z a0 hw ws r1 cs fm kc x0 x1 x2 h0 n0 Z0 SB Od Vc ec0 ec1 ec2
  · subst a; subst b; exact rmMk1 l Z a0 hw ws r1 cs fm kc x0 x1 x2 h0 n0 Z0 SB Od Vc ec0 ec1 ec2
  · subst a; subst b; exact rmMk2 l Z a0 hw ws r1 cs fm kc x0 x1 x2 h0 n0 Z0 SB Od Vc ec0 ec1 ec2
  · subst a; subst b; exact rmMk3 l Z a0 hw ws r1 cs fm kc x0 x1 x2 h0 n0 Z0 SB Od Vc ec0 ec1 ec2
def own_pl : Int32 → List Int32 → Int32
  | m, [] => m
  | m, _ :: cs => own_pl (m + (1 : Int32)) cs
def own_hs : Int32 → List Int32 → List (Int32 × Value) → List (Int32 × Value)
  | _, [], h => h
  | m, c :: cs, h => own_hs (m + (1 : Int32)) cs ((m, (.int c)) :: h)
theorem own_in6 {c : Cell} {j : Int32} (S : c.slots.size = (6 : Int32).toNatClampNeg) (h : 0 ≤ j.toInt ∧ j.toInt < 6) : ¬ (j < 0 ∨ c.slots.size ≤ j.toNatClampNeg) := inb_of S ⟨own_nlt0 h.1, by rw [Int32.lt_iff_toInt_lt, show (6 : Int32).toInt = 6 from rfl]; exact h.2⟩
theorem own_up {j : Int32} {a : Int} (h : 0 ≤ j.toInt ∧ j.toInt ≤ a) (ha : a < 100) : 0 ≤ (j + (1 : Int32)).toInt ∧ (j + (1 : Int32)).toInt ≤ a + 1 := by
  have e : (j + (1 : Int32)).toInt = (j.toInt + 1).bmod (2 ^ 32) := Int32.toInt_add j 1
  have q : (j + (1 : Int32)).toInt = j.toInt + 1 := by rw [e]; exact Int.bmod_eq_of_le (by omega) (by omega)
  omega
theorem d5_0 : decode prog_2_method_1_code 0 = .ok (.aload_n 0, 1) := by decide +kernel
theorem d5_1 : decode prog_2_method_1_code 1 = .ok (.invokespecial 1, 3) := by decide +kernel
theorem d5_4 : decode prog_2_method_1_code 4 = .ok (.aload_n 0, 1) := by decide +kernel
theorem d5_5 : decode prog_2_method_1_code 5 = .ok (.iload_n 1, 1) := by decide +kernel
theorem d5_6 : decode prog_2_method_1_code 6 = .ok (.newarray .byte, 2) := by decide +kernel
theorem d5_8 : decode prog_2_method_1_code 8 = .ok (.putfield 7, 3) := by decide +kernel
theorem d5_11 : decode prog_2_method_1_code 11 = .ok (.return_, 1) := by decide +kernel
theorem pn_2 : plainName "com/example/murray_hill/murrayhill/AsciiLine" = true := by first | (simp [plainName, overriddenIn]; done) | decide +kernel
theorem ef_rmLi (m : MethodId) (x0 : Addr) (x1 : Int32) : entryFrame m #[(.ref x0), (.int x1)] 2 = mkF m 0 #[.val (.ref x0), .val (.int x1)] [] := by first | (simp [entryFrame, mkF, argsToLocals, Value.category]; done) | rfl
def Q_rmLi (Z : State) (r0 : Addr) (h0 : Heap) (n0 : Nat) (v : Option Value) (h : Heap) (L : List Loc) : Prop := v = none ∧ Fr n0 L ∧ Keep h0 h [r0] ∧ Exa Z h r0 "com/example/murray_hill/murrayhill/AsciiLine" ∧ ∃ bb kb, h0.size ≤ bb ∧ Fld Z h r0 "com/example/murray_hill/murrayhill/AsciiLine" "bytes" "[B" (.ref bb) ∧ Fld Z h r0 "com/example/murray_hill/murrayhill/AsciiLine" "length" "I" (.int (0 : Int32)) ∧ Arh Z h bb kb .byte (6 : Int32) [] [] (.int (0 : Int32))
set_option maxRecDepth 65536 in
set_option maxHeartbeats 40000000 in
theorem rmLi (l : Launch) (Z : State) (a0 : Array Value) (hw : ∀ d ∈ tables_1, d.before a0 Z = true) (ws : List Jvm.Cond) (r0 : Addr) (h0 : Heap) (n0 : Nat) (Z0 : n0 ≤ h0.size) (F_bytes : Fld Z h0 r0 "com/example/murray_hill/murrayhill/AsciiLine" "bytes" "[B" .null) (F_length : Fld Z h0 r0 "com/example/murray_hill/murrayhill/AsciiLine" "length" "I" (.int (0 : Int32))) (E_o : Exa Z h0 r0 "com/example/murray_hill/murrayhill/AsciiLine") (g_r0 : n0 ≤ r0) :
    MetFree l (⟨"com/example/murray_hill/murrayhill/AsciiLine", "<init>", "(I)V"⟩ : MethodName) (head1 (Jvm.Cond.code (⟨"com/example/murray_hill/murrayhill/AsciiLine", "<init>", "(I)V"⟩ : MethodName) prog_2_method_1_code 2 none :: ws) ({ frames := 1, cells := 1, slots := 6, locals := 12 } : Room)) (fun a U => a = #[(.ref r0), (.int (6 : Int32))] ∧ Z.Warmed39 U.vm ∧ U.heap = h0) (fun _ _ _ _ _ => True) (fun _ U o U' => ∃ v L, o = .returned v ∧ Q_rmLi Z r0 h0 n0 v U'.heap L ∧ FrameEnd U o U' L ({ frames := 1, cells := 1, slots := 6, locals := 12 } : Room).cells ({ frames := 1, cells := 1, slots := 6, locals := 12 } : Room).slots) := by
  refine MetFree.of_bodySF (plainFor_of_name pn_2) hisR ?_
  intro p e s m args below meth c s₁ Bd hml0 hP hK
  obtain ⟨rfl, hZ, hh⟩ := hP
  have hx := Bd.exec
  have hby := Bd.bytes
  have hml : c.maxLocals = 2 := hml0
  have hown : s.vm.findClass "com/example/murray_hill/murrayhill/AsciiLine" = some m.cls := findClass_of_methodNamed Bd.named
  have hnm := (name_of_methodNamed Bd.named Bd.method).1
  have X0 : Stand p l e ({ frames := 1, cells := 1, slots := 6, locals := 12 } : Room) s m #[(.ref r0), (.int (6 : Int32))] below meth c s₁ [] 0 0 := Stand.of_body Bd
  have e0 : s₁.heap = h0 := by rw [← hh, Bd.state]; rfl
  have N0 := Fr.nil n0
  have pre0 : ∀ t, Steps p.tables e below (s₁.setTop (mkF m 0 #[.val (.ref r0), .val (.int (6 : Int32))] [])) t → Steps p.tables e below (s₁.setTop (entryFrame m #[(.ref r0), (.int (6 : Int32))] 2)) t := fun t k => castTop (ef_rmLi m r0 (6 : Int32)) k
  have Kp : Keep h0 h0 [r0] := Keep.refl _ _
  have st1 : own_S p e below s₁ (mkF m 1 #[.val (.ref r0), .val (.int (6 : Int32))] [(.ref r0)]) (mkF m 0 #[.val (.ref r0), .val (.int (6 : Int32))] []) := by
    intro target kt
    refine XS.aloadN X0.here hx rfl (hb hby d5_0) rfl rfl ?_
    exact kt
  obtain ⟨T2, X2, e2, st2⟩ := initO X0 hx hZ hown (own_w hw 32 rfl) (own_w hw 16 rfl) (own_w hw 17 rfl) e0 (g := (mkF m 1 #[.val (.ref r0), .val (.int (6 : Int32))] [(.ref r0)])) rfl (by rw [hml]; rfl) rfl (hb hby d5_1) (by decide) (W := 0) (by show 2 * 0 + _ ≤ _; exact Nat.le_of_eq rfl) (by decide)
  have st3 : own_S p e below T2 (mkF m 6 #[.val (.ref r0), .val (.int (6 : Int32))] [(.int (6 : Int32)), (.ref r0)]) (mkF m 4 #[.val (.ref r0), .val (.int (6 : Int32))] []) := by
    intro target kt
    refine XS.aloadN X2.here hx rfl (hb hby d5_4) rfl rfl ?_
    refine XS.iloadN X2.here hx rfl (hb hby d5_5) rfl ?_
    exact kt
  obtain ⟨T4, h4, k4, X4, e4, E4, A4, Ex4, st4⟩ := newPE X2 hx hZ (own_w hw 19 rfl) e2 (g := (mkF m 6 #[.val (.ref r0), .val (.int (6 : Int32))] [(.int (6 : Int32)), (.ref r0)])) rfl (hb hby d5_6) rfl (by decide) (cap := 6) (by decide) (by decide) (by decide) (by decide) (ad := "[B") (by decide)
  obtain ⟨bb, g4⟩ : ∃ z, z = h0.size := ⟨_, rfl⟩
  rw [← g4] at A4 Ex4 st4
  have g_bb : n0 ≤ bb := Nat.le_trans Z0 (Nat.le_of_eq g4.symm)
  have sz_bb : h0.size ≤ bb := Nat.le_trans Kp.1 (Nat.le_of_eq g4.symm)
  have ne_r0_bb : r0 ≠ bb := Nat.ne_of_lt (Nat.lt_of_lt_of_le E_o.lt (Nat.le_of_eq g4.symm))
  have E_o_4 := E_o.ext E4
  have F_bytes_4 := F_bytes.ext E4
  have F_length_4 := F_length.ext E4
  have Z_4 : n0 ≤ h4.size := Nat.le_trans Z0 E4.1
  have Kp_4 : Keep h0 h4 [r0] := Kp.ext E4
  have Hh_bb : Arh Z h4 bb k4 .byte (6 : Int32) [] [] (.int (0 : Int32)) := Arv.arh (Arv.new A4 (by decide))
  obtain ⟨T5, h5, X5, e5, W5, st5⟩ := putF X4 hx hZ hown (host := "") (Or.inl (own_w hw 33 rfl)) Via.refl e4 F_bytes_4 E_o_4 (Or.inr ⟨(own_w hw 34 rfl), rfl, hnm⟩) (own_w hw 27 rfl) (ty := (.array .byte)) (by decide) rfl rfl (g := (mkF m 8 #[.val (.ref r0), .val (.int (6 : Int32))] [(.ref bb), (.ref r0)])) rfl rfl (hb hby d5_8)
  have F_bytes_r0_5 : Fld Z h5 r0 "com/example/murray_hill/murrayhill/AsciiLine" "bytes" "[B" (.ref bb) := F_bytes_4.same W5
  have E_o_5 := E_o_4.wr W5
  have F_length_5 := F_length_4.other W5 (Or.inr (slot_ne (Or.inl (own_w hw 57 rfl)) (Or.inr (own_w hw 34 rfl)) (by decide) (t := .int) (t' := (.array .byte)) (by decide) (by decide)))
  have Hh_bb_5 := Hh_bb.other W5 (Ne.symm ne_r0_bb)
  have Ex4_5 := Ex4.wr W5
  have Z_5 : n0 ≤ h5.size := Nat.le_trans Z_4 (Keep.of_wr W5).1
  have Kp_5 : Keep h0 h5 [r0] := Kp_4.wr W5 (Or.inl (List.mem_of_getElem? (i := 0) rfl))
  have N5 := Fr.snoc X5 N0 g_r0
  obtain ⟨fs, hr, hrun, hended, hW, hsame⟩ := X5.leave (v := none) (fun _ => rfl)
  refine ⟨_, _, pre0 _ (st1 _ (st2 _ (st3 _ (st4 _ (st5 _ ?_))))), hrun, hended, _, _, rfl, ?_, ⟨_, rfl⟩, hW, hsame.mono (by decide) (by decide)⟩
  · show Steps p.tables e below (T5.setTop (mkF m 11 #[.val (.ref r0), .val (.int (6 : Int32))] [])) _
    exact X5.returnOut hx Bd.returns (hb hby d5_11) hr
  · show Q_rmLi Z r0 h0 n0 _ T5.heap _
    rw [e5]
    exact ⟨rfl, N5, Kp_5, E_o_5, bb, _, sz_bb, F_bytes_r0_5, F_length_5, Hh_bb_5⟩
theorem d6_0 : decode prog_2_method_3_code 0 = .ok (.iconst 0, 1) := by decide +kernel
theorem d6_1 : decode prog_2_method_3_code 1 = .ok (.istore_n 2, 1) := by decide +kernel
theorem d6_2 : decode prog_2_method_3_code 2 = .ok (.iload_n 2, 1) := by decide +kernel
theorem d6_3 : decode prog_2_method_3_code 3 = .ok (.aload_n 1, 1) := by decide +kernel
theorem d6_4 : decode prog_2_method_3_code 4 = .ok (.invokevirtual 17, 3) := by decide +kernel
theorem d6_7 : decode prog_2_method_3_code 7 = .ok (.if_icmp .ge 31, 3) := by decide +kernel
theorem d6_10 : decode prog_2_method_3_code 10 = .ok (.aload_n 0, 1) := by decide +kernel
theorem d6_11 : decode prog_2_method_3_code 11 = .ok (.getfield 7, 3) := by decide +kernel
theorem d6_14 : decode prog_2_method_3_code 14 = .ok (.aload_n 0, 1) := by decide +kernel
theorem d6_15 : decode prog_2_method_3_code 15 = .ok (.dup, 1) := by decide +kernel
theorem d6_16 : decode prog_2_method_3_code 16 = .ok (.getfield 13, 3) := by decide +kernel
theorem d6_19 : decode prog_2_method_3_code 19 = .ok (.dup_x1, 1) := by decide +kernel
theorem d6_20 : decode prog_2_method_3_code 20 = .ok (.iconst 1, 1) := by decide +kernel
theorem d6_21 : decode prog_2_method_3_code 21 = .ok (.iadd, 1) := by decide +kernel
theorem d6_22 : decode prog_2_method_3_code 22 = .ok (.putfield 13, 3) := by decide +kernel
theorem d6_25 : decode prog_2_method_3_code 25 = .ok (.aload_n 1, 1) := by decide +kernel
theorem d6_26 : decode prog_2_method_3_code 26 = .ok (.iload_n 2, 1) := by decide +kernel
theorem d6_27 : decode prog_2_method_3_code 27 = .ok (.invokevirtual 22, 3) := by decide +kernel
theorem d6_30 : decode prog_2_method_3_code 30 = .ok (.i2b, 1) := by decide +kernel
theorem d6_31 : decode prog_2_method_3_code 31 = .ok (.bastore, 1) := by decide +kernel
theorem d6_32 : decode prog_2_method_3_code 32 = .ok (.iinc 2 1, 3) := by decide +kernel
theorem d6_35 : decode prog_2_method_3_code 35 = .ok (.goto (-33), 3) := by decide +kernel
theorem d6_38 : decode prog_2_method_3_code 38 = .ok (.aload_n 0, 1) := by decide +kernel
theorem d6_39 : decode prog_2_method_3_code 39 = .ok (.areturn, 1) := by decide +kernel
theorem ef_rmAp0 (m : MethodId) (x0 : Addr) (x1 : Addr) : entryFrame m #[(.ref x0), (.ref x1)] 3 = mkF m 0 #[.val (.ref x0), .val (.ref x1), .unset] [] := by first | (simp [entryFrame, mkF, argsToLocals, Value.category]; done) | rfl
def Q_rmAp0 (Z : State) (r0 : Addr) (r1 : Addr) (cs : Int32) (fm : Value) (bb : Addr) (kb : ClassId) (hst : List (Int32 × Value)) (mm : Int32) (y : Addr) (ky : ClassId) (x0 : Int32) (x1 : Int32) (x2 : Int32) (h0 : Heap) (n0 : Nat) (v : Option Value) (h : Heap) (L : List Loc) : Prop := v = some (.ref r0) ∧ Fr n0 L ∧ Keep h0 h [r0, bb] ∧ Fld Z h r0 "com/example/murray_hill/murrayhill/AsciiLine" "bytes" "[B" (.ref bb) ∧ Fld Z h r0 "com/example/murray_hill/murrayhill/AsciiLine" "length" "I" (.int mm) ∧ Arh Z h bb kb .byte (6 : Int32) hst [] (.int (0 : Int32))
set_option maxRecDepth 65536 in
set_option maxHeartbeats 40000000 in
theorem rmAp0 (l : Launch) (Z : State) (a0 : Array Value) (hw : ∀ d ∈ tables_1, d.before a0 Z = true) (ws : List Jvm.Cond) (r0 : Addr) (r1 : Addr) (cs : Int32) (fm : Value) (bb : Addr) (kb : ClassId) (hst : List (Int32 × Value)) (mm : Int32) (y : Addr) (ky : ClassId) (x0 : Int32) (x1 : Int32) (x2 : Int32) (h0 : Heap) (n0 : Nat) (Z0 : n0 ≤ h0.size) (SB : own_St Z cs fm) (Od : Old Z n0 h0) (Fb : Fld Z h0 r0 "com/example/murray_hill/murrayhill/AsciiLine" "bytes" "[B" (.ref bb)) (Fl : Fld Z h0 r0 "com/example/murray_hill/murrayhill/AsciiLine" "length" "I" (.int mm)) (Er : Exa Z h0 r0 "com/example/murray_hill/murrayhill/AsciiLine") (Hh : Arh Z h0 bb kb .byte (6 : Int32) hst [] (.int (0 : Int32))) (Fv : Fld Z h0 r1 "java/lang/String" "value" "[B" (.ref y)) (Fc : Fld Z h0 r1 "java/lang/String" "coder" "B" (.int (0 : Int32))) (Et : Exa Z h0 r1 "java/lang/String") (Vy : Arv Z h0 y ky .byte (0 : Int32) (own_bs ([] : List Int32)) (.int (0 : Int32))) (n1 : bb ≠ r0) (n2 : r1 ≠ r0) (n3 : y ≠ r0) (n4 : r1 ≠ bb) (n5 : y ≠ bb) (g_r0 : n0 ≤ r0) (g_bb : n0 ≤ bb) (ec0 : own_c7 x0) (ec1 : own_c7 x1) (ec2 : own_c7 x2) (hm : 0 ≤ mm.toInt ∧ mm.toInt ≤ 3) :
    MetFree l (⟨"com/example/murray_hill/murrayhill/AsciiLine", "append", "(Ljava/lang/String;)Lcom/example/murray_hill/murrayhill/AsciiLine;"⟩ : MethodName) (head1 (Jvm.Cond.code (⟨"com/example/murray_hill/murrayhill/AsciiLine", "append", "(Ljava/lang/String;)Lcom/example/murray_hill/murrayhill/AsciiLine;"⟩ : MethodName) prog_2_method_3_code 3 (some (.object "com/example/murray_hill/murrayhill/AsciiLine")) :: ws) ({ frames := 4, cells := 0, slots := 0, locals := 55 } : Room)) (fun a U => a = #[(.ref r0), (.ref r1)] ∧ Z.Warmed39 U.vm ∧ U.heap = h0) (fun _ _ _ _ _ => True) (fun _ U o U' => ∃ v L, o = .returned v ∧ Q_rmAp0 Z r0 r1 cs fm bb kb hst mm y ky x0 x1 x2 h0 n0 v U'.heap L ∧ FrameEnd U o U' L ({ frames := 4, cells := 0, slots := 0, locals := 55 } : Room).cells ({ frames := 4, cells := 0, slots := 0, locals := 55 } : Room).slots) := by
  refine MetFree.of_bodySF (plainFor_of_name pn_2) hisR ?_
  intro p e s m args below meth c s₁ Bd hml0 hP hK
  obtain ⟨rfl, hZ, hh⟩ := hP
  have hx := Bd.exec
  have hby := Bd.bytes
  have hml : c.maxLocals = 3 := hml0
  have hown : s.vm.findClass "com/example/murray_hill/murrayhill/AsciiLine" = some m.cls := findClass_of_methodNamed Bd.named
  have hnm := (name_of_methodNamed Bd.named Bd.method).1
  have X0 : Stand p l e ({ frames := 4, cells := 0, slots := 0, locals := 55 } : Room) s m #[(.ref r0), (.ref r1)] below meth c s₁ [] 0 0 := Stand.of_body Bd
  have e0 : s₁.heap = h0 := by rw [← hh, Bd.state]; rfl
  have N0 := Fr.nil n0
  have pre0 : ∀ t, Steps p.tables e below (s₁.setTop (mkF m 0 #[.val (.ref r0), .val (.ref r1), .unset] [])) t → Steps p.tables e below (s₁.setTop (entryFrame m #[(.ref r0), (.ref r1)] 3)) t := fun t k => castTop (ef_rmAp0 m r0 r1) k
  have Kp : Keep h0 h0 [r0, bb] := Keep.refl _ _
  have hwordsLen : ∀ d ∈ StrChars.Road.wordsLen, d.before a0 Z = true := fun d hd => hw d ((by decide +kernel : ∀ d ∈ StrChars.Road.wordsLen, d ∈ tables_1) d hd)
  have st1 : own_S p e below s₁ (mkF m 4 #[.val (.ref r0), .val (.ref r1), .val (.int (0 : Int32))] [(.ref r1), (.int (0 : Int32))]) (mkF m 0 #[.val (.ref r0), .val (.ref r1), .unset] []) := by
    intro target kt
    refine XS.iconst X0.here hx rfl (hb hby d6_0) ?_
    refine XS.istoreN X0.here hx rfl (hb hby d6_1) rfl (l' := #[.val (.ref r0), .val (.ref r1), .val (.int (0 : Int32))]) rfl ?_
    refine XS.iloadN X0.here hx rfl (hb hby d6_2) rfl ?_
    refine XS.aloadN X0.here hx rfl (hb hby d6_3) rfl rfl ?_
    exact kt
  obtain ⟨cq2, kq2, qv2a, qv2b, qv2c⟩ := isOf hZ e0 Et
  obtain ⟨_, _, ⟨T2, L2, k2, n2⟩, -, X2, ⟨Lc2, hQ2, l2, y2, z2⟩, st2⟩ := X0.virtualBack hx (y := (⟨"java/lang/String", "length", "()I"⟩ : MethodName)) (z := (⟨"java/lang/String", "length", "()I"⟩ : MethodName)) hown (mvT hZ (own_w hw 40 rfl)) (mvT hZ (own_w hw 41 rfl)) (notFace_of_selects (args := #[]) (mvT hZ (own_w hw 43 rfl))) (mvT hZ (own_w hw 43 rfl)) (mvT hZ (own_w hw 42 rfl)) (by decide) (StrChars.Road.lenW (W := 1) hZ hwordsLen (kI := 4) (own_w hw 6 rfl) (cs := ([] : List Int32)) Et Fv Fc Vy (StrChars.Road.codOf (n := 0) rfl (own_hp1 own_all0)) (own_hp2 own_all0) (SB.1.ext Od.2) SB.2.1 (by simp) (by decide) (by decide)) qv2a qv2c (g := (mkF m 4 #[.val (.ref r0), .val (.ref r1), .val (.int (0 : Int32))] [(.ref r1), (.int (0 : Int32))])) rfl (by rw [hml]; rfl) (Steps.refl _) (argsL := []) (rest := [(.int (0 : Int32))]) (lenOf pd_6 rfl) rfl (by show 2 * 0 + _ ≤ _; exact Nat.le_of_eq rfl) (hb hby d6_4) (fun _ _ => ⟨rfl, e0, (by decide : 0 + 0 ≤ _), (by decide : 0 + 0 ≤ _)⟩)
  dsimp only [Pt.U, Pt.locs, Pt.cells, Pt.slots] at X2 l2 y2 z2 st2 hQ2
  subst l2 y2 z2
  obtain ⟨rfl, Lq2, e2⟩ := hQ2
  subst Lq2
  have Nq2 := Fr.nil n0
  have N2 := Fr.app N0 Nq2
  obtain ⟨fs, hr, hrun, hended, hW, hsame⟩ := X2.leave (v := some (.ref r0)) (fun h => by rw [Bd.returns] at h; cases h)
  refine ⟨_, _, pre0 _ (st1 _ (st2.trans ?_)), hrun, hended, _, _, rfl, ?_, ⟨_, rfl⟩, hW, hsame.mono (by decide) (by decide)⟩
  · refine XS.icmpYes X2.here hx rfl (pc0 := 7) (pc' := 38) rfl (hb hby d6_7) rfl (flt (by decide : ¬ ((0 : Int32) < (0 : Int32)))).2.1 (by decide) (by decide) ?_
    refine XS.aloadN X2.here hx rfl (hb hby d6_38) rfl rfl ?_
    show Steps p.tables e below (T2.setTop (mkF m 39 #[.val (.ref r0), .val (.ref r1), .val (.int (0 : Int32))] [(.ref r0)])) _
    jvm_step X2.here [X2.here.top, hx, (hb hby d6_39), X2.method', Bd.returns, Value.isRef, FieldType.isReference]
    first | (intro acts; rw [hr _ acts rfl rfl rfl]) | rw [hr _ _ rfl rfl rfl]
    exact Steps.refl _
  · show Q_rmAp0 Z r0 r1 cs fm bb kb hst mm y ky x0 x1 x2 h0 n0 _ T2.heap _
    rw [e2]
    exact ⟨rfl, N2, Kp, Fb, Fl, Hh⟩
theorem ef_rmAp1 (m : MethodId) (x0 : Addr) (x1 : Addr) : entryFrame m #[(.ref x0), (.ref x1)] 3 = mkF m 0 #[.val (.ref x0), .val (.ref x1), .unset] [] := by first | (simp [entryFrame, mkF, argsToLocals, Value.category]; done) | rfl
def Q_rmAp1 (Z : State) (r0 : Addr) (r1 : Addr) (cs : Int32) (fm : Value) (bb : Addr) (kb : ClassId) (hst : List (Int32 × Value)) (mm : Int32) (y : Addr) (ky : ClassId) (x0 : Int32) (x1 : Int32) (x2 : Int32) (h0 : Heap) (n0 : Nat) (v : Option Value) (h : Heap) (L : List Loc) : Prop := v = some (.ref r0) ∧ Fr n0 L ∧ Keep h0 h [r0, bb] ∧ Fld Z h r0 "com/example/murray_hill/murrayhill/AsciiLine" "bytes" "[B" (.ref bb) ∧ Fld Z h r0 "com/example/murray_hill/murrayhill/AsciiLine" "length" "I" (.int (mm + (1 : Int32))) ∧ Arh Z h bb kb .byte (6 : Int32) ((mm, (.int x0)) :: hst) [] (.int (0 : Int32))
set_option maxRecDepth 65536 in
set_option maxHeartbeats 40000000 in
theorem rmAp1 (l : Launch) (Z : State) (a0 : Array Value) (hw : ∀ d ∈ tables_1, d.before a0 Z = true) (ws : List Jvm.Cond) (r0 : Addr) (r1 : Addr) (cs : Int32) (fm : Value) (bb : Addr) (kb : ClassId) (hst : List (Int32 × Value)) (mm : Int32) (y : Addr) (ky : ClassId) (x0 : Int32) (x1 : Int32) (x2 : Int32) (h0 : Heap) (n0 : Nat) (Z0 : n0 ≤ h0.size) (SB : own_St Z cs fm) (Od : Old Z n0 h0) (Fb : Fld Z h0 r0 "com/example/murray_hill/murrayhill/AsciiLine" "bytes" "[B" (.ref bb)) (Fl : Fld Z h0 r0 "com/example/murray_hill/murrayhill/AsciiLine" "length" "I" (.int mm)) (Er : Exa Z h0 r0 "com/example/murray_hill/murrayhill/AsciiLine") (Hh : Arh Z h0 bb kb .byte (6 : Int32) hst [] (.int (0 : Int32))) (Fv : Fld Z h0 r1 "java/lang/String" "value" "[B" (.ref y)) (Fc : Fld Z h0 r1 "java/lang/String" "coder" "B" (.int (0 : Int32))) (Et : Exa Z h0 r1 "java/lang/String") (Vy : Arv Z h0 y ky .byte (1 : Int32) (own_bs ([x0] : List Int32)) (.int (0 : Int32))) (n1 : bb ≠ r0) (n2 : r1 ≠ r0) (n3 : y ≠ r0) (n4 : r1 ≠ bb) (n5 : y ≠ bb) (g_r0 : n0 ≤ r0) (g_bb : n0 ≤ bb) (ec0 : own_c7 x0) (ec1 : own_c7 x1) (ec2 : own_c7 x2) (hm : 0 ≤ mm.toInt ∧ mm.toInt ≤ 3) :
    MetFree l (⟨"com/example/murray_hill/murrayhill/AsciiLine", "append", "(Ljava/lang/String;)Lcom/example/murray_hill/murrayhill/AsciiLine;"⟩ : MethodName) (head1 (Jvm.Cond.code (⟨"com/example/murray_hill/murrayhill/AsciiLine", "append", "(Ljava/lang/String;)Lcom/example/murray_hill/murrayhill/AsciiLine;"⟩ : MethodName) prog_2_method_3_code 3 (some (.object "com/example/murray_hill/murrayhill/AsciiLine")) :: ws) ({ frames := 4, cells := 0, slots := 0, locals := 55 } : Room)) (fun a U => a = #[(.ref r0), (.ref r1)] ∧ Z.Warmed39 U.vm ∧ U.heap = h0) (fun _ _ _ _ _ => True) (fun _ U o U' => ∃ v L, o = .returned v ∧ Q_rmAp1 Z r0 r1 cs fm bb kb hst mm y ky x0 x1 x2 h0 n0 v U'.heap L ∧ FrameEnd U o U' L ({ frames := 4, cells := 0, slots := 0, locals := 55 } : Room).cells ({ frames := 4, cells := 0, slots := 0, locals := 55 } : Room).slots) := by
  refine MetFree.of_bodySF (plainFor_of_name pn_2) hisR ?_
  intro p e s m args below meth c s₁ Bd hml0 hP hK
  obtain ⟨rfl, hZ, hh⟩ := hP
  have hx := Bd.exec
  have hby := Bd.bytes
  have hml : c.maxLocals = 3 := hml0
  have hown : s.vm.findClass "com/example/murray_hill/murrayhill/AsciiLine" = some m.cls := findClass_of_methodNamed Bd.named
  have hnm := (name_of_methodNamed Bd.named Bd.method).1
  have X0 : Stand p l e ({ frames := 4, cells := 0, slots := 0, locals := 55 } : Room) s m #[(.ref r0), (.ref r1)] below meth c s₁ [] 0 0 := Stand.of_body Bd
  have e0 : s₁.heap = h0 := by rw [← hh, Bd.state]; rfl
  have N0 := Fr.nil n0
  have pre0 : ∀ t, Steps p.tables e below (s₁.setTop (mkF m 0 #[.val (.ref r0), .val (.ref r1), .unset] [])) t → Steps p.tables e below (s₁.setTop (entryFrame m #[(.ref r0), (.ref r1)] 3)) t := fun t k => castTop (ef_rmAp1 m r0 r1) k
  have Kp : Keep h0 h0 [r0, bb] := Keep.refl _ _
  have hwordsLen : ∀ d ∈ StrChars.Road.wordsLen, d.before a0 Z = true := fun d hd => hw d ((by decide +kernel : ∀ d ∈ StrChars.Road.wordsLen, d ∈ tables_1) d hd)
  have hwordsChN : ∀ d ∈ StrChars.Road.wordsChN, d.before a0 Z = true := fun d hd => hw d ((by decide +kernel : ∀ d ∈ StrChars.Road.wordsChN, d ∈ tables_1) d hd)
  have st1 : own_S p e below s₁ (mkF m 4 #[.val (.ref r0), .val (.ref r1), .val (.int (0 : Int32))] [(.ref r1), (.int (0 : Int32))]) (mkF m 0 #[.val (.ref r0), .val (.ref r1), .unset] []) := by
    intro target kt
    refine XS.iconst X0.here hx rfl (hb hby d6_0) ?_
    refine XS.istoreN X0.here hx rfl (hb hby d6_1) rfl (l' := #[.val (.ref r0), .val (.ref r1), .val (.int (0 : Int32))]) rfl ?_
    refine XS.iloadN X0.here hx rfl (hb hby d6_2) rfl ?_
    refine XS.aloadN X0.here hx rfl (hb hby d6_3) rfl rfl ?_
    exact kt
  obtain ⟨cq2, kq2, qv2a, qv2b, qv2c⟩ := isOf hZ e0 Et
  obtain ⟨_, _, ⟨T2, L2, k2, n2⟩, -, X2, ⟨Lc2, hQ2, l2, y2, z2⟩, st2⟩ := X0.virtualBack hx (y := (⟨"java/lang/String", "length", "()I"⟩ : MethodName)) (z := (⟨"java/lang/String", "length", "()I"⟩ : MethodName)) hown (mvT hZ (own_w hw 40 rfl)) (mvT hZ (own_w hw 41 rfl)) (notFace_of_selects (args := #[]) (mvT hZ (own_w hw 43 rfl))) (mvT hZ (own_w hw 43 rfl)) (mvT hZ (own_w hw 42 rfl)) (by decide) (StrChars.Road.lenW (W := 1) hZ hwordsLen (kI := 4) (own_w hw 6 rfl) (cs := ([x0] : List Int32)) Et Fv Fc Vy (StrChars.Road.codOf (n := 1) rfl (own_hp1 (own_allS ec0 own_all0))) (own_hp2 (own_allS ec0 own_all0)) (SB.1.ext Od.2) SB.2.1 (by simp) (by decide) (by decide)) qv2a qv2c (g := (mkF m 4 #[.val (.ref r0), .val (.ref r1), .val (.int (0 : Int32))] [(.ref r1), (.int (0 : Int32))])) rfl (by rw [hml]; rfl) (Steps.refl _) (argsL := []) (rest := [(.int (0 : Int32))]) (lenOf pd_6 rfl) rfl (by show 2 * 0 + _ ≤ _; exact Nat.le_of_eq rfl) (hb hby d6_4) (fun _ _ => ⟨rfl, e0, (by decide : 0 + 0 ≤ _), (by decide : 0 + 0 ≤ _)⟩)
  dsimp only [Pt.U, Pt.locs, Pt.cells, Pt.slots] at X2 l2 y2 z2 st2 hQ2
  subst l2 y2 z2
  obtain ⟨rfl, Lq2, e2⟩ := hQ2
  subst Lq2
  have Nq2 := Fr.nil n0
  have N2 := Fr.app N0 Nq2
  have st3 : own_S p e below T2 (mkF m 11 #[.val (.ref r0), .val (.ref r1), .val (.int (0 : Int32))] [(.ref r0)]) (mkF m 7 #[.val (.ref r0), .val (.ref r1), .val (.int (0 : Int32))] [(.int (1 : Int32)), (.int (0 : Int32))]) := by
    intro target kt
    refine XS.icmpNo X2.here hx rfl (hb hby d6_7) rfl (tlt (by decide : ((0 : Int32) < (1 : Int32)))).2.1 ?_
    refine XS.aloadN X2.here hx rfl (hb hby d6_10) rfl rfl ?_
    exact kt
  obtain ⟨T4, X4, e4, st4⟩ := getF X2 hx hZ hown (host := "") (Or.inl (own_w hw 33 rfl)) Via.refl e2 Fb (g := (mkF m 11 #[.val (.ref r0), .val (.ref r1), .val (.int (0 : Int32))] [(.ref r0)])) rfl rfl (hb hby d6_11)
  have st5 : own_S p e below T4 (mkF m 16 #[.val (.ref r0), .val (.ref r1), .val (.int (0 : Int32))] [(.ref r0), (.ref r0), (.ref bb)]) (mkF m 14 #[.val (.ref r0), .val (.ref r1), .val (.int (0 : Int32))] [(.ref bb)]) := by
    intro target kt
    refine XS.aloadN X4.here hx rfl (hb hby d6_14) rfl rfl ?_
    refine XS.dup X4.here hx rfl (hb hby d6_15) rfl rfl ?_
    exact kt
  obtain ⟨T6, X6, e6, st6⟩ := getF X4 hx hZ hown (host := "") (Or.inl (own_w hw 56 rfl)) Via.refl e4 Fl (g := (mkF m 16 #[.val (.ref r0), .val (.ref r1), .val (.int (0 : Int32))] [(.ref r0), (.ref r0), (.ref bb)])) rfl rfl (hb hby d6_16)
  have st7 : own_S p e below T6 (mkF m 22 #[.val (.ref r0), .val (.ref r1), .val (.int (0 : Int32))] [(.int (mm + (1 : Int32))), (.ref r0), (.int mm), (.ref bb)]) (mkF m 19 #[.val (.ref r0), .val (.ref r1), .val (.int (0 : Int32))] [(.int mm), (.ref r0), (.ref bb)]) := by
    intro target kt
    refine XS.dupX1 X6.here hx rfl (hb hby d6_19) rfl rfl rfl ?_
    refine XS.iconst X6.here hx rfl (hb hby d6_20) ?_
    refine XS.iadd X6.here hx rfl (hb hby d6_21) rfl ?_
    exact kt
  obtain ⟨T8, h8, X8, e8, W8, st8⟩ := putF X6 hx hZ hown (host := "") (Or.inl (own_w hw 56 rfl)) Via.refl e6 Fl Er (Or.inl (own_w hw 57 rfl)) (own_w hw 27 rfl) (ty := .int) (by decide) rfl rfl (g := (mkF m 22 #[.val (.ref r0), .val (.ref r1), .val (.int (0 : Int32))] [(.int (mm + (1 : Int32))), (.ref r0), (.int mm), (.ref bb)])) rfl rfl (hb hby d6_22)
  have F_length_r0_8 : Fld Z h8 r0 "com/example/murray_hill/murrayhill/AsciiLine" "length" "I" (.int (mm + (1 : Int32))) := Fl.same W8
  have Od_8 := Od.wr W8 g_r0
  have Fb_8 := Fb.other W8 (Or.inr (slot_ne (Or.inr (own_w hw 34 rfl)) (Or.inl (own_w hw 57 rfl)) (by decide) (t := (.array .byte)) (t' := .int) (by decide) (by decide)))
  have Er_8 := Er.wr W8
  have Hh_8 := Hh.other W8 n1
  have Fv_8 := Fv.other W8 (Or.inl n2)
  have Fc_8 := Fc.other W8 (Or.inl n2)
  have Et_8 := Et.wr W8
  have Vy_8 := Vy.other W8 n3
  have Z_8 : n0 ≤ h8.size := Nat.le_trans Z0 (Keep.of_wr W8).1
  have Kp_8 : Keep h0 h8 [r0, bb] := Kp.wr W8 (Or.inl (List.mem_of_getElem? (i := 0) rfl))
  have N8 := Fr.snoc X8 N2 g_r0
  have st9 : own_S p e below T8 (mkF m 27 #[.val (.ref r0), .val (.ref r1), .val (.int (0 : Int32))] [(.int (0 : Int32)), (.ref r1), (.int mm), (.ref bb)]) (mkF m 25 #[.val (.ref r0), .val (.ref r1), .val (.int (0 : Int32))] [(.int mm), (.ref bb)]) := by
    intro target kt
    refine XS.aloadN X8.here hx rfl (hb hby d6_25) rfl rfl ?_
    refine XS.iloadN X8.here hx rfl (hb hby d6_26) rfl ?_
    exact kt
  obtain ⟨cq10, kq10, qv10a, qv10b, qv10c⟩ := isOf hZ e8 Et_8
  obtain ⟨_, _, ⟨T10, L10, k10, n10⟩, -, X10, ⟨Lc10, hQ10, l10, y10, z10⟩, st10⟩ := X8.virtualBack hx (y := (⟨"java/lang/String", "charAt", "(I)C"⟩ : MethodName)) (z := (⟨"java/lang/String", "charAt", "(I)C"⟩ : MethodName)) hown (mvT hZ (own_w hw 74 rfl)) (mvT hZ (own_w hw 75 rfl)) (notFace_of_selects (args := #[]) (mvT hZ (own_w hw 77 rfl))) (mvT hZ (own_w hw 77 rfl)) (mvT hZ (own_w hw 76 rfl)) (by decide) (StrChars.Road.chN (W := 2) hZ hwordsChN (kI := 4) (own_w hw 6 rfl) (cs := ([x0] : List Int32)) (i := 0) Et_8 Fv_8 Fc_8 Vy_8 (StrChars.Road.codOf (n := 1) rfl (own_hp1 (own_allS ec0 own_all0))) (own_hp2 (own_allS ec0 own_all0)) (SB.1.ext Od_8.2) SB.2.1 (SB.2.2.1.ext Od_8.2) SB.2.2.2 (by simp) (by simp) rfl (by decide) (by decide)) qv10a qv10c (g := (mkF m 27 #[.val (.ref r0), .val (.ref r1), .val (.int (0 : Int32))] [(.int (0 : Int32)), (.ref r1), (.int mm), (.ref bb)])) rfl (by rw [hml]; rfl) (Steps.refl _) (argsL := [(.int (0 : Int32))]) (rest := [(.int mm), (.ref bb)]) (lenOf pd_13 rfl) rfl (by show 2 * 0 + _ ≤ _; exact Nat.le_of_eq rfl) (hb hby d6_27) (fun _ _ => ⟨rfl, e8, (by decide : 0 + 0 ≤ _), (by decide : 0 + 0 ≤ _)⟩)
  dsimp only [Pt.U, Pt.locs, Pt.cells, Pt.slots] at X10 l10 y10 z10 st10 hQ10
  subst l10 y10 z10
  obtain ⟨rfl, Lq10, e10⟩ := hQ10
  subst Lq10
  have Nq10 := Fr.nil n0
  have N10 := Fr.app N8 Nq10
  have st11 : own_S p e below T10 (mkF m 31 #[.val (.ref r0), .val (.ref r1), .val (.int (0 : Int32))] [(.int (x0.toInt8.toInt32)), (.int mm), (.ref bb)]) (mkF m 30 #[.val (.ref r0), .val (.ref r1), .val (.int (0 : Int32))] [(.int x0), (.int mm), (.ref bb)]) := by
    intro target kt
    refine XS.i2b X10.here hx rfl (hb hby d6_30) rfl ?_
    exact kt
  have hj0 : 0 ≤ (mm).toInt ∧ (mm).toInt ≤ 3 := hm
  obtain ⟨cl12, Ar12, qc12, Sz12, Mn12, Hs12, Gs12⟩ := id Hh_8
  have hin12 : ¬ (mm < 0 ∨ cl12.slots.size ≤ (mm).toNatClampNeg) := own_in6 Sz12 ⟨hj0.1, by have := hj0.2; omega⟩
  obtain ⟨T12, h12, X12, e12, W12, st12⟩ := stB X10 hx hZ e10 Ar12 (j := mm) hin12 (g := (mkF m 31 #[.val (.ref r0), .val (.ref r1), .val (.int (0 : Int32))] [(.int (x0.toInt8.toInt32)), (.int mm), (.ref bb)])) rfl rfl (hb hby d6_31)
  have Hh_bb_12 : Arh Z h12 bb kb .byte (6 : Int32) ((mm, (.int (nar .byte (x0.toInt8.toInt32)))) :: hst) [] (.int (0 : Int32)) := Arh.push Ar12 qc12 Sz12 Mn12 Hs12 Gs12 (fits_nar_byte _) W12 hin12
  have Od_12 := Od_8.wr W12 g_bb
  have Fb_12 := Fb_8.other W12 (Or.inl (Ne.symm n1))
  have Er_12 := Er_8.wr W12
  have Fv_12 := Fv_8.other W12 (Or.inl n4)
  have Fc_12 := Fc_8.other W12 (Or.inl n4)
  have Et_12 := Et_8.wr W12
  have Vy_12 := Vy_8.other W12 n5
  have F_length_r0_12 := F_length_r0_8.other W12 (Or.inl (Ne.symm n1))
  have Z_12 : n0 ≤ h12.size := Nat.le_trans Z_8 (Keep.of_wr W12).1
  have Kp_12 : Keep h0 h12 [r0, bb] := Kp_8.wr W12 (Or.inl (List.mem_of_getElem? (i := 1) rfl))
  have N12 := Fr.snoc X12 N10 g_bb
  rw [own_nb ec0] at Hh_bb_12
  have st13 : own_S p e below T12 (mkF m 4 #[.val (.ref r0), .val (.ref r1), .val (.int (1 : Int32))] [(.ref r1), (.int (1 : Int32))]) (mkF m 32 #[.val (.ref r0), .val (.ref r1), .val (.int (0 : Int32))] []) := by
    intro target kt
    refine XS.iinc X12.here hx rfl (hb hby d6_32) rfl (l' := #[.val (.ref r0), .val (.ref r1), .val (.int (1 : Int32))]) rfl ?_
    refine XS.goto X12.here hx rfl (pc0 := 35) (pc' := 2) rfl (hb hby d6_35) (by decide) (by decide) ?_
    refine XS.iloadN X12.here hx rfl (hb hby d6_2) rfl ?_
    refine XS.aloadN X12.here hx rfl (hb hby d6_3) rfl rfl ?_
    exact kt
  obtain ⟨cq14, kq14, qv14a, qv14b, qv14c⟩ := isOf hZ e12 Et_12
  obtain ⟨_, _, ⟨T14, L14, k14, n14⟩, -, X14, ⟨Lc14, hQ14, l14, y14, z14⟩, st14⟩ := X12.virtualBack hx (y := (⟨"java/lang/String", "length", "()I"⟩ : MethodName)) (z := (⟨"java/lang/String", "length", "()I"⟩ : MethodName)) hown (mvT hZ (own_w hw 40 rfl)) (mvT hZ (own_w hw 41 rfl)) (notFace_of_selects (args := #[]) (mvT hZ (own_w hw 43 rfl))) (mvT hZ (own_w hw 43 rfl)) (mvT hZ (own_w hw 42 rfl)) (by decide) (StrChars.Road.lenW (W := 1) hZ hwordsLen (kI := 4) (own_w hw 6 rfl) (cs := ([x0] : List Int32)) Et_12 Fv_12 Fc_12 Vy_12 (StrChars.Road.codOf (n := 1) rfl (own_hp1 (own_allS ec0 own_all0))) (own_hp2 (own_allS ec0 own_all0)) (SB.1.ext Od_12.2) SB.2.1 (by simp) (by decide) (by decide)) qv14a qv14c (g := (mkF m 4 #[.val (.ref r0), .val (.ref r1), .val (.int (1 : Int32))] [(.ref r1), (.int (1 : Int32))])) rfl (by rw [hml]; rfl) (Steps.refl _) (argsL := []) (rest := [(.int (1 : Int32))]) (lenOf pd_6 rfl) rfl (by show 2 * 0 + _ ≤ _; exact Nat.le_of_eq rfl) (hb hby d6_4) (fun _ _ => ⟨rfl, e12, (by decide : 0 + 0 ≤ _), (by decide : 0 + 0 ≤ _)⟩)
  dsimp only [Pt.U, Pt.locs, Pt.cells, Pt.slots] at X14 l14 y14 z14 st14 hQ14
  subst l14 y14 z14
  obtain ⟨rfl, Lq14, e14⟩ := hQ14
  subst Lq14
  have Nq14 := Fr.nil n0
  have N14 := Fr.app N12 Nq14
  obtain ⟨fs, hr, hrun, hended, hW, hsame⟩ := X14.leave (v := some (.ref r0)) (fun h => by rw [Bd.returns] at h; cases h)
  refine ⟨_, _, pre0 _ (st1 _ (st2.trans (st3 _ (st4 _ (st5 _ (st6 _ (st7 _ (st8 _ (st9 _ (st10.trans (st11 _ (st12 _ (st13 _ (st14.trans ?_)))))))))))))), hrun, hended, _, _, rfl, ?_, ⟨_, rfl⟩, hW, hsame.mono (by decide) (by decide)⟩
  · refine XS.icmpYes X14.here hx rfl (pc0 := 7) (pc' := 38) rfl (hb hby d6_7) rfl (flt (by decide : ¬ ((1 : Int32) < (1 : Int32)))).2.1 (by decide) (by decide) ?_
    refine XS.aloadN X14.here hx rfl (hb hby d6_38) rfl rfl ?_
    show Steps p.tables e below (T14.setTop (mkF m 39 #[.val (.ref r0), .val (.ref r1), .val (.int (1 : Int32))] [(.ref r0)])) _
    jvm_step X14.here [X14.here.top, hx, (hb hby d6_39), X14.method', Bd.returns, Value.isRef, FieldType.isReference]
    first | (intro acts; rw [hr _ acts rfl rfl rfl]) | rw [hr _ _ rfl rfl rfl]
    exact Steps.refl _
  · show Q_rmAp1 Z r0 r1 cs fm bb kb hst mm y ky x0 x1 x2 h0 n0 _ T14.heap _
    rw [e14]
    exact ⟨rfl, N14, Kp_12, Fb_12, F_length_r0_12, Hh_bb_12⟩
theorem ef_rmAp2 (m : MethodId) (x0 : Addr) (x1 : Addr) : entryFrame m #[(.ref x0), (.ref x1)] 3 = mkF m 0 #[.val (.ref x0), .val (.ref x1), .unset] [] := by first | (simp [entryFrame, mkF, argsToLocals, Value.category]; done) | rfl
def Q_rmAp2 (Z : State) (r0 : Addr) (r1 : Addr) (cs : Int32) (fm : Value) (bb : Addr) (kb : ClassId) (hst : List (Int32 × Value)) (mm : Int32) (y : Addr) (ky : ClassId) (x0 : Int32) (x1 : Int32) (x2 : Int32) (h0 : Heap) (n0 : Nat) (v : Option Value) (h : Heap) (L : List Loc) : Prop := v = some (.ref r0) ∧ Fr n0 L ∧ Keep h0 h [r0, bb] ∧ Fld Z h r0 "com/example/murray_hill/murrayhill/AsciiLine" "bytes" "[B" (.ref bb) ∧ Fld Z h r0 "com/example/murray_hill/murrayhill/AsciiLine" "length" "I" (.int ((mm + (1 : Int32)) + (1 : Int32))) ∧ Arh Z h bb kb .byte (6 : Int32) (((mm + (1 : Int32)), (.int x1)) :: ((mm, (.int x0)) :: hst)) [] (.int (0 : Int32))
set_option maxRecDepth 65536 in
set_option maxHeartbeats 40000000 in
theorem rmAp2 (l : Launch) (Z : State) (a0 : Array Value) (hw : ∀ d ∈ tables_1, d.before a0 Z = true) (ws : List Jvm.Cond) (r0 : Addr) (r1 : Addr) (cs : Int32) (fm : Value) (bb : Addr) (kb : ClassId) (hst : List (Int32 × Value)) (mm : Int32) (y : Addr) (ky : ClassId) (x0 : Int32) (x1 : Int32) (x2 : Int32) (h0 : Heap) (n0 : Nat) (Z0 : n0 ≤ h0.size) (SB : own_St Z cs fm) (Od : Old Z n0 h0) (Fb : Fld Z h0 r0 "com/example/murray_hill/murrayhill/AsciiLine" "bytes" "[B" (.ref bb)) (Fl : Fld Z h0 r0 "com/example/murray_hill/murrayhill/AsciiLine" "length" "I" (.int mm)) (Er : Exa Z h0 r0 "com/example/murray_hill/murrayhill/AsciiLine") (Hh : Arh Z h0 bb kb .byte (6 : Int32) hst [] (.int (0 : Int32))) (Fv : Fld Z h0 r1 "java/lang/String" "value" "[B" (.ref y)) (Fc : Fld Z h0 r1 "java/lang/String" "coder" "B" (.int (0 : Int32))) (Et : Exa Z h0 r1 "java/lang/String") (Vy : Arv Z h0 y ky .byte (2 : Int32) (own_bs ([x0, x1] : List Int32)) (.int (0 : Int32))) (n1 : bb ≠ r0) (n2 : r1 ≠ r0) (n3 : y ≠ r0) (n4 : r1 ≠ bb) (n5 : y ≠ bb) (g_r0 : n0 ≤ r0) (g_bb : n0 ≤ bb) (ec0 : own_c7 x0) (ec1 : own_c7 x1) (ec2 : own_c7 x2) (hm : 0 ≤ mm.toInt ∧ mm.toInt ≤ 3) :
    MetFree l (⟨"com/example/murray_hill/murrayhill/AsciiLine", "append", "(Ljava/lang/String;)Lcom/example/murray_hill/murrayhill/AsciiLine;"⟩ : MethodName) (head1 (Jvm.Cond.code (⟨"com/example/murray_hill/murrayhill/AsciiLine", "append", "(Ljava/lang/String;)Lcom/example/murray_hill/murrayhill/AsciiLine;"⟩ : MethodName) prog_2_method_3_code 3 (some (.object "com/example/murray_hill/murrayhill/AsciiLine")) :: ws) ({ frames := 4, cells := 0, slots := 0, locals := 55 } : Room)) (fun a U => a = #[(.ref r0), (.ref r1)] ∧ Z.Warmed39 U.vm ∧ U.heap = h0) (fun _ _ _ _ _ => True) (fun _ U o U' => ∃ v L, o = .returned v ∧ Q_rmAp2 Z r0 r1 cs fm bb kb hst mm y ky x0 x1 x2 h0 n0 v U'.heap L ∧ FrameEnd U o U' L ({ frames := 4, cells := 0, slots := 0, locals := 55 } : Room).cells ({ frames := 4, cells := 0, slots := 0, locals := 55 } : Room).slots) := by
  refine MetFree.of_bodySF (plainFor_of_name pn_2) hisR ?_
  intro p e s m args below meth c s₁ Bd hml0 hP hK
  obtain ⟨rfl, hZ, hh⟩ := hP
  have hx := Bd.exec
  have hby := Bd.bytes
  have hml : c.maxLocals = 3 := hml0
  have hown : s.vm.findClass "com/example/murray_hill/murrayhill/AsciiLine" = some m.cls := findClass_of_methodNamed Bd.named
  have hnm := (name_of_methodNamed Bd.named Bd.method).1
  have X0 : Stand p l e ({ frames := 4, cells := 0, slots := 0, locals := 55 } : Room) s m #[(.ref r0), (.ref r1)] below meth c s₁ [] 0 0 := Stand.of_body Bd
  have e0 : s₁.heap = h0 := by rw [← hh, Bd.state]; rfl
  have N0 := Fr.nil n0
  have pre0 : ∀ t, Steps p.tables e below (s₁.setTop (mkF m 0 #[.val (.ref r0), .val (.ref r1), .unset] [])) t → Steps p.tables e below (s₁.setTop (entryFrame m #[(.ref r0), (.ref r1)] 3)) t := fun t k => castTop (ef_rmAp2 m r0 r1) k
  have Kp : Keep h0 h0 [r0, bb] := Keep.refl _ _
  have hwordsLen : ∀ d ∈ StrChars.Road.wordsLen, d.before a0 Z = true := fun d hd => hw d ((by decide +kernel : ∀ d ∈ StrChars.Road.wordsLen, d ∈ tables_1) d hd)
  have hwordsChN : ∀ d ∈ StrChars.Road.wordsChN, d.before a0 Z = true := fun d hd => hw d ((by decide +kernel : ∀ d ∈ StrChars.Road.wordsChN, d ∈ tables_1) d hd)
  have st1 : own_S p e below s₁ (mkF m 4 #[.val (.ref r0), .val (.ref r1), .val (.int (0 : Int32))] [(.ref r1), (.int (0 : Int32))]) (mkF m 0 #[.val (.ref r0), .val (.ref r1), .unset] []) := by
    intro target kt
    refine XS.iconst X0.here hx rfl (hb hby d6_0) ?_
    refine XS.istoreN X0.here hx rfl (hb hby d6_1) rfl (l' := #[.val (.ref r0), .val (.ref r1), .val (.int (0 : Int32))]) rfl ?_
    refine XS.iloadN X0.here hx rfl (hb hby d6_2) rfl ?_
    refine XS.aloadN X0.here hx rfl (hb hby d6_3) rfl rfl ?_
    exact kt
  obtain ⟨cq2, kq2, qv2a, qv2b, qv2c⟩ := isOf hZ e0 Et
  obtain ⟨_, _, ⟨T2, L2, k2, n2⟩, -, X2, ⟨Lc2, hQ2, l2, y2, z2⟩, st2⟩ := X0.virtualBack hx (y := (⟨"java/lang/String", "length", "()I"⟩ : MethodName)) (z := (⟨"java/lang/String", "length", "()I"⟩ : MethodName)) hown (mvT hZ (own_w hw 40 rfl)) (mvT hZ (own_w hw 41 rfl)) (notFace_of_selects (args := #[]) (mvT hZ (own_w hw 43 rfl))) (mvT hZ (own_w hw 43 rfl)) (mvT hZ (own_w hw 42 rfl)) (by decide) (StrChars.Road.lenW (W := 1) hZ hwordsLen (kI := 4) (own_w hw 6 rfl) (cs := ([x0, x1] : List Int32)) Et Fv Fc Vy (StrChars.Road.codOf (n := 2) rfl (own_hp1 (own_allS ec0 (own_allS ec1 own_all0)))) (own_hp2 (own_allS ec0 (own_allS ec1 own_all0))) (SB.1.ext Od.2) SB.2.1 (by simp) (by decide) (by decide)) qv2a qv2c (g := (mkF m 4 #[.val (.ref r0), .val (.ref r1), .val (.int (0 : Int32))] [(.ref r1), (.int (0 : Int32))])) rfl (by rw [hml]; rfl) (Steps.refl _) (argsL := []) (rest := [(.int (0 : Int32))]) (lenOf pd_6 rfl) rfl (by show 2 * 0 + _ ≤ _; exact Nat.le_of_eq rfl) (hb hby d6_4) (fun _ _ => ⟨rfl, e0, (by decide : 0 + 0 ≤ _), (by decide : 0 + 0 ≤ _)⟩)
  dsimp only [Pt.U, Pt.locs, Pt.cells, Pt.slots] at X2 l2 y2 z2 st2 hQ2
  subst l2 y2 z2
  obtain ⟨rfl, Lq2, e2⟩ := hQ2
  subst Lq2
  have Nq2 := Fr.nil n0
  have N2 := Fr.app N0 Nq2
  have st3 : own_S p e below T2 (mkF m 11 #[.val (.ref r0), .val (.ref r1), .val (.int (0 : Int32))] [(.ref r0)]) (mkF m 7 #[.val (.ref r0), .val (.ref r1), .val (.int (0 : Int32))] [(.int (2 : Int32)), (.int (0 : Int32))]) := by
    intro target kt
    refine XS.icmpNo X2.here hx rfl (hb hby d6_7) rfl (tlt (by decide : ((0 : Int32) < (2 : Int32)))).2.1 ?_
    refine XS.aloadN X2.here hx rfl (hb hby d6_10) rfl rfl ?_
    exact kt
  obtain ⟨T4, X4, e4, st4⟩ := getF X2 hx hZ hown (host := "") (Or.inl (own_w hw 33 rfl)) Via.refl e2 Fb (g := (mkF m 11 #[.val (.ref r0), .val (.ref r1), .val (.int (0 : Int32))] [(.ref r0)])) rfl rfl (hb hby d6_11)
  have st5 : own_S p e below T4 (mkF m 16 #[.val (.ref r0), .val (.ref r1), .val (.int (0 : Int32))] [(.ref r0), (.ref r0), (.ref bb)]) (mkF m 14 #[.val (.ref r0), .val (.ref r1), .val (.int (0 : Int32))] [(.ref bb)]) := by
    intro target kt
    refine XS.aloadN X4.here hx rfl (hb hby d6_14) rfl rfl ?_
    refine XS.dup X4.here hx rfl (hb hby d6_15) rfl rfl ?_
    exact kt
  obtain ⟨T6, X6, e6, st6⟩ := getF X4 hx hZ hown (host := "") (Or.inl (own_w hw 56 rfl)) Via.refl e4 Fl (g := (mkF m 16 #[.val (.ref r0), .val (.ref r1), .val (.int (0 : Int32))] [(.ref r0), (.ref r0), (.ref bb)])) rfl rfl (hb hby d6_16)
  have st7 : own_S p e below T6 (mkF m 22 #[.val (.ref r0), .val (.ref r1), .val (.int (0 : Int32))] [(.int (mm + (1 : Int32))), (.ref r0), (.int mm), (.ref bb)]) (mkF m 19 #[.val (.ref r0), .val (.ref r1), .val (.int (0 : Int32))] [(.int mm), (.ref r0), (.ref bb)]) := by
    intro target kt
    refine XS.dupX1 X6.here hx rfl (hb hby d6_19) rfl rfl rfl ?_
    refine XS.iconst X6.here hx rfl (hb hby d6_20) ?_
    refine XS.iadd X6.here hx rfl (hb hby d6_21) rfl ?_
    exact kt
  obtain ⟨T8, h8, X8, e8, W8, st8⟩ := putF X6 hx hZ hown (host := "") (Or.inl (own_w hw 56 rfl)) Via.refl e6 Fl Er (Or.inl (own_w hw 57 rfl)) (own_w hw 27 rfl) (ty := .int) (by decide) rfl rfl (g := (mkF m 22 #[.val (.ref r0), .val (.ref r1), .val (.int (0 : Int32))] [(.int (mm + (1 : Int32))), (.ref r0), (.int mm), (.ref bb)])) rfl rfl (hb hby d6_22)
  have F_length_r0_8 : Fld Z h8 r0 "com/example/murray_hill/murrayhill/AsciiLine" "length" "I" (.int (mm + (1 : Int32))) := Fl.same W8
  have Od_8 := Od.wr W8 g_r0
  have Fb_8 := Fb.other W8 (Or.inr (slot_ne (Or.inr (own_w hw 34 rfl)) (Or.inl (own_w hw 57 rfl)) (by decide) (t := (.array .byte)) (t' := .int) (by decide) (by decide)))
  have Er_8 := Er.wr W8
  have Hh_8 := Hh.other W8 n1
  have Fv_8 := Fv.other W8 (Or.inl n2)
  have Fc_8 := Fc.other W8 (Or.inl n2)
  have Et_8 := Et.wr W8
  have Vy_8 := Vy.other W8 n3
  have Z_8 : n0 ≤ h8.size := Nat.le_trans Z0 (Keep.of_wr W8).1
  have Kp_8 : Keep h0 h8 [r0, bb] := Kp.wr W8 (Or.inl (List.mem_of_getElem? (i := 0) rfl))
  have N8 := Fr.snoc X8 N2 g_r0
  have st9 : own_S p e below T8 (mkF m 27 #[.val (.ref r0), .val (.ref r1), .val (.int (0 : Int32))] [(.int (0 : Int32)), (.ref r1), (.int mm), (.ref bb)]) (mkF m 25 #[.val (.ref r0), .val (.ref r1), .val (.int (0 : Int32))] [(.int mm), (.ref bb)]) := by
    intro target kt
    refine XS.aloadN X8.here hx rfl (hb hby d6_25) rfl rfl ?_
    refine XS.iloadN X8.here hx rfl (hb hby d6_26) rfl ?_
    exact kt
  obtain ⟨cq10, kq10, qv10a, qv10b, qv10c⟩ := isOf hZ e8 Et_8
  obtain ⟨_, _, ⟨T10, L10, k10, n10⟩, -, X10, ⟨Lc10, hQ10, l10, y10, z10⟩, st10⟩ := X8.virtualBack hx (y := (⟨"java/lang/String", "charAt", "(I)C"⟩ : MethodName)) (z := (⟨"java/lang/String", "charAt", "(I)C"⟩ : MethodName)) hown (mvT hZ (own_w hw 74 rfl)) (mvT hZ (own_w hw 75 rfl)) (notFace_of_selects (args := #[]) (mvT hZ (own_w hw 77 rfl))) (mvT hZ (own_w hw 77 rfl)) (mvT hZ (own_w hw 76 rfl)) (by decide) (StrChars.Road.chN (W := 2) hZ hwordsChN (kI := 4) (own_w hw 6 rfl) (cs := ([x0, x1] : List Int32)) (i := 0) Et_8 Fv_8 Fc_8 Vy_8 (StrChars.Road.codOf (n := 2) rfl (own_hp1 (own_allS ec0 (own_allS ec1 own_all0)))) (own_hp2 (own_allS ec0 (own_allS ec1 own_all0))) (SB.1.ext Od_8.2) SB.2.1 (SB.2.2.1.ext Od_8.2) SB.2.2.2 (by simp) (by simp) rfl (by decide) (by decide)) qv10a qv10c (g := (mkF m 27 #[.val (.ref r0), .val (.ref r1), .val (.int (0 : Int32))] [(.int (0 : Int32)), (.ref r1), (.int mm), (.ref bb)])) rfl (by rw [hml]; rfl) (Steps.refl _) (argsL := [(.int (0 : Int32))]) (rest := [(.int mm), (.ref bb)]) (lenOf pd_13 rfl) rfl (by show 2 * 0 + _ ≤ _; exact Nat.le_of_eq rfl) (hb hby d6_27) (fun _ _ => ⟨rfl, e8, (by decide : 0 + 0 ≤ _), (by decide : 0 + 0 ≤ _)⟩)
  dsimp only [Pt.U, Pt.locs, Pt.cells, Pt.slots] at X10 l10 y10 z10 st10 hQ10
  subst l10 y10 z10
  obtain ⟨rfl, Lq10, e10⟩ := hQ10
  subst Lq10
  have Nq10 := Fr.nil n0
  have N10 := Fr.app N8 Nq10
  have st11 : own_S p e below T10 (mkF m 31 #[.val (.ref r0), .val (.ref r1), .val (.int (0 : Int32))] [(.int (x0.toInt8.toInt32)), (.int mm), (.ref bb)]) (mkF m 30 #[.val (.ref r0), .val (.ref r1), .val (.int (0 : Int32))] [(.int x0), (.int mm), (.ref bb)]) := by
    intro target kt
    refine XS.i2b X10.here hx rfl (hb hby d6_30) rfl ?_
    exact kt
  have hj0 : 0 ≤ (mm).toInt ∧ (mm).toInt ≤ 3 := hm
  obtain ⟨cl12, Ar12, qc12, Sz12, Mn12, Hs12, Gs12⟩ := id Hh_8
  have hin12 : ¬ (mm < 0 ∨ cl12.slots.size ≤ (mm).toNatClampNeg) := own_in6 Sz12 ⟨hj0.1, by have := hj0.2; omega⟩
  obtain ⟨T12, h12, X12, e12, W12, st12⟩ := stB X10 hx hZ e10 Ar12 (j := mm) hin12 (g := (mkF m 31 #[.val (.ref r0), .val (.ref r1), .val (.int (0 : Int32))] [(.int (x0.toInt8.toInt32)), (.int mm), (.ref bb)])) rfl rfl (hb hby d6_31)
  have Hh_bb_12 : Arh Z h12 bb kb .byte (6 : Int32) ((mm, (.int (nar .byte (x0.toInt8.toInt32)))) :: hst) [] (.int (0 : Int32)) := Arh.push Ar12 qc12 Sz12 Mn12 Hs12 Gs12 (fits_nar_byte _) W12 hin12
  have Od_12 := Od_8.wr W12 g_bb
  have Fb_12 := Fb_8.other W12 (Or.inl (Ne.symm n1))
  have Er_12 := Er_8.wr W12
  have Fv_12 := Fv_8.other W12 (Or.inl n4)
  have Fc_12 := Fc_8.other W12 (Or.inl n4)
  have Et_12 := Et_8.wr W12
  have Vy_12 := Vy_8.other W12 n5
  have F_length_r0_12 := F_length_r0_8.other W12 (Or.inl (Ne.symm n1))
  have Z_12 : n0 ≤ h12.size := Nat.le_trans Z_8 (Keep.of_wr W12).1
  have Kp_12 : Keep h0 h12 [r0, bb] := Kp_8.wr W12 (Or.inl (List.mem_of_getElem? (i := 1) rfl))
  have N12 := Fr.snoc X12 N10 g_bb
  rw [own_nb ec0] at Hh_bb_12
  have st13 : own_S p e below T12 (mkF m 4 #[.val (.ref r0), .val (.ref r1), .val (.int (1 : Int32))] [(.ref r1), (.int (1 : Int32))]) (mkF m 32 #[.val (.ref r0), .val (.ref r1), .val (.int (0 : Int32))] []) := by
    intro target kt
    refine XS.iinc X12.here hx rfl (hb hby d6_32) rfl (l' := #[.val (.ref r0), .val (.ref r1), .val (.int (1 : Int32))]) rfl ?_
    refine XS.goto X12.here hx rfl (pc0 := 35) (pc' := 2) rfl (hb hby d6_35) (by decide) (by decide) ?_
    refine XS.iloadN X12.here hx rfl (hb hby d6_2) rfl ?_
    refine XS.aloadN X12.here hx rfl (hb hby d6_3) rfl rfl ?_
    exact kt
  obtain ⟨cq14, kq14, qv14a, qv14b, qv14c⟩ := isOf hZ e12 Et_12
  obtain ⟨_, _, ⟨T14, L14, k14, n14⟩, -, X14, ⟨Lc14, hQ14, l14, y14, z14⟩, st14⟩ := X12.virtualBack hx (y := (⟨"java/lang/String", "length", "()I"⟩ : MethodName)) (z := (⟨"java/lang/String", "length", "()I"⟩ : MethodName)) hown (mvT hZ (own_w hw 40 rfl)) (mvT hZ (own_w hw 41 rfl)) (notFace_of_selects (args := #[]) (mvT hZ (own_w hw 43 rfl))) (mvT hZ (own_w hw 43 rfl)) (mvT hZ (own_w hw 42 rfl)) (by decide) (StrChars.Road.lenW (W := 1) hZ hwordsLen (kI := 4) (own_w hw 6 rfl) (cs := ([x0, x1] : List Int32)) Et_12 Fv_12 Fc_12 Vy_12 (StrChars.Road.codOf (n := 2) rfl (own_hp1 (own_allS ec0 (own_allS ec1 own_all0)))) (own_hp2 (own_allS ec0 (own_allS ec1 own_all0))) (SB.1.ext Od_12.2) SB.2.1 (by simp) (by decide) (by decide)) qv14a qv14c (g := (mkF m 4 #[.val (.ref r0), .val (.ref r1), .val (.int (1 : Int32))] [(.ref r1), (.int (1 : Int32))])) rfl (by rw [hml]; rfl) (Steps.refl _) (argsL := []) (rest := [(.int (1 : Int32))]) (lenOf pd_6 rfl) rfl (by show 2 * 0 + _ ≤ _; exact Nat.le_of_eq rfl) (hb hby d6_4) (fun _ _ => ⟨rfl, e12, (by decide : 0 + 0 ≤ _), (by decide : 0 + 0 ≤ _)⟩)
  dsimp only [Pt.U, Pt.locs, Pt.cells, Pt.slots] at X14 l14 y14 z14 st14 hQ14
  subst l14 y14 z14
  obtain ⟨rfl, Lq14, e14⟩ := hQ14
  subst Lq14
  have Nq14 := Fr.nil n0
  have N14 := Fr.app N12 Nq14
  have st15 : own_S p e below T14 (mkF m 11 #[.val (.ref r0), .val (.ref r1), .val (.int (1 : Int32))] [(.ref r0)]) (mkF m 7 #[.val (.ref r0), .val (.ref r1), .val (.int (1 : Int32))] [(.int (2 : Int32)), (.int (1 : Int32))]) := by
    intro target kt
    refine XS.icmpNo X14.here hx rfl (hb hby d6_7) rfl (tlt (by decide : ((1 : Int32) < (2 : Int32)))).2.1 ?_
    refine XS.aloadN X14.here hx rfl (hb hby d6_10) rfl rfl ?_
    exact kt
  obtain ⟨T16, X16, e16, st16⟩ := getF X14 hx hZ hown (host := "") (Or.inl (own_w hw 33 rfl)) Via.refl e14 Fb_12 (g := (mkF m 11 #[.val (.ref r0), .val (.ref r1), .val (.int (1 : Int32))] [(.ref r0)])) rfl rfl (hb hby d6_11)
  have st17 : own_S p e below T16 (mkF m 16 #[.val (.ref r0), .val (.ref r1), .val (.int (1 : Int32))] [(.ref r0), (.ref r0), (.ref bb)]) (mkF m 14 #[.val (.ref r0), .val (.ref r1), .val (.int (1 : Int32))] [(.ref bb)]) := by
    intro target kt
    refine XS.aloadN X16.here hx rfl (hb hby d6_14) rfl rfl ?_
    refine XS.dup X16.here hx rfl (hb hby d6_15) rfl rfl ?_
    exact kt
  obtain ⟨T18, X18, e18, st18⟩ := getF X16 hx hZ hown (host := "") (Or.inl (own_w hw 56 rfl)) Via.refl e16 F_length_r0_12 (g := (mkF m 16 #[.val (.ref r0), .val (.ref r1), .val (.int (1 : Int32))] [(.ref r0), (.ref r0), (.ref bb)])) rfl rfl (hb hby d6_16)
  have st19 : own_S p e below T18 (mkF m 22 #[.val (.ref r0), .val (.ref r1), .val (.int (1 : Int32))] [(.int ((mm + (1 : Int32)) + (1 : Int32))), (.ref r0), (.int (mm + (1 : Int32))), (.ref bb)]) (mkF m 19 #[.val (.ref r0), .val (.ref r1), .val (.int (1 : Int32))] [(.int (mm + (1 : Int32))), (.ref r0), (.ref bb)]) := by
    intro target kt
    refine XS.dupX1 X18.here hx rfl (hb hby d6_19) rfl rfl rfl ?_
    refine XS.iconst X18.here hx rfl (hb hby d6_20) ?_
    refine XS.iadd X18.here hx rfl (hb hby d6_21) rfl ?_
    exact kt
  obtain ⟨T20, h20, X20, e20, W20, st20⟩ := putF X18 hx hZ hown (host := "") (Or.inl (own_w hw 56 rfl)) Via.refl e18 F_length_r0_12 Er_12 (Or.inl (own_w hw 57 rfl)) (own_w hw 27 rfl) (ty := .int) (by decide) rfl rfl (g := (mkF m 22 #[.val (.ref r0), .val (.ref r1), .val (.int (1 : Int32))] [(.int ((mm + (1 : Int32)) + (1 : Int32))), (.ref r0), (.int (mm + (1 : Int32))), (.ref bb)])) rfl rfl (hb hby d6_22)
  have F_length_r0_20 : Fld Z h20 r0 "com/example/murray_hill/murrayhill/AsciiLine" "length" "I" (.int ((mm + (1 : Int32)) + (1 : Int32))) := F_length_r0_12.same W20
  have Od_20 := Od_12.wr W20 g_r0
  have Fb_20 := Fb_12.other W20 (Or.inr (slot_ne (Or.inr (own_w hw 34 rfl)) (Or.inl (own_w hw 57 rfl)) (by decide) (t := (.array .byte)) (t' := .int) (by decide) (by decide)))
  have Er_20 := Er_12.wr W20
  have Fv_20 := Fv_12.other W20 (Or.inl n2)
  have Fc_20 := Fc_12.other W20 (Or.inl n2)
  have Et_20 := Et_12.wr W20
  have Vy_20 := Vy_12.other W20 n3
  have Hh_bb_20 := Hh_bb_12.other W20 n1
  have Z_20 : n0 ≤ h20.size := Nat.le_trans Z_12 (Keep.of_wr W20).1
  have Kp_20 : Keep h0 h20 [r0, bb] := Kp_12.wr W20 (Or.inl (List.mem_of_getElem? (i := 0) rfl))
  have N20 := Fr.snoc X20 N14 g_r0
  have st21 : own_S p e below T20 (mkF m 27 #[.val (.ref r0), .val (.ref r1), .val (.int (1 : Int32))] [(.int (1 : Int32)), (.ref r1), (.int (mm + (1 : Int32))), (.ref bb)]) (mkF m 25 #[.val (.ref r0), .val (.ref r1), .val (.int (1 : Int32))] [(.int (mm + (1 : Int32))), (.ref bb)]) := by
    intro target kt
    refine XS.aloadN X20.here hx rfl (hb hby d6_25) rfl rfl ?_
    refine XS.iloadN X20.here hx rfl (hb hby d6_26) rfl ?_
    exact kt
  obtain ⟨cq22, kq22, qv22a, qv22b, qv22c⟩ := isOf hZ e20 Et_20
  obtain ⟨_, _, ⟨T22, L22, k22, n22⟩, -, X22, ⟨Lc22, hQ22, l22, y22, z22⟩, st22⟩ := X20.virtualBack hx (y := (⟨"java/lang/String", "charAt", "(I)C"⟩ : MethodName)) (z := (⟨"java/lang/String", "charAt", "(I)C"⟩ : MethodName)) hown (mvT hZ (own_w hw 74 rfl)) (mvT hZ (own_w hw 75 rfl)) (notFace_of_selects (args := #[]) (mvT hZ (own_w hw 77 rfl))) (mvT hZ (own_w hw 77 rfl)) (mvT hZ (own_w hw 76 rfl)) (by decide) (StrChars.Road.chN (W := 2) hZ hwordsChN (kI := 4) (own_w hw 6 rfl) (cs := ([x0, x1] : List Int32)) (i := 1) Et_20 Fv_20 Fc_20 Vy_20 (StrChars.Road.codOf (n := 2) rfl (own_hp1 (own_allS ec0 (own_allS ec1 own_all0)))) (own_hp2 (own_allS ec0 (own_allS ec1 own_all0))) (SB.1.ext Od_20.2) SB.2.1 (SB.2.2.1.ext Od_20.2) SB.2.2.2 (by simp) (by simp) rfl (by decide) (by decide)) qv22a qv22c (g := (mkF m 27 #[.val (.ref r0), .val (.ref r1), .val (.int (1 : Int32))] [(.int (1 : Int32)), (.ref r1), (.int (mm + (1 : Int32))), (.ref bb)])) rfl (by rw [hml]; rfl) (Steps.refl _) (argsL := [(.int (1 : Int32))]) (rest := [(.int (mm + (1 : Int32))), (.ref bb)]) (lenOf pd_13 rfl) rfl (by show 2 * 0 + _ ≤ _; exact Nat.le_of_eq rfl) (hb hby d6_27) (fun _ _ => ⟨rfl, e20, (by decide : 0 + 0 ≤ _), (by decide : 0 + 0 ≤ _)⟩)
  dsimp only [Pt.U, Pt.locs, Pt.cells, Pt.slots] at X22 l22 y22 z22 st22 hQ22
  subst l22 y22 z22
  obtain ⟨rfl, Lq22, e22⟩ := hQ22
  subst Lq22
  have Nq22 := Fr.nil n0
  have N22 := Fr.app N20 Nq22
  have st23 : own_S p e below T22 (mkF m 31 #[.val (.ref r0), .val (.ref r1), .val (.int (1 : Int32))] [(.int (x1.toInt8.toInt32)), (.int (mm + (1 : Int32))), (.ref bb)]) (mkF m 30 #[.val (.ref r0), .val (.ref r1), .val (.int (1 : Int32))] [(.int x1), (.int (mm + (1 : Int32))), (.ref bb)]) := by
    intro target kt
    refine XS.i2b X22.here hx rfl (hb hby d6_30) rfl ?_
    exact kt
  have hj1 : 0 ≤ ((mm + (1 : Int32))).toInt ∧ ((mm + (1 : Int32))).toInt ≤ 4 := own_up hj0 (by decide)
  obtain ⟨cl24, Ar24, qc24, Sz24, Mn24, Hs24, Gs24⟩ := id Hh_bb_20
  have hin24 : ¬ ((mm + (1 : Int32)) < 0 ∨ cl24.slots.size ≤ ((mm + (1 : Int32))).toNatClampNeg) := own_in6 Sz24 ⟨hj1.1, by have := hj1.2; omega⟩
  obtain ⟨T24, h24, X24, e24, W24, st24⟩ := stB X22 hx hZ e22 Ar24 (j := (mm + (1 : Int32))) hin24 (g := (mkF m 31 #[.val (.ref r0), .val (.ref r1), .val (.int (1 : Int32))] [(.int (x1.toInt8.toInt32)), (.int (mm + (1 : Int32))), (.ref bb)])) rfl rfl (hb hby d6_31)
  have Hh_bb_24 : Arh Z h24 bb kb .byte (6 : Int32) (((mm + (1 : Int32)), (.int (nar .byte (x1.toInt8.toInt32)))) :: ((mm, (.int x0)) :: hst)) [] (.int (0 : Int32)) := Arh.push Ar24 qc24 Sz24 Mn24 Hs24 Gs24 (fits_nar_byte _) W24 hin24
  have Od_24 := Od_20.wr W24 g_bb
  have Fb_24 := Fb_20.other W24 (Or.inl (Ne.symm n1))
  have Er_24 := Er_20.wr W24
  have Fv_24 := Fv_20.other W24 (Or.inl n4)
  have Fc_24 := Fc_20.other W24 (Or.inl n4)
  have Et_24 := Et_20.wr W24
  have Vy_24 := Vy_20.other W24 n5
  have F_length_r0_24 := F_length_r0_20.other W24 (Or.inl (Ne.symm n1))
  have Z_24 : n0 ≤ h24.size := Nat.le_trans Z_20 (Keep.of_wr W24).1
  have Kp_24 : Keep h0 h24 [r0, bb] := Kp_20.wr W24 (Or.inl (List.mem_of_getElem? (i := 1) rfl))
  have N24 := Fr.snoc X24 N22 g_bb
  rw [own_nb ec1] at Hh_bb_24
  have st25 : own_S p e below T24 (mkF m 4 #[.val (.ref r0), .val (.ref r1), .val (.int (2 : Int32))] [(.ref r1), (.int (2 : Int32))]) (mkF m 32 #[.val (.ref r0), .val (.ref r1), .val (.int (1 : Int32))] []) := by
    intro target kt
    refine XS.iinc X24.here hx rfl (hb hby d6_32) rfl (l' := #[.val (.ref r0), .val (.ref r1), .val (.int (2 : Int32))]) rfl ?_
    refine XS.goto X24.here hx rfl (pc0 := 35) (pc' := 2) rfl (hb hby d6_35) (by decide) (by decide) ?_
    refine XS.iloadN X24.here hx rfl (hb hby d6_2) rfl ?_
    refine XS.aloadN X24.here hx rfl (hb hby d6_3) rfl rfl ?_
    exact kt
  obtain ⟨cq26, kq26, qv26a, qv26b, qv26c⟩ := isOf hZ e24 Et_24
  obtain ⟨_, _, ⟨T26, L26, k26, n26⟩, -, X26, ⟨Lc26, hQ26, l26, y26, z26⟩, st26⟩ := X24.virtualBack hx (y := (⟨"java/lang/String", "length", "()I"⟩ : MethodName)) (z := (⟨"java/lang/String", "length", "()I"⟩ : MethodName)) hown (mvT hZ (own_w hw 40 rfl)) (mvT hZ (own_w hw 41 rfl)) (notFace_of_selects (args := #[]) (mvT hZ (own_w hw 43 rfl))) (mvT hZ (own_w hw 43 rfl)) (mvT hZ (own_w hw 42 rfl)) (by decide) (StrChars.Road.lenW (W := 1) hZ hwordsLen (kI := 4) (own_w hw 6 rfl) (cs := ([x0, x1] : List Int32)) Et_24 Fv_24 Fc_24 Vy_24 (StrChars.Road.codOf (n := 2) rfl (own_hp1 (own_allS ec0 (own_allS ec1 own_all0)))) (own_hp2 (own_allS ec0 (own_allS ec1 own_all0))) (SB.1.ext Od_24.2) SB.2.1 (by simp) (by decide) (by decide)) qv26a qv26c (g := (mkF m 4 #[.val (.ref r0), .val (.ref r1), .val (.int (2 : Int32))] [(.ref r1), (.int (2 : Int32))])) rfl (by rw [hml]; rfl) (Steps.refl _) (argsL := []) (rest := [(.int (2 : Int32))]) (lenOf pd_6 rfl) rfl (by show 2 * 0 + _ ≤ _; exact Nat.le_of_eq rfl) (hb hby d6_4) (fun _ _ => ⟨rfl, e24, (by decide : 0 + 0 ≤ _), (by decide : 0 + 0 ≤ _)⟩)
  dsimp only [Pt.U, Pt.locs, Pt.cells, Pt.slots] at X26 l26 y26 z26 st26 hQ26
  subst l26 y26 z26
  obtain ⟨rfl, Lq26, e26⟩ := hQ26
  subst Lq26
  have Nq26 := Fr.nil n0
  have N26 := Fr.app N24 Nq26
  obtain ⟨fs, hr, hrun, hended, hW, hsame⟩ := X26.leave (v := some (.ref r0)) (fun h => by rw [Bd.returns] at h; cases h)
  refine ⟨_, _, pre0 _ (st1 _ (st2.trans (st3 _ (st4 _ (st5 _ (st6 _ (st7 _ (st8 _ (st9 _ (st10.trans (st11 _ (st12 _ (st13 _ (st14.trans (st15 _ (st16 _ (st17 _ (st18 _ (st19 _ (st20 _ (st21 _ (st22.trans (st23 _ (st24 _ (st25 _ (st26.trans ?_)))))))))))))))))))))))))), hrun, hended, _, _, rfl, ?_, ⟨_, rfl⟩, hW, hsame.mono (by decide) (by decide)⟩
  · refine XS.icmpYes X26.here hx rfl (pc0 := 7) (pc' := 38) rfl (hb hby d6_7) rfl (flt (by decide : ¬ ((2 : Int32) < (2 : Int32)))).2.1 (by decide) (by decide) ?_
    refine XS.aloadN X26.here hx rfl (hb hby d6_38) rfl rfl ?_
    show Steps p.tables e below (T26.setTop (mkF m 39 #[.val (.ref r0), .val (.ref r1), .val (.int (2 : Int32))] [(.ref r0)])) _
    jvm_step X26.here [X26.here.top, hx, (hb hby d6_39), X26.method', Bd.returns, Value.isRef, FieldType.isReference]
    first | (intro acts; rw [hr _ acts rfl rfl rfl]) | rw [hr _ _ rfl rfl rfl]
    exact Steps.refl _
  · show Q_rmAp2 Z r0 r1 cs fm bb kb hst mm y ky x0 x1 x2 h0 n0 _ T26.heap _
    rw [e26]
    exact ⟨rfl, N26, Kp_24, Fb_24, F_length_r0_24, Hh_bb_24⟩
theorem ef_rmAp3 (m : MethodId) (x0 : Addr) (x1 : Addr) : entryFrame m #[(.ref x0), (.ref x1)] 3 = mkF m 0 #[.val (.ref x0), .val (.ref x1), .unset] [] := by first | (simp [entryFrame, mkF, argsToLocals, Value.category]; done) | rfl
def Q_rmAp3 (Z : State) (r0 : Addr) (r1 : Addr) (cs : Int32) (fm : Value) (bb : Addr) (kb : ClassId) (hst : List (Int32 × Value)) (mm : Int32) (y : Addr) (ky : ClassId) (x0 : Int32) (x1 : Int32) (x2 : Int32) (h0 : Heap) (n0 : Nat) (v : Option Value) (h : Heap) (L : List Loc) : Prop := v = some (.ref r0) ∧ Fr n0 L ∧ Keep h0 h [r0, bb] ∧ Fld Z h r0 "com/example/murray_hill/murrayhill/AsciiLine" "bytes" "[B" (.ref bb) ∧ Fld Z h r0 "com/example/murray_hill/murrayhill/AsciiLine" "length" "I" (.int (((mm + (1 : Int32)) + (1 : Int32)) + (1 : Int32))) ∧ Arh Z h bb kb .byte (6 : Int32) ((((mm + (1 : Int32)) + (1 : Int32)), (.int x2)) :: (((mm + (1 : Int32)), (.int x1)) :: ((mm, (.int x0)) :: hst))) [] (.int (0 : Int32))
set_option maxRecDepth 65536 in
set_option maxHeartbeats 40000000 in
theorem rmAp3 (l : Launch) (Z : State) (a0 : Array Value) (hw : ∀ d ∈ tables_1, d.before a0 Z = true) (ws : List Jvm.Cond) (r0 : Addr) (r1 : Addr) (cs : Int32) (fm : Value) (bb : Addr) (kb : ClassId) (hst : List (Int32 × Value)) (mm : Int32) (y : Addr) (ky : ClassId) (x0 : Int32) (x1 : Int32) (x2 : Int32) (h0 : Heap) (n0 : Nat) (Z0 : n0 ≤ h0.size) (SB : own_St Z cs fm) (Od : Old Z n0 h0) (Fb : Fld Z h0 r0 "com/example/murray_hill/murrayhill/AsciiLine" "bytes" "[B" (.ref bb)) (Fl : Fld Z h0 r0 "com/example/murray_hill/murrayhill/AsciiLine" "length" "I" (.int mm)) (Er : Exa Z h0 r0 "com/example/murray_hill/murrayhill/AsciiLine") (Hh : Arh Z h0 bb kb .byte (6 : Int32) hst [] (.int (0 : Int32))) (Fv : Fld Z h0 r1 "java/lang/String" "value" "[B" (.ref y)) (Fc : Fld Z h0 r1 "java/lang/String" "coder" "B" (.int (0 : Int32))) (Et : Exa Z h0 r1 "java/lang/String") (Vy : Arv Z h0 y ky .byte (3 : Int32) (own_bs ([x0, x1, x2] : List Int32)) (.int (0 : Int32))) (n1 : bb ≠ r0) (n2 : r1 ≠ r0) (n3 : y ≠ r0) (n4 : r1 ≠ bb) (n5 : y ≠ bb) (g_r0 : n0 ≤ r0) (g_bb : n0 ≤ bb) (ec0 : own_c7 x0) (ec1 : own_c7 x1) (ec2 : own_c7 x2) (hm : 0 ≤ mm.toInt ∧ mm.toInt ≤ 3) :
    MetFree l (⟨"com/example/murray_hill/murrayhill/AsciiLine", "append", "(Ljava/lang/String;)Lcom/example/murray_hill/murrayhill/AsciiLine;"⟩ : MethodName) (head1 (Jvm.Cond.code (⟨"com/example/murray_hill/murrayhill/AsciiLine", "append", "(Ljava/lang/String;)Lcom/example/murray_hill/murrayhill/AsciiLine;"⟩ : MethodName) prog_2_method_3_code 3 (some (.object "com/example/murray_hill/murrayhill/AsciiLine")) :: ws) ({ frames := 4, cells := 0, slots := 0, locals := 55 } : Room)) (fun a U => a = #[(.ref r0), (.ref r1)] ∧ Z.Warmed39 U.vm ∧ U.heap = h0) (fun _ _ _ _ _ => True) (fun _ U o U' => ∃ v L, o = .returned v ∧ Q_rmAp3 Z r0 r1 cs fm bb kb hst mm y ky x0 x1 x2 h0 n0 v U'.heap L ∧ FrameEnd U o U' L ({ frames := 4, cells := 0, slots := 0, locals := 55 } : Room).cells ({ frames := 4, cells := 0, slots := 0, locals := 55 } : Room).slots) := by
  refine MetFree.of_bodySF (plainFor_of_name pn_2) hisR ?_
  intro p e s m args below meth c s₁ Bd hml0 hP hK
  obtain ⟨rfl, hZ, hh⟩ := hP
  have hx := Bd.exec
  have hby := Bd.bytes
  have hml : c.maxLocals = 3 := hml0
  have hown : s.vm.findClass "com/example/murray_hill/murrayhill/AsciiLine" = some m.cls := findClass_of_methodNamed Bd.named
  have hnm := (name_of_methodNamed Bd.named Bd.method).1
  have X0 : Stand p l e ({ frames := 4, cells := 0, slots := 0, locals := 55 } : Room) s m #[(.ref r0), (.ref r1)] below meth c s₁ [] 0 0 := Stand.of_body Bd
  have e0 : s₁.heap = h0 := by rw [← hh, Bd.state]; rfl
  have N0 := Fr.nil n0
  have pre0 : ∀ t, Steps p.tables e below (s₁.setTop (mkF m 0 #[.val (.ref r0), .val (.ref r1), .unset] [])) t → Steps p.tables e below (s₁.setTop (entryFrame m #[(.ref r0), (.ref r1)] 3)) t := fun t k => castTop (ef_rmAp3 m r0 r1) k
  have Kp : Keep h0 h0 [r0, bb] := Keep.refl _ _
  have hwordsLen : ∀ d ∈ StrChars.Road.wordsLen, d.before a0 Z = true := fun d hd => hw d ((by decide +kernel : ∀ d ∈ StrChars.Road.wordsLen, d ∈ tables_1) d hd)
  have hwordsChN : ∀ d ∈ StrChars.Road.wordsChN, d.before a0 Z = true := fun d hd => hw d ((by decide +kernel : ∀ d ∈ StrChars.Road.wordsChN, d ∈ tables_1) d hd)
  have st1 : own_S p e below s₁ (mkF m 4 #[.val (.ref r0), .val (.ref r1), .val (.int (0 : Int32))] [(.ref r1), (.int (0 : Int32))]) (mkF m 0 #[.val (.ref r0), .val (.ref r1), .unset] []) := by
    intro target kt
    refine XS.iconst X0.here hx rfl (hb hby d6_0) ?_
    refine XS.istoreN X0.here hx rfl (hb hby d6_1) rfl (l' := #[.val (.ref r0), .val (.ref r1), .val (.int (0 : Int32))]) rfl ?_
    refine XS.iloadN X0.here hx rfl (hb hby d6_2) rfl ?_
    refine XS.aloadN X0.here hx rfl (hb hby d6_3) rfl rfl ?_
    exact kt
  obtain ⟨cq2, kq2, qv2a, qv2b, qv2c⟩ := isOf hZ e0 Et
  obtain ⟨_, _, ⟨T2, L2, k2, n2⟩, -, X2, ⟨Lc2, hQ2, l2, y2, z2⟩, st2⟩ := X0.virtualBack hx (y := (⟨"java/lang/String", "length", "()I"⟩ : MethodName)) (z := (⟨"java/lang/String", "length", "()I"⟩ : MethodName)) hown (mvT hZ (own_w hw 40 rfl)) (mvT hZ (own_w hw 41 rfl)) (notFace_of_selects (args := #[]) (mvT hZ (own_w hw 43 rfl))) (mvT hZ (own_w hw 43 rfl)) (mvT hZ (own_w hw 42 rfl)) (by decide) (StrChars.Road.lenW (W := 1) hZ hwordsLen (kI := 4) (own_w hw 6 rfl) (cs := ([x0, x1, x2] : List Int32)) Et Fv Fc Vy (StrChars.Road.codOf (n := 3) rfl (own_hp1 (own_allS ec0 (own_allS ec1 (own_allS ec2 own_all0))))) (own_hp2 (own_allS ec0 (own_allS ec1 (own_allS ec2 own_all0)))) (SB.1.ext Od.2) SB.2.1 (by simp) (by decide) (by decide)) qv2a qv2c (g := (mkF m 4 #[.val (.ref r0), .val (.ref r1), .val (.int (0 : Int32))] [(.ref r1), (.int (0 : Int32))])) rfl (by rw [hml]; rfl) (Steps.refl _) (argsL := []) (rest := [(.int (0 : Int32))]) (lenOf pd_6 rfl) rfl (by show 2 * 0 + _ ≤ _; exact Nat.le_of_eq rfl) (hb hby d6_4) (fun _ _ => ⟨rfl, e0, (by decide : 0 + 0 ≤ _), (by decide : 0 + 0 ≤ _)⟩)
  dsimp only [Pt.U, Pt.locs, Pt.cells, Pt.slots] at X2 l2 y2 z2 st2 hQ2
  subst l2 y2 z2
  obtain ⟨rfl, Lq2, e2⟩ := hQ2
  subst Lq2
  have Nq2 := Fr.nil n0
  have N2 := Fr.app N0 Nq2
  have st3 : own_S p e below T2 (mkF m 11 #[.val (.ref r0), .val (.ref r1), .val (.int (0 : Int32))] [(.ref r0)]) (mkF m 7 #[.val (.ref r0), .val (.ref r1), .val (.int (0 : Int32))] [(.int (3 : Int32)), (.int (0 : Int32))]) := by
    intro target kt
    refine XS.icmpNo X2.here hx rfl (hb hby d6_7) rfl (tlt (by decide : ((0 : Int32) < (3 : Int32)))).2.1 ?_
    refine XS.aloadN X2.here hx rfl (hb hby d6_10) rfl rfl ?_
    exact kt
  obtain ⟨T4, X4, e4, st4⟩ := getF X2 hx hZ hown (host := "") (Or.inl (own_w hw 33 rfl)) Via.refl e2 Fb (g := (mkF m 11 #[.val (.ref r0), .val (.ref r1), .val (.int (0 : Int32))] [(.ref r0)])) rfl rfl (hb hby d6_11)
  have st5 : own_S p e below T4 (mkF m 16 #[.val (.ref r0), .val (.ref r1), .val (.int (0 : Int32))] [(.ref r0), (.ref r0), (.ref bb)]) (mkF m 14 #[.val (.ref r0), .val (.ref r1), .val (.int (0 : Int32))] [(.ref bb)]) := by
    intro target kt
    refine XS.aloadN X4.here hx rfl (hb hby d6_14) rfl rfl ?_
    refine XS.dup X4.here hx rfl (hb hby d6_15) rfl rfl ?_
    exact kt
  obtain ⟨T6, X6, e6, st6⟩ := getF X4 hx hZ hown (host := "") (Or.inl (own_w hw 56 rfl)) Via.refl e4 Fl (g := (mkF m 16 #[.val (.ref r0), .val (.ref r1), .val (.int (0 : Int32))] [(.ref r0), (.ref r0), (.ref bb)])) rfl rfl (hb hby d6_16)
  have st7 : own_S p e below T6 (mkF m 22 #[.val (.ref r0), .val (.ref r1), .val (.int (0 : Int32))] [(.int (mm + (1 : Int32))), (.ref r0), (.int mm), (.ref bb)]) (mkF m 19 #[.val (.ref r0), .val (.ref r1), .val (.int (0 : Int32))] [(.int mm), (.ref r0), (.ref bb)]) := by
    intro target kt
    refine XS.dupX1 X6.here hx rfl (hb hby d6_19) rfl rfl rfl ?_
    refine XS.iconst X6.here hx rfl (hb hby d6_20) ?_
    refine XS.iadd X6.here hx rfl (hb hby d6_21) rfl ?_
    exact kt
  obtain ⟨T8, h8, X8, e8, W8, st8⟩ := putF X6 hx hZ hown (host := "") (Or.inl (own_w hw 56 rfl)) Via.refl e6 Fl Er (Or.inl (own_w hw 57 rfl)) (own_w hw 27 rfl) (ty := .int) (by decide) rfl rfl (g := (mkF m 22 #[.val (.ref r0), .val (.ref r1), .val (.int (0 : Int32))] [(.int (mm + (1 : Int32))), (.ref r0), (.int mm), (.ref bb)])) rfl rfl (hb hby d6_22)
  have F_length_r0_8 : Fld Z h8 r0 "com/example/murray_hill/murrayhill/AsciiLine" "length" "I" (.int (mm + (1 : Int32))) := Fl.same W8
  have Od_8 := Od.wr W8 g_r0
  have Fb_8 := Fb.other W8 (Or.inr (slot_ne (Or.inr (own_w hw 34 rfl)) (Or.inl (own_w hw 57 rfl)) (by decide) (t := (.array .byte)) (t' := .int) (by decide) (by decide)))
  have Er_8 := Er.wr W8
  have Hh_8 := Hh.other W8 n1
  have Fv_8 := Fv.other W8 (Or.inl n2)
  have Fc_8 := Fc.other W8 (Or.inl n2)
  have Et_8 := Et.wr W8
  have Vy_8 := Vy.other W8 n3
  have Z_8 : n0 ≤ h8.size := Nat.le_trans Z0 (Keep.of_wr W8).1
  have Kp_8 : Keep h0 h8 [r0, bb] := Kp.wr W8 (Or.inl (List.mem_of_getElem? (i := 0) rfl))
  have N8 := Fr.snoc X8 N2 g_r0
  have st9 : own_S p e below T8 (mkF m 27 #[.val (.ref r0), .val (.ref r1), .val (.int (0 : Int32))] [(.int (0 : Int32)), (.ref r1), (.int mm), (.ref bb)]) (mkF m 25 #[.val (.ref r0), .val (.ref r1), .val (.int (0 : Int32))] [(.int mm), (.ref bb)]) := by
    intro target kt
    refine XS.aloadN X8.here hx rfl (hb hby d6_25) rfl rfl ?_
    refine XS.iloadN X8.here hx rfl (hb hby d6_26) rfl ?_
    exact kt
  obtain ⟨cq10, kq10, qv10a, qv10b, qv10c⟩ := isOf hZ e8 Et_8
  obtain ⟨_, _, ⟨T10, L10, k10, n10⟩, -, X10, ⟨Lc10, hQ10, l10, y10, z10⟩, st10⟩ := X8.virtualBack hx (y := (⟨"java/lang/String", "charAt", "(I)C"⟩ : MethodName)) (z := (⟨"java/lang/String", "charAt", "(I)C"⟩ : MethodName)) hown (mvT hZ (own_w hw 74 rfl)) (mvT hZ (own_w hw 75 rfl)) (notFace_of_selects (args := #[]) (mvT hZ (own_w hw 77 rfl))) (mvT hZ (own_w hw 77 rfl)) (mvT hZ (own_w hw 76 rfl)) (by decide) (StrChars.Road.chN (W := 2) hZ hwordsChN (kI := 4) (own_w hw 6 rfl) (cs := ([x0, x1, x2] : List Int32)) (i := 0) Et_8 Fv_8 Fc_8 Vy_8 (StrChars.Road.codOf (n := 3) rfl (own_hp1 (own_allS ec0 (own_allS ec1 (own_allS ec2 own_all0))))) (own_hp2 (own_allS ec0 (own_allS ec1 (own_allS ec2 own_all0)))) (SB.1.ext Od_8.2) SB.2.1 (SB.2.2.1.ext Od_8.2) SB.2.2.2 (by simp) (by simp) rfl (by decide) (by decide)) qv10a qv10c (g := (mkF m 27 #[.val (.ref r0), .val (.ref r1), .val (.int (0 : Int32))] [(.int (0 : Int32)), (.ref r1), (.int mm), (.ref bb)])) rfl (by rw [hml]; rfl) (Steps.refl _) (argsL := [(.int (0 : Int32))]) (rest := [(.int mm), (.ref bb)]) (lenOf pd_13 rfl) rfl (by show 2 * 0 + _ ≤ _; exact Nat.le_of_eq rfl) (hb hby d6_27) (fun _ _ => ⟨rfl, e8, (by decide : 0 + 0 ≤ _), (by decide : 0 + 0 ≤ _)⟩)
  dsimp only [Pt.U, Pt.locs, Pt.cells, Pt.slots] at X10 l10 y10 z10 st10 hQ10
  subst l10 y10 z10
  obtain ⟨rfl, Lq10, e10⟩ := hQ10
  subst Lq10
  have Nq10 := Fr.nil n0
  have N10 := Fr.app N8 Nq10
  have st11 : own_S p e below T10 (mkF m 31 #[.val (.ref r0), .val (.ref r1), .val (.int (0 : Int32))] [(.int (x0.toInt8.toInt32)), (.int mm), (.ref bb)]) (mkF m 30 #[.val (.ref r0), .val (.ref r1), .val (.int (0 : Int32))] [(.int x0), (.int mm), (.ref bb)]) := by
    intro target kt
    refine XS.i2b X10.here hx rfl (hb hby d6_30) rfl ?_
    exact kt
  have hj0 : 0 ≤ (mm).toInt ∧ (mm).toInt ≤ 3 := hm
  obtain ⟨cl12, Ar12, qc12, Sz12, Mn12, Hs12, Gs12⟩ := id Hh_8
  have hin12 : ¬ (mm < 0 ∨ cl12.slots.size ≤ (mm).toNatClampNeg) := own_in6 Sz12 ⟨hj0.1, by have := hj0.2; omega⟩
  obtain ⟨T12, h12, X12, e12, W12, st12⟩ := stB X10 hx hZ e10 Ar12 (j := mm) hin12 (g := (mkF m 31 #[.val (.ref r0), .val (.ref r1), .val (.int (0 : Int32))] [(.int (x0.toInt8.toInt32)), (.int mm), (.ref bb)])) rfl rfl (hb hby d6_31)
  have Hh_bb_12 : Arh Z h12 bb kb .byte (6 : Int32) ((mm, (.int (nar .byte (x0.toInt8.toInt32)))) :: hst) [] (.int (0 : Int32)) := Arh.push Ar12 qc12 Sz12 Mn12 Hs12 Gs12 (fits_nar_byte _) W12 hin12
  have Od_12 := Od_8.wr W12 g_bb
  have Fb_12 := Fb_8.other W12 (Or.inl (Ne.symm n1))
  have Er_12 := Er_8.wr W12
  have Fv_12 := Fv_8.other W12 (Or.inl n4)
  have Fc_12 := Fc_8.other W12 (Or.inl n4)
  have Et_12 := Et_8.wr W12
  have Vy_12 := Vy_8.other W12 n5
  have F_length_r0_12 := F_length_r0_8.other W12 (Or.inl (Ne.symm n1))
  have Z_12 : n0 ≤ h12.size := Nat.le_trans Z_8 (Keep.of_wr W12).1
  have Kp_12 : Keep h0 h12 [r0, bb] := Kp_8.wr W12 (Or.inl (List.mem_of_getElem? (i := 1) rfl))
  have N12 := Fr.snoc X12 N10 g_bb
  rw [own_nb ec0] at Hh_bb_12
  have st13 : own_S p e below T12 (mkF m 4 #[.val (.ref r0), .val (.ref r1), .val (.int (1 : Int32))] [(.ref r1), (.int (1 : Int32))]) (mkF m 32 #[.val (.ref r0), .val (.ref r1), .val (.int (0 : Int32))] []) := by
    intro target kt
    refine XS.iinc X12.here hx rfl (hb hby d6_32) rfl (l' := #[.val (.ref r0), .val (.ref r1), .val (.int (1 : Int32))]) rfl ?_
    refine XS.goto X12.here hx rfl (pc0 := 35) (pc' := 2) rfl (hb hby d6_35) (by decide) (by decide) ?_
    refine XS.iloadN X12.here hx rfl (hb hby d6_2) rfl ?_
    refine XS.aloadN X12.here hx rfl (hb hby d6_3) rfl rfl ?_
    exact kt
  obtain ⟨cq14, kq14, qv14a, qv14b, qv14c⟩ := isOf hZ e12 Et_12
  obtain ⟨_, _, ⟨T14, L14, k14, n14⟩, -, X14, ⟨Lc14, hQ14, l14, y14, z14⟩, st14⟩ := X12.virtualBack hx (y := (⟨"java/lang/String", "length", "()I"⟩ : MethodName)) (z := (⟨"java/lang/String", "length", "()I"⟩ : MethodName)) hown (mvT hZ (own_w hw 40 rfl)) (mvT hZ (own_w hw 41 rfl)) (notFace_of_selects (args := #[]) (mvT hZ (own_w hw 43 rfl))) (mvT hZ (own_w hw 43 rfl)) (mvT hZ (own_w hw 42 rfl)) (by decide) (StrChars.Road.lenW (W := 1) hZ hwordsLen (kI := 4) (own_w hw 6 rfl) (cs := ([x0, x1, x2] : List Int32)) Et_12 Fv_12 Fc_12 Vy_12 (StrChars.Road.codOf (n := 3) rfl (own_hp1 (own_allS ec0 (own_allS ec1 (own_allS ec2 own_all0))))) (own_hp2 (own_allS ec0 (own_allS ec1 (own_allS ec2 own_all0)))) (SB.1.ext Od_12.2) SB.2.1 (by simp) (by decide) (by decide)) qv14a qv14c (g := (mkF m 4 #[.val (.ref r0), .val (.ref r1), .val (.int (1 : Int32))] [(.ref r1), (.int (1 : Int32))])) rfl (by rw [hml]; rfl) (Steps.refl _) (argsL := []) (rest := [(.int (1 : Int32))]) (lenOf pd_6 rfl) rfl (by show 2 * 0 + _ ≤ _; exact Nat.le_of_eq rfl) (hb hby d6_4) (fun _ _ => ⟨rfl, e12, (by decide : 0 + 0 ≤ _), (by decide : 0 + 0 ≤ _)⟩)
  dsimp only [Pt.U, Pt.locs, Pt.cells, Pt.slots] at X14 l14 y14 z14 st14 hQ14
  subst l14 y14 z14
  obtain ⟨rfl, Lq14, e14⟩ := hQ14
  subst Lq14
  have Nq14 := Fr.nil n0
  have N14 := Fr.app N12 Nq14
  have st15 : own_S p e below T14 (mkF m 11 #[.val (.ref r0), .val (.ref r1), .val (.int (1 : Int32))] [(.ref r0)]) (mkF m 7 #[.val (.ref r0), .val (.ref r1), .val (.int (1 : Int32))] [(.int (3 : Int32)), (.int (1 : Int32))]) := by
    intro target kt
    refine XS.icmpNo X14.here hx rfl (hb hby d6_7) rfl (tlt (by decide : ((1 : Int32) < (3 : Int32)))).2.1 ?_
    refine XS.aloadN X14.here hx rfl (hb hby d6_10) rfl rfl ?_
    exact kt
  obtain ⟨T16, X16, e16, st16⟩ := getF X14 hx hZ hown (host := "") (Or.inl (own_w hw 33 rfl)) Via.refl e14 Fb_12 (g := (mkF m 11 #[.val (.ref r0), .val (.ref r1), .val (.int (1 : Int32))] [(.ref r0)])) rfl rfl (hb hby d6_11)
  have st17 : own_S p e below T16 (mkF m 16 #[.val (.ref r0), .val (.ref r1), .val (.int (1 : Int32))] [(.ref r0), (.ref r0), (.ref bb)]) (mkF m 14 #[.val (.ref r0), .val (.ref r1), .val (.int (1 : Int32))] [(.ref bb)]) := by
    intro target kt
    refine XS.aloadN X16.here hx rfl (hb hby d6_14) rfl rfl ?_
    refine XS.dup X16.here hx rfl (hb hby d6_15) rfl rfl ?_
    exact kt
  obtain ⟨T18, X18, e18, st18⟩ := getF X16 hx hZ hown (host := "") (Or.inl (own_w hw 56 rfl)) Via.refl e16 F_length_r0_12 (g := (mkF m 16 #[.val (.ref r0), .val (.ref r1), .val (.int (1 : Int32))] [(.ref r0), (.ref r0), (.ref bb)])) rfl rfl (hb hby d6_16)
  have st19 : own_S p e below T18 (mkF m 22 #[.val (.ref r0), .val (.ref r1), .val (.int (1 : Int32))] [(.int ((mm + (1 : Int32)) + (1 : Int32))), (.ref r0), (.int (mm + (1 : Int32))), (.ref bb)]) (mkF m 19 #[.val (.ref r0), .val (.ref r1), .val (.int (1 : Int32))] [(.int (mm + (1 : Int32))), (.ref r0), (.ref bb)]) := by
    intro target kt
    refine XS.dupX1 X18.here hx rfl (hb hby d6_19) rfl rfl rfl ?_
    refine XS.iconst X18.here hx rfl (hb hby d6_20) ?_
    refine XS.iadd X18.here hx rfl (hb hby d6_21) rfl ?_
    exact kt
  obtain ⟨T20, h20, X20, e20, W20, st20⟩ := putF X18 hx hZ hown (host := "") (Or.inl (own_w hw 56 rfl)) Via.refl e18 F_length_r0_12 Er_12 (Or.inl (own_w hw 57 rfl)) (own_w hw 27 rfl) (ty := .int) (by decide) rfl rfl (g := (mkF m 22 #[.val (.ref r0), .val (.ref r1), .val (.int (1 : Int32))] [(.int ((mm + (1 : Int32)) + (1 : Int32))), (.ref r0), (.int (mm + (1 : Int32))), (.ref bb)])) rfl rfl (hb hby d6_22)
  have F_length_r0_20 : Fld Z h20 r0 "com/example/murray_hill/murrayhill/AsciiLine" "length" "I" (.int ((mm + (1 : Int32)) + (1 : Int32))) := F_length_r0_12.same W20
  have Od_20 := Od_12.wr W20 g_r0
  have Fb_20 := Fb_12.other W20 (Or.inr (slot_ne (Or.inr (own_w hw 34 rfl)) (Or.inl (own_w hw 57 rfl)) (by decide) (t := (.array .byte)) (t' := .int) (by decide) (by decide)))
  have Er_20 := Er_12.wr W20
  have Fv_20 := Fv_12.other W20 (Or.inl n2)
  have Fc_20 := Fc_12.other W20 (Or.inl n2)
  have Et_20 := Et_12.wr W20
  have Vy_20 := Vy_12.other W20 n3
  have Hh_bb_20 := Hh_bb_12.other W20 n1
  have Z_20 : n0 ≤ h20.size := Nat.le_trans Z_12 (Keep.of_wr W20).1
  have Kp_20 : Keep h0 h20 [r0, bb] := Kp_12.wr W20 (Or.inl (List.mem_of_getElem? (i := 0) rfl))
  have N20 := Fr.snoc X20 N14 g_r0
  have st21 : own_S p e below T20 (mkF m 27 #[.val (.ref r0), .val (.ref r1), .val (.int (1 : Int32))] [(.int (1 : Int32)), (.ref r1), (.int (mm + (1 : Int32))), (.ref bb)]) (mkF m 25 #[.val (.ref r0), .val (.ref r1), .val (.int (1 : Int32))] [(.int (mm + (1 : Int32))), (.ref bb)]) := by
    intro target kt
    refine XS.aloadN X20.here hx rfl (hb hby d6_25) rfl rfl ?_
    refine XS.iloadN X20.here hx rfl (hb hby d6_26) rfl ?_
    exact kt
  obtain ⟨cq22, kq22, qv22a, qv22b, qv22c⟩ := isOf hZ e20 Et_20
  obtain ⟨_, _, ⟨T22, L22, k22, n22⟩, -, X22, ⟨Lc22, hQ22, l22, y22, z22⟩, st22⟩ := X20.virtualBack hx (y := (⟨"java/lang/String", "charAt", "(I)C"⟩ : MethodName)) (z := (⟨"java/lang/String", "charAt", "(I)C"⟩ : MethodName)) hown (mvT hZ (own_w hw 74 rfl)) (mvT hZ (own_w hw 75 rfl)) (notFace_of_selects (args := #[]) (mvT hZ (own_w hw 77 rfl))) (mvT hZ (own_w hw 77 rfl)) (mvT hZ (own_w hw 76 rfl)) (by decide) (StrChars.Road.chN (W := 2) hZ hwordsChN (kI := 4) (own_w hw 6 rfl) (cs := ([x0, x1, x2] : List Int32)) (i := 1) Et_20 Fv_20 Fc_20 Vy_20 (StrChars.Road.codOf (n := 3) rfl (own_hp1 (own_allS ec0 (own_allS ec1 (own_allS ec2 own_all0))))) (own_hp2 (own_allS ec0 (own_allS ec1 (own_allS ec2 own_all0)))) (SB.1.ext Od_20.2) SB.2.1 (SB.2.2.1.ext Od_20.2) SB.2.2.2 (by simp) (by simp) rfl (by decide) (by decide)) qv22a qv22c (g := (mkF m 27 #[.val (.ref r0), .val (.ref r1), .val (.int (1 : Int32))] [(.int (1 : Int32)), (.ref r1), (.int (mm + (1 : Int32))), (.ref bb)])) rfl (by rw [hml]; rfl) (Steps.refl _) (argsL := [(.int (1 : Int32))]) (rest := [(.int (mm + (1 : Int32))), (.ref bb)]) (lenOf pd_13 rfl) rfl (by show 2 * 0 + _ ≤ _; exact Nat.le_of_eq rfl) (hb hby d6_27) (fun _ _ => ⟨rfl, e20, (by decide : 0 + 0 ≤ _), (by decide : 0 + 0 ≤ _)⟩)
  dsimp only [Pt.U, Pt.locs, Pt.cells, Pt.slots] at X22 l22 y22 z22 st22 hQ22
  subst l22 y22 z22
  obtain ⟨rfl, Lq22, e22⟩ := hQ22
  subst Lq22
  have Nq22 := Fr.nil n0
  have N22 := Fr.app N20 Nq22
  have st23 : own_S p e below T22 (mkF m 31 #[.val (.ref r0), .val (.ref r1), .val (.int (1 : Int32))] [(.int (x1.toInt8.toInt32)), (.int (mm + (1 : Int32))), (.ref bb)]) (mkF m 30 #[.val (.ref r0), .val (.ref r1), .val (.int (1 : Int32))] [(.int x1), (.int (mm + (1 : Int32))), (.ref bb)]) := by
    intro target kt
    refine XS.i2b X22.here hx rfl (hb hby d6_30) rfl ?_
    exact kt
  have hj1 : 0 ≤ ((mm + (1 : Int32))).toInt ∧ ((mm + (1 : Int32))).toInt ≤ 4 := own_up hj0 (by decide)
  obtain ⟨cl24, Ar24, qc24, Sz24, Mn24, Hs24, Gs24⟩ := id Hh_bb_20
  have hin24 : ¬ ((mm + (1 : Int32)) < 0 ∨ cl24.slots.size ≤ ((mm + (1 : Int32))).toNatClampNeg) := own_in6 Sz24 ⟨hj1.1, by have := hj1.2; omega⟩
  obtain ⟨T24, h24, X24, e24, W24, st24⟩ := stB X22 hx hZ e22 Ar24 (j := (mm + (1 : Int32))) hin24 (g := (mkF m 31 #[.val (.ref r0), .val (.ref r1), .val (.int (1 : Int32))] [(.int (x1.toInt8.toInt32)), (.int (mm + (1 : Int32))), (.ref bb)])) rfl rfl (hb hby d6_31)
  have Hh_bb_24 : Arh Z h24 bb kb .byte (6 : Int32) (((mm + (1 : Int32)), (.int (nar .byte (x1.toInt8.toInt32)))) :: ((mm, (.int x0)) :: hst)) [] (.int (0 : Int32)) := Arh.push Ar24 qc24 Sz24 Mn24 Hs24 Gs24 (fits_nar_byte _) W24 hin24
  have Od_24 := Od_20.wr W24 g_bb
  have Fb_24 := Fb_20.other W24 (Or.inl (Ne.symm n1))
  have Er_24 := Er_20.wr W24
  have Fv_24 := Fv_20.other W24 (Or.inl n4)
  have Fc_24 := Fc_20.other W24 (Or.inl n4)
  have Et_24 := Et_20.wr W24
  have Vy_24 := Vy_20.other W24 n5
  have F_length_r0_24 := F_length_r0_20.other W24 (Or.inl (Ne.symm n1))
  have Z_24 : n0 ≤ h24.size := Nat.le_trans Z_20 (Keep.of_wr W24).1
  have Kp_24 : Keep h0 h24 [r0, bb] := Kp_20.wr W24 (Or.inl (List.mem_of_getElem? (i := 1) rfl))
  have N24 := Fr.snoc X24 N22 g_bb
  rw [own_nb ec1] at Hh_bb_24
  have st25 : own_S p e below T24 (mkF m 4 #[.val (.ref r0), .val (.ref r1), .val (.int (2 : Int32))] [(.ref r1), (.int (2 : Int32))]) (mkF m 32 #[.val (.ref r0), .val (.ref r1), .val (.int (1 : Int32))] []) := by
    intro target kt
    refine XS.iinc X24.here hx rfl (hb hby d6_32) rfl (l' := #[.val (.ref r0), .val (.ref r1), .val (.int (2 : Int32))]) rfl ?_
    refine XS.goto X24.here hx rfl (pc0 := 35) (pc' := 2) rfl (hb hby d6_35) (by decide) (by decide) ?_
    refine XS.iloadN X24.here hx rfl (hb hby d6_2) rfl ?_
    refine XS.aloadN X24.here hx rfl (hb hby d6_3) rfl rfl ?_
    exact kt
  obtain ⟨cq26, kq26, qv26a, qv26b, qv26c⟩ := isOf hZ e24 Et_24
  obtain ⟨_, _, ⟨T26, L26, k26, n26⟩, -, X26, ⟨Lc26, hQ26, l26, y26, z26⟩, st26⟩ := X24.virtualBack hx (y := (⟨"java/lang/String", "length", "()I"⟩ : MethodName)) (z := (⟨"java/lang/String", "length", "()I"⟩ : MethodName)) hown (mvT hZ (own_w hw 40 rfl)) (mvT hZ (own_w hw 41 rfl)) (notFace_of_selects (args := #[]) (mvT hZ (own_w hw 43 rfl))) (mvT hZ (own_w hw 43 rfl)) (mvT hZ (own_w hw 42 rfl)) (by decide) (StrChars.Road.lenW (W := 1) hZ hwordsLen (kI := 4) (own_w hw 6 rfl) (cs := ([x0, x1, x2] : List Int32)) Et_24 Fv_24 Fc_24 Vy_24 (StrChars.Road.codOf (n := 3) rfl (own_hp1 (own_allS ec0 (own_allS ec1 (own_allS ec2 own_all0))))) (own_hp2 (own_allS ec0 (own_allS ec1 (own_allS ec2 own_all0)))) (SB.1.ext Od_24.2) SB.2.1 (by simp) (by decide) (by decide)) qv26a qv26c (g := (mkF m 4 #[.val (.ref r0), .val (.ref r1), .val (.int (2 : Int32))] [(.ref r1), (.int (2 : Int32))])) rfl (by rw [hml]; rfl) (Steps.refl _) (argsL := []) (rest := [(.int (2 : Int32))]) (lenOf pd_6 rfl) rfl (by show 2 * 0 + _ ≤ _; exact Nat.le_of_eq rfl) (hb hby d6_4) (fun _ _ => ⟨rfl, e24, (by decide : 0 + 0 ≤ _), (by decide : 0 + 0 ≤ _)⟩)
  dsimp only [Pt.U, Pt.locs, Pt.cells, Pt.slots] at X26 l26 y26 z26 st26 hQ26
  subst l26 y26 z26
  obtain ⟨rfl, Lq26, e26⟩ := hQ26
  subst Lq26
  have Nq26 := Fr.nil n0
  have N26 := Fr.app N24 Nq26
  have st27 : own_S p e below T26 (mkF m 11 #[.val (.ref r0), .val (.ref r1), .val (.int (2 : Int32))] [(.ref r0)]) (mkF m 7 #[.val (.ref r0), .val (.ref r1), .val (.int (2 : Int32))] [(.int (3 : Int32)), (.int (2 : Int32))]) := by
    intro target kt
    refine XS.icmpNo X26.here hx rfl (hb hby d6_7) rfl (tlt (by decide : ((2 : Int32) < (3 : Int32)))).2.1 ?_
    refine XS.aloadN X26.here hx rfl (hb hby d6_10) rfl rfl ?_
    exact kt
  obtain ⟨T28, X28, e28, st28⟩ := getF X26 hx hZ hown (host := "") (Or.inl (own_w hw 33 rfl)) Via.refl e26 Fb_24 (g := (mkF m 11 #[.val (.ref r0), .val (.ref r1), .val (.int (2 : Int32))] [(.ref r0)])) rfl rfl (hb hby d6_11)
  have st29 : own_S p e below T28 (mkF m 16 #[.val (.ref r0), .val (.ref r1), .val (.int (2 : Int32))] [(.ref r0), (.ref r0), (.ref bb)]) (mkF m 14 #[.val (.ref r0), .val (.ref r1), .val (.int (2 : Int32))] [(.ref bb)]) := by
    intro target kt
    refine XS.aloadN X28.here hx rfl (hb hby d6_14) rfl rfl ?_
    refine XS.dup X28.here hx rfl (hb hby d6_15) rfl rfl ?_
    exact kt
  obtain ⟨T30, X30, e30, st30⟩ := getF X28 hx hZ hown (host := "") (Or.inl (own_w hw 56 rfl)) Via.refl e28 F_length_r0_24 (g := (mkF m 16 #[.val (.ref r0), .val (.ref r1), .val (.int (2 : Int32))] [(.ref r0), (.ref r0), (.ref bb)])) rfl rfl (hb hby d6_16)
  have st31 : own_S p e below T30 (mkF m 22 #[.val (.ref r0), .val (.ref r1), .val (.int (2 : Int32))] [(.int (((mm + (1 : Int32)) + (1 : Int32)) + (1 : Int32))), (.ref r0), (.int ((mm + (1 : Int32)) + (1 : Int32))), (.ref bb)]) (mkF m 19 #[.val (.ref r0), .val (.ref r1), .val (.int (2 : Int32))] [(.int ((mm + (1 : Int32)) + (1 : Int32))), (.ref r0), (.ref bb)]) := by
    intro target kt
    refine XS.dupX1 X30.here hx rfl (hb hby d6_19) rfl rfl rfl ?_
    refine XS.iconst X30.here hx rfl (hb hby d6_20) ?_
    refine XS.iadd X30.here hx rfl (hb hby d6_21) rfl ?_
    exact kt
  obtain ⟨T32, h32, X32, e32, W32, st32⟩ := putF X30 hx hZ hown (host := "") (Or.inl (own_w hw 56 rfl)) Via.refl e30 F_length_r0_24 Er_24 (Or.inl (own_w hw 57 rfl)) (own_w hw 27 rfl) (ty := .int) (by decide) rfl rfl (g := (mkF m 22 #[.val (.ref r0), .val (.ref r1), .val (.int (2 : Int32))] [(.int (((mm + (1 : Int32)) + (1 : Int32)) + (1 : Int32))), (.ref r0), (.int ((mm + (1 : Int32)) + (1 : Int32))), (.ref bb)])) rfl rfl (hb hby d6_22)
  have F_length_r0_32 : Fld Z h32 r0 "com/example/murray_hill/murrayhill/AsciiLine" "length" "I" (.int (((mm + (1 : Int32)) + (1 : Int32)) + (1 : Int32))) := F_length_r0_24.same W32
  have Od_32 := Od_24.wr W32 g_r0
  have Fb_32 := Fb_24.other W32 (Or.inr (slot_ne (Or.inr (own_w hw 34 rfl)) (Or.inl (own_w hw 57 rfl)) (by decide) (t := (.array .byte)) (t' := .int) (by decide) (by decide)))
  have Er_32 := Er_24.wr W32
  have Fv_32 := Fv_24.other W32 (Or.inl n2)
  have Fc_32 := Fc_24.other W32 (Or.inl n2)
  have Et_32 := Et_24.wr W32
  have Vy_32 := Vy_24.other W32 n3
  have Hh_bb_32 := Hh_bb_24.other W32 n1
  have Z_32 : n0 ≤ h32.size := Nat.le_trans Z_24 (Keep.of_wr W32).1
  have Kp_32 : Keep h0 h32 [r0, bb] := Kp_24.wr W32 (Or.inl (List.mem_of_getElem? (i := 0) rfl))
  have N32 := Fr.snoc X32 N26 g_r0
  have st33 : own_S p e below T32 (mkF m 27 #[.val (.ref r0), .val (.ref r1), .val (.int (2 : Int32))] [(.int (2 : Int32)), (.ref r1), (.int ((mm + (1 : Int32)) + (1 : Int32))), (.ref bb)]) (mkF m 25 #[.val (.ref r0), .val (.ref r1), .val (.int (2 : Int32))] [(.int ((mm + (1 : Int32)) + (1 : Int32))), (.ref bb)]) := by
    intro target kt
    refine XS.aloadN X32.here hx rfl (hb hby d6_25) rfl rfl ?_
    refine XS.iloadN X32.here hx rfl (hb hby d6_26) rfl ?_
    exact kt
  obtain ⟨cq34, kq34, qv34a, qv34b, qv34c⟩ := isOf hZ e32 Et_32
  obtain ⟨_, _, ⟨T34, L34, k34, n34⟩, -, X34, ⟨Lc34, hQ34, l34, y34, z34⟩, st34⟩ := X32.virtualBack hx (y := (⟨"java/lang/String", "charAt", "(I)C"⟩ : MethodName)) (z := (⟨"java/lang/String", "charAt", "(I)C"⟩ : MethodName)) hown (mvT hZ (own_w hw 74 rfl)) (mvT hZ (own_w hw 75 rfl)) (notFace_of_selects (args := #[]) (mvT hZ (own_w hw 77 rfl))) (mvT hZ (own_w hw 77 rfl)) (mvT hZ (own_w hw 76 rfl)) (by decide) (StrChars.Road.chN (W := 2) hZ hwordsChN (kI := 4) (own_w hw 6 rfl) (cs := ([x0, x1, x2] : List Int32)) (i := 2) Et_32 Fv_32 Fc_32 Vy_32 (StrChars.Road.codOf (n := 3) rfl (own_hp1 (own_allS ec0 (own_allS ec1 (own_allS ec2 own_all0))))) (own_hp2 (own_allS ec0 (own_allS ec1 (own_allS ec2 own_all0)))) (SB.1.ext Od_32.2) SB.2.1 (SB.2.2.1.ext Od_32.2) SB.2.2.2 (by simp) (by simp) rfl (by decide) (by decide)) qv34a qv34c (g := (mkF m 27 #[.val (.ref r0), .val (.ref r1), .val (.int (2 : Int32))] [(.int (2 : Int32)), (.ref r1), (.int ((mm + (1 : Int32)) + (1 : Int32))), (.ref bb)])) rfl (by rw [hml]; rfl) (Steps.refl _) (argsL := [(.int (2 : Int32))]) (rest := [(.int ((mm + (1 : Int32)) + (1 : Int32))), (.ref bb)]) (lenOf pd_13 rfl) rfl (by show 2 * 0 + _ ≤ _; exact Nat.le_of_eq rfl) (hb hby d6_27) (fun _ _ => ⟨rfl, e32, (by decide : 0 + 0 ≤ _), (by decide : 0 + 0 ≤ _)⟩)
  dsimp only [Pt.U, Pt.locs, Pt.cells, Pt.slots] at X34 l34 y34 z34 st34 hQ34
  subst l34 y34 z34
  obtain ⟨rfl, Lq34, e34⟩ := hQ34
  subst Lq34
  have Nq34 := Fr.nil n0
  have N34 := Fr.app N32 Nq34
  have st35 : own_S p e below T34 (mkF m 31 #[.val (.ref r0), .val (.ref r1), .val (.int (2 : Int32))] [(.int (x2.toInt8.toInt32)), (.int ((mm + (1 : Int32)) + (1 : Int32))), (.ref bb)]) (mkF m 30 #[.val (.ref r0), .val (.ref r1), .val (.int (2 : Int32))] [(.int x2), (.int ((mm + (1 : Int32)) + (1 : Int32))), (.ref bb)]) := by
    intro target kt
    refine XS.i2b X34.here hx rfl (hb hby d6_30) rfl ?_
    exact kt
  have hj2 : 0 ≤ (((mm + (1 : Int32)) + (1 : Int32))).toInt ∧ (((mm + (1 : Int32)) + (1 : Int32))).toInt ≤ 5 := own_up hj1 (by decide)
  obtain ⟨cl36, Ar36, qc36, Sz36, Mn36, Hs36, Gs36⟩ := id Hh_bb_32
  have hin36 : ¬ (((mm + (1 : Int32)) + (1 : Int32)) < 0 ∨ cl36.slots.size ≤ (((mm + (1 : Int32)) + (1 : Int32))).toNatClampNeg) := own_in6 Sz36 ⟨hj2.1, by have := hj2.2; omega⟩
  obtain ⟨T36, h36, X36, e36, W36, st36⟩ := stB X34 hx hZ e34 Ar36 (j := ((mm + (1 : Int32)) + (1 : Int32))) hin36 (g := (mkF m 31 #[.val (.ref r0), .val (.ref r1), .val (.int (2 : Int32))] [(.int (x2.toInt8.toInt32)), (.int ((mm + (1 : Int32)) + (1 : Int32))), (.ref bb)])) rfl rfl (hb hby d6_31)
  have Hh_bb_36 : Arh Z h36 bb kb .byte (6 : Int32) ((((mm + (1 : Int32)) + (1 : Int32)), (.int (nar .byte (x2.toInt8.toInt32)))) :: (((mm + (1 : Int32)), (.int x1)) :: ((mm, (.int x0)) :: hst))) [] (.int (0 : Int32)) := Arh.push Ar36 qc36 Sz36 Mn36 Hs36 Gs36 (fits_nar_byte _) W36 hin36
  have Od_36 := Od_32.wr W36 g_bb
  have Fb_36 := Fb_32.other W36 (Or.inl (Ne.symm n1))
  have Er_36 := Er_32.wr W36
  have Fv_36 := Fv_32.other W36 (Or.inl n4)
  have Fc_36 := Fc_32.other W36 (Or.inl n4)
  have Et_36 := Et_32.wr W36
  have Vy_36 := Vy_32.other W36 n5
  have F_length_r0_36 := F_length_r0_32.other W36 (Or.inl (Ne.symm n1))
  have Z_36 : n0 ≤ h36.size := Nat.le_trans Z_32 (Keep.of_wr W36).1
  have Kp_36 : Keep h0 h36 [r0, bb] := Kp_32.wr W36 (Or.inl (List.mem_of_getElem? (i := 1) rfl))
  have N36 := Fr.snoc X36 N34 g_bb
  rw [own_nb ec2] at Hh_bb_36
  have st37 : own_S p e below T36 (mkF m 4 #[.val (.ref r0), .val (.ref r1), .val (.int (3 : Int32))] [(.ref r1), (.int (3 : Int32))]) (mkF m 32 #[.val (.ref r0), .val (.ref r1), .val (.int (2 : Int32))] []) := by
    intro target kt
    refine XS.iinc X36.here hx rfl (hb hby d6_32) rfl (l' := #[.val (.ref r0), .val (.ref r1), .val (.int (3 : Int32))]) rfl ?_
    refine XS.goto X36.here hx rfl (pc0 := 35) (pc' := 2) rfl (hb hby d6_35) (by decide) (by decide) ?_
    refine XS.iloadN X36.here hx rfl (hb hby d6_2) rfl ?_
    refine XS.aloadN X36.here hx rfl (hb hby d6_3) rfl rfl ?_
    exact kt
  obtain ⟨cq38, kq38, qv38a, qv38b, qv38c⟩ := isOf hZ e36 Et_36
  obtain ⟨_, _, ⟨T38, L38, k38, n38⟩, -, X38, ⟨Lc38, hQ38, l38, y38, z38⟩, st38⟩ := X36.virtualBack hx (y := (⟨"java/lang/String", "length", "()I"⟩ : MethodName)) (z := (⟨"java/lang/String", "length", "()I"⟩ : MethodName)) hown (mvT hZ (own_w hw 40 rfl)) (mvT hZ (own_w hw 41 rfl)) (notFace_of_selects (args := #[]) (mvT hZ (own_w hw 43 rfl))) (mvT hZ (own_w hw 43 rfl)) (mvT hZ (own_w hw 42 rfl)) (by decide) (StrChars.Road.lenW (W := 1) hZ hwordsLen (kI := 4) (own_w hw 6 rfl) (cs := ([x0, x1, x2] : List Int32)) Et_36 Fv_36 Fc_36 Vy_36 (StrChars.Road.codOf (n := 3) rfl (own_hp1 (own_allS ec0 (own_allS ec1 (own_allS ec2 own_all0))))) (own_hp2 (own_allS ec0 (own_allS ec1 (own_allS ec2 own_all0)))) (SB.1.ext Od_36.2) SB.2.1 (by simp) (by decide) (by decide)) qv38a qv38c (g := (mkF m 4 #[.val (.ref r0), .val (.ref r1), .val (.int (3 : Int32))] [(.ref r1), (.int (3 : Int32))])) rfl (by rw [hml]; rfl) (Steps.refl _) (argsL := []) (rest := [(.int (3 : Int32))]) (lenOf pd_6 rfl) rfl (by show 2 * 0 + _ ≤ _; exact Nat.le_of_eq rfl) (hb hby d6_4) (fun _ _ => ⟨rfl, e36, (by decide : 0 + 0 ≤ _), (by decide : 0 + 0 ≤ _)⟩)
  dsimp only [Pt.U, Pt.locs, Pt.cells, Pt.slots] at X38 l38 y38 z38 st38 hQ38
  subst l38 y38 z38
  obtain ⟨rfl, Lq38, e38⟩ := hQ38
  subst Lq38
  have Nq38 := Fr.nil n0
  have N38 := Fr.app N36 Nq38
  obtain ⟨fs, hr, hrun, hended, hW, hsame⟩ := X38.leave (v := some (.ref r0)) (fun h => by rw [Bd.returns] at h; cases h)
  refine ⟨_, _, pre0 _ (st1 _ (st2.trans (st3 _ (st4 _ (st5 _ (st6 _ (st7 _ (st8 _ (st9 _ (st10.trans (st11 _ (st12 _ (st13 _ (st14.trans (st15 _ (st16 _ (st17 _ (st18 _ (st19 _ (st20 _ (st21 _ (st22.trans (st23 _ (st24 _ (st25 _ (st26.trans (st27 _ (st28 _ (st29 _ (st30 _ (st31 _ (st32 _ (st33 _ (st34.trans (st35 _ (st36 _ (st37 _ (st38.trans ?_)))))))))))))))))))))))))))))))))))))), hrun, hended, _, _, rfl, ?_, ⟨_, rfl⟩, hW, hsame.mono (by decide) (by decide)⟩
  · refine XS.icmpYes X38.here hx rfl (pc0 := 7) (pc' := 38) rfl (hb hby d6_7) rfl (flt (by decide : ¬ ((3 : Int32) < (3 : Int32)))).2.1 (by decide) (by decide) ?_
    refine XS.aloadN X38.here hx rfl (hb hby d6_38) rfl rfl ?_
    show Steps p.tables e below (T38.setTop (mkF m 39 #[.val (.ref r0), .val (.ref r1), .val (.int (3 : Int32))] [(.ref r0)])) _
    jvm_step X38.here [X38.here.top, hx, (hb hby d6_39), X38.method', Bd.returns, Value.isRef, FieldType.isReference]
    first | (intro acts; rw [hr _ acts rfl rfl rfl]) | rw [hr _ _ rfl rfl rfl]
    exact Steps.refl _
  · show Q_rmAp3 Z r0 r1 cs fm bb kb hst mm y ky x0 x1 x2 h0 n0 _ T38.heap _
    rw [e38]
    exact ⟨rfl, N38, Kp_36, Fb_36, F_length_r0_36, Hh_bb_36⟩
def Q_rmAp (Z : State) (r0 : Addr) (r1 : Addr) (cs : Int32) (fm : Value) (bb : Addr) (kb : ClassId) (hst : List (Int32 × Value)) (mm : Int32) (y : Addr) (ky : ClassId) (x0 : Int32) (x1 : Int32) (x2 : Int32) (cs_ : List Int32) (nn : Int32) (h0 : Heap) (n0 : Nat) (v : Option Value) (h : Heap) (L : List Loc) : Prop := v = some (.ref r0) ∧ Fr n0 L ∧ Keep h0 h [r0, bb] ∧ Fld Z h r0 "com/example/murray_hill/murrayhill/AsciiLine" "bytes" "[B" (.ref bb) ∧ Fld Z h r0 "com/example/murray_hill/murrayhill/AsciiLine" "length" "I" (.int (own_pl mm cs_)) ∧ Arh Z h bb kb .byte (6 : Int32) (own_hs mm cs_ hst) [] (.int (0 : Int32))
theorem rmAp (l : Launch) (Z : State) (a0 : Array Value) (hw : ∀ d ∈ tables_1, d.before a0 Z = true) (ws : List Jvm.Cond) (r0 : Addr) (r1 : Addr) (cs : Int32) (fm : Value) (bb : Addr) (kb : ClassId) (hst : List (Int32 × Value)) (mm : Int32) (y : Addr) (ky : ClassId) (x0 : Int32) (x1 : Int32) (x2 : Int32) (cs_ : List Int32) (nn : Int32) (h0 : Heap) (n0 : Nat) (Z0 : n0 ≤ h0.size) (SB : own_St Z cs fm) (Od : Old Z n0 h0) (Fb : Fld Z h0 r0 "com/example/murray_hill/murrayhill/AsciiLine" "bytes" "[B" (.ref bb)) (Fl : Fld Z h0 r0 "com/example/murray_hill/murrayhill/AsciiLine" "length" "I" (.int mm)) (Er : Exa Z h0 r0 "com/example/murray_hill/murrayhill/AsciiLine") (Hh : Arh Z h0 bb kb .byte (6 : Int32) hst [] (.int (0 : Int32))) (Fv : Fld Z h0 r1 "java/lang/String" "value" "[B" (.ref y)) (Fc : Fld Z h0 r1 "java/lang/String" "coder" "B" (.int (0 : Int32))) (Et : Exa Z h0 r1 "java/lang/String") (Vy : Arv Z h0 y ky .byte nn (own_bs cs_) (.int (0 : Int32))) (n1 : bb ≠ r0) (n2 : r1 ≠ r0) (n3 : y ≠ r0) (n4 : r1 ≠ bb) (n5 : y ≠ bb) (g_r0 : n0 ≤ r0) (g_bb : n0 ≤ bb) (ec0 : own_c7 x0) (ec1 : own_c7 x1) (ec2 : own_c7 x2) (hm : 0 ≤ mm.toInt ∧ mm.toInt ≤ 3) (hk : own_mk nn cs_ x0 x1 x2) :
    MetFree l (⟨"com/example/murray_hill/murrayhill/AsciiLine", "append", "(Ljava/lang/String;)Lcom/example/murray_hill/murrayhill/AsciiLine;"⟩ : MethodName) (head1 (Jvm.Cond.code (⟨"com/example/murray_hill/murrayhill/AsciiLine", "append", "(Ljava/lang/String;)Lcom/example/murray_hill/murrayhill/AsciiLine;"⟩ : MethodName) prog_2_method_3_code 3 (some (.object "com/example/murray_hill/murrayhill/AsciiLine")) :: ws) ({ frames := 4, cells := 0, slots := 0, locals := 55 } : Room)) (fun a U => a = #[(.ref r0), (.ref r1)] ∧ Z.Warmed39 U.vm ∧ U.heap = h0) (fun _ _ _ _ _ => True) (fun _ U o U' => ∃ v L, o = .returned v ∧ Q_rmAp Z r0 r1 cs fm bb kb hst mm y ky x0 x1 x2 cs_ nn h0 n0 v U'.heap L ∧ FrameEnd U o U' L ({ frames := 4, cells := 0, slots := 0, locals := 55 } : Room).cells ({ frames := 4, cells := 0, slots := 0, locals := 55 } : Room).slots) := by
  rcases hk with ⟨a, b⟩ | ⟨a, b⟩ | ⟨a, b⟩ | ⟨a, b⟩
  · subst a; subst b; exact rmAp0 l Z a0 hw ws r0 r1 cs fm bb kb hst mm y ky x0 x1 x2 h0 n0 Z0 SB Od Fb Fl Er Hh Fv Fc Et Vy n1 n2 n3 n4 n5 g_r0 g_bb ec0 ec1 ec2 hm
  · subst a; subst b; exact rmAp1 l Z a0 hw ws r0 r1 cs fm bb kb hst mm y ky x0 x1 x2 h0 n0 Z0 SB Od Fb Fl Er Hh Fv Fc Et Vy n1 n2 n3 n4 n5 g_r0 g_bb ec0 ec1 ec2 hm
  · subst a; subst b; exact rmAp2 l Z a0 hw ws r0 r1 cs fm bb kb hst mm y ky x0 x1 x2 h0 n0 Z0 SB Od Fb Fl Er Hh Fv Fc Et Vy n1 n2 n3 n4 n5 g_r0 g_bb ec0 ec1 ec2 hm
  · subst a; subst b; exact rmAp3 l Z a0 hw ws r0 r1 cs fm bb kb hst mm y ky x0 x1 x2 h0 n0 Z0 SB Od Fb Fl Er Hh Fv Fc Et Vy n1 n2 n3 n4 n5 g_r0 g_bb ec0 ec1 ec2 hm
theorem d9_0 : decode prog_2_method_8_code 0 = .ok (.aload_n 0, 1) := by decide +kernel
theorem d9_1 : decode prog_2_method_8_code 1 = .ok (.getfield 13, 3) := by decide +kernel
theorem d9_4 : decode prog_2_method_8_code 4 = .ok (.newarray .char, 2) := by decide +kernel
theorem d9_6 : decode prog_2_method_8_code 6 = .ok (.astore_n 1, 1) := by decide +kernel
theorem d9_7 : decode prog_2_method_8_code 7 = .ok (.iconst 0, 1) := by decide +kernel
theorem d9_8 : decode prog_2_method_8_code 8 = .ok (.istore_n 2, 1) := by decide +kernel
theorem d9_9 : decode prog_2_method_8_code 9 = .ok (.iload_n 2, 1) := by decide +kernel
theorem d9_10 : decode prog_2_method_8_code 10 = .ok (.aload_n 0, 1) := by decide +kernel
theorem d9_11 : decode prog_2_method_8_code 11 = .ok (.getfield 13, 3) := by decide +kernel
theorem d9_14 : decode prog_2_method_8_code 14 = .ok (.if_icmp .ge 19, 3) := by decide +kernel
theorem d9_17 : decode prog_2_method_8_code 17 = .ok (.aload_n 1, 1) := by decide +kernel
theorem d9_18 : decode prog_2_method_8_code 18 = .ok (.iload_n 2, 1) := by decide +kernel
theorem d9_19 : decode prog_2_method_8_code 19 = .ok (.aload_n 0, 1) := by decide +kernel
theorem d9_20 : decode prog_2_method_8_code 20 = .ok (.getfield 7, 3) := by decide +kernel
theorem d9_23 : decode prog_2_method_8_code 23 = .ok (.iload_n 2, 1) := by decide +kernel
theorem d9_24 : decode prog_2_method_8_code 24 = .ok (.baload, 1) := by decide +kernel
theorem d9_25 : decode prog_2_method_8_code 25 = .ok (.i2c, 1) := by decide +kernel
theorem d9_26 : decode prog_2_method_8_code 26 = .ok (.castore, 1) := by decide +kernel
theorem d9_27 : decode prog_2_method_8_code 27 = .ok (.iinc 2 1, 3) := by decide +kernel
theorem d9_30 : decode prog_2_method_8_code 30 = .ok (.goto (-21), 3) := by decide +kernel
theorem d9_33 : decode prog_2_method_8_code 33 = .ok (.new 18, 3) := by decide +kernel
theorem d9_36 : decode prog_2_method_8_code 36 = .ok (.dup, 1) := by decide +kernel
theorem d9_37 : decode prog_2_method_8_code 37 = .ok (.aload_n 1, 1) := by decide +kernel
theorem d9_38 : decode prog_2_method_8_code 38 = .ok (.invokespecial 38, 3) := by decide +kernel
theorem d9_41 : decode prog_2_method_8_code 41 = .ok (.areturn, 1) := by decide +kernel
theorem ef_rmTs0 (m : MethodId) (x0 : Addr) : entryFrame m #[(.ref x0)] 3 = mkF m 0 #[.val (.ref x0), .unset, .unset] [] := by first | (simp [entryFrame, mkF, argsToLocals, Value.category]; done) | rfl
def Q_rmTs0 (Z : State) (r0 : Addr) (cs : Int32) (fm : Value) (bb : Addr) (kb : ClassId) (hst : List (Int32 × Value)) (h0 : Heap) (n0 : Nat) (v : Option Value) (h : Heap) (L : List Loc) : Prop := ∃ t, v = some (.ref t) ∧ Fr n0 L ∧ Keep h0 h [] ∧ h0.size ≤ t ∧ Exa Z h t "java/lang/String" ∧ Fld Z h t "java/lang/String" "coder" "B" (.int (0 : Int32)) ∧ ∃ y ky, Fld Z h t "java/lang/String" "value" "[B" (.ref y) ∧ Arv Z h y ky .byte (0 : Int32) (own_bs ([] : List Int32)) (.int (0 : Int32))
set_option maxRecDepth 65536 in
set_option maxHeartbeats 40000000 in
theorem rmTs0 (l : Launch) (Z : State) (a0 : Array Value) (hw : ∀ d ∈ tables_1, d.before a0 Z = true) (ws : List Jvm.Cond) (r0 : Addr) (cs : Int32) (fm : Value) (bb : Addr) (kb : ClassId) (hst : List (Int32 × Value)) (h0 : Heap) (n0 : Nat) (Z0 : n0 ≤ h0.size) (SB : own_St Z cs fm) (Od : Old Z n0 h0) (Fb : Fld Z h0 r0 "com/example/murray_hill/murrayhill/AsciiLine" "bytes" "[B" (.ref bb)) (Fl : Fld Z h0 r0 "com/example/murray_hill/murrayhill/AsciiLine" "length" "I" (.int (0 : Int32))) (Er : Exa Z h0 r0 "com/example/murray_hill/murrayhill/AsciiLine") (Hh : Arh Z h0 bb kb .byte (6 : Int32) hst [] (.int (0 : Int32))) :
    MetFree l (⟨"com/example/murray_hill/murrayhill/AsciiLine", "toString", "()Ljava/lang/String;"⟩ : MethodName) (head1 (Jvm.Cond.code (⟨"com/example/murray_hill/murrayhill/AsciiLine", "toString", "()Ljava/lang/String;"⟩ : MethodName) prog_2_method_8_code 3 (some (.object "java/lang/String")) :: ws) ({ frames := 4, cells := 6, slots := 16, locals := 66 } : Room)) (fun a U => a = #[(.ref r0)] ∧ Z.Warmed39 U.vm ∧ U.heap = h0 ∧ CHv Z own_EL U.vm h0) (fun _ _ _ _ _ => True) (fun _ U o U' => ∃ v L, o = .returned v ∧ Q_rmTs0 Z r0 cs fm bb kb hst h0 n0 v U'.heap L ∧ CHr Z own_EL U.vm U.heap U'.vm U'.heap ∧ ReturnedEndW U o U' L ({ frames := 4, cells := 6, slots := 16, locals := 66 } : Room).cells ({ frames := 4, cells := 6, slots := 16, locals := 66 } : Room).slots) := by
  refine MetFree.of_bodySF (plainFor_of_name pn_2) hisR ?_
  intro p e s m args below meth c s₁ Bd hml0 hP hK
  obtain ⟨rfl, hZ, hh, hCH⟩ := hP
  have hx := Bd.exec
  have hby := Bd.bytes
  have hml : c.maxLocals = 3 := hml0
  have hown : s.vm.findClass "com/example/murray_hill/murrayhill/AsciiLine" = some m.cls := findClass_of_methodNamed Bd.named
  have hnm := (name_of_methodNamed Bd.named Bd.method).1
  have X0 : Stand p l e ({ frames := 4, cells := 6, slots := 16, locals := 66 } : Room) s m #[(.ref r0)] below meth c s₁ [] 0 0 := Stand.of_body Bd
  have e0 : s₁.heap = h0 := by rw [← hh, Bd.state]; rfl
  have N0 := Fr.nil n0
  have pre0 : ∀ t, Steps p.tables e below (s₁.setTop (mkF m 0 #[.val (.ref r0), .unset, .unset] [])) t → Steps p.tables e below (s₁.setTop (entryFrame m #[(.ref r0)] 3)) t := fun t k => castTop (ef_rmTs0 m r0) k
  have CA := CHr.refl hCH
  have hEL := own_hEL hw
  have wS : ∀ a ∈ Bundle.stringAtoms, a.before a0 Z = true := fun d hd => hw d ((by decide +kernel : ∀ d ∈ Bundle.stringAtoms, d ∈ tables_1) d hd)
  have Kp : Keep h0 h0 [] := Keep.refl _ _
  have st1 : own_S p e below s₁ (mkF m 1 #[.val (.ref r0), .unset, .unset] [(.ref r0)]) (mkF m 0 #[.val (.ref r0), .unset, .unset] []) := by
    intro target kt
    refine XS.aloadN X0.here hx rfl (hb hby d9_0) rfl rfl ?_
    exact kt
  obtain ⟨T2, X2, e2, st2⟩ := getF X0 hx hZ hown (host := "") (Or.inl (own_w hw 56 rfl)) Via.refl e0 Fl (g := (mkF m 1 #[.val (.ref r0), .unset, .unset] [(.ref r0)])) rfl rfl (hb hby d9_1)
  obtain ⟨T3, h3, k3, X3, e3, E3, A3, st3⟩ := newP X2 hx hZ (own_w hw 0 rfl) e2 (g := (mkF m 4 #[.val (.ref r0), .unset, .unset] [(.int (0 : Int32))])) rfl (hb hby d9_4) rfl (by decide) (cap := 0) (by decide) (by decide) (by decide) (by decide)
  obtain ⟨q, g3⟩ : ∃ z, z = h0.size := ⟨_, rfl⟩
  rw [← g3] at A3 st3
  have g_q : n0 ≤ q := Nat.le_trans Z0 (Nat.le_of_eq g3.symm)
  have sz_q : h0.size ≤ q := Nat.le_trans Kp.1 (Nat.le_of_eq g3.symm)
  have Sf_q : Safe Z own_EL s.vm h0 q := Safe.new (Nat.le_of_eq g3.symm)
  have ne_r0_q : r0 ≠ q := Nat.ne_of_lt (Nat.lt_of_lt_of_le Fb.lt (Nat.le_of_eq g3.symm))
  have ne_bb_q : bb ≠ q := Nat.ne_of_lt (Nat.lt_of_lt_of_le Hh.lt (Nat.le_of_eq g3.symm))
  have Od_3 := Od.ext E3
  have Fb_3 := Fb.ext E3
  have Fl_3 := Fl.ext E3
  have Er_3 := Er.ext E3
  have Hh_3 := Hh.ext E3
  have Sf_q_3 := Safe.ext E3 CA.1 Sf_q
  have CA_3 := CA.trans (CHr.ext E3 CA.1)
  have Z_3 : n0 ≤ h3.size := Nat.le_trans Z0 E3.1
  have Kp_3 : Keep h0 h3 [] := Kp.ext E3
  have V_q : Arv Z h3 q k3 .char (0 : Int32) [] (.int (0 : Int32)) := Arv.new A3 (by decide)
  have st4 : own_S p e below T3 (mkF m 11 #[.val (.ref r0), .val (.ref q), .val (.int (0 : Int32))] [(.ref r0), (.int (0 : Int32))]) (mkF m 6 #[.val (.ref r0), .unset, .unset] [(.ref q)]) := by
    intro target kt
    refine XS.astoreN X3.here hx rfl (hb hby d9_6) rfl rfl (l' := #[.val (.ref r0), .val (.ref q), .unset]) rfl ?_
    refine XS.iconst X3.here hx rfl (hb hby d9_7) ?_
    refine XS.istoreN X3.here hx rfl (hb hby d9_8) rfl (l' := #[.val (.ref r0), .val (.ref q), .val (.int (0 : Int32))]) rfl ?_
    refine XS.iloadN X3.here hx rfl (hb hby d9_9) rfl ?_
    refine XS.aloadN X3.here hx rfl (hb hby d9_10) rfl rfl ?_
    exact kt
  obtain ⟨T5, X5, e5, st5⟩ := getF X3 hx hZ hown (host := "") (Or.inl (own_w hw 56 rfl)) Via.refl e3 Fl_3 (g := (mkF m 11 #[.val (.ref r0), .val (.ref q), .val (.int (0 : Int32))] [(.ref r0), (.int (0 : Int32))])) rfl rfl (hb hby d9_11)
  have st6 : own_S p e below T5 (mkF m 33 #[.val (.ref r0), .val (.ref q), .val (.int (0 : Int32))] []) (mkF m 14 #[.val (.ref r0), .val (.ref q), .val (.int (0 : Int32))] [(.int (0 : Int32)), (.int (0 : Int32))]) := by
    intro target kt
    refine XS.icmpYes X5.here hx rfl (pc0 := 14) (pc' := 33) rfl (hb hby d9_14) rfl (flt (by decide : ¬ ((0 : Int32) < (0 : Int32)))).2.1 (by decide) (by decide) ?_
    exact kt
  obtain ⟨T7, h7, X7, e7, E7, A7, D7, -, st7⟩ := newO X5 hx hZ hown (own_w hw 58 rfl) (own_w hw 6 rfl) (own_w hw 7 rfl) e5 (g := (mkF m 33 #[.val (.ref r0), .val (.ref q), .val (.int (0 : Int32))] [])) rfl (hb hby d9_33) (by decide) (by decide)
  obtain ⟨t, g7⟩ : ∃ z, z = h3.size := ⟨_, rfl⟩
  rw [← g7] at A7 D7 st7
  have g_t : n0 ≤ t := Nat.le_trans Z_3 (Nat.le_of_eq g7.symm)
  have sz_t : h0.size ≤ t := Nat.le_trans Kp_3.1 (Nat.le_of_eq g7.symm)
  have Sf_t : Safe Z own_EL s.vm h3 t := Safe.new (Nat.le_of_eq g7.symm)
  have ne_r0_t : r0 ≠ t := Nat.ne_of_lt (Nat.lt_of_lt_of_le Fb_3.lt (Nat.le_of_eq g7.symm))
  have ne_bb_t : bb ≠ t := Nat.ne_of_lt (Nat.lt_of_lt_of_le Hh_3.lt (Nat.le_of_eq g7.symm))
  have ne_q_t : q ≠ t := Nat.ne_of_lt (Nat.lt_of_lt_of_le V_q.lt (Nat.le_of_eq g7.symm))
  have Od_7 := Od_3.ext E7
  have Fb_7 := Fb_3.ext E7
  have Fl_7 := Fl_3.ext E7
  have Er_7 := Er_3.ext E7
  have Hh_7 := Hh_3.ext E7
  have Sf_q_7 := Safe.ext E7 CA_3.1 Sf_q_3
  have V_q_7 := V_q.ext E7
  have Sf_t_7 := Safe.ext E7 CA_3.1 Sf_t
  have CA_7 := CA_3.trans (CHr.ext E7 CA_3.1)
  have Z_7 : n0 ≤ h7.size := Nat.le_trans Z_3 E7.1
  have Kp_7 : Keep h0 h7 [] := Kp_3.ext E7
  have E_t : Exa Z h7 t "java/lang/String" := A7
  have F_value_t : Fld Z h7 t "java/lang/String" "value" "[B" .null := D7 (Or.inr (own_w hw 20 rfl)) (ty := (.array .byte)) (by decide)
  have F_coder_t : Fld Z h7 t "java/lang/String" "coder" "B" (.int (0 : Int32)) := D7 (Or.inr (own_w hw 21 rfl)) (ty := .byte) (by decide)
  have st8 : own_S p e below T7 (mkF m 38 #[.val (.ref r0), .val (.ref q), .val (.int (0 : Int32))] [(.ref q), (.ref t), (.ref t)]) (mkF m 36 #[.val (.ref r0), .val (.ref q), .val (.int (0 : Int32))] [(.ref t)]) := by
    intro target kt
    refine XS.dup X7.here hx rfl (hb hby d9_36) rfl rfl ?_
    refine XS.aloadN X7.here hx rfl (hb hby d9_37) rfl rfl ?_
    exact kt
  obtain ⟨_, _, ⟨T9, L9, k9, n9⟩, -, X9, hSi9, hge9, ⟨Lc9, hQ9, l9, y9, z9, CHn9⟩, st9⟩ := X7.specialBackS hx (y := (⟨"java/lang/String", "<init>", "([C)V"⟩ : MethodName)) rfl hown (mvT hZ (own_w hw 59 rfl)) (mvT hZ (own_w hw 9 rfl)) (mvT hZ (own_w hw 10 rfl)) (by decide) (backOfSH (vm0 := s.vm) (s := s) (W := 1) (rmI1z l Z a0 hw [] t q cs fm k3 h7 n0 Z_7 SB Od_7 F_value_t F_coder_t E_t g_t V_q_7) hZ (own_w hw 10 rfl) (own_w hw 7 rfl) (by decide) (by decide) hEL CA_7.1) (g := (mkF m 38 #[.val (.ref r0), .val (.ref q), .val (.int (0 : Int32))] [(.ref q), (.ref t), (.ref t)])) rfl (by rw [hml]; rfl) (Steps.refl _) (a := t) (argsL := [(.ref q)]) (rest := [(.ref t)]) (lenOf pd_1 rfl) rfl (by show 2 * 0 + _ ≤ _; exact Nat.le_of_eq rfl) (hb hby d9_38) (fun _ _ => ⟨rfl, e7, (by decide : 2 + 4 ≤ _), (by decide : 4 + 8 ≤ _)⟩)
  dsimp only [Pt.U, Pt.locs, Pt.cells, Pt.slots] at X9 l9 y9 z9 st9 hQ9 hSi9 hge9 CHn9
  subst l9 y9 z9
  have hS := foldS (s := s) (vm0 := s.vm) ((State.WarmedH.refl s).since 0) (Nat.zero_le _) hSi9 hge9
  have hZ : Z.Warmed39 (s.setVm T9.vm).vm := State.Warmed39.trans (t := s.setVm s.vm) hZ hSi9.1
  have hown : (s.setVm T9.vm).vm.findClass "com/example/murray_hill/murrayhill/AsciiLine" = some m.cls := by rw [show (s.setVm T9.vm).vm = T9.vm from rfl, hSi9.1.alike.findClass]; exact hown
  have X9 : Stand p l e ({ frames := 4, cells := 6, slots := 16, locals := 66 } : Room) (s.setVm T9.vm) m #[(.ref r0)] below meth c T9 _ _ _ := X9
  obtain ⟨rfl, Nq9, K9, Et, yy, ky, Fvt, Ct, Vy⟩ := hQ9
  have N9 := Fr.app N0 Nq9
  have Od_9 := Od_7.keep K9 (allS g_t (all0))
  have Fb_9 := Fb_7.keep K9 (ninS ne_r0_t nin0)
  have Fl_9 := Fl_7.keep K9 (ninS ne_r0_t nin0)
  have Er_9 := Er_7.keep K9
  have Hh_9 := Hh_7.keep K9 (ninS ne_bb_t nin0)
  have Sf_q_9 := CHr.safe CHn9 V_q_7.lt Sf_q_7
  have V_q_9 := V_q_7.keep K9 (ninS ne_q_t nin0)
  have Sf_t_9 := CHr.safe CHn9 E_t.lt Sf_t_7
  have E_t_9 := E_t.keep K9
  have CA_9 := CA_7.trans CHn9
  have Z_9 : n0 ≤ T9.heap.size := Nat.le_trans Z_7 K9.1
  have Kp_9 : Keep h0 T9.heap [] := Kp_7.trans K9 (allS (Or.inr sz_t) (all0))
  have kz_9 : T9.heap.size ≤ T9.heap.size := Nat.le_refl _
  obtain ⟨fs, hr, hrun, hended, hRW⟩ := Jvm.Stand.leaveW (s := s) X9 hS kz_9 (v := some (.ref t)) (fun h => by rw [Bd.returns] at h; cases h)
  have CE : CHr Z own_EL s.vm s.heap T9.vm T9.heap := by
    rw [hh]
    exact CA_9.trans (CHv.at (vm0 := T9.vm) (s := s) X9 hZ hEL CA_9.1)
  refine ⟨_, _, pre0 _ (st1 _ (st2 _ (st3 _ (st4 _ (st5 _ (st6 _ (st7 _ (st8 _ (st9.trans ?_))))))))), hrun, hended, _, _, rfl, ?_, CE, hRW.1, hRW.2.1, hRW.2.2.1, hRW.2.2.2.mono (by decide) (by decide)⟩
  · show Steps p.tables e below (T9.setTop (mkF m 41 #[.val (.ref r0), .val (.ref q), .val (.int (0 : Int32))] [(.ref t)])) _
    jvm_step X9.here [X9.here.top, hx, (hb hby d9_41), X9.method', Bd.returns, Value.isRef, FieldType.isReference]
    first | (intro acts; rw [hr _ acts rfl rfl rfl]) | rw [hr _ _ rfl rfl rfl]
    exact Steps.refl _
  · show Q_rmTs0 Z r0 cs fm bb kb hst h0 n0 _ T9.heap _
    exact ⟨t, rfl, N9, Kp_9, sz_t, Et, Ct, yy, ky, Fvt, Vy⟩
theorem ef_rmTs1 (m : MethodId) (x0 : Addr) : entryFrame m #[(.ref x0)] 3 = mkF m 0 #[.val (.ref x0), .unset, .unset] [] := by first | (simp [entryFrame, mkF, argsToLocals, Value.category]; done) | rfl
def Q_rmTs1 (Z : State) (r0 : Addr) (cs : Int32) (fm : Value) (bb : Addr) (kb : ClassId) (hst : List (Int32 × Value)) (w0 : Int32) (h0 : Heap) (n0 : Nat) (v : Option Value) (h : Heap) (L : List Loc) : Prop := ∃ t, v = some (.ref t) ∧ Fr n0 L ∧ Keep h0 h [] ∧ h0.size ≤ t ∧ Exa Z h t "java/lang/String" ∧ Fld Z h t "java/lang/String" "coder" "B" (.int (0 : Int32)) ∧ ∃ y ky, Fld Z h t "java/lang/String" "value" "[B" (.ref y) ∧ Arv Z h y ky .byte (1 : Int32) (own_bs ([w0] : List Int32)) (.int (0 : Int32))
set_option maxRecDepth 65536 in
set_option maxHeartbeats 40000000 in
theorem rmTs1 (l : Launch) (Z : State) (a0 : Array Value) (hw : ∀ d ∈ tables_1, d.before a0 Z = true) (ws : List Jvm.Cond) (r0 : Addr) (cs : Int32) (fm : Value) (bb : Addr) (kb : ClassId) (hst : List (Int32 × Value)) (w0 : Int32) (h0 : Heap) (n0 : Nat) (Z0 : n0 ≤ h0.size) (SB : own_St Z cs fm) (Od : Old Z n0 h0) (Fb : Fld Z h0 r0 "com/example/murray_hill/murrayhill/AsciiLine" "bytes" "[B" (.ref bb)) (Fl : Fld Z h0 r0 "com/example/murray_hill/murrayhill/AsciiLine" "length" "I" (.int (1 : Int32))) (Er : Exa Z h0 r0 "com/example/murray_hill/murrayhill/AsciiLine") (Hh : Arh Z h0 bb kb .byte (6 : Int32) hst [] (.int (0 : Int32))) (ew0 : own_c7 w0) (u0 : getH hst [] (.int (0 : Int32)) ((0 : Int32)).toNatClampNeg = (.int w0)) :
    MetFree l (⟨"com/example/murray_hill/murrayhill/AsciiLine", "toString", "()Ljava/lang/String;"⟩ : MethodName) (head1 (Jvm.Cond.code (⟨"com/example/murray_hill/murrayhill/AsciiLine", "toString", "()Ljava/lang/String;"⟩ : MethodName) prog_2_method_8_code 3 (some (.object "java/lang/String")) :: ws) ({ frames := 4, cells := 6, slots := 16, locals := 66 } : Room)) (fun a U => a = #[(.ref r0)] ∧ Z.Warmed39 U.vm ∧ U.heap = h0 ∧ CHv Z own_EL U.vm h0) (fun _ _ _ _ _ => True) (fun _ U o U' => ∃ v L, o = .returned v ∧ Q_rmTs1 Z r0 cs fm bb kb hst w0 h0 n0 v U'.heap L ∧ CHr Z own_EL U.vm U.heap U'.vm U'.heap ∧ ReturnedEndW U o U' L ({ frames := 4, cells := 6, slots := 16, locals := 66 } : Room).cells ({ frames := 4, cells := 6, slots := 16, locals := 66 } : Room).slots) := by
  refine MetFree.of_bodySF (plainFor_of_name pn_2) hisR ?_
  intro p e s m args below meth c s₁ Bd hml0 hP hK
  obtain ⟨rfl, hZ, hh, hCH⟩ := hP
  have hx := Bd.exec
  have hby := Bd.bytes
  have hml : c.maxLocals = 3 := hml0
  have hown : s.vm.findClass "com/example/murray_hill/murrayhill/AsciiLine" = some m.cls := findClass_of_methodNamed Bd.named
  have hnm := (name_of_methodNamed Bd.named Bd.method).1
  have X0 : Stand p l e ({ frames := 4, cells := 6, slots := 16, locals := 66 } : Room) s m #[(.ref r0)] below meth c s₁ [] 0 0 := Stand.of_body Bd
  have e0 : s₁.heap = h0 := by rw [← hh, Bd.state]; rfl
  have N0 := Fr.nil n0
  have pre0 : ∀ t, Steps p.tables e below (s₁.setTop (mkF m 0 #[.val (.ref r0), .unset, .unset] [])) t → Steps p.tables e below (s₁.setTop (entryFrame m #[(.ref r0)] 3)) t := fun t k => castTop (ef_rmTs1 m r0) k
  have CA := CHr.refl hCH
  have hEL := own_hEL hw
  have wS : ∀ a ∈ Bundle.stringAtoms, a.before a0 Z = true := fun d hd => hw d ((by decide +kernel : ∀ d ∈ Bundle.stringAtoms, d ∈ tables_1) d hd)
  have Kp : Keep h0 h0 [] := Keep.refl _ _
  have st1 : own_S p e below s₁ (mkF m 1 #[.val (.ref r0), .unset, .unset] [(.ref r0)]) (mkF m 0 #[.val (.ref r0), .unset, .unset] []) := by
    intro target kt
    refine XS.aloadN X0.here hx rfl (hb hby d9_0) rfl rfl ?_
    exact kt
  obtain ⟨T2, X2, e2, st2⟩ := getF X0 hx hZ hown (host := "") (Or.inl (own_w hw 56 rfl)) Via.refl e0 Fl (g := (mkF m 1 #[.val (.ref r0), .unset, .unset] [(.ref r0)])) rfl rfl (hb hby d9_1)
  obtain ⟨T3, h3, k3, X3, e3, E3, A3, st3⟩ := newP X2 hx hZ (own_w hw 0 rfl) e2 (g := (mkF m 4 #[.val (.ref r0), .unset, .unset] [(.int (1 : Int32))])) rfl (hb hby d9_4) rfl (by decide) (cap := 1) (by decide) (by decide) (by decide) (by decide)
  obtain ⟨q, g3⟩ : ∃ z, z = h0.size := ⟨_, rfl⟩
  rw [← g3] at A3 st3
  have g_q : n0 ≤ q := Nat.le_trans Z0 (Nat.le_of_eq g3.symm)
  have sz_q : h0.size ≤ q := Nat.le_trans Kp.1 (Nat.le_of_eq g3.symm)
  have Sf_q : Safe Z own_EL s.vm h0 q := Safe.new (Nat.le_of_eq g3.symm)
  have ne_r0_q : r0 ≠ q := Nat.ne_of_lt (Nat.lt_of_lt_of_le Fb.lt (Nat.le_of_eq g3.symm))
  have ne_bb_q : bb ≠ q := Nat.ne_of_lt (Nat.lt_of_lt_of_le Hh.lt (Nat.le_of_eq g3.symm))
  have Od_3 := Od.ext E3
  have Fb_3 := Fb.ext E3
  have Fl_3 := Fl.ext E3
  have Er_3 := Er.ext E3
  have Hh_3 := Hh.ext E3
  have Sf_q_3 := Safe.ext E3 CA.1 Sf_q
  have CA_3 := CA.trans (CHr.ext E3 CA.1)
  have Z_3 : n0 ≤ h3.size := Nat.le_trans Z0 E3.1
  have Kp_3 : Keep h0 h3 [] := Kp.ext E3
  have V_q : Arv Z h3 q k3 .char (1 : Int32) [(.int (0 : Int32))] (.int (0 : Int32)) := (Arv.new A3 (by decide)).pad (pad_rep [] (.int (0 : Int32)) 1)
  have st4 : own_S p e below T3 (mkF m 11 #[.val (.ref r0), .val (.ref q), .val (.int (0 : Int32))] [(.ref r0), (.int (0 : Int32))]) (mkF m 6 #[.val (.ref r0), .unset, .unset] [(.ref q)]) := by
    intro target kt
    refine XS.astoreN X3.here hx rfl (hb hby d9_6) rfl rfl (l' := #[.val (.ref r0), .val (.ref q), .unset]) rfl ?_
    refine XS.iconst X3.here hx rfl (hb hby d9_7) ?_
    refine XS.istoreN X3.here hx rfl (hb hby d9_8) rfl (l' := #[.val (.ref r0), .val (.ref q), .val (.int (0 : Int32))]) rfl ?_
    refine XS.iloadN X3.here hx rfl (hb hby d9_9) rfl ?_
    refine XS.aloadN X3.here hx rfl (hb hby d9_10) rfl rfl ?_
    exact kt
  obtain ⟨T5, X5, e5, st5⟩ := getF X3 hx hZ hown (host := "") (Or.inl (own_w hw 56 rfl)) Via.refl e3 Fl_3 (g := (mkF m 11 #[.val (.ref r0), .val (.ref q), .val (.int (0 : Int32))] [(.ref r0), (.int (0 : Int32))])) rfl rfl (hb hby d9_11)
  have st6 : own_S p e below T5 (mkF m 20 #[.val (.ref r0), .val (.ref q), .val (.int (0 : Int32))] [(.ref r0), (.int (0 : Int32)), (.ref q)]) (mkF m 14 #[.val (.ref r0), .val (.ref q), .val (.int (0 : Int32))] [(.int (1 : Int32)), (.int (0 : Int32))]) := by
    intro target kt
    refine XS.icmpNo X5.here hx rfl (hb hby d9_14) rfl (tlt (by decide : ((0 : Int32) < (1 : Int32)))).2.1 ?_
    refine XS.aloadN X5.here hx rfl (hb hby d9_17) rfl rfl ?_
    refine XS.iloadN X5.here hx rfl (hb hby d9_18) rfl ?_
    refine XS.aloadN X5.here hx rfl (hb hby d9_19) rfl rfl ?_
    exact kt
  obtain ⟨T7, X7, e7, st7⟩ := getF X5 hx hZ hown (host := "") (Or.inl (own_w hw 33 rfl)) Via.refl e5 Fb_3 (g := (mkF m 20 #[.val (.ref r0), .val (.ref q), .val (.int (0 : Int32))] [(.ref r0), (.int (0 : Int32)), (.ref q)])) rfl rfl (hb hby d9_20)
  have st8 : own_S p e below T7 (mkF m 24 #[.val (.ref r0), .val (.ref q), .val (.int (0 : Int32))] [(.int (0 : Int32)), (.ref bb), (.int (0 : Int32)), (.ref q)]) (mkF m 23 #[.val (.ref r0), .val (.ref q), .val (.int (0 : Int32))] [(.ref bb), (.int (0 : Int32)), (.ref q)]) := by
    intro target kt
    refine XS.iloadN X7.here hx rfl (hb hby d9_23) rfl ?_
    exact kt
  obtain ⟨cl9, Ar9, qc9, Sz9, Mn9, Hs9, Gs9⟩ := id Hh_3
  have hin9 : ¬ ((0 : Int32) < 0 ∨ cl9.slots.size ≤ ((0 : Int32)).toNatClampNeg) := own_in6 Sz9 ⟨by decide, by decide⟩
  have hat9 : cl9.slots[((0 : Int32)).toNatClampNeg]? = some (.int w0) := atH Hs9 hin9 u0
  have st10 : own_S p e below T7 (mkF m 25 #[.val (.ref r0), .val (.ref q), .val (.int (0 : Int32))] [(.int w0), (.int (0 : Int32)), (.ref q)]) (mkF m 24 #[.val (.ref r0), .val (.ref q), .val (.int (0 : Int32))] [(.int (0 : Int32)), (.ref bb), (.int (0 : Int32)), (.ref q)]) := fun target kt => X7.baloadBytes hx (j := (0 : Int32)) (v := (.int w0)) (by rw [e7]; exact Ar9.1) (State.isArrayOf_alike hZ.alike Ar9.2.1) Ar9.2.2 hin9 hat9 (g := (mkF m 24 #[.val (.ref r0), .val (.ref q), .val (.int (0 : Int32))] [(.int (0 : Int32)), (.ref bb), (.int (0 : Int32)), (.ref q)])) rfl rfl (hb hby d9_24) _ kt
  have st11 : own_S p e below T7 (mkF m 26 #[.val (.ref r0), .val (.ref q), .val (.int (0 : Int32))] [(.int (w0.toUInt32.toUInt16.toUInt32.toInt32)), (.int (0 : Int32)), (.ref q)]) (mkF m 25 #[.val (.ref r0), .val (.ref q), .val (.int (0 : Int32))] [(.int w0), (.int (0 : Int32)), (.ref q)]) := by
    intro target kt
    refine XS.i2c X7.here hx rfl (hb hby d9_25) rfl ?_
    exact kt
  obtain ⟨cl12, Ar12, qc12, Sz12, Mn12, Hs12, Gs12⟩ := id V_q
  have hin12 : ¬ ((0 : Int32) < 0 ∨ cl12.slots.size ≤ ((0 : Int32)).toNatClampNeg) := inb_of Sz12 ⟨by decide, by decide⟩
  obtain ⟨T12, h12, X12, e12, W12, st12⟩ := stC X7 hx hZ e7 Ar12 (j := (0 : Int32)) hin12 (g := (mkF m 26 #[.val (.ref r0), .val (.ref q), .val (.int (0 : Int32))] [(.int (w0.toUInt32.toUInt16.toUInt32.toInt32)), (.int (0 : Int32)), (.ref q)])) rfl rfl (hb hby d9_26)
  have V_q_12 : Arv Z h12 q k3 .char (1 : Int32) [(.int (nar .char (w0.toUInt32.toUInt16.toUInt32.toInt32)))] (.int (0 : Int32)) := Arv.set Ar12 qc12 Sz12 Mn12 Hs12 Gs12 (fits_nar_char _) W12 0 rfl (Nat.le_of_ble_eq_true rfl)
  have Od_12 := Od_3.wr W12 g_q
  have Fb_12 := Fb_3.other W12 (Or.inl ne_r0_q)
  have Fl_12 := Fl_3.other W12 (Or.inl ne_r0_q)
  have Er_12 := Er_3.wr W12
  have Hh_12 := Hh_3.other W12 ne_bb_q
  have Sf_q_12 := Safe.wr W12 Sf_q_3 CA_3.1 Sf_q_3
  have CA_12 := CA_3.trans (CHr.wr W12 Sf_q_3 CA_3.1)
  have Z_12 : n0 ≤ h12.size := Nat.le_trans Z_3 (Keep.of_wr W12).1
  have Kp_12 : Keep h0 h12 [] := Kp_3.wr W12 (Or.inr sz_q)
  have N12 := Fr.snoc X12 N0 g_q
  rw [own_nc2 ew0] at V_q_12
  have st13 : own_S p e below T12 (mkF m 11 #[.val (.ref r0), .val (.ref q), .val (.int (1 : Int32))] [(.ref r0), (.int (1 : Int32))]) (mkF m 27 #[.val (.ref r0), .val (.ref q), .val (.int (0 : Int32))] []) := by
    intro target kt
    refine XS.iinc X12.here hx rfl (hb hby d9_27) rfl (l' := #[.val (.ref r0), .val (.ref q), .val (.int (1 : Int32))]) rfl ?_
    refine XS.goto X12.here hx rfl (pc0 := 30) (pc' := 9) rfl (hb hby d9_30) (by decide) (by decide) ?_
    refine XS.iloadN X12.here hx rfl (hb hby d9_9) rfl ?_
    refine XS.aloadN X12.here hx rfl (hb hby d9_10) rfl rfl ?_
    exact kt
  obtain ⟨T14, X14, e14, st14⟩ := getF X12 hx hZ hown (host := "") (Or.inl (own_w hw 56 rfl)) Via.refl e12 Fl_12 (g := (mkF m 11 #[.val (.ref r0), .val (.ref q), .val (.int (1 : Int32))] [(.ref r0), (.int (1 : Int32))])) rfl rfl (hb hby d9_11)
  have st15 : own_S p e below T14 (mkF m 33 #[.val (.ref r0), .val (.ref q), .val (.int (1 : Int32))] []) (mkF m 14 #[.val (.ref r0), .val (.ref q), .val (.int (1 : Int32))] [(.int (1 : Int32)), (.int (1 : Int32))]) := by
    intro target kt
    refine XS.icmpYes X14.here hx rfl (pc0 := 14) (pc' := 33) rfl (hb hby d9_14) rfl (flt (by decide : ¬ ((1 : Int32) < (1 : Int32)))).2.1 (by decide) (by decide) ?_
    exact kt
  obtain ⟨T16, h16, X16, e16, E16, A16, D16, -, st16⟩ := newO X14 hx hZ hown (own_w hw 58 rfl) (own_w hw 6 rfl) (own_w hw 7 rfl) e14 (g := (mkF m 33 #[.val (.ref r0), .val (.ref q), .val (.int (1 : Int32))] [])) rfl (hb hby d9_33) (by decide) (by decide)
  obtain ⟨t, g16⟩ : ∃ z, z = h12.size := ⟨_, rfl⟩
  rw [← g16] at A16 D16 st16
  have g_t : n0 ≤ t := Nat.le_trans Z_12 (Nat.le_of_eq g16.symm)
  have sz_t : h0.size ≤ t := Nat.le_trans Kp_12.1 (Nat.le_of_eq g16.symm)
  have Sf_t : Safe Z own_EL s.vm h12 t := Safe.new (Nat.le_of_eq g16.symm)
  have ne_r0_t : r0 ≠ t := Nat.ne_of_lt (Nat.lt_of_lt_of_le Fb_12.lt (Nat.le_of_eq g16.symm))
  have ne_bb_t : bb ≠ t := Nat.ne_of_lt (Nat.lt_of_lt_of_le Hh_12.lt (Nat.le_of_eq g16.symm))
  have ne_q_t : q ≠ t := Nat.ne_of_lt (Nat.lt_of_lt_of_le V_q_12.lt (Nat.le_of_eq g16.symm))
  have Od_16 := Od_12.ext E16
  have Fb_16 := Fb_12.ext E16
  have Fl_16 := Fl_12.ext E16
  have Er_16 := Er_12.ext E16
  have Hh_16 := Hh_12.ext E16
  have Sf_q_16 := Safe.ext E16 CA_12.1 Sf_q_12
  have V_q_16 := V_q_12.ext E16
  have Sf_t_16 := Safe.ext E16 CA_12.1 Sf_t
  have CA_16 := CA_12.trans (CHr.ext E16 CA_12.1)
  have Z_16 : n0 ≤ h16.size := Nat.le_trans Z_12 E16.1
  have Kp_16 : Keep h0 h16 [] := Kp_12.ext E16
  have E_t : Exa Z h16 t "java/lang/String" := A16
  have F_value_t : Fld Z h16 t "java/lang/String" "value" "[B" .null := D16 (Or.inr (own_w hw 20 rfl)) (ty := (.array .byte)) (by decide)
  have F_coder_t : Fld Z h16 t "java/lang/String" "coder" "B" (.int (0 : Int32)) := D16 (Or.inr (own_w hw 21 rfl)) (ty := .byte) (by decide)
  have st17 : own_S p e below T16 (mkF m 38 #[.val (.ref r0), .val (.ref q), .val (.int (1 : Int32))] [(.ref q), (.ref t), (.ref t)]) (mkF m 36 #[.val (.ref r0), .val (.ref q), .val (.int (1 : Int32))] [(.ref t)]) := by
    intro target kt
    refine XS.dup X16.here hx rfl (hb hby d9_36) rfl rfl ?_
    refine XS.aloadN X16.here hx rfl (hb hby d9_37) rfl rfl ?_
    exact kt
  have hwords : ∀ d ∈ StrChars.Road.words, d.before a0 Z = true := fun d hd => hw d ((by decide +kernel : ∀ d ∈ StrChars.Road.words, d ∈ tables_1) d hd)
  obtain ⟨_, _, ⟨T18, L18, k18, n18⟩, -, X18, ⟨Lc18, hQ18, l18, y18, z18⟩, st18⟩ := X16.specialBack hx (y := (⟨"java/lang/String", "<init>", "([C)V"⟩ : MethodName)) rfl hown (mvT hZ (own_w hw 59 rfl)) (mvT hZ (own_w hw 9 rfl)) (mvT hZ (own_w hw 10 rfl)) (by decide) (StrChars.Road.backV (W := 1) hZ hwords (kI := 4) (own_w hw 6 rfl) (cs := ([w0] : List Int32)) (bs := ([w0] : List Int32).map (fun c => c.toInt8.toInt32)) (n := 1) g_t Z_16 E_t F_value_t F_coder_t V_q_16 (SB.1.ext Od_16.2) SB.2.1 rfl rfl (by decide) (by decide) (own_hp (own_allS ew0 own_all0)) rfl (by decide) (by decide)) (g := (mkF m 38 #[.val (.ref r0), .val (.ref q), .val (.int (1 : Int32))] [(.ref q), (.ref t), (.ref t)])) rfl (by rw [hml]; rfl) (Steps.refl _) (a := t) (argsL := [(.ref q)]) (rest := [(.ref t)]) (lenOf pd_1 rfl) rfl (by show 2 * 0 + _ ≤ _; exact Nat.le_of_eq rfl) (hb hby d9_38) (fun _ _ => ⟨rfl, e16, (by decide : 2 + 1 ≤ _), (by decide : 5 + 1 ≤ _)⟩)
  dsimp only [Pt.U, Pt.locs, Pt.cells, Pt.slots] at X18 l18 y18 z18 st18 hQ18
  subst l18 y18 z18
  obtain ⟨rfl, Nq18, K18, Et, Ct, yy, ky, u1_, szy, u3_, Fvt, Vy⟩ := hQ18
  have N18 := Fr.app N12 Nq18
  have Od_18 := Od_16.keep K18 (allS g_t (all0))
  have Fb_18 := Fb_16.keep K18 (ninS ne_r0_t nin0)
  have Fl_18 := Fl_16.keep K18 (ninS ne_r0_t nin0)
  have Er_18 := Er_16.keep K18
  have Hh_18 := Hh_16.keep K18 (ninS ne_bb_t nin0)
  have Sf_q_18 := Safe.keep K18 (allS Sf_t_16 all0) CA_16.1 Sf_q_16
  have V_q_18 := V_q_16.keep K18 (ninS ne_q_t nin0)
  have Sf_t_18 := Safe.keep K18 (allS Sf_t_16 all0) CA_16.1 Sf_t_16
  have E_t_18 := E_t.keep K18
  have CA_18 := CA_16.trans (CHr.keep K18 (allS Sf_t_16 all0) CA_16.1)
  have Z_18 : n0 ≤ T18.heap.size := Nat.le_trans Z_16 K18.1
  have Kp_18 : Keep h0 T18.heap [] := Kp_16.trans K18 (allS (Or.inr sz_t) (all0))
  obtain ⟨fs, hr, hrun, hended, hRW⟩ := Jvm.Stand.leaveW (s := s) (vm₁ := s.vm) X18 ((State.WarmedH.refl s).since 0) (Nat.zero_le _) (v := some (.ref t)) (fun h => by rw [Bd.returns] at h; cases h)
  have CE : CHr Z own_EL s.vm s.heap T18.vm T18.heap := by
    rw [hh]
    exact CA_18.trans (CHv.at (vm0 := s.vm) (s := s) X18 hZ hEL CA_18.1)
  refine ⟨_, _, pre0 _ (st1 _ (st2 _ (st3 _ (st4 _ (st5 _ (st6 _ (st7 _ (st8 _ (st10 _ (st11 _ (st12 _ (st13 _ (st14 _ (st15 _ (st16 _ (st17 _ (st18.trans ?_))))))))))))))))), hrun, hended, _, _, rfl, ?_, CE, hRW.1, hRW.2.1, hRW.2.2.1, hRW.2.2.2.mono (by decide) (by decide)⟩
  · show Steps p.tables e below (T18.setTop (mkF m 41 #[.val (.ref r0), .val (.ref q), .val (.int (1 : Int32))] [(.ref t)])) _
    jvm_step X18.here [X18.here.top, hx, (hb hby d9_41), X18.method', Bd.returns, Value.isRef, FieldType.isReference]
    first | (intro acts; rw [hr _ acts rfl rfl rfl]) | rw [hr _ _ rfl rfl rfl]
    exact Steps.refl _
  · show Q_rmTs1 Z r0 cs fm bb kb hst w0 h0 n0 _ T18.heap _
    exact ⟨t, rfl, N18, Kp_18, sz_t, Et, Ct, yy, ky, Fvt, Vy⟩
theorem ef_rmTs2 (m : MethodId) (x0 : Addr) : entryFrame m #[(.ref x0)] 3 = mkF m 0 #[.val (.ref x0), .unset, .unset] [] := by first | (simp [entryFrame, mkF, argsToLocals, Value.category]; done) | rfl
def Q_rmTs2 (Z : State) (r0 : Addr) (cs : Int32) (fm : Value) (bb : Addr) (kb : ClassId) (hst : List (Int32 × Value)) (w0 : Int32) (w1 : Int32) (h0 : Heap) (n0 : Nat) (v : Option Value) (h : Heap) (L : List Loc) : Prop := ∃ t, v = some (.ref t) ∧ Fr n0 L ∧ Keep h0 h [] ∧ h0.size ≤ t ∧ Exa Z h t "java/lang/String" ∧ Fld Z h t "java/lang/String" "coder" "B" (.int (0 : Int32)) ∧ ∃ y ky, Fld Z h t "java/lang/String" "value" "[B" (.ref y) ∧ Arv Z h y ky .byte (2 : Int32) (own_bs ([w0, w1] : List Int32)) (.int (0 : Int32))
set_option maxRecDepth 65536 in
set_option maxHeartbeats 40000000 in
theorem rmTs2 (l : Launch) (Z : State) (a0 : Array Value) (hw : ∀ d ∈ tables_1, d.before a0 Z = true) (ws : List Jvm.Cond) (r0 : Addr) (cs : Int32) (fm : Value) (bb : Addr) (kb : ClassId) (hst : List (Int32 × Value)) (w0 : Int32) (w1 : Int32) (h0 : Heap) (n0 : Nat) (Z0 : n0 ≤ h0.size) (SB : own_St Z cs fm) (Od : Old Z n0 h0) (Fb : Fld Z h0 r0 "com/example/murray_hill/murrayhill/AsciiLine" "bytes" "[B" (.ref bb)) (Fl : Fld Z h0 r0 "com/example/murray_hill/murrayhill/AsciiLine" "length" "I" (.int (2 : Int32))) (Er : Exa Z h0 r0 "com/example/murray_hill/murrayhill/AsciiLine") (Hh : Arh Z h0 bb kb .byte (6 : Int32) hst [] (.int (0 : Int32))) (ew0 : own_c7 w0) (ew1 : own_c7 w1) (u0 : getH hst [] (.int (0 : Int32)) ((0 : Int32)).toNatClampNeg = (.int w0)) (u1 : getH hst [] (.int (0 : Int32)) ((1 : Int32)).toNatClampNeg = (.int w1)) :
    MetFree l (⟨"com/example/murray_hill/murrayhill/AsciiLine", "toString", "()Ljava/lang/String;"⟩ : MethodName) (head1 (Jvm.Cond.code (⟨"com/example/murray_hill/murrayhill/AsciiLine", "toString", "()Ljava/lang/String;"⟩ : MethodName) prog_2_method_8_code 3 (some (.object "java/lang/String")) :: ws) ({ frames := 4, cells := 6, slots := 16, locals := 66 } : Room)) (fun a U => a = #[(.ref r0)] ∧ Z.Warmed39 U.vm ∧ U.heap = h0 ∧ CHv Z own_EL U.vm h0) (fun _ _ _ _ _ => True) (fun _ U o U' => ∃ v L, o = .returned v ∧ Q_rmTs2 Z r0 cs fm bb kb hst w0 w1 h0 n0 v U'.heap L ∧ CHr Z own_EL U.vm U.heap U'.vm U'.heap ∧ ReturnedEndW U o U' L ({ frames := 4, cells := 6, slots := 16, locals := 66 } : Room).cells ({ frames := 4, cells := 6, slots := 16, locals := 66 } : Room).slots) := by
  refine MetFree.of_bodySF (plainFor_of_name pn_2) hisR ?_
  intro p e s m args below meth c s₁ Bd hml0 hP hK
  obtain ⟨rfl, hZ, hh, hCH⟩ := hP
  have hx := Bd.exec
  have hby := Bd.bytes
  have hml : c.maxLocals = 3 := hml0
  have hown : s.vm.findClass "com/example/murray_hill/murrayhill/AsciiLine" = some m.cls := findClass_of_methodNamed Bd.named
  have hnm := (name_of_methodNamed Bd.named Bd.method).1
  have X0 : Stand p l e ({ frames := 4, cells := 6, slots := 16, locals := 66 } : Room) s m #[(.ref r0)] below meth c s₁ [] 0 0 := Stand.of_body Bd
  have e0 : s₁.heap = h0 := by rw [← hh, Bd.state]; rfl
  have N0 := Fr.nil n0
  have pre0 : ∀ t, Steps p.tables e below (s₁.setTop (mkF m 0 #[.val (.ref r0), .unset, .unset] [])) t → Steps p.tables e below (s₁.setTop (entryFrame m #[(.ref r0)] 3)) t := fun t k => castTop (ef_rmTs2 m r0) k
  have CA := CHr.refl hCH
  have hEL := own_hEL hw
  have wS : ∀ a ∈ Bundle.stringAtoms, a.before a0 Z = true := fun d hd => hw d ((by decide +kernel : ∀ d ∈ Bundle.stringAtoms, d ∈ tables_1) d hd)
  have Kp : Keep h0 h0 [] := Keep.refl _ _
  have st1 : own_S p e below s₁ (mkF m 1 #[.val (.ref r0), .unset, .unset] [(.ref r0)]) (mkF m 0 #[.val (.ref r0), .unset, .unset] []) := by
    intro target kt
    refine XS.aloadN X0.here hx rfl (hb hby d9_0) rfl rfl ?_
    exact kt
  obtain ⟨T2, X2, e2, st2⟩ := getF X0 hx hZ hown (host := "") (Or.inl (own_w hw 56 rfl)) Via.refl e0 Fl (g := (mkF m 1 #[.val (.ref r0), .unset, .unset] [(.ref r0)])) rfl rfl (hb hby d9_1)
  obtain ⟨T3, h3, k3, X3, e3, E3, A3, st3⟩ := newP X2 hx hZ (own_w hw 0 rfl) e2 (g := (mkF m 4 #[.val (.ref r0), .unset, .unset] [(.int (2 : Int32))])) rfl (hb hby d9_4) rfl (by decide) (cap := 2) (by decide) (by decide) (by decide) (by decide)
  obtain ⟨q, g3⟩ : ∃ z, z = h0.size := ⟨_, rfl⟩
  rw [← g3] at A3 st3
  have g_q : n0 ≤ q := Nat.le_trans Z0 (Nat.le_of_eq g3.symm)
  have sz_q : h0.size ≤ q := Nat.le_trans Kp.1 (Nat.le_of_eq g3.symm)
  have Sf_q : Safe Z own_EL s.vm h0 q := Safe.new (Nat.le_of_eq g3.symm)
  have ne_r0_q : r0 ≠ q := Nat.ne_of_lt (Nat.lt_of_lt_of_le Fb.lt (Nat.le_of_eq g3.symm))
  have ne_bb_q : bb ≠ q := Nat.ne_of_lt (Nat.lt_of_lt_of_le Hh.lt (Nat.le_of_eq g3.symm))
  have Od_3 := Od.ext E3
  have Fb_3 := Fb.ext E3
  have Fl_3 := Fl.ext E3
  have Er_3 := Er.ext E3
  have Hh_3 := Hh.ext E3
  have Sf_q_3 := Safe.ext E3 CA.1 Sf_q
  have CA_3 := CA.trans (CHr.ext E3 CA.1)
  have Z_3 : n0 ≤ h3.size := Nat.le_trans Z0 E3.1
  have Kp_3 : Keep h0 h3 [] := Kp.ext E3
  have V_q : Arv Z h3 q k3 .char (2 : Int32) [(.int (0 : Int32)), (.int (0 : Int32))] (.int (0 : Int32)) := (Arv.new A3 (by decide)).pad (pad_rep [] (.int (0 : Int32)) 2)
  have st4 : own_S p e below T3 (mkF m 11 #[.val (.ref r0), .val (.ref q), .val (.int (0 : Int32))] [(.ref r0), (.int (0 : Int32))]) (mkF m 6 #[.val (.ref r0), .unset, .unset] [(.ref q)]) := by
    intro target kt
    refine XS.astoreN X3.here hx rfl (hb hby d9_6) rfl rfl (l' := #[.val (.ref r0), .val (.ref q), .unset]) rfl ?_
    refine XS.iconst X3.here hx rfl (hb hby d9_7) ?_
    refine XS.istoreN X3.here hx rfl (hb hby d9_8) rfl (l' := #[.val (.ref r0), .val (.ref q), .val (.int (0 : Int32))]) rfl ?_
    refine XS.iloadN X3.here hx rfl (hb hby d9_9) rfl ?_
    refine XS.aloadN X3.here hx rfl (hb hby d9_10) rfl rfl ?_
    exact kt
  obtain ⟨T5, X5, e5, st5⟩ := getF X3 hx hZ hown (host := "") (Or.inl (own_w hw 56 rfl)) Via.refl e3 Fl_3 (g := (mkF m 11 #[.val (.ref r0), .val (.ref q), .val (.int (0 : Int32))] [(.ref r0), (.int (0 : Int32))])) rfl rfl (hb hby d9_11)
  have st6 : own_S p e below T5 (mkF m 20 #[.val (.ref r0), .val (.ref q), .val (.int (0 : Int32))] [(.ref r0), (.int (0 : Int32)), (.ref q)]) (mkF m 14 #[.val (.ref r0), .val (.ref q), .val (.int (0 : Int32))] [(.int (2 : Int32)), (.int (0 : Int32))]) := by
    intro target kt
    refine XS.icmpNo X5.here hx rfl (hb hby d9_14) rfl (tlt (by decide : ((0 : Int32) < (2 : Int32)))).2.1 ?_
    refine XS.aloadN X5.here hx rfl (hb hby d9_17) rfl rfl ?_
    refine XS.iloadN X5.here hx rfl (hb hby d9_18) rfl ?_
    refine XS.aloadN X5.here hx rfl (hb hby d9_19) rfl rfl ?_
    exact kt
  obtain ⟨T7, X7, e7, st7⟩ := getF X5 hx hZ hown (host := "") (Or.inl (own_w hw 33 rfl)) Via.refl e5 Fb_3 (g := (mkF m 20 #[.val (.ref r0), .val (.ref q), .val (.int (0 : Int32))] [(.ref r0), (.int (0 : Int32)), (.ref q)])) rfl rfl (hb hby d9_20)
  have st8 : own_S p e below T7 (mkF m 24 #[.val (.ref r0), .val (.ref q), .val (.int (0 : Int32))] [(.int (0 : Int32)), (.ref bb), (.int (0 : Int32)), (.ref q)]) (mkF m 23 #[.val (.ref r0), .val (.ref q), .val (.int (0 : Int32))] [(.ref bb), (.int (0 : Int32)), (.ref q)]) := by
    intro target kt
    refine XS.iloadN X7.here hx rfl (hb hby d9_23) rfl ?_
    exact kt
  obtain ⟨cl9, Ar9, qc9, Sz9, Mn9, Hs9, Gs9⟩ := id Hh_3
  have hin9 : ¬ ((0 : Int32) < 0 ∨ cl9.slots.size ≤ ((0 : Int32)).toNatClampNeg) := own_in6 Sz9 ⟨by decide, by decide⟩
  have hat9 : cl9.slots[((0 : Int32)).toNatClampNeg]? = some (.int w0) := atH Hs9 hin9 u0
  have st10 : own_S p e below T7 (mkF m 25 #[.val (.ref r0), .val (.ref q), .val (.int (0 : Int32))] [(.int w0), (.int (0 : Int32)), (.ref q)]) (mkF m 24 #[.val (.ref r0), .val (.ref q), .val (.int (0 : Int32))] [(.int (0 : Int32)), (.ref bb), (.int (0 : Int32)), (.ref q)]) := fun target kt => X7.baloadBytes hx (j := (0 : Int32)) (v := (.int w0)) (by rw [e7]; exact Ar9.1) (State.isArrayOf_alike hZ.alike Ar9.2.1) Ar9.2.2 hin9 hat9 (g := (mkF m 24 #[.val (.ref r0), .val (.ref q), .val (.int (0 : Int32))] [(.int (0 : Int32)), (.ref bb), (.int (0 : Int32)), (.ref q)])) rfl rfl (hb hby d9_24) _ kt
  have st11 : own_S p e below T7 (mkF m 26 #[.val (.ref r0), .val (.ref q), .val (.int (0 : Int32))] [(.int (w0.toUInt32.toUInt16.toUInt32.toInt32)), (.int (0 : Int32)), (.ref q)]) (mkF m 25 #[.val (.ref r0), .val (.ref q), .val (.int (0 : Int32))] [(.int w0), (.int (0 : Int32)), (.ref q)]) := by
    intro target kt
    refine XS.i2c X7.here hx rfl (hb hby d9_25) rfl ?_
    exact kt
  obtain ⟨cl12, Ar12, qc12, Sz12, Mn12, Hs12, Gs12⟩ := id V_q
  have hin12 : ¬ ((0 : Int32) < 0 ∨ cl12.slots.size ≤ ((0 : Int32)).toNatClampNeg) := inb_of Sz12 ⟨by decide, by decide⟩
  obtain ⟨T12, h12, X12, e12, W12, st12⟩ := stC X7 hx hZ e7 Ar12 (j := (0 : Int32)) hin12 (g := (mkF m 26 #[.val (.ref r0), .val (.ref q), .val (.int (0 : Int32))] [(.int (w0.toUInt32.toUInt16.toUInt32.toInt32)), (.int (0 : Int32)), (.ref q)])) rfl rfl (hb hby d9_26)
  have V_q_12 : Arv Z h12 q k3 .char (2 : Int32) [(.int (nar .char (w0.toUInt32.toUInt16.toUInt32.toInt32))), (.int (0 : Int32))] (.int (0 : Int32)) := Arv.set Ar12 qc12 Sz12 Mn12 Hs12 Gs12 (fits_nar_char _) W12 0 rfl (Nat.le_of_ble_eq_true rfl)
  have Od_12 := Od_3.wr W12 g_q
  have Fb_12 := Fb_3.other W12 (Or.inl ne_r0_q)
  have Fl_12 := Fl_3.other W12 (Or.inl ne_r0_q)
  have Er_12 := Er_3.wr W12
  have Hh_12 := Hh_3.other W12 ne_bb_q
  have Sf_q_12 := Safe.wr W12 Sf_q_3 CA_3.1 Sf_q_3
  have CA_12 := CA_3.trans (CHr.wr W12 Sf_q_3 CA_3.1)
  have Z_12 : n0 ≤ h12.size := Nat.le_trans Z_3 (Keep.of_wr W12).1
  have Kp_12 : Keep h0 h12 [] := Kp_3.wr W12 (Or.inr sz_q)
  have N12 := Fr.snoc X12 N0 g_q
  rw [own_nc2 ew0] at V_q_12
  have st13 : own_S p e below T12 (mkF m 11 #[.val (.ref r0), .val (.ref q), .val (.int (1 : Int32))] [(.ref r0), (.int (1 : Int32))]) (mkF m 27 #[.val (.ref r0), .val (.ref q), .val (.int (0 : Int32))] []) := by
    intro target kt
    refine XS.iinc X12.here hx rfl (hb hby d9_27) rfl (l' := #[.val (.ref r0), .val (.ref q), .val (.int (1 : Int32))]) rfl ?_
    refine XS.goto X12.here hx rfl (pc0 := 30) (pc' := 9) rfl (hb hby d9_30) (by decide) (by decide) ?_
    refine XS.iloadN X12.here hx rfl (hb hby d9_9) rfl ?_
    refine XS.aloadN X12.here hx rfl (hb hby d9_10) rfl rfl ?_
    exact kt
  obtain ⟨T14, X14, e14, st14⟩ := getF X12 hx hZ hown (host := "") (Or.inl (own_w hw 56 rfl)) Via.refl e12 Fl_12 (g := (mkF m 11 #[.val (.ref r0), .val (.ref q), .val (.int (1 : Int32))] [(.ref r0), (.int (1 : Int32))])) rfl rfl (hb hby d9_11)
  have st15 : own_S p e below T14 (mkF m 20 #[.val (.ref r0), .val (.ref q), .val (.int (1 : Int32))] [(.ref r0), (.int (1 : Int32)), (.ref q)]) (mkF m 14 #[.val (.ref r0), .val (.ref q), .val (.int (1 : Int32))] [(.int (2 : Int32)), (.int (1 : Int32))]) := by
    intro target kt
    refine XS.icmpNo X14.here hx rfl (hb hby d9_14) rfl (tlt (by decide : ((1 : Int32) < (2 : Int32)))).2.1 ?_
    refine XS.aloadN X14.here hx rfl (hb hby d9_17) rfl rfl ?_
    refine XS.iloadN X14.here hx rfl (hb hby d9_18) rfl ?_
    refine XS.aloadN X14.here hx rfl (hb hby d9_19) rfl rfl ?_
    exact kt
  obtain ⟨T16, X16, e16, st16⟩ := getF X14 hx hZ hown (host := "") (Or.inl (own_w hw 33 rfl)) Via.refl e14 Fb_12 (g := (mkF m 20 #[.val (.ref r0), .val (.ref q), .val (.int (1 : Int32))] [(.ref r0), (.int (1 : Int32)), (.ref q)])) rfl rfl (hb hby d9_20)
  have st17 : own_S p e below T16 (mkF m 24 #[.val (.ref r0), .val (.ref q), .val (.int (1 : Int32))] [(.int (1 : Int32)), (.ref bb), (.int (1 : Int32)), (.ref q)]) (mkF m 23 #[.val (.ref r0), .val (.ref q), .val (.int (1 : Int32))] [(.ref bb), (.int (1 : Int32)), (.ref q)]) := by
    intro target kt
    refine XS.iloadN X16.here hx rfl (hb hby d9_23) rfl ?_
    exact kt
  obtain ⟨cl18, Ar18, qc18, Sz18, Mn18, Hs18, Gs18⟩ := id Hh_12
  have hin18 : ¬ ((1 : Int32) < 0 ∨ cl18.slots.size ≤ ((1 : Int32)).toNatClampNeg) := own_in6 Sz18 ⟨by decide, by decide⟩
  have hat18 : cl18.slots[((1 : Int32)).toNatClampNeg]? = some (.int w1) := atH Hs18 hin18 u1
  have st19 : own_S p e below T16 (mkF m 25 #[.val (.ref r0), .val (.ref q), .val (.int (1 : Int32))] [(.int w1), (.int (1 : Int32)), (.ref q)]) (mkF m 24 #[.val (.ref r0), .val (.ref q), .val (.int (1 : Int32))] [(.int (1 : Int32)), (.ref bb), (.int (1 : Int32)), (.ref q)]) := fun target kt => X16.baloadBytes hx (j := (1 : Int32)) (v := (.int w1)) (by rw [e16]; exact Ar18.1) (State.isArrayOf_alike hZ.alike Ar18.2.1) Ar18.2.2 hin18 hat18 (g := (mkF m 24 #[.val (.ref r0), .val (.ref q), .val (.int (1 : Int32))] [(.int (1 : Int32)), (.ref bb), (.int (1 : Int32)), (.ref q)])) rfl rfl (hb hby d9_24) _ kt
  have st20 : own_S p e below T16 (mkF m 26 #[.val (.ref r0), .val (.ref q), .val (.int (1 : Int32))] [(.int (w1.toUInt32.toUInt16.toUInt32.toInt32)), (.int (1 : Int32)), (.ref q)]) (mkF m 25 #[.val (.ref r0), .val (.ref q), .val (.int (1 : Int32))] [(.int w1), (.int (1 : Int32)), (.ref q)]) := by
    intro target kt
    refine XS.i2c X16.here hx rfl (hb hby d9_25) rfl ?_
    exact kt
  obtain ⟨cl21, Ar21, qc21, Sz21, Mn21, Hs21, Gs21⟩ := id V_q_12
  have hin21 : ¬ ((1 : Int32) < 0 ∨ cl21.slots.size ≤ ((1 : Int32)).toNatClampNeg) := inb_of Sz21 ⟨by decide, by decide⟩
  obtain ⟨T21, h21, X21, e21, W21, st21⟩ := stC X16 hx hZ e16 Ar21 (j := (1 : Int32)) hin21 (g := (mkF m 26 #[.val (.ref r0), .val (.ref q), .val (.int (1 : Int32))] [(.int (w1.toUInt32.toUInt16.toUInt32.toInt32)), (.int (1 : Int32)), (.ref q)])) rfl rfl (hb hby d9_26)
  have V_q_21 : Arv Z h21 q k3 .char (2 : Int32) [(.int w0), (.int (nar .char (w1.toUInt32.toUInt16.toUInt32.toInt32)))] (.int (0 : Int32)) := Arv.set Ar21 qc21 Sz21 Mn21 Hs21 Gs21 (fits_nar_char _) W21 1 rfl (Nat.le_of_ble_eq_true rfl)
  have Od_21 := Od_12.wr W21 g_q
  have Fb_21 := Fb_12.other W21 (Or.inl ne_r0_q)
  have Fl_21 := Fl_12.other W21 (Or.inl ne_r0_q)
  have Er_21 := Er_12.wr W21
  have Hh_21 := Hh_12.other W21 ne_bb_q
  have Sf_q_21 := Safe.wr W21 Sf_q_12 CA_12.1 Sf_q_12
  have CA_21 := CA_12.trans (CHr.wr W21 Sf_q_12 CA_12.1)
  have Z_21 : n0 ≤ h21.size := Nat.le_trans Z_12 (Keep.of_wr W21).1
  have Kp_21 : Keep h0 h21 [] := Kp_12.wr W21 (Or.inr sz_q)
  have N21 := Fr.snoc X21 N12 g_q
  rw [own_nc2 ew1] at V_q_21
  have st22 : own_S p e below T21 (mkF m 11 #[.val (.ref r0), .val (.ref q), .val (.int (2 : Int32))] [(.ref r0), (.int (2 : Int32))]) (mkF m 27 #[.val (.ref r0), .val (.ref q), .val (.int (1 : Int32))] []) := by
    intro target kt
    refine XS.iinc X21.here hx rfl (hb hby d9_27) rfl (l' := #[.val (.ref r0), .val (.ref q), .val (.int (2 : Int32))]) rfl ?_
    refine XS.goto X21.here hx rfl (pc0 := 30) (pc' := 9) rfl (hb hby d9_30) (by decide) (by decide) ?_
    refine XS.iloadN X21.here hx rfl (hb hby d9_9) rfl ?_
    refine XS.aloadN X21.here hx rfl (hb hby d9_10) rfl rfl ?_
    exact kt
  obtain ⟨T23, X23, e23, st23⟩ := getF X21 hx hZ hown (host := "") (Or.inl (own_w hw 56 rfl)) Via.refl e21 Fl_21 (g := (mkF m 11 #[.val (.ref r0), .val (.ref q), .val (.int (2 : Int32))] [(.ref r0), (.int (2 : Int32))])) rfl rfl (hb hby d9_11)
  have st24 : own_S p e below T23 (mkF m 33 #[.val (.ref r0), .val (.ref q), .val (.int (2 : Int32))] []) (mkF m 14 #[.val (.ref r0), .val (.ref q), .val (.int (2 : Int32))] [(.int (2 : Int32)), (.int (2 : Int32))]) := by
    intro target kt
    refine XS.icmpYes X23.here hx rfl (pc0 := 14) (pc' := 33) rfl (hb hby d9_14) rfl (flt (by decide : ¬ ((2 : Int32) < (2 : Int32)))).2.1 (by decide) (by decide) ?_
    exact kt
  obtain ⟨T25, h25, X25, e25, E25, A25, D25, -, st25⟩ := newO X23 hx hZ hown (own_w hw 58 rfl) (own_w hw 6 rfl) (own_w hw 7 rfl) e23 (g := (mkF m 33 #[.val (.ref r0), .val (.ref q), .val (.int (2 : Int32))] [])) rfl (hb hby d9_33) (by decide) (by decide)
  obtain ⟨t, g25⟩ : ∃ z, z = h21.size := ⟨_, rfl⟩
  rw [← g25] at A25 D25 st25
  have g_t : n0 ≤ t := Nat.le_trans Z_21 (Nat.le_of_eq g25.symm)
  have sz_t : h0.size ≤ t := Nat.le_trans Kp_21.1 (Nat.le_of_eq g25.symm)
  have Sf_t : Safe Z own_EL s.vm h21 t := Safe.new (Nat.le_of_eq g25.symm)
  have ne_r0_t : r0 ≠ t := Nat.ne_of_lt (Nat.lt_of_lt_of_le Fb_21.lt (Nat.le_of_eq g25.symm))
  have ne_bb_t : bb ≠ t := Nat.ne_of_lt (Nat.lt_of_lt_of_le Hh_21.lt (Nat.le_of_eq g25.symm))
  have ne_q_t : q ≠ t := Nat.ne_of_lt (Nat.lt_of_lt_of_le V_q_21.lt (Nat.le_of_eq g25.symm))
  have Od_25 := Od_21.ext E25
  have Fb_25 := Fb_21.ext E25
  have Fl_25 := Fl_21.ext E25
  have Er_25 := Er_21.ext E25
  have Hh_25 := Hh_21.ext E25
  have Sf_q_25 := Safe.ext E25 CA_21.1 Sf_q_21
  have V_q_25 := V_q_21.ext E25
  have Sf_t_25 := Safe.ext E25 CA_21.1 Sf_t
  have CA_25 := CA_21.trans (CHr.ext E25 CA_21.1)
  have Z_25 : n0 ≤ h25.size := Nat.le_trans Z_21 E25.1
  have Kp_25 : Keep h0 h25 [] := Kp_21.ext E25
  have E_t : Exa Z h25 t "java/lang/String" := A25
  have F_value_t : Fld Z h25 t "java/lang/String" "value" "[B" .null := D25 (Or.inr (own_w hw 20 rfl)) (ty := (.array .byte)) (by decide)
  have F_coder_t : Fld Z h25 t "java/lang/String" "coder" "B" (.int (0 : Int32)) := D25 (Or.inr (own_w hw 21 rfl)) (ty := .byte) (by decide)
  have st26 : own_S p e below T25 (mkF m 38 #[.val (.ref r0), .val (.ref q), .val (.int (2 : Int32))] [(.ref q), (.ref t), (.ref t)]) (mkF m 36 #[.val (.ref r0), .val (.ref q), .val (.int (2 : Int32))] [(.ref t)]) := by
    intro target kt
    refine XS.dup X25.here hx rfl (hb hby d9_36) rfl rfl ?_
    refine XS.aloadN X25.here hx rfl (hb hby d9_37) rfl rfl ?_
    exact kt
  have hwords : ∀ d ∈ StrChars.Road.words, d.before a0 Z = true := fun d hd => hw d ((by decide +kernel : ∀ d ∈ StrChars.Road.words, d ∈ tables_1) d hd)
  obtain ⟨_, _, ⟨T27, L27, k27, n27⟩, -, X27, ⟨Lc27, hQ27, l27, y27, z27⟩, st27⟩ := X25.specialBack hx (y := (⟨"java/lang/String", "<init>", "([C)V"⟩ : MethodName)) rfl hown (mvT hZ (own_w hw 59 rfl)) (mvT hZ (own_w hw 9 rfl)) (mvT hZ (own_w hw 10 rfl)) (by decide) (StrChars.Road.backV (W := 1) hZ hwords (kI := 4) (own_w hw 6 rfl) (cs := ([w0, w1] : List Int32)) (bs := ([w0, w1] : List Int32).map (fun c => c.toInt8.toInt32)) (n := 2) g_t Z_25 E_t F_value_t F_coder_t V_q_25 (SB.1.ext Od_25.2) SB.2.1 rfl rfl (by decide) (by decide) (own_hp (own_allS ew0 (own_allS ew1 own_all0))) rfl (by decide) (by decide)) (g := (mkF m 38 #[.val (.ref r0), .val (.ref q), .val (.int (2 : Int32))] [(.ref q), (.ref t), (.ref t)])) rfl (by rw [hml]; rfl) (Steps.refl _) (a := t) (argsL := [(.ref q)]) (rest := [(.ref t)]) (lenOf pd_1 rfl) rfl (by show 2 * 0 + _ ≤ _; exact Nat.le_of_eq rfl) (hb hby d9_38) (fun _ _ => ⟨rfl, e25, (by decide : 2 + 1 ≤ _), (by decide : 6 + 2 ≤ _)⟩)
  dsimp only [Pt.U, Pt.locs, Pt.cells, Pt.slots] at X27 l27 y27 z27 st27 hQ27
  subst l27 y27 z27
  obtain ⟨rfl, Nq27, K27, Et, Ct, yy, ky, u1_, szy, u3_, Fvt, Vy⟩ := hQ27
  have N27 := Fr.app N21 Nq27
  have Od_27 := Od_25.keep K27 (allS g_t (all0))
  have Fb_27 := Fb_25.keep K27 (ninS ne_r0_t nin0)
  have Fl_27 := Fl_25.keep K27 (ninS ne_r0_t nin0)
  have Er_27 := Er_25.keep K27
  have Hh_27 := Hh_25.keep K27 (ninS ne_bb_t nin0)
  have Sf_q_27 := Safe.keep K27 (allS Sf_t_25 all0) CA_25.1 Sf_q_25
  have V_q_27 := V_q_25.keep K27 (ninS ne_q_t nin0)
  have Sf_t_27 := Safe.keep K27 (allS Sf_t_25 all0) CA_25.1 Sf_t_25
  have E_t_27 := E_t.keep K27
  have CA_27 := CA_25.trans (CHr.keep K27 (allS Sf_t_25 all0) CA_25.1)
  have Z_27 : n0 ≤ T27.heap.size := Nat.le_trans Z_25 K27.1
  have Kp_27 : Keep h0 T27.heap [] := Kp_25.trans K27 (allS (Or.inr sz_t) (all0))
  obtain ⟨fs, hr, hrun, hended, hRW⟩ := Jvm.Stand.leaveW (s := s) (vm₁ := s.vm) X27 ((State.WarmedH.refl s).since 0) (Nat.zero_le _) (v := some (.ref t)) (fun h => by rw [Bd.returns] at h; cases h)
  have CE : CHr Z own_EL s.vm s.heap T27.vm T27.heap := by
    rw [hh]
    exact CA_27.trans (CHv.at (vm0 := s.vm) (s := s) X27 hZ hEL CA_27.1)
  refine ⟨_, _, pre0 _ (st1 _ (st2 _ (st3 _ (st4 _ (st5 _ (st6 _ (st7 _ (st8 _ (st10 _ (st11 _ (st12 _ (st13 _ (st14 _ (st15 _ (st16 _ (st17 _ (st19 _ (st20 _ (st21 _ (st22 _ (st23 _ (st24 _ (st25 _ (st26 _ (st27.trans ?_))))))))))))))))))))))))), hrun, hended, _, _, rfl, ?_, CE, hRW.1, hRW.2.1, hRW.2.2.1, hRW.2.2.2.mono (by decide) (by decide)⟩
  · show Steps p.tables e below (T27.setTop (mkF m 41 #[.val (.ref r0), .val (.ref q), .val (.int (2 : Int32))] [(.ref t)])) _
    jvm_step X27.here [X27.here.top, hx, (hb hby d9_41), X27.method', Bd.returns, Value.isRef, FieldType.isReference]
    first | (intro acts; rw [hr _ acts rfl rfl rfl]) | rw [hr _ _ rfl rfl rfl]
    exact Steps.refl _
  · show Q_rmTs2 Z r0 cs fm bb kb hst w0 w1 h0 n0 _ T27.heap _
    exact ⟨t, rfl, N27, Kp_27, sz_t, Et, Ct, yy, ky, Fvt, Vy⟩
theorem ef_rmTs3 (m : MethodId) (x0 : Addr) : entryFrame m #[(.ref x0)] 3 = mkF m 0 #[.val (.ref x0), .unset, .unset] [] := by first | (simp [entryFrame, mkF, argsToLocals, Value.category]; done) | rfl
def Q_rmTs3 (Z : State) (r0 : Addr) (cs : Int32) (fm : Value) (bb : Addr) (kb : ClassId) (hst : List (Int32 × Value)) (w0 : Int32) (w1 : Int32) (w2 : Int32) (h0 : Heap) (n0 : Nat) (v : Option Value) (h : Heap) (L : List Loc) : Prop := ∃ t, v = some (.ref t) ∧ Fr n0 L ∧ Keep h0 h [] ∧ h0.size ≤ t ∧ Exa Z h t "java/lang/String" ∧ Fld Z h t "java/lang/String" "coder" "B" (.int (0 : Int32)) ∧ ∃ y ky, Fld Z h t "java/lang/String" "value" "[B" (.ref y) ∧ Arv Z h y ky .byte (3 : Int32) (own_bs ([w0, w1, w2] : List Int32)) (.int (0 : Int32))
set_option maxRecDepth 65536 in
set_option maxHeartbeats 40000000 in
theorem rmTs3 (l : Launch) (Z : State) (a0 : Array Value) (hw : ∀ d ∈ tables_1, d.before a0 Z = true) (ws : List Jvm.Cond) (r0 : Addr) (cs : Int32) (fm : Value) (bb : Addr) (kb : ClassId) (hst : List (Int32 × Value)) (w0 : Int32) (w1 : Int32) (w2 : Int32) (h0 : Heap) (n0 : Nat) (Z0 : n0 ≤ h0.size) (SB : own_St Z cs fm) (Od : Old Z n0 h0) (Fb : Fld Z h0 r0 "com/example/murray_hill/murrayhill/AsciiLine" "bytes" "[B" (.ref bb)) (Fl : Fld Z h0 r0 "com/example/murray_hill/murrayhill/AsciiLine" "length" "I" (.int (3 : Int32))) (Er : Exa Z h0 r0 "com/example/murray_hill/murrayhill/AsciiLine") (Hh : Arh Z h0 bb kb .byte (6 : Int32) hst [] (.int (0 : Int32))) (ew0 : own_c7 w0) (ew1 : own_c7 w1) (ew2 : own_c7 w2) (u0 : getH hst [] (.int (0 : Int32)) ((0 : Int32)).toNatClampNeg = (.int w0)) (u1 : getH hst [] (.int (0 : Int32)) ((1 : Int32)).toNatClampNeg = (.int w1)) (u2 : getH hst [] (.int (0 : Int32)) ((2 : Int32)).toNatClampNeg = (.int w2)) :
    MetFree l (⟨"com/example/murray_hill/murrayhill/AsciiLine", "toString", "()Ljava/lang/String;"⟩ : MethodName) (head1 (Jvm.Cond.code (⟨"com/example/murray_hill/murrayhill/AsciiLine", "toString", "()Ljava/lang/String;"⟩ : MethodName) prog_2_method_8_code 3 (some (.object "java/lang/String")) :: ws) ({ frames := 4, cells := 6, slots := 16, locals := 66 } : Room)) (fun a U => a = #[(.ref r0)] ∧ Z.Warmed39 U.vm ∧ U.heap = h0 ∧ CHv Z own_EL U.vm h0) (fun _ _ _ _ _ => True) (fun _ U o U' => ∃ v L, o = .returned v ∧ Q_rmTs3 Z r0 cs fm bb kb hst w0 w1 w2 h0 n0 v U'.heap L ∧ CHr Z own_EL U.vm U.heap U'.vm U'.heap ∧ ReturnedEndW U o U' L ({ frames := 4, cells := 6, slots := 16, locals := 66 } : Room).cells ({ frames := 4, cells := 6, slots := 16, locals := 66 } : Room).slots) := by
  refine MetFree.of_bodySF (plainFor_of_name pn_2) hisR ?_
  intro p e s m args below meth c s₁ Bd hml0 hP hK
  obtain ⟨rfl, hZ, hh, hCH⟩ := hP
  have hx := Bd.exec
  have hby := Bd.bytes
  have hml : c.maxLocals = 3 := hml0
  have hown : s.vm.findClass "com/example/murray_hill/murrayhill/AsciiLine" = some m.cls := findClass_of_methodNamed Bd.named
  have hnm := (name_of_methodNamed Bd.named Bd.method).1
  have X0 : Stand p l e ({ frames := 4, cells := 6, slots := 16, locals := 66 } : Room) s m #[(.ref r0)] below meth c s₁ [] 0 0 := Stand.of_body Bd
  have e0 : s₁.heap = h0 := by rw [← hh, Bd.state]; rfl
  have N0 := Fr.nil n0
  have pre0 : ∀ t, Steps p.tables e below (s₁.setTop (mkF m 0 #[.val (.ref r0), .unset, .unset] [])) t → Steps p.tables e below (s₁.setTop (entryFrame m #[(.ref r0)] 3)) t := fun t k => castTop (ef_rmTs3 m r0) k
  have CA := CHr.refl hCH
  have hEL := own_hEL hw
  have wS : ∀ a ∈ Bundle.stringAtoms, a.before a0 Z = true := fun d hd => hw d ((by decide +kernel : ∀ d ∈ Bundle.stringAtoms, d ∈ tables_1) d hd)
  have Kp : Keep h0 h0 [] := Keep.refl _ _
  have st1 : own_S p e below s₁ (mkF m 1 #[.val (.ref r0), .unset, .unset] [(.ref r0)]) (mkF m 0 #[.val (.ref r0), .unset, .unset] []) := by
    intro target kt
    refine XS.aloadN X0.here hx rfl (hb hby d9_0) rfl rfl ?_
    exact kt
  obtain ⟨T2, X2, e2, st2⟩ := getF X0 hx hZ hown (host := "") (Or.inl (own_w hw 56 rfl)) Via.refl e0 Fl (g := (mkF m 1 #[.val (.ref r0), .unset, .unset] [(.ref r0)])) rfl rfl (hb hby d9_1)
  obtain ⟨T3, h3, k3, X3, e3, E3, A3, st3⟩ := newP X2 hx hZ (own_w hw 0 rfl) e2 (g := (mkF m 4 #[.val (.ref r0), .unset, .unset] [(.int (3 : Int32))])) rfl (hb hby d9_4) rfl (by decide) (cap := 3) (by decide) (by decide) (by decide) (by decide)
  obtain ⟨q, g3⟩ : ∃ z, z = h0.size := ⟨_, rfl⟩
  rw [← g3] at A3 st3
  have g_q : n0 ≤ q := Nat.le_trans Z0 (Nat.le_of_eq g3.symm)
  have sz_q : h0.size ≤ q := Nat.le_trans Kp.1 (Nat.le_of_eq g3.symm)
  have Sf_q : Safe Z own_EL s.vm h0 q := Safe.new (Nat.le_of_eq g3.symm)
  have ne_r0_q : r0 ≠ q := Nat.ne_of_lt (Nat.lt_of_lt_of_le Fb.lt (Nat.le_of_eq g3.symm))
  have ne_bb_q : bb ≠ q := Nat.ne_of_lt (Nat.lt_of_lt_of_le Hh.lt (Nat.le_of_eq g3.symm))
  have Od_3 := Od.ext E3
  have Fb_3 := Fb.ext E3
  have Fl_3 := Fl.ext E3
  have Er_3 := Er.ext E3
  have Hh_3 := Hh.ext E3
  have Sf_q_3 := Safe.ext E3 CA.1 Sf_q
  have CA_3 := CA.trans (CHr.ext E3 CA.1)
  have Z_3 : n0 ≤ h3.size := Nat.le_trans Z0 E3.1
  have Kp_3 : Keep h0 h3 [] := Kp.ext E3
  have V_q : Arv Z h3 q k3 .char (3 : Int32) [(.int (0 : Int32)), (.int (0 : Int32)), (.int (0 : Int32))] (.int (0 : Int32)) := (Arv.new A3 (by decide)).pad (pad_rep [] (.int (0 : Int32)) 3)
  have st4 : own_S p e below T3 (mkF m 11 #[.val (.ref r0), .val (.ref q), .val (.int (0 : Int32))] [(.ref r0), (.int (0 : Int32))]) (mkF m 6 #[.val (.ref r0), .unset, .unset] [(.ref q)]) := by
    intro target kt
    refine XS.astoreN X3.here hx rfl (hb hby d9_6) rfl rfl (l' := #[.val (.ref r0), .val (.ref q), .unset]) rfl ?_
    refine XS.iconst X3.here hx rfl (hb hby d9_7) ?_
    refine XS.istoreN X3.here hx rfl (hb hby d9_8) rfl (l' := #[.val (.ref r0), .val (.ref q), .val (.int (0 : Int32))]) rfl ?_
    refine XS.iloadN X3.here hx rfl (hb hby d9_9) rfl ?_
    refine XS.aloadN X3.here hx rfl (hb hby d9_10) rfl rfl ?_
    exact kt
  obtain ⟨T5, X5, e5, st5⟩ := getF X3 hx hZ hown (host := "") (Or.inl (own_w hw 56 rfl)) Via.refl e3 Fl_3 (g := (mkF m 11 #[.val (.ref r0), .val (.ref q), .val (.int (0 : Int32))] [(.ref r0), (.int (0 : Int32))])) rfl rfl (hb hby d9_11)
  have st6 : own_S p e below T5 (mkF m 20 #[.val (.ref r0), .val (.ref q), .val (.int (0 : Int32))] [(.ref r0), (.int (0 : Int32)), (.ref q)]) (mkF m 14 #[.val (.ref r0), .val (.ref q), .val (.int (0 : Int32))] [(.int (3 : Int32)), (.int (0 : Int32))]) := by
    intro target kt
    refine XS.icmpNo X5.here hx rfl (hb hby d9_14) rfl (tlt (by decide : ((0 : Int32) < (3 : Int32)))).2.1 ?_
    refine XS.aloadN X5.here hx rfl (hb hby d9_17) rfl rfl ?_
    refine XS.iloadN X5.here hx rfl (hb hby d9_18) rfl ?_
    refine XS.aloadN X5.here hx rfl (hb hby d9_19) rfl rfl ?_
    exact kt
  obtain ⟨T7, X7, e7, st7⟩ := getF X5 hx hZ hown (host := "") (Or.inl (own_w hw 33 rfl)) Via.refl e5 Fb_3 (g := (mkF m 20 #[.val (.ref r0), .val (.ref q), .val (.int (0 : Int32))] [(.ref r0), (.int (0 : Int32)), (.ref q)])) rfl rfl (hb hby d9_20)
  have st8 : own_S p e below T7 (mkF m 24 #[.val (.ref r0), .val (.ref q), .val (.int (0 : Int32))] [(.int (0 : Int32)), (.ref bb), (.int (0 : Int32)), (.ref q)]) (mkF m 23 #[.val (.ref r0), .val (.ref q), .val (.int (0 : Int32))] [(.ref bb), (.int (0 : Int32)), (.ref q)]) := by
    intro target kt
    refine XS.iloadN X7.here hx rfl (hb hby d9_23) rfl ?_
    exact kt
  obtain ⟨cl9, Ar9, qc9, Sz9, Mn9, Hs9, Gs9⟩ := id Hh_3
  have hin9 : ¬ ((0 : Int32) < 0 ∨ cl9.slots.size ≤ ((0 : Int32)).toNatClampNeg) := own_in6 Sz9 ⟨by decide, by decide⟩
  have hat9 : cl9.slots[((0 : Int32)).toNatClampNeg]? = some (.int w0) := atH Hs9 hin9 u0
  have st10 : own_S p e below T7 (mkF m 25 #[.val (.ref r0), .val (.ref q), .val (.int (0 : Int32))] [(.int w0), (.int (0 : Int32)), (.ref q)]) (mkF m 24 #[.val (.ref r0), .val (.ref q), .val (.int (0 : Int32))] [(.int (0 : Int32)), (.ref bb), (.int (0 : Int32)), (.ref q)]) := fun target kt => X7.baloadBytes hx (j := (0 : Int32)) (v := (.int w0)) (by rw [e7]; exact Ar9.1) (State.isArrayOf_alike hZ.alike Ar9.2.1) Ar9.2.2 hin9 hat9 (g := (mkF m 24 #[.val (.ref r0), .val (.ref q), .val (.int (0 : Int32))] [(.int (0 : Int32)), (.ref bb), (.int (0 : Int32)), (.ref q)])) rfl rfl (hb hby d9_24) _ kt
  have st11 : own_S p e below T7 (mkF m 26 #[.val (.ref r0), .val (.ref q), .val (.int (0 : Int32))] [(.int (w0.toUInt32.toUInt16.toUInt32.toInt32)), (.int (0 : Int32)), (.ref q)]) (mkF m 25 #[.val (.ref r0), .val (.ref q), .val (.int (0 : Int32))] [(.int w0), (.int (0 : Int32)), (.ref q)]) := by
    intro target kt
    refine XS.i2c X7.here hx rfl (hb hby d9_25) rfl ?_
    exact kt
  obtain ⟨cl12, Ar12, qc12, Sz12, Mn12, Hs12, Gs12⟩ := id V_q
  have hin12 : ¬ ((0 : Int32) < 0 ∨ cl12.slots.size ≤ ((0 : Int32)).toNatClampNeg) := inb_of Sz12 ⟨by decide, by decide⟩
  obtain ⟨T12, h12, X12, e12, W12, st12⟩ := stC X7 hx hZ e7 Ar12 (j := (0 : Int32)) hin12 (g := (mkF m 26 #[.val (.ref r0), .val (.ref q), .val (.int (0 : Int32))] [(.int (w0.toUInt32.toUInt16.toUInt32.toInt32)), (.int (0 : Int32)), (.ref q)])) rfl rfl (hb hby d9_26)
  have V_q_12 : Arv Z h12 q k3 .char (3 : Int32) [(.int (nar .char (w0.toUInt32.toUInt16.toUInt32.toInt32))), (.int (0 : Int32)), (.int (0 : Int32))] (.int (0 : Int32)) := Arv.set Ar12 qc12 Sz12 Mn12 Hs12 Gs12 (fits_nar_char _) W12 0 rfl (Nat.le_of_ble_eq_true rfl)
  have Od_12 := Od_3.wr W12 g_q
  have Fb_12 := Fb_3.other W12 (Or.inl ne_r0_q)
  have Fl_12 := Fl_3.other W12 (Or.inl ne_r0_q)
  have Er_12 := Er_3.wr W12
  have Hh_12 := Hh_3.other W12 ne_bb_q
  have Sf_q_12 := Safe.wr W12 Sf_q_3 CA_3.1 Sf_q_3
  have CA_12 := CA_3.trans (CHr.wr W12 Sf_q_3 CA_3.1)
  have Z_12 : n0 ≤ h12.size := Nat.le_trans Z_3 (Keep.of_wr W12).1
  have Kp_12 : Keep h0 h12 [] := Kp_3.wr W12 (Or.inr sz_q)
  have N12 := Fr.snoc X12 N0 g_q
  rw [own_nc2 ew0] at V_q_12
  have st13 : own_S p e below T12 (mkF m 11 #[.val (.ref r0), .val (.ref q), .val (.int (1 : Int32))] [(.ref r0), (.int (1 : Int32))]) (mkF m 27 #[.val (.ref r0), .val (.ref q), .val (.int (0 : Int32))] []) := by
    intro target kt
    refine XS.iinc X12.here hx rfl (hb hby d9_27) rfl (l' := #[.val (.ref r0), .val (.ref q), .val (.int (1 : Int32))]) rfl ?_
    refine XS.goto X12.here hx rfl (pc0 := 30) (pc' := 9) rfl (hb hby d9_30) (by decide) (by decide) ?_
    refine XS.iloadN X12.here hx rfl (hb hby d9_9) rfl ?_
    refine XS.aloadN X12.here hx rfl (hb hby d9_10) rfl rfl ?_
    exact kt
  obtain ⟨T14, X14, e14, st14⟩ := getF X12 hx hZ hown (host := "") (Or.inl (own_w hw 56 rfl)) Via.refl e12 Fl_12 (g := (mkF m 11 #[.val (.ref r0), .val (.ref q), .val (.int (1 : Int32))] [(.ref r0), (.int (1 : Int32))])) rfl rfl (hb hby d9_11)
  have st15 : own_S p e below T14 (mkF m 20 #[.val (.ref r0), .val (.ref q), .val (.int (1 : Int32))] [(.ref r0), (.int (1 : Int32)), (.ref q)]) (mkF m 14 #[.val (.ref r0), .val (.ref q), .val (.int (1 : Int32))] [(.int (3 : Int32)), (.int (1 : Int32))]) := by
    intro target kt
    refine XS.icmpNo X14.here hx rfl (hb hby d9_14) rfl (tlt (by decide : ((1 : Int32) < (3 : Int32)))).2.1 ?_
    refine XS.aloadN X14.here hx rfl (hb hby d9_17) rfl rfl ?_
    refine XS.iloadN X14.here hx rfl (hb hby d9_18) rfl ?_
    refine XS.aloadN X14.here hx rfl (hb hby d9_19) rfl rfl ?_
    exact kt
  obtain ⟨T16, X16, e16, st16⟩ := getF X14 hx hZ hown (host := "") (Or.inl (own_w hw 33 rfl)) Via.refl e14 Fb_12 (g := (mkF m 20 #[.val (.ref r0), .val (.ref q), .val (.int (1 : Int32))] [(.ref r0), (.int (1 : Int32)), (.ref q)])) rfl rfl (hb hby d9_20)
  have st17 : own_S p e below T16 (mkF m 24 #[.val (.ref r0), .val (.ref q), .val (.int (1 : Int32))] [(.int (1 : Int32)), (.ref bb), (.int (1 : Int32)), (.ref q)]) (mkF m 23 #[.val (.ref r0), .val (.ref q), .val (.int (1 : Int32))] [(.ref bb), (.int (1 : Int32)), (.ref q)]) := by
    intro target kt
    refine XS.iloadN X16.here hx rfl (hb hby d9_23) rfl ?_
    exact kt
  obtain ⟨cl18, Ar18, qc18, Sz18, Mn18, Hs18, Gs18⟩ := id Hh_12
  have hin18 : ¬ ((1 : Int32) < 0 ∨ cl18.slots.size ≤ ((1 : Int32)).toNatClampNeg) := own_in6 Sz18 ⟨by decide, by decide⟩
  have hat18 : cl18.slots[((1 : Int32)).toNatClampNeg]? = some (.int w1) := atH Hs18 hin18 u1
  have st19 : own_S p e below T16 (mkF m 25 #[.val (.ref r0), .val (.ref q), .val (.int (1 : Int32))] [(.int w1), (.int (1 : Int32)), (.ref q)]) (mkF m 24 #[.val (.ref r0), .val (.ref q), .val (.int (1 : Int32))] [(.int (1 : Int32)), (.ref bb), (.int (1 : Int32)), (.ref q)]) := fun target kt => X16.baloadBytes hx (j := (1 : Int32)) (v := (.int w1)) (by rw [e16]; exact Ar18.1) (State.isArrayOf_alike hZ.alike Ar18.2.1) Ar18.2.2 hin18 hat18 (g := (mkF m 24 #[.val (.ref r0), .val (.ref q), .val (.int (1 : Int32))] [(.int (1 : Int32)), (.ref bb), (.int (1 : Int32)), (.ref q)])) rfl rfl (hb hby d9_24) _ kt
  have st20 : own_S p e below T16 (mkF m 26 #[.val (.ref r0), .val (.ref q), .val (.int (1 : Int32))] [(.int (w1.toUInt32.toUInt16.toUInt32.toInt32)), (.int (1 : Int32)), (.ref q)]) (mkF m 25 #[.val (.ref r0), .val (.ref q), .val (.int (1 : Int32))] [(.int w1), (.int (1 : Int32)), (.ref q)]) := by
    intro target kt
    refine XS.i2c X16.here hx rfl (hb hby d9_25) rfl ?_
    exact kt
  obtain ⟨cl21, Ar21, qc21, Sz21, Mn21, Hs21, Gs21⟩ := id V_q_12
  have hin21 : ¬ ((1 : Int32) < 0 ∨ cl21.slots.size ≤ ((1 : Int32)).toNatClampNeg) := inb_of Sz21 ⟨by decide, by decide⟩
  obtain ⟨T21, h21, X21, e21, W21, st21⟩ := stC X16 hx hZ e16 Ar21 (j := (1 : Int32)) hin21 (g := (mkF m 26 #[.val (.ref r0), .val (.ref q), .val (.int (1 : Int32))] [(.int (w1.toUInt32.toUInt16.toUInt32.toInt32)), (.int (1 : Int32)), (.ref q)])) rfl rfl (hb hby d9_26)
  have V_q_21 : Arv Z h21 q k3 .char (3 : Int32) [(.int w0), (.int (nar .char (w1.toUInt32.toUInt16.toUInt32.toInt32))), (.int (0 : Int32))] (.int (0 : Int32)) := Arv.set Ar21 qc21 Sz21 Mn21 Hs21 Gs21 (fits_nar_char _) W21 1 rfl (Nat.le_of_ble_eq_true rfl)
  have Od_21 := Od_12.wr W21 g_q
  have Fb_21 := Fb_12.other W21 (Or.inl ne_r0_q)
  have Fl_21 := Fl_12.other W21 (Or.inl ne_r0_q)
  have Er_21 := Er_12.wr W21
  have Hh_21 := Hh_12.other W21 ne_bb_q
  have Sf_q_21 := Safe.wr W21 Sf_q_12 CA_12.1 Sf_q_12
  have CA_21 := CA_12.trans (CHr.wr W21 Sf_q_12 CA_12.1)
  have Z_21 : n0 ≤ h21.size := Nat.le_trans Z_12 (Keep.of_wr W21).1
  have Kp_21 : Keep h0 h21 [] := Kp_12.wr W21 (Or.inr sz_q)
  have N21 := Fr.snoc X21 N12 g_q
  rw [own_nc2 ew1] at V_q_21
  have st22 : own_S p e below T21 (mkF m 11 #[.val (.ref r0), .val (.ref q), .val (.int (2 : Int32))] [(.ref r0), (.int (2 : Int32))]) (mkF m 27 #[.val (.ref r0), .val (.ref q), .val (.int (1 : Int32))] []) := by
    intro target kt
    refine XS.iinc X21.here hx rfl (hb hby d9_27) rfl (l' := #[.val (.ref r0), .val (.ref q), .val (.int (2 : Int32))]) rfl ?_
    refine XS.goto X21.here hx rfl (pc0 := 30) (pc' := 9) rfl (hb hby d9_30) (by decide) (by decide) ?_
    refine XS.iloadN X21.here hx rfl (hb hby d9_9) rfl ?_
    refine XS.aloadN X21.here hx rfl (hb hby d9_10) rfl rfl ?_
    exact kt
  obtain ⟨T23, X23, e23, st23⟩ := getF X21 hx hZ hown (host := "") (Or.inl (own_w hw 56 rfl)) Via.refl e21 Fl_21 (g := (mkF m 11 #[.val (.ref r0), .val (.ref q), .val (.int (2 : Int32))] [(.ref r0), (.int (2 : Int32))])) rfl rfl (hb hby d9_11)
  have st24 : own_S p e below T23 (mkF m 20 #[.val (.ref r0), .val (.ref q), .val (.int (2 : Int32))] [(.ref r0), (.int (2 : Int32)), (.ref q)]) (mkF m 14 #[.val (.ref r0), .val (.ref q), .val (.int (2 : Int32))] [(.int (3 : Int32)), (.int (2 : Int32))]) := by
    intro target kt
    refine XS.icmpNo X23.here hx rfl (hb hby d9_14) rfl (tlt (by decide : ((2 : Int32) < (3 : Int32)))).2.1 ?_
    refine XS.aloadN X23.here hx rfl (hb hby d9_17) rfl rfl ?_
    refine XS.iloadN X23.here hx rfl (hb hby d9_18) rfl ?_
    refine XS.aloadN X23.here hx rfl (hb hby d9_19) rfl rfl ?_
    exact kt
  obtain ⟨T25, X25, e25, st25⟩ := getF X23 hx hZ hown (host := "") (Or.inl (own_w hw 33 rfl)) Via.refl e23 Fb_21 (g := (mkF m 20 #[.val (.ref r0), .val (.ref q), .val (.int (2 : Int32))] [(.ref r0), (.int (2 : Int32)), (.ref q)])) rfl rfl (hb hby d9_20)
  have st26 : own_S p e below T25 (mkF m 24 #[.val (.ref r0), .val (.ref q), .val (.int (2 : Int32))] [(.int (2 : Int32)), (.ref bb), (.int (2 : Int32)), (.ref q)]) (mkF m 23 #[.val (.ref r0), .val (.ref q), .val (.int (2 : Int32))] [(.ref bb), (.int (2 : Int32)), (.ref q)]) := by
    intro target kt
    refine XS.iloadN X25.here hx rfl (hb hby d9_23) rfl ?_
    exact kt
  obtain ⟨cl27, Ar27, qc27, Sz27, Mn27, Hs27, Gs27⟩ := id Hh_21
  have hin27 : ¬ ((2 : Int32) < 0 ∨ cl27.slots.size ≤ ((2 : Int32)).toNatClampNeg) := own_in6 Sz27 ⟨by decide, by decide⟩
  have hat27 : cl27.slots[((2 : Int32)).toNatClampNeg]? = some (.int w2) := atH Hs27 hin27 u2
  have st28 : own_S p e below T25 (mkF m 25 #[.val (.ref r0), .val (.ref q), .val (.int (2 : Int32))] [(.int w2), (.int (2 : Int32)), (.ref q)]) (mkF m 24 #[.val (.ref r0), .val (.ref q), .val (.int (2 : Int32))] [(.int (2 : Int32)), (.ref bb), (.int (2 : Int32)), (.ref q)]) := fun target kt => X25.baloadBytes hx (j := (2 : Int32)) (v := (.int w2)) (by rw [e25]; exact Ar27.1) (State.isArrayOf_alike hZ.alike Ar27.2.1) Ar27.2.2 hin27 hat27 (g := (mkF m 24 #[.val (.ref r0), .val (.ref q), .val (.int (2 : Int32))] [(.int (2 : Int32)), (.ref bb), (.int (2 : Int32)), (.ref q)])) rfl rfl (hb hby d9_24) _ kt
  have st29 : own_S p e below T25 (mkF m 26 #[.val (.ref r0), .val (.ref q), .val (.int (2 : Int32))] [(.int (w2.toUInt32.toUInt16.toUInt32.toInt32)), (.int (2 : Int32)), (.ref q)]) (mkF m 25 #[.val (.ref r0), .val (.ref q), .val (.int (2 : Int32))] [(.int w2), (.int (2 : Int32)), (.ref q)]) := by
    intro target kt
    refine XS.i2c X25.here hx rfl (hb hby d9_25) rfl ?_
    exact kt
  obtain ⟨cl30, Ar30, qc30, Sz30, Mn30, Hs30, Gs30⟩ := id V_q_21
  have hin30 : ¬ ((2 : Int32) < 0 ∨ cl30.slots.size ≤ ((2 : Int32)).toNatClampNeg) := inb_of Sz30 ⟨by decide, by decide⟩
  obtain ⟨T30, h30, X30, e30, W30, st30⟩ := stC X25 hx hZ e25 Ar30 (j := (2 : Int32)) hin30 (g := (mkF m 26 #[.val (.ref r0), .val (.ref q), .val (.int (2 : Int32))] [(.int (w2.toUInt32.toUInt16.toUInt32.toInt32)), (.int (2 : Int32)), (.ref q)])) rfl rfl (hb hby d9_26)
  have V_q_30 : Arv Z h30 q k3 .char (3 : Int32) [(.int w0), (.int w1), (.int (nar .char (w2.toUInt32.toUInt16.toUInt32.toInt32)))] (.int (0 : Int32)) := Arv.set Ar30 qc30 Sz30 Mn30 Hs30 Gs30 (fits_nar_char _) W30 2 rfl (Nat.le_of_ble_eq_true rfl)
  have Od_30 := Od_21.wr W30 g_q
  have Fb_30 := Fb_21.other W30 (Or.inl ne_r0_q)
  have Fl_30 := Fl_21.other W30 (Or.inl ne_r0_q)
  have Er_30 := Er_21.wr W30
  have Hh_30 := Hh_21.other W30 ne_bb_q
  have Sf_q_30 := Safe.wr W30 Sf_q_21 CA_21.1 Sf_q_21
  have CA_30 := CA_21.trans (CHr.wr W30 Sf_q_21 CA_21.1)
  have Z_30 : n0 ≤ h30.size := Nat.le_trans Z_21 (Keep.of_wr W30).1
  have Kp_30 : Keep h0 h30 [] := Kp_21.wr W30 (Or.inr sz_q)
  have N30 := Fr.snoc X30 N21 g_q
  rw [own_nc2 ew2] at V_q_30
  have st31 : own_S p e below T30 (mkF m 11 #[.val (.ref r0), .val (.ref q), .val (.int (3 : Int32))] [(.ref r0), (.int (3 : Int32))]) (mkF m 27 #[.val (.ref r0), .val (.ref q), .val (.int (2 : Int32))] []) := by
    intro target kt
    refine XS.iinc X30.here hx rfl (hb hby d9_27) rfl (l' := #[.val (.ref r0), .val (.ref q), .val (.int (3 : Int32))]) rfl ?_
    refine XS.goto X30.here hx rfl (pc0 := 30) (pc' := 9) rfl (hb hby d9_30) (by decide) (by decide) ?_
    refine XS.iloadN X30.here hx rfl (hb hby d9_9) rfl ?_
    refine XS.aloadN X30.here hx rfl (hb hby d9_10) rfl rfl ?_
    exact kt
  obtain ⟨T32, X32, e32, st32⟩ := getF X30 hx hZ hown (host := "") (Or.inl (own_w hw 56 rfl)) Via.refl e30 Fl_30 (g := (mkF m 11 #[.val (.ref r0), .val (.ref q), .val (.int (3 : Int32))] [(.ref r0), (.int (3 : Int32))])) rfl rfl (hb hby d9_11)
  have st33 : own_S p e below T32 (mkF m 33 #[.val (.ref r0), .val (.ref q), .val (.int (3 : Int32))] []) (mkF m 14 #[.val (.ref r0), .val (.ref q), .val (.int (3 : Int32))] [(.int (3 : Int32)), (.int (3 : Int32))]) := by
    intro target kt
    refine XS.icmpYes X32.here hx rfl (pc0 := 14) (pc' := 33) rfl (hb hby d9_14) rfl (flt (by decide : ¬ ((3 : Int32) < (3 : Int32)))).2.1 (by decide) (by decide) ?_
    exact kt
  obtain ⟨T34, h34, X34, e34, E34, A34, D34, -, st34⟩ := newO X32 hx hZ hown (own_w hw 58 rfl) (own_w hw 6 rfl) (own_w hw 7 rfl) e32 (g := (mkF m 33 #[.val (.ref r0), .val (.ref q), .val (.int (3 : Int32))] [])) rfl (hb hby d9_33) (by decide) (by decide)
  obtain ⟨t, g34⟩ : ∃ z, z = h30.size := ⟨_, rfl⟩
  rw [← g34] at A34 D34 st34
  have g_t : n0 ≤ t := Nat.le_trans Z_30 (Nat.le_of_eq g34.symm)
  have sz_t : h0.size ≤ t := Nat.le_trans Kp_30.1 (Nat.le_of_eq g34.symm)
  have Sf_t : Safe Z own_EL s.vm h30 t := Safe.new (Nat.le_of_eq g34.symm)
  have ne_r0_t : r0 ≠ t := Nat.ne_of_lt (Nat.lt_of_lt_of_le Fb_30.lt (Nat.le_of_eq g34.symm))
  have ne_bb_t : bb ≠ t := Nat.ne_of_lt (Nat.lt_of_lt_of_le Hh_30.lt (Nat.le_of_eq g34.symm))
  have ne_q_t : q ≠ t := Nat.ne_of_lt (Nat.lt_of_lt_of_le V_q_30.lt (Nat.le_of_eq g34.symm))
  have Od_34 := Od_30.ext E34
  have Fb_34 := Fb_30.ext E34
  have Fl_34 := Fl_30.ext E34
  have Er_34 := Er_30.ext E34
  have Hh_34 := Hh_30.ext E34
  have Sf_q_34 := Safe.ext E34 CA_30.1 Sf_q_30
  have V_q_34 := V_q_30.ext E34
  have Sf_t_34 := Safe.ext E34 CA_30.1 Sf_t
  have CA_34 := CA_30.trans (CHr.ext E34 CA_30.1)
  have Z_34 : n0 ≤ h34.size := Nat.le_trans Z_30 E34.1
  have Kp_34 : Keep h0 h34 [] := Kp_30.ext E34
  have E_t : Exa Z h34 t "java/lang/String" := A34
  have F_value_t : Fld Z h34 t "java/lang/String" "value" "[B" .null := D34 (Or.inr (own_w hw 20 rfl)) (ty := (.array .byte)) (by decide)
  have F_coder_t : Fld Z h34 t "java/lang/String" "coder" "B" (.int (0 : Int32)) := D34 (Or.inr (own_w hw 21 rfl)) (ty := .byte) (by decide)
  have st35 : own_S p e below T34 (mkF m 38 #[.val (.ref r0), .val (.ref q), .val (.int (3 : Int32))] [(.ref q), (.ref t), (.ref t)]) (mkF m 36 #[.val (.ref r0), .val (.ref q), .val (.int (3 : Int32))] [(.ref t)]) := by
    intro target kt
    refine XS.dup X34.here hx rfl (hb hby d9_36) rfl rfl ?_
    refine XS.aloadN X34.here hx rfl (hb hby d9_37) rfl rfl ?_
    exact kt
  have hwords : ∀ d ∈ StrChars.Road.words, d.before a0 Z = true := fun d hd => hw d ((by decide +kernel : ∀ d ∈ StrChars.Road.words, d ∈ tables_1) d hd)
  obtain ⟨_, _, ⟨T36, L36, k36, n36⟩, -, X36, ⟨Lc36, hQ36, l36, y36, z36⟩, st36⟩ := X34.specialBack hx (y := (⟨"java/lang/String", "<init>", "([C)V"⟩ : MethodName)) rfl hown (mvT hZ (own_w hw 59 rfl)) (mvT hZ (own_w hw 9 rfl)) (mvT hZ (own_w hw 10 rfl)) (by decide) (StrChars.Road.backV (W := 1) hZ hwords (kI := 4) (own_w hw 6 rfl) (cs := ([w0, w1, w2] : List Int32)) (bs := ([w0, w1, w2] : List Int32).map (fun c => c.toInt8.toInt32)) (n := 3) g_t Z_34 E_t F_value_t F_coder_t V_q_34 (SB.1.ext Od_34.2) SB.2.1 rfl rfl (by decide) (by decide) (own_hp (own_allS ew0 (own_allS ew1 (own_allS ew2 own_all0)))) rfl (by decide) (by decide)) (g := (mkF m 38 #[.val (.ref r0), .val (.ref q), .val (.int (3 : Int32))] [(.ref q), (.ref t), (.ref t)])) rfl (by rw [hml]; rfl) (Steps.refl _) (a := t) (argsL := [(.ref q)]) (rest := [(.ref t)]) (lenOf pd_1 rfl) rfl (by show 2 * 0 + _ ≤ _; exact Nat.le_of_eq rfl) (hb hby d9_38) (fun _ _ => ⟨rfl, e34, (by decide : 2 + 1 ≤ _), (by decide : 7 + 3 ≤ _)⟩)
  dsimp only [Pt.U, Pt.locs, Pt.cells, Pt.slots] at X36 l36 y36 z36 st36 hQ36
  subst l36 y36 z36
  obtain ⟨rfl, Nq36, K36, Et, Ct, yy, ky, u1_, szy, u3_, Fvt, Vy⟩ := hQ36
  have N36 := Fr.app N30 Nq36
  have Od_36 := Od_34.keep K36 (allS g_t (all0))
  have Fb_36 := Fb_34.keep K36 (ninS ne_r0_t nin0)
  have Fl_36 := Fl_34.keep K36 (ninS ne_r0_t nin0)
  have Er_36 := Er_34.keep K36
  have Hh_36 := Hh_34.keep K36 (ninS ne_bb_t nin0)
  have Sf_q_36 := Safe.keep K36 (allS Sf_t_34 all0) CA_34.1 Sf_q_34
  have V_q_36 := V_q_34.keep K36 (ninS ne_q_t nin0)
  have Sf_t_36 := Safe.keep K36 (allS Sf_t_34 all0) CA_34.1 Sf_t_34
  have E_t_36 := E_t.keep K36
  have CA_36 := CA_34.trans (CHr.keep K36 (allS Sf_t_34 all0) CA_34.1)
  have Z_36 : n0 ≤ T36.heap.size := Nat.le_trans Z_34 K36.1
  have Kp_36 : Keep h0 T36.heap [] := Kp_34.trans K36 (allS (Or.inr sz_t) (all0))
  obtain ⟨fs, hr, hrun, hended, hRW⟩ := Jvm.Stand.leaveW (s := s) (vm₁ := s.vm) X36 ((State.WarmedH.refl s).since 0) (Nat.zero_le _) (v := some (.ref t)) (fun h => by rw [Bd.returns] at h; cases h)
  have CE : CHr Z own_EL s.vm s.heap T36.vm T36.heap := by
    rw [hh]
    exact CA_36.trans (CHv.at (vm0 := s.vm) (s := s) X36 hZ hEL CA_36.1)
  refine ⟨_, _, pre0 _ (st1 _ (st2 _ (st3 _ (st4 _ (st5 _ (st6 _ (st7 _ (st8 _ (st10 _ (st11 _ (st12 _ (st13 _ (st14 _ (st15 _ (st16 _ (st17 _ (st19 _ (st20 _ (st21 _ (st22 _ (st23 _ (st24 _ (st25 _ (st26 _ (st28 _ (st29 _ (st30 _ (st31 _ (st32 _ (st33 _ (st34 _ (st35 _ (st36.trans ?_))))))))))))))))))))))))))))))))), hrun, hended, _, _, rfl, ?_, CE, hRW.1, hRW.2.1, hRW.2.2.1, hRW.2.2.2.mono (by decide) (by decide)⟩
  · show Steps p.tables e below (T36.setTop (mkF m 41 #[.val (.ref r0), .val (.ref q), .val (.int (3 : Int32))] [(.ref t)])) _
    jvm_step X36.here [X36.here.top, hx, (hb hby d9_41), X36.method', Bd.returns, Value.isRef, FieldType.isReference]
    first | (intro acts; rw [hr _ acts rfl rfl rfl]) | rw [hr _ _ rfl rfl rfl]
    exact Steps.refl _
  · show Q_rmTs3 Z r0 cs fm bb kb hst w0 w1 w2 h0 n0 _ T36.heap _
    exact ⟨t, rfl, N36, Kp_36, sz_t, Et, Ct, yy, ky, Fvt, Vy⟩
theorem ef_rmTs4 (m : MethodId) (x0 : Addr) : entryFrame m #[(.ref x0)] 3 = mkF m 0 #[.val (.ref x0), .unset, .unset] [] := by first | (simp [entryFrame, mkF, argsToLocals, Value.category]; done) | rfl
def Q_rmTs4 (Z : State) (r0 : Addr) (cs : Int32) (fm : Value) (bb : Addr) (kb : ClassId) (hst : List (Int32 × Value)) (w0 : Int32) (w1 : Int32) (w2 : Int32) (w3 : Int32) (h0 : Heap) (n0 : Nat) (v : Option Value) (h : Heap) (L : List Loc) : Prop := ∃ t, v = some (.ref t) ∧ Fr n0 L ∧ Keep h0 h [] ∧ h0.size ≤ t ∧ Exa Z h t "java/lang/String" ∧ Fld Z h t "java/lang/String" "coder" "B" (.int (0 : Int32)) ∧ ∃ y ky, Fld Z h t "java/lang/String" "value" "[B" (.ref y) ∧ Arv Z h y ky .byte (4 : Int32) (own_bs ([w0, w1, w2, w3] : List Int32)) (.int (0 : Int32))
set_option maxRecDepth 65536 in
set_option maxHeartbeats 40000000 in
theorem rmTs4 (l : Launch) (Z : State) (a0 : Array Value) (hw : ∀ d ∈ tables_1, d.before a0 Z = true) (ws : List Jvm.Cond) (r0 : Addr) (cs : Int32) (fm : Value) (bb : Addr) (kb : ClassId) (hst : List (Int32 × Value)) (w0 : Int32) (w1 : Int32) (w2 : Int32) (w3 : Int32) (h0 : Heap) (n0 : Nat) (Z0 : n0 ≤ h0.size) (SB : own_St Z cs fm) (Od : Old Z n0 h0) (Fb : Fld Z h0 r0 "com/example/murray_hill/murrayhill/AsciiLine" "bytes" "[B" (.ref bb)) (Fl : Fld Z h0 r0 "com/example/murray_hill/murrayhill/AsciiLine" "length" "I" (.int (4 : Int32))) (Er : Exa Z h0 r0 "com/example/murray_hill/murrayhill/AsciiLine") (Hh : Arh Z h0 bb kb .byte (6 : Int32) hst [] (.int (0 : Int32))) (ew0 : own_c7 w0) (ew1 : own_c7 w1) (ew2 : own_c7 w2) (ew3 : own_c7 w3) (u0 : getH hst [] (.int (0 : Int32)) ((0 : Int32)).toNatClampNeg = (.int w0)) (u1 : getH hst [] (.int (0 : Int32)) ((1 : Int32)).toNatClampNeg = (.int w1)) (u2 : getH hst [] (.int (0 : Int32)) ((2 : Int32)).toNatClampNeg = (.int w2)) (u3 : getH hst [] (.int (0 : Int32)) ((3 : Int32)).toNatClampNeg = (.int w3)) :
    MetFree l (⟨"com/example/murray_hill/murrayhill/AsciiLine", "toString", "()Ljava/lang/String;"⟩ : MethodName) (head1 (Jvm.Cond.code (⟨"com/example/murray_hill/murrayhill/AsciiLine", "toString", "()Ljava/lang/String;"⟩ : MethodName) prog_2_method_8_code 3 (some (.object "java/lang/String")) :: ws) ({ frames := 4, cells := 6, slots := 16, locals := 66 } : Room)) (fun a U => a = #[(.ref r0)] ∧ Z.Warmed39 U.vm ∧ U.heap = h0 ∧ CHv Z own_EL U.vm h0) (fun _ _ _ _ _ => True) (fun _ U o U' => ∃ v L, o = .returned v ∧ Q_rmTs4 Z r0 cs fm bb kb hst w0 w1 w2 w3 h0 n0 v U'.heap L ∧ CHr Z own_EL U.vm U.heap U'.vm U'.heap ∧ ReturnedEndW U o U' L ({ frames := 4, cells := 6, slots := 16, locals := 66 } : Room).cells ({ frames := 4, cells := 6, slots := 16, locals := 66 } : Room).slots) := by
  refine MetFree.of_bodySF (plainFor_of_name pn_2) hisR ?_
  intro p e s m args below meth c s₁ Bd hml0 hP hK
  obtain ⟨rfl, hZ, hh, hCH⟩ := hP
  have hx := Bd.exec
  have hby := Bd.bytes
  have hml : c.maxLocals = 3 := hml0
  have hown : s.vm.findClass "com/example/murray_hill/murrayhill/AsciiLine" = some m.cls := findClass_of_methodNamed Bd.named
  have hnm := (name_of_methodNamed Bd.named Bd.method).1
  have X0 : Stand p l e ({ frames := 4, cells := 6, slots := 16, locals := 66 } : Room) s m #[(.ref r0)] below meth c s₁ [] 0 0 := Stand.of_body Bd
  have e0 : s₁.heap = h0 := by rw [← hh, Bd.state]; rfl
  have N0 := Fr.nil n0
  have pre0 : ∀ t, Steps p.tables e below (s₁.setTop (mkF m 0 #[.val (.ref r0), .unset, .unset] [])) t → Steps p.tables e below (s₁.setTop (entryFrame m #[(.ref r0)] 3)) t := fun t k => castTop (ef_rmTs4 m r0) k
  have CA := CHr.refl hCH
  have hEL := own_hEL hw
  have wS : ∀ a ∈ Bundle.stringAtoms, a.before a0 Z = true := fun d hd => hw d ((by decide +kernel : ∀ d ∈ Bundle.stringAtoms, d ∈ tables_1) d hd)
  have Kp : Keep h0 h0 [] := Keep.refl _ _
  have st1 : own_S p e below s₁ (mkF m 1 #[.val (.ref r0), .unset, .unset] [(.ref r0)]) (mkF m 0 #[.val (.ref r0), .unset, .unset] []) := by
    intro target kt
    refine XS.aloadN X0.here hx rfl (hb hby d9_0) rfl rfl ?_
    exact kt
  obtain ⟨T2, X2, e2, st2⟩ := getF X0 hx hZ hown (host := "") (Or.inl (own_w hw 56 rfl)) Via.refl e0 Fl (g := (mkF m 1 #[.val (.ref r0), .unset, .unset] [(.ref r0)])) rfl rfl (hb hby d9_1)
  obtain ⟨T3, h3, k3, X3, e3, E3, A3, st3⟩ := newP X2 hx hZ (own_w hw 0 rfl) e2 (g := (mkF m 4 #[.val (.ref r0), .unset, .unset] [(.int (4 : Int32))])) rfl (hb hby d9_4) rfl (by decide) (cap := 4) (by decide) (by decide) (by decide) (by decide)
  obtain ⟨q, g3⟩ : ∃ z, z = h0.size := ⟨_, rfl⟩
  rw [← g3] at A3 st3
  have g_q : n0 ≤ q := Nat.le_trans Z0 (Nat.le_of_eq g3.symm)
  have sz_q : h0.size ≤ q := Nat.le_trans Kp.1 (Nat.le_of_eq g3.symm)
  have Sf_q : Safe Z own_EL s.vm h0 q := Safe.new (Nat.le_of_eq g3.symm)
  have ne_r0_q : r0 ≠ q := Nat.ne_of_lt (Nat.lt_of_lt_of_le Fb.lt (Nat.le_of_eq g3.symm))
  have ne_bb_q : bb ≠ q := Nat.ne_of_lt (Nat.lt_of_lt_of_le Hh.lt (Nat.le_of_eq g3.symm))
  have Od_3 := Od.ext E3
  have Fb_3 := Fb.ext E3
  have Fl_3 := Fl.ext E3
  have Er_3 := Er.ext E3
  have Hh_3 := Hh.ext E3
  have Sf_q_3 := Safe.ext E3 CA.1 Sf_q
  have CA_3 := CA.trans (CHr.ext E3 CA.1)
  have Z_3 : n0 ≤ h3.size := Nat.le_trans Z0 E3.1
  have Kp_3 : Keep h0 h3 [] := Kp.ext E3
  have V_q : Arv Z h3 q k3 .char (4 : Int32) [(.int (0 : Int32)), (.int (0 : Int32)), (.int (0 : Int32)), (.int (0 : Int32))] (.int (0 : Int32)) := (Arv.new A3 (by decide)).pad (pad_rep [] (.int (0 : Int32)) 4)
  have st4 : own_S p e below T3 (mkF m 11 #[.val (.ref r0), .val (.ref q), .val (.int (0 : Int32))] [(.ref r0), (.int (0 : Int32))]) (mkF m 6 #[.val (.ref r0), .unset, .unset] [(.ref q)]) := by
    intro target kt
    refine XS.astoreN X3.here hx rfl (hb hby d9_6) rfl rfl (l' := #[.val (.ref r0), .val (.ref q), .unset]) rfl ?_
    refine XS.iconst X3.here hx rfl (hb hby d9_7) ?_
    refine XS.istoreN X3.here hx rfl (hb hby d9_8) rfl (l' := #[.val (.ref r0), .val (.ref q), .val (.int (0 : Int32))]) rfl ?_
    refine XS.iloadN X3.here hx rfl (hb hby d9_9) rfl ?_
    refine XS.aloadN X3.here hx rfl (hb hby d9_10) rfl rfl ?_
    exact kt
  obtain ⟨T5, X5, e5, st5⟩ := getF X3 hx hZ hown (host := "") (Or.inl (own_w hw 56 rfl)) Via.refl e3 Fl_3 (g := (mkF m 11 #[.val (.ref r0), .val (.ref q), .val (.int (0 : Int32))] [(.ref r0), (.int (0 : Int32))])) rfl rfl (hb hby d9_11)
  have st6 : own_S p e below T5 (mkF m 20 #[.val (.ref r0), .val (.ref q), .val (.int (0 : Int32))] [(.ref r0), (.int (0 : Int32)), (.ref q)]) (mkF m 14 #[.val (.ref r0), .val (.ref q), .val (.int (0 : Int32))] [(.int (4 : Int32)), (.int (0 : Int32))]) := by
    intro target kt
    refine XS.icmpNo X5.here hx rfl (hb hby d9_14) rfl (tlt (by decide : ((0 : Int32) < (4 : Int32)))).2.1 ?_
    refine XS.aloadN X5.here hx rfl (hb hby d9_17) rfl rfl ?_
    refine XS.iloadN X5.here hx rfl (hb hby d9_18) rfl ?_
    refine XS.aloadN X5.here hx rfl (hb hby d9_19) rfl rfl ?_
    exact kt
  obtain ⟨T7, X7, e7, st7⟩ := getF X5 hx hZ hown (host := "") (Or.inl (own_w hw 33 rfl)) Via.refl e5 Fb_3 (g := (mkF m 20 #[.val (.ref r0), .val (.ref q), .val (.int (0 : Int32))] [(.ref r0), (.int (0 : Int32)), (.ref q)])) rfl rfl (hb hby d9_20)
  have st8 : own_S p e below T7 (mkF m 24 #[.val (.ref r0), .val (.ref q), .val (.int (0 : Int32))] [(.int (0 : Int32)), (.ref bb), (.int (0 : Int32)), (.ref q)]) (mkF m 23 #[.val (.ref r0), .val (.ref q), .val (.int (0 : Int32))] [(.ref bb), (.int (0 : Int32)), (.ref q)]) := by
    intro target kt
    refine XS.iloadN X7.here hx rfl (hb hby d9_23) rfl ?_
    exact kt
  obtain ⟨cl9, Ar9, qc9, Sz9, Mn9, Hs9, Gs9⟩ := id Hh_3
  have hin9 : ¬ ((0 : Int32) < 0 ∨ cl9.slots.size ≤ ((0 : Int32)).toNatClampNeg) := own_in6 Sz9 ⟨by decide, by decide⟩
  have hat9 : cl9.slots[((0 : Int32)).toNatClampNeg]? = some (.int w0) := atH Hs9 hin9 u0
  have st10 : own_S p e below T7 (mkF m 25 #[.val (.ref r0), .val (.ref q), .val (.int (0 : Int32))] [(.int w0), (.int (0 : Int32)), (.ref q)]) (mkF m 24 #[.val (.ref r0), .val (.ref q), .val (.int (0 : Int32))] [(.int (0 : Int32)), (.ref bb), (.int (0 : Int32)), (.ref q)]) := fun target kt => X7.baloadBytes hx (j := (0 : Int32)) (v := (.int w0)) (by rw [e7]; exact Ar9.1) (State.isArrayOf_alike hZ.alike Ar9.2.1) Ar9.2.2 hin9 hat9 (g := (mkF m 24 #[.val (.ref r0), .val (.ref q), .val (.int (0 : Int32))] [(.int (0 : Int32)), (.ref bb), (.int (0 : Int32)), (.ref q)])) rfl rfl (hb hby d9_24) _ kt
  have st11 : own_S p e below T7 (mkF m 26 #[.val (.ref r0), .val (.ref q), .val (.int (0 : Int32))] [(.int (w0.toUInt32.toUInt16.toUInt32.toInt32)), (.int (0 : Int32)), (.ref q)]) (mkF m 25 #[.val (.ref r0), .val (.ref q), .val (.int (0 : Int32))] [(.int w0), (.int (0 : Int32)), (.ref q)]) := by
    intro target kt
    refine XS.i2c X7.here hx rfl (hb hby d9_25) rfl ?_
    exact kt
  obtain ⟨cl12, Ar12, qc12, Sz12, Mn12, Hs12, Gs12⟩ := id V_q
  have hin12 : ¬ ((0 : Int32) < 0 ∨ cl12.slots.size ≤ ((0 : Int32)).toNatClampNeg) := inb_of Sz12 ⟨by decide, by decide⟩
  obtain ⟨T12, h12, X12, e12, W12, st12⟩ := stC X7 hx hZ e7 Ar12 (j := (0 : Int32)) hin12 (g := (mkF m 26 #[.val (.ref r0), .val (.ref q), .val (.int (0 : Int32))] [(.int (w0.toUInt32.toUInt16.toUInt32.toInt32)), (.int (0 : Int32)), (.ref q)])) rfl rfl (hb hby d9_26)
  have V_q_12 : Arv Z h12 q k3 .char (4 : Int32) [(.int (nar .char (w0.toUInt32.toUInt16.toUInt32.toInt32))), (.int (0 : Int32)), (.int (0 : Int32)), (.int (0 : Int32))] (.int (0 : Int32)) := Arv.set Ar12 qc12 Sz12 Mn12 Hs12 Gs12 (fits_nar_char _) W12 0 rfl (Nat.le_of_ble_eq_true rfl)
  have Od_12 := Od_3.wr W12 g_q
  have Fb_12 := Fb_3.other W12 (Or.inl ne_r0_q)
  have Fl_12 := Fl_3.other W12 (Or.inl ne_r0_q)
  have Er_12 := Er_3.wr W12
  have Hh_12 := Hh_3.other W12 ne_bb_q
  have Sf_q_12 := Safe.wr W12 Sf_q_3 CA_3.1 Sf_q_3
  have CA_12 := CA_3.trans (CHr.wr W12 Sf_q_3 CA_3.1)
  have Z_12 : n0 ≤ h12.size := Nat.le_trans Z_3 (Keep.of_wr W12).1
  have Kp_12 : Keep h0 h12 [] := Kp_3.wr W12 (Or.inr sz_q)
  have N12 := Fr.snoc X12 N0 g_q
  rw [own_nc2 ew0] at V_q_12
  have st13 : own_S p e below T12 (mkF m 11 #[.val (.ref r0), .val (.ref q), .val (.int (1 : Int32))] [(.ref r0), (.int (1 : Int32))]) (mkF m 27 #[.val (.ref r0), .val (.ref q), .val (.int (0 : Int32))] []) := by
    intro target kt
    refine XS.iinc X12.here hx rfl (hb hby d9_27) rfl (l' := #[.val (.ref r0), .val (.ref q), .val (.int (1 : Int32))]) rfl ?_
    refine XS.goto X12.here hx rfl (pc0 := 30) (pc' := 9) rfl (hb hby d9_30) (by decide) (by decide) ?_
    refine XS.iloadN X12.here hx rfl (hb hby d9_9) rfl ?_
    refine XS.aloadN X12.here hx rfl (hb hby d9_10) rfl rfl ?_
    exact kt
  obtain ⟨T14, X14, e14, st14⟩ := getF X12 hx hZ hown (host := "") (Or.inl (own_w hw 56 rfl)) Via.refl e12 Fl_12 (g := (mkF m 11 #[.val (.ref r0), .val (.ref q), .val (.int (1 : Int32))] [(.ref r0), (.int (1 : Int32))])) rfl rfl (hb hby d9_11)
  have st15 : own_S p e below T14 (mkF m 20 #[.val (.ref r0), .val (.ref q), .val (.int (1 : Int32))] [(.ref r0), (.int (1 : Int32)), (.ref q)]) (mkF m 14 #[.val (.ref r0), .val (.ref q), .val (.int (1 : Int32))] [(.int (4 : Int32)), (.int (1 : Int32))]) := by
    intro target kt
    refine XS.icmpNo X14.here hx rfl (hb hby d9_14) rfl (tlt (by decide : ((1 : Int32) < (4 : Int32)))).2.1 ?_
    refine XS.aloadN X14.here hx rfl (hb hby d9_17) rfl rfl ?_
    refine XS.iloadN X14.here hx rfl (hb hby d9_18) rfl ?_
    refine XS.aloadN X14.here hx rfl (hb hby d9_19) rfl rfl ?_
    exact kt
  obtain ⟨T16, X16, e16, st16⟩ := getF X14 hx hZ hown (host := "") (Or.inl (own_w hw 33 rfl)) Via.refl e14 Fb_12 (g := (mkF m 20 #[.val (.ref r0), .val (.ref q), .val (.int (1 : Int32))] [(.ref r0), (.int (1 : Int32)), (.ref q)])) rfl rfl (hb hby d9_20)
  have st17 : own_S p e below T16 (mkF m 24 #[.val (.ref r0), .val (.ref q), .val (.int (1 : Int32))] [(.int (1 : Int32)), (.ref bb), (.int (1 : Int32)), (.ref q)]) (mkF m 23 #[.val (.ref r0), .val (.ref q), .val (.int (1 : Int32))] [(.ref bb), (.int (1 : Int32)), (.ref q)]) := by
    intro target kt
    refine XS.iloadN X16.here hx rfl (hb hby d9_23) rfl ?_
    exact kt
  obtain ⟨cl18, Ar18, qc18, Sz18, Mn18, Hs18, Gs18⟩ := id Hh_12
  have hin18 : ¬ ((1 : Int32) < 0 ∨ cl18.slots.size ≤ ((1 : Int32)).toNatClampNeg) := own_in6 Sz18 ⟨by decide, by decide⟩
  have hat18 : cl18.slots[((1 : Int32)).toNatClampNeg]? = some (.int w1) := atH Hs18 hin18 u1
  have st19 : own_S p e below T16 (mkF m 25 #[.val (.ref r0), .val (.ref q), .val (.int (1 : Int32))] [(.int w1), (.int (1 : Int32)), (.ref q)]) (mkF m 24 #[.val (.ref r0), .val (.ref q), .val (.int (1 : Int32))] [(.int (1 : Int32)), (.ref bb), (.int (1 : Int32)), (.ref q)]) := fun target kt => X16.baloadBytes hx (j := (1 : Int32)) (v := (.int w1)) (by rw [e16]; exact Ar18.1) (State.isArrayOf_alike hZ.alike Ar18.2.1) Ar18.2.2 hin18 hat18 (g := (mkF m 24 #[.val (.ref r0), .val (.ref q), .val (.int (1 : Int32))] [(.int (1 : Int32)), (.ref bb), (.int (1 : Int32)), (.ref q)])) rfl rfl (hb hby d9_24) _ kt
  have st20 : own_S p e below T16 (mkF m 26 #[.val (.ref r0), .val (.ref q), .val (.int (1 : Int32))] [(.int (w1.toUInt32.toUInt16.toUInt32.toInt32)), (.int (1 : Int32)), (.ref q)]) (mkF m 25 #[.val (.ref r0), .val (.ref q), .val (.int (1 : Int32))] [(.int w1), (.int (1 : Int32)), (.ref q)]) := by
    intro target kt
    refine XS.i2c X16.here hx rfl (hb hby d9_25) rfl ?_
    exact kt
  obtain ⟨cl21, Ar21, qc21, Sz21, Mn21, Hs21, Gs21⟩ := id V_q_12
  have hin21 : ¬ ((1 : Int32) < 0 ∨ cl21.slots.size ≤ ((1 : Int32)).toNatClampNeg) := inb_of Sz21 ⟨by decide, by decide⟩
  obtain ⟨T21, h21, X21, e21, W21, st21⟩ := stC X16 hx hZ e16 Ar21 (j := (1 : Int32)) hin21 (g := (mkF m 26 #[.val (.ref r0), .val (.ref q), .val (.int (1 : Int32))] [(.int (w1.toUInt32.toUInt16.toUInt32.toInt32)), (.int (1 : Int32)), (.ref q)])) rfl rfl (hb hby d9_26)
  have V_q_21 : Arv Z h21 q k3 .char (4 : Int32) [(.int w0), (.int (nar .char (w1.toUInt32.toUInt16.toUInt32.toInt32))), (.int (0 : Int32)), (.int (0 : Int32))] (.int (0 : Int32)) := Arv.set Ar21 qc21 Sz21 Mn21 Hs21 Gs21 (fits_nar_char _) W21 1 rfl (Nat.le_of_ble_eq_true rfl)
  have Od_21 := Od_12.wr W21 g_q
  have Fb_21 := Fb_12.other W21 (Or.inl ne_r0_q)
  have Fl_21 := Fl_12.other W21 (Or.inl ne_r0_q)
  have Er_21 := Er_12.wr W21
  have Hh_21 := Hh_12.other W21 ne_bb_q
  have Sf_q_21 := Safe.wr W21 Sf_q_12 CA_12.1 Sf_q_12
  have CA_21 := CA_12.trans (CHr.wr W21 Sf_q_12 CA_12.1)
  have Z_21 : n0 ≤ h21.size := Nat.le_trans Z_12 (Keep.of_wr W21).1
  have Kp_21 : Keep h0 h21 [] := Kp_12.wr W21 (Or.inr sz_q)
  have N21 := Fr.snoc X21 N12 g_q
  rw [own_nc2 ew1] at V_q_21
  have st22 : own_S p e below T21 (mkF m 11 #[.val (.ref r0), .val (.ref q), .val (.int (2 : Int32))] [(.ref r0), (.int (2 : Int32))]) (mkF m 27 #[.val (.ref r0), .val (.ref q), .val (.int (1 : Int32))] []) := by
    intro target kt
    refine XS.iinc X21.here hx rfl (hb hby d9_27) rfl (l' := #[.val (.ref r0), .val (.ref q), .val (.int (2 : Int32))]) rfl ?_
    refine XS.goto X21.here hx rfl (pc0 := 30) (pc' := 9) rfl (hb hby d9_30) (by decide) (by decide) ?_
    refine XS.iloadN X21.here hx rfl (hb hby d9_9) rfl ?_
    refine XS.aloadN X21.here hx rfl (hb hby d9_10) rfl rfl ?_
    exact kt
  obtain ⟨T23, X23, e23, st23⟩ := getF X21 hx hZ hown (host := "") (Or.inl (own_w hw 56 rfl)) Via.refl e21 Fl_21 (g := (mkF m 11 #[.val (.ref r0), .val (.ref q), .val (.int (2 : Int32))] [(.ref r0), (.int (2 : Int32))])) rfl rfl (hb hby d9_11)
  have st24 : own_S p e below T23 (mkF m 20 #[.val (.ref r0), .val (.ref q), .val (.int (2 : Int32))] [(.ref r0), (.int (2 : Int32)), (.ref q)]) (mkF m 14 #[.val (.ref r0), .val (.ref q), .val (.int (2 : Int32))] [(.int (4 : Int32)), (.int (2 : Int32))]) := by
    intro target kt
    refine XS.icmpNo X23.here hx rfl (hb hby d9_14) rfl (tlt (by decide : ((2 : Int32) < (4 : Int32)))).2.1 ?_
    refine XS.aloadN X23.here hx rfl (hb hby d9_17) rfl rfl ?_
    refine XS.iloadN X23.here hx rfl (hb hby d9_18) rfl ?_
    refine XS.aloadN X23.here hx rfl (hb hby d9_19) rfl rfl ?_
    exact kt
  obtain ⟨T25, X25, e25, st25⟩ := getF X23 hx hZ hown (host := "") (Or.inl (own_w hw 33 rfl)) Via.refl e23 Fb_21 (g := (mkF m 20 #[.val (.ref r0), .val (.ref q), .val (.int (2 : Int32))] [(.ref r0), (.int (2 : Int32)), (.ref q)])) rfl rfl (hb hby d9_20)
  have st26 : own_S p e below T25 (mkF m 24 #[.val (.ref r0), .val (.ref q), .val (.int (2 : Int32))] [(.int (2 : Int32)), (.ref bb), (.int (2 : Int32)), (.ref q)]) (mkF m 23 #[.val (.ref r0), .val (.ref q), .val (.int (2 : Int32))] [(.ref bb), (.int (2 : Int32)), (.ref q)]) := by
    intro target kt
    refine XS.iloadN X25.here hx rfl (hb hby d9_23) rfl ?_
    exact kt
  obtain ⟨cl27, Ar27, qc27, Sz27, Mn27, Hs27, Gs27⟩ := id Hh_21
  have hin27 : ¬ ((2 : Int32) < 0 ∨ cl27.slots.size ≤ ((2 : Int32)).toNatClampNeg) := own_in6 Sz27 ⟨by decide, by decide⟩
  have hat27 : cl27.slots[((2 : Int32)).toNatClampNeg]? = some (.int w2) := atH Hs27 hin27 u2
  have st28 : own_S p e below T25 (mkF m 25 #[.val (.ref r0), .val (.ref q), .val (.int (2 : Int32))] [(.int w2), (.int (2 : Int32)), (.ref q)]) (mkF m 24 #[.val (.ref r0), .val (.ref q), .val (.int (2 : Int32))] [(.int (2 : Int32)), (.ref bb), (.int (2 : Int32)), (.ref q)]) := fun target kt => X25.baloadBytes hx (j := (2 : Int32)) (v := (.int w2)) (by rw [e25]; exact Ar27.1) (State.isArrayOf_alike hZ.alike Ar27.2.1) Ar27.2.2 hin27 hat27 (g := (mkF m 24 #[.val (.ref r0), .val (.ref q), .val (.int (2 : Int32))] [(.int (2 : Int32)), (.ref bb), (.int (2 : Int32)), (.ref q)])) rfl rfl (hb hby d9_24) _ kt
  have st29 : own_S p e below T25 (mkF m 26 #[.val (.ref r0), .val (.ref q), .val (.int (2 : Int32))] [(.int (w2.toUInt32.toUInt16.toUInt32.toInt32)), (.int (2 : Int32)), (.ref q)]) (mkF m 25 #[.val (.ref r0), .val (.ref q), .val (.int (2 : Int32))] [(.int w2), (.int (2 : Int32)), (.ref q)]) := by
    intro target kt
    refine XS.i2c X25.here hx rfl (hb hby d9_25) rfl ?_
    exact kt
  obtain ⟨cl30, Ar30, qc30, Sz30, Mn30, Hs30, Gs30⟩ := id V_q_21
  have hin30 : ¬ ((2 : Int32) < 0 ∨ cl30.slots.size ≤ ((2 : Int32)).toNatClampNeg) := inb_of Sz30 ⟨by decide, by decide⟩
  obtain ⟨T30, h30, X30, e30, W30, st30⟩ := stC X25 hx hZ e25 Ar30 (j := (2 : Int32)) hin30 (g := (mkF m 26 #[.val (.ref r0), .val (.ref q), .val (.int (2 : Int32))] [(.int (w2.toUInt32.toUInt16.toUInt32.toInt32)), (.int (2 : Int32)), (.ref q)])) rfl rfl (hb hby d9_26)
  have V_q_30 : Arv Z h30 q k3 .char (4 : Int32) [(.int w0), (.int w1), (.int (nar .char (w2.toUInt32.toUInt16.toUInt32.toInt32))), (.int (0 : Int32))] (.int (0 : Int32)) := Arv.set Ar30 qc30 Sz30 Mn30 Hs30 Gs30 (fits_nar_char _) W30 2 rfl (Nat.le_of_ble_eq_true rfl)
  have Od_30 := Od_21.wr W30 g_q
  have Fb_30 := Fb_21.other W30 (Or.inl ne_r0_q)
  have Fl_30 := Fl_21.other W30 (Or.inl ne_r0_q)
  have Er_30 := Er_21.wr W30
  have Hh_30 := Hh_21.other W30 ne_bb_q
  have Sf_q_30 := Safe.wr W30 Sf_q_21 CA_21.1 Sf_q_21
  have CA_30 := CA_21.trans (CHr.wr W30 Sf_q_21 CA_21.1)
  have Z_30 : n0 ≤ h30.size := Nat.le_trans Z_21 (Keep.of_wr W30).1
  have Kp_30 : Keep h0 h30 [] := Kp_21.wr W30 (Or.inr sz_q)
  have N30 := Fr.snoc X30 N21 g_q
  rw [own_nc2 ew2] at V_q_30
  have st31 : own_S p e below T30 (mkF m 11 #[.val (.ref r0), .val (.ref q), .val (.int (3 : Int32))] [(.ref r0), (.int (3 : Int32))]) (mkF m 27 #[.val (.ref r0), .val (.ref q), .val (.int (2 : Int32))] []) := by
    intro target kt
    refine XS.iinc X30.here hx rfl (hb hby d9_27) rfl (l' := #[.val (.ref r0), .val (.ref q), .val (.int (3 : Int32))]) rfl ?_
    refine XS.goto X30.here hx rfl (pc0 := 30) (pc' := 9) rfl (hb hby d9_30) (by decide) (by decide) ?_
    refine XS.iloadN X30.here hx rfl (hb hby d9_9) rfl ?_
    refine XS.aloadN X30.here hx rfl (hb hby d9_10) rfl rfl ?_
    exact kt
  obtain ⟨T32, X32, e32, st32⟩ := getF X30 hx hZ hown (host := "") (Or.inl (own_w hw 56 rfl)) Via.refl e30 Fl_30 (g := (mkF m 11 #[.val (.ref r0), .val (.ref q), .val (.int (3 : Int32))] [(.ref r0), (.int (3 : Int32))])) rfl rfl (hb hby d9_11)
  have st33 : own_S p e below T32 (mkF m 20 #[.val (.ref r0), .val (.ref q), .val (.int (3 : Int32))] [(.ref r0), (.int (3 : Int32)), (.ref q)]) (mkF m 14 #[.val (.ref r0), .val (.ref q), .val (.int (3 : Int32))] [(.int (4 : Int32)), (.int (3 : Int32))]) := by
    intro target kt
    refine XS.icmpNo X32.here hx rfl (hb hby d9_14) rfl (tlt (by decide : ((3 : Int32) < (4 : Int32)))).2.1 ?_
    refine XS.aloadN X32.here hx rfl (hb hby d9_17) rfl rfl ?_
    refine XS.iloadN X32.here hx rfl (hb hby d9_18) rfl ?_
    refine XS.aloadN X32.here hx rfl (hb hby d9_19) rfl rfl ?_
    exact kt
  obtain ⟨T34, X34, e34, st34⟩ := getF X32 hx hZ hown (host := "") (Or.inl (own_w hw 33 rfl)) Via.refl e32 Fb_30 (g := (mkF m 20 #[.val (.ref r0), .val (.ref q), .val (.int (3 : Int32))] [(.ref r0), (.int (3 : Int32)), (.ref q)])) rfl rfl (hb hby d9_20)
  have st35 : own_S p e below T34 (mkF m 24 #[.val (.ref r0), .val (.ref q), .val (.int (3 : Int32))] [(.int (3 : Int32)), (.ref bb), (.int (3 : Int32)), (.ref q)]) (mkF m 23 #[.val (.ref r0), .val (.ref q), .val (.int (3 : Int32))] [(.ref bb), (.int (3 : Int32)), (.ref q)]) := by
    intro target kt
    refine XS.iloadN X34.here hx rfl (hb hby d9_23) rfl ?_
    exact kt
  obtain ⟨cl36, Ar36, qc36, Sz36, Mn36, Hs36, Gs36⟩ := id Hh_30
  have hin36 : ¬ ((3 : Int32) < 0 ∨ cl36.slots.size ≤ ((3 : Int32)).toNatClampNeg) := own_in6 Sz36 ⟨by decide, by decide⟩
  have hat36 : cl36.slots[((3 : Int32)).toNatClampNeg]? = some (.int w3) := atH Hs36 hin36 u3
  have st37 : own_S p e below T34 (mkF m 25 #[.val (.ref r0), .val (.ref q), .val (.int (3 : Int32))] [(.int w3), (.int (3 : Int32)), (.ref q)]) (mkF m 24 #[.val (.ref r0), .val (.ref q), .val (.int (3 : Int32))] [(.int (3 : Int32)), (.ref bb), (.int (3 : Int32)), (.ref q)]) := fun target kt => X34.baloadBytes hx (j := (3 : Int32)) (v := (.int w3)) (by rw [e34]; exact Ar36.1) (State.isArrayOf_alike hZ.alike Ar36.2.1) Ar36.2.2 hin36 hat36 (g := (mkF m 24 #[.val (.ref r0), .val (.ref q), .val (.int (3 : Int32))] [(.int (3 : Int32)), (.ref bb), (.int (3 : Int32)), (.ref q)])) rfl rfl (hb hby d9_24) _ kt
  have st38 : own_S p e below T34 (mkF m 26 #[.val (.ref r0), .val (.ref q), .val (.int (3 : Int32))] [(.int (w3.toUInt32.toUInt16.toUInt32.toInt32)), (.int (3 : Int32)), (.ref q)]) (mkF m 25 #[.val (.ref r0), .val (.ref q), .val (.int (3 : Int32))] [(.int w3), (.int (3 : Int32)), (.ref q)]) := by
    intro target kt
    refine XS.i2c X34.here hx rfl (hb hby d9_25) rfl ?_
    exact kt
  obtain ⟨cl39, Ar39, qc39, Sz39, Mn39, Hs39, Gs39⟩ := id V_q_30
  have hin39 : ¬ ((3 : Int32) < 0 ∨ cl39.slots.size ≤ ((3 : Int32)).toNatClampNeg) := inb_of Sz39 ⟨by decide, by decide⟩
  obtain ⟨T39, h39, X39, e39, W39, st39⟩ := stC X34 hx hZ e34 Ar39 (j := (3 : Int32)) hin39 (g := (mkF m 26 #[.val (.ref r0), .val (.ref q), .val (.int (3 : Int32))] [(.int (w3.toUInt32.toUInt16.toUInt32.toInt32)), (.int (3 : Int32)), (.ref q)])) rfl rfl (hb hby d9_26)
  have V_q_39 : Arv Z h39 q k3 .char (4 : Int32) [(.int w0), (.int w1), (.int w2), (.int (nar .char (w3.toUInt32.toUInt16.toUInt32.toInt32)))] (.int (0 : Int32)) := Arv.set Ar39 qc39 Sz39 Mn39 Hs39 Gs39 (fits_nar_char _) W39 3 rfl (Nat.le_of_ble_eq_true rfl)
  have Od_39 := Od_30.wr W39 g_q
  have Fb_39 := Fb_30.other W39 (Or.inl ne_r0_q)
  have Fl_39 := Fl_30.other W39 (Or.inl ne_r0_q)
  have Er_39 := Er_30.wr W39
  have Hh_39 := Hh_30.other W39 ne_bb_q
  have Sf_q_39 := Safe.wr W39 Sf_q_30 CA_30.1 Sf_q_30
  have CA_39 := CA_30.trans (CHr.wr W39 Sf_q_30 CA_30.1)
  have Z_39 : n0 ≤ h39.size := Nat.le_trans Z_30 (Keep.of_wr W39).1
  have Kp_39 : Keep h0 h39 [] := Kp_30.wr W39 (Or.inr sz_q)
  have N39 := Fr.snoc X39 N30 g_q
  rw [own_nc2 ew3] at V_q_39
  have st40 : own_S p e below T39 (mkF m 11 #[.val (.ref r0), .val (.ref q), .val (.int (4 : Int32))] [(.ref r0), (.int (4 : Int32))]) (mkF m 27 #[.val (.ref r0), .val (.ref q), .val (.int (3 : Int32))] []) := by
    intro target kt
    refine XS.iinc X39.here hx rfl (hb hby d9_27) rfl (l' := #[.val (.ref r0), .val (.ref q), .val (.int (4 : Int32))]) rfl ?_
    refine XS.goto X39.here hx rfl (pc0 := 30) (pc' := 9) rfl (hb hby d9_30) (by decide) (by decide) ?_
    refine XS.iloadN X39.here hx rfl (hb hby d9_9) rfl ?_
    refine XS.aloadN X39.here hx rfl (hb hby d9_10) rfl rfl ?_
    exact kt
  obtain ⟨T41, X41, e41, st41⟩ := getF X39 hx hZ hown (host := "") (Or.inl (own_w hw 56 rfl)) Via.refl e39 Fl_39 (g := (mkF m 11 #[.val (.ref r0), .val (.ref q), .val (.int (4 : Int32))] [(.ref r0), (.int (4 : Int32))])) rfl rfl (hb hby d9_11)
  have st42 : own_S p e below T41 (mkF m 33 #[.val (.ref r0), .val (.ref q), .val (.int (4 : Int32))] []) (mkF m 14 #[.val (.ref r0), .val (.ref q), .val (.int (4 : Int32))] [(.int (4 : Int32)), (.int (4 : Int32))]) := by
    intro target kt
    refine XS.icmpYes X41.here hx rfl (pc0 := 14) (pc' := 33) rfl (hb hby d9_14) rfl (flt (by decide : ¬ ((4 : Int32) < (4 : Int32)))).2.1 (by decide) (by decide) ?_
    exact kt
  obtain ⟨T43, h43, X43, e43, E43, A43, D43, -, st43⟩ := newO X41 hx hZ hown (own_w hw 58 rfl) (own_w hw 6 rfl) (own_w hw 7 rfl) e41 (g := (mkF m 33 #[.val (.ref r0), .val (.ref q), .val (.int (4 : Int32))] [])) rfl (hb hby d9_33) (by decide) (by decide)
  obtain ⟨t, g43⟩ : ∃ z, z = h39.size := ⟨_, rfl⟩
  rw [← g43] at A43 D43 st43
  have g_t : n0 ≤ t := Nat.le_trans Z_39 (Nat.le_of_eq g43.symm)
  have sz_t : h0.size ≤ t := Nat.le_trans Kp_39.1 (Nat.le_of_eq g43.symm)
  have Sf_t : Safe Z own_EL s.vm h39 t := Safe.new (Nat.le_of_eq g43.symm)
  have ne_r0_t : r0 ≠ t := Nat.ne_of_lt (Nat.lt_of_lt_of_le Fb_39.lt (Nat.le_of_eq g43.symm))
  have ne_bb_t : bb ≠ t := Nat.ne_of_lt (Nat.lt_of_lt_of_le Hh_39.lt (Nat.le_of_eq g43.symm))
  have ne_q_t : q ≠ t := Nat.ne_of_lt (Nat.lt_of_lt_of_le V_q_39.lt (Nat.le_of_eq g43.symm))
  have Od_43 := Od_39.ext E43
  have Fb_43 := Fb_39.ext E43
  have Fl_43 := Fl_39.ext E43
  have Er_43 := Er_39.ext E43
  have Hh_43 := Hh_39.ext E43
  have Sf_q_43 := Safe.ext E43 CA_39.1 Sf_q_39
  have V_q_43 := V_q_39.ext E43
  have Sf_t_43 := Safe.ext E43 CA_39.1 Sf_t
  have CA_43 := CA_39.trans (CHr.ext E43 CA_39.1)
  have Z_43 : n0 ≤ h43.size := Nat.le_trans Z_39 E43.1
  have Kp_43 : Keep h0 h43 [] := Kp_39.ext E43
  have E_t : Exa Z h43 t "java/lang/String" := A43
  have F_value_t : Fld Z h43 t "java/lang/String" "value" "[B" .null := D43 (Or.inr (own_w hw 20 rfl)) (ty := (.array .byte)) (by decide)
  have F_coder_t : Fld Z h43 t "java/lang/String" "coder" "B" (.int (0 : Int32)) := D43 (Or.inr (own_w hw 21 rfl)) (ty := .byte) (by decide)
  have st44 : own_S p e below T43 (mkF m 38 #[.val (.ref r0), .val (.ref q), .val (.int (4 : Int32))] [(.ref q), (.ref t), (.ref t)]) (mkF m 36 #[.val (.ref r0), .val (.ref q), .val (.int (4 : Int32))] [(.ref t)]) := by
    intro target kt
    refine XS.dup X43.here hx rfl (hb hby d9_36) rfl rfl ?_
    refine XS.aloadN X43.here hx rfl (hb hby d9_37) rfl rfl ?_
    exact kt
  have hwords : ∀ d ∈ StrChars.Road.words, d.before a0 Z = true := fun d hd => hw d ((by decide +kernel : ∀ d ∈ StrChars.Road.words, d ∈ tables_1) d hd)
  obtain ⟨_, _, ⟨T45, L45, k45, n45⟩, -, X45, ⟨Lc45, hQ45, l45, y45, z45⟩, st45⟩ := X43.specialBack hx (y := (⟨"java/lang/String", "<init>", "([C)V"⟩ : MethodName)) rfl hown (mvT hZ (own_w hw 59 rfl)) (mvT hZ (own_w hw 9 rfl)) (mvT hZ (own_w hw 10 rfl)) (by decide) (StrChars.Road.backV (W := 1) hZ hwords (kI := 4) (own_w hw 6 rfl) (cs := ([w0, w1, w2, w3] : List Int32)) (bs := ([w0, w1, w2, w3] : List Int32).map (fun c => c.toInt8.toInt32)) (n := 4) g_t Z_43 E_t F_value_t F_coder_t V_q_43 (SB.1.ext Od_43.2) SB.2.1 rfl rfl (by decide) (by decide) (own_hp (own_allS ew0 (own_allS ew1 (own_allS ew2 (own_allS ew3 own_all0))))) rfl (by decide) (by decide)) (g := (mkF m 38 #[.val (.ref r0), .val (.ref q), .val (.int (4 : Int32))] [(.ref q), (.ref t), (.ref t)])) rfl (by rw [hml]; rfl) (Steps.refl _) (a := t) (argsL := [(.ref q)]) (rest := [(.ref t)]) (lenOf pd_1 rfl) rfl (by show 2 * 0 + _ ≤ _; exact Nat.le_of_eq rfl) (hb hby d9_38) (fun _ _ => ⟨rfl, e43, (by decide : 2 + 1 ≤ _), (by decide : 8 + 4 ≤ _)⟩)
  dsimp only [Pt.U, Pt.locs, Pt.cells, Pt.slots] at X45 l45 y45 z45 st45 hQ45
  subst l45 y45 z45
  obtain ⟨rfl, Nq45, K45, Et, Ct, yy, ky, u1_, szy, u3_, Fvt, Vy⟩ := hQ45
  have N45 := Fr.app N39 Nq45
  have Od_45 := Od_43.keep K45 (allS g_t (all0))
  have Fb_45 := Fb_43.keep K45 (ninS ne_r0_t nin0)
  have Fl_45 := Fl_43.keep K45 (ninS ne_r0_t nin0)
  have Er_45 := Er_43.keep K45
  have Hh_45 := Hh_43.keep K45 (ninS ne_bb_t nin0)
  have Sf_q_45 := Safe.keep K45 (allS Sf_t_43 all0) CA_43.1 Sf_q_43
  have V_q_45 := V_q_43.keep K45 (ninS ne_q_t nin0)
  have Sf_t_45 := Safe.keep K45 (allS Sf_t_43 all0) CA_43.1 Sf_t_43
  have E_t_45 := E_t.keep K45
  have CA_45 := CA_43.trans (CHr.keep K45 (allS Sf_t_43 all0) CA_43.1)
  have Z_45 : n0 ≤ T45.heap.size := Nat.le_trans Z_43 K45.1
  have Kp_45 : Keep h0 T45.heap [] := Kp_43.trans K45 (allS (Or.inr sz_t) (all0))
  obtain ⟨fs, hr, hrun, hended, hRW⟩ := Jvm.Stand.leaveW (s := s) (vm₁ := s.vm) X45 ((State.WarmedH.refl s).since 0) (Nat.zero_le _) (v := some (.ref t)) (fun h => by rw [Bd.returns] at h; cases h)
  have CE : CHr Z own_EL s.vm s.heap T45.vm T45.heap := by
    rw [hh]
    exact CA_45.trans (CHv.at (vm0 := s.vm) (s := s) X45 hZ hEL CA_45.1)
  refine ⟨_, _, pre0 _ (st1 _ (st2 _ (st3 _ (st4 _ (st5 _ (st6 _ (st7 _ (st8 _ (st10 _ (st11 _ (st12 _ (st13 _ (st14 _ (st15 _ (st16 _ (st17 _ (st19 _ (st20 _ (st21 _ (st22 _ (st23 _ (st24 _ (st25 _ (st26 _ (st28 _ (st29 _ (st30 _ (st31 _ (st32 _ (st33 _ (st34 _ (st35 _ (st37 _ (st38 _ (st39 _ (st40 _ (st41 _ (st42 _ (st43 _ (st44 _ (st45.trans ?_))))))))))))))))))))))))))))))))))))))))), hrun, hended, _, _, rfl, ?_, CE, hRW.1, hRW.2.1, hRW.2.2.1, hRW.2.2.2.mono (by decide) (by decide)⟩
  · show Steps p.tables e below (T45.setTop (mkF m 41 #[.val (.ref r0), .val (.ref q), .val (.int (4 : Int32))] [(.ref t)])) _
    jvm_step X45.here [X45.here.top, hx, (hb hby d9_41), X45.method', Bd.returns, Value.isRef, FieldType.isReference]
    first | (intro acts; rw [hr _ acts rfl rfl rfl]) | rw [hr _ _ rfl rfl rfl]
    exact Steps.refl _
  · show Q_rmTs4 Z r0 cs fm bb kb hst w0 w1 w2 w3 h0 n0 _ T45.heap _
    exact ⟨t, rfl, N45, Kp_45, sz_t, Et, Ct, yy, ky, Fvt, Vy⟩
theorem ef_rmTs5 (m : MethodId) (x0 : Addr) : entryFrame m #[(.ref x0)] 3 = mkF m 0 #[.val (.ref x0), .unset, .unset] [] := by first | (simp [entryFrame, mkF, argsToLocals, Value.category]; done) | rfl
def Q_rmTs5 (Z : State) (r0 : Addr) (cs : Int32) (fm : Value) (bb : Addr) (kb : ClassId) (hst : List (Int32 × Value)) (w0 : Int32) (w1 : Int32) (w2 : Int32) (w3 : Int32) (w4 : Int32) (h0 : Heap) (n0 : Nat) (v : Option Value) (h : Heap) (L : List Loc) : Prop := ∃ t, v = some (.ref t) ∧ Fr n0 L ∧ Keep h0 h [] ∧ h0.size ≤ t ∧ Exa Z h t "java/lang/String" ∧ Fld Z h t "java/lang/String" "coder" "B" (.int (0 : Int32)) ∧ ∃ y ky, Fld Z h t "java/lang/String" "value" "[B" (.ref y) ∧ Arv Z h y ky .byte (5 : Int32) (own_bs ([w0, w1, w2, w3, w4] : List Int32)) (.int (0 : Int32))
set_option maxRecDepth 65536 in
set_option maxHeartbeats 40000000 in
theorem rmTs5 (l : Launch) (Z : State) (a0 : Array Value) (hw : ∀ d ∈ tables_1, d.before a0 Z = true) (ws : List Jvm.Cond) (r0 : Addr) (cs : Int32) (fm : Value) (bb : Addr) (kb : ClassId) (hst : List (Int32 × Value)) (w0 : Int32) (w1 : Int32) (w2 : Int32) (w3 : Int32) (w4 : Int32) (h0 : Heap) (n0 : Nat) (Z0 : n0 ≤ h0.size) (SB : own_St Z cs fm) (Od : Old Z n0 h0) (Fb : Fld Z h0 r0 "com/example/murray_hill/murrayhill/AsciiLine" "bytes" "[B" (.ref bb)) (Fl : Fld Z h0 r0 "com/example/murray_hill/murrayhill/AsciiLine" "length" "I" (.int (5 : Int32))) (Er : Exa Z h0 r0 "com/example/murray_hill/murrayhill/AsciiLine") (Hh : Arh Z h0 bb kb .byte (6 : Int32) hst [] (.int (0 : Int32))) (ew0 : own_c7 w0) (ew1 : own_c7 w1) (ew2 : own_c7 w2) (ew3 : own_c7 w3) (ew4 : own_c7 w4) (u0 : getH hst [] (.int (0 : Int32)) ((0 : Int32)).toNatClampNeg = (.int w0)) (u1 : getH hst [] (.int (0 : Int32)) ((1 : Int32)).toNatClampNeg = (.int w1)) (u2 : getH hst [] (.int (0 : Int32)) ((2 : Int32)).toNatClampNeg = (.int w2)) (u3 : getH hst [] (.int (0 : Int32)) ((3 : Int32)).toNatClampNeg = (.int w3)) (u4 : getH hst [] (.int (0 : Int32)) ((4 : Int32)).toNatClampNeg = (.int w4)) :
    MetFree l (⟨"com/example/murray_hill/murrayhill/AsciiLine", "toString", "()Ljava/lang/String;"⟩ : MethodName) (head1 (Jvm.Cond.code (⟨"com/example/murray_hill/murrayhill/AsciiLine", "toString", "()Ljava/lang/String;"⟩ : MethodName) prog_2_method_8_code 3 (some (.object "java/lang/String")) :: ws) ({ frames := 4, cells := 6, slots := 16, locals := 66 } : Room)) (fun a U => a = #[(.ref r0)] ∧ Z.Warmed39 U.vm ∧ U.heap = h0 ∧ CHv Z own_EL U.vm h0) (fun _ _ _ _ _ => True) (fun _ U o U' => ∃ v L, o = .returned v ∧ Q_rmTs5 Z r0 cs fm bb kb hst w0 w1 w2 w3 w4 h0 n0 v U'.heap L ∧ CHr Z own_EL U.vm U.heap U'.vm U'.heap ∧ ReturnedEndW U o U' L ({ frames := 4, cells := 6, slots := 16, locals := 66 } : Room).cells ({ frames := 4, cells := 6, slots := 16, locals := 66 } : Room).slots) := by
  refine MetFree.of_bodySF (plainFor_of_name pn_2) hisR ?_
  intro p e s m args below meth c s₁ Bd hml0 hP hK
  obtain ⟨rfl, hZ, hh, hCH⟩ := hP
  have hx := Bd.exec
  have hby := Bd.bytes
  have hml : c.maxLocals = 3 := hml0
  have hown : s.vm.findClass "com/example/murray_hill/murrayhill/AsciiLine" = some m.cls := findClass_of_methodNamed Bd.named
  have hnm := (name_of_methodNamed Bd.named Bd.method).1
  have X0 : Stand p l e ({ frames := 4, cells := 6, slots := 16, locals := 66 } : Room) s m #[(.ref r0)] below meth c s₁ [] 0 0 := Stand.of_body Bd
  have e0 : s₁.heap = h0 := by rw [← hh, Bd.state]; rfl
  have N0 := Fr.nil n0
  have pre0 : ∀ t, Steps p.tables e below (s₁.setTop (mkF m 0 #[.val (.ref r0), .unset, .unset] [])) t → Steps p.tables e below (s₁.setTop (entryFrame m #[(.ref r0)] 3)) t := fun t k => castTop (ef_rmTs5 m r0) k
  have CA := CHr.refl hCH
  have hEL := own_hEL hw
  have wS : ∀ a ∈ Bundle.stringAtoms, a.before a0 Z = true := fun d hd => hw d ((by decide +kernel : ∀ d ∈ Bundle.stringAtoms, d ∈ tables_1) d hd)
  have Kp : Keep h0 h0 [] := Keep.refl _ _
  have st1 : own_S p e below s₁ (mkF m 1 #[.val (.ref r0), .unset, .unset] [(.ref r0)]) (mkF m 0 #[.val (.ref r0), .unset, .unset] []) := by
    intro target kt
    refine XS.aloadN X0.here hx rfl (hb hby d9_0) rfl rfl ?_
    exact kt
  obtain ⟨T2, X2, e2, st2⟩ := getF X0 hx hZ hown (host := "") (Or.inl (own_w hw 56 rfl)) Via.refl e0 Fl (g := (mkF m 1 #[.val (.ref r0), .unset, .unset] [(.ref r0)])) rfl rfl (hb hby d9_1)
  obtain ⟨T3, h3, k3, X3, e3, E3, A3, st3⟩ := newP X2 hx hZ (own_w hw 0 rfl) e2 (g := (mkF m 4 #[.val (.ref r0), .unset, .unset] [(.int (5 : Int32))])) rfl (hb hby d9_4) rfl (by decide) (cap := 5) (by decide) (by decide) (by decide) (by decide)
  obtain ⟨q, g3⟩ : ∃ z, z = h0.size := ⟨_, rfl⟩
  rw [← g3] at A3 st3
  have g_q : n0 ≤ q := Nat.le_trans Z0 (Nat.le_of_eq g3.symm)
  have sz_q : h0.size ≤ q := Nat.le_trans Kp.1 (Nat.le_of_eq g3.symm)
  have Sf_q : Safe Z own_EL s.vm h0 q := Safe.new (Nat.le_of_eq g3.symm)
  have ne_r0_q : r0 ≠ q := Nat.ne_of_lt (Nat.lt_of_lt_of_le Fb.lt (Nat.le_of_eq g3.symm))
  have ne_bb_q : bb ≠ q := Nat.ne_of_lt (Nat.lt_of_lt_of_le Hh.lt (Nat.le_of_eq g3.symm))
  have Od_3 := Od.ext E3
  have Fb_3 := Fb.ext E3
  have Fl_3 := Fl.ext E3
  have Er_3 := Er.ext E3
  have Hh_3 := Hh.ext E3
  have Sf_q_3 := Safe.ext E3 CA.1 Sf_q
  have CA_3 := CA.trans (CHr.ext E3 CA.1)
  have Z_3 : n0 ≤ h3.size := Nat.le_trans Z0 E3.1
  have Kp_3 : Keep h0 h3 [] := Kp.ext E3
  have V_q : Arv Z h3 q k3 .char (5 : Int32) [(.int (0 : Int32)), (.int (0 : Int32)), (.int (0 : Int32)), (.int (0 : Int32)), (.int (0 : Int32))] (.int (0 : Int32)) := (Arv.new A3 (by decide)).pad (pad_rep [] (.int (0 : Int32)) 5)
  have st4 : own_S p e below T3 (mkF m 11 #[.val (.ref r0), .val (.ref q), .val (.int (0 : Int32))] [(.ref r0), (.int (0 : Int32))]) (mkF m 6 #[.val (.ref r0), .unset, .unset] [(.ref q)]) := by
    intro target kt
    refine XS.astoreN X3.here hx rfl (hb hby d9_6) rfl rfl (l' := #[.val (.ref r0), .val (.ref q), .unset]) rfl ?_
    refine XS.iconst X3.here hx rfl (hb hby d9_7) ?_
    refine XS.istoreN X3.here hx rfl (hb hby d9_8) rfl (l' := #[.val (.ref r0), .val (.ref q), .val (.int (0 : Int32))]) rfl ?_
    refine XS.iloadN X3.here hx rfl (hb hby d9_9) rfl ?_
    refine XS.aloadN X3.here hx rfl (hb hby d9_10) rfl rfl ?_
    exact kt
  obtain ⟨T5, X5, e5, st5⟩ := getF X3 hx hZ hown (host := "") (Or.inl (own_w hw 56 rfl)) Via.refl e3 Fl_3 (g := (mkF m 11 #[.val (.ref r0), .val (.ref q), .val (.int (0 : Int32))] [(.ref r0), (.int (0 : Int32))])) rfl rfl (hb hby d9_11)
  have st6 : own_S p e below T5 (mkF m 20 #[.val (.ref r0), .val (.ref q), .val (.int (0 : Int32))] [(.ref r0), (.int (0 : Int32)), (.ref q)]) (mkF m 14 #[.val (.ref r0), .val (.ref q), .val (.int (0 : Int32))] [(.int (5 : Int32)), (.int (0 : Int32))]) := by
    intro target kt
    refine XS.icmpNo X5.here hx rfl (hb hby d9_14) rfl (tlt (by decide : ((0 : Int32) < (5 : Int32)))).2.1 ?_
    refine XS.aloadN X5.here hx rfl (hb hby d9_17) rfl rfl ?_
    refine XS.iloadN X5.here hx rfl (hb hby d9_18) rfl ?_
    refine XS.aloadN X5.here hx rfl (hb hby d9_19) rfl rfl ?_
    exact kt
  obtain ⟨T7, X7, e7, st7⟩ := getF X5 hx hZ hown (host := "") (Or.inl (own_w hw 33 rfl)) Via.refl e5 Fb_3 (g := (mkF m 20 #[.val (.ref r0), .val (.ref q), .val (.int (0 : Int32))] [(.ref r0), (.int (0 : Int32)), (.ref q)])) rfl rfl (hb hby d9_20)
  have st8 : own_S p e below T7 (mkF m 24 #[.val (.ref r0), .val (.ref q), .val (.int (0 : Int32))] [(.int (0 : Int32)), (.ref bb), (.int (0 : Int32)), (.ref q)]) (mkF m 23 #[.val (.ref r0), .val (.ref q), .val (.int (0 : Int32))] [(.ref bb), (.int (0 : Int32)), (.ref q)]) := by
    intro target kt
    refine XS.iloadN X7.here hx rfl (hb hby d9_23) rfl ?_
    exact kt
  obtain ⟨cl9, Ar9, qc9, Sz9, Mn9, Hs9, Gs9⟩ := id Hh_3
  have hin9 : ¬ ((0 : Int32) < 0 ∨ cl9.slots.size ≤ ((0 : Int32)).toNatClampNeg) := own_in6 Sz9 ⟨by decide, by decide⟩
  have hat9 : cl9.slots[((0 : Int32)).toNatClampNeg]? = some (.int w0) := atH Hs9 hin9 u0
  have st10 : own_S p e below T7 (mkF m 25 #[.val (.ref r0), .val (.ref q), .val (.int (0 : Int32))] [(.int w0), (.int (0 : Int32)), (.ref q)]) (mkF m 24 #[.val (.ref r0), .val (.ref q), .val (.int (0 : Int32))] [(.int (0 : Int32)), (.ref bb), (.int (0 : Int32)), (.ref q)]) := fun target kt => X7.baloadBytes hx (j := (0 : Int32)) (v := (.int w0)) (by rw [e7]; exact Ar9.1) (State.isArrayOf_alike hZ.alike Ar9.2.1) Ar9.2.2 hin9 hat9 (g := (mkF m 24 #[.val (.ref r0), .val (.ref q), .val (.int (0 : Int32))] [(.int (0 : Int32)), (.ref bb), (.int (0 : Int32)), (.ref q)])) rfl rfl (hb hby d9_24) _ kt
  have st11 : own_S p e below T7 (mkF m 26 #[.val (.ref r0), .val (.ref q), .val (.int (0 : Int32))] [(.int (w0.toUInt32.toUInt16.toUInt32.toInt32)), (.int (0 : Int32)), (.ref q)]) (mkF m 25 #[.val (.ref r0), .val (.ref q), .val (.int (0 : Int32))] [(.int w0), (.int (0 : Int32)), (.ref q)]) := by
    intro target kt
    refine XS.i2c X7.here hx rfl (hb hby d9_25) rfl ?_
    exact kt
  obtain ⟨cl12, Ar12, qc12, Sz12, Mn12, Hs12, Gs12⟩ := id V_q
  have hin12 : ¬ ((0 : Int32) < 0 ∨ cl12.slots.size ≤ ((0 : Int32)).toNatClampNeg) := inb_of Sz12 ⟨by decide, by decide⟩
  obtain ⟨T12, h12, X12, e12, W12, st12⟩ := stC X7 hx hZ e7 Ar12 (j := (0 : Int32)) hin12 (g := (mkF m 26 #[.val (.ref r0), .val (.ref q), .val (.int (0 : Int32))] [(.int (w0.toUInt32.toUInt16.toUInt32.toInt32)), (.int (0 : Int32)), (.ref q)])) rfl rfl (hb hby d9_26)
  have V_q_12 : Arv Z h12 q k3 .char (5 : Int32) [(.int (nar .char (w0.toUInt32.toUInt16.toUInt32.toInt32))), (.int (0 : Int32)), (.int (0 : Int32)), (.int (0 : Int32)), (.int (0 : Int32))] (.int (0 : Int32)) := Arv.set Ar12 qc12 Sz12 Mn12 Hs12 Gs12 (fits_nar_char _) W12 0 rfl (Nat.le_of_ble_eq_true rfl)
  have Od_12 := Od_3.wr W12 g_q
  have Fb_12 := Fb_3.other W12 (Or.inl ne_r0_q)
  have Fl_12 := Fl_3.other W12 (Or.inl ne_r0_q)
  have Er_12 := Er_3.wr W12
  have Hh_12 := Hh_3.other W12 ne_bb_q
  have Sf_q_12 := Safe.wr W12 Sf_q_3 CA_3.1 Sf_q_3
  have CA_12 := CA_3.trans (CHr.wr W12 Sf_q_3 CA_3.1)
  have Z_12 : n0 ≤ h12.size := Nat.le_trans Z_3 (Keep.of_wr W12).1
  have Kp_12 : Keep h0 h12 [] := Kp_3.wr W12 (Or.inr sz_q)
  have N12 := Fr.snoc X12 N0 g_q
  rw [own_nc2 ew0] at V_q_12
  have st13 : own_S p e below T12 (mkF m 11 #[.val (.ref r0), .val (.ref q), .val (.int (1 : Int32))] [(.ref r0), (.int (1 : Int32))]) (mkF m 27 #[.val (.ref r0), .val (.ref q), .val (.int (0 : Int32))] []) := by
    intro target kt
    refine XS.iinc X12.here hx rfl (hb hby d9_27) rfl (l' := #[.val (.ref r0), .val (.ref q), .val (.int (1 : Int32))]) rfl ?_
    refine XS.goto X12.here hx rfl (pc0 := 30) (pc' := 9) rfl (hb hby d9_30) (by decide) (by decide) ?_
    refine XS.iloadN X12.here hx rfl (hb hby d9_9) rfl ?_
    refine XS.aloadN X12.here hx rfl (hb hby d9_10) rfl rfl ?_
    exact kt
  obtain ⟨T14, X14, e14, st14⟩ := getF X12 hx hZ hown (host := "") (Or.inl (own_w hw 56 rfl)) Via.refl e12 Fl_12 (g := (mkF m 11 #[.val (.ref r0), .val (.ref q), .val (.int (1 : Int32))] [(.ref r0), (.int (1 : Int32))])) rfl rfl (hb hby d9_11)
  have st15 : own_S p e below T14 (mkF m 20 #[.val (.ref r0), .val (.ref q), .val (.int (1 : Int32))] [(.ref r0), (.int (1 : Int32)), (.ref q)]) (mkF m 14 #[.val (.ref r0), .val (.ref q), .val (.int (1 : Int32))] [(.int (5 : Int32)), (.int (1 : Int32))]) := by
    intro target kt
    refine XS.icmpNo X14.here hx rfl (hb hby d9_14) rfl (tlt (by decide : ((1 : Int32) < (5 : Int32)))).2.1 ?_
    refine XS.aloadN X14.here hx rfl (hb hby d9_17) rfl rfl ?_
    refine XS.iloadN X14.here hx rfl (hb hby d9_18) rfl ?_
    refine XS.aloadN X14.here hx rfl (hb hby d9_19) rfl rfl ?_
    exact kt
  obtain ⟨T16, X16, e16, st16⟩ := getF X14 hx hZ hown (host := "") (Or.inl (own_w hw 33 rfl)) Via.refl e14 Fb_12 (g := (mkF m 20 #[.val (.ref r0), .val (.ref q), .val (.int (1 : Int32))] [(.ref r0), (.int (1 : Int32)), (.ref q)])) rfl rfl (hb hby d9_20)
  have st17 : own_S p e below T16 (mkF m 24 #[.val (.ref r0), .val (.ref q), .val (.int (1 : Int32))] [(.int (1 : Int32)), (.ref bb), (.int (1 : Int32)), (.ref q)]) (mkF m 23 #[.val (.ref r0), .val (.ref q), .val (.int (1 : Int32))] [(.ref bb), (.int (1 : Int32)), (.ref q)]) := by
    intro target kt
    refine XS.iloadN X16.here hx rfl (hb hby d9_23) rfl ?_
    exact kt
  obtain ⟨cl18, Ar18, qc18, Sz18, Mn18, Hs18, Gs18⟩ := id Hh_12
  have hin18 : ¬ ((1 : Int32) < 0 ∨ cl18.slots.size ≤ ((1 : Int32)).toNatClampNeg) := own_in6 Sz18 ⟨by decide, by decide⟩
  have hat18 : cl18.slots[((1 : Int32)).toNatClampNeg]? = some (.int w1) := atH Hs18 hin18 u1
  have st19 : own_S p e below T16 (mkF m 25 #[.val (.ref r0), .val (.ref q), .val (.int (1 : Int32))] [(.int w1), (.int (1 : Int32)), (.ref q)]) (mkF m 24 #[.val (.ref r0), .val (.ref q), .val (.int (1 : Int32))] [(.int (1 : Int32)), (.ref bb), (.int (1 : Int32)), (.ref q)]) := fun target kt => X16.baloadBytes hx (j := (1 : Int32)) (v := (.int w1)) (by rw [e16]; exact Ar18.1) (State.isArrayOf_alike hZ.alike Ar18.2.1) Ar18.2.2 hin18 hat18 (g := (mkF m 24 #[.val (.ref r0), .val (.ref q), .val (.int (1 : Int32))] [(.int (1 : Int32)), (.ref bb), (.int (1 : Int32)), (.ref q)])) rfl rfl (hb hby d9_24) _ kt
  have st20 : own_S p e below T16 (mkF m 26 #[.val (.ref r0), .val (.ref q), .val (.int (1 : Int32))] [(.int (w1.toUInt32.toUInt16.toUInt32.toInt32)), (.int (1 : Int32)), (.ref q)]) (mkF m 25 #[.val (.ref r0), .val (.ref q), .val (.int (1 : Int32))] [(.int w1), (.int (1 : Int32)), (.ref q)]) := by
    intro target kt
    refine XS.i2c X16.here hx rfl (hb hby d9_25) rfl ?_
    exact kt
  obtain ⟨cl21, Ar21, qc21, Sz21, Mn21, Hs21, Gs21⟩ := id V_q_12
  have hin21 : ¬ ((1 : Int32) < 0 ∨ cl21.slots.size ≤ ((1 : Int32)).toNatClampNeg) := inb_of Sz21 ⟨by decide, by decide⟩
  obtain ⟨T21, h21, X21, e21, W21, st21⟩ := stC X16 hx hZ e16 Ar21 (j := (1 : Int32)) hin21 (g := (mkF m 26 #[.val (.ref r0), .val (.ref q), .val (.int (1 : Int32))] [(.int (w1.toUInt32.toUInt16.toUInt32.toInt32)), (.int (1 : Int32)), (.ref q)])) rfl rfl (hb hby d9_26)
  have V_q_21 : Arv Z h21 q k3 .char (5 : Int32) [(.int w0), (.int (nar .char (w1.toUInt32.toUInt16.toUInt32.toInt32))), (.int (0 : Int32)), (.int (0 : Int32)), (.int (0 : Int32))] (.int (0 : Int32)) := Arv.set Ar21 qc21 Sz21 Mn21 Hs21 Gs21 (fits_nar_char _) W21 1 rfl (Nat.le_of_ble_eq_true rfl)
  have Od_21 := Od_12.wr W21 g_q
  have Fb_21 := Fb_12.other W21 (Or.inl ne_r0_q)
  have Fl_21 := Fl_12.other W21 (Or.inl ne_r0_q)
  have Er_21 := Er_12.wr W21
  have Hh_21 := Hh_12.other W21 ne_bb_q
  have Sf_q_21 := Safe.wr W21 Sf_q_12 CA_12.1 Sf_q_12
  have CA_21 := CA_12.trans (CHr.wr W21 Sf_q_12 CA_12.1)
  have Z_21 : n0 ≤ h21.size := Nat.le_trans Z_12 (Keep.of_wr W21).1
  have Kp_21 : Keep h0 h21 [] := Kp_12.wr W21 (Or.inr sz_q)
  have N21 := Fr.snoc X21 N12 g_q
  rw [own_nc2 ew1] at V_q_21
  have st22 : own_S p e below T21 (mkF m 11 #[.val (.ref r0), .val (.ref q), .val (.int (2 : Int32))] [(.ref r0), (.int (2 : Int32))]) (mkF m 27 #[.val (.ref r0), .val (.ref q), .val (.int (1 : Int32))] []) := by
    intro target kt
    refine XS.iinc X21.here hx rfl (hb hby d9_27) rfl (l' := #[.val (.ref r0), .val (.ref q), .val (.int (2 : Int32))]) rfl ?_
    refine XS.goto X21.here hx rfl (pc0 := 30) (pc' := 9) rfl (hb hby d9_30) (by decide) (by decide) ?_
    refine XS.iloadN X21.here hx rfl (hb hby d9_9) rfl ?_
    refine XS.aloadN X21.here hx rfl (hb hby d9_10) rfl rfl ?_
    exact kt
  obtain ⟨T23, X23, e23, st23⟩ := getF X21 hx hZ hown (host := "") (Or.inl (own_w hw 56 rfl)) Via.refl e21 Fl_21 (g := (mkF m 11 #[.val (.ref r0), .val (.ref q), .val (.int (2 : Int32))] [(.ref r0), (.int (2 : Int32))])) rfl rfl (hb hby d9_11)
  have st24 : own_S p e below T23 (mkF m 20 #[.val (.ref r0), .val (.ref q), .val (.int (2 : Int32))] [(.ref r0), (.int (2 : Int32)), (.ref q)]) (mkF m 14 #[.val (.ref r0), .val (.ref q), .val (.int (2 : Int32))] [(.int (5 : Int32)), (.int (2 : Int32))]) := by
    intro target kt
    refine XS.icmpNo X23.here hx rfl (hb hby d9_14) rfl (tlt (by decide : ((2 : Int32) < (5 : Int32)))).2.1 ?_
    refine XS.aloadN X23.here hx rfl (hb hby d9_17) rfl rfl ?_
    refine XS.iloadN X23.here hx rfl (hb hby d9_18) rfl ?_
    refine XS.aloadN X23.here hx rfl (hb hby d9_19) rfl rfl ?_
    exact kt
  obtain ⟨T25, X25, e25, st25⟩ := getF X23 hx hZ hown (host := "") (Or.inl (own_w hw 33 rfl)) Via.refl e23 Fb_21 (g := (mkF m 20 #[.val (.ref r0), .val (.ref q), .val (.int (2 : Int32))] [(.ref r0), (.int (2 : Int32)), (.ref q)])) rfl rfl (hb hby d9_20)
  have st26 : own_S p e below T25 (mkF m 24 #[.val (.ref r0), .val (.ref q), .val (.int (2 : Int32))] [(.int (2 : Int32)), (.ref bb), (.int (2 : Int32)), (.ref q)]) (mkF m 23 #[.val (.ref r0), .val (.ref q), .val (.int (2 : Int32))] [(.ref bb), (.int (2 : Int32)), (.ref q)]) := by
    intro target kt
    refine XS.iloadN X25.here hx rfl (hb hby d9_23) rfl ?_
    exact kt
  obtain ⟨cl27, Ar27, qc27, Sz27, Mn27, Hs27, Gs27⟩ := id Hh_21
  have hin27 : ¬ ((2 : Int32) < 0 ∨ cl27.slots.size ≤ ((2 : Int32)).toNatClampNeg) := own_in6 Sz27 ⟨by decide, by decide⟩
  have hat27 : cl27.slots[((2 : Int32)).toNatClampNeg]? = some (.int w2) := atH Hs27 hin27 u2
  have st28 : own_S p e below T25 (mkF m 25 #[.val (.ref r0), .val (.ref q), .val (.int (2 : Int32))] [(.int w2), (.int (2 : Int32)), (.ref q)]) (mkF m 24 #[.val (.ref r0), .val (.ref q), .val (.int (2 : Int32))] [(.int (2 : Int32)), (.ref bb), (.int (2 : Int32)), (.ref q)]) := fun target kt => X25.baloadBytes hx (j := (2 : Int32)) (v := (.int w2)) (by rw [e25]; exact Ar27.1) (State.isArrayOf_alike hZ.alike Ar27.2.1) Ar27.2.2 hin27 hat27 (g := (mkF m 24 #[.val (.ref r0), .val (.ref q), .val (.int (2 : Int32))] [(.int (2 : Int32)), (.ref bb), (.int (2 : Int32)), (.ref q)])) rfl rfl (hb hby d9_24) _ kt
  have st29 : own_S p e below T25 (mkF m 26 #[.val (.ref r0), .val (.ref q), .val (.int (2 : Int32))] [(.int (w2.toUInt32.toUInt16.toUInt32.toInt32)), (.int (2 : Int32)), (.ref q)]) (mkF m 25 #[.val (.ref r0), .val (.ref q), .val (.int (2 : Int32))] [(.int w2), (.int (2 : Int32)), (.ref q)]) := by
    intro target kt
    refine XS.i2c X25.here hx rfl (hb hby d9_25) rfl ?_
    exact kt
  obtain ⟨cl30, Ar30, qc30, Sz30, Mn30, Hs30, Gs30⟩ := id V_q_21
  have hin30 : ¬ ((2 : Int32) < 0 ∨ cl30.slots.size ≤ ((2 : Int32)).toNatClampNeg) := inb_of Sz30 ⟨by decide, by decide⟩
  obtain ⟨T30, h30, X30, e30, W30, st30⟩ := stC X25 hx hZ e25 Ar30 (j := (2 : Int32)) hin30 (g := (mkF m 26 #[.val (.ref r0), .val (.ref q), .val (.int (2 : Int32))] [(.int (w2.toUInt32.toUInt16.toUInt32.toInt32)), (.int (2 : Int32)), (.ref q)])) rfl rfl (hb hby d9_26)
  have V_q_30 : Arv Z h30 q k3 .char (5 : Int32) [(.int w0), (.int w1), (.int (nar .char (w2.toUInt32.toUInt16.toUInt32.toInt32))), (.int (0 : Int32)), (.int (0 : Int32))] (.int (0 : Int32)) := Arv.set Ar30 qc30 Sz30 Mn30 Hs30 Gs30 (fits_nar_char _) W30 2 rfl (Nat.le_of_ble_eq_true rfl)
  have Od_30 := Od_21.wr W30 g_q
  have Fb_30 := Fb_21.other W30 (Or.inl ne_r0_q)
  have Fl_30 := Fl_21.other W30 (Or.inl ne_r0_q)
  have Er_30 := Er_21.wr W30
  have Hh_30 := Hh_21.other W30 ne_bb_q
  have Sf_q_30 := Safe.wr W30 Sf_q_21 CA_21.1 Sf_q_21
  have CA_30 := CA_21.trans (CHr.wr W30 Sf_q_21 CA_21.1)
  have Z_30 : n0 ≤ h30.size := Nat.le_trans Z_21 (Keep.of_wr W30).1
  have Kp_30 : Keep h0 h30 [] := Kp_21.wr W30 (Or.inr sz_q)
  have N30 := Fr.snoc X30 N21 g_q
  rw [own_nc2 ew2] at V_q_30
  have st31 : own_S p e below T30 (mkF m 11 #[.val (.ref r0), .val (.ref q), .val (.int (3 : Int32))] [(.ref r0), (.int (3 : Int32))]) (mkF m 27 #[.val (.ref r0), .val (.ref q), .val (.int (2 : Int32))] []) := by
    intro target kt
    refine XS.iinc X30.here hx rfl (hb hby d9_27) rfl (l' := #[.val (.ref r0), .val (.ref q), .val (.int (3 : Int32))]) rfl ?_
    refine XS.goto X30.here hx rfl (pc0 := 30) (pc' := 9) rfl (hb hby d9_30) (by decide) (by decide) ?_
    refine XS.iloadN X30.here hx rfl (hb hby d9_9) rfl ?_
    refine XS.aloadN X30.here hx rfl (hb hby d9_10) rfl rfl ?_
    exact kt
  obtain ⟨T32, X32, e32, st32⟩ := getF X30 hx hZ hown (host := "") (Or.inl (own_w hw 56 rfl)) Via.refl e30 Fl_30 (g := (mkF m 11 #[.val (.ref r0), .val (.ref q), .val (.int (3 : Int32))] [(.ref r0), (.int (3 : Int32))])) rfl rfl (hb hby d9_11)
  have st33 : own_S p e below T32 (mkF m 20 #[.val (.ref r0), .val (.ref q), .val (.int (3 : Int32))] [(.ref r0), (.int (3 : Int32)), (.ref q)]) (mkF m 14 #[.val (.ref r0), .val (.ref q), .val (.int (3 : Int32))] [(.int (5 : Int32)), (.int (3 : Int32))]) := by
    intro target kt
    refine XS.icmpNo X32.here hx rfl (hb hby d9_14) rfl (tlt (by decide : ((3 : Int32) < (5 : Int32)))).2.1 ?_
    refine XS.aloadN X32.here hx rfl (hb hby d9_17) rfl rfl ?_
    refine XS.iloadN X32.here hx rfl (hb hby d9_18) rfl ?_
    refine XS.aloadN X32.here hx rfl (hb hby d9_19) rfl rfl ?_
    exact kt
  obtain ⟨T34, X34, e34, st34⟩ := getF X32 hx hZ hown (host := "") (Or.inl (own_w hw 33 rfl)) Via.refl e32 Fb_30 (g := (mkF m 20 #[.val (.ref r0), .val (.ref q), .val (.int (3 : Int32))] [(.ref r0), (.int (3 : Int32)), (.ref q)])) rfl rfl (hb hby d9_20)
  have st35 : own_S p e below T34 (mkF m 24 #[.val (.ref r0), .val (.ref q), .val (.int (3 : Int32))] [(.int (3 : Int32)), (.ref bb), (.int (3 : Int32)), (.ref q)]) (mkF m 23 #[.val (.ref r0), .val (.ref q), .val (.int (3 : Int32))] [(.ref bb), (.int (3 : Int32)), (.ref q)]) := by
    intro target kt
    refine XS.iloadN X34.here hx rfl (hb hby d9_23) rfl ?_
    exact kt
  obtain ⟨cl36, Ar36, qc36, Sz36, Mn36, Hs36, Gs36⟩ := id Hh_30
  have hin36 : ¬ ((3 : Int32) < 0 ∨ cl36.slots.size ≤ ((3 : Int32)).toNatClampNeg) := own_in6 Sz36 ⟨by decide, by decide⟩
  have hat36 : cl36.slots[((3 : Int32)).toNatClampNeg]? = some (.int w3) := atH Hs36 hin36 u3
  have st37 : own_S p e below T34 (mkF m 25 #[.val (.ref r0), .val (.ref q), .val (.int (3 : Int32))] [(.int w3), (.int (3 : Int32)), (.ref q)]) (mkF m 24 #[.val (.ref r0), .val (.ref q), .val (.int (3 : Int32))] [(.int (3 : Int32)), (.ref bb), (.int (3 : Int32)), (.ref q)]) := fun target kt => X34.baloadBytes hx (j := (3 : Int32)) (v := (.int w3)) (by rw [e34]; exact Ar36.1) (State.isArrayOf_alike hZ.alike Ar36.2.1) Ar36.2.2 hin36 hat36 (g := (mkF m 24 #[.val (.ref r0), .val (.ref q), .val (.int (3 : Int32))] [(.int (3 : Int32)), (.ref bb), (.int (3 : Int32)), (.ref q)])) rfl rfl (hb hby d9_24) _ kt
  have st38 : own_S p e below T34 (mkF m 26 #[.val (.ref r0), .val (.ref q), .val (.int (3 : Int32))] [(.int (w3.toUInt32.toUInt16.toUInt32.toInt32)), (.int (3 : Int32)), (.ref q)]) (mkF m 25 #[.val (.ref r0), .val (.ref q), .val (.int (3 : Int32))] [(.int w3), (.int (3 : Int32)), (.ref q)]) := by
    intro target kt
    refine XS.i2c X34.here hx rfl (hb hby d9_25) rfl ?_
    exact kt
  obtain ⟨cl39, Ar39, qc39, Sz39, Mn39, Hs39, Gs39⟩ := id V_q_30
  have hin39 : ¬ ((3 : Int32) < 0 ∨ cl39.slots.size ≤ ((3 : Int32)).toNatClampNeg) := inb_of Sz39 ⟨by decide, by decide⟩
  obtain ⟨T39, h39, X39, e39, W39, st39⟩ := stC X34 hx hZ e34 Ar39 (j := (3 : Int32)) hin39 (g := (mkF m 26 #[.val (.ref r0), .val (.ref q), .val (.int (3 : Int32))] [(.int (w3.toUInt32.toUInt16.toUInt32.toInt32)), (.int (3 : Int32)), (.ref q)])) rfl rfl (hb hby d9_26)
  have V_q_39 : Arv Z h39 q k3 .char (5 : Int32) [(.int w0), (.int w1), (.int w2), (.int (nar .char (w3.toUInt32.toUInt16.toUInt32.toInt32))), (.int (0 : Int32))] (.int (0 : Int32)) := Arv.set Ar39 qc39 Sz39 Mn39 Hs39 Gs39 (fits_nar_char _) W39 3 rfl (Nat.le_of_ble_eq_true rfl)
  have Od_39 := Od_30.wr W39 g_q
  have Fb_39 := Fb_30.other W39 (Or.inl ne_r0_q)
  have Fl_39 := Fl_30.other W39 (Or.inl ne_r0_q)
  have Er_39 := Er_30.wr W39
  have Hh_39 := Hh_30.other W39 ne_bb_q
  have Sf_q_39 := Safe.wr W39 Sf_q_30 CA_30.1 Sf_q_30
  have CA_39 := CA_30.trans (CHr.wr W39 Sf_q_30 CA_30.1)
  have Z_39 : n0 ≤ h39.size := Nat.le_trans Z_30 (Keep.of_wr W39).1
  have Kp_39 : Keep h0 h39 [] := Kp_30.wr W39 (Or.inr sz_q)
  have N39 := Fr.snoc X39 N30 g_q
  rw [own_nc2 ew3] at V_q_39
  have st40 : own_S p e below T39 (mkF m 11 #[.val (.ref r0), .val (.ref q), .val (.int (4 : Int32))] [(.ref r0), (.int (4 : Int32))]) (mkF m 27 #[.val (.ref r0), .val (.ref q), .val (.int (3 : Int32))] []) := by
    intro target kt
    refine XS.iinc X39.here hx rfl (hb hby d9_27) rfl (l' := #[.val (.ref r0), .val (.ref q), .val (.int (4 : Int32))]) rfl ?_
    refine XS.goto X39.here hx rfl (pc0 := 30) (pc' := 9) rfl (hb hby d9_30) (by decide) (by decide) ?_
    refine XS.iloadN X39.here hx rfl (hb hby d9_9) rfl ?_
    refine XS.aloadN X39.here hx rfl (hb hby d9_10) rfl rfl ?_
    exact kt
  obtain ⟨T41, X41, e41, st41⟩ := getF X39 hx hZ hown (host := "") (Or.inl (own_w hw 56 rfl)) Via.refl e39 Fl_39 (g := (mkF m 11 #[.val (.ref r0), .val (.ref q), .val (.int (4 : Int32))] [(.ref r0), (.int (4 : Int32))])) rfl rfl (hb hby d9_11)
  have st42 : own_S p e below T41 (mkF m 20 #[.val (.ref r0), .val (.ref q), .val (.int (4 : Int32))] [(.ref r0), (.int (4 : Int32)), (.ref q)]) (mkF m 14 #[.val (.ref r0), .val (.ref q), .val (.int (4 : Int32))] [(.int (5 : Int32)), (.int (4 : Int32))]) := by
    intro target kt
    refine XS.icmpNo X41.here hx rfl (hb hby d9_14) rfl (tlt (by decide : ((4 : Int32) < (5 : Int32)))).2.1 ?_
    refine XS.aloadN X41.here hx rfl (hb hby d9_17) rfl rfl ?_
    refine XS.iloadN X41.here hx rfl (hb hby d9_18) rfl ?_
    refine XS.aloadN X41.here hx rfl (hb hby d9_19) rfl rfl ?_
    exact kt
  obtain ⟨T43, X43, e43, st43⟩ := getF X41 hx hZ hown (host := "") (Or.inl (own_w hw 33 rfl)) Via.refl e41 Fb_39 (g := (mkF m 20 #[.val (.ref r0), .val (.ref q), .val (.int (4 : Int32))] [(.ref r0), (.int (4 : Int32)), (.ref q)])) rfl rfl (hb hby d9_20)
  have st44 : own_S p e below T43 (mkF m 24 #[.val (.ref r0), .val (.ref q), .val (.int (4 : Int32))] [(.int (4 : Int32)), (.ref bb), (.int (4 : Int32)), (.ref q)]) (mkF m 23 #[.val (.ref r0), .val (.ref q), .val (.int (4 : Int32))] [(.ref bb), (.int (4 : Int32)), (.ref q)]) := by
    intro target kt
    refine XS.iloadN X43.here hx rfl (hb hby d9_23) rfl ?_
    exact kt
  obtain ⟨cl45, Ar45, qc45, Sz45, Mn45, Hs45, Gs45⟩ := id Hh_39
  have hin45 : ¬ ((4 : Int32) < 0 ∨ cl45.slots.size ≤ ((4 : Int32)).toNatClampNeg) := own_in6 Sz45 ⟨by decide, by decide⟩
  have hat45 : cl45.slots[((4 : Int32)).toNatClampNeg]? = some (.int w4) := atH Hs45 hin45 u4
  have st46 : own_S p e below T43 (mkF m 25 #[.val (.ref r0), .val (.ref q), .val (.int (4 : Int32))] [(.int w4), (.int (4 : Int32)), (.ref q)]) (mkF m 24 #[.val (.ref r0), .val (.ref q), .val (.int (4 : Int32))] [(.int (4 : Int32)), (.ref bb), (.int (4 : Int32)), (.ref q)]) := fun target kt => X43.baloadBytes hx (j := (4 : Int32)) (v := (.int w4)) (by rw [e43]; exact Ar45.1) (State.isArrayOf_alike hZ.alike Ar45.2.1) Ar45.2.2 hin45 hat45 (g := (mkF m 24 #[.val (.ref r0), .val (.ref q), .val (.int (4 : Int32))] [(.int (4 : Int32)), (.ref bb), (.int (4 : Int32)), (.ref q)])) rfl rfl (hb hby d9_24) _ kt
  have st47 : own_S p e below T43 (mkF m 26 #[.val (.ref r0), .val (.ref q), .val (.int (4 : Int32))] [(.int (w4.toUInt32.toUInt16.toUInt32.toInt32)), (.int (4 : Int32)), (.ref q)]) (mkF m 25 #[.val (.ref r0), .val (.ref q), .val (.int (4 : Int32))] [(.int w4), (.int (4 : Int32)), (.ref q)]) := by
    intro target kt
    refine XS.i2c X43.here hx rfl (hb hby d9_25) rfl ?_
    exact kt
  obtain ⟨cl48, Ar48, qc48, Sz48, Mn48, Hs48, Gs48⟩ := id V_q_39
  have hin48 : ¬ ((4 : Int32) < 0 ∨ cl48.slots.size ≤ ((4 : Int32)).toNatClampNeg) := inb_of Sz48 ⟨by decide, by decide⟩
  obtain ⟨T48, h48, X48, e48, W48, st48⟩ := stC X43 hx hZ e43 Ar48 (j := (4 : Int32)) hin48 (g := (mkF m 26 #[.val (.ref r0), .val (.ref q), .val (.int (4 : Int32))] [(.int (w4.toUInt32.toUInt16.toUInt32.toInt32)), (.int (4 : Int32)), (.ref q)])) rfl rfl (hb hby d9_26)
  have V_q_48 : Arv Z h48 q k3 .char (5 : Int32) [(.int w0), (.int w1), (.int w2), (.int w3), (.int (nar .char (w4.toUInt32.toUInt16.toUInt32.toInt32)))] (.int (0 : Int32)) := Arv.set Ar48 qc48 Sz48 Mn48 Hs48 Gs48 (fits_nar_char _) W48 4 rfl (Nat.le_of_ble_eq_true rfl)
  have Od_48 := Od_39.wr W48 g_q
  have Fb_48 := Fb_39.other W48 (Or.inl ne_r0_q)
  have Fl_48 := Fl_39.other W48 (Or.inl ne_r0_q)
  have Er_48 := Er_39.wr W48
  have Hh_48 := Hh_39.other W48 ne_bb_q
  have Sf_q_48 := Safe.wr W48 Sf_q_39 CA_39.1 Sf_q_39
  have CA_48 := CA_39.trans (CHr.wr W48 Sf_q_39 CA_39.1)
  have Z_48 : n0 ≤ h48.size := Nat.le_trans Z_39 (Keep.of_wr W48).1
  have Kp_48 : Keep h0 h48 [] := Kp_39.wr W48 (Or.inr sz_q)
  have N48 := Fr.snoc X48 N39 g_q
  rw [own_nc2 ew4] at V_q_48
  have st49 : own_S p e below T48 (mkF m 11 #[.val (.ref r0), .val (.ref q), .val (.int (5 : Int32))] [(.ref r0), (.int (5 : Int32))]) (mkF m 27 #[.val (.ref r0), .val (.ref q), .val (.int (4 : Int32))] []) := by
    intro target kt
    refine XS.iinc X48.here hx rfl (hb hby d9_27) rfl (l' := #[.val (.ref r0), .val (.ref q), .val (.int (5 : Int32))]) rfl ?_
    refine XS.goto X48.here hx rfl (pc0 := 30) (pc' := 9) rfl (hb hby d9_30) (by decide) (by decide) ?_
    refine XS.iloadN X48.here hx rfl (hb hby d9_9) rfl ?_
    refine XS.aloadN X48.here hx rfl (hb hby d9_10) rfl rfl ?_
    exact kt
  obtain ⟨T50, X50, e50, st50⟩ := getF X48 hx hZ hown (host := "") (Or.inl (own_w hw 56 rfl)) Via.refl e48 Fl_48 (g := (mkF m 11 #[.val (.ref r0), .val (.ref q), .val (.int (5 : Int32))] [(.ref r0), (.int (5 : Int32))])) rfl rfl (hb hby d9_11)
  have st51 : own_S p e below T50 (mkF m 33 #[.val (.ref r0), .val (.ref q), .val (.int (5 : Int32))] []) (mkF m 14 #[.val (.ref r0), .val (.ref q), .val (.int (5 : Int32))] [(.int (5 : Int32)), (.int (5 : Int32))]) := by
    intro target kt
    refine XS.icmpYes X50.here hx rfl (pc0 := 14) (pc' := 33) rfl (hb hby d9_14) rfl (flt (by decide : ¬ ((5 : Int32) < (5 : Int32)))).2.1 (by decide) (by decide) ?_
    exact kt
  obtain ⟨T52, h52, X52, e52, E52, A52, D52, -, st52⟩ := newO X50 hx hZ hown (own_w hw 58 rfl) (own_w hw 6 rfl) (own_w hw 7 rfl) e50 (g := (mkF m 33 #[.val (.ref r0), .val (.ref q), .val (.int (5 : Int32))] [])) rfl (hb hby d9_33) (by decide) (by decide)
  obtain ⟨t, g52⟩ : ∃ z, z = h48.size := ⟨_, rfl⟩
  rw [← g52] at A52 D52 st52
  have g_t : n0 ≤ t := Nat.le_trans Z_48 (Nat.le_of_eq g52.symm)
  have sz_t : h0.size ≤ t := Nat.le_trans Kp_48.1 (Nat.le_of_eq g52.symm)
  have Sf_t : Safe Z own_EL s.vm h48 t := Safe.new (Nat.le_of_eq g52.symm)
  have ne_r0_t : r0 ≠ t := Nat.ne_of_lt (Nat.lt_of_lt_of_le Fb_48.lt (Nat.le_of_eq g52.symm))
  have ne_bb_t : bb ≠ t := Nat.ne_of_lt (Nat.lt_of_lt_of_le Hh_48.lt (Nat.le_of_eq g52.symm))
  have ne_q_t : q ≠ t := Nat.ne_of_lt (Nat.lt_of_lt_of_le V_q_48.lt (Nat.le_of_eq g52.symm))
  have Od_52 := Od_48.ext E52
  have Fb_52 := Fb_48.ext E52
  have Fl_52 := Fl_48.ext E52
  have Er_52 := Er_48.ext E52
  have Hh_52 := Hh_48.ext E52
  have Sf_q_52 := Safe.ext E52 CA_48.1 Sf_q_48
  have V_q_52 := V_q_48.ext E52
  have Sf_t_52 := Safe.ext E52 CA_48.1 Sf_t
  have CA_52 := CA_48.trans (CHr.ext E52 CA_48.1)
  have Z_52 : n0 ≤ h52.size := Nat.le_trans Z_48 E52.1
  have Kp_52 : Keep h0 h52 [] := Kp_48.ext E52
  have E_t : Exa Z h52 t "java/lang/String" := A52
  have F_value_t : Fld Z h52 t "java/lang/String" "value" "[B" .null := D52 (Or.inr (own_w hw 20 rfl)) (ty := (.array .byte)) (by decide)
  have F_coder_t : Fld Z h52 t "java/lang/String" "coder" "B" (.int (0 : Int32)) := D52 (Or.inr (own_w hw 21 rfl)) (ty := .byte) (by decide)
  have st53 : own_S p e below T52 (mkF m 38 #[.val (.ref r0), .val (.ref q), .val (.int (5 : Int32))] [(.ref q), (.ref t), (.ref t)]) (mkF m 36 #[.val (.ref r0), .val (.ref q), .val (.int (5 : Int32))] [(.ref t)]) := by
    intro target kt
    refine XS.dup X52.here hx rfl (hb hby d9_36) rfl rfl ?_
    refine XS.aloadN X52.here hx rfl (hb hby d9_37) rfl rfl ?_
    exact kt
  have hwords : ∀ d ∈ StrChars.Road.words, d.before a0 Z = true := fun d hd => hw d ((by decide +kernel : ∀ d ∈ StrChars.Road.words, d ∈ tables_1) d hd)
  obtain ⟨_, _, ⟨T54, L54, k54, n54⟩, -, X54, ⟨Lc54, hQ54, l54, y54, z54⟩, st54⟩ := X52.specialBack hx (y := (⟨"java/lang/String", "<init>", "([C)V"⟩ : MethodName)) rfl hown (mvT hZ (own_w hw 59 rfl)) (mvT hZ (own_w hw 9 rfl)) (mvT hZ (own_w hw 10 rfl)) (by decide) (StrChars.Road.backV (W := 1) hZ hwords (kI := 4) (own_w hw 6 rfl) (cs := ([w0, w1, w2, w3, w4] : List Int32)) (bs := ([w0, w1, w2, w3, w4] : List Int32).map (fun c => c.toInt8.toInt32)) (n := 5) g_t Z_52 E_t F_value_t F_coder_t V_q_52 (SB.1.ext Od_52.2) SB.2.1 rfl rfl (by decide) (by decide) (own_hp (own_allS ew0 (own_allS ew1 (own_allS ew2 (own_allS ew3 (own_allS ew4 own_all0)))))) rfl (by decide) (by decide)) (g := (mkF m 38 #[.val (.ref r0), .val (.ref q), .val (.int (5 : Int32))] [(.ref q), (.ref t), (.ref t)])) rfl (by rw [hml]; rfl) (Steps.refl _) (a := t) (argsL := [(.ref q)]) (rest := [(.ref t)]) (lenOf pd_1 rfl) rfl (by show 2 * 0 + _ ≤ _; exact Nat.le_of_eq rfl) (hb hby d9_38) (fun _ _ => ⟨rfl, e52, (by decide : 2 + 1 ≤ _), (by decide : 9 + 5 ≤ _)⟩)
  dsimp only [Pt.U, Pt.locs, Pt.cells, Pt.slots] at X54 l54 y54 z54 st54 hQ54
  subst l54 y54 z54
  obtain ⟨rfl, Nq54, K54, Et, Ct, yy, ky, u1_, szy, u3_, Fvt, Vy⟩ := hQ54
  have N54 := Fr.app N48 Nq54
  have Od_54 := Od_52.keep K54 (allS g_t (all0))
  have Fb_54 := Fb_52.keep K54 (ninS ne_r0_t nin0)
  have Fl_54 := Fl_52.keep K54 (ninS ne_r0_t nin0)
  have Er_54 := Er_52.keep K54
  have Hh_54 := Hh_52.keep K54 (ninS ne_bb_t nin0)
  have Sf_q_54 := Safe.keep K54 (allS Sf_t_52 all0) CA_52.1 Sf_q_52
  have V_q_54 := V_q_52.keep K54 (ninS ne_q_t nin0)
  have Sf_t_54 := Safe.keep K54 (allS Sf_t_52 all0) CA_52.1 Sf_t_52
  have E_t_54 := E_t.keep K54
  have CA_54 := CA_52.trans (CHr.keep K54 (allS Sf_t_52 all0) CA_52.1)
  have Z_54 : n0 ≤ T54.heap.size := Nat.le_trans Z_52 K54.1
  have Kp_54 : Keep h0 T54.heap [] := Kp_52.trans K54 (allS (Or.inr sz_t) (all0))
  obtain ⟨fs, hr, hrun, hended, hRW⟩ := Jvm.Stand.leaveW (s := s) (vm₁ := s.vm) X54 ((State.WarmedH.refl s).since 0) (Nat.zero_le _) (v := some (.ref t)) (fun h => by rw [Bd.returns] at h; cases h)
  have CE : CHr Z own_EL s.vm s.heap T54.vm T54.heap := by
    rw [hh]
    exact CA_54.trans (CHv.at (vm0 := s.vm) (s := s) X54 hZ hEL CA_54.1)
  refine ⟨_, _, pre0 _ (st1 _ (st2 _ (st3 _ (st4 _ (st5 _ (st6 _ (st7 _ (st8 _ (st10 _ (st11 _ (st12 _ (st13 _ (st14 _ (st15 _ (st16 _ (st17 _ (st19 _ (st20 _ (st21 _ (st22 _ (st23 _ (st24 _ (st25 _ (st26 _ (st28 _ (st29 _ (st30 _ (st31 _ (st32 _ (st33 _ (st34 _ (st35 _ (st37 _ (st38 _ (st39 _ (st40 _ (st41 _ (st42 _ (st43 _ (st44 _ (st46 _ (st47 _ (st48 _ (st49 _ (st50 _ (st51 _ (st52 _ (st53 _ (st54.trans ?_))))))))))))))))))))))))))))))))))))))))))))))))), hrun, hended, _, _, rfl, ?_, CE, hRW.1, hRW.2.1, hRW.2.2.1, hRW.2.2.2.mono (by decide) (by decide)⟩
  · show Steps p.tables e below (T54.setTop (mkF m 41 #[.val (.ref r0), .val (.ref q), .val (.int (5 : Int32))] [(.ref t)])) _
    jvm_step X54.here [X54.here.top, hx, (hb hby d9_41), X54.method', Bd.returns, Value.isRef, FieldType.isReference]
    first | (intro acts; rw [hr _ acts rfl rfl rfl]) | rw [hr _ _ rfl rfl rfl]
    exact Steps.refl _
  · show Q_rmTs5 Z r0 cs fm bb kb hst w0 w1 w2 w3 w4 h0 n0 _ T54.heap _
    exact ⟨t, rfl, N54, Kp_54, sz_t, Et, Ct, yy, ky, Fvt, Vy⟩
theorem ef_rmTs6 (m : MethodId) (x0 : Addr) : entryFrame m #[(.ref x0)] 3 = mkF m 0 #[.val (.ref x0), .unset, .unset] [] := by first | (simp [entryFrame, mkF, argsToLocals, Value.category]; done) | rfl
def Q_rmTs6 (Z : State) (r0 : Addr) (cs : Int32) (fm : Value) (bb : Addr) (kb : ClassId) (hst : List (Int32 × Value)) (w0 : Int32) (w1 : Int32) (w2 : Int32) (w3 : Int32) (w4 : Int32) (w5 : Int32) (h0 : Heap) (n0 : Nat) (v : Option Value) (h : Heap) (L : List Loc) : Prop := ∃ t, v = some (.ref t) ∧ Fr n0 L ∧ Keep h0 h [] ∧ h0.size ≤ t ∧ Exa Z h t "java/lang/String" ∧ Fld Z h t "java/lang/String" "coder" "B" (.int (0 : Int32)) ∧ ∃ y ky, Fld Z h t "java/lang/String" "value" "[B" (.ref y) ∧ Arv Z h y ky .byte (6 : Int32) (own_bs ([w0, w1, w2, w3, w4, w5] : List Int32)) (.int (0 : Int32))
set_option maxRecDepth 65536 in
set_option maxHeartbeats 40000000 in
theorem rmTs6 (l : Launch) (Z : State) (a0 : Array Value) (hw : ∀ d ∈ tables_1, d.before a0 Z = true) (ws : List Jvm.Cond) (r0 : Addr) (cs : Int32) (fm : Value) (bb : Addr) (kb : ClassId) (hst : List (Int32 × Value)) (w0 : Int32) (w1 : Int32) (w2 : Int32) (w3 : Int32) (w4 : Int32) (w5 : Int32) (h0 : Heap) (n0 : Nat) (Z0 : n0 ≤ h0.size) (SB : own_St Z cs fm) (Od : Old Z n0 h0) (Fb : Fld Z h0 r0 "com/example/murray_hill/murrayhill/AsciiLine" "bytes" "[B" (.ref bb)) (Fl : Fld Z h0 r0 "com/example/murray_hill/murrayhill/AsciiLine" "length" "I" (.int (6 : Int32))) (Er : Exa Z h0 r0 "com/example/murray_hill/murrayhill/AsciiLine") (Hh : Arh Z h0 bb kb .byte (6 : Int32) hst [] (.int (0 : Int32))) (ew0 : own_c7 w0) (ew1 : own_c7 w1) (ew2 : own_c7 w2) (ew3 : own_c7 w3) (ew4 : own_c7 w4) (ew5 : own_c7 w5) (u0 : getH hst [] (.int (0 : Int32)) ((0 : Int32)).toNatClampNeg = (.int w0)) (u1 : getH hst [] (.int (0 : Int32)) ((1 : Int32)).toNatClampNeg = (.int w1)) (u2 : getH hst [] (.int (0 : Int32)) ((2 : Int32)).toNatClampNeg = (.int w2)) (u3 : getH hst [] (.int (0 : Int32)) ((3 : Int32)).toNatClampNeg = (.int w3)) (u4 : getH hst [] (.int (0 : Int32)) ((4 : Int32)).toNatClampNeg = (.int w4)) (u5 : getH hst [] (.int (0 : Int32)) ((5 : Int32)).toNatClampNeg = (.int w5)) :
    MetFree l (⟨"com/example/murray_hill/murrayhill/AsciiLine", "toString", "()Ljava/lang/String;"⟩ : MethodName) (head1 (Jvm.Cond.code (⟨"com/example/murray_hill/murrayhill/AsciiLine", "toString", "()Ljava/lang/String;"⟩ : MethodName) prog_2_method_8_code 3 (some (.object "java/lang/String")) :: ws) ({ frames := 4, cells := 6, slots := 16, locals := 66 } : Room)) (fun a U => a = #[(.ref r0)] ∧ Z.Warmed39 U.vm ∧ U.heap = h0 ∧ CHv Z own_EL U.vm h0) (fun _ _ _ _ _ => True) (fun _ U o U' => ∃ v L, o = .returned v ∧ Q_rmTs6 Z r0 cs fm bb kb hst w0 w1 w2 w3 w4 w5 h0 n0 v U'.heap L ∧ CHr Z own_EL U.vm U.heap U'.vm U'.heap ∧ ReturnedEndW U o U' L ({ frames := 4, cells := 6, slots := 16, locals := 66 } : Room).cells ({ frames := 4, cells := 6, slots := 16, locals := 66 } : Room).slots) := by
  refine MetFree.of_bodySF (plainFor_of_name pn_2) hisR ?_
  intro p e s m args below meth c s₁ Bd hml0 hP hK
  obtain ⟨rfl, hZ, hh, hCH⟩ := hP
  have hx := Bd.exec
  have hby := Bd.bytes
  have hml : c.maxLocals = 3 := hml0
  have hown : s.vm.findClass "com/example/murray_hill/murrayhill/AsciiLine" = some m.cls := findClass_of_methodNamed Bd.named
  have hnm := (name_of_methodNamed Bd.named Bd.method).1
  have X0 : Stand p l e ({ frames := 4, cells := 6, slots := 16, locals := 66 } : Room) s m #[(.ref r0)] below meth c s₁ [] 0 0 := Stand.of_body Bd
  have e0 : s₁.heap = h0 := by rw [← hh, Bd.state]; rfl
  have N0 := Fr.nil n0
  have pre0 : ∀ t, Steps p.tables e below (s₁.setTop (mkF m 0 #[.val (.ref r0), .unset, .unset] [])) t → Steps p.tables e below (s₁.setTop (entryFrame m #[(.ref r0)] 3)) t := fun t k => castTop (ef_rmTs6 m r0) k
  have CA := CHr.refl hCH
  have hEL := own_hEL hw
  have wS : ∀ a ∈ Bundle.stringAtoms, a.before a0 Z = true := fun d hd => hw d ((by decide +kernel : ∀ d ∈ Bundle.stringAtoms, d ∈ tables_1) d hd)
  have Kp : Keep h0 h0 [] := Keep.refl _ _
  have st1 : own_S p e below s₁ (mkF m 1 #[.val (.ref r0), .unset, .unset] [(.ref r0)]) (mkF m 0 #[.val (.ref r0), .unset, .unset] []) := by
    intro target kt
    refine XS.aloadN X0.here hx rfl (hb hby d9_0) rfl rfl ?_
    exact kt
  obtain ⟨T2, X2, e2, st2⟩ := getF X0 hx hZ hown (host := "") (Or.inl (own_w hw 56 rfl)) Via.refl e0 Fl (g := (mkF m 1 #[.val (.ref r0), .unset, .unset] [(.ref r0)])) rfl rfl (hb hby d9_1)
  obtain ⟨T3, h3, k3, X3, e3, E3, A3, st3⟩ := newP X2 hx hZ (own_w hw 0 rfl) e2 (g := (mkF m 4 #[.val (.ref r0), .unset, .unset] [(.int (6 : Int32))])) rfl (hb hby d9_4) rfl (by decide) (cap := 6) (by decide) (by decide) (by decide) (by decide)
  obtain ⟨q, g3⟩ : ∃ z, z = h0.size := ⟨_, rfl⟩
  rw [← g3] at A3 st3
  have g_q : n0 ≤ q := Nat.le_trans Z0 (Nat.le_of_eq g3.symm)
  have sz_q : h0.size ≤ q := Nat.le_trans Kp.1 (Nat.le_of_eq g3.symm)
  have Sf_q : Safe Z own_EL s.vm h0 q := Safe.new (Nat.le_of_eq g3.symm)
  have ne_r0_q : r0 ≠ q := Nat.ne_of_lt (Nat.lt_of_lt_of_le Fb.lt (Nat.le_of_eq g3.symm))
  have ne_bb_q : bb ≠ q := Nat.ne_of_lt (Nat.lt_of_lt_of_le Hh.lt (Nat.le_of_eq g3.symm))
  have Od_3 := Od.ext E3
  have Fb_3 := Fb.ext E3
  have Fl_3 := Fl.ext E3
  have Er_3 := Er.ext E3
  have Hh_3 := Hh.ext E3
  have Sf_q_3 := Safe.ext E3 CA.1 Sf_q
  have CA_3 := CA.trans (CHr.ext E3 CA.1)
  have Z_3 : n0 ≤ h3.size := Nat.le_trans Z0 E3.1
  have Kp_3 : Keep h0 h3 [] := Kp.ext E3
  have V_q : Arv Z h3 q k3 .char (6 : Int32) [(.int (0 : Int32)), (.int (0 : Int32)), (.int (0 : Int32)), (.int (0 : Int32)), (.int (0 : Int32)), (.int (0 : Int32))] (.int (0 : Int32)) := (Arv.new A3 (by decide)).pad (pad_rep [] (.int (0 : Int32)) 6)
  have st4 : own_S p e below T3 (mkF m 11 #[.val (.ref r0), .val (.ref q), .val (.int (0 : Int32))] [(.ref r0), (.int (0 : Int32))]) (mkF m 6 #[.val (.ref r0), .unset, .unset] [(.ref q)]) := by
    intro target kt
    refine XS.astoreN X3.here hx rfl (hb hby d9_6) rfl rfl (l' := #[.val (.ref r0), .val (.ref q), .unset]) rfl ?_
    refine XS.iconst X3.here hx rfl (hb hby d9_7) ?_
    refine XS.istoreN X3.here hx rfl (hb hby d9_8) rfl (l' := #[.val (.ref r0), .val (.ref q), .val (.int (0 : Int32))]) rfl ?_
    refine XS.iloadN X3.here hx rfl (hb hby d9_9) rfl ?_
    refine XS.aloadN X3.here hx rfl (hb hby d9_10) rfl rfl ?_
    exact kt
  obtain ⟨T5, X5, e5, st5⟩ := getF X3 hx hZ hown (host := "") (Or.inl (own_w hw 56 rfl)) Via.refl e3 Fl_3 (g := (mkF m 11 #[.val (.ref r0), .val (.ref q), .val (.int (0 : Int32))] [(.ref r0), (.int (0 : Int32))])) rfl rfl (hb hby d9_11)
  have st6 : own_S p e below T5 (mkF m 20 #[.val (.ref r0), .val (.ref q), .val (.int (0 : Int32))] [(.ref r0), (.int (0 : Int32)), (.ref q)]) (mkF m 14 #[.val (.ref r0), .val (.ref q), .val (.int (0 : Int32))] [(.int (6 : Int32)), (.int (0 : Int32))]) := by
    intro target kt
    refine XS.icmpNo X5.here hx rfl (hb hby d9_14) rfl (tlt (by decide : ((0 : Int32) < (6 : Int32)))).2.1 ?_
    refine XS.aloadN X5.here hx rfl (hb hby d9_17) rfl rfl ?_
    refine XS.iloadN X5.here hx rfl (hb hby d9_18) rfl ?_
    refine XS.aloadN X5.here hx rfl (hb hby d9_19) rfl rfl ?_
    exact kt
  obtain ⟨T7, X7, e7, st7⟩ := getF X5 hx hZ hown (host := "") (Or.inl (own_w hw 33 rfl)) Via.refl e5 Fb_3 (g := (mkF m 20 #[.val (.ref r0), .val (.ref q), .val (.int (0 : Int32))] [(.ref r0), (.int (0 : Int32)), (.ref q)])) rfl rfl (hb hby d9_20)
  have st8 : own_S p e below T7 (mkF m 24 #[.val (.ref r0), .val (.ref q), .val (.int (0 : Int32))] [(.int (0 : Int32)), (.ref bb), (.int (0 : Int32)), (.ref q)]) (mkF m 23 #[.val (.ref r0), .val (.ref q), .val (.int (0 : Int32))] [(.ref bb), (.int (0 : Int32)), (.ref q)]) := by
    intro target kt
    refine XS.iloadN X7.here hx rfl (hb hby d9_23) rfl ?_
    exact kt
  obtain ⟨cl9, Ar9, qc9, Sz9, Mn9, Hs9, Gs9⟩ := id Hh_3
  have hin9 : ¬ ((0 : Int32) < 0 ∨ cl9.slots.size ≤ ((0 : Int32)).toNatClampNeg) := own_in6 Sz9 ⟨by decide, by decide⟩
  have hat9 : cl9.slots[((0 : Int32)).toNatClampNeg]? = some (.int w0) := atH Hs9 hin9 u0
  have st10 : own_S p e below T7 (mkF m 25 #[.val (.ref r0), .val (.ref q), .val (.int (0 : Int32))] [(.int w0), (.int (0 : Int32)), (.ref q)]) (mkF m 24 #[.val (.ref r0), .val (.ref q), .val (.int (0 : Int32))] [(.int (0 : Int32)), (.ref bb), (.int (0 : Int32)), (.ref q)]) := fun target kt => X7.baloadBytes hx (j := (0 : Int32)) (v := (.int w0)) (by rw [e7]; exact Ar9.1) (State.isArrayOf_alike hZ.alike Ar9.2.1) Ar9.2.2 hin9 hat9 (g := (mkF m 24 #[.val (.ref r0), .val (.ref q), .val (.int (0 : Int32))] [(.int (0 : Int32)), (.ref bb), (.int (0 : Int32)), (.ref q)])) rfl rfl (hb hby d9_24) _ kt
  have st11 : own_S p e below T7 (mkF m 26 #[.val (.ref r0), .val (.ref q), .val (.int (0 : Int32))] [(.int (w0.toUInt32.toUInt16.toUInt32.toInt32)), (.int (0 : Int32)), (.ref q)]) (mkF m 25 #[.val (.ref r0), .val (.ref q), .val (.int (0 : Int32))] [(.int w0), (.int (0 : Int32)), (.ref q)]) := by
    intro target kt
    refine XS.i2c X7.here hx rfl (hb hby d9_25) rfl ?_
    exact kt
  obtain ⟨cl12, Ar12, qc12, Sz12, Mn12, Hs12, Gs12⟩ := id V_q
  have hin12 : ¬ ((0 : Int32) < 0 ∨ cl12.slots.size ≤ ((0 : Int32)).toNatClampNeg) := inb_of Sz12 ⟨by decide, by decide⟩
  obtain ⟨T12, h12, X12, e12, W12, st12⟩ := stC X7 hx hZ e7 Ar12 (j := (0 : Int32)) hin12 (g := (mkF m 26 #[.val (.ref r0), .val (.ref q), .val (.int (0 : Int32))] [(.int (w0.toUInt32.toUInt16.toUInt32.toInt32)), (.int (0 : Int32)), (.ref q)])) rfl rfl (hb hby d9_26)
  have V_q_12 : Arv Z h12 q k3 .char (6 : Int32) [(.int (nar .char (w0.toUInt32.toUInt16.toUInt32.toInt32))), (.int (0 : Int32)), (.int (0 : Int32)), (.int (0 : Int32)), (.int (0 : Int32)), (.int (0 : Int32))] (.int (0 : Int32)) := Arv.set Ar12 qc12 Sz12 Mn12 Hs12 Gs12 (fits_nar_char _) W12 0 rfl (Nat.le_of_ble_eq_true rfl)
  have Od_12 := Od_3.wr W12 g_q
  have Fb_12 := Fb_3.other W12 (Or.inl ne_r0_q)
  have Fl_12 := Fl_3.other W12 (Or.inl ne_r0_q)
  have Er_12 := Er_3.wr W12
  have Hh_12 := Hh_3.other W12 ne_bb_q
  have Sf_q_12 := Safe.wr W12 Sf_q_3 CA_3.1 Sf_q_3
  have CA_12 := CA_3.trans (CHr.wr W12 Sf_q_3 CA_3.1)
  have Z_12 : n0 ≤ h12.size := Nat.le_trans Z_3 (Keep.of_wr W12).1
  have Kp_12 : Keep h0 h12 [] := Kp_3.wr W12 (Or.inr sz_q)
  have N12 := Fr.snoc X12 N0 g_q
  rw [own_nc2 ew0] at V_q_12
  have st13 : own_S p e below T12 (mkF m 11 #[.val (.ref r0), .val (.ref q), .val (.int (1 : Int32))] [(.ref r0), (.int (1 : Int32))]) (mkF m 27 #[.val (.ref r0), .val (.ref q), .val (.int (0 : Int32))] []) := by
    intro target kt
    refine XS.iinc X12.here hx rfl (hb hby d9_27) rfl (l' := #[.val (.ref r0), .val (.ref q), .val (.int (1 : Int32))]) rfl ?_
    refine XS.goto X12.here hx rfl (pc0 := 30) (pc' := 9) rfl (hb hby d9_30) (by decide) (by decide) ?_
    refine XS.iloadN X12.here hx rfl (hb hby d9_9) rfl ?_
    refine XS.aloadN X12.here hx rfl (hb hby d9_10) rfl rfl ?_
    exact kt
  obtain ⟨T14, X14, e14, st14⟩ := getF X12 hx hZ hown (host := "") (Or.inl (own_w hw 56 rfl)) Via.refl e12 Fl_12 (g := (mkF m 11 #[.val (.ref r0), .val (.ref q), .val (.int (1 : Int32))] [(.ref r0), (.int (1 : Int32))])) rfl rfl (hb hby d9_11)
  have st15 : own_S p e below T14 (mkF m 20 #[.val (.ref r0), .val (.ref q), .val (.int (1 : Int32))] [(.ref r0), (.int (1 : Int32)), (.ref q)]) (mkF m 14 #[.val (.ref r0), .val (.ref q), .val (.int (1 : Int32))] [(.int (6 : Int32)), (.int (1 : Int32))]) := by
    intro target kt
    refine XS.icmpNo X14.here hx rfl (hb hby d9_14) rfl (tlt (by decide : ((1 : Int32) < (6 : Int32)))).2.1 ?_
    refine XS.aloadN X14.here hx rfl (hb hby d9_17) rfl rfl ?_
    refine XS.iloadN X14.here hx rfl (hb hby d9_18) rfl ?_
    refine XS.aloadN X14.here hx rfl (hb hby d9_19) rfl rfl ?_
    exact kt
  obtain ⟨T16, X16, e16, st16⟩ := getF X14 hx hZ hown (host := "") (Or.inl (own_w hw 33 rfl)) Via.refl e14 Fb_12 (g := (mkF m 20 #[.val (.ref r0), .val (.ref q), .val (.int (1 : Int32))] [(.ref r0), (.int (1 : Int32)), (.ref q)])) rfl rfl (hb hby d9_20)
  have st17 : own_S p e below T16 (mkF m 24 #[.val (.ref r0), .val (.ref q), .val (.int (1 : Int32))] [(.int (1 : Int32)), (.ref bb), (.int (1 : Int32)), (.ref q)]) (mkF m 23 #[.val (.ref r0), .val (.ref q), .val (.int (1 : Int32))] [(.ref bb), (.int (1 : Int32)), (.ref q)]) := by
    intro target kt
    refine XS.iloadN X16.here hx rfl (hb hby d9_23) rfl ?_
    exact kt
  obtain ⟨cl18, Ar18, qc18, Sz18, Mn18, Hs18, Gs18⟩ := id Hh_12
  have hin18 : ¬ ((1 : Int32) < 0 ∨ cl18.slots.size ≤ ((1 : Int32)).toNatClampNeg) := own_in6 Sz18 ⟨by decide, by decide⟩
  have hat18 : cl18.slots[((1 : Int32)).toNatClampNeg]? = some (.int w1) := atH Hs18 hin18 u1
  have st19 : own_S p e below T16 (mkF m 25 #[.val (.ref r0), .val (.ref q), .val (.int (1 : Int32))] [(.int w1), (.int (1 : Int32)), (.ref q)]) (mkF m 24 #[.val (.ref r0), .val (.ref q), .val (.int (1 : Int32))] [(.int (1 : Int32)), (.ref bb), (.int (1 : Int32)), (.ref q)]) := fun target kt => X16.baloadBytes hx (j := (1 : Int32)) (v := (.int w1)) (by rw [e16]; exact Ar18.1) (State.isArrayOf_alike hZ.alike Ar18.2.1) Ar18.2.2 hin18 hat18 (g := (mkF m 24 #[.val (.ref r0), .val (.ref q), .val (.int (1 : Int32))] [(.int (1 : Int32)), (.ref bb), (.int (1 : Int32)), (.ref q)])) rfl rfl (hb hby d9_24) _ kt
  have st20 : own_S p e below T16 (mkF m 26 #[.val (.ref r0), .val (.ref q), .val (.int (1 : Int32))] [(.int (w1.toUInt32.toUInt16.toUInt32.toInt32)), (.int (1 : Int32)), (.ref q)]) (mkF m 25 #[.val (.ref r0), .val (.ref q), .val (.int (1 : Int32))] [(.int w1), (.int (1 : Int32)), (.ref q)]) := by
    intro target kt
    refine XS.i2c X16.here hx rfl (hb hby d9_25) rfl ?_
    exact kt
  obtain ⟨cl21, Ar21, qc21, Sz21, Mn21, Hs21, Gs21⟩ := id V_q_12
  have hin21 : ¬ ((1 : Int32) < 0 ∨ cl21.slots.size ≤ ((1 : Int32)).toNatClampNeg) := inb_of Sz21 ⟨by decide, by decide⟩
  obtain ⟨T21, h21, X21, e21, W21, st21⟩ := stC X16 hx hZ e16 Ar21 (j := (1 : Int32)) hin21 (g := (mkF m 26 #[.val (.ref r0), .val (.ref q), .val (.int (1 : Int32))] [(.int (w1.toUInt32.toUInt16.toUInt32.toInt32)), (.int (1 : Int32)), (.ref q)])) rfl rfl (hb hby d9_26)
  have V_q_21 : Arv Z h21 q k3 .char (6 : Int32) [(.int w0), (.int (nar .char (w1.toUInt32.toUInt16.toUInt32.toInt32))), (.int (0 : Int32)), (.int (0 : Int32)), (.int (0 : Int32)), (.int (0 : Int32))] (.int (0 : Int32)) := Arv.set Ar21 qc21 Sz21 Mn21 Hs21 Gs21 (fits_nar_char _) W21 1 rfl (Nat.le_of_ble_eq_true rfl)
  have Od_21 := Od_12.wr W21 g_q
  have Fb_21 := Fb_12.other W21 (Or.inl ne_r0_q)
  have Fl_21 := Fl_12.other W21 (Or.inl ne_r0_q)
  have Er_21 := Er_12.wr W21
  have Hh_21 := Hh_12.other W21 ne_bb_q
  have Sf_q_21 := Safe.wr W21 Sf_q_12 CA_12.1 Sf_q_12
  have CA_21 := CA_12.trans (CHr.wr W21 Sf_q_12 CA_12.1)
  have Z_21 : n0 ≤ h21.size := Nat.le_trans Z_12 (Keep.of_wr W21).1
  have Kp_21 : Keep h0 h21 [] := Kp_12.wr W21 (Or.inr sz_q)
  have N21 := Fr.snoc X21 N12 g_q
  rw [own_nc2 ew1] at V_q_21
  have st22 : own_S p e below T21 (mkF m 11 #[.val (.ref r0), .val (.ref q), .val (.int (2 : Int32))] [(.ref r0), (.int (2 : Int32))]) (mkF m 27 #[.val (.ref r0), .val (.ref q), .val (.int (1 : Int32))] []) := by
    intro target kt
    refine XS.iinc X21.here hx rfl (hb hby d9_27) rfl (l' := #[.val (.ref r0), .val (.ref q), .val (.int (2 : Int32))]) rfl ?_
    refine XS.goto X21.here hx rfl (pc0 := 30) (pc' := 9) rfl (hb hby d9_30) (by decide) (by decide) ?_
    refine XS.iloadN X21.here hx rfl (hb hby d9_9) rfl ?_
    refine XS.aloadN X21.here hx rfl (hb hby d9_10) rfl rfl ?_
    exact kt
  obtain ⟨T23, X23, e23, st23⟩ := getF X21 hx hZ hown (host := "") (Or.inl (own_w hw 56 rfl)) Via.refl e21 Fl_21 (g := (mkF m 11 #[.val (.ref r0), .val (.ref q), .val (.int (2 : Int32))] [(.ref r0), (.int (2 : Int32))])) rfl rfl (hb hby d9_11)
  have st24 : own_S p e below T23 (mkF m 20 #[.val (.ref r0), .val (.ref q), .val (.int (2 : Int32))] [(.ref r0), (.int (2 : Int32)), (.ref q)]) (mkF m 14 #[.val (.ref r0), .val (.ref q), .val (.int (2 : Int32))] [(.int (6 : Int32)), (.int (2 : Int32))]) := by
    intro target kt
    refine XS.icmpNo X23.here hx rfl (hb hby d9_14) rfl (tlt (by decide : ((2 : Int32) < (6 : Int32)))).2.1 ?_
    refine XS.aloadN X23.here hx rfl (hb hby d9_17) rfl rfl ?_
    refine XS.iloadN X23.here hx rfl (hb hby d9_18) rfl ?_
    refine XS.aloadN X23.here hx rfl (hb hby d9_19) rfl rfl ?_
    exact kt
  obtain ⟨T25, X25, e25, st25⟩ := getF X23 hx hZ hown (host := "") (Or.inl (own_w hw 33 rfl)) Via.refl e23 Fb_21 (g := (mkF m 20 #[.val (.ref r0), .val (.ref q), .val (.int (2 : Int32))] [(.ref r0), (.int (2 : Int32)), (.ref q)])) rfl rfl (hb hby d9_20)
  have st26 : own_S p e below T25 (mkF m 24 #[.val (.ref r0), .val (.ref q), .val (.int (2 : Int32))] [(.int (2 : Int32)), (.ref bb), (.int (2 : Int32)), (.ref q)]) (mkF m 23 #[.val (.ref r0), .val (.ref q), .val (.int (2 : Int32))] [(.ref bb), (.int (2 : Int32)), (.ref q)]) := by
    intro target kt
    refine XS.iloadN X25.here hx rfl (hb hby d9_23) rfl ?_
    exact kt
  obtain ⟨cl27, Ar27, qc27, Sz27, Mn27, Hs27, Gs27⟩ := id Hh_21
  have hin27 : ¬ ((2 : Int32) < 0 ∨ cl27.slots.size ≤ ((2 : Int32)).toNatClampNeg) := own_in6 Sz27 ⟨by decide, by decide⟩
  have hat27 : cl27.slots[((2 : Int32)).toNatClampNeg]? = some (.int w2) := atH Hs27 hin27 u2
  have st28 : own_S p e below T25 (mkF m 25 #[.val (.ref r0), .val (.ref q), .val (.int (2 : Int32))] [(.int w2), (.int (2 : Int32)), (.ref q)]) (mkF m 24 #[.val (.ref r0), .val (.ref q), .val (.int (2 : Int32))] [(.int (2 : Int32)), (.ref bb), (.int (2 : Int32)), (.ref q)]) := fun target kt => X25.baloadBytes hx (j := (2 : Int32)) (v := (.int w2)) (by rw [e25]; exact Ar27.1) (State.isArrayOf_alike hZ.alike Ar27.2.1) Ar27.2.2 hin27 hat27 (g := (mkF m 24 #[.val (.ref r0), .val (.ref q), .val (.int (2 : Int32))] [(.int (2 : Int32)), (.ref bb), (.int (2 : Int32)), (.ref q)])) rfl rfl (hb hby d9_24) _ kt
  have st29 : own_S p e below T25 (mkF m 26 #[.val (.ref r0), .val (.ref q), .val (.int (2 : Int32))] [(.int (w2.toUInt32.toUInt16.toUInt32.toInt32)), (.int (2 : Int32)), (.ref q)]) (mkF m 25 #[.val (.ref r0), .val (.ref q), .val (.int (2 : Int32))] [(.int w2), (.int (2 : Int32)), (.ref q)]) := by
    intro target kt
    refine XS.i2c X25.here hx rfl (hb hby d9_25) rfl ?_
    exact kt
  obtain ⟨cl30, Ar30, qc30, Sz30, Mn30, Hs30, Gs30⟩ := id V_q_21
  have hin30 : ¬ ((2 : Int32) < 0 ∨ cl30.slots.size ≤ ((2 : Int32)).toNatClampNeg) := inb_of Sz30 ⟨by decide, by decide⟩
  obtain ⟨T30, h30, X30, e30, W30, st30⟩ := stC X25 hx hZ e25 Ar30 (j := (2 : Int32)) hin30 (g := (mkF m 26 #[.val (.ref r0), .val (.ref q), .val (.int (2 : Int32))] [(.int (w2.toUInt32.toUInt16.toUInt32.toInt32)), (.int (2 : Int32)), (.ref q)])) rfl rfl (hb hby d9_26)
  have V_q_30 : Arv Z h30 q k3 .char (6 : Int32) [(.int w0), (.int w1), (.int (nar .char (w2.toUInt32.toUInt16.toUInt32.toInt32))), (.int (0 : Int32)), (.int (0 : Int32)), (.int (0 : Int32))] (.int (0 : Int32)) := Arv.set Ar30 qc30 Sz30 Mn30 Hs30 Gs30 (fits_nar_char _) W30 2 rfl (Nat.le_of_ble_eq_true rfl)
  have Od_30 := Od_21.wr W30 g_q
  have Fb_30 := Fb_21.other W30 (Or.inl ne_r0_q)
  have Fl_30 := Fl_21.other W30 (Or.inl ne_r0_q)
  have Er_30 := Er_21.wr W30
  have Hh_30 := Hh_21.other W30 ne_bb_q
  have Sf_q_30 := Safe.wr W30 Sf_q_21 CA_21.1 Sf_q_21
  have CA_30 := CA_21.trans (CHr.wr W30 Sf_q_21 CA_21.1)
  have Z_30 : n0 ≤ h30.size := Nat.le_trans Z_21 (Keep.of_wr W30).1
  have Kp_30 : Keep h0 h30 [] := Kp_21.wr W30 (Or.inr sz_q)
  have N30 := Fr.snoc X30 N21 g_q
  rw [own_nc2 ew2] at V_q_30
  have st31 : own_S p e below T30 (mkF m 11 #[.val (.ref r0), .val (.ref q), .val (.int (3 : Int32))] [(.ref r0), (.int (3 : Int32))]) (mkF m 27 #[.val (.ref r0), .val (.ref q), .val (.int (2 : Int32))] []) := by
    intro target kt
    refine XS.iinc X30.here hx rfl (hb hby d9_27) rfl (l' := #[.val (.ref r0), .val (.ref q), .val (.int (3 : Int32))]) rfl ?_
    refine XS.goto X30.here hx rfl (pc0 := 30) (pc' := 9) rfl (hb hby d9_30) (by decide) (by decide) ?_
    refine XS.iloadN X30.here hx rfl (hb hby d9_9) rfl ?_
    refine XS.aloadN X30.here hx rfl (hb hby d9_10) rfl rfl ?_
    exact kt
  obtain ⟨T32, X32, e32, st32⟩ := getF X30 hx hZ hown (host := "") (Or.inl (own_w hw 56 rfl)) Via.refl e30 Fl_30 (g := (mkF m 11 #[.val (.ref r0), .val (.ref q), .val (.int (3 : Int32))] [(.ref r0), (.int (3 : Int32))])) rfl rfl (hb hby d9_11)
  have st33 : own_S p e below T32 (mkF m 20 #[.val (.ref r0), .val (.ref q), .val (.int (3 : Int32))] [(.ref r0), (.int (3 : Int32)), (.ref q)]) (mkF m 14 #[.val (.ref r0), .val (.ref q), .val (.int (3 : Int32))] [(.int (6 : Int32)), (.int (3 : Int32))]) := by
    intro target kt
    refine XS.icmpNo X32.here hx rfl (hb hby d9_14) rfl (tlt (by decide : ((3 : Int32) < (6 : Int32)))).2.1 ?_
    refine XS.aloadN X32.here hx rfl (hb hby d9_17) rfl rfl ?_
    refine XS.iloadN X32.here hx rfl (hb hby d9_18) rfl ?_
    refine XS.aloadN X32.here hx rfl (hb hby d9_19) rfl rfl ?_
    exact kt
  obtain ⟨T34, X34, e34, st34⟩ := getF X32 hx hZ hown (host := "") (Or.inl (own_w hw 33 rfl)) Via.refl e32 Fb_30 (g := (mkF m 20 #[.val (.ref r0), .val (.ref q), .val (.int (3 : Int32))] [(.ref r0), (.int (3 : Int32)), (.ref q)])) rfl rfl (hb hby d9_20)
  have st35 : own_S p e below T34 (mkF m 24 #[.val (.ref r0), .val (.ref q), .val (.int (3 : Int32))] [(.int (3 : Int32)), (.ref bb), (.int (3 : Int32)), (.ref q)]) (mkF m 23 #[.val (.ref r0), .val (.ref q), .val (.int (3 : Int32))] [(.ref bb), (.int (3 : Int32)), (.ref q)]) := by
    intro target kt
    refine XS.iloadN X34.here hx rfl (hb hby d9_23) rfl ?_
    exact kt
  obtain ⟨cl36, Ar36, qc36, Sz36, Mn36, Hs36, Gs36⟩ := id Hh_30
  have hin36 : ¬ ((3 : Int32) < 0 ∨ cl36.slots.size ≤ ((3 : Int32)).toNatClampNeg) := own_in6 Sz36 ⟨by decide, by decide⟩
  have hat36 : cl36.slots[((3 : Int32)).toNatClampNeg]? = some (.int w3) := atH Hs36 hin36 u3
  have st37 : own_S p e below T34 (mkF m 25 #[.val (.ref r0), .val (.ref q), .val (.int (3 : Int32))] [(.int w3), (.int (3 : Int32)), (.ref q)]) (mkF m 24 #[.val (.ref r0), .val (.ref q), .val (.int (3 : Int32))] [(.int (3 : Int32)), (.ref bb), (.int (3 : Int32)), (.ref q)]) := fun target kt => X34.baloadBytes hx (j := (3 : Int32)) (v := (.int w3)) (by rw [e34]; exact Ar36.1) (State.isArrayOf_alike hZ.alike Ar36.2.1) Ar36.2.2 hin36 hat36 (g := (mkF m 24 #[.val (.ref r0), .val (.ref q), .val (.int (3 : Int32))] [(.int (3 : Int32)), (.ref bb), (.int (3 : Int32)), (.ref q)])) rfl rfl (hb hby d9_24) _ kt
  have st38 : own_S p e below T34 (mkF m 26 #[.val (.ref r0), .val (.ref q), .val (.int (3 : Int32))] [(.int (w3.toUInt32.toUInt16.toUInt32.toInt32)), (.int (3 : Int32)), (.ref q)]) (mkF m 25 #[.val (.ref r0), .val (.ref q), .val (.int (3 : Int32))] [(.int w3), (.int (3 : Int32)), (.ref q)]) := by
    intro target kt
    refine XS.i2c X34.here hx rfl (hb hby d9_25) rfl ?_
    exact kt
  obtain ⟨cl39, Ar39, qc39, Sz39, Mn39, Hs39, Gs39⟩ := id V_q_30
  have hin39 : ¬ ((3 : Int32) < 0 ∨ cl39.slots.size ≤ ((3 : Int32)).toNatClampNeg) := inb_of Sz39 ⟨by decide, by decide⟩
  obtain ⟨T39, h39, X39, e39, W39, st39⟩ := stC X34 hx hZ e34 Ar39 (j := (3 : Int32)) hin39 (g := (mkF m 26 #[.val (.ref r0), .val (.ref q), .val (.int (3 : Int32))] [(.int (w3.toUInt32.toUInt16.toUInt32.toInt32)), (.int (3 : Int32)), (.ref q)])) rfl rfl (hb hby d9_26)
  have V_q_39 : Arv Z h39 q k3 .char (6 : Int32) [(.int w0), (.int w1), (.int w2), (.int (nar .char (w3.toUInt32.toUInt16.toUInt32.toInt32))), (.int (0 : Int32)), (.int (0 : Int32))] (.int (0 : Int32)) := Arv.set Ar39 qc39 Sz39 Mn39 Hs39 Gs39 (fits_nar_char _) W39 3 rfl (Nat.le_of_ble_eq_true rfl)
  have Od_39 := Od_30.wr W39 g_q
  have Fb_39 := Fb_30.other W39 (Or.inl ne_r0_q)
  have Fl_39 := Fl_30.other W39 (Or.inl ne_r0_q)
  have Er_39 := Er_30.wr W39
  have Hh_39 := Hh_30.other W39 ne_bb_q
  have Sf_q_39 := Safe.wr W39 Sf_q_30 CA_30.1 Sf_q_30
  have CA_39 := CA_30.trans (CHr.wr W39 Sf_q_30 CA_30.1)
  have Z_39 : n0 ≤ h39.size := Nat.le_trans Z_30 (Keep.of_wr W39).1
  have Kp_39 : Keep h0 h39 [] := Kp_30.wr W39 (Or.inr sz_q)
  have N39 := Fr.snoc X39 N30 g_q
  rw [own_nc2 ew3] at V_q_39
  have st40 : own_S p e below T39 (mkF m 11 #[.val (.ref r0), .val (.ref q), .val (.int (4 : Int32))] [(.ref r0), (.int (4 : Int32))]) (mkF m 27 #[.val (.ref r0), .val (.ref q), .val (.int (3 : Int32))] []) := by
    intro target kt
    refine XS.iinc X39.here hx rfl (hb hby d9_27) rfl (l' := #[.val (.ref r0), .val (.ref q), .val (.int (4 : Int32))]) rfl ?_
    refine XS.goto X39.here hx rfl (pc0 := 30) (pc' := 9) rfl (hb hby d9_30) (by decide) (by decide) ?_
    refine XS.iloadN X39.here hx rfl (hb hby d9_9) rfl ?_
    refine XS.aloadN X39.here hx rfl (hb hby d9_10) rfl rfl ?_
    exact kt
  obtain ⟨T41, X41, e41, st41⟩ := getF X39 hx hZ hown (host := "") (Or.inl (own_w hw 56 rfl)) Via.refl e39 Fl_39 (g := (mkF m 11 #[.val (.ref r0), .val (.ref q), .val (.int (4 : Int32))] [(.ref r0), (.int (4 : Int32))])) rfl rfl (hb hby d9_11)
  have st42 : own_S p e below T41 (mkF m 20 #[.val (.ref r0), .val (.ref q), .val (.int (4 : Int32))] [(.ref r0), (.int (4 : Int32)), (.ref q)]) (mkF m 14 #[.val (.ref r0), .val (.ref q), .val (.int (4 : Int32))] [(.int (6 : Int32)), (.int (4 : Int32))]) := by
    intro target kt
    refine XS.icmpNo X41.here hx rfl (hb hby d9_14) rfl (tlt (by decide : ((4 : Int32) < (6 : Int32)))).2.1 ?_
    refine XS.aloadN X41.here hx rfl (hb hby d9_17) rfl rfl ?_
    refine XS.iloadN X41.here hx rfl (hb hby d9_18) rfl ?_
    refine XS.aloadN X41.here hx rfl (hb hby d9_19) rfl rfl ?_
    exact kt
  obtain ⟨T43, X43, e43, st43⟩ := getF X41 hx hZ hown (host := "") (Or.inl (own_w hw 33 rfl)) Via.refl e41 Fb_39 (g := (mkF m 20 #[.val (.ref r0), .val (.ref q), .val (.int (4 : Int32))] [(.ref r0), (.int (4 : Int32)), (.ref q)])) rfl rfl (hb hby d9_20)
  have st44 : own_S p e below T43 (mkF m 24 #[.val (.ref r0), .val (.ref q), .val (.int (4 : Int32))] [(.int (4 : Int32)), (.ref bb), (.int (4 : Int32)), (.ref q)]) (mkF m 23 #[.val (.ref r0), .val (.ref q), .val (.int (4 : Int32))] [(.ref bb), (.int (4 : Int32)), (.ref q)]) := by
    intro target kt
    refine XS.iloadN X43.here hx rfl (hb hby d9_23) rfl ?_
    exact kt
  obtain ⟨cl45, Ar45, qc45, Sz45, Mn45, Hs45, Gs45⟩ := id Hh_39
  have hin45 : ¬ ((4 : Int32) < 0 ∨ cl45.slots.size ≤ ((4 : Int32)).toNatClampNeg) := own_in6 Sz45 ⟨by decide, by decide⟩
  have hat45 : cl45.slots[((4 : Int32)).toNatClampNeg]? = some (.int w4) := atH Hs45 hin45 u4
  have st46 : own_S p e below T43 (mkF m 25 #[.val (.ref r0), .val (.ref q), .val (.int (4 : Int32))] [(.int w4), (.int (4 : Int32)), (.ref q)]) (mkF m 24 #[.val (.ref r0), .val (.ref q), .val (.int (4 : Int32))] [(.int (4 : Int32)), (.ref bb), (.int (4 : Int32)), (.ref q)]) := fun target kt => X43.baloadBytes hx (j := (4 : Int32)) (v := (.int w4)) (by rw [e43]; exact Ar45.1) (State.isArrayOf_alike hZ.alike Ar45.2.1) Ar45.2.2 hin45 hat45 (g := (mkF m 24 #[.val (.ref r0), .val (.ref q), .val (.int (4 : Int32))] [(.int (4 : Int32)), (.ref bb), (.int (4 : Int32)), (.ref q)])) rfl rfl (hb hby d9_24) _ kt
  have st47 : own_S p e below T43 (mkF m 26 #[.val (.ref r0), .val (.ref q), .val (.int (4 : Int32))] [(.int (w4.toUInt32.toUInt16.toUInt32.toInt32)), (.int (4 : Int32)), (.ref q)]) (mkF m 25 #[.val (.ref r0), .val (.ref q), .val (.int (4 : Int32))] [(.int w4), (.int (4 : Int32)), (.ref q)]) := by
    intro target kt
    refine XS.i2c X43.here hx rfl (hb hby d9_25) rfl ?_
    exact kt
  obtain ⟨cl48, Ar48, qc48, Sz48, Mn48, Hs48, Gs48⟩ := id V_q_39
  have hin48 : ¬ ((4 : Int32) < 0 ∨ cl48.slots.size ≤ ((4 : Int32)).toNatClampNeg) := inb_of Sz48 ⟨by decide, by decide⟩
  obtain ⟨T48, h48, X48, e48, W48, st48⟩ := stC X43 hx hZ e43 Ar48 (j := (4 : Int32)) hin48 (g := (mkF m 26 #[.val (.ref r0), .val (.ref q), .val (.int (4 : Int32))] [(.int (w4.toUInt32.toUInt16.toUInt32.toInt32)), (.int (4 : Int32)), (.ref q)])) rfl rfl (hb hby d9_26)
  have V_q_48 : Arv Z h48 q k3 .char (6 : Int32) [(.int w0), (.int w1), (.int w2), (.int w3), (.int (nar .char (w4.toUInt32.toUInt16.toUInt32.toInt32))), (.int (0 : Int32))] (.int (0 : Int32)) := Arv.set Ar48 qc48 Sz48 Mn48 Hs48 Gs48 (fits_nar_char _) W48 4 rfl (Nat.le_of_ble_eq_true rfl)
  have Od_48 := Od_39.wr W48 g_q
  have Fb_48 := Fb_39.other W48 (Or.inl ne_r0_q)
  have Fl_48 := Fl_39.other W48 (Or.inl ne_r0_q)
  have Er_48 := Er_39.wr W48
  have Hh_48 := Hh_39.other W48 ne_bb_q
  have Sf_q_48 := Safe.wr W48 Sf_q_39 CA_39.1 Sf_q_39
  have CA_48 := CA_39.trans (CHr.wr W48 Sf_q_39 CA_39.1)
  have Z_48 : n0 ≤ h48.size := Nat.le_trans Z_39 (Keep.of_wr W48).1
  have Kp_48 : Keep h0 h48 [] := Kp_39.wr W48 (Or.inr sz_q)
  have N48 := Fr.snoc X48 N39 g_q
  rw [own_nc2 ew4] at V_q_48
  have st49 : own_S p e below T48 (mkF m 11 #[.val (.ref r0), .val (.ref q), .val (.int (5 : Int32))] [(.ref r0), (.int (5 : Int32))]) (mkF m 27 #[.val (.ref r0), .val (.ref q), .val (.int (4 : Int32))] []) := by
    intro target kt
    refine XS.iinc X48.here hx rfl (hb hby d9_27) rfl (l' := #[.val (.ref r0), .val (.ref q), .val (.int (5 : Int32))]) rfl ?_
    refine XS.goto X48.here hx rfl (pc0 := 30) (pc' := 9) rfl (hb hby d9_30) (by decide) (by decide) ?_
    refine XS.iloadN X48.here hx rfl (hb hby d9_9) rfl ?_
    refine XS.aloadN X48.here hx rfl (hb hby d9_10) rfl rfl ?_
    exact kt
  obtain ⟨T50, X50, e50, st50⟩ := getF X48 hx hZ hown (host := "") (Or.inl (own_w hw 56 rfl)) Via.refl e48 Fl_48 (g := (mkF m 11 #[.val (.ref r0), .val (.ref q), .val (.int (5 : Int32))] [(.ref r0), (.int (5 : Int32))])) rfl rfl (hb hby d9_11)
  have st51 : own_S p e below T50 (mkF m 20 #[.val (.ref r0), .val (.ref q), .val (.int (5 : Int32))] [(.ref r0), (.int (5 : Int32)), (.ref q)]) (mkF m 14 #[.val (.ref r0), .val (.ref q), .val (.int (5 : Int32))] [(.int (6 : Int32)), (.int (5 : Int32))]) := by
    intro target kt
    refine XS.icmpNo X50.here hx rfl (hb hby d9_14) rfl (tlt (by decide : ((5 : Int32) < (6 : Int32)))).2.1 ?_
    refine XS.aloadN X50.here hx rfl (hb hby d9_17) rfl rfl ?_
    refine XS.iloadN X50.here hx rfl (hb hby d9_18) rfl ?_
    refine XS.aloadN X50.here hx rfl (hb hby d9_19) rfl rfl ?_
    exact kt
  obtain ⟨T52, X52, e52, st52⟩ := getF X50 hx hZ hown (host := "") (Or.inl (own_w hw 33 rfl)) Via.refl e50 Fb_48 (g := (mkF m 20 #[.val (.ref r0), .val (.ref q), .val (.int (5 : Int32))] [(.ref r0), (.int (5 : Int32)), (.ref q)])) rfl rfl (hb hby d9_20)
  have st53 : own_S p e below T52 (mkF m 24 #[.val (.ref r0), .val (.ref q), .val (.int (5 : Int32))] [(.int (5 : Int32)), (.ref bb), (.int (5 : Int32)), (.ref q)]) (mkF m 23 #[.val (.ref r0), .val (.ref q), .val (.int (5 : Int32))] [(.ref bb), (.int (5 : Int32)), (.ref q)]) := by
    intro target kt
    refine XS.iloadN X52.here hx rfl (hb hby d9_23) rfl ?_
    exact kt
  obtain ⟨cl54, Ar54, qc54, Sz54, Mn54, Hs54, Gs54⟩ := id Hh_48
  have hin54 : ¬ ((5 : Int32) < 0 ∨ cl54.slots.size ≤ ((5 : Int32)).toNatClampNeg) := own_in6 Sz54 ⟨by decide, by decide⟩
  have hat54 : cl54.slots[((5 : Int32)).toNatClampNeg]? = some (.int w5) := atH Hs54 hin54 u5
  have st55 : own_S p e below T52 (mkF m 25 #[.val (.ref r0), .val (.ref q), .val (.int (5 : Int32))] [(.int w5), (.int (5 : Int32)), (.ref q)]) (mkF m 24 #[.val (.ref r0), .val (.ref q), .val (.int (5 : Int32))] [(.int (5 : Int32)), (.ref bb), (.int (5 : Int32)), (.ref q)]) := fun target kt => X52.baloadBytes hx (j := (5 : Int32)) (v := (.int w5)) (by rw [e52]; exact Ar54.1) (State.isArrayOf_alike hZ.alike Ar54.2.1) Ar54.2.2 hin54 hat54 (g := (mkF m 24 #[.val (.ref r0), .val (.ref q), .val (.int (5 : Int32))] [(.int (5 : Int32)), (.ref bb), (.int (5 : Int32)), (.ref q)])) rfl rfl (hb hby d9_24) _ kt
  have st56 : own_S p e below T52 (mkF m 26 #[.val (.ref r0), .val (.ref q), .val (.int (5 : Int32))] [(.int (w5.toUInt32.toUInt16.toUInt32.toInt32)), (.int (5 : Int32)), (.ref q)]) (mkF m 25 #[.val (.ref r0), .val (.ref q), .val (.int (5 : Int32))] [(.int w5), (.int (5 : Int32)), (.ref q)]) := by
    intro target kt
    refine XS.i2c X52.here hx rfl (hb hby d9_25) rfl ?_
    exact kt
  obtain ⟨cl57, Ar57, qc57, Sz57, Mn57, Hs57, Gs57⟩ := id V_q_48
  have hin57 : ¬ ((5 : Int32) < 0 ∨ cl57.slots.size ≤ ((5 : Int32)).toNatClampNeg) := inb_of Sz57 ⟨by decide, by decide⟩
  obtain ⟨T57, h57, X57, e57, W57, st57⟩ := stC X52 hx hZ e52 Ar57 (j := (5 : Int32)) hin57 (g := (mkF m 26 #[.val (.ref r0), .val (.ref q), .val (.int (5 : Int32))] [(.int (w5.toUInt32.toUInt16.toUInt32.toInt32)), (.int (5 : Int32)), (.ref q)])) rfl rfl (hb hby d9_26)
  have V_q_57 : Arv Z h57 q k3 .char (6 : Int32) [(.int w0), (.int w1), (.int w2), (.int w3), (.int w4), (.int (nar .char (w5.toUInt32.toUInt16.toUInt32.toInt32)))] (.int (0 : Int32)) := Arv.set Ar57 qc57 Sz57 Mn57 Hs57 Gs57 (fits_nar_char _) W57 5 rfl (Nat.le_of_ble_eq_true rfl)
  have Od_57 := Od_48.wr W57 g_q
  have Fb_57 := Fb_48.other W57 (Or.inl ne_r0_q)
  have Fl_57 := Fl_48.other W57 (Or.inl ne_r0_q)
  have Er_57 := Er_48.wr W57
  have Hh_57 := Hh_48.other W57 ne_bb_q
  have Sf_q_57 := Safe.wr W57 Sf_q_48 CA_48.1 Sf_q_48
  have CA_57 := CA_48.trans (CHr.wr W57 Sf_q_48 CA_48.1)
  have Z_57 : n0 ≤ h57.size := Nat.le_trans Z_48 (Keep.of_wr W57).1
  have Kp_57 : Keep h0 h57 [] := Kp_48.wr W57 (Or.inr sz_q)
  have N57 := Fr.snoc X57 N48 g_q
  rw [own_nc2 ew5] at V_q_57
  have st58 : own_S p e below T57 (mkF m 11 #[.val (.ref r0), .val (.ref q), .val (.int (6 : Int32))] [(.ref r0), (.int (6 : Int32))]) (mkF m 27 #[.val (.ref r0), .val (.ref q), .val (.int (5 : Int32))] []) := by
    intro target kt
    refine XS.iinc X57.here hx rfl (hb hby d9_27) rfl (l' := #[.val (.ref r0), .val (.ref q), .val (.int (6 : Int32))]) rfl ?_
    refine XS.goto X57.here hx rfl (pc0 := 30) (pc' := 9) rfl (hb hby d9_30) (by decide) (by decide) ?_
    refine XS.iloadN X57.here hx rfl (hb hby d9_9) rfl ?_
    refine XS.aloadN X57.here hx rfl (hb hby d9_10) rfl rfl ?_
    exact kt
  obtain ⟨T59, X59, e59, st59⟩ := getF X57 hx hZ hown (host := "") (Or.inl (own_w hw 56 rfl)) Via.refl e57 Fl_57 (g := (mkF m 11 #[.val (.ref r0), .val (.ref q), .val (.int (6 : Int32))] [(.ref r0), (.int (6 : Int32))])) rfl rfl (hb hby d9_11)
  have st60 : own_S p e below T59 (mkF m 33 #[.val (.ref r0), .val (.ref q), .val (.int (6 : Int32))] []) (mkF m 14 #[.val (.ref r0), .val (.ref q), .val (.int (6 : Int32))] [(.int (6 : Int32)), (.int (6 : Int32))]) := by
    intro target kt
    refine XS.icmpYes X59.here hx rfl (pc0 := 14) (pc' := 33) rfl (hb hby d9_14) rfl (flt (by decide : ¬ ((6 : Int32) < (6 : Int32)))).2.1 (by decide) (by decide) ?_
    exact kt
  obtain ⟨T61, h61, X61, e61, E61, A61, D61, -, st61⟩ := newO X59 hx hZ hown (own_w hw 58 rfl) (own_w hw 6 rfl) (own_w hw 7 rfl) e59 (g := (mkF m 33 #[.val (.ref r0), .val (.ref q), .val (.int (6 : Int32))] [])) rfl (hb hby d9_33) (by decide) (by decide)
  obtain ⟨t, g61⟩ : ∃ z, z = h57.size := ⟨_, rfl⟩
  rw [← g61] at A61 D61 st61
  have g_t : n0 ≤ t := Nat.le_trans Z_57 (Nat.le_of_eq g61.symm)
  have sz_t : h0.size ≤ t := Nat.le_trans Kp_57.1 (Nat.le_of_eq g61.symm)
  have Sf_t : Safe Z own_EL s.vm h57 t := Safe.new (Nat.le_of_eq g61.symm)
  have ne_r0_t : r0 ≠ t := Nat.ne_of_lt (Nat.lt_of_lt_of_le Fb_57.lt (Nat.le_of_eq g61.symm))
  have ne_bb_t : bb ≠ t := Nat.ne_of_lt (Nat.lt_of_lt_of_le Hh_57.lt (Nat.le_of_eq g61.symm))
  have ne_q_t : q ≠ t := Nat.ne_of_lt (Nat.lt_of_lt_of_le V_q_57.lt (Nat.le_of_eq g61.symm))
  have Od_61 := Od_57.ext E61
  have Fb_61 := Fb_57.ext E61
  have Fl_61 := Fl_57.ext E61
  have Er_61 := Er_57.ext E61
  have Hh_61 := Hh_57.ext E61
  have Sf_q_61 := Safe.ext E61 CA_57.1 Sf_q_57
  have V_q_61 := V_q_57.ext E61
  have Sf_t_61 := Safe.ext E61 CA_57.1 Sf_t
  have CA_61 := CA_57.trans (CHr.ext E61 CA_57.1)
  have Z_61 : n0 ≤ h61.size := Nat.le_trans Z_57 E61.1
  have Kp_61 : Keep h0 h61 [] := Kp_57.ext E61
  have E_t : Exa Z h61 t "java/lang/String" := A61
  have F_value_t : Fld Z h61 t "java/lang/String" "value" "[B" .null := D61 (Or.inr (own_w hw 20 rfl)) (ty := (.array .byte)) (by decide)
  have F_coder_t : Fld Z h61 t "java/lang/String" "coder" "B" (.int (0 : Int32)) := D61 (Or.inr (own_w hw 21 rfl)) (ty := .byte) (by decide)
  have st62 : own_S p e below T61 (mkF m 38 #[.val (.ref r0), .val (.ref q), .val (.int (6 : Int32))] [(.ref q), (.ref t), (.ref t)]) (mkF m 36 #[.val (.ref r0), .val (.ref q), .val (.int (6 : Int32))] [(.ref t)]) := by
    intro target kt
    refine XS.dup X61.here hx rfl (hb hby d9_36) rfl rfl ?_
    refine XS.aloadN X61.here hx rfl (hb hby d9_37) rfl rfl ?_
    exact kt
  have hwords : ∀ d ∈ StrChars.Road.words, d.before a0 Z = true := fun d hd => hw d ((by decide +kernel : ∀ d ∈ StrChars.Road.words, d ∈ tables_1) d hd)
  obtain ⟨_, _, ⟨T63, L63, k63, n63⟩, -, X63, ⟨Lc63, hQ63, l63, y63, z63⟩, st63⟩ := X61.specialBack hx (y := (⟨"java/lang/String", "<init>", "([C)V"⟩ : MethodName)) rfl hown (mvT hZ (own_w hw 59 rfl)) (mvT hZ (own_w hw 9 rfl)) (mvT hZ (own_w hw 10 rfl)) (by decide) (StrChars.Road.backV (W := 1) hZ hwords (kI := 4) (own_w hw 6 rfl) (cs := ([w0, w1, w2, w3, w4, w5] : List Int32)) (bs := ([w0, w1, w2, w3, w4, w5] : List Int32).map (fun c => c.toInt8.toInt32)) (n := 6) g_t Z_61 E_t F_value_t F_coder_t V_q_61 (SB.1.ext Od_61.2) SB.2.1 rfl rfl (by decide) (by decide) (own_hp (own_allS ew0 (own_allS ew1 (own_allS ew2 (own_allS ew3 (own_allS ew4 (own_allS ew5 own_all0))))))) rfl (by decide) (by decide)) (g := (mkF m 38 #[.val (.ref r0), .val (.ref q), .val (.int (6 : Int32))] [(.ref q), (.ref t), (.ref t)])) rfl (by rw [hml]; rfl) (Steps.refl _) (a := t) (argsL := [(.ref q)]) (rest := [(.ref t)]) (lenOf pd_1 rfl) rfl (by show 2 * 0 + _ ≤ _; exact Nat.le_of_eq rfl) (hb hby d9_38) (fun _ _ => ⟨rfl, e61, (by decide : 2 + 1 ≤ _), (by decide : 10 + 6 ≤ _)⟩)
  dsimp only [Pt.U, Pt.locs, Pt.cells, Pt.slots] at X63 l63 y63 z63 st63 hQ63
  subst l63 y63 z63
  obtain ⟨rfl, Nq63, K63, Et, Ct, yy, ky, u1_, szy, u3_, Fvt, Vy⟩ := hQ63
  have N63 := Fr.app N57 Nq63
  have Od_63 := Od_61.keep K63 (allS g_t (all0))
  have Fb_63 := Fb_61.keep K63 (ninS ne_r0_t nin0)
  have Fl_63 := Fl_61.keep K63 (ninS ne_r0_t nin0)
  have Er_63 := Er_61.keep K63
  have Hh_63 := Hh_61.keep K63 (ninS ne_bb_t nin0)
  have Sf_q_63 := Safe.keep K63 (allS Sf_t_61 all0) CA_61.1 Sf_q_61
  have V_q_63 := V_q_61.keep K63 (ninS ne_q_t nin0)
  have Sf_t_63 := Safe.keep K63 (allS Sf_t_61 all0) CA_61.1 Sf_t_61
  have E_t_63 := E_t.keep K63
  have CA_63 := CA_61.trans (CHr.keep K63 (allS Sf_t_61 all0) CA_61.1)
  have Z_63 : n0 ≤ T63.heap.size := Nat.le_trans Z_61 K63.1
  have Kp_63 : Keep h0 T63.heap [] := Kp_61.trans K63 (allS (Or.inr sz_t) (all0))
  obtain ⟨fs, hr, hrun, hended, hRW⟩ := Jvm.Stand.leaveW (s := s) (vm₁ := s.vm) X63 ((State.WarmedH.refl s).since 0) (Nat.zero_le _) (v := some (.ref t)) (fun h => by rw [Bd.returns] at h; cases h)
  have CE : CHr Z own_EL s.vm s.heap T63.vm T63.heap := by
    rw [hh]
    exact CA_63.trans (CHv.at (vm0 := s.vm) (s := s) X63 hZ hEL CA_63.1)
  refine ⟨_, _, pre0 _ (st1 _ (st2 _ (st3 _ (st4 _ (st5 _ (st6 _ (st7 _ (st8 _ (st10 _ (st11 _ (st12 _ (st13 _ (st14 _ (st15 _ (st16 _ (st17 _ (st19 _ (st20 _ (st21 _ (st22 _ (st23 _ (st24 _ (st25 _ (st26 _ (st28 _ (st29 _ (st30 _ (st31 _ (st32 _ (st33 _ (st34 _ (st35 _ (st37 _ (st38 _ (st39 _ (st40 _ (st41 _ (st42 _ (st43 _ (st44 _ (st46 _ (st47 _ (st48 _ (st49 _ (st50 _ (st51 _ (st52 _ (st53 _ (st55 _ (st56 _ (st57 _ (st58 _ (st59 _ (st60 _ (st61 _ (st62 _ (st63.trans ?_))))))))))))))))))))))))))))))))))))))))))))))))))))))))), hrun, hended, _, _, rfl, ?_, CE, hRW.1, hRW.2.1, hRW.2.2.1, hRW.2.2.2.mono (by decide) (by decide)⟩
  · show Steps p.tables e below (T63.setTop (mkF m 41 #[.val (.ref r0), .val (.ref q), .val (.int (6 : Int32))] [(.ref t)])) _
    jvm_step X63.here [X63.here.top, hx, (hb hby d9_41), X63.method', Bd.returns, Value.isRef, FieldType.isReference]
    first | (intro acts; rw [hr _ acts rfl rfl rfl]) | rw [hr _ _ rfl rfl rfl]
    exact Steps.refl _
  · show Q_rmTs6 Z r0 cs fm bb kb hst w0 w1 w2 w3 w4 w5 h0 n0 _ T63.heap _
    exact ⟨t, rfl, N63, Kp_63, sz_t, Et, Ct, yy, ky, Fvt, Vy⟩
def own_ts (n : Int32) (cs : List Int32) (hst : List (Int32 × Value)) : Prop := n = Int32.ofNat cs.length ∧ cs.length ≤ 6 ∧ (∀ c ∈ cs, own_c7 c) ∧ ∀ i : Nat, i < cs.length → getH hst [] (.int (0 : Int32)) i = (.int (cs.getD i 0))
theorem own_m7 (x : Int32) : own_c7 ((x &&& (127 : Int32)).toUInt32.toUInt16.toUInt32.toInt32) := by
  have a : (x &&& (127 : Int32)).toInt = x.toInt % 128 := c_mask _ 127 7 (by decide) rfl
  have b := c_i2c (x &&& (127 : Int32))
  exact ⟨by omega, by omega⟩
theorem own_k4 {x k : Int32} (h : k = (x &&& (3 : Int32))) : k = 0 ∨ k = 1 ∨ k = 2 ∨ k = 3 := by
  have a : (x &&& (3 : Int32)).toInt = x.toInt % 4 := c_mask _ 3 2 (by decide) rfl
  rw [← h] at a
  simp only [← Int32.toInt_inj, show (0 : Int32).toInt = 0 from rfl, show (1 : Int32).toInt = 1 from rfl, show (2 : Int32).toInt = 2 from rfl, show (3 : Int32).toInt = 3 from rfl]
  omega
theorem own_ex {k x0 x1 x2 : Int32} (h : k = 0 ∨ k = 1 ∨ k = 2 ∨ k = 3) : ∃ cs, own_mk k cs x0 x1 x2 := by
  rcases h with h | h | h | h
  · exact ⟨_, Or.inl ⟨h, rfl⟩⟩
  · exact ⟨_, Or.inr (Or.inl ⟨h, rfl⟩)⟩
  · exact ⟨_, Or.inr (Or.inr (Or.inl ⟨h, rfl⟩))⟩
  · exact ⟨_, Or.inr (Or.inr (Or.inr ⟨h, rfl⟩))⟩
theorem own_plb {n x0 x1 x2 : Int32} {cs : List Int32} (h : own_mk n cs x0 x1 x2) : own_pl (0 : Int32) cs = n ∧ 0 ≤ n.toInt ∧ n.toInt ≤ 3 := by
  rcases h with ⟨a, b⟩ | ⟨a, b⟩ | ⟨a, b⟩ | ⟨a, b⟩ <;> subst a <;> subst b <;> exact ⟨rfl, by decide, by decide⟩
theorem own_mkc {n x0 x1 x2 : Int32} {cs : List Int32} (h : own_mk n cs x0 x1 x2) (a : own_c7 x0) (b : own_c7 x1) (c : own_c7 x2) : ∀ x ∈ cs, own_c7 x := by
  rcases h with ⟨-, q⟩ | ⟨-, q⟩ | ⟨-, q⟩ | ⟨-, q⟩ <;> subst q
  · exact own_all0
  · exact own_allS a own_all0
  · exact own_allS a (own_allS b own_all0)
  · exact own_allS a (own_allS b (own_allS c own_all0))
theorem own_tsl {la lb x0 x1 x2 z0 z1 z2 : Int32} {cs1 cs2 : List Int32} (h1 : own_mk la cs1 x0 x1 x2) (h2 : own_mk lb cs2 z0 z1 z2) (c1 : ∀ x ∈ cs1, own_c7 x) (c2 : ∀ x ∈ cs2, own_c7 x) : own_ts (own_pl la cs2) (cs1 ++ cs2) (own_hs la cs2 (own_hs (0 : Int32) cs1 [])) ∧ Int32.ofNat (cs1 ++ cs2).length = la + lb := by
  have c3 : ∀ x ∈ cs1 ++ cs2, own_c7 x := fun x hx => (List.mem_append.mp hx).elim (c1 x) (c2 x)
  rcases h1 with ⟨a, b⟩ | ⟨a, b⟩ | ⟨a, b⟩ | ⟨a, b⟩ <;> rcases h2 with ⟨a', b'⟩ | ⟨a', b'⟩ | ⟨a', b'⟩ | ⟨a', b'⟩ <;> subst a <;> subst b <;> subst a' <;> subst b' <;> refine ⟨⟨rfl, by simp, c3, fun i hi => ?_⟩, rfl⟩ <;> rcases i with _ | _ | _ | _ | _ | _ | i <;> first | (exfalso; simp at hi; done) | rfl
def Q_rmTs (Z : State) (r0 : Addr) (cs : Int32) (fm : Value) (bb : Addr) (kb : ClassId) (hst : List (Int32 × Value)) (cs_ : List Int32) (nn : Int32) (h0 : Heap) (n0 : Nat) (v : Option Value) (h : Heap) (L : List Loc) : Prop := ∃ t, v = some (.ref t) ∧ Fr n0 L ∧ Keep h0 h [] ∧ h0.size ≤ t ∧ Exa Z h t "java/lang/String" ∧ Fld Z h t "java/lang/String" "coder" "B" (.int (0 : Int32)) ∧ ∃ y ky, Fld Z h t "java/lang/String" "value" "[B" (.ref y) ∧ Arv Z h y ky .byte nn (own_bs cs_) (.int (0 : Int32))
theorem rmTs (l : Launch) (Z : State) (a0 : Array Value) (hw : ∀ d ∈ tables_1, d.before a0 Z = true) (ws : List Jvm.Cond) (r0 : Addr) (cs : Int32) (fm : Value) (bb : Addr) (kb : ClassId) (hst : List (Int32 × Value)) (cs_ : List Int32) (nn : Int32) (h0 : Heap) (n0 : Nat) (Z0 : n0 ≤ h0.size) (SB : own_St Z cs fm) (Od : Old Z n0 h0) (Fb : Fld Z h0 r0 "com/example/murray_hill/murrayhill/AsciiLine" "bytes" "[B" (.ref bb)) (Fl : Fld Z h0 r0 "com/example/murray_hill/murrayhill/AsciiLine" "length" "I" (.int nn)) (Er : Exa Z h0 r0 "com/example/murray_hill/murrayhill/AsciiLine") (Hh : Arh Z h0 bb kb .byte (6 : Int32) hst [] (.int (0 : Int32))) (hts : own_ts nn cs_ hst) :
    MetFree l (⟨"com/example/murray_hill/murrayhill/AsciiLine", "toString", "()Ljava/lang/String;"⟩ : MethodName) (head1 (Jvm.Cond.code (⟨"com/example/murray_hill/murrayhill/AsciiLine", "toString", "()Ljava/lang/String;"⟩ : MethodName) prog_2_method_8_code 3 (some (.object "java/lang/String")) :: ws) ({ frames := 4, cells := 6, slots := 16, locals := 66 } : Room)) (fun a U => a = #[(.ref r0)] ∧ Z.Warmed39 U.vm ∧ U.heap = h0 ∧ CHv Z own_EL U.vm h0) (fun _ _ _ _ _ => True) (fun _ U o U' => ∃ v L, o = .returned v ∧ Q_rmTs Z r0 cs fm bb kb hst cs_ nn h0 n0 v U'.heap L ∧ CHr Z own_EL U.vm U.heap U'.vm U'.heap ∧ ReturnedEndW U o U' L ({ frames := 4, cells := 6, slots := 16, locals := 66 } : Room).cells ({ frames := 4, cells := 6, slots := 16, locals := 66 } : Room).slots) := by
  obtain ⟨a, b, c, d⟩ := hts
  subst a
  rcases cs_ with _ | ⟨w0, _ | ⟨w1, _ | ⟨w2, _ | ⟨w3, _ | ⟨w4, _ | ⟨w5, _ | ⟨w6, r⟩⟩⟩⟩⟩⟩⟩
  · exact rmTs0 l Z a0 hw ws r0 cs fm bb kb hst  h0 n0 Z0 SB Od Fb Fl Er Hh  
  · exact rmTs1 l Z a0 hw ws r0 cs fm bb kb hst w0 h0 n0 Z0 SB Od Fb Fl Er Hh (c w0 (by simp)) (d 0 (by simp))
  · exact rmTs2 l Z a0 hw ws r0 cs fm bb kb hst w0 w1 h0 n0 Z0 SB Od Fb Fl Er Hh (c w0 (by simp)) (c w1 (by simp)) (d 0 (by simp)) (d 1 (by simp))
  · exact rmTs3 l Z a0 hw ws r0 cs fm bb kb hst w0 w1 w2 h0 n0 Z0 SB Od Fb Fl Er Hh (c w0 (by simp)) (c w1 (by simp)) (c w2 (by simp)) (d 0 (by simp)) (d 1 (by simp)) (d 2 (by simp))
  · exact rmTs4 l Z a0 hw ws r0 cs fm bb kb hst w0 w1 w2 w3 h0 n0 Z0 SB Od Fb Fl Er Hh (c w0 (by simp)) (c w1 (by simp)) (c w2 (by simp)) (c w3 (by simp)) (d 0 (by simp)) (d 1 (by simp)) (d 2 (by simp)) (d 3 (by simp))
  · exact rmTs5 l Z a0 hw ws r0 cs fm bb kb hst w0 w1 w2 w3 w4 h0 n0 Z0 SB Od Fb Fl Er Hh (c w0 (by simp)) (c w1 (by simp)) (c w2 (by simp)) (c w3 (by simp)) (c w4 (by simp)) (d 0 (by simp)) (d 1 (by simp)) (d 2 (by simp)) (d 3 (by simp)) (d 4 (by simp))
  · exact rmTs6 l Z a0 hw ws r0 cs fm bb kb hst w0 w1 w2 w3 w4 w5 h0 n0 Z0 SB Od Fb Fl Er Hh (c w0 (by simp)) (c w1 (by simp)) (c w2 (by simp)) (c w3 (by simp)) (c w4 (by simp)) (c w5 (by simp)) (d 0 (by simp)) (d 1 (by simp)) (d 2 (by simp)) (d 3 (by simp)) (d 4 (by simp)) (d 5 (by simp))
  · exact absurd b (by simp)
def own_D0 (n la : Int32) (cs : List Int32) (x0 x1 x2 z0 z1 z2 : Int32) : Prop := (¬ (0 : Int32) < n) ∨ ((0 : Int32) < n ∧ 0 < (cs).length ∧ (((0 : Int32) < la ∧ (cs).getD 0 0 = x0) ∨ (¬ (0 : Int32) < la ∧ (((0 : Int32) - la = (0 : Int32) ∧ (cs).getD 0 0 = z0)))))
theorem own_Dl0 {la lb x0 x1 x2 z0 z1 z2 : Int32} {cs1 cs2 : List Int32} (h1 : own_mk la cs1 x0 x1 x2) (h2 : own_mk lb cs2 z0 z1 z2) : own_D0 (la + lb) la (cs1 ++ cs2) x0 x1 x2 z0 z1 z2 := by
  rcases h1 with ⟨a, b⟩ | ⟨a, b⟩ | ⟨a, b⟩ | ⟨a, b⟩ <;> rcases h2 with ⟨a', b'⟩ | ⟨a', b'⟩ | ⟨a', b'⟩ | ⟨a', b'⟩ <;> subst a <;> subst b <;> subst a' <;> subst b' <;> first
    | exact Or.inl (by decide)
    | exact Or.inr ⟨by decide, by simp, Or.inl ⟨by decide, rfl⟩⟩
    | exact Or.inr ⟨by decide, by simp, Or.inr (⟨by decide, ⟨by decide, rfl⟩⟩)⟩
theorem d10_0 : decode method_4_code 0 = .ok (.iload_n 1, 1) := by decide +kernel
theorem d10_1 : decode method_4_code 1 = .ok (.iload_n 2, 1) := by decide +kernel
theorem d10_2 : decode method_4_code 2 = .ok (.if_icmp .lt 5, 3) := by decide +kernel
theorem d10_5 : decode method_4_code 5 = .ok (.iconst 1, 1) := by decide +kernel
theorem d10_6 : decode method_4_code 6 = .ok (.ireturn, 1) := by decide +kernel
theorem d10_7 : decode method_4_code 7 = .ok (.iload_n 1, 1) := by decide +kernel
theorem d10_8 : decode method_4_code 8 = .ok (.iload_n 3, 1) := by decide +kernel
theorem d10_9 : decode method_4_code 9 = .ok (.if_icmp .ge 12, 3) := by decide +kernel
theorem d10_12 : decode method_4_code 12 = .ok (.aload 4, 2) := by decide +kernel
theorem d10_14 : decode method_4_code 14 = .ok (.iload_n 1, 1) := by decide +kernel
theorem d10_15 : decode method_4_code 15 = .ok (.caload, 1) := by decide +kernel
theorem d10_16 : decode method_4_code 16 = .ok (.istore 6, 2) := by decide +kernel
theorem d10_18 : decode method_4_code 18 = .ok (.goto 11, 3) := by decide +kernel
theorem d10_21 : decode method_4_code 21 = .ok (.aload 5, 2) := by decide +kernel
theorem d10_23 : decode method_4_code 23 = .ok (.iload_n 1, 1) := by decide +kernel
theorem d10_24 : decode method_4_code 24 = .ok (.iload_n 3, 1) := by decide +kernel
theorem d10_25 : decode method_4_code 25 = .ok (.isub, 1) := by decide +kernel
theorem d10_26 : decode method_4_code 26 = .ok (.caload, 1) := by decide +kernel
theorem d10_27 : decode method_4_code 27 = .ok (.istore 6, 2) := by decide +kernel
theorem d10_29 : decode method_4_code 29 = .ok (.aload_n 0, 1) := by decide +kernel
theorem d10_30 : decode method_4_code 30 = .ok (.iload_n 1, 1) := by decide +kernel
theorem d10_31 : decode method_4_code 31 = .ok (.invokevirtual 39, 3) := by decide +kernel
theorem d10_34 : decode method_4_code 34 = .ok (.iload 6, 2) := by decide +kernel
theorem d10_36 : decode method_4_code 36 = .ok (.if_icmp .ne 7, 3) := by decide +kernel
theorem d10_39 : decode method_4_code 39 = .ok (.iconst 1, 1) := by decide +kernel
theorem d10_40 : decode method_4_code 40 = .ok (.goto 4, 3) := by decide +kernel
theorem d10_44 : decode method_4_code 44 = .ok (.ireturn, 1) := by decide +kernel
theorem ef_rmAt0 (m : MethodId) (x0 : Addr) (x1 : Int32) (x2 : Int32) (x3 : Int32) (x4 : Addr) (x5 : Addr) : entryFrame m #[(.ref x0), (.int x1), (.int x2), (.int x3), (.ref x4), (.ref x5)] 7 = mkF m 0 #[.val (.ref x0), .val (.int x1), .val (.int x2), .val (.int x3), .val (.ref x4), .val (.ref x5), .unset] [] := by first | (simp [entryFrame, mkF, argsToLocals, Value.category]; done) | rfl
def Q_rmAt0 (Z : State) (r0 : Addr) (p2 : Int32) (p3 : Int32) (r4 : Addr) (r5 : Addr) (cs : Int32) (fm : Value) (y : Addr) (ky : ClassId) (cs_ : List Int32) (ka : ClassId) (kb : ClassId) (x0 : Int32) (x1 : Int32) (x2 : Int32) (z0 : Int32) (z1 : Int32) (z2 : Int32) (h0 : Heap) (n0 : Nat) (v : Option Value) (h : Heap) (L : List Loc) : Prop := v = some (.int (1 : Int32)) ∧ Fr n0 L ∧ h = h0
set_option maxRecDepth 65536 in
set_option maxHeartbeats 40000000 in
theorem rmAt0 (l : Launch) (Z : State) (a0 : Array Value) (hw : ∀ d ∈ tables_1, d.before a0 Z = true) (ws : List Jvm.Cond) (r0 : Addr) (p2 : Int32) (p3 : Int32) (r4 : Addr) (r5 : Addr) (cs : Int32) (fm : Value) (y : Addr) (ky : ClassId) (cs_ : List Int32) (ka : ClassId) (kb : ClassId) (x0 : Int32) (x1 : Int32) (x2 : Int32) (z0 : Int32) (z1 : Int32) (z2 : Int32) (h0 : Heap) (n0 : Nat) (Z0 : n0 ≤ h0.size) (SB : own_St Z cs fm) (Od : Old Z n0 h0) (Fv : Fld Z h0 r0 "java/lang/String" "value" "[B" (.ref y)) (Fc : Fld Z h0 r0 "java/lang/String" "coder" "B" (.int (0 : Int32))) (Et : Exa Z h0 r0 "java/lang/String") (Vy : Arv Z h0 y ky .byte (Int32.ofNat cs_.length) (own_bs cs_) (.int (0 : Int32))) (hc7 : ∀ c ∈ cs_, own_c7 c) (hl4 : cs_.length ≤ 4000) (Va : Arv Z h0 r4 ka .char (3 : Int32) [(.int x0), (.int x1), (.int x2)] (.int (0 : Int32))) (Vb : Arv Z h0 r5 kb .char (3 : Int32) [(.int z0), (.int z1), (.int z2)] (.int (0 : Int32))) (hD : own_D0 p2 p3 cs_ x0 x1 x2 z0 z1 z2) :
    MetFree l (⟨"com/example/murray_hill/murrayhill/AsciiLineAppendPinLaw", "at", "(Ljava/lang/String;III[C[C)Z"⟩ : MethodName) (head1 (Jvm.Cond.code (⟨"com/example/murray_hill/murrayhill/AsciiLineAppendPinLaw", "at", "(Ljava/lang/String;III[C[C)Z"⟩ : MethodName) method_4_code 7 (some .boolean) :: ws) ({ frames := 4, cells := 0, slots := 0, locals := 53 } : Room)) (fun a U => a = #[(.ref r0), (.int (0 : Int32)), (.int p2), (.int p3), (.ref r4), (.ref r5)] ∧ Z.Warmed39 U.vm ∧ U.heap = h0) (fun _ _ _ _ _ => True) (fun _ U o U' => ∃ v L, o = .returned v ∧ Q_rmAt0 Z r0 p2 p3 r4 r5 cs fm y ky cs_ ka kb x0 x1 x2 z0 z1 z2 h0 n0 v U'.heap L ∧ FrameEnd U o U' L ({ frames := 4, cells := 0, slots := 0, locals := 53 } : Room).cells ({ frames := 4, cells := 0, slots := 0, locals := 53 } : Room).slots) := by
  refine MetFree.of_bodySF (plainFor_of_name pn_1) hisR ?_
  intro p e s m args below meth c s₁ Bd hml0 hP hK
  obtain ⟨rfl, hZ, hh⟩ := hP
  have hx := Bd.exec
  have hby := Bd.bytes
  have hml : c.maxLocals = 7 := hml0
  have hown : s.vm.findClass "com/example/murray_hill/murrayhill/AsciiLineAppendPinLaw" = some m.cls := findClass_of_methodNamed Bd.named
  have hnm := (name_of_methodNamed Bd.named Bd.method).1
  have X0 : Stand p l e ({ frames := 4, cells := 0, slots := 0, locals := 53 } : Room) s m #[(.ref r0), (.int (0 : Int32)), (.int p2), (.int p3), (.ref r4), (.ref r5)] below meth c s₁ [] 0 0 := Stand.of_body Bd
  have e0 : s₁.heap = h0 := by rw [← hh, Bd.state]; rfl
  have N0 := Fr.nil n0
  have pre0 : ∀ t, Steps p.tables e below (s₁.setTop (mkF m 0 #[.val (.ref r0), .val (.int (0 : Int32)), .val (.int p2), .val (.int p3), .val (.ref r4), .val (.ref r5), .unset] [])) t → Steps p.tables e below (s₁.setTop (entryFrame m #[(.ref r0), (.int (0 : Int32)), (.int p2), (.int p3), (.ref r4), (.ref r5)] 7)) t := fun t k => castTop (ef_rmAt0 m r0 (0 : Int32) p2 p3 r4 r5) k
  have hwordsChN : ∀ d ∈ StrChars.Road.wordsChN, d.before a0 Z = true := fun d hd => hw d ((by decide +kernel : ∀ d ∈ StrChars.Road.wordsChN, d ∈ tables_1) d hd)
  have st1 : own_S p e below s₁ (mkF m 2 #[.val (.ref r0), .val (.int (0 : Int32)), .val (.int p2), .val (.int p3), .val (.ref r4), .val (.ref r5), .unset] [(.int p2), (.int (0 : Int32))]) (mkF m 0 #[.val (.ref r0), .val (.int (0 : Int32)), .val (.int p2), .val (.int p3), .val (.ref r4), .val (.ref r5), .unset] []) := by
    intro target kt
    refine XS.iloadN X0.here hx rfl (hb hby d10_0) rfl ?_
    refine XS.iloadN X0.here hx rfl (hb hby d10_1) rfl ?_
    exact kt
  rcases hD with d1 | ⟨d1, hi, ⟨d2, eq_⟩ | ⟨d2, ⟨jk, eq_⟩⟩⟩
  · have st2 : own_S p e below s₁ (mkF m 5 #[.val (.ref r0), .val (.int (0 : Int32)), .val (.int p2), .val (.int p3), .val (.ref r4), .val (.ref r5), .unset] []) (mkF m 2 #[.val (.ref r0), .val (.int (0 : Int32)), .val (.int p2), .val (.int p3), .val (.ref r4), .val (.ref r5), .unset] [(.int p2), (.int (0 : Int32))]) := by
      intro target kt
      refine XS.icmpNo X0.here hx rfl (hb hby d10_2) rfl (flt d1).1 ?_
      exact kt
    obtain ⟨fs, hr, hrun, hended, hW, hsame⟩ := X0.leave (v := some (.int (1 : Int32))) (fun h => by rw [Bd.returns] at h; cases h)
    refine ⟨_, _, pre0 _ (st1 _ (st2 _ ?_)), hrun, hended, _, _, rfl, ?_, ⟨_, rfl⟩, hW, hsame.mono (by decide) (by decide)⟩
    · refine XS.iconst X0.here hx rfl (hb hby d10_5) ?_
      show Steps p.tables e below (s₁.setTop (mkF m 6 #[.val (.ref r0), .val (.int (0 : Int32)), .val (.int p2), .val (.int p3), .val (.ref r4), .val (.ref r5), .unset] [(.int (1 : Int32))])) _
      exact retN X0 hx (t := .boolean) Bd.returns (by simp) (hb hby d10_6) hr
    · show Q_rmAt0 Z r0 p2 p3 r4 r5 cs fm y ky cs_ ka kb x0 x1 x2 z0 z1 z2 h0 n0 _ s₁.heap _
      rw [e0]
      exact ⟨rfl, N0, rfl⟩
  · have st3 : own_S p e below s₁ (mkF m 7 #[.val (.ref r0), .val (.int (0 : Int32)), .val (.int p2), .val (.int p3), .val (.ref r4), .val (.ref r5), .unset] []) (mkF m 2 #[.val (.ref r0), .val (.int (0 : Int32)), .val (.int p2), .val (.int p3), .val (.ref r4), .val (.ref r5), .unset] [(.int p2), (.int (0 : Int32))]) := by
      intro target kt
      refine XS.icmpYes X0.here hx rfl (pc0 := 2) (pc' := 7) rfl (hb hby d10_2) rfl (tlt d1).1 (by decide) (by decide) ?_
      exact kt
    have st4 : own_S p e below s₁ (mkF m 9 #[.val (.ref r0), .val (.int (0 : Int32)), .val (.int p2), .val (.int p3), .val (.ref r4), .val (.ref r5), .unset] [(.int p3), (.int (0 : Int32))]) (mkF m 7 #[.val (.ref r0), .val (.int (0 : Int32)), .val (.int p2), .val (.int p3), .val (.ref r4), .val (.ref r5), .unset] []) := by
      intro target kt
      refine XS.iloadN X0.here hx rfl (hb hby d10_7) rfl ?_
      refine XS.iloadN X0.here hx rfl (hb hby d10_8) rfl ?_
      exact kt
    have st5 : own_S p e below s₁ (mkF m 12 #[.val (.ref r0), .val (.int (0 : Int32)), .val (.int p2), .val (.int p3), .val (.ref r4), .val (.ref r5), .unset] []) (mkF m 9 #[.val (.ref r0), .val (.int (0 : Int32)), .val (.int p2), .val (.int p3), .val (.ref r4), .val (.ref r5), .unset] [(.int p3), (.int (0 : Int32))]) := by
      intro target kt
      refine XS.icmpNo X0.here hx rfl (hb hby d10_9) rfl (tlt d2).2.1 ?_
      exact kt
    have st6 : own_S p e below s₁ (mkF m 15 #[.val (.ref r0), .val (.int (0 : Int32)), .val (.int p2), .val (.int p3), .val (.ref r4), .val (.ref r5), .unset] [(.int (0 : Int32)), (.ref r4)]) (mkF m 12 #[.val (.ref r0), .val (.int (0 : Int32)), .val (.int p2), .val (.int p3), .val (.ref r4), .val (.ref r5), .unset] []) := by
      intro target kt
      refine XS.aload X0.here hx rfl (hb hby d10_12) rfl rfl ?_
      refine XS.iloadN X0.here hx rfl (hb hby d10_14) rfl ?_
      exact kt
    obtain ⟨cl7, Ar7, qc7, Sz7, Mn7, Hs7, Gs7⟩ := id Va
    have hin7 : ¬ ((0 : Int32) < 0 ∨ cl7.slots.size ≤ ((0 : Int32)).toNatClampNeg) := inb_of Sz7 ⟨by decide, by decide⟩
    have hat7 : cl7.slots[((0 : Int32)).toNatClampNeg]? = some (.int x0) := Hs7.at hin7 rfl
    have st7 : own_S p e below s₁ (mkF m 16 #[.val (.ref r0), .val (.int (0 : Int32)), .val (.int p2), .val (.int p3), .val (.ref r4), .val (.ref r5), .unset] [(.int x0)]) (mkF m 15 #[.val (.ref r0), .val (.int (0 : Int32)), .val (.int p2), .val (.int p3), .val (.ref r4), .val (.ref r5), .unset] [(.int (0 : Int32)), (.ref r4)]) := fun target kt => X0.caload hx (j := (0 : Int32)) (v := (.int x0)) (by rw [e0]; exact Ar7.1) (State.isArrayOf_alike hZ.alike Ar7.2.1) Ar7.2.2 hin7 hat7 (g := (mkF m 15 #[.val (.ref r0), .val (.int (0 : Int32)), .val (.int p2), .val (.int p3), .val (.ref r4), .val (.ref r5), .unset] [(.int (0 : Int32)), (.ref r4)])) rfl rfl (hb hby d10_15) _ kt
    have st8 : own_S p e below s₁ (mkF m 31 #[.val (.ref r0), .val (.int (0 : Int32)), .val (.int p2), .val (.int p3), .val (.ref r4), .val (.ref r5), .val (.int x0)] [(.int (0 : Int32)), (.ref r0)]) (mkF m 16 #[.val (.ref r0), .val (.int (0 : Int32)), .val (.int p2), .val (.int p3), .val (.ref r4), .val (.ref r5), .unset] [(.int x0)]) := by
      intro target kt
      refine XS.istore X0.here hx rfl (hb hby d10_16) rfl (l' := #[.val (.ref r0), .val (.int (0 : Int32)), .val (.int p2), .val (.int p3), .val (.ref r4), .val (.ref r5), .val (.int x0)]) rfl ?_
      refine XS.goto X0.here hx rfl (pc0 := 18) (pc' := 29) rfl (hb hby d10_18) (by decide) (by decide) ?_
      refine XS.aloadN X0.here hx rfl (hb hby d10_29) rfl rfl ?_
      refine XS.iloadN X0.here hx rfl (hb hby d10_30) rfl ?_
      exact kt
    obtain ⟨cq9, kq9, qv9a, qv9b, qv9c⟩ := isOf hZ e0 Et
    obtain ⟨_, _, ⟨T9, L9, k9, n9⟩, -, X9, ⟨Lc9, hQ9, l9, y9, z9⟩, st9⟩ := X0.virtualBack hx (y := (⟨"java/lang/String", "charAt", "(I)C"⟩ : MethodName)) (z := (⟨"java/lang/String", "charAt", "(I)C"⟩ : MethodName)) hown (mvT hZ (own_w hw 96 rfl)) (mvT hZ (own_w hw 75 rfl)) (notFace_of_selects (args := #[]) (mvT hZ (own_w hw 77 rfl))) (mvT hZ (own_w hw 77 rfl)) (mvT hZ (own_w hw 76 rfl)) (by decide) (StrChars.Road.chN (W := 0) hZ hwordsChN (kI := 4) (own_w hw 6 rfl) (cs := cs_) (i := 0) Et Fv Fc Vy (StrChars.Road.codOf rfl (own_hp1 hc7)) (own_hp2 hc7) (SB.1.ext Od.2) SB.2.1 (SB.2.2.1.ext Od.2) SB.2.2.2 hl4 hi rfl (by decide) (by decide)) qv9a qv9c (g := (mkF m 31 #[.val (.ref r0), .val (.int (0 : Int32)), .val (.int p2), .val (.int p3), .val (.ref r4), .val (.ref r5), .val (.int x0)] [(.int (0 : Int32)), (.ref r0)])) rfl (by rw [hml]; rfl) (Steps.refl _) (argsL := [(.int (0 : Int32))]) (rest := []) (lenOf pd_13 rfl) rfl (by show 2 * 0 + _ ≤ _; exact Nat.le_of_eq rfl) (hb hby d10_31) (fun _ _ => ⟨rfl, e0, (by decide : 0 + 0 ≤ _), (by decide : 0 + 0 ≤ _)⟩)
    dsimp only [Pt.U, Pt.locs, Pt.cells, Pt.slots] at X9 l9 y9 z9 st9 hQ9
    subst l9 y9 z9
    obtain ⟨rfl, Lq9, e9⟩ := hQ9
    subst Lq9
    have Nq9 := Fr.nil n0
    have N9 := Fr.app N0 Nq9
    rw [eq_] at st9
    obtain ⟨fs, hr, hrun, hended, hW, hsame⟩ := X9.leave (v := some (.int (1 : Int32))) (fun h => by rw [Bd.returns] at h; cases h)
    refine ⟨_, _, pre0 _ (st1 _ (st3 _ (st4 _ (st5 _ (st6 _ (st7 _ (st8 _ (st9.trans ?_)))))))), hrun, hended, _, _, rfl, ?_, ⟨_, rfl⟩, hW, hsame.mono (by decide) (by decide)⟩
    · refine XS.iload X9.here hx rfl (hb hby d10_34) rfl ?_
      refine XS.icmpNo X9.here hx rfl (hb hby d10_36) rfl (teq (rfl : x0 = x0)).2 ?_
      refine XS.iconst X9.here hx rfl (hb hby d10_39) ?_
      refine XS.goto X9.here hx rfl (pc0 := 40) (pc' := 44) rfl (hb hby d10_40) (by decide) (by decide) ?_
      show Steps p.tables e below (T9.setTop (mkF m 44 #[.val (.ref r0), .val (.int (0 : Int32)), .val (.int p2), .val (.int p3), .val (.ref r4), .val (.ref r5), .val (.int x0)] [(.int (1 : Int32))])) _
      exact retN X9 hx (t := .boolean) Bd.returns (by simp) (hb hby d10_44) hr
    · show Q_rmAt0 Z r0 p2 p3 r4 r5 cs fm y ky cs_ ka kb x0 x1 x2 z0 z1 z2 h0 n0 _ T9.heap _
      rw [e9]
      exact ⟨rfl, N9, rfl⟩
  · have st10 : own_S p e below s₁ (mkF m 7 #[.val (.ref r0), .val (.int (0 : Int32)), .val (.int p2), .val (.int p3), .val (.ref r4), .val (.ref r5), .unset] []) (mkF m 2 #[.val (.ref r0), .val (.int (0 : Int32)), .val (.int p2), .val (.int p3), .val (.ref r4), .val (.ref r5), .unset] [(.int p2), (.int (0 : Int32))]) := by
      intro target kt
      refine XS.icmpYes X0.here hx rfl (pc0 := 2) (pc' := 7) rfl (hb hby d10_2) rfl (tlt d1).1 (by decide) (by decide) ?_
      exact kt
    have st11 : own_S p e below s₁ (mkF m 9 #[.val (.ref r0), .val (.int (0 : Int32)), .val (.int p2), .val (.int p3), .val (.ref r4), .val (.ref r5), .unset] [(.int p3), (.int (0 : Int32))]) (mkF m 7 #[.val (.ref r0), .val (.int (0 : Int32)), .val (.int p2), .val (.int p3), .val (.ref r4), .val (.ref r5), .unset] []) := by
      intro target kt
      refine XS.iloadN X0.here hx rfl (hb hby d10_7) rfl ?_
      refine XS.iloadN X0.here hx rfl (hb hby d10_8) rfl ?_
      exact kt
    have st12 : own_S p e below s₁ (mkF m 21 #[.val (.ref r0), .val (.int (0 : Int32)), .val (.int p2), .val (.int p3), .val (.ref r4), .val (.ref r5), .unset] []) (mkF m 9 #[.val (.ref r0), .val (.int (0 : Int32)), .val (.int p2), .val (.int p3), .val (.ref r4), .val (.ref r5), .unset] [(.int p3), (.int (0 : Int32))]) := by
      intro target kt
      refine XS.icmpYes X0.here hx rfl (pc0 := 9) (pc' := 21) rfl (hb hby d10_9) rfl (flt d2).2.1 (by decide) (by decide) ?_
      exact kt
    have st13 : own_S p e below s₁ (mkF m 26 #[.val (.ref r0), .val (.int (0 : Int32)), .val (.int p2), .val (.int p3), .val (.ref r4), .val (.ref r5), .unset] [(.int ((0 : Int32) - p3)), (.ref r5)]) (mkF m 21 #[.val (.ref r0), .val (.int (0 : Int32)), .val (.int p2), .val (.int p3), .val (.ref r4), .val (.ref r5), .unset] []) := by
      intro target kt
      refine XS.aload X0.here hx rfl (hb hby d10_21) rfl rfl ?_
      refine XS.iloadN X0.here hx rfl (hb hby d10_23) rfl ?_
      refine XS.iloadN X0.here hx rfl (hb hby d10_24) rfl ?_
      refine XS.isub X0.here hx rfl (hb hby d10_25) rfl ?_
      exact kt
    rw [jk] at st13
    obtain ⟨cl14, Ar14, qc14, Sz14, Mn14, Hs14, Gs14⟩ := id Vb
    have hin14 : ¬ ((0 : Int32) < 0 ∨ cl14.slots.size ≤ ((0 : Int32)).toNatClampNeg) := inb_of Sz14 ⟨by decide, by decide⟩
    have hat14 : cl14.slots[((0 : Int32)).toNatClampNeg]? = some (.int z0) := Hs14.at hin14 rfl
    have st14 : own_S p e below s₁ (mkF m 27 #[.val (.ref r0), .val (.int (0 : Int32)), .val (.int p2), .val (.int p3), .val (.ref r4), .val (.ref r5), .unset] [(.int z0)]) (mkF m 26 #[.val (.ref r0), .val (.int (0 : Int32)), .val (.int p2), .val (.int p3), .val (.ref r4), .val (.ref r5), .unset] [(.int (0 : Int32)), (.ref r5)]) := fun target kt => X0.caload hx (j := (0 : Int32)) (v := (.int z0)) (by rw [e0]; exact Ar14.1) (State.isArrayOf_alike hZ.alike Ar14.2.1) Ar14.2.2 hin14 hat14 (g := (mkF m 26 #[.val (.ref r0), .val (.int (0 : Int32)), .val (.int p2), .val (.int p3), .val (.ref r4), .val (.ref r5), .unset] [(.int (0 : Int32)), (.ref r5)])) rfl rfl (hb hby d10_26) _ kt
    have st15 : own_S p e below s₁ (mkF m 31 #[.val (.ref r0), .val (.int (0 : Int32)), .val (.int p2), .val (.int p3), .val (.ref r4), .val (.ref r5), .val (.int z0)] [(.int (0 : Int32)), (.ref r0)]) (mkF m 27 #[.val (.ref r0), .val (.int (0 : Int32)), .val (.int p2), .val (.int p3), .val (.ref r4), .val (.ref r5), .unset] [(.int z0)]) := by
      intro target kt
      refine XS.istore X0.here hx rfl (hb hby d10_27) rfl (l' := #[.val (.ref r0), .val (.int (0 : Int32)), .val (.int p2), .val (.int p3), .val (.ref r4), .val (.ref r5), .val (.int z0)]) rfl ?_
      refine XS.aloadN X0.here hx rfl (hb hby d10_29) rfl rfl ?_
      refine XS.iloadN X0.here hx rfl (hb hby d10_30) rfl ?_
      exact kt
    obtain ⟨cq16, kq16, qv16a, qv16b, qv16c⟩ := isOf hZ e0 Et
    obtain ⟨_, _, ⟨T16, L16, k16, n16⟩, -, X16, ⟨Lc16, hQ16, l16, y16, z16⟩, st16⟩ := X0.virtualBack hx (y := (⟨"java/lang/String", "charAt", "(I)C"⟩ : MethodName)) (z := (⟨"java/lang/String", "charAt", "(I)C"⟩ : MethodName)) hown (mvT hZ (own_w hw 96 rfl)) (mvT hZ (own_w hw 75 rfl)) (notFace_of_selects (args := #[]) (mvT hZ (own_w hw 77 rfl))) (mvT hZ (own_w hw 77 rfl)) (mvT hZ (own_w hw 76 rfl)) (by decide) (StrChars.Road.chN (W := 0) hZ hwordsChN (kI := 4) (own_w hw 6 rfl) (cs := cs_) (i := 0) Et Fv Fc Vy (StrChars.Road.codOf rfl (own_hp1 hc7)) (own_hp2 hc7) (SB.1.ext Od.2) SB.2.1 (SB.2.2.1.ext Od.2) SB.2.2.2 hl4 hi rfl (by decide) (by decide)) qv16a qv16c (g := (mkF m 31 #[.val (.ref r0), .val (.int (0 : Int32)), .val (.int p2), .val (.int p3), .val (.ref r4), .val (.ref r5), .val (.int z0)] [(.int (0 : Int32)), (.ref r0)])) rfl (by rw [hml]; rfl) (Steps.refl _) (argsL := [(.int (0 : Int32))]) (rest := []) (lenOf pd_13 rfl) rfl (by show 2 * 0 + _ ≤ _; exact Nat.le_of_eq rfl) (hb hby d10_31) (fun _ _ => ⟨rfl, e0, (by decide : 0 + 0 ≤ _), (by decide : 0 + 0 ≤ _)⟩)
    dsimp only [Pt.U, Pt.locs, Pt.cells, Pt.slots] at X16 l16 y16 z16 st16 hQ16
    subst l16 y16 z16
    obtain ⟨rfl, Lq16, e16⟩ := hQ16
    subst Lq16
    have Nq16 := Fr.nil n0
    have N16 := Fr.app N0 Nq16
    rw [eq_] at st16
    obtain ⟨fs, hr, hrun, hended, hW, hsame⟩ := X16.leave (v := some (.int (1 : Int32))) (fun h => by rw [Bd.returns] at h; cases h)
    refine ⟨_, _, pre0 _ (st1 _ (st10 _ (st11 _ (st12 _ (st13 _ (st14 _ (st15 _ (st16.trans ?_)))))))), hrun, hended, _, _, rfl, ?_, ⟨_, rfl⟩, hW, hsame.mono (by decide) (by decide)⟩
    · refine XS.iload X16.here hx rfl (hb hby d10_34) rfl ?_
      refine XS.icmpNo X16.here hx rfl (hb hby d10_36) rfl (teq (rfl : z0 = z0)).2 ?_
      refine XS.iconst X16.here hx rfl (hb hby d10_39) ?_
      refine XS.goto X16.here hx rfl (pc0 := 40) (pc' := 44) rfl (hb hby d10_40) (by decide) (by decide) ?_
      show Steps p.tables e below (T16.setTop (mkF m 44 #[.val (.ref r0), .val (.int (0 : Int32)), .val (.int p2), .val (.int p3), .val (.ref r4), .val (.ref r5), .val (.int z0)] [(.int (1 : Int32))])) _
      exact retN X16 hx (t := .boolean) Bd.returns (by simp) (hb hby d10_44) hr
    · show Q_rmAt0 Z r0 p2 p3 r4 r5 cs fm y ky cs_ ka kb x0 x1 x2 z0 z1 z2 h0 n0 _ T16.heap _
      rw [e16]
      exact ⟨rfl, N16, rfl⟩
def own_D1 (n la : Int32) (cs : List Int32) (x0 x1 x2 z0 z1 z2 : Int32) : Prop := (¬ (1 : Int32) < n) ∨ ((1 : Int32) < n ∧ 1 < (cs).length ∧ (((1 : Int32) < la ∧ (cs).getD 1 0 = x1) ∨ (¬ (1 : Int32) < la ∧ (((1 : Int32) - la = (0 : Int32) ∧ (cs).getD 1 0 = z0) ∨ ((1 : Int32) - la = (1 : Int32) ∧ (cs).getD 1 0 = z1)))))
theorem own_Dl1 {la lb x0 x1 x2 z0 z1 z2 : Int32} {cs1 cs2 : List Int32} (h1 : own_mk la cs1 x0 x1 x2) (h2 : own_mk lb cs2 z0 z1 z2) : own_D1 (la + lb) la (cs1 ++ cs2) x0 x1 x2 z0 z1 z2 := by
  rcases h1 with ⟨a, b⟩ | ⟨a, b⟩ | ⟨a, b⟩ | ⟨a, b⟩ <;> rcases h2 with ⟨a', b'⟩ | ⟨a', b'⟩ | ⟨a', b'⟩ | ⟨a', b'⟩ <;> subst a <;> subst b <;> subst a' <;> subst b' <;> first
    | exact Or.inl (by decide)
    | exact Or.inr ⟨by decide, by simp, Or.inl ⟨by decide, rfl⟩⟩
    | exact Or.inr ⟨by decide, by simp, Or.inr (⟨by decide, Or.inl ⟨by decide, rfl⟩⟩)⟩
    | exact Or.inr ⟨by decide, by simp, Or.inr (⟨by decide, Or.inr (⟨by decide, rfl⟩)⟩)⟩
theorem ef_rmAt1 (m : MethodId) (x0 : Addr) (x1 : Int32) (x2 : Int32) (x3 : Int32) (x4 : Addr) (x5 : Addr) : entryFrame m #[(.ref x0), (.int x1), (.int x2), (.int x3), (.ref x4), (.ref x5)] 7 = mkF m 0 #[.val (.ref x0), .val (.int x1), .val (.int x2), .val (.int x3), .val (.ref x4), .val (.ref x5), .unset] [] := by first | (simp [entryFrame, mkF, argsToLocals, Value.category]; done) | rfl
def Q_rmAt1 (Z : State) (r0 : Addr) (p2 : Int32) (p3 : Int32) (r4 : Addr) (r5 : Addr) (cs : Int32) (fm : Value) (y : Addr) (ky : ClassId) (cs_ : List Int32) (ka : ClassId) (kb : ClassId) (x0 : Int32) (x1 : Int32) (x2 : Int32) (z0 : Int32) (z1 : Int32) (z2 : Int32) (h0 : Heap) (n0 : Nat) (v : Option Value) (h : Heap) (L : List Loc) : Prop := v = some (.int (1 : Int32)) ∧ Fr n0 L ∧ h = h0
set_option maxRecDepth 65536 in
set_option maxHeartbeats 40000000 in
theorem rmAt1 (l : Launch) (Z : State) (a0 : Array Value) (hw : ∀ d ∈ tables_1, d.before a0 Z = true) (ws : List Jvm.Cond) (r0 : Addr) (p2 : Int32) (p3 : Int32) (r4 : Addr) (r5 : Addr) (cs : Int32) (fm : Value) (y : Addr) (ky : ClassId) (cs_ : List Int32) (ka : ClassId) (kb : ClassId) (x0 : Int32) (x1 : Int32) (x2 : Int32) (z0 : Int32) (z1 : Int32) (z2 : Int32) (h0 : Heap) (n0 : Nat) (Z0 : n0 ≤ h0.size) (SB : own_St Z cs fm) (Od : Old Z n0 h0) (Fv : Fld Z h0 r0 "java/lang/String" "value" "[B" (.ref y)) (Fc : Fld Z h0 r0 "java/lang/String" "coder" "B" (.int (0 : Int32))) (Et : Exa Z h0 r0 "java/lang/String") (Vy : Arv Z h0 y ky .byte (Int32.ofNat cs_.length) (own_bs cs_) (.int (0 : Int32))) (hc7 : ∀ c ∈ cs_, own_c7 c) (hl4 : cs_.length ≤ 4000) (Va : Arv Z h0 r4 ka .char (3 : Int32) [(.int x0), (.int x1), (.int x2)] (.int (0 : Int32))) (Vb : Arv Z h0 r5 kb .char (3 : Int32) [(.int z0), (.int z1), (.int z2)] (.int (0 : Int32))) (hD : own_D1 p2 p3 cs_ x0 x1 x2 z0 z1 z2) :
    MetFree l (⟨"com/example/murray_hill/murrayhill/AsciiLineAppendPinLaw", "at", "(Ljava/lang/String;III[C[C)Z"⟩ : MethodName) (head1 (Jvm.Cond.code (⟨"com/example/murray_hill/murrayhill/AsciiLineAppendPinLaw", "at", "(Ljava/lang/String;III[C[C)Z"⟩ : MethodName) method_4_code 7 (some .boolean) :: ws) ({ frames := 4, cells := 0, slots := 0, locals := 53 } : Room)) (fun a U => a = #[(.ref r0), (.int (1 : Int32)), (.int p2), (.int p3), (.ref r4), (.ref r5)] ∧ Z.Warmed39 U.vm ∧ U.heap = h0) (fun _ _ _ _ _ => True) (fun _ U o U' => ∃ v L, o = .returned v ∧ Q_rmAt1 Z r0 p2 p3 r4 r5 cs fm y ky cs_ ka kb x0 x1 x2 z0 z1 z2 h0 n0 v U'.heap L ∧ FrameEnd U o U' L ({ frames := 4, cells := 0, slots := 0, locals := 53 } : Room).cells ({ frames := 4, cells := 0, slots := 0, locals := 53 } : Room).slots) := by
  refine MetFree.of_bodySF (plainFor_of_name pn_1) hisR ?_
  intro p e s m args below meth c s₁ Bd hml0 hP hK
  obtain ⟨rfl, hZ, hh⟩ := hP
  have hx := Bd.exec
  have hby := Bd.bytes
  have hml : c.maxLocals = 7 := hml0
  have hown : s.vm.findClass "com/example/murray_hill/murrayhill/AsciiLineAppendPinLaw" = some m.cls := findClass_of_methodNamed Bd.named
  have hnm := (name_of_methodNamed Bd.named Bd.method).1
  have X0 : Stand p l e ({ frames := 4, cells := 0, slots := 0, locals := 53 } : Room) s m #[(.ref r0), (.int (1 : Int32)), (.int p2), (.int p3), (.ref r4), (.ref r5)] below meth c s₁ [] 0 0 := Stand.of_body Bd
  have e0 : s₁.heap = h0 := by rw [← hh, Bd.state]; rfl
  have N0 := Fr.nil n0
  have pre0 : ∀ t, Steps p.tables e below (s₁.setTop (mkF m 0 #[.val (.ref r0), .val (.int (1 : Int32)), .val (.int p2), .val (.int p3), .val (.ref r4), .val (.ref r5), .unset] [])) t → Steps p.tables e below (s₁.setTop (entryFrame m #[(.ref r0), (.int (1 : Int32)), (.int p2), (.int p3), (.ref r4), (.ref r5)] 7)) t := fun t k => castTop (ef_rmAt1 m r0 (1 : Int32) p2 p3 r4 r5) k
  have hwordsChN : ∀ d ∈ StrChars.Road.wordsChN, d.before a0 Z = true := fun d hd => hw d ((by decide +kernel : ∀ d ∈ StrChars.Road.wordsChN, d ∈ tables_1) d hd)
  have st1 : own_S p e below s₁ (mkF m 2 #[.val (.ref r0), .val (.int (1 : Int32)), .val (.int p2), .val (.int p3), .val (.ref r4), .val (.ref r5), .unset] [(.int p2), (.int (1 : Int32))]) (mkF m 0 #[.val (.ref r0), .val (.int (1 : Int32)), .val (.int p2), .val (.int p3), .val (.ref r4), .val (.ref r5), .unset] []) := by
    intro target kt
    refine XS.iloadN X0.here hx rfl (hb hby d10_0) rfl ?_
    refine XS.iloadN X0.here hx rfl (hb hby d10_1) rfl ?_
    exact kt
  rcases hD with d1 | ⟨d1, hi, ⟨d2, eq_⟩ | ⟨d2, (⟨jk, eq_⟩ | ⟨jk, eq_⟩)⟩⟩
  · have st2 : own_S p e below s₁ (mkF m 5 #[.val (.ref r0), .val (.int (1 : Int32)), .val (.int p2), .val (.int p3), .val (.ref r4), .val (.ref r5), .unset] []) (mkF m 2 #[.val (.ref r0), .val (.int (1 : Int32)), .val (.int p2), .val (.int p3), .val (.ref r4), .val (.ref r5), .unset] [(.int p2), (.int (1 : Int32))]) := by
      intro target kt
      refine XS.icmpNo X0.here hx rfl (hb hby d10_2) rfl (flt d1).1 ?_
      exact kt
    obtain ⟨fs, hr, hrun, hended, hW, hsame⟩ := X0.leave (v := some (.int (1 : Int32))) (fun h => by rw [Bd.returns] at h; cases h)
    refine ⟨_, _, pre0 _ (st1 _ (st2 _ ?_)), hrun, hended, _, _, rfl, ?_, ⟨_, rfl⟩, hW, hsame.mono (by decide) (by decide)⟩
    · refine XS.iconst X0.here hx rfl (hb hby d10_5) ?_
      show Steps p.tables e below (s₁.setTop (mkF m 6 #[.val (.ref r0), .val (.int (1 : Int32)), .val (.int p2), .val (.int p3), .val (.ref r4), .val (.ref r5), .unset] [(.int (1 : Int32))])) _
      exact retN X0 hx (t := .boolean) Bd.returns (by simp) (hb hby d10_6) hr
    · show Q_rmAt1 Z r0 p2 p3 r4 r5 cs fm y ky cs_ ka kb x0 x1 x2 z0 z1 z2 h0 n0 _ s₁.heap _
      rw [e0]
      exact ⟨rfl, N0, rfl⟩
  · have st3 : own_S p e below s₁ (mkF m 7 #[.val (.ref r0), .val (.int (1 : Int32)), .val (.int p2), .val (.int p3), .val (.ref r4), .val (.ref r5), .unset] []) (mkF m 2 #[.val (.ref r0), .val (.int (1 : Int32)), .val (.int p2), .val (.int p3), .val (.ref r4), .val (.ref r5), .unset] [(.int p2), (.int (1 : Int32))]) := by
      intro target kt
      refine XS.icmpYes X0.here hx rfl (pc0 := 2) (pc' := 7) rfl (hb hby d10_2) rfl (tlt d1).1 (by decide) (by decide) ?_
      exact kt
    have st4 : own_S p e below s₁ (mkF m 9 #[.val (.ref r0), .val (.int (1 : Int32)), .val (.int p2), .val (.int p3), .val (.ref r4), .val (.ref r5), .unset] [(.int p3), (.int (1 : Int32))]) (mkF m 7 #[.val (.ref r0), .val (.int (1 : Int32)), .val (.int p2), .val (.int p3), .val (.ref r4), .val (.ref r5), .unset] []) := by
      intro target kt
      refine XS.iloadN X0.here hx rfl (hb hby d10_7) rfl ?_
      refine XS.iloadN X0.here hx rfl (hb hby d10_8) rfl ?_
      exact kt
    have st5 : own_S p e below s₁ (mkF m 12 #[.val (.ref r0), .val (.int (1 : Int32)), .val (.int p2), .val (.int p3), .val (.ref r4), .val (.ref r5), .unset] []) (mkF m 9 #[.val (.ref r0), .val (.int (1 : Int32)), .val (.int p2), .val (.int p3), .val (.ref r4), .val (.ref r5), .unset] [(.int p3), (.int (1 : Int32))]) := by
      intro target kt
      refine XS.icmpNo X0.here hx rfl (hb hby d10_9) rfl (tlt d2).2.1 ?_
      exact kt
    have st6 : own_S p e below s₁ (mkF m 15 #[.val (.ref r0), .val (.int (1 : Int32)), .val (.int p2), .val (.int p3), .val (.ref r4), .val (.ref r5), .unset] [(.int (1 : Int32)), (.ref r4)]) (mkF m 12 #[.val (.ref r0), .val (.int (1 : Int32)), .val (.int p2), .val (.int p3), .val (.ref r4), .val (.ref r5), .unset] []) := by
      intro target kt
      refine XS.aload X0.here hx rfl (hb hby d10_12) rfl rfl ?_
      refine XS.iloadN X0.here hx rfl (hb hby d10_14) rfl ?_
      exact kt
    obtain ⟨cl7, Ar7, qc7, Sz7, Mn7, Hs7, Gs7⟩ := id Va
    have hin7 : ¬ ((1 : Int32) < 0 ∨ cl7.slots.size ≤ ((1 : Int32)).toNatClampNeg) := inb_of Sz7 ⟨by decide, by decide⟩
    have hat7 : cl7.slots[((1 : Int32)).toNatClampNeg]? = some (.int x1) := Hs7.at hin7 rfl
    have st7 : own_S p e below s₁ (mkF m 16 #[.val (.ref r0), .val (.int (1 : Int32)), .val (.int p2), .val (.int p3), .val (.ref r4), .val (.ref r5), .unset] [(.int x1)]) (mkF m 15 #[.val (.ref r0), .val (.int (1 : Int32)), .val (.int p2), .val (.int p3), .val (.ref r4), .val (.ref r5), .unset] [(.int (1 : Int32)), (.ref r4)]) := fun target kt => X0.caload hx (j := (1 : Int32)) (v := (.int x1)) (by rw [e0]; exact Ar7.1) (State.isArrayOf_alike hZ.alike Ar7.2.1) Ar7.2.2 hin7 hat7 (g := (mkF m 15 #[.val (.ref r0), .val (.int (1 : Int32)), .val (.int p2), .val (.int p3), .val (.ref r4), .val (.ref r5), .unset] [(.int (1 : Int32)), (.ref r4)])) rfl rfl (hb hby d10_15) _ kt
    have st8 : own_S p e below s₁ (mkF m 31 #[.val (.ref r0), .val (.int (1 : Int32)), .val (.int p2), .val (.int p3), .val (.ref r4), .val (.ref r5), .val (.int x1)] [(.int (1 : Int32)), (.ref r0)]) (mkF m 16 #[.val (.ref r0), .val (.int (1 : Int32)), .val (.int p2), .val (.int p3), .val (.ref r4), .val (.ref r5), .unset] [(.int x1)]) := by
      intro target kt
      refine XS.istore X0.here hx rfl (hb hby d10_16) rfl (l' := #[.val (.ref r0), .val (.int (1 : Int32)), .val (.int p2), .val (.int p3), .val (.ref r4), .val (.ref r5), .val (.int x1)]) rfl ?_
      refine XS.goto X0.here hx rfl (pc0 := 18) (pc' := 29) rfl (hb hby d10_18) (by decide) (by decide) ?_
      refine XS.aloadN X0.here hx rfl (hb hby d10_29) rfl rfl ?_
      refine XS.iloadN X0.here hx rfl (hb hby d10_30) rfl ?_
      exact kt
    obtain ⟨cq9, kq9, qv9a, qv9b, qv9c⟩ := isOf hZ e0 Et
    obtain ⟨_, _, ⟨T9, L9, k9, n9⟩, -, X9, ⟨Lc9, hQ9, l9, y9, z9⟩, st9⟩ := X0.virtualBack hx (y := (⟨"java/lang/String", "charAt", "(I)C"⟩ : MethodName)) (z := (⟨"java/lang/String", "charAt", "(I)C"⟩ : MethodName)) hown (mvT hZ (own_w hw 96 rfl)) (mvT hZ (own_w hw 75 rfl)) (notFace_of_selects (args := #[]) (mvT hZ (own_w hw 77 rfl))) (mvT hZ (own_w hw 77 rfl)) (mvT hZ (own_w hw 76 rfl)) (by decide) (StrChars.Road.chN (W := 0) hZ hwordsChN (kI := 4) (own_w hw 6 rfl) (cs := cs_) (i := 1) Et Fv Fc Vy (StrChars.Road.codOf rfl (own_hp1 hc7)) (own_hp2 hc7) (SB.1.ext Od.2) SB.2.1 (SB.2.2.1.ext Od.2) SB.2.2.2 hl4 hi rfl (by decide) (by decide)) qv9a qv9c (g := (mkF m 31 #[.val (.ref r0), .val (.int (1 : Int32)), .val (.int p2), .val (.int p3), .val (.ref r4), .val (.ref r5), .val (.int x1)] [(.int (1 : Int32)), (.ref r0)])) rfl (by rw [hml]; rfl) (Steps.refl _) (argsL := [(.int (1 : Int32))]) (rest := []) (lenOf pd_13 rfl) rfl (by show 2 * 0 + _ ≤ _; exact Nat.le_of_eq rfl) (hb hby d10_31) (fun _ _ => ⟨rfl, e0, (by decide : 0 + 0 ≤ _), (by decide : 0 + 0 ≤ _)⟩)
    dsimp only [Pt.U, Pt.locs, Pt.cells, Pt.slots] at X9 l9 y9 z9 st9 hQ9
    subst l9 y9 z9
    obtain ⟨rfl, Lq9, e9⟩ := hQ9
    subst Lq9
    have Nq9 := Fr.nil n0
    have N9 := Fr.app N0 Nq9
    rw [eq_] at st9
    obtain ⟨fs, hr, hrun, hended, hW, hsame⟩ := X9.leave (v := some (.int (1 : Int32))) (fun h => by rw [Bd.returns] at h; cases h)
    refine ⟨_, _, pre0 _ (st1 _ (st3 _ (st4 _ (st5 _ (st6 _ (st7 _ (st8 _ (st9.trans ?_)))))))), hrun, hended, _, _, rfl, ?_, ⟨_, rfl⟩, hW, hsame.mono (by decide) (by decide)⟩
    · refine XS.iload X9.here hx rfl (hb hby d10_34) rfl ?_
      refine XS.icmpNo X9.here hx rfl (hb hby d10_36) rfl (teq (rfl : x1 = x1)).2 ?_
      refine XS.iconst X9.here hx rfl (hb hby d10_39) ?_
      refine XS.goto X9.here hx rfl (pc0 := 40) (pc' := 44) rfl (hb hby d10_40) (by decide) (by decide) ?_
      show Steps p.tables e below (T9.setTop (mkF m 44 #[.val (.ref r0), .val (.int (1 : Int32)), .val (.int p2), .val (.int p3), .val (.ref r4), .val (.ref r5), .val (.int x1)] [(.int (1 : Int32))])) _
      exact retN X9 hx (t := .boolean) Bd.returns (by simp) (hb hby d10_44) hr
    · show Q_rmAt1 Z r0 p2 p3 r4 r5 cs fm y ky cs_ ka kb x0 x1 x2 z0 z1 z2 h0 n0 _ T9.heap _
      rw [e9]
      exact ⟨rfl, N9, rfl⟩
  · have st10 : own_S p e below s₁ (mkF m 7 #[.val (.ref r0), .val (.int (1 : Int32)), .val (.int p2), .val (.int p3), .val (.ref r4), .val (.ref r5), .unset] []) (mkF m 2 #[.val (.ref r0), .val (.int (1 : Int32)), .val (.int p2), .val (.int p3), .val (.ref r4), .val (.ref r5), .unset] [(.int p2), (.int (1 : Int32))]) := by
      intro target kt
      refine XS.icmpYes X0.here hx rfl (pc0 := 2) (pc' := 7) rfl (hb hby d10_2) rfl (tlt d1).1 (by decide) (by decide) ?_
      exact kt
    have st11 : own_S p e below s₁ (mkF m 9 #[.val (.ref r0), .val (.int (1 : Int32)), .val (.int p2), .val (.int p3), .val (.ref r4), .val (.ref r5), .unset] [(.int p3), (.int (1 : Int32))]) (mkF m 7 #[.val (.ref r0), .val (.int (1 : Int32)), .val (.int p2), .val (.int p3), .val (.ref r4), .val (.ref r5), .unset] []) := by
      intro target kt
      refine XS.iloadN X0.here hx rfl (hb hby d10_7) rfl ?_
      refine XS.iloadN X0.here hx rfl (hb hby d10_8) rfl ?_
      exact kt
    have st12 : own_S p e below s₁ (mkF m 21 #[.val (.ref r0), .val (.int (1 : Int32)), .val (.int p2), .val (.int p3), .val (.ref r4), .val (.ref r5), .unset] []) (mkF m 9 #[.val (.ref r0), .val (.int (1 : Int32)), .val (.int p2), .val (.int p3), .val (.ref r4), .val (.ref r5), .unset] [(.int p3), (.int (1 : Int32))]) := by
      intro target kt
      refine XS.icmpYes X0.here hx rfl (pc0 := 9) (pc' := 21) rfl (hb hby d10_9) rfl (flt d2).2.1 (by decide) (by decide) ?_
      exact kt
    have st13 : own_S p e below s₁ (mkF m 26 #[.val (.ref r0), .val (.int (1 : Int32)), .val (.int p2), .val (.int p3), .val (.ref r4), .val (.ref r5), .unset] [(.int ((1 : Int32) - p3)), (.ref r5)]) (mkF m 21 #[.val (.ref r0), .val (.int (1 : Int32)), .val (.int p2), .val (.int p3), .val (.ref r4), .val (.ref r5), .unset] []) := by
      intro target kt
      refine XS.aload X0.here hx rfl (hb hby d10_21) rfl rfl ?_
      refine XS.iloadN X0.here hx rfl (hb hby d10_23) rfl ?_
      refine XS.iloadN X0.here hx rfl (hb hby d10_24) rfl ?_
      refine XS.isub X0.here hx rfl (hb hby d10_25) rfl ?_
      exact kt
    rw [jk] at st13
    obtain ⟨cl14, Ar14, qc14, Sz14, Mn14, Hs14, Gs14⟩ := id Vb
    have hin14 : ¬ ((0 : Int32) < 0 ∨ cl14.slots.size ≤ ((0 : Int32)).toNatClampNeg) := inb_of Sz14 ⟨by decide, by decide⟩
    have hat14 : cl14.slots[((0 : Int32)).toNatClampNeg]? = some (.int z0) := Hs14.at hin14 rfl
    have st14 : own_S p e below s₁ (mkF m 27 #[.val (.ref r0), .val (.int (1 : Int32)), .val (.int p2), .val (.int p3), .val (.ref r4), .val (.ref r5), .unset] [(.int z0)]) (mkF m 26 #[.val (.ref r0), .val (.int (1 : Int32)), .val (.int p2), .val (.int p3), .val (.ref r4), .val (.ref r5), .unset] [(.int (0 : Int32)), (.ref r5)]) := fun target kt => X0.caload hx (j := (0 : Int32)) (v := (.int z0)) (by rw [e0]; exact Ar14.1) (State.isArrayOf_alike hZ.alike Ar14.2.1) Ar14.2.2 hin14 hat14 (g := (mkF m 26 #[.val (.ref r0), .val (.int (1 : Int32)), .val (.int p2), .val (.int p3), .val (.ref r4), .val (.ref r5), .unset] [(.int (0 : Int32)), (.ref r5)])) rfl rfl (hb hby d10_26) _ kt
    have st15 : own_S p e below s₁ (mkF m 31 #[.val (.ref r0), .val (.int (1 : Int32)), .val (.int p2), .val (.int p3), .val (.ref r4), .val (.ref r5), .val (.int z0)] [(.int (1 : Int32)), (.ref r0)]) (mkF m 27 #[.val (.ref r0), .val (.int (1 : Int32)), .val (.int p2), .val (.int p3), .val (.ref r4), .val (.ref r5), .unset] [(.int z0)]) := by
      intro target kt
      refine XS.istore X0.here hx rfl (hb hby d10_27) rfl (l' := #[.val (.ref r0), .val (.int (1 : Int32)), .val (.int p2), .val (.int p3), .val (.ref r4), .val (.ref r5), .val (.int z0)]) rfl ?_
      refine XS.aloadN X0.here hx rfl (hb hby d10_29) rfl rfl ?_
      refine XS.iloadN X0.here hx rfl (hb hby d10_30) rfl ?_
      exact kt
    obtain ⟨cq16, kq16, qv16a, qv16b, qv16c⟩ := isOf hZ e0 Et
    obtain ⟨_, _, ⟨T16, L16, k16, n16⟩, -, X16, ⟨Lc16, hQ16, l16, y16, z16⟩, st16⟩ := X0.virtualBack hx (y := (⟨"java/lang/String", "charAt", "(I)C"⟩ : MethodName)) (z := (⟨"java/lang/String", "charAt", "(I)C"⟩ : MethodName)) hown (mvT hZ (own_w hw 96 rfl)) (mvT hZ (own_w hw 75 rfl)) (notFace_of_selects (args := #[]) (mvT hZ (own_w hw 77 rfl))) (mvT hZ (own_w hw 77 rfl)) (mvT hZ (own_w hw 76 rfl)) (by decide) (StrChars.Road.chN (W := 0) hZ hwordsChN (kI := 4) (own_w hw 6 rfl) (cs := cs_) (i := 1) Et Fv Fc Vy (StrChars.Road.codOf rfl (own_hp1 hc7)) (own_hp2 hc7) (SB.1.ext Od.2) SB.2.1 (SB.2.2.1.ext Od.2) SB.2.2.2 hl4 hi rfl (by decide) (by decide)) qv16a qv16c (g := (mkF m 31 #[.val (.ref r0), .val (.int (1 : Int32)), .val (.int p2), .val (.int p3), .val (.ref r4), .val (.ref r5), .val (.int z0)] [(.int (1 : Int32)), (.ref r0)])) rfl (by rw [hml]; rfl) (Steps.refl _) (argsL := [(.int (1 : Int32))]) (rest := []) (lenOf pd_13 rfl) rfl (by show 2 * 0 + _ ≤ _; exact Nat.le_of_eq rfl) (hb hby d10_31) (fun _ _ => ⟨rfl, e0, (by decide : 0 + 0 ≤ _), (by decide : 0 + 0 ≤ _)⟩)
    dsimp only [Pt.U, Pt.locs, Pt.cells, Pt.slots] at X16 l16 y16 z16 st16 hQ16
    subst l16 y16 z16
    obtain ⟨rfl, Lq16, e16⟩ := hQ16
    subst Lq16
    have Nq16 := Fr.nil n0
    have N16 := Fr.app N0 Nq16
    rw [eq_] at st16
    obtain ⟨fs, hr, hrun, hended, hW, hsame⟩ := X16.leave (v := some (.int (1 : Int32))) (fun h => by rw [Bd.returns] at h; cases h)
    refine ⟨_, _, pre0 _ (st1 _ (st10 _ (st11 _ (st12 _ (st13 _ (st14 _ (st15 _ (st16.trans ?_)))))))), hrun, hended, _, _, rfl, ?_, ⟨_, rfl⟩, hW, hsame.mono (by decide) (by decide)⟩
    · refine XS.iload X16.here hx rfl (hb hby d10_34) rfl ?_
      refine XS.icmpNo X16.here hx rfl (hb hby d10_36) rfl (teq (rfl : z0 = z0)).2 ?_
      refine XS.iconst X16.here hx rfl (hb hby d10_39) ?_
      refine XS.goto X16.here hx rfl (pc0 := 40) (pc' := 44) rfl (hb hby d10_40) (by decide) (by decide) ?_
      show Steps p.tables e below (T16.setTop (mkF m 44 #[.val (.ref r0), .val (.int (1 : Int32)), .val (.int p2), .val (.int p3), .val (.ref r4), .val (.ref r5), .val (.int z0)] [(.int (1 : Int32))])) _
      exact retN X16 hx (t := .boolean) Bd.returns (by simp) (hb hby d10_44) hr
    · show Q_rmAt1 Z r0 p2 p3 r4 r5 cs fm y ky cs_ ka kb x0 x1 x2 z0 z1 z2 h0 n0 _ T16.heap _
      rw [e16]
      exact ⟨rfl, N16, rfl⟩
  · have st17 : own_S p e below s₁ (mkF m 7 #[.val (.ref r0), .val (.int (1 : Int32)), .val (.int p2), .val (.int p3), .val (.ref r4), .val (.ref r5), .unset] []) (mkF m 2 #[.val (.ref r0), .val (.int (1 : Int32)), .val (.int p2), .val (.int p3), .val (.ref r4), .val (.ref r5), .unset] [(.int p2), (.int (1 : Int32))]) := by
      intro target kt
      refine XS.icmpYes X0.here hx rfl (pc0 := 2) (pc' := 7) rfl (hb hby d10_2) rfl (tlt d1).1 (by decide) (by decide) ?_
      exact kt
    have st18 : own_S p e below s₁ (mkF m 9 #[.val (.ref r0), .val (.int (1 : Int32)), .val (.int p2), .val (.int p3), .val (.ref r4), .val (.ref r5), .unset] [(.int p3), (.int (1 : Int32))]) (mkF m 7 #[.val (.ref r0), .val (.int (1 : Int32)), .val (.int p2), .val (.int p3), .val (.ref r4), .val (.ref r5), .unset] []) := by
      intro target kt
      refine XS.iloadN X0.here hx rfl (hb hby d10_7) rfl ?_
      refine XS.iloadN X0.here hx rfl (hb hby d10_8) rfl ?_
      exact kt
    have st19 : own_S p e below s₁ (mkF m 21 #[.val (.ref r0), .val (.int (1 : Int32)), .val (.int p2), .val (.int p3), .val (.ref r4), .val (.ref r5), .unset] []) (mkF m 9 #[.val (.ref r0), .val (.int (1 : Int32)), .val (.int p2), .val (.int p3), .val (.ref r4), .val (.ref r5), .unset] [(.int p3), (.int (1 : Int32))]) := by
      intro target kt
      refine XS.icmpYes X0.here hx rfl (pc0 := 9) (pc' := 21) rfl (hb hby d10_9) rfl (flt d2).2.1 (by decide) (by decide) ?_
      exact kt
    have st20 : own_S p e below s₁ (mkF m 26 #[.val (.ref r0), .val (.int (1 : Int32)), .val (.int p2), .val (.int p3), .val (.ref r4), .val (.ref r5), .unset] [(.int ((1 : Int32) - p3)), (.ref r5)]) (mkF m 21 #[.val (.ref r0), .val (.int (1 : Int32)), .val (.int p2), .val (.int p3), .val (.ref r4), .val (.ref r5), .unset] []) := by
      intro target kt
      refine XS.aload X0.here hx rfl (hb hby d10_21) rfl rfl ?_
      refine XS.iloadN X0.here hx rfl (hb hby d10_23) rfl ?_
      refine XS.iloadN X0.here hx rfl (hb hby d10_24) rfl ?_
      refine XS.isub X0.here hx rfl (hb hby d10_25) rfl ?_
      exact kt
    rw [jk] at st20
    obtain ⟨cl21, Ar21, qc21, Sz21, Mn21, Hs21, Gs21⟩ := id Vb
    have hin21 : ¬ ((1 : Int32) < 0 ∨ cl21.slots.size ≤ ((1 : Int32)).toNatClampNeg) := inb_of Sz21 ⟨by decide, by decide⟩
    have hat21 : cl21.slots[((1 : Int32)).toNatClampNeg]? = some (.int z1) := Hs21.at hin21 rfl
    have st21 : own_S p e below s₁ (mkF m 27 #[.val (.ref r0), .val (.int (1 : Int32)), .val (.int p2), .val (.int p3), .val (.ref r4), .val (.ref r5), .unset] [(.int z1)]) (mkF m 26 #[.val (.ref r0), .val (.int (1 : Int32)), .val (.int p2), .val (.int p3), .val (.ref r4), .val (.ref r5), .unset] [(.int (1 : Int32)), (.ref r5)]) := fun target kt => X0.caload hx (j := (1 : Int32)) (v := (.int z1)) (by rw [e0]; exact Ar21.1) (State.isArrayOf_alike hZ.alike Ar21.2.1) Ar21.2.2 hin21 hat21 (g := (mkF m 26 #[.val (.ref r0), .val (.int (1 : Int32)), .val (.int p2), .val (.int p3), .val (.ref r4), .val (.ref r5), .unset] [(.int (1 : Int32)), (.ref r5)])) rfl rfl (hb hby d10_26) _ kt
    have st22 : own_S p e below s₁ (mkF m 31 #[.val (.ref r0), .val (.int (1 : Int32)), .val (.int p2), .val (.int p3), .val (.ref r4), .val (.ref r5), .val (.int z1)] [(.int (1 : Int32)), (.ref r0)]) (mkF m 27 #[.val (.ref r0), .val (.int (1 : Int32)), .val (.int p2), .val (.int p3), .val (.ref r4), .val (.ref r5), .unset] [(.int z1)]) := by
      intro target kt
      refine XS.istore X0.here hx rfl (hb hby d10_27) rfl (l' := #[.val (.ref r0), .val (.int (1 : Int32)), .val (.int p2), .val (.int p3), .val (.ref r4), .val (.ref r5), .val (.int z1)]) rfl ?_
      refine XS.aloadN X0.here hx rfl (hb hby d10_29) rfl rfl ?_
      refine XS.iloadN X0.here hx rfl (hb hby d10_30) rfl ?_
      exact kt
    obtain ⟨cq23, kq23, qv23a, qv23b, qv23c⟩ := isOf hZ e0 Et
    obtain ⟨_, _, ⟨T23, L23, k23, n23⟩, -, X23, ⟨Lc23, hQ23, l23, y23, z23⟩, st23⟩ := X0.virtualBack hx (y := (⟨"java/lang/String", "charAt", "(I)C"⟩ : MethodName)) (z := (⟨"java/lang/String", "charAt", "(I)C"⟩ : MethodName)) hown (mvT hZ (own_w hw 96 rfl)) (mvT hZ (own_w hw 75 rfl)) (notFace_of_selects (args := #[]) (mvT hZ (own_w hw 77 rfl))) (mvT hZ (own_w hw 77 rfl)) (mvT hZ (own_w hw 76 rfl)) (by decide) (StrChars.Road.chN (W := 0) hZ hwordsChN (kI := 4) (own_w hw 6 rfl) (cs := cs_) (i := 1) Et Fv Fc Vy (StrChars.Road.codOf rfl (own_hp1 hc7)) (own_hp2 hc7) (SB.1.ext Od.2) SB.2.1 (SB.2.2.1.ext Od.2) SB.2.2.2 hl4 hi rfl (by decide) (by decide)) qv23a qv23c (g := (mkF m 31 #[.val (.ref r0), .val (.int (1 : Int32)), .val (.int p2), .val (.int p3), .val (.ref r4), .val (.ref r5), .val (.int z1)] [(.int (1 : Int32)), (.ref r0)])) rfl (by rw [hml]; rfl) (Steps.refl _) (argsL := [(.int (1 : Int32))]) (rest := []) (lenOf pd_13 rfl) rfl (by show 2 * 0 + _ ≤ _; exact Nat.le_of_eq rfl) (hb hby d10_31) (fun _ _ => ⟨rfl, e0, (by decide : 0 + 0 ≤ _), (by decide : 0 + 0 ≤ _)⟩)
    dsimp only [Pt.U, Pt.locs, Pt.cells, Pt.slots] at X23 l23 y23 z23 st23 hQ23
    subst l23 y23 z23
    obtain ⟨rfl, Lq23, e23⟩ := hQ23
    subst Lq23
    have Nq23 := Fr.nil n0
    have N23 := Fr.app N0 Nq23
    rw [eq_] at st23
    obtain ⟨fs, hr, hrun, hended, hW, hsame⟩ := X23.leave (v := some (.int (1 : Int32))) (fun h => by rw [Bd.returns] at h; cases h)
    refine ⟨_, _, pre0 _ (st1 _ (st17 _ (st18 _ (st19 _ (st20 _ (st21 _ (st22 _ (st23.trans ?_)))))))), hrun, hended, _, _, rfl, ?_, ⟨_, rfl⟩, hW, hsame.mono (by decide) (by decide)⟩
    · refine XS.iload X23.here hx rfl (hb hby d10_34) rfl ?_
      refine XS.icmpNo X23.here hx rfl (hb hby d10_36) rfl (teq (rfl : z1 = z1)).2 ?_
      refine XS.iconst X23.here hx rfl (hb hby d10_39) ?_
      refine XS.goto X23.here hx rfl (pc0 := 40) (pc' := 44) rfl (hb hby d10_40) (by decide) (by decide) ?_
      show Steps p.tables e below (T23.setTop (mkF m 44 #[.val (.ref r0), .val (.int (1 : Int32)), .val (.int p2), .val (.int p3), .val (.ref r4), .val (.ref r5), .val (.int z1)] [(.int (1 : Int32))])) _
      exact retN X23 hx (t := .boolean) Bd.returns (by simp) (hb hby d10_44) hr
    · show Q_rmAt1 Z r0 p2 p3 r4 r5 cs fm y ky cs_ ka kb x0 x1 x2 z0 z1 z2 h0 n0 _ T23.heap _
      rw [e23]
      exact ⟨rfl, N23, rfl⟩
def own_D2 (n la : Int32) (cs : List Int32) (x0 x1 x2 z0 z1 z2 : Int32) : Prop := (¬ (2 : Int32) < n) ∨ ((2 : Int32) < n ∧ 2 < (cs).length ∧ (((2 : Int32) < la ∧ (cs).getD 2 0 = x2) ∨ (¬ (2 : Int32) < la ∧ (((2 : Int32) - la = (0 : Int32) ∧ (cs).getD 2 0 = z0) ∨ ((2 : Int32) - la = (1 : Int32) ∧ (cs).getD 2 0 = z1) ∨ ((2 : Int32) - la = (2 : Int32) ∧ (cs).getD 2 0 = z2)))))
theorem own_Dl2 {la lb x0 x1 x2 z0 z1 z2 : Int32} {cs1 cs2 : List Int32} (h1 : own_mk la cs1 x0 x1 x2) (h2 : own_mk lb cs2 z0 z1 z2) : own_D2 (la + lb) la (cs1 ++ cs2) x0 x1 x2 z0 z1 z2 := by
  rcases h1 with ⟨a, b⟩ | ⟨a, b⟩ | ⟨a, b⟩ | ⟨a, b⟩ <;> rcases h2 with ⟨a', b'⟩ | ⟨a', b'⟩ | ⟨a', b'⟩ | ⟨a', b'⟩ <;> subst a <;> subst b <;> subst a' <;> subst b' <;> first
    | exact Or.inl (by decide)
    | exact Or.inr ⟨by decide, by simp, Or.inl ⟨by decide, rfl⟩⟩
    | exact Or.inr ⟨by decide, by simp, Or.inr (⟨by decide, Or.inl ⟨by decide, rfl⟩⟩)⟩
    | exact Or.inr ⟨by decide, by simp, Or.inr (⟨by decide, Or.inr (Or.inl ⟨by decide, rfl⟩)⟩)⟩
    | exact Or.inr ⟨by decide, by simp, Or.inr (⟨by decide, Or.inr (Or.inr (⟨by decide, rfl⟩))⟩)⟩
theorem ef_rmAt2 (m : MethodId) (x0 : Addr) (x1 : Int32) (x2 : Int32) (x3 : Int32) (x4 : Addr) (x5 : Addr) : entryFrame m #[(.ref x0), (.int x1), (.int x2), (.int x3), (.ref x4), (.ref x5)] 7 = mkF m 0 #[.val (.ref x0), .val (.int x1), .val (.int x2), .val (.int x3), .val (.ref x4), .val (.ref x5), .unset] [] := by first | (simp [entryFrame, mkF, argsToLocals, Value.category]; done) | rfl
def Q_rmAt2 (Z : State) (r0 : Addr) (p2 : Int32) (p3 : Int32) (r4 : Addr) (r5 : Addr) (cs : Int32) (fm : Value) (y : Addr) (ky : ClassId) (cs_ : List Int32) (ka : ClassId) (kb : ClassId) (x0 : Int32) (x1 : Int32) (x2 : Int32) (z0 : Int32) (z1 : Int32) (z2 : Int32) (h0 : Heap) (n0 : Nat) (v : Option Value) (h : Heap) (L : List Loc) : Prop := v = some (.int (1 : Int32)) ∧ Fr n0 L ∧ h = h0
set_option maxRecDepth 65536 in
set_option maxHeartbeats 40000000 in
theorem rmAt2 (l : Launch) (Z : State) (a0 : Array Value) (hw : ∀ d ∈ tables_1, d.before a0 Z = true) (ws : List Jvm.Cond) (r0 : Addr) (p2 : Int32) (p3 : Int32) (r4 : Addr) (r5 : Addr) (cs : Int32) (fm : Value) (y : Addr) (ky : ClassId) (cs_ : List Int32) (ka : ClassId) (kb : ClassId) (x0 : Int32) (x1 : Int32) (x2 : Int32) (z0 : Int32) (z1 : Int32) (z2 : Int32) (h0 : Heap) (n0 : Nat) (Z0 : n0 ≤ h0.size) (SB : own_St Z cs fm) (Od : Old Z n0 h0) (Fv : Fld Z h0 r0 "java/lang/String" "value" "[B" (.ref y)) (Fc : Fld Z h0 r0 "java/lang/String" "coder" "B" (.int (0 : Int32))) (Et : Exa Z h0 r0 "java/lang/String") (Vy : Arv Z h0 y ky .byte (Int32.ofNat cs_.length) (own_bs cs_) (.int (0 : Int32))) (hc7 : ∀ c ∈ cs_, own_c7 c) (hl4 : cs_.length ≤ 4000) (Va : Arv Z h0 r4 ka .char (3 : Int32) [(.int x0), (.int x1), (.int x2)] (.int (0 : Int32))) (Vb : Arv Z h0 r5 kb .char (3 : Int32) [(.int z0), (.int z1), (.int z2)] (.int (0 : Int32))) (hD : own_D2 p2 p3 cs_ x0 x1 x2 z0 z1 z2) :
    MetFree l (⟨"com/example/murray_hill/murrayhill/AsciiLineAppendPinLaw", "at", "(Ljava/lang/String;III[C[C)Z"⟩ : MethodName) (head1 (Jvm.Cond.code (⟨"com/example/murray_hill/murrayhill/AsciiLineAppendPinLaw", "at", "(Ljava/lang/String;III[C[C)Z"⟩ : MethodName) method_4_code 7 (some .boolean) :: ws) ({ frames := 4, cells := 0, slots := 0, locals := 53 } : Room)) (fun a U => a = #[(.ref r0), (.int (2 : Int32)), (.int p2), (.int p3), (.ref r4), (.ref r5)] ∧ Z.Warmed39 U.vm ∧ U.heap = h0) (fun _ _ _ _ _ => True) (fun _ U o U' => ∃ v L, o = .returned v ∧ Q_rmAt2 Z r0 p2 p3 r4 r5 cs fm y ky cs_ ka kb x0 x1 x2 z0 z1 z2 h0 n0 v U'.heap L ∧ FrameEnd U o U' L ({ frames := 4, cells := 0, slots := 0, locals := 53 } : Room).cells ({ frames := 4, cells := 0, slots := 0, locals := 53 } : Room).slots) := by
  refine MetFree.of_bodySF (plainFor_of_name pn_1) hisR ?_
  intro p e s m args below meth c s₁ Bd hml0 hP hK
  obtain ⟨rfl, hZ, hh⟩ := hP
  have hx := Bd.exec
  have hby := Bd.bytes
  have hml : c.maxLocals = 7 := hml0
  have hown : s.vm.findClass "com/example/murray_hill/murrayhill/AsciiLineAppendPinLaw" = some m.cls := findClass_of_methodNamed Bd.named
  have hnm := (name_of_methodNamed Bd.named Bd.method).1
  have X0 : Stand p l e ({ frames := 4, cells := 0, slots := 0, locals := 53 } : Room) s m #[(.ref r0), (.int (2 : Int32)), (.int p2), (.int p3), (.ref r4), (.ref r5)] below meth c s₁ [] 0 0 := Stand.of_body Bd
  have e0 : s₁.heap = h0 := by rw [← hh, Bd.state]; rfl
  have N0 := Fr.nil n0
  have pre0 : ∀ t, Steps p.tables e below (s₁.setTop (mkF m 0 #[.val (.ref r0), .val (.int (2 : Int32)), .val (.int p2), .val (.int p3), .val (.ref r4), .val (.ref r5), .unset] [])) t → Steps p.tables e below (s₁.setTop (entryFrame m #[(.ref r0), (.int (2 : Int32)), (.int p2), (.int p3), (.ref r4), (.ref r5)] 7)) t := fun t k => castTop (ef_rmAt2 m r0 (2 : Int32) p2 p3 r4 r5) k
  have hwordsChN : ∀ d ∈ StrChars.Road.wordsChN, d.before a0 Z = true := fun d hd => hw d ((by decide +kernel : ∀ d ∈ StrChars.Road.wordsChN, d ∈ tables_1) d hd)
  have st1 : own_S p e below s₁ (mkF m 2 #[.val (.ref r0), .val (.int (2 : Int32)), .val (.int p2), .val (.int p3), .val (.ref r4), .val (.ref r5), .unset] [(.int p2), (.int (2 : Int32))]) (mkF m 0 #[.val (.ref r0), .val (.int (2 : Int32)), .val (.int p2), .val (.int p3), .val (.ref r4), .val (.ref r5), .unset] []) := by
    intro target kt
    refine XS.iloadN X0.here hx rfl (hb hby d10_0) rfl ?_
    refine XS.iloadN X0.here hx rfl (hb hby d10_1) rfl ?_
    exact kt
  rcases hD with d1 | ⟨d1, hi, ⟨d2, eq_⟩ | ⟨d2, (⟨jk, eq_⟩ | ⟨jk, eq_⟩ | ⟨jk, eq_⟩)⟩⟩
  · have st2 : own_S p e below s₁ (mkF m 5 #[.val (.ref r0), .val (.int (2 : Int32)), .val (.int p2), .val (.int p3), .val (.ref r4), .val (.ref r5), .unset] []) (mkF m 2 #[.val (.ref r0), .val (.int (2 : Int32)), .val (.int p2), .val (.int p3), .val (.ref r4), .val (.ref r5), .unset] [(.int p2), (.int (2 : Int32))]) := by
      intro target kt
      refine XS.icmpNo X0.here hx rfl (hb hby d10_2) rfl (flt d1).1 ?_
      exact kt
    obtain ⟨fs, hr, hrun, hended, hW, hsame⟩ := X0.leave (v := some (.int (1 : Int32))) (fun h => by rw [Bd.returns] at h; cases h)
    refine ⟨_, _, pre0 _ (st1 _ (st2 _ ?_)), hrun, hended, _, _, rfl, ?_, ⟨_, rfl⟩, hW, hsame.mono (by decide) (by decide)⟩
    · refine XS.iconst X0.here hx rfl (hb hby d10_5) ?_
      show Steps p.tables e below (s₁.setTop (mkF m 6 #[.val (.ref r0), .val (.int (2 : Int32)), .val (.int p2), .val (.int p3), .val (.ref r4), .val (.ref r5), .unset] [(.int (1 : Int32))])) _
      exact retN X0 hx (t := .boolean) Bd.returns (by simp) (hb hby d10_6) hr
    · show Q_rmAt2 Z r0 p2 p3 r4 r5 cs fm y ky cs_ ka kb x0 x1 x2 z0 z1 z2 h0 n0 _ s₁.heap _
      rw [e0]
      exact ⟨rfl, N0, rfl⟩
  · have st3 : own_S p e below s₁ (mkF m 7 #[.val (.ref r0), .val (.int (2 : Int32)), .val (.int p2), .val (.int p3), .val (.ref r4), .val (.ref r5), .unset] []) (mkF m 2 #[.val (.ref r0), .val (.int (2 : Int32)), .val (.int p2), .val (.int p3), .val (.ref r4), .val (.ref r5), .unset] [(.int p2), (.int (2 : Int32))]) := by
      intro target kt
      refine XS.icmpYes X0.here hx rfl (pc0 := 2) (pc' := 7) rfl (hb hby d10_2) rfl (tlt d1).1 (by decide) (by decide) ?_
      exact kt
    have st4 : own_S p e below s₁ (mkF m 9 #[.val (.ref r0), .val (.int (2 : Int32)), .val (.int p2), .val (.int p3), .val (.ref r4), .val (.ref r5), .unset] [(.int p3), (.int (2 : Int32))]) (mkF m 7 #[.val (.ref r0), .val (.int (2 : Int32)), .val (.int p2), .val (.int p3), .val (.ref r4), .val (.ref r5), .unset] []) := by
      intro target kt
      refine XS.iloadN X0.here hx rfl (hb hby d10_7) rfl ?_
      refine XS.iloadN X0.here hx rfl (hb hby d10_8) rfl ?_
      exact kt
    have st5 : own_S p e below s₁ (mkF m 12 #[.val (.ref r0), .val (.int (2 : Int32)), .val (.int p2), .val (.int p3), .val (.ref r4), .val (.ref r5), .unset] []) (mkF m 9 #[.val (.ref r0), .val (.int (2 : Int32)), .val (.int p2), .val (.int p3), .val (.ref r4), .val (.ref r5), .unset] [(.int p3), (.int (2 : Int32))]) := by
      intro target kt
      refine XS.icmpNo X0.here hx rfl (hb hby d10_9) rfl (tlt d2).2.1 ?_
      exact kt
    have st6 : own_S p e below s₁ (mkF m 15 #[.val (.ref r0), .val (.int (2 : Int32)), .val (.int p2), .val (.int p3), .val (.ref r4), .val (.ref r5), .unset] [(.int (2 : Int32)), (.ref r4)]) (mkF m 12 #[.val (.ref r0), .val (.int (2 : Int32)), .val (.int p2), .val (.int p3), .val (.ref r4), .val (.ref r5), .unset] []) := by
      intro target kt
      refine XS.aload X0.here hx rfl (hb hby d10_12) rfl rfl ?_
      refine XS.iloadN X0.here hx rfl (hb hby d10_14) rfl ?_
      exact kt
    obtain ⟨cl7, Ar7, qc7, Sz7, Mn7, Hs7, Gs7⟩ := id Va
    have hin7 : ¬ ((2 : Int32) < 0 ∨ cl7.slots.size ≤ ((2 : Int32)).toNatClampNeg) := inb_of Sz7 ⟨by decide, by decide⟩
    have hat7 : cl7.slots[((2 : Int32)).toNatClampNeg]? = some (.int x2) := Hs7.at hin7 rfl
    have st7 : own_S p e below s₁ (mkF m 16 #[.val (.ref r0), .val (.int (2 : Int32)), .val (.int p2), .val (.int p3), .val (.ref r4), .val (.ref r5), .unset] [(.int x2)]) (mkF m 15 #[.val (.ref r0), .val (.int (2 : Int32)), .val (.int p2), .val (.int p3), .val (.ref r4), .val (.ref r5), .unset] [(.int (2 : Int32)), (.ref r4)]) := fun target kt => X0.caload hx (j := (2 : Int32)) (v := (.int x2)) (by rw [e0]; exact Ar7.1) (State.isArrayOf_alike hZ.alike Ar7.2.1) Ar7.2.2 hin7 hat7 (g := (mkF m 15 #[.val (.ref r0), .val (.int (2 : Int32)), .val (.int p2), .val (.int p3), .val (.ref r4), .val (.ref r5), .unset] [(.int (2 : Int32)), (.ref r4)])) rfl rfl (hb hby d10_15) _ kt
    have st8 : own_S p e below s₁ (mkF m 31 #[.val (.ref r0), .val (.int (2 : Int32)), .val (.int p2), .val (.int p3), .val (.ref r4), .val (.ref r5), .val (.int x2)] [(.int (2 : Int32)), (.ref r0)]) (mkF m 16 #[.val (.ref r0), .val (.int (2 : Int32)), .val (.int p2), .val (.int p3), .val (.ref r4), .val (.ref r5), .unset] [(.int x2)]) := by
      intro target kt
      refine XS.istore X0.here hx rfl (hb hby d10_16) rfl (l' := #[.val (.ref r0), .val (.int (2 : Int32)), .val (.int p2), .val (.int p3), .val (.ref r4), .val (.ref r5), .val (.int x2)]) rfl ?_
      refine XS.goto X0.here hx rfl (pc0 := 18) (pc' := 29) rfl (hb hby d10_18) (by decide) (by decide) ?_
      refine XS.aloadN X0.here hx rfl (hb hby d10_29) rfl rfl ?_
      refine XS.iloadN X0.here hx rfl (hb hby d10_30) rfl ?_
      exact kt
    obtain ⟨cq9, kq9, qv9a, qv9b, qv9c⟩ := isOf hZ e0 Et
    obtain ⟨_, _, ⟨T9, L9, k9, n9⟩, -, X9, ⟨Lc9, hQ9, l9, y9, z9⟩, st9⟩ := X0.virtualBack hx (y := (⟨"java/lang/String", "charAt", "(I)C"⟩ : MethodName)) (z := (⟨"java/lang/String", "charAt", "(I)C"⟩ : MethodName)) hown (mvT hZ (own_w hw 96 rfl)) (mvT hZ (own_w hw 75 rfl)) (notFace_of_selects (args := #[]) (mvT hZ (own_w hw 77 rfl))) (mvT hZ (own_w hw 77 rfl)) (mvT hZ (own_w hw 76 rfl)) (by decide) (StrChars.Road.chN (W := 0) hZ hwordsChN (kI := 4) (own_w hw 6 rfl) (cs := cs_) (i := 2) Et Fv Fc Vy (StrChars.Road.codOf rfl (own_hp1 hc7)) (own_hp2 hc7) (SB.1.ext Od.2) SB.2.1 (SB.2.2.1.ext Od.2) SB.2.2.2 hl4 hi rfl (by decide) (by decide)) qv9a qv9c (g := (mkF m 31 #[.val (.ref r0), .val (.int (2 : Int32)), .val (.int p2), .val (.int p3), .val (.ref r4), .val (.ref r5), .val (.int x2)] [(.int (2 : Int32)), (.ref r0)])) rfl (by rw [hml]; rfl) (Steps.refl _) (argsL := [(.int (2 : Int32))]) (rest := []) (lenOf pd_13 rfl) rfl (by show 2 * 0 + _ ≤ _; exact Nat.le_of_eq rfl) (hb hby d10_31) (fun _ _ => ⟨rfl, e0, (by decide : 0 + 0 ≤ _), (by decide : 0 + 0 ≤ _)⟩)
    dsimp only [Pt.U, Pt.locs, Pt.cells, Pt.slots] at X9 l9 y9 z9 st9 hQ9
    subst l9 y9 z9
    obtain ⟨rfl, Lq9, e9⟩ := hQ9
    subst Lq9
    have Nq9 := Fr.nil n0
    have N9 := Fr.app N0 Nq9
    rw [eq_] at st9
    obtain ⟨fs, hr, hrun, hended, hW, hsame⟩ := X9.leave (v := some (.int (1 : Int32))) (fun h => by rw [Bd.returns] at h; cases h)
    refine ⟨_, _, pre0 _ (st1 _ (st3 _ (st4 _ (st5 _ (st6 _ (st7 _ (st8 _ (st9.trans ?_)))))))), hrun, hended, _, _, rfl, ?_, ⟨_, rfl⟩, hW, hsame.mono (by decide) (by decide)⟩
    · refine XS.iload X9.here hx rfl (hb hby d10_34) rfl ?_
      refine XS.icmpNo X9.here hx rfl (hb hby d10_36) rfl (teq (rfl : x2 = x2)).2 ?_
      refine XS.iconst X9.here hx rfl (hb hby d10_39) ?_
      refine XS.goto X9.here hx rfl (pc0 := 40) (pc' := 44) rfl (hb hby d10_40) (by decide) (by decide) ?_
      show Steps p.tables e below (T9.setTop (mkF m 44 #[.val (.ref r0), .val (.int (2 : Int32)), .val (.int p2), .val (.int p3), .val (.ref r4), .val (.ref r5), .val (.int x2)] [(.int (1 : Int32))])) _
      exact retN X9 hx (t := .boolean) Bd.returns (by simp) (hb hby d10_44) hr
    · show Q_rmAt2 Z r0 p2 p3 r4 r5 cs fm y ky cs_ ka kb x0 x1 x2 z0 z1 z2 h0 n0 _ T9.heap _
      rw [e9]
      exact ⟨rfl, N9, rfl⟩
  · have st10 : own_S p e below s₁ (mkF m 7 #[.val (.ref r0), .val (.int (2 : Int32)), .val (.int p2), .val (.int p3), .val (.ref r4), .val (.ref r5), .unset] []) (mkF m 2 #[.val (.ref r0), .val (.int (2 : Int32)), .val (.int p2), .val (.int p3), .val (.ref r4), .val (.ref r5), .unset] [(.int p2), (.int (2 : Int32))]) := by
      intro target kt
      refine XS.icmpYes X0.here hx rfl (pc0 := 2) (pc' := 7) rfl (hb hby d10_2) rfl (tlt d1).1 (by decide) (by decide) ?_
      exact kt
    have st11 : own_S p e below s₁ (mkF m 9 #[.val (.ref r0), .val (.int (2 : Int32)), .val (.int p2), .val (.int p3), .val (.ref r4), .val (.ref r5), .unset] [(.int p3), (.int (2 : Int32))]) (mkF m 7 #[.val (.ref r0), .val (.int (2 : Int32)), .val (.int p2), .val (.int p3), .val (.ref r4), .val (.ref r5), .unset] []) := by
      intro target kt
      refine XS.iloadN X0.here hx rfl (hb hby d10_7) rfl ?_
      refine XS.iloadN X0.here hx rfl (hb hby d10_8) rfl ?_
      exact kt
    have st12 : own_S p e below s₁ (mkF m 21 #[.val (.ref r0), .val (.int (2 : Int32)), .val (.int p2), .val (.int p3), .val (.ref r4), .val (.ref r5), .unset] []) (mkF m 9 #[.val (.ref r0), .val (.int (2 : Int32)), .val (.int p2), .val (.int p3), .val (.ref r4), .val (.ref r5), .unset] [(.int p3), (.int (2 : Int32))]) := by
      intro target kt
      refine XS.icmpYes X0.here hx rfl (pc0 := 9) (pc' := 21) rfl (hb hby d10_9) rfl (flt d2).2.1 (by decide) (by decide) ?_
      exact kt
    have st13 : own_S p e below s₁ (mkF m 26 #[.val (.ref r0), .val (.int (2 : Int32)), .val (.int p2), .val (.int p3), .val (.ref r4), .val (.ref r5), .unset] [(.int ((2 : Int32) - p3)), (.ref r5)]) (mkF m 21 #[.val (.ref r0), .val (.int (2 : Int32)), .val (.int p2), .val (.int p3), .val (.ref r4), .val (.ref r5), .unset] []) := by
      intro target kt
      refine XS.aload X0.here hx rfl (hb hby d10_21) rfl rfl ?_
      refine XS.iloadN X0.here hx rfl (hb hby d10_23) rfl ?_
      refine XS.iloadN X0.here hx rfl (hb hby d10_24) rfl ?_
      refine XS.isub X0.here hx rfl (hb hby d10_25) rfl ?_
      exact kt
    rw [jk] at st13
    obtain ⟨cl14, Ar14, qc14, Sz14, Mn14, Hs14, Gs14⟩ := id Vb
    have hin14 : ¬ ((0 : Int32) < 0 ∨ cl14.slots.size ≤ ((0 : Int32)).toNatClampNeg) := inb_of Sz14 ⟨by decide, by decide⟩
    have hat14 : cl14.slots[((0 : Int32)).toNatClampNeg]? = some (.int z0) := Hs14.at hin14 rfl
    have st14 : own_S p e below s₁ (mkF m 27 #[.val (.ref r0), .val (.int (2 : Int32)), .val (.int p2), .val (.int p3), .val (.ref r4), .val (.ref r5), .unset] [(.int z0)]) (mkF m 26 #[.val (.ref r0), .val (.int (2 : Int32)), .val (.int p2), .val (.int p3), .val (.ref r4), .val (.ref r5), .unset] [(.int (0 : Int32)), (.ref r5)]) := fun target kt => X0.caload hx (j := (0 : Int32)) (v := (.int z0)) (by rw [e0]; exact Ar14.1) (State.isArrayOf_alike hZ.alike Ar14.2.1) Ar14.2.2 hin14 hat14 (g := (mkF m 26 #[.val (.ref r0), .val (.int (2 : Int32)), .val (.int p2), .val (.int p3), .val (.ref r4), .val (.ref r5), .unset] [(.int (0 : Int32)), (.ref r5)])) rfl rfl (hb hby d10_26) _ kt
    have st15 : own_S p e below s₁ (mkF m 31 #[.val (.ref r0), .val (.int (2 : Int32)), .val (.int p2), .val (.int p3), .val (.ref r4), .val (.ref r5), .val (.int z0)] [(.int (2 : Int32)), (.ref r0)]) (mkF m 27 #[.val (.ref r0), .val (.int (2 : Int32)), .val (.int p2), .val (.int p3), .val (.ref r4), .val (.ref r5), .unset] [(.int z0)]) := by
      intro target kt
      refine XS.istore X0.here hx rfl (hb hby d10_27) rfl (l' := #[.val (.ref r0), .val (.int (2 : Int32)), .val (.int p2), .val (.int p3), .val (.ref r4), .val (.ref r5), .val (.int z0)]) rfl ?_
      refine XS.aloadN X0.here hx rfl (hb hby d10_29) rfl rfl ?_
      refine XS.iloadN X0.here hx rfl (hb hby d10_30) rfl ?_
      exact kt
    obtain ⟨cq16, kq16, qv16a, qv16b, qv16c⟩ := isOf hZ e0 Et
    obtain ⟨_, _, ⟨T16, L16, k16, n16⟩, -, X16, ⟨Lc16, hQ16, l16, y16, z16⟩, st16⟩ := X0.virtualBack hx (y := (⟨"java/lang/String", "charAt", "(I)C"⟩ : MethodName)) (z := (⟨"java/lang/String", "charAt", "(I)C"⟩ : MethodName)) hown (mvT hZ (own_w hw 96 rfl)) (mvT hZ (own_w hw 75 rfl)) (notFace_of_selects (args := #[]) (mvT hZ (own_w hw 77 rfl))) (mvT hZ (own_w hw 77 rfl)) (mvT hZ (own_w hw 76 rfl)) (by decide) (StrChars.Road.chN (W := 0) hZ hwordsChN (kI := 4) (own_w hw 6 rfl) (cs := cs_) (i := 2) Et Fv Fc Vy (StrChars.Road.codOf rfl (own_hp1 hc7)) (own_hp2 hc7) (SB.1.ext Od.2) SB.2.1 (SB.2.2.1.ext Od.2) SB.2.2.2 hl4 hi rfl (by decide) (by decide)) qv16a qv16c (g := (mkF m 31 #[.val (.ref r0), .val (.int (2 : Int32)), .val (.int p2), .val (.int p3), .val (.ref r4), .val (.ref r5), .val (.int z0)] [(.int (2 : Int32)), (.ref r0)])) rfl (by rw [hml]; rfl) (Steps.refl _) (argsL := [(.int (2 : Int32))]) (rest := []) (lenOf pd_13 rfl) rfl (by show 2 * 0 + _ ≤ _; exact Nat.le_of_eq rfl) (hb hby d10_31) (fun _ _ => ⟨rfl, e0, (by decide : 0 + 0 ≤ _), (by decide : 0 + 0 ≤ _)⟩)
    dsimp only [Pt.U, Pt.locs, Pt.cells, Pt.slots] at X16 l16 y16 z16 st16 hQ16
    subst l16 y16 z16
    obtain ⟨rfl, Lq16, e16⟩ := hQ16
    subst Lq16
    have Nq16 := Fr.nil n0
    have N16 := Fr.app N0 Nq16
    rw [eq_] at st16
    obtain ⟨fs, hr, hrun, hended, hW, hsame⟩ := X16.leave (v := some (.int (1 : Int32))) (fun h => by rw [Bd.returns] at h; cases h)
    refine ⟨_, _, pre0 _ (st1 _ (st10 _ (st11 _ (st12 _ (st13 _ (st14 _ (st15 _ (st16.trans ?_)))))))), hrun, hended, _, _, rfl, ?_, ⟨_, rfl⟩, hW, hsame.mono (by decide) (by decide)⟩
    · refine XS.iload X16.here hx rfl (hb hby d10_34) rfl ?_
      refine XS.icmpNo X16.here hx rfl (hb hby d10_36) rfl (teq (rfl : z0 = z0)).2 ?_
      refine XS.iconst X16.here hx rfl (hb hby d10_39) ?_
      refine XS.goto X16.here hx rfl (pc0 := 40) (pc' := 44) rfl (hb hby d10_40) (by decide) (by decide) ?_
      show Steps p.tables e below (T16.setTop (mkF m 44 #[.val (.ref r0), .val (.int (2 : Int32)), .val (.int p2), .val (.int p3), .val (.ref r4), .val (.ref r5), .val (.int z0)] [(.int (1 : Int32))])) _
      exact retN X16 hx (t := .boolean) Bd.returns (by simp) (hb hby d10_44) hr
    · show Q_rmAt2 Z r0 p2 p3 r4 r5 cs fm y ky cs_ ka kb x0 x1 x2 z0 z1 z2 h0 n0 _ T16.heap _
      rw [e16]
      exact ⟨rfl, N16, rfl⟩
  · have st17 : own_S p e below s₁ (mkF m 7 #[.val (.ref r0), .val (.int (2 : Int32)), .val (.int p2), .val (.int p3), .val (.ref r4), .val (.ref r5), .unset] []) (mkF m 2 #[.val (.ref r0), .val (.int (2 : Int32)), .val (.int p2), .val (.int p3), .val (.ref r4), .val (.ref r5), .unset] [(.int p2), (.int (2 : Int32))]) := by
      intro target kt
      refine XS.icmpYes X0.here hx rfl (pc0 := 2) (pc' := 7) rfl (hb hby d10_2) rfl (tlt d1).1 (by decide) (by decide) ?_
      exact kt
    have st18 : own_S p e below s₁ (mkF m 9 #[.val (.ref r0), .val (.int (2 : Int32)), .val (.int p2), .val (.int p3), .val (.ref r4), .val (.ref r5), .unset] [(.int p3), (.int (2 : Int32))]) (mkF m 7 #[.val (.ref r0), .val (.int (2 : Int32)), .val (.int p2), .val (.int p3), .val (.ref r4), .val (.ref r5), .unset] []) := by
      intro target kt
      refine XS.iloadN X0.here hx rfl (hb hby d10_7) rfl ?_
      refine XS.iloadN X0.here hx rfl (hb hby d10_8) rfl ?_
      exact kt
    have st19 : own_S p e below s₁ (mkF m 21 #[.val (.ref r0), .val (.int (2 : Int32)), .val (.int p2), .val (.int p3), .val (.ref r4), .val (.ref r5), .unset] []) (mkF m 9 #[.val (.ref r0), .val (.int (2 : Int32)), .val (.int p2), .val (.int p3), .val (.ref r4), .val (.ref r5), .unset] [(.int p3), (.int (2 : Int32))]) := by
      intro target kt
      refine XS.icmpYes X0.here hx rfl (pc0 := 9) (pc' := 21) rfl (hb hby d10_9) rfl (flt d2).2.1 (by decide) (by decide) ?_
      exact kt
    have st20 : own_S p e below s₁ (mkF m 26 #[.val (.ref r0), .val (.int (2 : Int32)), .val (.int p2), .val (.int p3), .val (.ref r4), .val (.ref r5), .unset] [(.int ((2 : Int32) - p3)), (.ref r5)]) (mkF m 21 #[.val (.ref r0), .val (.int (2 : Int32)), .val (.int p2), .val (.int p3), .val (.ref r4), .val (.ref r5), .unset] []) := by
      intro target kt
      refine XS.aload X0.here hx rfl (hb hby d10_21) rfl rfl ?_
      refine XS.iloadN X0.here hx rfl (hb hby d10_23) rfl ?_
      refine XS.iloadN X0.here hx rfl (hb hby d10_24) rfl ?_
      refine XS.isub X0.here hx rfl (hb hby d10_25) rfl ?_
      exact kt
    rw [jk] at st20
    obtain ⟨cl21, Ar21, qc21, Sz21, Mn21, Hs21, Gs21⟩ := id Vb
    have hin21 : ¬ ((1 : Int32) < 0 ∨ cl21.slots.size ≤ ((1 : Int32)).toNatClampNeg) := inb_of Sz21 ⟨by decide, by decide⟩
    have hat21 : cl21.slots[((1 : Int32)).toNatClampNeg]? = some (.int z1) := Hs21.at hin21 rfl
    have st21 : own_S p e below s₁ (mkF m 27 #[.val (.ref r0), .val (.int (2 : Int32)), .val (.int p2), .val (.int p3), .val (.ref r4), .val (.ref r5), .unset] [(.int z1)]) (mkF m 26 #[.val (.ref r0), .val (.int (2 : Int32)), .val (.int p2), .val (.int p3), .val (.ref r4), .val (.ref r5), .unset] [(.int (1 : Int32)), (.ref r5)]) := fun target kt => X0.caload hx (j := (1 : Int32)) (v := (.int z1)) (by rw [e0]; exact Ar21.1) (State.isArrayOf_alike hZ.alike Ar21.2.1) Ar21.2.2 hin21 hat21 (g := (mkF m 26 #[.val (.ref r0), .val (.int (2 : Int32)), .val (.int p2), .val (.int p3), .val (.ref r4), .val (.ref r5), .unset] [(.int (1 : Int32)), (.ref r5)])) rfl rfl (hb hby d10_26) _ kt
    have st22 : own_S p e below s₁ (mkF m 31 #[.val (.ref r0), .val (.int (2 : Int32)), .val (.int p2), .val (.int p3), .val (.ref r4), .val (.ref r5), .val (.int z1)] [(.int (2 : Int32)), (.ref r0)]) (mkF m 27 #[.val (.ref r0), .val (.int (2 : Int32)), .val (.int p2), .val (.int p3), .val (.ref r4), .val (.ref r5), .unset] [(.int z1)]) := by
      intro target kt
      refine XS.istore X0.here hx rfl (hb hby d10_27) rfl (l' := #[.val (.ref r0), .val (.int (2 : Int32)), .val (.int p2), .val (.int p3), .val (.ref r4), .val (.ref r5), .val (.int z1)]) rfl ?_
      refine XS.aloadN X0.here hx rfl (hb hby d10_29) rfl rfl ?_
      refine XS.iloadN X0.here hx rfl (hb hby d10_30) rfl ?_
      exact kt
    obtain ⟨cq23, kq23, qv23a, qv23b, qv23c⟩ := isOf hZ e0 Et
    obtain ⟨_, _, ⟨T23, L23, k23, n23⟩, -, X23, ⟨Lc23, hQ23, l23, y23, z23⟩, st23⟩ := X0.virtualBack hx (y := (⟨"java/lang/String", "charAt", "(I)C"⟩ : MethodName)) (z := (⟨"java/lang/String", "charAt", "(I)C"⟩ : MethodName)) hown (mvT hZ (own_w hw 96 rfl)) (mvT hZ (own_w hw 75 rfl)) (notFace_of_selects (args := #[]) (mvT hZ (own_w hw 77 rfl))) (mvT hZ (own_w hw 77 rfl)) (mvT hZ (own_w hw 76 rfl)) (by decide) (StrChars.Road.chN (W := 0) hZ hwordsChN (kI := 4) (own_w hw 6 rfl) (cs := cs_) (i := 2) Et Fv Fc Vy (StrChars.Road.codOf rfl (own_hp1 hc7)) (own_hp2 hc7) (SB.1.ext Od.2) SB.2.1 (SB.2.2.1.ext Od.2) SB.2.2.2 hl4 hi rfl (by decide) (by decide)) qv23a qv23c (g := (mkF m 31 #[.val (.ref r0), .val (.int (2 : Int32)), .val (.int p2), .val (.int p3), .val (.ref r4), .val (.ref r5), .val (.int z1)] [(.int (2 : Int32)), (.ref r0)])) rfl (by rw [hml]; rfl) (Steps.refl _) (argsL := [(.int (2 : Int32))]) (rest := []) (lenOf pd_13 rfl) rfl (by show 2 * 0 + _ ≤ _; exact Nat.le_of_eq rfl) (hb hby d10_31) (fun _ _ => ⟨rfl, e0, (by decide : 0 + 0 ≤ _), (by decide : 0 + 0 ≤ _)⟩)
    dsimp only [Pt.U, Pt.locs, Pt.cells, Pt.slots] at X23 l23 y23 z23 st23 hQ23
    subst l23 y23 z23
    obtain ⟨rfl, Lq23, e23⟩ := hQ23
    subst Lq23
    have Nq23 := Fr.nil n0
    have N23 := Fr.app N0 Nq23
    rw [eq_] at st23
    obtain ⟨fs, hr, hrun, hended, hW, hsame⟩ := X23.leave (v := some (.int (1 : Int32))) (fun h => by rw [Bd.returns] at h; cases h)
    refine ⟨_, _, pre0 _ (st1 _ (st17 _ (st18 _ (st19 _ (st20 _ (st21 _ (st22 _ (st23.trans ?_)))))))), hrun, hended, _, _, rfl, ?_, ⟨_, rfl⟩, hW, hsame.mono (by decide) (by decide)⟩
    · refine XS.iload X23.here hx rfl (hb hby d10_34) rfl ?_
      refine XS.icmpNo X23.here hx rfl (hb hby d10_36) rfl (teq (rfl : z1 = z1)).2 ?_
      refine XS.iconst X23.here hx rfl (hb hby d10_39) ?_
      refine XS.goto X23.here hx rfl (pc0 := 40) (pc' := 44) rfl (hb hby d10_40) (by decide) (by decide) ?_
      show Steps p.tables e below (T23.setTop (mkF m 44 #[.val (.ref r0), .val (.int (2 : Int32)), .val (.int p2), .val (.int p3), .val (.ref r4), .val (.ref r5), .val (.int z1)] [(.int (1 : Int32))])) _
      exact retN X23 hx (t := .boolean) Bd.returns (by simp) (hb hby d10_44) hr
    · show Q_rmAt2 Z r0 p2 p3 r4 r5 cs fm y ky cs_ ka kb x0 x1 x2 z0 z1 z2 h0 n0 _ T23.heap _
      rw [e23]
      exact ⟨rfl, N23, rfl⟩
  · have st24 : own_S p e below s₁ (mkF m 7 #[.val (.ref r0), .val (.int (2 : Int32)), .val (.int p2), .val (.int p3), .val (.ref r4), .val (.ref r5), .unset] []) (mkF m 2 #[.val (.ref r0), .val (.int (2 : Int32)), .val (.int p2), .val (.int p3), .val (.ref r4), .val (.ref r5), .unset] [(.int p2), (.int (2 : Int32))]) := by
      intro target kt
      refine XS.icmpYes X0.here hx rfl (pc0 := 2) (pc' := 7) rfl (hb hby d10_2) rfl (tlt d1).1 (by decide) (by decide) ?_
      exact kt
    have st25 : own_S p e below s₁ (mkF m 9 #[.val (.ref r0), .val (.int (2 : Int32)), .val (.int p2), .val (.int p3), .val (.ref r4), .val (.ref r5), .unset] [(.int p3), (.int (2 : Int32))]) (mkF m 7 #[.val (.ref r0), .val (.int (2 : Int32)), .val (.int p2), .val (.int p3), .val (.ref r4), .val (.ref r5), .unset] []) := by
      intro target kt
      refine XS.iloadN X0.here hx rfl (hb hby d10_7) rfl ?_
      refine XS.iloadN X0.here hx rfl (hb hby d10_8) rfl ?_
      exact kt
    have st26 : own_S p e below s₁ (mkF m 21 #[.val (.ref r0), .val (.int (2 : Int32)), .val (.int p2), .val (.int p3), .val (.ref r4), .val (.ref r5), .unset] []) (mkF m 9 #[.val (.ref r0), .val (.int (2 : Int32)), .val (.int p2), .val (.int p3), .val (.ref r4), .val (.ref r5), .unset] [(.int p3), (.int (2 : Int32))]) := by
      intro target kt
      refine XS.icmpYes X0.here hx rfl (pc0 := 9) (pc' := 21) rfl (hb hby d10_9) rfl (flt d2).2.1 (by decide) (by decide) ?_
      exact kt
    have st27 : own_S p e below s₁ (mkF m 26 #[.val (.ref r0), .val (.int (2 : Int32)), .val (.int p2), .val (.int p3), .val (.ref r4), .val (.ref r5), .unset] [(.int ((2 : Int32) - p3)), (.ref r5)]) (mkF m 21 #[.val (.ref r0), .val (.int (2 : Int32)), .val (.int p2), .val (.int p3), .val (.ref r4), .val (.ref r5), .unset] []) := by
      intro target kt
      refine XS.aload X0.here hx rfl (hb hby d10_21) rfl rfl ?_
      refine XS.iloadN X0.here hx rfl (hb hby d10_23) rfl ?_
      refine XS.iloadN X0.here hx rfl (hb hby d10_24) rfl ?_
      refine XS.isub X0.here hx rfl (hb hby d10_25) rfl ?_
      exact kt
    rw [jk] at st27
    obtain ⟨cl28, Ar28, qc28, Sz28, Mn28, Hs28, Gs28⟩ := id Vb
    have hin28 : ¬ ((2 : Int32) < 0 ∨ cl28.slots.size ≤ ((2 : Int32)).toNatClampNeg) := inb_of Sz28 ⟨by decide, by decide⟩
    have hat28 : cl28.slots[((2 : Int32)).toNatClampNeg]? = some (.int z2) := Hs28.at hin28 rfl
    have st28 : own_S p e below s₁ (mkF m 27 #[.val (.ref r0), .val (.int (2 : Int32)), .val (.int p2), .val (.int p3), .val (.ref r4), .val (.ref r5), .unset] [(.int z2)]) (mkF m 26 #[.val (.ref r0), .val (.int (2 : Int32)), .val (.int p2), .val (.int p3), .val (.ref r4), .val (.ref r5), .unset] [(.int (2 : Int32)), (.ref r5)]) := fun target kt => X0.caload hx (j := (2 : Int32)) (v := (.int z2)) (by rw [e0]; exact Ar28.1) (State.isArrayOf_alike hZ.alike Ar28.2.1) Ar28.2.2 hin28 hat28 (g := (mkF m 26 #[.val (.ref r0), .val (.int (2 : Int32)), .val (.int p2), .val (.int p3), .val (.ref r4), .val (.ref r5), .unset] [(.int (2 : Int32)), (.ref r5)])) rfl rfl (hb hby d10_26) _ kt
    have st29 : own_S p e below s₁ (mkF m 31 #[.val (.ref r0), .val (.int (2 : Int32)), .val (.int p2), .val (.int p3), .val (.ref r4), .val (.ref r5), .val (.int z2)] [(.int (2 : Int32)), (.ref r0)]) (mkF m 27 #[.val (.ref r0), .val (.int (2 : Int32)), .val (.int p2), .val (.int p3), .val (.ref r4), .val (.ref r5), .unset] [(.int z2)]) := by
      intro target kt
      refine XS.istore X0.here hx rfl (hb hby d10_27) rfl (l' := #[.val (.ref r0), .val (.int (2 : Int32)), .val (.int p2), .val (.int p3), .val (.ref r4), .val (.ref r5), .val (.int z2)]) rfl ?_
      refine XS.aloadN X0.here hx rfl (hb hby d10_29) rfl rfl ?_
      refine XS.iloadN X0.here hx rfl (hb hby d10_30) rfl ?_
      exact kt
    obtain ⟨cq30, kq30, qv30a, qv30b, qv30c⟩ := isOf hZ e0 Et
    obtain ⟨_, _, ⟨T30, L30, k30, n30⟩, -, X30, ⟨Lc30, hQ30, l30, y30, z30⟩, st30⟩ := X0.virtualBack hx (y := (⟨"java/lang/String", "charAt", "(I)C"⟩ : MethodName)) (z := (⟨"java/lang/String", "charAt", "(I)C"⟩ : MethodName)) hown (mvT hZ (own_w hw 96 rfl)) (mvT hZ (own_w hw 75 rfl)) (notFace_of_selects (args := #[]) (mvT hZ (own_w hw 77 rfl))) (mvT hZ (own_w hw 77 rfl)) (mvT hZ (own_w hw 76 rfl)) (by decide) (StrChars.Road.chN (W := 0) hZ hwordsChN (kI := 4) (own_w hw 6 rfl) (cs := cs_) (i := 2) Et Fv Fc Vy (StrChars.Road.codOf rfl (own_hp1 hc7)) (own_hp2 hc7) (SB.1.ext Od.2) SB.2.1 (SB.2.2.1.ext Od.2) SB.2.2.2 hl4 hi rfl (by decide) (by decide)) qv30a qv30c (g := (mkF m 31 #[.val (.ref r0), .val (.int (2 : Int32)), .val (.int p2), .val (.int p3), .val (.ref r4), .val (.ref r5), .val (.int z2)] [(.int (2 : Int32)), (.ref r0)])) rfl (by rw [hml]; rfl) (Steps.refl _) (argsL := [(.int (2 : Int32))]) (rest := []) (lenOf pd_13 rfl) rfl (by show 2 * 0 + _ ≤ _; exact Nat.le_of_eq rfl) (hb hby d10_31) (fun _ _ => ⟨rfl, e0, (by decide : 0 + 0 ≤ _), (by decide : 0 + 0 ≤ _)⟩)
    dsimp only [Pt.U, Pt.locs, Pt.cells, Pt.slots] at X30 l30 y30 z30 st30 hQ30
    subst l30 y30 z30
    obtain ⟨rfl, Lq30, e30⟩ := hQ30
    subst Lq30
    have Nq30 := Fr.nil n0
    have N30 := Fr.app N0 Nq30
    rw [eq_] at st30
    obtain ⟨fs, hr, hrun, hended, hW, hsame⟩ := X30.leave (v := some (.int (1 : Int32))) (fun h => by rw [Bd.returns] at h; cases h)
    refine ⟨_, _, pre0 _ (st1 _ (st24 _ (st25 _ (st26 _ (st27 _ (st28 _ (st29 _ (st30.trans ?_)))))))), hrun, hended, _, _, rfl, ?_, ⟨_, rfl⟩, hW, hsame.mono (by decide) (by decide)⟩
    · refine XS.iload X30.here hx rfl (hb hby d10_34) rfl ?_
      refine XS.icmpNo X30.here hx rfl (hb hby d10_36) rfl (teq (rfl : z2 = z2)).2 ?_
      refine XS.iconst X30.here hx rfl (hb hby d10_39) ?_
      refine XS.goto X30.here hx rfl (pc0 := 40) (pc' := 44) rfl (hb hby d10_40) (by decide) (by decide) ?_
      show Steps p.tables e below (T30.setTop (mkF m 44 #[.val (.ref r0), .val (.int (2 : Int32)), .val (.int p2), .val (.int p3), .val (.ref r4), .val (.ref r5), .val (.int z2)] [(.int (1 : Int32))])) _
      exact retN X30 hx (t := .boolean) Bd.returns (by simp) (hb hby d10_44) hr
    · show Q_rmAt2 Z r0 p2 p3 r4 r5 cs fm y ky cs_ ka kb x0 x1 x2 z0 z1 z2 h0 n0 _ T30.heap _
      rw [e30]
      exact ⟨rfl, N30, rfl⟩
def own_D3 (n la : Int32) (cs : List Int32) (x0 x1 x2 z0 z1 z2 : Int32) : Prop := (¬ (3 : Int32) < n) ∨ ((3 : Int32) < n ∧ 3 < (cs).length ∧ ((¬ (3 : Int32) < la ∧ (((3 : Int32) - la = (0 : Int32) ∧ (cs).getD 3 0 = z0) ∨ ((3 : Int32) - la = (1 : Int32) ∧ (cs).getD 3 0 = z1) ∨ ((3 : Int32) - la = (2 : Int32) ∧ (cs).getD 3 0 = z2)))))
theorem own_Dl3 {la lb x0 x1 x2 z0 z1 z2 : Int32} {cs1 cs2 : List Int32} (h1 : own_mk la cs1 x0 x1 x2) (h2 : own_mk lb cs2 z0 z1 z2) : own_D3 (la + lb) la (cs1 ++ cs2) x0 x1 x2 z0 z1 z2 := by
  rcases h1 with ⟨a, b⟩ | ⟨a, b⟩ | ⟨a, b⟩ | ⟨a, b⟩ <;> rcases h2 with ⟨a', b'⟩ | ⟨a', b'⟩ | ⟨a', b'⟩ | ⟨a', b'⟩ <;> subst a <;> subst b <;> subst a' <;> subst b' <;> first
    | exact Or.inl (by decide)
    | exact Or.inr ⟨by decide, by simp, ⟨by decide, Or.inl ⟨by decide, rfl⟩⟩⟩
    | exact Or.inr ⟨by decide, by simp, ⟨by decide, Or.inr (Or.inl ⟨by decide, rfl⟩)⟩⟩
    | exact Or.inr ⟨by decide, by simp, ⟨by decide, Or.inr (Or.inr (⟨by decide, rfl⟩))⟩⟩
theorem ef_rmAt3 (m : MethodId) (x0 : Addr) (x1 : Int32) (x2 : Int32) (x3 : Int32) (x4 : Addr) (x5 : Addr) : entryFrame m #[(.ref x0), (.int x1), (.int x2), (.int x3), (.ref x4), (.ref x5)] 7 = mkF m 0 #[.val (.ref x0), .val (.int x1), .val (.int x2), .val (.int x3), .val (.ref x4), .val (.ref x5), .unset] [] := by first | (simp [entryFrame, mkF, argsToLocals, Value.category]; done) | rfl
def Q_rmAt3 (Z : State) (r0 : Addr) (p2 : Int32) (p3 : Int32) (r4 : Addr) (r5 : Addr) (cs : Int32) (fm : Value) (y : Addr) (ky : ClassId) (cs_ : List Int32) (ka : ClassId) (kb : ClassId) (x0 : Int32) (x1 : Int32) (x2 : Int32) (z0 : Int32) (z1 : Int32) (z2 : Int32) (h0 : Heap) (n0 : Nat) (v : Option Value) (h : Heap) (L : List Loc) : Prop := v = some (.int (1 : Int32)) ∧ Fr n0 L ∧ h = h0
set_option maxRecDepth 65536 in
set_option maxHeartbeats 40000000 in
theorem rmAt3 (l : Launch) (Z : State) (a0 : Array Value) (hw : ∀ d ∈ tables_1, d.before a0 Z = true) (ws : List Jvm.Cond) (r0 : Addr) (p2 : Int32) (p3 : Int32) (r4 : Addr) (r5 : Addr) (cs : Int32) (fm : Value) (y : Addr) (ky : ClassId) (cs_ : List Int32) (ka : ClassId) (kb : ClassId) (x0 : Int32) (x1 : Int32) (x2 : Int32) (z0 : Int32) (z1 : Int32) (z2 : Int32) (h0 : Heap) (n0 : Nat) (Z0 : n0 ≤ h0.size) (SB : own_St Z cs fm) (Od : Old Z n0 h0) (Fv : Fld Z h0 r0 "java/lang/String" "value" "[B" (.ref y)) (Fc : Fld Z h0 r0 "java/lang/String" "coder" "B" (.int (0 : Int32))) (Et : Exa Z h0 r0 "java/lang/String") (Vy : Arv Z h0 y ky .byte (Int32.ofNat cs_.length) (own_bs cs_) (.int (0 : Int32))) (hc7 : ∀ c ∈ cs_, own_c7 c) (hl4 : cs_.length ≤ 4000) (Va : Arv Z h0 r4 ka .char (3 : Int32) [(.int x0), (.int x1), (.int x2)] (.int (0 : Int32))) (Vb : Arv Z h0 r5 kb .char (3 : Int32) [(.int z0), (.int z1), (.int z2)] (.int (0 : Int32))) (hD : own_D3 p2 p3 cs_ x0 x1 x2 z0 z1 z2) :
    MetFree l (⟨"com/example/murray_hill/murrayhill/AsciiLineAppendPinLaw", "at", "(Ljava/lang/String;III[C[C)Z"⟩ : MethodName) (head1 (Jvm.Cond.code (⟨"com/example/murray_hill/murrayhill/AsciiLineAppendPinLaw", "at", "(Ljava/lang/String;III[C[C)Z"⟩ : MethodName) method_4_code 7 (some .boolean) :: ws) ({ frames := 4, cells := 0, slots := 0, locals := 53 } : Room)) (fun a U => a = #[(.ref r0), (.int (3 : Int32)), (.int p2), (.int p3), (.ref r4), (.ref r5)] ∧ Z.Warmed39 U.vm ∧ U.heap = h0) (fun _ _ _ _ _ => True) (fun _ U o U' => ∃ v L, o = .returned v ∧ Q_rmAt3 Z r0 p2 p3 r4 r5 cs fm y ky cs_ ka kb x0 x1 x2 z0 z1 z2 h0 n0 v U'.heap L ∧ FrameEnd U o U' L ({ frames := 4, cells := 0, slots := 0, locals := 53 } : Room).cells ({ frames := 4, cells := 0, slots := 0, locals := 53 } : Room).slots) := by
  refine MetFree.of_bodySF (plainFor_of_name pn_1) hisR ?_
  intro p e s m args below meth c s₁ Bd hml0 hP hK
  obtain ⟨rfl, hZ, hh⟩ := hP
  have hx := Bd.exec
  have hby := Bd.bytes
  have hml : c.maxLocals = 7 := hml0
  have hown : s.vm.findClass "com/example/murray_hill/murrayhill/AsciiLineAppendPinLaw" = some m.cls := findClass_of_methodNamed Bd.named
  have hnm := (name_of_methodNamed Bd.named Bd.method).1
  have X0 : Stand p l e ({ frames := 4, cells := 0, slots := 0, locals := 53 } : Room) s m #[(.ref r0), (.int (3 : Int32)), (.int p2), (.int p3), (.ref r4), (.ref r5)] below meth c s₁ [] 0 0 := Stand.of_body Bd
  have e0 : s₁.heap = h0 := by rw [← hh, Bd.state]; rfl
  have N0 := Fr.nil n0
  have pre0 : ∀ t, Steps p.tables e below (s₁.setTop (mkF m 0 #[.val (.ref r0), .val (.int (3 : Int32)), .val (.int p2), .val (.int p3), .val (.ref r4), .val (.ref r5), .unset] [])) t → Steps p.tables e below (s₁.setTop (entryFrame m #[(.ref r0), (.int (3 : Int32)), (.int p2), (.int p3), (.ref r4), (.ref r5)] 7)) t := fun t k => castTop (ef_rmAt3 m r0 (3 : Int32) p2 p3 r4 r5) k
  have hwordsChN : ∀ d ∈ StrChars.Road.wordsChN, d.before a0 Z = true := fun d hd => hw d ((by decide +kernel : ∀ d ∈ StrChars.Road.wordsChN, d ∈ tables_1) d hd)
  have st1 : own_S p e below s₁ (mkF m 2 #[.val (.ref r0), .val (.int (3 : Int32)), .val (.int p2), .val (.int p3), .val (.ref r4), .val (.ref r5), .unset] [(.int p2), (.int (3 : Int32))]) (mkF m 0 #[.val (.ref r0), .val (.int (3 : Int32)), .val (.int p2), .val (.int p3), .val (.ref r4), .val (.ref r5), .unset] []) := by
    intro target kt
    refine XS.iloadN X0.here hx rfl (hb hby d10_0) rfl ?_
    refine XS.iloadN X0.here hx rfl (hb hby d10_1) rfl ?_
    exact kt
  rcases hD with d1 | ⟨d1, hi, d2, ⟨jk, eq_⟩ | ⟨jk, eq_⟩ | ⟨jk, eq_⟩⟩
  · have st2 : own_S p e below s₁ (mkF m 5 #[.val (.ref r0), .val (.int (3 : Int32)), .val (.int p2), .val (.int p3), .val (.ref r4), .val (.ref r5), .unset] []) (mkF m 2 #[.val (.ref r0), .val (.int (3 : Int32)), .val (.int p2), .val (.int p3), .val (.ref r4), .val (.ref r5), .unset] [(.int p2), (.int (3 : Int32))]) := by
      intro target kt
      refine XS.icmpNo X0.here hx rfl (hb hby d10_2) rfl (flt d1).1 ?_
      exact kt
    obtain ⟨fs, hr, hrun, hended, hW, hsame⟩ := X0.leave (v := some (.int (1 : Int32))) (fun h => by rw [Bd.returns] at h; cases h)
    refine ⟨_, _, pre0 _ (st1 _ (st2 _ ?_)), hrun, hended, _, _, rfl, ?_, ⟨_, rfl⟩, hW, hsame.mono (by decide) (by decide)⟩
    · refine XS.iconst X0.here hx rfl (hb hby d10_5) ?_
      show Steps p.tables e below (s₁.setTop (mkF m 6 #[.val (.ref r0), .val (.int (3 : Int32)), .val (.int p2), .val (.int p3), .val (.ref r4), .val (.ref r5), .unset] [(.int (1 : Int32))])) _
      exact retN X0 hx (t := .boolean) Bd.returns (by simp) (hb hby d10_6) hr
    · show Q_rmAt3 Z r0 p2 p3 r4 r5 cs fm y ky cs_ ka kb x0 x1 x2 z0 z1 z2 h0 n0 _ s₁.heap _
      rw [e0]
      exact ⟨rfl, N0, rfl⟩
  · have st3 : own_S p e below s₁ (mkF m 7 #[.val (.ref r0), .val (.int (3 : Int32)), .val (.int p2), .val (.int p3), .val (.ref r4), .val (.ref r5), .unset] []) (mkF m 2 #[.val (.ref r0), .val (.int (3 : Int32)), .val (.int p2), .val (.int p3), .val (.ref r4), .val (.ref r5), .unset] [(.int p2), (.int (3 : Int32))]) := by
      intro target kt
      refine XS.icmpYes X0.here hx rfl (pc0 := 2) (pc' := 7) rfl (hb hby d10_2) rfl (tlt d1).1 (by decide) (by decide) ?_
      exact kt
    have st4 : own_S p e below s₁ (mkF m 9 #[.val (.ref r0), .val (.int (3 : Int32)), .val (.int p2), .val (.int p3), .val (.ref r4), .val (.ref r5), .unset] [(.int p3), (.int (3 : Int32))]) (mkF m 7 #[.val (.ref r0), .val (.int (3 : Int32)), .val (.int p2), .val (.int p3), .val (.ref r4), .val (.ref r5), .unset] []) := by
      intro target kt
      refine XS.iloadN X0.here hx rfl (hb hby d10_7) rfl ?_
      refine XS.iloadN X0.here hx rfl (hb hby d10_8) rfl ?_
      exact kt
    have st5 : own_S p e below s₁ (mkF m 21 #[.val (.ref r0), .val (.int (3 : Int32)), .val (.int p2), .val (.int p3), .val (.ref r4), .val (.ref r5), .unset] []) (mkF m 9 #[.val (.ref r0), .val (.int (3 : Int32)), .val (.int p2), .val (.int p3), .val (.ref r4), .val (.ref r5), .unset] [(.int p3), (.int (3 : Int32))]) := by
      intro target kt
      refine XS.icmpYes X0.here hx rfl (pc0 := 9) (pc' := 21) rfl (hb hby d10_9) rfl (flt d2).2.1 (by decide) (by decide) ?_
      exact kt
    have st6 : own_S p e below s₁ (mkF m 26 #[.val (.ref r0), .val (.int (3 : Int32)), .val (.int p2), .val (.int p3), .val (.ref r4), .val (.ref r5), .unset] [(.int ((3 : Int32) - p3)), (.ref r5)]) (mkF m 21 #[.val (.ref r0), .val (.int (3 : Int32)), .val (.int p2), .val (.int p3), .val (.ref r4), .val (.ref r5), .unset] []) := by
      intro target kt
      refine XS.aload X0.here hx rfl (hb hby d10_21) rfl rfl ?_
      refine XS.iloadN X0.here hx rfl (hb hby d10_23) rfl ?_
      refine XS.iloadN X0.here hx rfl (hb hby d10_24) rfl ?_
      refine XS.isub X0.here hx rfl (hb hby d10_25) rfl ?_
      exact kt
    rw [jk] at st6
    obtain ⟨cl7, Ar7, qc7, Sz7, Mn7, Hs7, Gs7⟩ := id Vb
    have hin7 : ¬ ((0 : Int32) < 0 ∨ cl7.slots.size ≤ ((0 : Int32)).toNatClampNeg) := inb_of Sz7 ⟨by decide, by decide⟩
    have hat7 : cl7.slots[((0 : Int32)).toNatClampNeg]? = some (.int z0) := Hs7.at hin7 rfl
    have st7 : own_S p e below s₁ (mkF m 27 #[.val (.ref r0), .val (.int (3 : Int32)), .val (.int p2), .val (.int p3), .val (.ref r4), .val (.ref r5), .unset] [(.int z0)]) (mkF m 26 #[.val (.ref r0), .val (.int (3 : Int32)), .val (.int p2), .val (.int p3), .val (.ref r4), .val (.ref r5), .unset] [(.int (0 : Int32)), (.ref r5)]) := fun target kt => X0.caload hx (j := (0 : Int32)) (v := (.int z0)) (by rw [e0]; exact Ar7.1) (State.isArrayOf_alike hZ.alike Ar7.2.1) Ar7.2.2 hin7 hat7 (g := (mkF m 26 #[.val (.ref r0), .val (.int (3 : Int32)), .val (.int p2), .val (.int p3), .val (.ref r4), .val (.ref r5), .unset] [(.int (0 : Int32)), (.ref r5)])) rfl rfl (hb hby d10_26) _ kt
    have st8 : own_S p e below s₁ (mkF m 31 #[.val (.ref r0), .val (.int (3 : Int32)), .val (.int p2), .val (.int p3), .val (.ref r4), .val (.ref r5), .val (.int z0)] [(.int (3 : Int32)), (.ref r0)]) (mkF m 27 #[.val (.ref r0), .val (.int (3 : Int32)), .val (.int p2), .val (.int p3), .val (.ref r4), .val (.ref r5), .unset] [(.int z0)]) := by
      intro target kt
      refine XS.istore X0.here hx rfl (hb hby d10_27) rfl (l' := #[.val (.ref r0), .val (.int (3 : Int32)), .val (.int p2), .val (.int p3), .val (.ref r4), .val (.ref r5), .val (.int z0)]) rfl ?_
      refine XS.aloadN X0.here hx rfl (hb hby d10_29) rfl rfl ?_
      refine XS.iloadN X0.here hx rfl (hb hby d10_30) rfl ?_
      exact kt
    obtain ⟨cq9, kq9, qv9a, qv9b, qv9c⟩ := isOf hZ e0 Et
    obtain ⟨_, _, ⟨T9, L9, k9, n9⟩, -, X9, ⟨Lc9, hQ9, l9, y9, z9⟩, st9⟩ := X0.virtualBack hx (y := (⟨"java/lang/String", "charAt", "(I)C"⟩ : MethodName)) (z := (⟨"java/lang/String", "charAt", "(I)C"⟩ : MethodName)) hown (mvT hZ (own_w hw 96 rfl)) (mvT hZ (own_w hw 75 rfl)) (notFace_of_selects (args := #[]) (mvT hZ (own_w hw 77 rfl))) (mvT hZ (own_w hw 77 rfl)) (mvT hZ (own_w hw 76 rfl)) (by decide) (StrChars.Road.chN (W := 0) hZ hwordsChN (kI := 4) (own_w hw 6 rfl) (cs := cs_) (i := 3) Et Fv Fc Vy (StrChars.Road.codOf rfl (own_hp1 hc7)) (own_hp2 hc7) (SB.1.ext Od.2) SB.2.1 (SB.2.2.1.ext Od.2) SB.2.2.2 hl4 hi rfl (by decide) (by decide)) qv9a qv9c (g := (mkF m 31 #[.val (.ref r0), .val (.int (3 : Int32)), .val (.int p2), .val (.int p3), .val (.ref r4), .val (.ref r5), .val (.int z0)] [(.int (3 : Int32)), (.ref r0)])) rfl (by rw [hml]; rfl) (Steps.refl _) (argsL := [(.int (3 : Int32))]) (rest := []) (lenOf pd_13 rfl) rfl (by show 2 * 0 + _ ≤ _; exact Nat.le_of_eq rfl) (hb hby d10_31) (fun _ _ => ⟨rfl, e0, (by decide : 0 + 0 ≤ _), (by decide : 0 + 0 ≤ _)⟩)
    dsimp only [Pt.U, Pt.locs, Pt.cells, Pt.slots] at X9 l9 y9 z9 st9 hQ9
    subst l9 y9 z9
    obtain ⟨rfl, Lq9, e9⟩ := hQ9
    subst Lq9
    have Nq9 := Fr.nil n0
    have N9 := Fr.app N0 Nq9
    rw [eq_] at st9
    obtain ⟨fs, hr, hrun, hended, hW, hsame⟩ := X9.leave (v := some (.int (1 : Int32))) (fun h => by rw [Bd.returns] at h; cases h)
    refine ⟨_, _, pre0 _ (st1 _ (st3 _ (st4 _ (st5 _ (st6 _ (st7 _ (st8 _ (st9.trans ?_)))))))), hrun, hended, _, _, rfl, ?_, ⟨_, rfl⟩, hW, hsame.mono (by decide) (by decide)⟩
    · refine XS.iload X9.here hx rfl (hb hby d10_34) rfl ?_
      refine XS.icmpNo X9.here hx rfl (hb hby d10_36) rfl (teq (rfl : z0 = z0)).2 ?_
      refine XS.iconst X9.here hx rfl (hb hby d10_39) ?_
      refine XS.goto X9.here hx rfl (pc0 := 40) (pc' := 44) rfl (hb hby d10_40) (by decide) (by decide) ?_
      show Steps p.tables e below (T9.setTop (mkF m 44 #[.val (.ref r0), .val (.int (3 : Int32)), .val (.int p2), .val (.int p3), .val (.ref r4), .val (.ref r5), .val (.int z0)] [(.int (1 : Int32))])) _
      exact retN X9 hx (t := .boolean) Bd.returns (by simp) (hb hby d10_44) hr
    · show Q_rmAt3 Z r0 p2 p3 r4 r5 cs fm y ky cs_ ka kb x0 x1 x2 z0 z1 z2 h0 n0 _ T9.heap _
      rw [e9]
      exact ⟨rfl, N9, rfl⟩
  · have st10 : own_S p e below s₁ (mkF m 7 #[.val (.ref r0), .val (.int (3 : Int32)), .val (.int p2), .val (.int p3), .val (.ref r4), .val (.ref r5), .unset] []) (mkF m 2 #[.val (.ref r0), .val (.int (3 : Int32)), .val (.int p2), .val (.int p3), .val (.ref r4), .val (.ref r5), .unset] [(.int p2), (.int (3 : Int32))]) := by
      intro target kt
      refine XS.icmpYes X0.here hx rfl (pc0 := 2) (pc' := 7) rfl (hb hby d10_2) rfl (tlt d1).1 (by decide) (by decide) ?_
      exact kt
    have st11 : own_S p e below s₁ (mkF m 9 #[.val (.ref r0), .val (.int (3 : Int32)), .val (.int p2), .val (.int p3), .val (.ref r4), .val (.ref r5), .unset] [(.int p3), (.int (3 : Int32))]) (mkF m 7 #[.val (.ref r0), .val (.int (3 : Int32)), .val (.int p2), .val (.int p3), .val (.ref r4), .val (.ref r5), .unset] []) := by
      intro target kt
      refine XS.iloadN X0.here hx rfl (hb hby d10_7) rfl ?_
      refine XS.iloadN X0.here hx rfl (hb hby d10_8) rfl ?_
      exact kt
    have st12 : own_S p e below s₁ (mkF m 21 #[.val (.ref r0), .val (.int (3 : Int32)), .val (.int p2), .val (.int p3), .val (.ref r4), .val (.ref r5), .unset] []) (mkF m 9 #[.val (.ref r0), .val (.int (3 : Int32)), .val (.int p2), .val (.int p3), .val (.ref r4), .val (.ref r5), .unset] [(.int p3), (.int (3 : Int32))]) := by
      intro target kt
      refine XS.icmpYes X0.here hx rfl (pc0 := 9) (pc' := 21) rfl (hb hby d10_9) rfl (flt d2).2.1 (by decide) (by decide) ?_
      exact kt
    have st13 : own_S p e below s₁ (mkF m 26 #[.val (.ref r0), .val (.int (3 : Int32)), .val (.int p2), .val (.int p3), .val (.ref r4), .val (.ref r5), .unset] [(.int ((3 : Int32) - p3)), (.ref r5)]) (mkF m 21 #[.val (.ref r0), .val (.int (3 : Int32)), .val (.int p2), .val (.int p3), .val (.ref r4), .val (.ref r5), .unset] []) := by
      intro target kt
      refine XS.aload X0.here hx rfl (hb hby d10_21) rfl rfl ?_
      refine XS.iloadN X0.here hx rfl (hb hby d10_23) rfl ?_
      refine XS.iloadN X0.here hx rfl (hb hby d10_24) rfl ?_
      refine XS.isub X0.here hx rfl (hb hby d10_25) rfl ?_
      exact kt
    rw [jk] at st13
    obtain ⟨cl14, Ar14, qc14, Sz14, Mn14, Hs14, Gs14⟩ := id Vb
    have hin14 : ¬ ((1 : Int32) < 0 ∨ cl14.slots.size ≤ ((1 : Int32)).toNatClampNeg) := inb_of Sz14 ⟨by decide, by decide⟩
    have hat14 : cl14.slots[((1 : Int32)).toNatClampNeg]? = some (.int z1) := Hs14.at hin14 rfl
    have st14 : own_S p e below s₁ (mkF m 27 #[.val (.ref r0), .val (.int (3 : Int32)), .val (.int p2), .val (.int p3), .val (.ref r4), .val (.ref r5), .unset] [(.int z1)]) (mkF m 26 #[.val (.ref r0), .val (.int (3 : Int32)), .val (.int p2), .val (.int p3), .val (.ref r4), .val (.ref r5), .unset] [(.int (1 : Int32)), (.ref r5)]) := fun target kt => X0.caload hx (j := (1 : Int32)) (v := (.int z1)) (by rw [e0]; exact Ar14.1) (State.isArrayOf_alike hZ.alike Ar14.2.1) Ar14.2.2 hin14 hat14 (g := (mkF m 26 #[.val (.ref r0), .val (.int (3 : Int32)), .val (.int p2), .val (.int p3), .val (.ref r4), .val (.ref r5), .unset] [(.int (1 : Int32)), (.ref r5)])) rfl rfl (hb hby d10_26) _ kt
    have st15 : own_S p e below s₁ (mkF m 31 #[.val (.ref r0), .val (.int (3 : Int32)), .val (.int p2), .val (.int p3), .val (.ref r4), .val (.ref r5), .val (.int z1)] [(.int (3 : Int32)), (.ref r0)]) (mkF m 27 #[.val (.ref r0), .val (.int (3 : Int32)), .val (.int p2), .val (.int p3), .val (.ref r4), .val (.ref r5), .unset] [(.int z1)]) := by
      intro target kt
      refine XS.istore X0.here hx rfl (hb hby d10_27) rfl (l' := #[.val (.ref r0), .val (.int (3 : Int32)), .val (.int p2), .val (.int p3), .val (.ref r4), .val (.ref r5), .val (.int z1)]) rfl ?_
      refine XS.aloadN X0.here hx rfl (hb hby d10_29) rfl rfl ?_
      refine XS.iloadN X0.here hx rfl (hb hby d10_30) rfl ?_
      exact kt
    obtain ⟨cq16, kq16, qv16a, qv16b, qv16c⟩ := isOf hZ e0 Et
    obtain ⟨_, _, ⟨T16, L16, k16, n16⟩, -, X16, ⟨Lc16, hQ16, l16, y16, z16⟩, st16⟩ := X0.virtualBack hx (y := (⟨"java/lang/String", "charAt", "(I)C"⟩ : MethodName)) (z := (⟨"java/lang/String", "charAt", "(I)C"⟩ : MethodName)) hown (mvT hZ (own_w hw 96 rfl)) (mvT hZ (own_w hw 75 rfl)) (notFace_of_selects (args := #[]) (mvT hZ (own_w hw 77 rfl))) (mvT hZ (own_w hw 77 rfl)) (mvT hZ (own_w hw 76 rfl)) (by decide) (StrChars.Road.chN (W := 0) hZ hwordsChN (kI := 4) (own_w hw 6 rfl) (cs := cs_) (i := 3) Et Fv Fc Vy (StrChars.Road.codOf rfl (own_hp1 hc7)) (own_hp2 hc7) (SB.1.ext Od.2) SB.2.1 (SB.2.2.1.ext Od.2) SB.2.2.2 hl4 hi rfl (by decide) (by decide)) qv16a qv16c (g := (mkF m 31 #[.val (.ref r0), .val (.int (3 : Int32)), .val (.int p2), .val (.int p3), .val (.ref r4), .val (.ref r5), .val (.int z1)] [(.int (3 : Int32)), (.ref r0)])) rfl (by rw [hml]; rfl) (Steps.refl _) (argsL := [(.int (3 : Int32))]) (rest := []) (lenOf pd_13 rfl) rfl (by show 2 * 0 + _ ≤ _; exact Nat.le_of_eq rfl) (hb hby d10_31) (fun _ _ => ⟨rfl, e0, (by decide : 0 + 0 ≤ _), (by decide : 0 + 0 ≤ _)⟩)
    dsimp only [Pt.U, Pt.locs, Pt.cells, Pt.slots] at X16 l16 y16 z16 st16 hQ16
    subst l16 y16 z16
    obtain ⟨rfl, Lq16, e16⟩ := hQ16
    subst Lq16
    have Nq16 := Fr.nil n0
    have N16 := Fr.app N0 Nq16
    rw [eq_] at st16
    obtain ⟨fs, hr, hrun, hended, hW, hsame⟩ := X16.leave (v := some (.int (1 : Int32))) (fun h => by rw [Bd.returns] at h; cases h)
    refine ⟨_, _, pre0 _ (st1 _ (st10 _ (st11 _ (st12 _ (st13 _ (st14 _ (st15 _ (st16.trans ?_)))))))), hrun, hended, _, _, rfl, ?_, ⟨_, rfl⟩, hW, hsame.mono (by decide) (by decide)⟩
    · refine XS.iload X16.here hx rfl (hb hby d10_34) rfl ?_
      refine XS.icmpNo X16.here hx rfl (hb hby d10_36) rfl (teq (rfl : z1 = z1)).2 ?_
      refine XS.iconst X16.here hx rfl (hb hby d10_39) ?_
      refine XS.goto X16.here hx rfl (pc0 := 40) (pc' := 44) rfl (hb hby d10_40) (by decide) (by decide) ?_
      show Steps p.tables e below (T16.setTop (mkF m 44 #[.val (.ref r0), .val (.int (3 : Int32)), .val (.int p2), .val (.int p3), .val (.ref r4), .val (.ref r5), .val (.int z1)] [(.int (1 : Int32))])) _
      exact retN X16 hx (t := .boolean) Bd.returns (by simp) (hb hby d10_44) hr
    · show Q_rmAt3 Z r0 p2 p3 r4 r5 cs fm y ky cs_ ka kb x0 x1 x2 z0 z1 z2 h0 n0 _ T16.heap _
      rw [e16]
      exact ⟨rfl, N16, rfl⟩
  · have st17 : own_S p e below s₁ (mkF m 7 #[.val (.ref r0), .val (.int (3 : Int32)), .val (.int p2), .val (.int p3), .val (.ref r4), .val (.ref r5), .unset] []) (mkF m 2 #[.val (.ref r0), .val (.int (3 : Int32)), .val (.int p2), .val (.int p3), .val (.ref r4), .val (.ref r5), .unset] [(.int p2), (.int (3 : Int32))]) := by
      intro target kt
      refine XS.icmpYes X0.here hx rfl (pc0 := 2) (pc' := 7) rfl (hb hby d10_2) rfl (tlt d1).1 (by decide) (by decide) ?_
      exact kt
    have st18 : own_S p e below s₁ (mkF m 9 #[.val (.ref r0), .val (.int (3 : Int32)), .val (.int p2), .val (.int p3), .val (.ref r4), .val (.ref r5), .unset] [(.int p3), (.int (3 : Int32))]) (mkF m 7 #[.val (.ref r0), .val (.int (3 : Int32)), .val (.int p2), .val (.int p3), .val (.ref r4), .val (.ref r5), .unset] []) := by
      intro target kt
      refine XS.iloadN X0.here hx rfl (hb hby d10_7) rfl ?_
      refine XS.iloadN X0.here hx rfl (hb hby d10_8) rfl ?_
      exact kt
    have st19 : own_S p e below s₁ (mkF m 21 #[.val (.ref r0), .val (.int (3 : Int32)), .val (.int p2), .val (.int p3), .val (.ref r4), .val (.ref r5), .unset] []) (mkF m 9 #[.val (.ref r0), .val (.int (3 : Int32)), .val (.int p2), .val (.int p3), .val (.ref r4), .val (.ref r5), .unset] [(.int p3), (.int (3 : Int32))]) := by
      intro target kt
      refine XS.icmpYes X0.here hx rfl (pc0 := 9) (pc' := 21) rfl (hb hby d10_9) rfl (flt d2).2.1 (by decide) (by decide) ?_
      exact kt
    have st20 : own_S p e below s₁ (mkF m 26 #[.val (.ref r0), .val (.int (3 : Int32)), .val (.int p2), .val (.int p3), .val (.ref r4), .val (.ref r5), .unset] [(.int ((3 : Int32) - p3)), (.ref r5)]) (mkF m 21 #[.val (.ref r0), .val (.int (3 : Int32)), .val (.int p2), .val (.int p3), .val (.ref r4), .val (.ref r5), .unset] []) := by
      intro target kt
      refine XS.aload X0.here hx rfl (hb hby d10_21) rfl rfl ?_
      refine XS.iloadN X0.here hx rfl (hb hby d10_23) rfl ?_
      refine XS.iloadN X0.here hx rfl (hb hby d10_24) rfl ?_
      refine XS.isub X0.here hx rfl (hb hby d10_25) rfl ?_
      exact kt
    rw [jk] at st20
    obtain ⟨cl21, Ar21, qc21, Sz21, Mn21, Hs21, Gs21⟩ := id Vb
    have hin21 : ¬ ((2 : Int32) < 0 ∨ cl21.slots.size ≤ ((2 : Int32)).toNatClampNeg) := inb_of Sz21 ⟨by decide, by decide⟩
    have hat21 : cl21.slots[((2 : Int32)).toNatClampNeg]? = some (.int z2) := Hs21.at hin21 rfl
    have st21 : own_S p e below s₁ (mkF m 27 #[.val (.ref r0), .val (.int (3 : Int32)), .val (.int p2), .val (.int p3), .val (.ref r4), .val (.ref r5), .unset] [(.int z2)]) (mkF m 26 #[.val (.ref r0), .val (.int (3 : Int32)), .val (.int p2), .val (.int p3), .val (.ref r4), .val (.ref r5), .unset] [(.int (2 : Int32)), (.ref r5)]) := fun target kt => X0.caload hx (j := (2 : Int32)) (v := (.int z2)) (by rw [e0]; exact Ar21.1) (State.isArrayOf_alike hZ.alike Ar21.2.1) Ar21.2.2 hin21 hat21 (g := (mkF m 26 #[.val (.ref r0), .val (.int (3 : Int32)), .val (.int p2), .val (.int p3), .val (.ref r4), .val (.ref r5), .unset] [(.int (2 : Int32)), (.ref r5)])) rfl rfl (hb hby d10_26) _ kt
    have st22 : own_S p e below s₁ (mkF m 31 #[.val (.ref r0), .val (.int (3 : Int32)), .val (.int p2), .val (.int p3), .val (.ref r4), .val (.ref r5), .val (.int z2)] [(.int (3 : Int32)), (.ref r0)]) (mkF m 27 #[.val (.ref r0), .val (.int (3 : Int32)), .val (.int p2), .val (.int p3), .val (.ref r4), .val (.ref r5), .unset] [(.int z2)]) := by
      intro target kt
      refine XS.istore X0.here hx rfl (hb hby d10_27) rfl (l' := #[.val (.ref r0), .val (.int (3 : Int32)), .val (.int p2), .val (.int p3), .val (.ref r4), .val (.ref r5), .val (.int z2)]) rfl ?_
      refine XS.aloadN X0.here hx rfl (hb hby d10_29) rfl rfl ?_
      refine XS.iloadN X0.here hx rfl (hb hby d10_30) rfl ?_
      exact kt
    obtain ⟨cq23, kq23, qv23a, qv23b, qv23c⟩ := isOf hZ e0 Et
    obtain ⟨_, _, ⟨T23, L23, k23, n23⟩, -, X23, ⟨Lc23, hQ23, l23, y23, z23⟩, st23⟩ := X0.virtualBack hx (y := (⟨"java/lang/String", "charAt", "(I)C"⟩ : MethodName)) (z := (⟨"java/lang/String", "charAt", "(I)C"⟩ : MethodName)) hown (mvT hZ (own_w hw 96 rfl)) (mvT hZ (own_w hw 75 rfl)) (notFace_of_selects (args := #[]) (mvT hZ (own_w hw 77 rfl))) (mvT hZ (own_w hw 77 rfl)) (mvT hZ (own_w hw 76 rfl)) (by decide) (StrChars.Road.chN (W := 0) hZ hwordsChN (kI := 4) (own_w hw 6 rfl) (cs := cs_) (i := 3) Et Fv Fc Vy (StrChars.Road.codOf rfl (own_hp1 hc7)) (own_hp2 hc7) (SB.1.ext Od.2) SB.2.1 (SB.2.2.1.ext Od.2) SB.2.2.2 hl4 hi rfl (by decide) (by decide)) qv23a qv23c (g := (mkF m 31 #[.val (.ref r0), .val (.int (3 : Int32)), .val (.int p2), .val (.int p3), .val (.ref r4), .val (.ref r5), .val (.int z2)] [(.int (3 : Int32)), (.ref r0)])) rfl (by rw [hml]; rfl) (Steps.refl _) (argsL := [(.int (3 : Int32))]) (rest := []) (lenOf pd_13 rfl) rfl (by show 2 * 0 + _ ≤ _; exact Nat.le_of_eq rfl) (hb hby d10_31) (fun _ _ => ⟨rfl, e0, (by decide : 0 + 0 ≤ _), (by decide : 0 + 0 ≤ _)⟩)
    dsimp only [Pt.U, Pt.locs, Pt.cells, Pt.slots] at X23 l23 y23 z23 st23 hQ23
    subst l23 y23 z23
    obtain ⟨rfl, Lq23, e23⟩ := hQ23
    subst Lq23
    have Nq23 := Fr.nil n0
    have N23 := Fr.app N0 Nq23
    rw [eq_] at st23
    obtain ⟨fs, hr, hrun, hended, hW, hsame⟩ := X23.leave (v := some (.int (1 : Int32))) (fun h => by rw [Bd.returns] at h; cases h)
    refine ⟨_, _, pre0 _ (st1 _ (st17 _ (st18 _ (st19 _ (st20 _ (st21 _ (st22 _ (st23.trans ?_)))))))), hrun, hended, _, _, rfl, ?_, ⟨_, rfl⟩, hW, hsame.mono (by decide) (by decide)⟩
    · refine XS.iload X23.here hx rfl (hb hby d10_34) rfl ?_
      refine XS.icmpNo X23.here hx rfl (hb hby d10_36) rfl (teq (rfl : z2 = z2)).2 ?_
      refine XS.iconst X23.here hx rfl (hb hby d10_39) ?_
      refine XS.goto X23.here hx rfl (pc0 := 40) (pc' := 44) rfl (hb hby d10_40) (by decide) (by decide) ?_
      show Steps p.tables e below (T23.setTop (mkF m 44 #[.val (.ref r0), .val (.int (3 : Int32)), .val (.int p2), .val (.int p3), .val (.ref r4), .val (.ref r5), .val (.int z2)] [(.int (1 : Int32))])) _
      exact retN X23 hx (t := .boolean) Bd.returns (by simp) (hb hby d10_44) hr
    · show Q_rmAt3 Z r0 p2 p3 r4 r5 cs fm y ky cs_ ka kb x0 x1 x2 z0 z1 z2 h0 n0 _ T23.heap _
      rw [e23]
      exact ⟨rfl, N23, rfl⟩
def own_D4 (n la : Int32) (cs : List Int32) (x0 x1 x2 z0 z1 z2 : Int32) : Prop := (¬ (4 : Int32) < n) ∨ ((4 : Int32) < n ∧ 4 < (cs).length ∧ ((¬ (4 : Int32) < la ∧ (((4 : Int32) - la = (0 : Int32) ∧ (cs).getD 4 0 = z0) ∨ ((4 : Int32) - la = (1 : Int32) ∧ (cs).getD 4 0 = z1) ∨ ((4 : Int32) - la = (2 : Int32) ∧ (cs).getD 4 0 = z2)))))
theorem own_Dl4 {la lb x0 x1 x2 z0 z1 z2 : Int32} {cs1 cs2 : List Int32} (h1 : own_mk la cs1 x0 x1 x2) (h2 : own_mk lb cs2 z0 z1 z2) : own_D4 (la + lb) la (cs1 ++ cs2) x0 x1 x2 z0 z1 z2 := by
  rcases h1 with ⟨a, b⟩ | ⟨a, b⟩ | ⟨a, b⟩ | ⟨a, b⟩ <;> rcases h2 with ⟨a', b'⟩ | ⟨a', b'⟩ | ⟨a', b'⟩ | ⟨a', b'⟩ <;> subst a <;> subst b <;> subst a' <;> subst b' <;> first
    | exact Or.inl (by decide)
    | exact Or.inr ⟨by decide, by simp, ⟨by decide, Or.inl ⟨by decide, rfl⟩⟩⟩
    | exact Or.inr ⟨by decide, by simp, ⟨by decide, Or.inr (Or.inl ⟨by decide, rfl⟩)⟩⟩
    | exact Or.inr ⟨by decide, by simp, ⟨by decide, Or.inr (Or.inr (⟨by decide, rfl⟩))⟩⟩
theorem ef_rmAt4 (m : MethodId) (x0 : Addr) (x1 : Int32) (x2 : Int32) (x3 : Int32) (x4 : Addr) (x5 : Addr) : entryFrame m #[(.ref x0), (.int x1), (.int x2), (.int x3), (.ref x4), (.ref x5)] 7 = mkF m 0 #[.val (.ref x0), .val (.int x1), .val (.int x2), .val (.int x3), .val (.ref x4), .val (.ref x5), .unset] [] := by first | (simp [entryFrame, mkF, argsToLocals, Value.category]; done) | rfl
def Q_rmAt4 (Z : State) (r0 : Addr) (p2 : Int32) (p3 : Int32) (r4 : Addr) (r5 : Addr) (cs : Int32) (fm : Value) (y : Addr) (ky : ClassId) (cs_ : List Int32) (ka : ClassId) (kb : ClassId) (x0 : Int32) (x1 : Int32) (x2 : Int32) (z0 : Int32) (z1 : Int32) (z2 : Int32) (h0 : Heap) (n0 : Nat) (v : Option Value) (h : Heap) (L : List Loc) : Prop := v = some (.int (1 : Int32)) ∧ Fr n0 L ∧ h = h0
set_option maxRecDepth 65536 in
set_option maxHeartbeats 40000000 in
theorem rmAt4 (l : Launch) (Z : State) (a0 : Array Value) (hw : ∀ d ∈ tables_1, d.before a0 Z = true) (ws : List Jvm.Cond) (r0 : Addr) (p2 : Int32) (p3 : Int32) (r4 : Addr) (r5 : Addr) (cs : Int32) (fm : Value) (y : Addr) (ky : ClassId) (cs_ : List Int32) (ka : ClassId) (kb : ClassId) (x0 : Int32) (x1 : Int32) (x2 : Int32) (z0 : Int32) (z1 : Int32) (z2 : Int32) (h0 : Heap) (n0 : Nat) (Z0 : n0 ≤ h0.size) (SB : own_St Z cs fm) (Od : Old Z n0 h0) (Fv : Fld Z h0 r0 "java/lang/String" "value" "[B" (.ref y)) (Fc : Fld Z h0 r0 "java/lang/String" "coder" "B" (.int (0 : Int32))) (Et : Exa Z h0 r0 "java/lang/String") (Vy : Arv Z h0 y ky .byte (Int32.ofNat cs_.length) (own_bs cs_) (.int (0 : Int32))) (hc7 : ∀ c ∈ cs_, own_c7 c) (hl4 : cs_.length ≤ 4000) (Va : Arv Z h0 r4 ka .char (3 : Int32) [(.int x0), (.int x1), (.int x2)] (.int (0 : Int32))) (Vb : Arv Z h0 r5 kb .char (3 : Int32) [(.int z0), (.int z1), (.int z2)] (.int (0 : Int32))) (hD : own_D4 p2 p3 cs_ x0 x1 x2 z0 z1 z2) :
    MetFree l (⟨"com/example/murray_hill/murrayhill/AsciiLineAppendPinLaw", "at", "(Ljava/lang/String;III[C[C)Z"⟩ : MethodName) (head1 (Jvm.Cond.code (⟨"com/example/murray_hill/murrayhill/AsciiLineAppendPinLaw", "at", "(Ljava/lang/String;III[C[C)Z"⟩ : MethodName) method_4_code 7 (some .boolean) :: ws) ({ frames := 4, cells := 0, slots := 0, locals := 53 } : Room)) (fun a U => a = #[(.ref r0), (.int (4 : Int32)), (.int p2), (.int p3), (.ref r4), (.ref r5)] ∧ Z.Warmed39 U.vm ∧ U.heap = h0) (fun _ _ _ _ _ => True) (fun _ U o U' => ∃ v L, o = .returned v ∧ Q_rmAt4 Z r0 p2 p3 r4 r5 cs fm y ky cs_ ka kb x0 x1 x2 z0 z1 z2 h0 n0 v U'.heap L ∧ FrameEnd U o U' L ({ frames := 4, cells := 0, slots := 0, locals := 53 } : Room).cells ({ frames := 4, cells := 0, slots := 0, locals := 53 } : Room).slots) := by
  refine MetFree.of_bodySF (plainFor_of_name pn_1) hisR ?_
  intro p e s m args below meth c s₁ Bd hml0 hP hK
  obtain ⟨rfl, hZ, hh⟩ := hP
  have hx := Bd.exec
  have hby := Bd.bytes
  have hml : c.maxLocals = 7 := hml0
  have hown : s.vm.findClass "com/example/murray_hill/murrayhill/AsciiLineAppendPinLaw" = some m.cls := findClass_of_methodNamed Bd.named
  have hnm := (name_of_methodNamed Bd.named Bd.method).1
  have X0 : Stand p l e ({ frames := 4, cells := 0, slots := 0, locals := 53 } : Room) s m #[(.ref r0), (.int (4 : Int32)), (.int p2), (.int p3), (.ref r4), (.ref r5)] below meth c s₁ [] 0 0 := Stand.of_body Bd
  have e0 : s₁.heap = h0 := by rw [← hh, Bd.state]; rfl
  have N0 := Fr.nil n0
  have pre0 : ∀ t, Steps p.tables e below (s₁.setTop (mkF m 0 #[.val (.ref r0), .val (.int (4 : Int32)), .val (.int p2), .val (.int p3), .val (.ref r4), .val (.ref r5), .unset] [])) t → Steps p.tables e below (s₁.setTop (entryFrame m #[(.ref r0), (.int (4 : Int32)), (.int p2), (.int p3), (.ref r4), (.ref r5)] 7)) t := fun t k => castTop (ef_rmAt4 m r0 (4 : Int32) p2 p3 r4 r5) k
  have hwordsChN : ∀ d ∈ StrChars.Road.wordsChN, d.before a0 Z = true := fun d hd => hw d ((by decide +kernel : ∀ d ∈ StrChars.Road.wordsChN, d ∈ tables_1) d hd)
  have st1 : own_S p e below s₁ (mkF m 2 #[.val (.ref r0), .val (.int (4 : Int32)), .val (.int p2), .val (.int p3), .val (.ref r4), .val (.ref r5), .unset] [(.int p2), (.int (4 : Int32))]) (mkF m 0 #[.val (.ref r0), .val (.int (4 : Int32)), .val (.int p2), .val (.int p3), .val (.ref r4), .val (.ref r5), .unset] []) := by
    intro target kt
    refine XS.iloadN X0.here hx rfl (hb hby d10_0) rfl ?_
    refine XS.iloadN X0.here hx rfl (hb hby d10_1) rfl ?_
    exact kt
  rcases hD with d1 | ⟨d1, hi, d2, ⟨jk, eq_⟩ | ⟨jk, eq_⟩ | ⟨jk, eq_⟩⟩
  · have st2 : own_S p e below s₁ (mkF m 5 #[.val (.ref r0), .val (.int (4 : Int32)), .val (.int p2), .val (.int p3), .val (.ref r4), .val (.ref r5), .unset] []) (mkF m 2 #[.val (.ref r0), .val (.int (4 : Int32)), .val (.int p2), .val (.int p3), .val (.ref r4), .val (.ref r5), .unset] [(.int p2), (.int (4 : Int32))]) := by
      intro target kt
      refine XS.icmpNo X0.here hx rfl (hb hby d10_2) rfl (flt d1).1 ?_
      exact kt
    obtain ⟨fs, hr, hrun, hended, hW, hsame⟩ := X0.leave (v := some (.int (1 : Int32))) (fun h => by rw [Bd.returns] at h; cases h)
    refine ⟨_, _, pre0 _ (st1 _ (st2 _ ?_)), hrun, hended, _, _, rfl, ?_, ⟨_, rfl⟩, hW, hsame.mono (by decide) (by decide)⟩
    · refine XS.iconst X0.here hx rfl (hb hby d10_5) ?_
      show Steps p.tables e below (s₁.setTop (mkF m 6 #[.val (.ref r0), .val (.int (4 : Int32)), .val (.int p2), .val (.int p3), .val (.ref r4), .val (.ref r5), .unset] [(.int (1 : Int32))])) _
      exact retN X0 hx (t := .boolean) Bd.returns (by simp) (hb hby d10_6) hr
    · show Q_rmAt4 Z r0 p2 p3 r4 r5 cs fm y ky cs_ ka kb x0 x1 x2 z0 z1 z2 h0 n0 _ s₁.heap _
      rw [e0]
      exact ⟨rfl, N0, rfl⟩
  · have st3 : own_S p e below s₁ (mkF m 7 #[.val (.ref r0), .val (.int (4 : Int32)), .val (.int p2), .val (.int p3), .val (.ref r4), .val (.ref r5), .unset] []) (mkF m 2 #[.val (.ref r0), .val (.int (4 : Int32)), .val (.int p2), .val (.int p3), .val (.ref r4), .val (.ref r5), .unset] [(.int p2), (.int (4 : Int32))]) := by
      intro target kt
      refine XS.icmpYes X0.here hx rfl (pc0 := 2) (pc' := 7) rfl (hb hby d10_2) rfl (tlt d1).1 (by decide) (by decide) ?_
      exact kt
    have st4 : own_S p e below s₁ (mkF m 9 #[.val (.ref r0), .val (.int (4 : Int32)), .val (.int p2), .val (.int p3), .val (.ref r4), .val (.ref r5), .unset] [(.int p3), (.int (4 : Int32))]) (mkF m 7 #[.val (.ref r0), .val (.int (4 : Int32)), .val (.int p2), .val (.int p3), .val (.ref r4), .val (.ref r5), .unset] []) := by
      intro target kt
      refine XS.iloadN X0.here hx rfl (hb hby d10_7) rfl ?_
      refine XS.iloadN X0.here hx rfl (hb hby d10_8) rfl ?_
      exact kt
    have st5 : own_S p e below s₁ (mkF m 21 #[.val (.ref r0), .val (.int (4 : Int32)), .val (.int p2), .val (.int p3), .val (.ref r4), .val (.ref r5), .unset] []) (mkF m 9 #[.val (.ref r0), .val (.int (4 : Int32)), .val (.int p2), .val (.int p3), .val (.ref r4), .val (.ref r5), .unset] [(.int p3), (.int (4 : Int32))]) := by
      intro target kt
      refine XS.icmpYes X0.here hx rfl (pc0 := 9) (pc' := 21) rfl (hb hby d10_9) rfl (flt d2).2.1 (by decide) (by decide) ?_
      exact kt
    have st6 : own_S p e below s₁ (mkF m 26 #[.val (.ref r0), .val (.int (4 : Int32)), .val (.int p2), .val (.int p3), .val (.ref r4), .val (.ref r5), .unset] [(.int ((4 : Int32) - p3)), (.ref r5)]) (mkF m 21 #[.val (.ref r0), .val (.int (4 : Int32)), .val (.int p2), .val (.int p3), .val (.ref r4), .val (.ref r5), .unset] []) := by
      intro target kt
      refine XS.aload X0.here hx rfl (hb hby d10_21) rfl rfl ?_
      refine XS.iloadN X0.here hx rfl (hb hby d10_23) rfl ?_
      refine XS.iloadN X0.here hx rfl (hb hby d10_24) rfl ?_
      refine XS.isub X0.here hx rfl (hb hby d10_25) rfl ?_
      exact kt
    rw [jk] at st6
    obtain ⟨cl7, Ar7, qc7, Sz7, Mn7, Hs7, Gs7⟩ := id Vb
    have hin7 : ¬ ((0 : Int32) < 0 ∨ cl7.slots.size ≤ ((0 : Int32)).toNatClampNeg) := inb_of Sz7 ⟨by decide, by decide⟩
    have hat7 : cl7.slots[((0 : Int32)).toNatClampNeg]? = some (.int z0) := Hs7.at hin7 rfl
    have st7 : own_S p e below s₁ (mkF m 27 #[.val (.ref r0), .val (.int (4 : Int32)), .val (.int p2), .val (.int p3), .val (.ref r4), .val (.ref r5), .unset] [(.int z0)]) (mkF m 26 #[.val (.ref r0), .val (.int (4 : Int32)), .val (.int p2), .val (.int p3), .val (.ref r4), .val (.ref r5), .unset] [(.int (0 : Int32)), (.ref r5)]) := fun target kt => X0.caload hx (j := (0 : Int32)) (v := (.int z0)) (by rw [e0]; exact Ar7.1) (State.isArrayOf_alike hZ.alike Ar7.2.1) Ar7.2.2 hin7 hat7 (g := (mkF m 26 #[.val (.ref r0), .val (.int (4 : Int32)), .val (.int p2), .val (.int p3), .val (.ref r4), .val (.ref r5), .unset] [(.int (0 : Int32)), (.ref r5)])) rfl rfl (hb hby d10_26) _ kt
    have st8 : own_S p e below s₁ (mkF m 31 #[.val (.ref r0), .val (.int (4 : Int32)), .val (.int p2), .val (.int p3), .val (.ref r4), .val (.ref r5), .val (.int z0)] [(.int (4 : Int32)), (.ref r0)]) (mkF m 27 #[.val (.ref r0), .val (.int (4 : Int32)), .val (.int p2), .val (.int p3), .val (.ref r4), .val (.ref r5), .unset] [(.int z0)]) := by
      intro target kt
      refine XS.istore X0.here hx rfl (hb hby d10_27) rfl (l' := #[.val (.ref r0), .val (.int (4 : Int32)), .val (.int p2), .val (.int p3), .val (.ref r4), .val (.ref r5), .val (.int z0)]) rfl ?_
      refine XS.aloadN X0.here hx rfl (hb hby d10_29) rfl rfl ?_
      refine XS.iloadN X0.here hx rfl (hb hby d10_30) rfl ?_
      exact kt
    obtain ⟨cq9, kq9, qv9a, qv9b, qv9c⟩ := isOf hZ e0 Et
    obtain ⟨_, _, ⟨T9, L9, k9, n9⟩, -, X9, ⟨Lc9, hQ9, l9, y9, z9⟩, st9⟩ := X0.virtualBack hx (y := (⟨"java/lang/String", "charAt", "(I)C"⟩ : MethodName)) (z := (⟨"java/lang/String", "charAt", "(I)C"⟩ : MethodName)) hown (mvT hZ (own_w hw 96 rfl)) (mvT hZ (own_w hw 75 rfl)) (notFace_of_selects (args := #[]) (mvT hZ (own_w hw 77 rfl))) (mvT hZ (own_w hw 77 rfl)) (mvT hZ (own_w hw 76 rfl)) (by decide) (StrChars.Road.chN (W := 0) hZ hwordsChN (kI := 4) (own_w hw 6 rfl) (cs := cs_) (i := 4) Et Fv Fc Vy (StrChars.Road.codOf rfl (own_hp1 hc7)) (own_hp2 hc7) (SB.1.ext Od.2) SB.2.1 (SB.2.2.1.ext Od.2) SB.2.2.2 hl4 hi rfl (by decide) (by decide)) qv9a qv9c (g := (mkF m 31 #[.val (.ref r0), .val (.int (4 : Int32)), .val (.int p2), .val (.int p3), .val (.ref r4), .val (.ref r5), .val (.int z0)] [(.int (4 : Int32)), (.ref r0)])) rfl (by rw [hml]; rfl) (Steps.refl _) (argsL := [(.int (4 : Int32))]) (rest := []) (lenOf pd_13 rfl) rfl (by show 2 * 0 + _ ≤ _; exact Nat.le_of_eq rfl) (hb hby d10_31) (fun _ _ => ⟨rfl, e0, (by decide : 0 + 0 ≤ _), (by decide : 0 + 0 ≤ _)⟩)
    dsimp only [Pt.U, Pt.locs, Pt.cells, Pt.slots] at X9 l9 y9 z9 st9 hQ9
    subst l9 y9 z9
    obtain ⟨rfl, Lq9, e9⟩ := hQ9
    subst Lq9
    have Nq9 := Fr.nil n0
    have N9 := Fr.app N0 Nq9
    rw [eq_] at st9
    obtain ⟨fs, hr, hrun, hended, hW, hsame⟩ := X9.leave (v := some (.int (1 : Int32))) (fun h => by rw [Bd.returns] at h; cases h)
    refine ⟨_, _, pre0 _ (st1 _ (st3 _ (st4 _ (st5 _ (st6 _ (st7 _ (st8 _ (st9.trans ?_)))))))), hrun, hended, _, _, rfl, ?_, ⟨_, rfl⟩, hW, hsame.mono (by decide) (by decide)⟩
    · refine XS.iload X9.here hx rfl (hb hby d10_34) rfl ?_
      refine XS.icmpNo X9.here hx rfl (hb hby d10_36) rfl (teq (rfl : z0 = z0)).2 ?_
      refine XS.iconst X9.here hx rfl (hb hby d10_39) ?_
      refine XS.goto X9.here hx rfl (pc0 := 40) (pc' := 44) rfl (hb hby d10_40) (by decide) (by decide) ?_
      show Steps p.tables e below (T9.setTop (mkF m 44 #[.val (.ref r0), .val (.int (4 : Int32)), .val (.int p2), .val (.int p3), .val (.ref r4), .val (.ref r5), .val (.int z0)] [(.int (1 : Int32))])) _
      exact retN X9 hx (t := .boolean) Bd.returns (by simp) (hb hby d10_44) hr
    · show Q_rmAt4 Z r0 p2 p3 r4 r5 cs fm y ky cs_ ka kb x0 x1 x2 z0 z1 z2 h0 n0 _ T9.heap _
      rw [e9]
      exact ⟨rfl, N9, rfl⟩
  · have st10 : own_S p e below s₁ (mkF m 7 #[.val (.ref r0), .val (.int (4 : Int32)), .val (.int p2), .val (.int p3), .val (.ref r4), .val (.ref r5), .unset] []) (mkF m 2 #[.val (.ref r0), .val (.int (4 : Int32)), .val (.int p2), .val (.int p3), .val (.ref r4), .val (.ref r5), .unset] [(.int p2), (.int (4 : Int32))]) := by
      intro target kt
      refine XS.icmpYes X0.here hx rfl (pc0 := 2) (pc' := 7) rfl (hb hby d10_2) rfl (tlt d1).1 (by decide) (by decide) ?_
      exact kt
    have st11 : own_S p e below s₁ (mkF m 9 #[.val (.ref r0), .val (.int (4 : Int32)), .val (.int p2), .val (.int p3), .val (.ref r4), .val (.ref r5), .unset] [(.int p3), (.int (4 : Int32))]) (mkF m 7 #[.val (.ref r0), .val (.int (4 : Int32)), .val (.int p2), .val (.int p3), .val (.ref r4), .val (.ref r5), .unset] []) := by
      intro target kt
      refine XS.iloadN X0.here hx rfl (hb hby d10_7) rfl ?_
      refine XS.iloadN X0.here hx rfl (hb hby d10_8) rfl ?_
      exact kt
    have st12 : own_S p e below s₁ (mkF m 21 #[.val (.ref r0), .val (.int (4 : Int32)), .val (.int p2), .val (.int p3), .val (.ref r4), .val (.ref r5), .unset] []) (mkF m 9 #[.val (.ref r0), .val (.int (4 : Int32)), .val (.int p2), .val (.int p3), .val (.ref r4), .val (.ref r5), .unset] [(.int p3), (.int (4 : Int32))]) := by
      intro target kt
      refine XS.icmpYes X0.here hx rfl (pc0 := 9) (pc' := 21) rfl (hb hby d10_9) rfl (flt d2).2.1 (by decide) (by decide) ?_
      exact kt
    have st13 : own_S p e below s₁ (mkF m 26 #[.val (.ref r0), .val (.int (4 : Int32)), .val (.int p2), .val (.int p3), .val (.ref r4), .val (.ref r5), .unset] [(.int ((4 : Int32) - p3)), (.ref r5)]) (mkF m 21 #[.val (.ref r0), .val (.int (4 : Int32)), .val (.int p2), .val (.int p3), .val (.ref r4), .val (.ref r5), .unset] []) := by
      intro target kt
      refine XS.aload X0.here hx rfl (hb hby d10_21) rfl rfl ?_
      refine XS.iloadN X0.here hx rfl (hb hby d10_23) rfl ?_
      refine XS.iloadN X0.here hx rfl (hb hby d10_24) rfl ?_
      refine XS.isub X0.here hx rfl (hb hby d10_25) rfl ?_
      exact kt
    rw [jk] at st13
    obtain ⟨cl14, Ar14, qc14, Sz14, Mn14, Hs14, Gs14⟩ := id Vb
    have hin14 : ¬ ((1 : Int32) < 0 ∨ cl14.slots.size ≤ ((1 : Int32)).toNatClampNeg) := inb_of Sz14 ⟨by decide, by decide⟩
    have hat14 : cl14.slots[((1 : Int32)).toNatClampNeg]? = some (.int z1) := Hs14.at hin14 rfl
    have st14 : own_S p e below s₁ (mkF m 27 #[.val (.ref r0), .val (.int (4 : Int32)), .val (.int p2), .val (.int p3), .val (.ref r4), .val (.ref r5), .unset] [(.int z1)]) (mkF m 26 #[.val (.ref r0), .val (.int (4 : Int32)), .val (.int p2), .val (.int p3), .val (.ref r4), .val (.ref r5), .unset] [(.int (1 : Int32)), (.ref r5)]) := fun target kt => X0.caload hx (j := (1 : Int32)) (v := (.int z1)) (by rw [e0]; exact Ar14.1) (State.isArrayOf_alike hZ.alike Ar14.2.1) Ar14.2.2 hin14 hat14 (g := (mkF m 26 #[.val (.ref r0), .val (.int (4 : Int32)), .val (.int p2), .val (.int p3), .val (.ref r4), .val (.ref r5), .unset] [(.int (1 : Int32)), (.ref r5)])) rfl rfl (hb hby d10_26) _ kt
    have st15 : own_S p e below s₁ (mkF m 31 #[.val (.ref r0), .val (.int (4 : Int32)), .val (.int p2), .val (.int p3), .val (.ref r4), .val (.ref r5), .val (.int z1)] [(.int (4 : Int32)), (.ref r0)]) (mkF m 27 #[.val (.ref r0), .val (.int (4 : Int32)), .val (.int p2), .val (.int p3), .val (.ref r4), .val (.ref r5), .unset] [(.int z1)]) := by
      intro target kt
      refine XS.istore X0.here hx rfl (hb hby d10_27) rfl (l' := #[.val (.ref r0), .val (.int (4 : Int32)), .val (.int p2), .val (.int p3), .val (.ref r4), .val (.ref r5), .val (.int z1)]) rfl ?_
      refine XS.aloadN X0.here hx rfl (hb hby d10_29) rfl rfl ?_
      refine XS.iloadN X0.here hx rfl (hb hby d10_30) rfl ?_
      exact kt
    obtain ⟨cq16, kq16, qv16a, qv16b, qv16c⟩ := isOf hZ e0 Et
    obtain ⟨_, _, ⟨T16, L16, k16, n16⟩, -, X16, ⟨Lc16, hQ16, l16, y16, z16⟩, st16⟩ := X0.virtualBack hx (y := (⟨"java/lang/String", "charAt", "(I)C"⟩ : MethodName)) (z := (⟨"java/lang/String", "charAt", "(I)C"⟩ : MethodName)) hown (mvT hZ (own_w hw 96 rfl)) (mvT hZ (own_w hw 75 rfl)) (notFace_of_selects (args := #[]) (mvT hZ (own_w hw 77 rfl))) (mvT hZ (own_w hw 77 rfl)) (mvT hZ (own_w hw 76 rfl)) (by decide) (StrChars.Road.chN (W := 0) hZ hwordsChN (kI := 4) (own_w hw 6 rfl) (cs := cs_) (i := 4) Et Fv Fc Vy (StrChars.Road.codOf rfl (own_hp1 hc7)) (own_hp2 hc7) (SB.1.ext Od.2) SB.2.1 (SB.2.2.1.ext Od.2) SB.2.2.2 hl4 hi rfl (by decide) (by decide)) qv16a qv16c (g := (mkF m 31 #[.val (.ref r0), .val (.int (4 : Int32)), .val (.int p2), .val (.int p3), .val (.ref r4), .val (.ref r5), .val (.int z1)] [(.int (4 : Int32)), (.ref r0)])) rfl (by rw [hml]; rfl) (Steps.refl _) (argsL := [(.int (4 : Int32))]) (rest := []) (lenOf pd_13 rfl) rfl (by show 2 * 0 + _ ≤ _; exact Nat.le_of_eq rfl) (hb hby d10_31) (fun _ _ => ⟨rfl, e0, (by decide : 0 + 0 ≤ _), (by decide : 0 + 0 ≤ _)⟩)
    dsimp only [Pt.U, Pt.locs, Pt.cells, Pt.slots] at X16 l16 y16 z16 st16 hQ16
    subst l16 y16 z16
    obtain ⟨rfl, Lq16, e16⟩ := hQ16
    subst Lq16
    have Nq16 := Fr.nil n0
    have N16 := Fr.app N0 Nq16
    rw [eq_] at st16
    obtain ⟨fs, hr, hrun, hended, hW, hsame⟩ := X16.leave (v := some (.int (1 : Int32))) (fun h => by rw [Bd.returns] at h; cases h)
    refine ⟨_, _, pre0 _ (st1 _ (st10 _ (st11 _ (st12 _ (st13 _ (st14 _ (st15 _ (st16.trans ?_)))))))), hrun, hended, _, _, rfl, ?_, ⟨_, rfl⟩, hW, hsame.mono (by decide) (by decide)⟩
    · refine XS.iload X16.here hx rfl (hb hby d10_34) rfl ?_
      refine XS.icmpNo X16.here hx rfl (hb hby d10_36) rfl (teq (rfl : z1 = z1)).2 ?_
      refine XS.iconst X16.here hx rfl (hb hby d10_39) ?_
      refine XS.goto X16.here hx rfl (pc0 := 40) (pc' := 44) rfl (hb hby d10_40) (by decide) (by decide) ?_
      show Steps p.tables e below (T16.setTop (mkF m 44 #[.val (.ref r0), .val (.int (4 : Int32)), .val (.int p2), .val (.int p3), .val (.ref r4), .val (.ref r5), .val (.int z1)] [(.int (1 : Int32))])) _
      exact retN X16 hx (t := .boolean) Bd.returns (by simp) (hb hby d10_44) hr
    · show Q_rmAt4 Z r0 p2 p3 r4 r5 cs fm y ky cs_ ka kb x0 x1 x2 z0 z1 z2 h0 n0 _ T16.heap _
      rw [e16]
      exact ⟨rfl, N16, rfl⟩
  · have st17 : own_S p e below s₁ (mkF m 7 #[.val (.ref r0), .val (.int (4 : Int32)), .val (.int p2), .val (.int p3), .val (.ref r4), .val (.ref r5), .unset] []) (mkF m 2 #[.val (.ref r0), .val (.int (4 : Int32)), .val (.int p2), .val (.int p3), .val (.ref r4), .val (.ref r5), .unset] [(.int p2), (.int (4 : Int32))]) := by
      intro target kt
      refine XS.icmpYes X0.here hx rfl (pc0 := 2) (pc' := 7) rfl (hb hby d10_2) rfl (tlt d1).1 (by decide) (by decide) ?_
      exact kt
    have st18 : own_S p e below s₁ (mkF m 9 #[.val (.ref r0), .val (.int (4 : Int32)), .val (.int p2), .val (.int p3), .val (.ref r4), .val (.ref r5), .unset] [(.int p3), (.int (4 : Int32))]) (mkF m 7 #[.val (.ref r0), .val (.int (4 : Int32)), .val (.int p2), .val (.int p3), .val (.ref r4), .val (.ref r5), .unset] []) := by
      intro target kt
      refine XS.iloadN X0.here hx rfl (hb hby d10_7) rfl ?_
      refine XS.iloadN X0.here hx rfl (hb hby d10_8) rfl ?_
      exact kt
    have st19 : own_S p e below s₁ (mkF m 21 #[.val (.ref r0), .val (.int (4 : Int32)), .val (.int p2), .val (.int p3), .val (.ref r4), .val (.ref r5), .unset] []) (mkF m 9 #[.val (.ref r0), .val (.int (4 : Int32)), .val (.int p2), .val (.int p3), .val (.ref r4), .val (.ref r5), .unset] [(.int p3), (.int (4 : Int32))]) := by
      intro target kt
      refine XS.icmpYes X0.here hx rfl (pc0 := 9) (pc' := 21) rfl (hb hby d10_9) rfl (flt d2).2.1 (by decide) (by decide) ?_
      exact kt
    have st20 : own_S p e below s₁ (mkF m 26 #[.val (.ref r0), .val (.int (4 : Int32)), .val (.int p2), .val (.int p3), .val (.ref r4), .val (.ref r5), .unset] [(.int ((4 : Int32) - p3)), (.ref r5)]) (mkF m 21 #[.val (.ref r0), .val (.int (4 : Int32)), .val (.int p2), .val (.int p3), .val (.ref r4), .val (.ref r5), .unset] []) := by
      intro target kt
      refine XS.aload X0.here hx rfl (hb hby d10_21) rfl rfl ?_
      refine XS.iloadN X0.here hx rfl (hb hby d10_23) rfl ?_
      refine XS.iloadN X0.here hx rfl (hb hby d10_24) rfl ?_
      refine XS.isub X0.here hx rfl (hb hby d10_25) rfl ?_
      exact kt
    rw [jk] at st20
    obtain ⟨cl21, Ar21, qc21, Sz21, Mn21, Hs21, Gs21⟩ := id Vb
    have hin21 : ¬ ((2 : Int32) < 0 ∨ cl21.slots.size ≤ ((2 : Int32)).toNatClampNeg) := inb_of Sz21 ⟨by decide, by decide⟩
    have hat21 : cl21.slots[((2 : Int32)).toNatClampNeg]? = some (.int z2) := Hs21.at hin21 rfl
    have st21 : own_S p e below s₁ (mkF m 27 #[.val (.ref r0), .val (.int (4 : Int32)), .val (.int p2), .val (.int p3), .val (.ref r4), .val (.ref r5), .unset] [(.int z2)]) (mkF m 26 #[.val (.ref r0), .val (.int (4 : Int32)), .val (.int p2), .val (.int p3), .val (.ref r4), .val (.ref r5), .unset] [(.int (2 : Int32)), (.ref r5)]) := fun target kt => X0.caload hx (j := (2 : Int32)) (v := (.int z2)) (by rw [e0]; exact Ar21.1) (State.isArrayOf_alike hZ.alike Ar21.2.1) Ar21.2.2 hin21 hat21 (g := (mkF m 26 #[.val (.ref r0), .val (.int (4 : Int32)), .val (.int p2), .val (.int p3), .val (.ref r4), .val (.ref r5), .unset] [(.int (2 : Int32)), (.ref r5)])) rfl rfl (hb hby d10_26) _ kt
    have st22 : own_S p e below s₁ (mkF m 31 #[.val (.ref r0), .val (.int (4 : Int32)), .val (.int p2), .val (.int p3), .val (.ref r4), .val (.ref r5), .val (.int z2)] [(.int (4 : Int32)), (.ref r0)]) (mkF m 27 #[.val (.ref r0), .val (.int (4 : Int32)), .val (.int p2), .val (.int p3), .val (.ref r4), .val (.ref r5), .unset] [(.int z2)]) := by
      intro target kt
      refine XS.istore X0.here hx rfl (hb hby d10_27) rfl (l' := #[.val (.ref r0), .val (.int (4 : Int32)), .val (.int p2), .val (.int p3), .val (.ref r4), .val (.ref r5), .val (.int z2)]) rfl ?_
      refine XS.aloadN X0.here hx rfl (hb hby d10_29) rfl rfl ?_
      refine XS.iloadN X0.here hx rfl (hb hby d10_30) rfl ?_
      exact kt
    obtain ⟨cq23, kq23, qv23a, qv23b, qv23c⟩ := isOf hZ e0 Et
    obtain ⟨_, _, ⟨T23, L23, k23, n23⟩, -, X23, ⟨Lc23, hQ23, l23, y23, z23⟩, st23⟩ := X0.virtualBack hx (y := (⟨"java/lang/String", "charAt", "(I)C"⟩ : MethodName)) (z := (⟨"java/lang/String", "charAt", "(I)C"⟩ : MethodName)) hown (mvT hZ (own_w hw 96 rfl)) (mvT hZ (own_w hw 75 rfl)) (notFace_of_selects (args := #[]) (mvT hZ (own_w hw 77 rfl))) (mvT hZ (own_w hw 77 rfl)) (mvT hZ (own_w hw 76 rfl)) (by decide) (StrChars.Road.chN (W := 0) hZ hwordsChN (kI := 4) (own_w hw 6 rfl) (cs := cs_) (i := 4) Et Fv Fc Vy (StrChars.Road.codOf rfl (own_hp1 hc7)) (own_hp2 hc7) (SB.1.ext Od.2) SB.2.1 (SB.2.2.1.ext Od.2) SB.2.2.2 hl4 hi rfl (by decide) (by decide)) qv23a qv23c (g := (mkF m 31 #[.val (.ref r0), .val (.int (4 : Int32)), .val (.int p2), .val (.int p3), .val (.ref r4), .val (.ref r5), .val (.int z2)] [(.int (4 : Int32)), (.ref r0)])) rfl (by rw [hml]; rfl) (Steps.refl _) (argsL := [(.int (4 : Int32))]) (rest := []) (lenOf pd_13 rfl) rfl (by show 2 * 0 + _ ≤ _; exact Nat.le_of_eq rfl) (hb hby d10_31) (fun _ _ => ⟨rfl, e0, (by decide : 0 + 0 ≤ _), (by decide : 0 + 0 ≤ _)⟩)
    dsimp only [Pt.U, Pt.locs, Pt.cells, Pt.slots] at X23 l23 y23 z23 st23 hQ23
    subst l23 y23 z23
    obtain ⟨rfl, Lq23, e23⟩ := hQ23
    subst Lq23
    have Nq23 := Fr.nil n0
    have N23 := Fr.app N0 Nq23
    rw [eq_] at st23
    obtain ⟨fs, hr, hrun, hended, hW, hsame⟩ := X23.leave (v := some (.int (1 : Int32))) (fun h => by rw [Bd.returns] at h; cases h)
    refine ⟨_, _, pre0 _ (st1 _ (st17 _ (st18 _ (st19 _ (st20 _ (st21 _ (st22 _ (st23.trans ?_)))))))), hrun, hended, _, _, rfl, ?_, ⟨_, rfl⟩, hW, hsame.mono (by decide) (by decide)⟩
    · refine XS.iload X23.here hx rfl (hb hby d10_34) rfl ?_
      refine XS.icmpNo X23.here hx rfl (hb hby d10_36) rfl (teq (rfl : z2 = z2)).2 ?_
      refine XS.iconst X23.here hx rfl (hb hby d10_39) ?_
      refine XS.goto X23.here hx rfl (pc0 := 40) (pc' := 44) rfl (hb hby d10_40) (by decide) (by decide) ?_
      show Steps p.tables e below (T23.setTop (mkF m 44 #[.val (.ref r0), .val (.int (4 : Int32)), .val (.int p2), .val (.int p3), .val (.ref r4), .val (.ref r5), .val (.int z2)] [(.int (1 : Int32))])) _
      exact retN X23 hx (t := .boolean) Bd.returns (by simp) (hb hby d10_44) hr
    · show Q_rmAt4 Z r0 p2 p3 r4 r5 cs fm y ky cs_ ka kb x0 x1 x2 z0 z1 z2 h0 n0 _ T23.heap _
      rw [e23]
      exact ⟨rfl, N23, rfl⟩
def own_D5 (n la : Int32) (cs : List Int32) (x0 x1 x2 z0 z1 z2 : Int32) : Prop := (¬ (5 : Int32) < n) ∨ ((5 : Int32) < n ∧ 5 < (cs).length ∧ ((¬ (5 : Int32) < la ∧ (((5 : Int32) - la = (0 : Int32) ∧ (cs).getD 5 0 = z0) ∨ ((5 : Int32) - la = (1 : Int32) ∧ (cs).getD 5 0 = z1) ∨ ((5 : Int32) - la = (2 : Int32) ∧ (cs).getD 5 0 = z2)))))
theorem own_Dl5 {la lb x0 x1 x2 z0 z1 z2 : Int32} {cs1 cs2 : List Int32} (h1 : own_mk la cs1 x0 x1 x2) (h2 : own_mk lb cs2 z0 z1 z2) : own_D5 (la + lb) la (cs1 ++ cs2) x0 x1 x2 z0 z1 z2 := by
  rcases h1 with ⟨a, b⟩ | ⟨a, b⟩ | ⟨a, b⟩ | ⟨a, b⟩ <;> rcases h2 with ⟨a', b'⟩ | ⟨a', b'⟩ | ⟨a', b'⟩ | ⟨a', b'⟩ <;> subst a <;> subst b <;> subst a' <;> subst b' <;> first
    | exact Or.inl (by decide)
    | exact Or.inr ⟨by decide, by simp, ⟨by decide, Or.inl ⟨by decide, rfl⟩⟩⟩
    | exact Or.inr ⟨by decide, by simp, ⟨by decide, Or.inr (Or.inl ⟨by decide, rfl⟩)⟩⟩
    | exact Or.inr ⟨by decide, by simp, ⟨by decide, Or.inr (Or.inr (⟨by decide, rfl⟩))⟩⟩
theorem ef_rmAt5 (m : MethodId) (x0 : Addr) (x1 : Int32) (x2 : Int32) (x3 : Int32) (x4 : Addr) (x5 : Addr) : entryFrame m #[(.ref x0), (.int x1), (.int x2), (.int x3), (.ref x4), (.ref x5)] 7 = mkF m 0 #[.val (.ref x0), .val (.int x1), .val (.int x2), .val (.int x3), .val (.ref x4), .val (.ref x5), .unset] [] := by first | (simp [entryFrame, mkF, argsToLocals, Value.category]; done) | rfl
def Q_rmAt5 (Z : State) (r0 : Addr) (p2 : Int32) (p3 : Int32) (r4 : Addr) (r5 : Addr) (cs : Int32) (fm : Value) (y : Addr) (ky : ClassId) (cs_ : List Int32) (ka : ClassId) (kb : ClassId) (x0 : Int32) (x1 : Int32) (x2 : Int32) (z0 : Int32) (z1 : Int32) (z2 : Int32) (h0 : Heap) (n0 : Nat) (v : Option Value) (h : Heap) (L : List Loc) : Prop := v = some (.int (1 : Int32)) ∧ Fr n0 L ∧ h = h0
set_option maxRecDepth 65536 in
set_option maxHeartbeats 40000000 in
theorem rmAt5 (l : Launch) (Z : State) (a0 : Array Value) (hw : ∀ d ∈ tables_1, d.before a0 Z = true) (ws : List Jvm.Cond) (r0 : Addr) (p2 : Int32) (p3 : Int32) (r4 : Addr) (r5 : Addr) (cs : Int32) (fm : Value) (y : Addr) (ky : ClassId) (cs_ : List Int32) (ka : ClassId) (kb : ClassId) (x0 : Int32) (x1 : Int32) (x2 : Int32) (z0 : Int32) (z1 : Int32) (z2 : Int32) (h0 : Heap) (n0 : Nat) (Z0 : n0 ≤ h0.size) (SB : own_St Z cs fm) (Od : Old Z n0 h0) (Fv : Fld Z h0 r0 "java/lang/String" "value" "[B" (.ref y)) (Fc : Fld Z h0 r0 "java/lang/String" "coder" "B" (.int (0 : Int32))) (Et : Exa Z h0 r0 "java/lang/String") (Vy : Arv Z h0 y ky .byte (Int32.ofNat cs_.length) (own_bs cs_) (.int (0 : Int32))) (hc7 : ∀ c ∈ cs_, own_c7 c) (hl4 : cs_.length ≤ 4000) (Va : Arv Z h0 r4 ka .char (3 : Int32) [(.int x0), (.int x1), (.int x2)] (.int (0 : Int32))) (Vb : Arv Z h0 r5 kb .char (3 : Int32) [(.int z0), (.int z1), (.int z2)] (.int (0 : Int32))) (hD : own_D5 p2 p3 cs_ x0 x1 x2 z0 z1 z2) :
    MetFree l (⟨"com/example/murray_hill/murrayhill/AsciiLineAppendPinLaw", "at", "(Ljava/lang/String;III[C[C)Z"⟩ : MethodName) (head1 (Jvm.Cond.code (⟨"com/example/murray_hill/murrayhill/AsciiLineAppendPinLaw", "at", "(Ljava/lang/String;III[C[C)Z"⟩ : MethodName) method_4_code 7 (some .boolean) :: ws) ({ frames := 4, cells := 0, slots := 0, locals := 53 } : Room)) (fun a U => a = #[(.ref r0), (.int (5 : Int32)), (.int p2), (.int p3), (.ref r4), (.ref r5)] ∧ Z.Warmed39 U.vm ∧ U.heap = h0) (fun _ _ _ _ _ => True) (fun _ U o U' => ∃ v L, o = .returned v ∧ Q_rmAt5 Z r0 p2 p3 r4 r5 cs fm y ky cs_ ka kb x0 x1 x2 z0 z1 z2 h0 n0 v U'.heap L ∧ FrameEnd U o U' L ({ frames := 4, cells := 0, slots := 0, locals := 53 } : Room).cells ({ frames := 4, cells := 0, slots := 0, locals := 53 } : Room).slots) := by
  refine MetFree.of_bodySF (plainFor_of_name pn_1) hisR ?_
  intro p e s m args below meth c s₁ Bd hml0 hP hK
  obtain ⟨rfl, hZ, hh⟩ := hP
  have hx := Bd.exec
  have hby := Bd.bytes
  have hml : c.maxLocals = 7 := hml0
  have hown : s.vm.findClass "com/example/murray_hill/murrayhill/AsciiLineAppendPinLaw" = some m.cls := findClass_of_methodNamed Bd.named
  have hnm := (name_of_methodNamed Bd.named Bd.method).1
  have X0 : Stand p l e ({ frames := 4, cells := 0, slots := 0, locals := 53 } : Room) s m #[(.ref r0), (.int (5 : Int32)), (.int p2), (.int p3), (.ref r4), (.ref r5)] below meth c s₁ [] 0 0 := Stand.of_body Bd
  have e0 : s₁.heap = h0 := by rw [← hh, Bd.state]; rfl
  have N0 := Fr.nil n0
  have pre0 : ∀ t, Steps p.tables e below (s₁.setTop (mkF m 0 #[.val (.ref r0), .val (.int (5 : Int32)), .val (.int p2), .val (.int p3), .val (.ref r4), .val (.ref r5), .unset] [])) t → Steps p.tables e below (s₁.setTop (entryFrame m #[(.ref r0), (.int (5 : Int32)), (.int p2), (.int p3), (.ref r4), (.ref r5)] 7)) t := fun t k => castTop (ef_rmAt5 m r0 (5 : Int32) p2 p3 r4 r5) k
  have hwordsChN : ∀ d ∈ StrChars.Road.wordsChN, d.before a0 Z = true := fun d hd => hw d ((by decide +kernel : ∀ d ∈ StrChars.Road.wordsChN, d ∈ tables_1) d hd)
  have st1 : own_S p e below s₁ (mkF m 2 #[.val (.ref r0), .val (.int (5 : Int32)), .val (.int p2), .val (.int p3), .val (.ref r4), .val (.ref r5), .unset] [(.int p2), (.int (5 : Int32))]) (mkF m 0 #[.val (.ref r0), .val (.int (5 : Int32)), .val (.int p2), .val (.int p3), .val (.ref r4), .val (.ref r5), .unset] []) := by
    intro target kt
    refine XS.iloadN X0.here hx rfl (hb hby d10_0) rfl ?_
    refine XS.iloadN X0.here hx rfl (hb hby d10_1) rfl ?_
    exact kt
  rcases hD with d1 | ⟨d1, hi, d2, ⟨jk, eq_⟩ | ⟨jk, eq_⟩ | ⟨jk, eq_⟩⟩
  · have st2 : own_S p e below s₁ (mkF m 5 #[.val (.ref r0), .val (.int (5 : Int32)), .val (.int p2), .val (.int p3), .val (.ref r4), .val (.ref r5), .unset] []) (mkF m 2 #[.val (.ref r0), .val (.int (5 : Int32)), .val (.int p2), .val (.int p3), .val (.ref r4), .val (.ref r5), .unset] [(.int p2), (.int (5 : Int32))]) := by
      intro target kt
      refine XS.icmpNo X0.here hx rfl (hb hby d10_2) rfl (flt d1).1 ?_
      exact kt
    obtain ⟨fs, hr, hrun, hended, hW, hsame⟩ := X0.leave (v := some (.int (1 : Int32))) (fun h => by rw [Bd.returns] at h; cases h)
    refine ⟨_, _, pre0 _ (st1 _ (st2 _ ?_)), hrun, hended, _, _, rfl, ?_, ⟨_, rfl⟩, hW, hsame.mono (by decide) (by decide)⟩
    · refine XS.iconst X0.here hx rfl (hb hby d10_5) ?_
      show Steps p.tables e below (s₁.setTop (mkF m 6 #[.val (.ref r0), .val (.int (5 : Int32)), .val (.int p2), .val (.int p3), .val (.ref r4), .val (.ref r5), .unset] [(.int (1 : Int32))])) _
      exact retN X0 hx (t := .boolean) Bd.returns (by simp) (hb hby d10_6) hr
    · show Q_rmAt5 Z r0 p2 p3 r4 r5 cs fm y ky cs_ ka kb x0 x1 x2 z0 z1 z2 h0 n0 _ s₁.heap _
      rw [e0]
      exact ⟨rfl, N0, rfl⟩
  · have st3 : own_S p e below s₁ (mkF m 7 #[.val (.ref r0), .val (.int (5 : Int32)), .val (.int p2), .val (.int p3), .val (.ref r4), .val (.ref r5), .unset] []) (mkF m 2 #[.val (.ref r0), .val (.int (5 : Int32)), .val (.int p2), .val (.int p3), .val (.ref r4), .val (.ref r5), .unset] [(.int p2), (.int (5 : Int32))]) := by
      intro target kt
      refine XS.icmpYes X0.here hx rfl (pc0 := 2) (pc' := 7) rfl (hb hby d10_2) rfl (tlt d1).1 (by decide) (by decide) ?_
      exact kt
    have st4 : own_S p e below s₁ (mkF m 9 #[.val (.ref r0), .val (.int (5 : Int32)), .val (.int p2), .val (.int p3), .val (.ref r4), .val (.ref r5), .unset] [(.int p3), (.int (5 : Int32))]) (mkF m 7 #[.val (.ref r0), .val (.int (5 : Int32)), .val (.int p2), .val (.int p3), .val (.ref r4), .val (.ref r5), .unset] []) := by
      intro target kt
      refine XS.iloadN X0.here hx rfl (hb hby d10_7) rfl ?_
      refine XS.iloadN X0.here hx rfl (hb hby d10_8) rfl ?_
      exact kt
    have st5 : own_S p e below s₁ (mkF m 21 #[.val (.ref r0), .val (.int (5 : Int32)), .val (.int p2), .val (.int p3), .val (.ref r4), .val (.ref r5), .unset] []) (mkF m 9 #[.val (.ref r0), .val (.int (5 : Int32)), .val (.int p2), .val (.int p3), .val (.ref r4), .val (.ref r5), .unset] [(.int p3), (.int (5 : Int32))]) := by
      intro target kt
      refine XS.icmpYes X0.here hx rfl (pc0 := 9) (pc' := 21) rfl (hb hby d10_9) rfl (flt d2).2.1 (by decide) (by decide) ?_
      exact kt
    have st6 : own_S p e below s₁ (mkF m 26 #[.val (.ref r0), .val (.int (5 : Int32)), .val (.int p2), .val (.int p3), .val (.ref r4), .val (.ref r5), .unset] [(.int ((5 : Int32) - p3)), (.ref r5)]) (mkF m 21 #[.val (.ref r0), .val (.int (5 : Int32)), .val (.int p2), .val (.int p3), .val (.ref r4), .val (.ref r5), .unset] []) := by
      intro target kt
      refine XS.aload X0.here hx rfl (hb hby d10_21) rfl rfl ?_
      refine XS.iloadN X0.here hx rfl (hb hby d10_23) rfl ?_
      refine XS.iloadN X0.here hx rfl (hb hby d10_24) rfl ?_
      refine XS.isub X0.here hx rfl (hb hby d10_25) rfl ?_
      exact kt
    rw [jk] at st6
    obtain ⟨cl7, Ar7, qc7, Sz7, Mn7, Hs7, Gs7⟩ := id Vb
    have hin7 : ¬ ((0 : Int32) < 0 ∨ cl7.slots.size ≤ ((0 : Int32)).toNatClampNeg) := inb_of Sz7 ⟨by decide, by decide⟩
    have hat7 : cl7.slots[((0 : Int32)).toNatClampNeg]? = some (.int z0) := Hs7.at hin7 rfl
    have st7 : own_S p e below s₁ (mkF m 27 #[.val (.ref r0), .val (.int (5 : Int32)), .val (.int p2), .val (.int p3), .val (.ref r4), .val (.ref r5), .unset] [(.int z0)]) (mkF m 26 #[.val (.ref r0), .val (.int (5 : Int32)), .val (.int p2), .val (.int p3), .val (.ref r4), .val (.ref r5), .unset] [(.int (0 : Int32)), (.ref r5)]) := fun target kt => X0.caload hx (j := (0 : Int32)) (v := (.int z0)) (by rw [e0]; exact Ar7.1) (State.isArrayOf_alike hZ.alike Ar7.2.1) Ar7.2.2 hin7 hat7 (g := (mkF m 26 #[.val (.ref r0), .val (.int (5 : Int32)), .val (.int p2), .val (.int p3), .val (.ref r4), .val (.ref r5), .unset] [(.int (0 : Int32)), (.ref r5)])) rfl rfl (hb hby d10_26) _ kt
    have st8 : own_S p e below s₁ (mkF m 31 #[.val (.ref r0), .val (.int (5 : Int32)), .val (.int p2), .val (.int p3), .val (.ref r4), .val (.ref r5), .val (.int z0)] [(.int (5 : Int32)), (.ref r0)]) (mkF m 27 #[.val (.ref r0), .val (.int (5 : Int32)), .val (.int p2), .val (.int p3), .val (.ref r4), .val (.ref r5), .unset] [(.int z0)]) := by
      intro target kt
      refine XS.istore X0.here hx rfl (hb hby d10_27) rfl (l' := #[.val (.ref r0), .val (.int (5 : Int32)), .val (.int p2), .val (.int p3), .val (.ref r4), .val (.ref r5), .val (.int z0)]) rfl ?_
      refine XS.aloadN X0.here hx rfl (hb hby d10_29) rfl rfl ?_
      refine XS.iloadN X0.here hx rfl (hb hby d10_30) rfl ?_
      exact kt
    obtain ⟨cq9, kq9, qv9a, qv9b, qv9c⟩ := isOf hZ e0 Et
    obtain ⟨_, _, ⟨T9, L9, k9, n9⟩, -, X9, ⟨Lc9, hQ9, l9, y9, z9⟩, st9⟩ := X0.virtualBack hx (y := (⟨"java/lang/String", "charAt", "(I)C"⟩ : MethodName)) (z := (⟨"java/lang/String", "charAt", "(I)C"⟩ : MethodName)) hown (mvT hZ (own_w hw 96 rfl)) (mvT hZ (own_w hw 75 rfl)) (notFace_of_selects (args := #[]) (mvT hZ (own_w hw 77 rfl))) (mvT hZ (own_w hw 77 rfl)) (mvT hZ (own_w hw 76 rfl)) (by decide) (StrChars.Road.chN (W := 0) hZ hwordsChN (kI := 4) (own_w hw 6 rfl) (cs := cs_) (i := 5) Et Fv Fc Vy (StrChars.Road.codOf rfl (own_hp1 hc7)) (own_hp2 hc7) (SB.1.ext Od.2) SB.2.1 (SB.2.2.1.ext Od.2) SB.2.2.2 hl4 hi rfl (by decide) (by decide)) qv9a qv9c (g := (mkF m 31 #[.val (.ref r0), .val (.int (5 : Int32)), .val (.int p2), .val (.int p3), .val (.ref r4), .val (.ref r5), .val (.int z0)] [(.int (5 : Int32)), (.ref r0)])) rfl (by rw [hml]; rfl) (Steps.refl _) (argsL := [(.int (5 : Int32))]) (rest := []) (lenOf pd_13 rfl) rfl (by show 2 * 0 + _ ≤ _; exact Nat.le_of_eq rfl) (hb hby d10_31) (fun _ _ => ⟨rfl, e0, (by decide : 0 + 0 ≤ _), (by decide : 0 + 0 ≤ _)⟩)
    dsimp only [Pt.U, Pt.locs, Pt.cells, Pt.slots] at X9 l9 y9 z9 st9 hQ9
    subst l9 y9 z9
    obtain ⟨rfl, Lq9, e9⟩ := hQ9
    subst Lq9
    have Nq9 := Fr.nil n0
    have N9 := Fr.app N0 Nq9
    rw [eq_] at st9
    obtain ⟨fs, hr, hrun, hended, hW, hsame⟩ := X9.leave (v := some (.int (1 : Int32))) (fun h => by rw [Bd.returns] at h; cases h)
    refine ⟨_, _, pre0 _ (st1 _ (st3 _ (st4 _ (st5 _ (st6 _ (st7 _ (st8 _ (st9.trans ?_)))))))), hrun, hended, _, _, rfl, ?_, ⟨_, rfl⟩, hW, hsame.mono (by decide) (by decide)⟩
    · refine XS.iload X9.here hx rfl (hb hby d10_34) rfl ?_
      refine XS.icmpNo X9.here hx rfl (hb hby d10_36) rfl (teq (rfl : z0 = z0)).2 ?_
      refine XS.iconst X9.here hx rfl (hb hby d10_39) ?_
      refine XS.goto X9.here hx rfl (pc0 := 40) (pc' := 44) rfl (hb hby d10_40) (by decide) (by decide) ?_
      show Steps p.tables e below (T9.setTop (mkF m 44 #[.val (.ref r0), .val (.int (5 : Int32)), .val (.int p2), .val (.int p3), .val (.ref r4), .val (.ref r5), .val (.int z0)] [(.int (1 : Int32))])) _
      exact retN X9 hx (t := .boolean) Bd.returns (by simp) (hb hby d10_44) hr
    · show Q_rmAt5 Z r0 p2 p3 r4 r5 cs fm y ky cs_ ka kb x0 x1 x2 z0 z1 z2 h0 n0 _ T9.heap _
      rw [e9]
      exact ⟨rfl, N9, rfl⟩
  · have st10 : own_S p e below s₁ (mkF m 7 #[.val (.ref r0), .val (.int (5 : Int32)), .val (.int p2), .val (.int p3), .val (.ref r4), .val (.ref r5), .unset] []) (mkF m 2 #[.val (.ref r0), .val (.int (5 : Int32)), .val (.int p2), .val (.int p3), .val (.ref r4), .val (.ref r5), .unset] [(.int p2), (.int (5 : Int32))]) := by
      intro target kt
      refine XS.icmpYes X0.here hx rfl (pc0 := 2) (pc' := 7) rfl (hb hby d10_2) rfl (tlt d1).1 (by decide) (by decide) ?_
      exact kt
    have st11 : own_S p e below s₁ (mkF m 9 #[.val (.ref r0), .val (.int (5 : Int32)), .val (.int p2), .val (.int p3), .val (.ref r4), .val (.ref r5), .unset] [(.int p3), (.int (5 : Int32))]) (mkF m 7 #[.val (.ref r0), .val (.int (5 : Int32)), .val (.int p2), .val (.int p3), .val (.ref r4), .val (.ref r5), .unset] []) := by
      intro target kt
      refine XS.iloadN X0.here hx rfl (hb hby d10_7) rfl ?_
      refine XS.iloadN X0.here hx rfl (hb hby d10_8) rfl ?_
      exact kt
    have st12 : own_S p e below s₁ (mkF m 21 #[.val (.ref r0), .val (.int (5 : Int32)), .val (.int p2), .val (.int p3), .val (.ref r4), .val (.ref r5), .unset] []) (mkF m 9 #[.val (.ref r0), .val (.int (5 : Int32)), .val (.int p2), .val (.int p3), .val (.ref r4), .val (.ref r5), .unset] [(.int p3), (.int (5 : Int32))]) := by
      intro target kt
      refine XS.icmpYes X0.here hx rfl (pc0 := 9) (pc' := 21) rfl (hb hby d10_9) rfl (flt d2).2.1 (by decide) (by decide) ?_
      exact kt
    have st13 : own_S p e below s₁ (mkF m 26 #[.val (.ref r0), .val (.int (5 : Int32)), .val (.int p2), .val (.int p3), .val (.ref r4), .val (.ref r5), .unset] [(.int ((5 : Int32) - p3)), (.ref r5)]) (mkF m 21 #[.val (.ref r0), .val (.int (5 : Int32)), .val (.int p2), .val (.int p3), .val (.ref r4), .val (.ref r5), .unset] []) := by
      intro target kt
      refine XS.aload X0.here hx rfl (hb hby d10_21) rfl rfl ?_
      refine XS.iloadN X0.here hx rfl (hb hby d10_23) rfl ?_
      refine XS.iloadN X0.here hx rfl (hb hby d10_24) rfl ?_
      refine XS.isub X0.here hx rfl (hb hby d10_25) rfl ?_
      exact kt
    rw [jk] at st13
    obtain ⟨cl14, Ar14, qc14, Sz14, Mn14, Hs14, Gs14⟩ := id Vb
    have hin14 : ¬ ((1 : Int32) < 0 ∨ cl14.slots.size ≤ ((1 : Int32)).toNatClampNeg) := inb_of Sz14 ⟨by decide, by decide⟩
    have hat14 : cl14.slots[((1 : Int32)).toNatClampNeg]? = some (.int z1) := Hs14.at hin14 rfl
    have st14 : own_S p e below s₁ (mkF m 27 #[.val (.ref r0), .val (.int (5 : Int32)), .val (.int p2), .val (.int p3), .val (.ref r4), .val (.ref r5), .unset] [(.int z1)]) (mkF m 26 #[.val (.ref r0), .val (.int (5 : Int32)), .val (.int p2), .val (.int p3), .val (.ref r4), .val (.ref r5), .unset] [(.int (1 : Int32)), (.ref r5)]) := fun target kt => X0.caload hx (j := (1 : Int32)) (v := (.int z1)) (by rw [e0]; exact Ar14.1) (State.isArrayOf_alike hZ.alike Ar14.2.1) Ar14.2.2 hin14 hat14 (g := (mkF m 26 #[.val (.ref r0), .val (.int (5 : Int32)), .val (.int p2), .val (.int p3), .val (.ref r4), .val (.ref r5), .unset] [(.int (1 : Int32)), (.ref r5)])) rfl rfl (hb hby d10_26) _ kt
    have st15 : own_S p e below s₁ (mkF m 31 #[.val (.ref r0), .val (.int (5 : Int32)), .val (.int p2), .val (.int p3), .val (.ref r4), .val (.ref r5), .val (.int z1)] [(.int (5 : Int32)), (.ref r0)]) (mkF m 27 #[.val (.ref r0), .val (.int (5 : Int32)), .val (.int p2), .val (.int p3), .val (.ref r4), .val (.ref r5), .unset] [(.int z1)]) := by
      intro target kt
      refine XS.istore X0.here hx rfl (hb hby d10_27) rfl (l' := #[.val (.ref r0), .val (.int (5 : Int32)), .val (.int p2), .val (.int p3), .val (.ref r4), .val (.ref r5), .val (.int z1)]) rfl ?_
      refine XS.aloadN X0.here hx rfl (hb hby d10_29) rfl rfl ?_
      refine XS.iloadN X0.here hx rfl (hb hby d10_30) rfl ?_
      exact kt
    obtain ⟨cq16, kq16, qv16a, qv16b, qv16c⟩ := isOf hZ e0 Et
    obtain ⟨_, _, ⟨T16, L16, k16, n16⟩, -, X16, ⟨Lc16, hQ16, l16, y16, z16⟩, st16⟩ := X0.virtualBack hx (y := (⟨"java/lang/String", "charAt", "(I)C"⟩ : MethodName)) (z := (⟨"java/lang/String", "charAt", "(I)C"⟩ : MethodName)) hown (mvT hZ (own_w hw 96 rfl)) (mvT hZ (own_w hw 75 rfl)) (notFace_of_selects (args := #[]) (mvT hZ (own_w hw 77 rfl))) (mvT hZ (own_w hw 77 rfl)) (mvT hZ (own_w hw 76 rfl)) (by decide) (StrChars.Road.chN (W := 0) hZ hwordsChN (kI := 4) (own_w hw 6 rfl) (cs := cs_) (i := 5) Et Fv Fc Vy (StrChars.Road.codOf rfl (own_hp1 hc7)) (own_hp2 hc7) (SB.1.ext Od.2) SB.2.1 (SB.2.2.1.ext Od.2) SB.2.2.2 hl4 hi rfl (by decide) (by decide)) qv16a qv16c (g := (mkF m 31 #[.val (.ref r0), .val (.int (5 : Int32)), .val (.int p2), .val (.int p3), .val (.ref r4), .val (.ref r5), .val (.int z1)] [(.int (5 : Int32)), (.ref r0)])) rfl (by rw [hml]; rfl) (Steps.refl _) (argsL := [(.int (5 : Int32))]) (rest := []) (lenOf pd_13 rfl) rfl (by show 2 * 0 + _ ≤ _; exact Nat.le_of_eq rfl) (hb hby d10_31) (fun _ _ => ⟨rfl, e0, (by decide : 0 + 0 ≤ _), (by decide : 0 + 0 ≤ _)⟩)
    dsimp only [Pt.U, Pt.locs, Pt.cells, Pt.slots] at X16 l16 y16 z16 st16 hQ16
    subst l16 y16 z16
    obtain ⟨rfl, Lq16, e16⟩ := hQ16
    subst Lq16
    have Nq16 := Fr.nil n0
    have N16 := Fr.app N0 Nq16
    rw [eq_] at st16
    obtain ⟨fs, hr, hrun, hended, hW, hsame⟩ := X16.leave (v := some (.int (1 : Int32))) (fun h => by rw [Bd.returns] at h; cases h)
    refine ⟨_, _, pre0 _ (st1 _ (st10 _ (st11 _ (st12 _ (st13 _ (st14 _ (st15 _ (st16.trans ?_)))))))), hrun, hended, _, _, rfl, ?_, ⟨_, rfl⟩, hW, hsame.mono (by decide) (by decide)⟩
    · refine XS.iload X16.here hx rfl (hb hby d10_34) rfl ?_
      refine XS.icmpNo X16.here hx rfl (hb hby d10_36) rfl (teq (rfl : z1 = z1)).2 ?_
      refine XS.iconst X16.here hx rfl (hb hby d10_39) ?_
      refine XS.goto X16.here hx rfl (pc0 := 40) (pc' := 44) rfl (hb hby d10_40) (by decide) (by decide) ?_
      show Steps p.tables e below (T16.setTop (mkF m 44 #[.val (.ref r0), .val (.int (5 : Int32)), .val (.int p2), .val (.int p3), .val (.ref r4), .val (.ref r5), .val (.int z1)] [(.int (1 : Int32))])) _
      exact retN X16 hx (t := .boolean) Bd.returns (by simp) (hb hby d10_44) hr
    · show Q_rmAt5 Z r0 p2 p3 r4 r5 cs fm y ky cs_ ka kb x0 x1 x2 z0 z1 z2 h0 n0 _ T16.heap _
      rw [e16]
      exact ⟨rfl, N16, rfl⟩
  · have st17 : own_S p e below s₁ (mkF m 7 #[.val (.ref r0), .val (.int (5 : Int32)), .val (.int p2), .val (.int p3), .val (.ref r4), .val (.ref r5), .unset] []) (mkF m 2 #[.val (.ref r0), .val (.int (5 : Int32)), .val (.int p2), .val (.int p3), .val (.ref r4), .val (.ref r5), .unset] [(.int p2), (.int (5 : Int32))]) := by
      intro target kt
      refine XS.icmpYes X0.here hx rfl (pc0 := 2) (pc' := 7) rfl (hb hby d10_2) rfl (tlt d1).1 (by decide) (by decide) ?_
      exact kt
    have st18 : own_S p e below s₁ (mkF m 9 #[.val (.ref r0), .val (.int (5 : Int32)), .val (.int p2), .val (.int p3), .val (.ref r4), .val (.ref r5), .unset] [(.int p3), (.int (5 : Int32))]) (mkF m 7 #[.val (.ref r0), .val (.int (5 : Int32)), .val (.int p2), .val (.int p3), .val (.ref r4), .val (.ref r5), .unset] []) := by
      intro target kt
      refine XS.iloadN X0.here hx rfl (hb hby d10_7) rfl ?_
      refine XS.iloadN X0.here hx rfl (hb hby d10_8) rfl ?_
      exact kt
    have st19 : own_S p e below s₁ (mkF m 21 #[.val (.ref r0), .val (.int (5 : Int32)), .val (.int p2), .val (.int p3), .val (.ref r4), .val (.ref r5), .unset] []) (mkF m 9 #[.val (.ref r0), .val (.int (5 : Int32)), .val (.int p2), .val (.int p3), .val (.ref r4), .val (.ref r5), .unset] [(.int p3), (.int (5 : Int32))]) := by
      intro target kt
      refine XS.icmpYes X0.here hx rfl (pc0 := 9) (pc' := 21) rfl (hb hby d10_9) rfl (flt d2).2.1 (by decide) (by decide) ?_
      exact kt
    have st20 : own_S p e below s₁ (mkF m 26 #[.val (.ref r0), .val (.int (5 : Int32)), .val (.int p2), .val (.int p3), .val (.ref r4), .val (.ref r5), .unset] [(.int ((5 : Int32) - p3)), (.ref r5)]) (mkF m 21 #[.val (.ref r0), .val (.int (5 : Int32)), .val (.int p2), .val (.int p3), .val (.ref r4), .val (.ref r5), .unset] []) := by
      intro target kt
      refine XS.aload X0.here hx rfl (hb hby d10_21) rfl rfl ?_
      refine XS.iloadN X0.here hx rfl (hb hby d10_23) rfl ?_
      refine XS.iloadN X0.here hx rfl (hb hby d10_24) rfl ?_
      refine XS.isub X0.here hx rfl (hb hby d10_25) rfl ?_
      exact kt
    rw [jk] at st20
    obtain ⟨cl21, Ar21, qc21, Sz21, Mn21, Hs21, Gs21⟩ := id Vb
    have hin21 : ¬ ((2 : Int32) < 0 ∨ cl21.slots.size ≤ ((2 : Int32)).toNatClampNeg) := inb_of Sz21 ⟨by decide, by decide⟩
    have hat21 : cl21.slots[((2 : Int32)).toNatClampNeg]? = some (.int z2) := Hs21.at hin21 rfl
    have st21 : own_S p e below s₁ (mkF m 27 #[.val (.ref r0), .val (.int (5 : Int32)), .val (.int p2), .val (.int p3), .val (.ref r4), .val (.ref r5), .unset] [(.int z2)]) (mkF m 26 #[.val (.ref r0), .val (.int (5 : Int32)), .val (.int p2), .val (.int p3), .val (.ref r4), .val (.ref r5), .unset] [(.int (2 : Int32)), (.ref r5)]) := fun target kt => X0.caload hx (j := (2 : Int32)) (v := (.int z2)) (by rw [e0]; exact Ar21.1) (State.isArrayOf_alike hZ.alike Ar21.2.1) Ar21.2.2 hin21 hat21 (g := (mkF m 26 #[.val (.ref r0), .val (.int (5 : Int32)), .val (.int p2), .val (.int p3), .val (.ref r4), .val (.ref r5), .unset] [(.int (2 : Int32)), (.ref r5)])) rfl rfl (hb hby d10_26) _ kt
    have st22 : own_S p e below s₁ (mkF m 31 #[.val (.ref r0), .val (.int (5 : Int32)), .val (.int p2), .val (.int p3), .val (.ref r4), .val (.ref r5), .val (.int z2)] [(.int (5 : Int32)), (.ref r0)]) (mkF m 27 #[.val (.ref r0), .val (.int (5 : Int32)), .val (.int p2), .val (.int p3), .val (.ref r4), .val (.ref r5), .unset] [(.int z2)]) := by
      intro target kt
      refine XS.istore X0.here hx rfl (hb hby d10_27) rfl (l' := #[.val (.ref r0), .val (.int (5 : Int32)), .val (.int p2), .val (.int p3), .val (.ref r4), .val (.ref r5), .val (.int z2)]) rfl ?_
      refine XS.aloadN X0.here hx rfl (hb hby d10_29) rfl rfl ?_
      refine XS.iloadN X0.here hx rfl (hb hby d10_30) rfl ?_
      exact kt
    obtain ⟨cq23, kq23, qv23a, qv23b, qv23c⟩ := isOf hZ e0 Et
    obtain ⟨_, _, ⟨T23, L23, k23, n23⟩, -, X23, ⟨Lc23, hQ23, l23, y23, z23⟩, st23⟩ := X0.virtualBack hx (y := (⟨"java/lang/String", "charAt", "(I)C"⟩ : MethodName)) (z := (⟨"java/lang/String", "charAt", "(I)C"⟩ : MethodName)) hown (mvT hZ (own_w hw 96 rfl)) (mvT hZ (own_w hw 75 rfl)) (notFace_of_selects (args := #[]) (mvT hZ (own_w hw 77 rfl))) (mvT hZ (own_w hw 77 rfl)) (mvT hZ (own_w hw 76 rfl)) (by decide) (StrChars.Road.chN (W := 0) hZ hwordsChN (kI := 4) (own_w hw 6 rfl) (cs := cs_) (i := 5) Et Fv Fc Vy (StrChars.Road.codOf rfl (own_hp1 hc7)) (own_hp2 hc7) (SB.1.ext Od.2) SB.2.1 (SB.2.2.1.ext Od.2) SB.2.2.2 hl4 hi rfl (by decide) (by decide)) qv23a qv23c (g := (mkF m 31 #[.val (.ref r0), .val (.int (5 : Int32)), .val (.int p2), .val (.int p3), .val (.ref r4), .val (.ref r5), .val (.int z2)] [(.int (5 : Int32)), (.ref r0)])) rfl (by rw [hml]; rfl) (Steps.refl _) (argsL := [(.int (5 : Int32))]) (rest := []) (lenOf pd_13 rfl) rfl (by show 2 * 0 + _ ≤ _; exact Nat.le_of_eq rfl) (hb hby d10_31) (fun _ _ => ⟨rfl, e0, (by decide : 0 + 0 ≤ _), (by decide : 0 + 0 ≤ _)⟩)
    dsimp only [Pt.U, Pt.locs, Pt.cells, Pt.slots] at X23 l23 y23 z23 st23 hQ23
    subst l23 y23 z23
    obtain ⟨rfl, Lq23, e23⟩ := hQ23
    subst Lq23
    have Nq23 := Fr.nil n0
    have N23 := Fr.app N0 Nq23
    rw [eq_] at st23
    obtain ⟨fs, hr, hrun, hended, hW, hsame⟩ := X23.leave (v := some (.int (1 : Int32))) (fun h => by rw [Bd.returns] at h; cases h)
    refine ⟨_, _, pre0 _ (st1 _ (st17 _ (st18 _ (st19 _ (st20 _ (st21 _ (st22 _ (st23.trans ?_)))))))), hrun, hended, _, _, rfl, ?_, ⟨_, rfl⟩, hW, hsame.mono (by decide) (by decide)⟩
    · refine XS.iload X23.here hx rfl (hb hby d10_34) rfl ?_
      refine XS.icmpNo X23.here hx rfl (hb hby d10_36) rfl (teq (rfl : z2 = z2)).2 ?_
      refine XS.iconst X23.here hx rfl (hb hby d10_39) ?_
      refine XS.goto X23.here hx rfl (pc0 := 40) (pc' := 44) rfl (hb hby d10_40) (by decide) (by decide) ?_
      show Steps p.tables e below (T23.setTop (mkF m 44 #[.val (.ref r0), .val (.int (5 : Int32)), .val (.int p2), .val (.int p3), .val (.ref r4), .val (.ref r5), .val (.int z2)] [(.int (1 : Int32))])) _
      exact retN X23 hx (t := .boolean) Bd.returns (by simp) (hb hby d10_44) hr
    · show Q_rmAt5 Z r0 p2 p3 r4 r5 cs fm y ky cs_ ka kb x0 x1 x2 z0 z1 z2 h0 n0 _ T23.heap _
      rw [e23]
      exact ⟨rfl, N23, rfl⟩
theorem ef_rm0 (m : MethodId) (x0 : Int32) (x1 : Int32) (x2 : Int32) : entryFrame m #[(.int x0), (.int x1), (.int x2)] maxLocals = mkF m 0 #[.val (.int x0), .val (.int x1), .val (.int x2), .unset, .unset, .unset, .unset, .unset, .unset, .unset, .unset, .unset] [] := by first | (simp [entryFrame, mkF, argsToLocals, Value.category, maxLocals]; done) | rfl
def Q_rm0 (Z : State) (p0 : Int32) (p1 : Int32) (p2 : Int32) (cs : Int32) (fm : Value) (h0 : Heap) (n0 : Nat) (v : Option Value) (h : Heap) (L : List Loc) : Prop := v = some (.int 1) ∧ Fr n0 L
set_option maxRecDepth 65536 in
set_option maxHeartbeats 40000000 in
theorem rm0 (l : Launch) (Z : State) (a0 : Array Value) (hw : ∀ d ∈ tables_1, d.before a0 Z = true) (ws : List Jvm.Cond) (p0 : Int32) (p1 : Int32) (p2 : Int32) (cs : Int32) (fm : Value) (h0 : Heap) (n0 : Nat) (Z0 : n0 ≤ h0.size) (SB : own_St Z cs fm) (Od : Old Z n0 h0) :
    MetFree l x (head1 (Jvm.Cond.code x code maxLocals ret :: ws) room_1) (fun a U => a = #[(.int p0), (.int p1), (.int p2)] ∧ Z.Warmed39 U.vm ∧ U.heap = h0 ∧ CHv Z own_EL U.vm h0) (fun _ _ _ _ _ => True) (fun _ U o U' => ∃ v L, o = .returned v ∧ Q_rm0 Z p0 p1 p2 cs fm h0 n0 v U'.heap L ∧ CHr Z own_EL U.vm U.heap U'.vm U'.heap ∧ ReturnedEndW U o U' L room_1.cells room_1.slots) := by
  refine MetFree.of_bodySF (plainFor_of_name pn_1) hisR ?_
  intro p e s m args below meth c s₁ Bd hml0 hP hK
  obtain ⟨rfl, hZ, hh, hCH⟩ := hP
  have hx := Bd.exec
  have hby := Bd.bytes
  have hml : c.maxLocals = 12 := hml0
  have hown : s.vm.findClass "com/example/murray_hill/murrayhill/AsciiLineAppendPinLaw" = some m.cls := findClass_of_methodNamed Bd.named
  have hnm := (name_of_methodNamed Bd.named Bd.method).1
  have X0 : Stand p l e room_1 s m #[(.int p0), (.int p1), (.int p2)] below meth c s₁ [] 0 0 := Stand.of_body Bd
  have e0 : s₁.heap = h0 := by rw [← hh, Bd.state]; rfl
  have N0 := Fr.nil n0
  have pre0 : ∀ t, Steps p.tables e below (s₁.setTop (mkF m 0 #[.val (.int p0), .val (.int p1), .val (.int p2), .unset, .unset, .unset, .unset, .unset, .unset, .unset, .unset, .unset] [])) t → Steps p.tables e below (s₁.setTop (entryFrame m #[(.int p0), (.int p1), (.int p2)] maxLocals)) t := fun t k => castTop (ef_rm0 m p0 p1 p2) k
  have CA := CHr.refl hCH
  have hEL := own_hEL hw
  have wS : ∀ a ∈ Bundle.stringAtoms, a.before a0 Z = true := fun d hd => hw d ((by decide +kernel : ∀ d ∈ Bundle.stringAtoms, d ∈ tables_1) d hd)
  have st1 : own_S p e below s₁ (mkF m 4 #[.val (.int p0), .val (.int p1), .val (.int p2), .val (.int (p0 &&& (3 : Int32))), .unset, .unset, .unset, .unset, .unset, .unset, .unset, .unset] []) (mkF m 0 #[.val (.int p0), .val (.int p1), .val (.int p2), .unset, .unset, .unset, .unset, .unset, .unset, .unset, .unset, .unset] []) := by
    intro target kt
    refine XS.iloadN X0.here hx rfl (hb hby at_0) rfl ?_
    refine XS.iconst X0.here hx rfl (hb hby at_1) ?_
    refine XS.iand X0.here hx rfl (hb hby at_2) rfl ?_
    refine XS.istoreN X0.here hx rfl (hb hby at_3) rfl (l' := #[.val (.int p0), .val (.int p1), .val (.int p2), .val (.int (p0 &&& (3 : Int32))), .unset, .unset, .unset, .unset, .unset, .unset, .unset, .unset]) rfl ?_
    exact kt
  obtain ⟨la, hla⟩ : ∃ z : Int32, z = (p0 &&& (3 : Int32)) := ⟨_, rfl⟩
  rw [← hla] at st1
  have st2 : own_S p e below s₁ (mkF m 11 #[.val (.int p0), .val (.int p1), .val (.int p2), .val (.int la), .val (.int (((p0.toUInt32 >>> ((2 : Int32) &&& 31).toUInt32).toInt32) &&& (3 : Int32))), .unset, .unset, .unset, .unset, .unset, .unset, .unset] []) (mkF m 4 #[.val (.int p0), .val (.int p1), .val (.int p2), .val (.int la), .unset, .unset, .unset, .unset, .unset, .unset, .unset, .unset] []) := by
    intro target kt
    refine XS.iloadN X0.here hx rfl (hb hby at_4) rfl ?_
    refine XS.iconst X0.here hx rfl (hb hby at_5) ?_
    refine XS.iushr X0.here hx rfl (hb hby at_6) rfl ?_
    refine XS.iconst X0.here hx rfl (hb hby at_7) ?_
    refine XS.iand X0.here hx rfl (hb hby at_8) rfl ?_
    refine XS.istore X0.here hx rfl (hb hby at_9) rfl (l' := #[.val (.int p0), .val (.int p1), .val (.int p2), .val (.int la), .val (.int (((p0.toUInt32 >>> ((2 : Int32) &&& 31).toUInt32).toInt32) &&& (3 : Int32))), .unset, .unset, .unset, .unset, .unset, .unset, .unset]) rfl ?_
    exact kt
  obtain ⟨lb, hlb⟩ : ∃ z : Int32, z = (((p0.toUInt32 >>> ((2 : Int32) &&& 31).toUInt32).toInt32) &&& (3 : Int32)) := ⟨_, rfl⟩
  rw [← hlb] at st2
  have st3 : own_S p e below s₁ (mkF m 12 #[.val (.int p0), .val (.int p1), .val (.int p2), .val (.int la), .val (.int lb), .unset, .unset, .unset, .unset, .unset, .unset, .unset] [(.int (3 : Int32))]) (mkF m 11 #[.val (.int p0), .val (.int p1), .val (.int p2), .val (.int la), .val (.int lb), .unset, .unset, .unset, .unset, .unset, .unset, .unset] []) := by
    intro target kt
    refine XS.iconst X0.here hx rfl (hb hby at_11) ?_
    exact kt
  obtain ⟨T4, h4, k4, X4, e4, E4, A4, st4⟩ := newP X0 hx hZ (own_w hw 0 rfl) e0 (g := (mkF m 12 #[.val (.int p0), .val (.int p1), .val (.int p2), .val (.int la), .val (.int lb), .unset, .unset, .unset, .unset, .unset, .unset, .unset] [(.int (3 : Int32))])) rfl (hb hby at_12) rfl (by decide) (cap := 3) (by decide) (by decide) (by decide) (by decide)
  obtain ⟨aa, g4⟩ : ∃ z, z = h0.size := ⟨_, rfl⟩
  rw [← g4] at A4 st4
  have g_aa : n0 ≤ aa := Nat.le_trans Z0 (Nat.le_of_eq g4.symm)
  have Sf_aa : Safe Z own_EL s.vm h0 aa := Safe.new (Nat.le_of_eq g4.symm)
  have Od_4 := Od.ext E4
  have Sf_aa_4 := Safe.ext E4 CA.1 Sf_aa
  have CA_4 := CA.trans (CHr.ext E4 CA.1)
  have Z_4 : n0 ≤ h4.size := Nat.le_trans Z0 E4.1
  have V_aa : Arv Z h4 aa k4 .char (3 : Int32) [(.int (0 : Int32)), (.int (0 : Int32)), (.int (0 : Int32))] (.int (0 : Int32)) := (Arv.new A4 (by decide)).pad (pad_rep [] (.int (0 : Int32)) 3)
  have st5 : own_S p e below T4 (mkF m 24 #[.val (.int p0), .val (.int p1), .val (.int p2), .val (.int la), .val (.int lb), .val (.ref aa), .unset, .unset, .unset, .unset, .unset, .unset] [(.int ((p1 &&& (127 : Int32)).toUInt32.toUInt16.toUInt32.toInt32)), (.int (0 : Int32)), (.ref aa)]) (mkF m 14 #[.val (.int p0), .val (.int p1), .val (.int p2), .val (.int la), .val (.int lb), .unset, .unset, .unset, .unset, .unset, .unset, .unset] [(.ref aa)]) := by
    intro target kt
    refine XS.astore X4.here hx rfl (hb hby at_14) rfl rfl (l' := #[.val (.int p0), .val (.int p1), .val (.int p2), .val (.int la), .val (.int lb), .val (.ref aa), .unset, .unset, .unset, .unset, .unset, .unset]) rfl ?_
    refine XS.aload X4.here hx rfl (hb hby at_16) rfl rfl ?_
    refine XS.iconst X4.here hx rfl (hb hby at_18) ?_
    refine XS.iloadN X4.here hx rfl (hb hby at_19) rfl ?_
    refine XS.bipush X4.here hx rfl (hb hby at_20) ?_
    refine XS.iand X4.here hx rfl (hb hby at_22) rfl ?_
    refine XS.i2c X4.here hx rfl (hb hby at_23) rfl ?_
    exact kt
  obtain ⟨xa0, hxa0⟩ : ∃ z : Int32, z = ((p1 &&& (127 : Int32)).toUInt32.toUInt16.toUInt32.toInt32) := ⟨_, rfl⟩
  rw [← hxa0] at st5
  have cxa0 : own_c7 xa0 := by rw [hxa0]; exact own_m7 _
  obtain ⟨cl6, Ar6, qc6, Sz6, Mn6, Hs6, Gs6⟩ := id V_aa
  have hin6 : ¬ ((0 : Int32) < 0 ∨ cl6.slots.size ≤ ((0 : Int32)).toNatClampNeg) := inb_of Sz6 ⟨by decide, by decide⟩
  obtain ⟨T6, h6, X6, e6, W6, st6⟩ := stC X4 hx hZ e4 Ar6 (j := (0 : Int32)) hin6 (g := (mkF m 24 #[.val (.int p0), .val (.int p1), .val (.int p2), .val (.int la), .val (.int lb), .val (.ref aa), .unset, .unset, .unset, .unset, .unset, .unset] [(.int xa0), (.int (0 : Int32)), (.ref aa)])) rfl rfl (hb hby at_24)
  have V_aa_6 : Arv Z h6 aa k4 .char (3 : Int32) [(.int (nar .char xa0)), (.int (0 : Int32)), (.int (0 : Int32))] (.int (0 : Int32)) := Arv.set Ar6 qc6 Sz6 Mn6 Hs6 Gs6 (fits_nar_char _) W6 0 rfl (Nat.le_of_ble_eq_true rfl)
  have Od_6 := Od_4.wr W6 g_aa
  have Sf_aa_6 := Safe.wr W6 Sf_aa_4 CA_4.1 Sf_aa_4
  have CA_6 := CA_4.trans (CHr.wr W6 Sf_aa_4 CA_4.1)
  have Z_6 : n0 ≤ h6.size := Nat.le_trans Z_4 (Keep.of_wr W6).1
  have N6 := Fr.snoc X6 N0 g_aa
  rw [own_ncI (own_c7c cxa0)] at V_aa_6
  have st7 : own_S p e below T6 (mkF m 36 #[.val (.int p0), .val (.int p1), .val (.int p2), .val (.int la), .val (.int lb), .val (.ref aa), .unset, .unset, .unset, .unset, .unset, .unset] [(.int ((((p1.toUInt32 >>> ((8 : Int32) &&& 31).toUInt32).toInt32) &&& (127 : Int32)).toUInt32.toUInt16.toUInt32.toInt32)), (.int (1 : Int32)), (.ref aa)]) (mkF m 25 #[.val (.int p0), .val (.int p1), .val (.int p2), .val (.int la), .val (.int lb), .val (.ref aa), .unset, .unset, .unset, .unset, .unset, .unset] []) := by
    intro target kt
    refine XS.aload X6.here hx rfl (hb hby at_25) rfl rfl ?_
    refine XS.iconst X6.here hx rfl (hb hby at_27) ?_
    refine XS.iloadN X6.here hx rfl (hb hby at_28) rfl ?_
    refine XS.bipush X6.here hx rfl (hb hby at_29) ?_
    refine XS.iushr X6.here hx rfl (hb hby at_31) rfl ?_
    refine XS.bipush X6.here hx rfl (hb hby at_32) ?_
    refine XS.iand X6.here hx rfl (hb hby at_34) rfl ?_
    refine XS.i2c X6.here hx rfl (hb hby at_35) rfl ?_
    exact kt
  obtain ⟨xa1, hxa1⟩ : ∃ z : Int32, z = ((((p1.toUInt32 >>> ((8 : Int32) &&& 31).toUInt32).toInt32) &&& (127 : Int32)).toUInt32.toUInt16.toUInt32.toInt32) := ⟨_, rfl⟩
  rw [← hxa1] at st7
  have cxa1 : own_c7 xa1 := by rw [hxa1]; exact own_m7 _
  obtain ⟨cl8, Ar8, qc8, Sz8, Mn8, Hs8, Gs8⟩ := id V_aa_6
  have hin8 : ¬ ((1 : Int32) < 0 ∨ cl8.slots.size ≤ ((1 : Int32)).toNatClampNeg) := inb_of Sz8 ⟨by decide, by decide⟩
  obtain ⟨T8, h8, X8, e8, W8, st8⟩ := stC X6 hx hZ e6 Ar8 (j := (1 : Int32)) hin8 (g := (mkF m 36 #[.val (.int p0), .val (.int p1), .val (.int p2), .val (.int la), .val (.int lb), .val (.ref aa), .unset, .unset, .unset, .unset, .unset, .unset] [(.int xa1), (.int (1 : Int32)), (.ref aa)])) rfl rfl (hb hby at_36)
  have V_aa_8 : Arv Z h8 aa k4 .char (3 : Int32) [(.int xa0), (.int (nar .char xa1)), (.int (0 : Int32))] (.int (0 : Int32)) := Arv.set Ar8 qc8 Sz8 Mn8 Hs8 Gs8 (fits_nar_char _) W8 1 rfl (Nat.le_of_ble_eq_true rfl)
  have Od_8 := Od_6.wr W8 g_aa
  have Sf_aa_8 := Safe.wr W8 Sf_aa_6 CA_6.1 Sf_aa_6
  have CA_8 := CA_6.trans (CHr.wr W8 Sf_aa_6 CA_6.1)
  have Z_8 : n0 ≤ h8.size := Nat.le_trans Z_6 (Keep.of_wr W8).1
  have N8 := Fr.snoc X8 N6 g_aa
  rw [own_ncI (own_c7c cxa1)] at V_aa_8
  have st9 : own_S p e below T8 (mkF m 48 #[.val (.int p0), .val (.int p1), .val (.int p2), .val (.int la), .val (.int lb), .val (.ref aa), .unset, .unset, .unset, .unset, .unset, .unset] [(.int ((((p1.toUInt32 >>> ((16 : Int32) &&& 31).toUInt32).toInt32) &&& (127 : Int32)).toUInt32.toUInt16.toUInt32.toInt32)), (.int (2 : Int32)), (.ref aa)]) (mkF m 37 #[.val (.int p0), .val (.int p1), .val (.int p2), .val (.int la), .val (.int lb), .val (.ref aa), .unset, .unset, .unset, .unset, .unset, .unset] []) := by
    intro target kt
    refine XS.aload X8.here hx rfl (hb hby at_37) rfl rfl ?_
    refine XS.iconst X8.here hx rfl (hb hby at_39) ?_
    refine XS.iloadN X8.here hx rfl (hb hby at_40) rfl ?_
    refine XS.bipush X8.here hx rfl (hb hby at_41) ?_
    refine XS.iushr X8.here hx rfl (hb hby at_43) rfl ?_
    refine XS.bipush X8.here hx rfl (hb hby at_44) ?_
    refine XS.iand X8.here hx rfl (hb hby at_46) rfl ?_
    refine XS.i2c X8.here hx rfl (hb hby at_47) rfl ?_
    exact kt
  obtain ⟨xa2, hxa2⟩ : ∃ z : Int32, z = ((((p1.toUInt32 >>> ((16 : Int32) &&& 31).toUInt32).toInt32) &&& (127 : Int32)).toUInt32.toUInt16.toUInt32.toInt32) := ⟨_, rfl⟩
  rw [← hxa2] at st9
  have cxa2 : own_c7 xa2 := by rw [hxa2]; exact own_m7 _
  obtain ⟨cl10, Ar10, qc10, Sz10, Mn10, Hs10, Gs10⟩ := id V_aa_8
  have hin10 : ¬ ((2 : Int32) < 0 ∨ cl10.slots.size ≤ ((2 : Int32)).toNatClampNeg) := inb_of Sz10 ⟨by decide, by decide⟩
  obtain ⟨T10, h10, X10, e10, W10, st10⟩ := stC X8 hx hZ e8 Ar10 (j := (2 : Int32)) hin10 (g := (mkF m 48 #[.val (.int p0), .val (.int p1), .val (.int p2), .val (.int la), .val (.int lb), .val (.ref aa), .unset, .unset, .unset, .unset, .unset, .unset] [(.int xa2), (.int (2 : Int32)), (.ref aa)])) rfl rfl (hb hby at_48)
  have V_aa_10 : Arv Z h10 aa k4 .char (3 : Int32) [(.int xa0), (.int xa1), (.int (nar .char xa2))] (.int (0 : Int32)) := Arv.set Ar10 qc10 Sz10 Mn10 Hs10 Gs10 (fits_nar_char _) W10 2 rfl (Nat.le_of_ble_eq_true rfl)
  have Od_10 := Od_8.wr W10 g_aa
  have Sf_aa_10 := Safe.wr W10 Sf_aa_8 CA_8.1 Sf_aa_8
  have CA_10 := CA_8.trans (CHr.wr W10 Sf_aa_8 CA_8.1)
  have Z_10 : n0 ≤ h10.size := Nat.le_trans Z_8 (Keep.of_wr W10).1
  have N10 := Fr.snoc X10 N8 g_aa
  rw [own_ncI (own_c7c cxa2)] at V_aa_10
  have st11 : own_S p e below T10 (mkF m 50 #[.val (.int p0), .val (.int p1), .val (.int p2), .val (.int la), .val (.int lb), .val (.ref aa), .unset, .unset, .unset, .unset, .unset, .unset] [(.int (3 : Int32))]) (mkF m 49 #[.val (.int p0), .val (.int p1), .val (.int p2), .val (.int la), .val (.int lb), .val (.ref aa), .unset, .unset, .unset, .unset, .unset, .unset] []) := by
    intro target kt
    refine XS.iconst X10.here hx rfl (hb hby at_49) ?_
    exact kt
  obtain ⟨T12, h12, k12, X12, e12, E12, A12, st12⟩ := newP X10 hx hZ (own_w hw 0 rfl) e10 (g := (mkF m 50 #[.val (.int p0), .val (.int p1), .val (.int p2), .val (.int la), .val (.int lb), .val (.ref aa), .unset, .unset, .unset, .unset, .unset, .unset] [(.int (3 : Int32))])) rfl (hb hby at_50) rfl (by decide) (cap := 3) (by decide) (by decide) (by decide) (by decide)
  obtain ⟨ba, g12⟩ : ∃ z, z = h10.size := ⟨_, rfl⟩
  rw [← g12] at A12 st12
  have g_ba : n0 ≤ ba := Nat.le_trans Z_10 (Nat.le_of_eq g12.symm)
  have Sf_ba : Safe Z own_EL s.vm h10 ba := Safe.new (Nat.le_of_eq g12.symm)
  have ne_aa_ba : aa ≠ ba := Nat.ne_of_lt (Nat.lt_of_lt_of_le V_aa_10.lt (Nat.le_of_eq g12.symm))
  have Od_12 := Od_10.ext E12
  have Sf_aa_12 := Safe.ext E12 CA_10.1 Sf_aa_10
  have V_aa_12 := V_aa_10.ext E12
  have Sf_ba_12 := Safe.ext E12 CA_10.1 Sf_ba
  have CA_12 := CA_10.trans (CHr.ext E12 CA_10.1)
  have Z_12 : n0 ≤ h12.size := Nat.le_trans Z_10 E12.1
  have V_ba : Arv Z h12 ba k12 .char (3 : Int32) [(.int (0 : Int32)), (.int (0 : Int32)), (.int (0 : Int32))] (.int (0 : Int32)) := (Arv.new A12 (by decide)).pad (pad_rep [] (.int (0 : Int32)) 3)
  have st13 : own_S p e below T12 (mkF m 62 #[.val (.int p0), .val (.int p1), .val (.int p2), .val (.int la), .val (.int lb), .val (.ref aa), .val (.ref ba), .unset, .unset, .unset, .unset, .unset] [(.int ((p2 &&& (127 : Int32)).toUInt32.toUInt16.toUInt32.toInt32)), (.int (0 : Int32)), (.ref ba)]) (mkF m 52 #[.val (.int p0), .val (.int p1), .val (.int p2), .val (.int la), .val (.int lb), .val (.ref aa), .unset, .unset, .unset, .unset, .unset, .unset] [(.ref ba)]) := by
    intro target kt
    refine XS.astore X12.here hx rfl (hb hby at_52) rfl rfl (l' := #[.val (.int p0), .val (.int p1), .val (.int p2), .val (.int la), .val (.int lb), .val (.ref aa), .val (.ref ba), .unset, .unset, .unset, .unset, .unset]) rfl ?_
    refine XS.aload X12.here hx rfl (hb hby at_54) rfl rfl ?_
    refine XS.iconst X12.here hx rfl (hb hby at_56) ?_
    refine XS.iloadN X12.here hx rfl (hb hby at_57) rfl ?_
    refine XS.bipush X12.here hx rfl (hb hby at_58) ?_
    refine XS.iand X12.here hx rfl (hb hby at_60) rfl ?_
    refine XS.i2c X12.here hx rfl (hb hby at_61) rfl ?_
    exact kt
  obtain ⟨xb0, hxb0⟩ : ∃ z : Int32, z = ((p2 &&& (127 : Int32)).toUInt32.toUInt16.toUInt32.toInt32) := ⟨_, rfl⟩
  rw [← hxb0] at st13
  have cxb0 : own_c7 xb0 := by rw [hxb0]; exact own_m7 _
  obtain ⟨cl14, Ar14, qc14, Sz14, Mn14, Hs14, Gs14⟩ := id V_ba
  have hin14 : ¬ ((0 : Int32) < 0 ∨ cl14.slots.size ≤ ((0 : Int32)).toNatClampNeg) := inb_of Sz14 ⟨by decide, by decide⟩
  obtain ⟨T14, h14, X14, e14, W14, st14⟩ := stC X12 hx hZ e12 Ar14 (j := (0 : Int32)) hin14 (g := (mkF m 62 #[.val (.int p0), .val (.int p1), .val (.int p2), .val (.int la), .val (.int lb), .val (.ref aa), .val (.ref ba), .unset, .unset, .unset, .unset, .unset] [(.int xb0), (.int (0 : Int32)), (.ref ba)])) rfl rfl (hb hby at_62)
  have V_ba_14 : Arv Z h14 ba k12 .char (3 : Int32) [(.int (nar .char xb0)), (.int (0 : Int32)), (.int (0 : Int32))] (.int (0 : Int32)) := Arv.set Ar14 qc14 Sz14 Mn14 Hs14 Gs14 (fits_nar_char _) W14 0 rfl (Nat.le_of_ble_eq_true rfl)
  have Od_14 := Od_12.wr W14 g_ba
  have Sf_aa_14 := Safe.wr W14 Sf_ba_12 CA_12.1 Sf_aa_12
  have V_aa_14 := V_aa_12.other W14 ne_aa_ba
  have Sf_ba_14 := Safe.wr W14 Sf_ba_12 CA_12.1 Sf_ba_12
  have CA_14 := CA_12.trans (CHr.wr W14 Sf_ba_12 CA_12.1)
  have Z_14 : n0 ≤ h14.size := Nat.le_trans Z_12 (Keep.of_wr W14).1
  have N14 := Fr.snoc X14 N10 g_ba
  rw [own_ncI (own_c7c cxb0)] at V_ba_14
  have st15 : own_S p e below T14 (mkF m 74 #[.val (.int p0), .val (.int p1), .val (.int p2), .val (.int la), .val (.int lb), .val (.ref aa), .val (.ref ba), .unset, .unset, .unset, .unset, .unset] [(.int ((((p2.toUInt32 >>> ((8 : Int32) &&& 31).toUInt32).toInt32) &&& (127 : Int32)).toUInt32.toUInt16.toUInt32.toInt32)), (.int (1 : Int32)), (.ref ba)]) (mkF m 63 #[.val (.int p0), .val (.int p1), .val (.int p2), .val (.int la), .val (.int lb), .val (.ref aa), .val (.ref ba), .unset, .unset, .unset, .unset, .unset] []) := by
    intro target kt
    refine XS.aload X14.here hx rfl (hb hby at_63) rfl rfl ?_
    refine XS.iconst X14.here hx rfl (hb hby at_65) ?_
    refine XS.iloadN X14.here hx rfl (hb hby at_66) rfl ?_
    refine XS.bipush X14.here hx rfl (hb hby at_67) ?_
    refine XS.iushr X14.here hx rfl (hb hby at_69) rfl ?_
    refine XS.bipush X14.here hx rfl (hb hby at_70) ?_
    refine XS.iand X14.here hx rfl (hb hby at_72) rfl ?_
    refine XS.i2c X14.here hx rfl (hb hby at_73) rfl ?_
    exact kt
  obtain ⟨xb1, hxb1⟩ : ∃ z : Int32, z = ((((p2.toUInt32 >>> ((8 : Int32) &&& 31).toUInt32).toInt32) &&& (127 : Int32)).toUInt32.toUInt16.toUInt32.toInt32) := ⟨_, rfl⟩
  rw [← hxb1] at st15
  have cxb1 : own_c7 xb1 := by rw [hxb1]; exact own_m7 _
  obtain ⟨cl16, Ar16, qc16, Sz16, Mn16, Hs16, Gs16⟩ := id V_ba_14
  have hin16 : ¬ ((1 : Int32) < 0 ∨ cl16.slots.size ≤ ((1 : Int32)).toNatClampNeg) := inb_of Sz16 ⟨by decide, by decide⟩
  obtain ⟨T16, h16, X16, e16, W16, st16⟩ := stC X14 hx hZ e14 Ar16 (j := (1 : Int32)) hin16 (g := (mkF m 74 #[.val (.int p0), .val (.int p1), .val (.int p2), .val (.int la), .val (.int lb), .val (.ref aa), .val (.ref ba), .unset, .unset, .unset, .unset, .unset] [(.int xb1), (.int (1 : Int32)), (.ref ba)])) rfl rfl (hb hby at_74)
  have V_ba_16 : Arv Z h16 ba k12 .char (3 : Int32) [(.int xb0), (.int (nar .char xb1)), (.int (0 : Int32))] (.int (0 : Int32)) := Arv.set Ar16 qc16 Sz16 Mn16 Hs16 Gs16 (fits_nar_char _) W16 1 rfl (Nat.le_of_ble_eq_true rfl)
  have Od_16 := Od_14.wr W16 g_ba
  have Sf_aa_16 := Safe.wr W16 Sf_ba_14 CA_14.1 Sf_aa_14
  have V_aa_16 := V_aa_14.other W16 ne_aa_ba
  have Sf_ba_16 := Safe.wr W16 Sf_ba_14 CA_14.1 Sf_ba_14
  have CA_16 := CA_14.trans (CHr.wr W16 Sf_ba_14 CA_14.1)
  have Z_16 : n0 ≤ h16.size := Nat.le_trans Z_14 (Keep.of_wr W16).1
  have N16 := Fr.snoc X16 N14 g_ba
  rw [own_ncI (own_c7c cxb1)] at V_ba_16
  have st17 : own_S p e below T16 (mkF m 86 #[.val (.int p0), .val (.int p1), .val (.int p2), .val (.int la), .val (.int lb), .val (.ref aa), .val (.ref ba), .unset, .unset, .unset, .unset, .unset] [(.int ((((p2.toUInt32 >>> ((16 : Int32) &&& 31).toUInt32).toInt32) &&& (127 : Int32)).toUInt32.toUInt16.toUInt32.toInt32)), (.int (2 : Int32)), (.ref ba)]) (mkF m 75 #[.val (.int p0), .val (.int p1), .val (.int p2), .val (.int la), .val (.int lb), .val (.ref aa), .val (.ref ba), .unset, .unset, .unset, .unset, .unset] []) := by
    intro target kt
    refine XS.aload X16.here hx rfl (hb hby at_75) rfl rfl ?_
    refine XS.iconst X16.here hx rfl (hb hby at_77) ?_
    refine XS.iloadN X16.here hx rfl (hb hby at_78) rfl ?_
    refine XS.bipush X16.here hx rfl (hb hby at_79) ?_
    refine XS.iushr X16.here hx rfl (hb hby at_81) rfl ?_
    refine XS.bipush X16.here hx rfl (hb hby at_82) ?_
    refine XS.iand X16.here hx rfl (hb hby at_84) rfl ?_
    refine XS.i2c X16.here hx rfl (hb hby at_85) rfl ?_
    exact kt
  obtain ⟨xb2, hxb2⟩ : ∃ z : Int32, z = ((((p2.toUInt32 >>> ((16 : Int32) &&& 31).toUInt32).toInt32) &&& (127 : Int32)).toUInt32.toUInt16.toUInt32.toInt32) := ⟨_, rfl⟩
  rw [← hxb2] at st17
  have cxb2 : own_c7 xb2 := by rw [hxb2]; exact own_m7 _
  obtain ⟨cl18, Ar18, qc18, Sz18, Mn18, Hs18, Gs18⟩ := id V_ba_16
  have hin18 : ¬ ((2 : Int32) < 0 ∨ cl18.slots.size ≤ ((2 : Int32)).toNatClampNeg) := inb_of Sz18 ⟨by decide, by decide⟩
  obtain ⟨T18, h18, X18, e18, W18, st18⟩ := stC X16 hx hZ e16 Ar18 (j := (2 : Int32)) hin18 (g := (mkF m 86 #[.val (.int p0), .val (.int p1), .val (.int p2), .val (.int la), .val (.int lb), .val (.ref aa), .val (.ref ba), .unset, .unset, .unset, .unset, .unset] [(.int xb2), (.int (2 : Int32)), (.ref ba)])) rfl rfl (hb hby at_86)
  have V_ba_18 : Arv Z h18 ba k12 .char (3 : Int32) [(.int xb0), (.int xb1), (.int (nar .char xb2))] (.int (0 : Int32)) := Arv.set Ar18 qc18 Sz18 Mn18 Hs18 Gs18 (fits_nar_char _) W18 2 rfl (Nat.le_of_ble_eq_true rfl)
  have Od_18 := Od_16.wr W18 g_ba
  have Sf_aa_18 := Safe.wr W18 Sf_ba_16 CA_16.1 Sf_aa_16
  have V_aa_18 := V_aa_16.other W18 ne_aa_ba
  have Sf_ba_18 := Safe.wr W18 Sf_ba_16 CA_16.1 Sf_ba_16
  have CA_18 := CA_16.trans (CHr.wr W18 Sf_ba_16 CA_16.1)
  have Z_18 : n0 ≤ h18.size := Nat.le_trans Z_16 (Keep.of_wr W18).1
  have N18 := Fr.snoc X18 N16 g_ba
  rw [own_ncI (own_c7c cxb2)] at V_ba_18
  obtain ⟨cs1, hk1⟩ : ∃ cs, own_mk la cs xa0 xa1 xa2 := own_ex (own_k4 hla)
  obtain ⟨cs2, hk2⟩ : ∃ cs, own_mk lb cs xb0 xb1 xb2 := own_ex (own_k4 hlb)
  have hc1 := own_mkc hk1 cxa0 cxa1 cxa2
  have hc2 := own_mkc hk2 cxb0 cxb1 cxb2
  have st19 : own_S p e below T18 (mkF m 90 #[.val (.int p0), .val (.int p1), .val (.int p2), .val (.int la), .val (.int lb), .val (.ref aa), .val (.ref ba), .unset, .unset, .unset, .unset, .unset] [(.ref aa), (.int la)]) (mkF m 87 #[.val (.int p0), .val (.int p1), .val (.int p2), .val (.int la), .val (.int lb), .val (.ref aa), .val (.ref ba), .unset, .unset, .unset, .unset, .unset] []) := by
    intro target kt
    refine XS.iloadN X18.here hx rfl (hb hby at_87) rfl ?_
    refine XS.aload X18.here hx rfl (hb hby at_88) rfl rfl ?_
    exact kt
  obtain ⟨_, _, ⟨T20, L20, k20, n20⟩, -, X20, hSi20, hge20, ⟨Lc20, hQ20, l20, y20, z20, CHn20⟩, st20⟩ := Jvm.RoadKit.callSS X18 hx (y := (⟨"com/example/murray_hill/murrayhill/AsciiLineAppendPinLaw", "make", "(I[C)Ljava/lang/String;"⟩ : MethodName)) hown (mvT hZ (own_w hw 1 rfl)) (mvT hZ (own_w hw 2 rfl)) (mvT hZ (own_w hw 3 rfl)) (mvT hZ (own_w hw 4 rfl)) (by decide) (backOfSH (vm0 := s.vm) (s := s) (W := 0) (rmMk l Z a0 hw [] la aa cs fm k4 xa0 xa1 xa2 cs1 h18 n0 Z_18 SB Od_18 V_aa_18 cxa0 cxa1 cxa2 hk1) hZ (own_w hw 4 rfl) (own_w hw 3 rfl) (by decide) (by decide) hEL CA_18.1) (g := (mkF m 90 #[.val (.int p0), .val (.int p1), .val (.int p2), .val (.int la), .val (.int lb), .val (.ref aa), .val (.ref ba), .unset, .unset, .unset, .unset, .unset] [(.ref aa), (.int la)])) rfl (by rw [hml]; rfl) (argsL := [(.int la), (.ref aa)]) (rest := []) (lenOf pd_0 rfl) rfl (by show 2 * 0 + _ ≤ _; exact Nat.le_of_eq rfl) (hb hby at_90) (fun _ _ => ⟨rfl, e18, (by decide : 2 + 6 ≤ _), (by decide : 6 + 12 ≤ _)⟩)
  dsimp only [Pt.U, Pt.locs, Pt.cells, Pt.slots] at X20 l20 y20 z20 st20 hQ20 hSi20 hge20 CHn20
  subst l20 y20 z20
  have hS := foldS (s := s) (vm0 := s.vm) ((State.WarmedH.refl s).since 0) (Nat.zero_le _) hSi20 hge20
  have hZ : Z.Warmed39 (s.setVm T20.vm).vm := State.Warmed39.trans (t := s.setVm s.vm) hZ hSi20.1
  have hown : (s.setVm T20.vm).vm.findClass "com/example/murray_hill/murrayhill/AsciiLineAppendPinLaw" = some m.cls := by rw [show (s.setVm T20.vm).vm = T20.vm from rfl, hSi20.1.alike.findClass]; exact hown
  have X20 : Stand p l e room_1 (s.setVm T20.vm) m #[(.int p0), (.int p1), (.int p2)] below meth c T20 _ _ _ := X20
  obtain ⟨t20, rfl, Nq20, K20, szt20, Et20, Ct20, yy20, ky20, Fvt20, Vy20⟩ := hQ20
  have N20 := Fr.app N18 Nq20
  have g_t20 : n0 ≤ t20 := Nat.le_trans Z_18 szt20
  have ne_aa_t20 : aa ≠ t20 := Nat.ne_of_lt (Nat.lt_of_lt_of_le V_aa_18.lt szt20)
  have ne_ba_t20 : ba ≠ t20 := Nat.ne_of_lt (Nat.lt_of_lt_of_le V_ba_18.lt szt20)
  have Od_20 := Od_18.keep K20 (all0)
  have Sf_aa_20 := CHr.safe CHn20 V_aa_18.lt Sf_aa_18
  have V_aa_20 := V_aa_18.keep K20 nin0
  have Sf_ba_20 := CHr.safe CHn20 V_ba_18.lt Sf_ba_18
  have V_ba_20 := V_ba_18.keep K20 nin0
  have CA_20 := CA_18.trans CHn20
  have Z_20 : n0 ≤ T20.heap.size := Nat.le_trans Z_18 K20.1
  have kz_20 : T20.heap.size ≤ T20.heap.size := Nat.le_refl _
  have st21 : own_S p e below T20 (mkF m 99 #[.val (.int p0), .val (.int p1), .val (.int p2), .val (.int la), .val (.int lb), .val (.ref aa), .val (.ref ba), .val (.ref t20), .unset, .unset, .unset, .unset] [(.ref ba), (.int lb)]) (mkF m 93 #[.val (.int p0), .val (.int p1), .val (.int p2), .val (.int la), .val (.int lb), .val (.ref aa), .val (.ref ba), .unset, .unset, .unset, .unset, .unset] [(.ref t20)]) := by
    intro target kt
    refine XS.astore X20.here hx rfl (hb hby at_93) rfl rfl (l' := #[.val (.int p0), .val (.int p1), .val (.int p2), .val (.int la), .val (.int lb), .val (.ref aa), .val (.ref ba), .val (.ref t20), .unset, .unset, .unset, .unset]) rfl ?_
    refine XS.iload X20.here hx rfl (hb hby at_95) rfl ?_
    refine XS.aload X20.here hx rfl (hb hby at_97) rfl rfl ?_
    exact kt
  obtain ⟨_, _, ⟨T22, L22, k22, n22⟩, -, X22, hSi22, hge22, ⟨Lc22, hQ22, l22, y22, z22, CHn22⟩, st22⟩ := Jvm.RoadKit.callSS X20 hx (y := (⟨"com/example/murray_hill/murrayhill/AsciiLineAppendPinLaw", "make", "(I[C)Ljava/lang/String;"⟩ : MethodName)) hown (mvT hZ (own_w hw 1 rfl)) (mvT hZ (own_w hw 2 rfl)) (mvT hZ (own_w hw 3 rfl)) (mvT hZ (own_w hw 4 rfl)) (by decide) (backOfSH (vm0 := T20.vm) (s := s) (W := 0) (rmMk l Z a0 hw [] lb ba cs fm k12 xb0 xb1 xb2 cs2 T20.heap n0 Z_20 SB Od_20 V_ba_20 cxb0 cxb1 cxb2 hk2) hZ (own_w hw 4 rfl) (own_w hw 3 rfl) (by decide) (by decide) hEL CA_20.1) (g := (mkF m 99 #[.val (.int p0), .val (.int p1), .val (.int p2), .val (.int la), .val (.int lb), .val (.ref aa), .val (.ref ba), .val (.ref t20), .unset, .unset, .unset, .unset] [(.ref ba), (.int lb)])) rfl (by rw [hml]; rfl) (argsL := [(.int lb), (.ref ba)]) (rest := []) (lenOf pd_0 rfl) rfl (by show 2 * 0 + _ ≤ _; exact Nat.le_of_eq rfl) (hb hby at_99) (fun _ _ => ⟨rfl, rfl, (by decide : 8 + 6 ≤ _), (by decide : 18 + 12 ≤ _)⟩)
  dsimp only [Pt.U, Pt.locs, Pt.cells, Pt.slots] at X22 l22 y22 z22 st22 hQ22 hSi22 hge22 CHn22
  subst l22 y22 z22
  have hS := foldS (s := s) (vm0 := T20.vm) hS kz_20 hSi22 hge22
  have hZ : Z.Warmed39 (s.setVm T22.vm).vm := State.Warmed39.trans (t := s.setVm T20.vm) hZ hSi22.1
  have hown : (s.setVm T22.vm).vm.findClass "com/example/murray_hill/murrayhill/AsciiLineAppendPinLaw" = some m.cls := by rw [show (s.setVm T22.vm).vm = T22.vm from rfl, hSi22.1.alike.findClass]; exact hown
  have X22 : Stand p l e room_1 (s.setVm T22.vm) m #[(.int p0), (.int p1), (.int p2)] below meth c T22 _ _ _ := X22
  obtain ⟨t22, rfl, Nq22, K22, szt22, Et22, Ct22, yy22, ky22, Fvt22, Vy22⟩ := hQ22
  have N22 := Fr.app N20 Nq22
  have g_t22 : n0 ≤ t22 := Nat.le_trans Z_20 szt22
  have ne_aa_t22 : aa ≠ t22 := Nat.ne_of_lt (Nat.lt_of_lt_of_le V_aa_20.lt szt22)
  have ne_ba_t22 : ba ≠ t22 := Nat.ne_of_lt (Nat.lt_of_lt_of_le V_ba_20.lt szt22)
  have ne_t20_t22 : t20 ≠ t22 := Nat.ne_of_lt (Nat.lt_of_lt_of_le Et20.lt szt22)
  have ne_yy20_t22 : yy20 ≠ t22 := Nat.ne_of_lt (Nat.lt_of_lt_of_le Vy20.lt szt22)
  have Od_22 := Od_20.keep K22 (all0)
  have Sf_aa_22 := CHr.safe CHn22 V_aa_20.lt Sf_aa_20
  have V_aa_22 := V_aa_20.keep K22 nin0
  have Sf_ba_22 := CHr.safe CHn22 V_ba_20.lt Sf_ba_20
  have V_ba_22 := V_ba_20.keep K22 nin0
  have Et20_22 := Et20.keep K22
  have Ct20_22 := Ct20.keep K22 nin0
  have Fvt20_22 := Fvt20.keep K22 nin0
  have Vy20_22 := Vy20.keep K22 nin0
  have CA_22 := CA_20.trans CHn22
  have Z_22 : n0 ≤ T22.heap.size := Nat.le_trans Z_20 K22.1
  have kz_22 : T22.heap.size ≤ T22.heap.size := Nat.le_refl _
  have st23 : own_S p e below T22 (mkF m 104 #[.val (.int p0), .val (.int p1), .val (.int p2), .val (.int la), .val (.int lb), .val (.ref aa), .val (.ref ba), .val (.ref t20), .val (.ref t22), .unset, .unset, .unset] []) (mkF m 102 #[.val (.int p0), .val (.int p1), .val (.int p2), .val (.int la), .val (.int lb), .val (.ref aa), .val (.ref ba), .val (.ref t20), .unset, .unset, .unset, .unset] [(.ref t22)]) := by
    intro target kt
    refine XS.astore X22.here hx rfl (hb hby at_102) rfl rfl (l' := #[.val (.int p0), .val (.int p1), .val (.int p2), .val (.int la), .val (.int lb), .val (.ref aa), .val (.ref ba), .val (.ref t20), .val (.ref t22), .unset, .unset, .unset]) rfl ?_
    exact kt
  obtain ⟨T24, h24, X24, e24, E24, A24, D24, -, st24⟩ := newO X22 hx hZ hown (own_w hw 26 rfl) (own_w hw 27 rfl) (own_w hw 28 rfl) rfl (g := (mkF m 104 #[.val (.int p0), .val (.int p1), .val (.int p2), .val (.int la), .val (.int lb), .val (.ref aa), .val (.ref ba), .val (.ref t20), .val (.ref t22), .unset, .unset, .unset] [])) rfl (hb hby at_104) (by decide) (by decide)
  obtain ⟨li, g24⟩ : ∃ z, z = T22.heap.size := ⟨_, rfl⟩
  rw [← g24] at A24 D24 st24
  have g_li : n0 ≤ li := Nat.le_trans Z_22 (Nat.le_of_eq g24.symm)
  have Sf_li : Safe Z own_EL T22.vm T22.heap li := Safe.new (Nat.le_of_eq g24.symm)
  have ne_aa_li : aa ≠ li := Nat.ne_of_lt (Nat.lt_of_lt_of_le V_aa_22.lt (Nat.le_of_eq g24.symm))
  have ne_ba_li : ba ≠ li := Nat.ne_of_lt (Nat.lt_of_lt_of_le V_ba_22.lt (Nat.le_of_eq g24.symm))
  have ne_t20_li : t20 ≠ li := Nat.ne_of_lt (Nat.lt_of_lt_of_le Et20_22.lt (Nat.le_of_eq g24.symm))
  have ne_yy20_li : yy20 ≠ li := Nat.ne_of_lt (Nat.lt_of_lt_of_le Vy20_22.lt (Nat.le_of_eq g24.symm))
  have ne_t22_li : t22 ≠ li := Nat.ne_of_lt (Nat.lt_of_lt_of_le Et22.lt (Nat.le_of_eq g24.symm))
  have ne_yy22_li : yy22 ≠ li := Nat.ne_of_lt (Nat.lt_of_lt_of_le Vy22.lt (Nat.le_of_eq g24.symm))
  have Od_24 := Od_22.ext E24
  have Sf_aa_24 := Safe.ext E24 CA_22.1 Sf_aa_22
  have V_aa_24 := V_aa_22.ext E24
  have Sf_ba_24 := Safe.ext E24 CA_22.1 Sf_ba_22
  have V_ba_24 := V_ba_22.ext E24
  have Et20_24 := Et20_22.ext E24
  have Ct20_24 := Ct20_22.ext E24
  have Fvt20_24 := Fvt20_22.ext E24
  have Vy20_24 := Vy20_22.ext E24
  have Et22_24 := Et22.ext E24
  have Ct22_24 := Ct22.ext E24
  have Fvt22_24 := Fvt22.ext E24
  have Vy22_24 := Vy22.ext E24
  have Sf_li_24 := Safe.ext E24 CA_22.1 Sf_li
  have CA_24 := CA_22.trans (CHr.ext E24 CA_22.1)
  have Z_24 : n0 ≤ h24.size := Nat.le_trans Z_22 E24.1
  have kz_24 : T22.heap.size ≤ h24.size := Nat.le_trans kz_22 E24.1
  have E_li : Exa Z h24 li "com/example/murray_hill/murrayhill/AsciiLine" := A24
  have F_bytes_li : Fld Z h24 li "com/example/murray_hill/murrayhill/AsciiLine" "bytes" "[B" .null := D24 (Or.inr (own_w hw 34 rfl)) (ty := (.array .byte)) (by decide)
  have F_length_li : Fld Z h24 li "com/example/murray_hill/murrayhill/AsciiLine" "length" "I" (.int (0 : Int32)) := D24 (Or.inl (own_w hw 57 rfl)) (ty := .int) (by decide)
  have st25 : own_S p e below T24 (mkF m 110 #[.val (.int p0), .val (.int p1), .val (.int p2), .val (.int la), .val (.int lb), .val (.ref aa), .val (.ref ba), .val (.ref t20), .val (.ref t22), .unset, .unset, .unset] [(.int (6 : Int32)), (.ref li), (.ref li)]) (mkF m 107 #[.val (.int p0), .val (.int p1), .val (.int p2), .val (.int la), .val (.int lb), .val (.ref aa), .val (.ref ba), .val (.ref t20), .val (.ref t22), .unset, .unset, .unset] [(.ref li)]) := by
    intro target kt
    refine XS.dup X24.here hx rfl (hb hby at_107) rfl rfl ?_
    refine XS.bipush X24.here hx rfl (hb hby at_108) ?_
    exact kt
  obtain ⟨_, _, ⟨T26, L26, k26, n26⟩, -, X26, ⟨Lc26, hQ26, l26, y26, z26⟩, st26⟩ := X24.specialBack hx (y := (⟨"com/example/murray_hill/murrayhill/AsciiLine", "<init>", "(I)V"⟩ : MethodName)) rfl hown (mvT hZ (own_w hw 29 rfl)) (mvT hZ (own_w hw 30 rfl)) (mvT hZ (own_w hw 31 rfl)) (by decide) (backOf (W := 1) (rmLi l Z a0 hw [] li  h24 n0 Z_24 F_bytes_li F_length_li E_li g_li) hZ (own_w hw 31 rfl) (own_w hw 28 rfl) (by decide) (by decide)) (g := (mkF m 110 #[.val (.int p0), .val (.int p1), .val (.int p2), .val (.int la), .val (.int lb), .val (.ref aa), .val (.ref ba), .val (.ref t20), .val (.ref t22), .unset, .unset, .unset] [(.int (6 : Int32)), (.ref li), (.ref li)])) rfl (by rw [hml]; rfl) (Steps.refl _) (a := li) (argsL := [(.int (6 : Int32))]) (rest := [(.ref li)]) (lenOf pd_4 rfl) rfl (by show 2 * 0 + _ ≤ _; exact Nat.le_of_eq rfl) (hb hby at_110) (fun _ _ => ⟨rfl, e24, (by decide : 15 + 1 ≤ _), (by decide : 32 + 6 ≤ _)⟩)
  dsimp only [Pt.U, Pt.locs, Pt.cells, Pt.slots] at X26 l26 y26 z26 st26 hQ26
  subst l26 y26 z26
  obtain ⟨rfl, Nq26, K26, Eli, bb, kb, szb, Fbb, Fll, Hbb⟩ := hQ26
  have N26 := Fr.app N22 Nq26
  have Sf_bb : Safe Z own_EL T22.vm h24 bb := Safe.new szb
  have g_bb : n0 ≤ bb := Nat.le_trans Z_24 szb
  have ne_aa_bb : aa ≠ bb := Nat.ne_of_lt (Nat.lt_of_lt_of_le V_aa_24.lt szb)
  have ne_ba_bb : ba ≠ bb := Nat.ne_of_lt (Nat.lt_of_lt_of_le V_ba_24.lt szb)
  have ne_t20_bb : t20 ≠ bb := Nat.ne_of_lt (Nat.lt_of_lt_of_le Et20_24.lt szb)
  have ne_yy20_bb : yy20 ≠ bb := Nat.ne_of_lt (Nat.lt_of_lt_of_le Vy20_24.lt szb)
  have ne_t22_bb : t22 ≠ bb := Nat.ne_of_lt (Nat.lt_of_lt_of_le Et22_24.lt szb)
  have ne_yy22_bb : yy22 ≠ bb := Nat.ne_of_lt (Nat.lt_of_lt_of_le Vy22_24.lt szb)
  have ne_li_bb : li ≠ bb := Nat.ne_of_lt (Nat.lt_of_lt_of_le E_li.lt szb)
  have Od_26 := Od_24.keep K26 (allS g_li (all0))
  have Sf_aa_26 := Safe.keep K26 (allS Sf_li_24 all0) CA_24.1 Sf_aa_24
  have V_aa_26 := V_aa_24.keep K26 (ninS ne_aa_li nin0)
  have Sf_ba_26 := Safe.keep K26 (allS Sf_li_24 all0) CA_24.1 Sf_ba_24
  have V_ba_26 := V_ba_24.keep K26 (ninS ne_ba_li nin0)
  have Et20_26 := Et20_24.keep K26
  have Ct20_26 := Ct20_24.keep K26 (ninS ne_t20_li nin0)
  have Fvt20_26 := Fvt20_24.keep K26 (ninS ne_t20_li nin0)
  have Vy20_26 := Vy20_24.keep K26 (ninS ne_yy20_li nin0)
  have Et22_26 := Et22_24.keep K26
  have Ct22_26 := Ct22_24.keep K26 (ninS ne_t22_li nin0)
  have Fvt22_26 := Fvt22_24.keep K26 (ninS ne_t22_li nin0)
  have Vy22_26 := Vy22_24.keep K26 (ninS ne_yy22_li nin0)
  have Sf_li_26 := Safe.keep K26 (allS Sf_li_24 all0) CA_24.1 Sf_li_24
  have E_li_26 := E_li.keep K26
  have Sf_bb_26 := Safe.keep K26 (allS Sf_li_24 all0) CA_24.1 Sf_bb
  have CA_26 := CA_24.trans (CHr.keep K26 (allS Sf_li_24 all0) CA_24.1)
  have Z_26 : n0 ≤ T26.heap.size := Nat.le_trans Z_24 K26.1
  have kz_26 : T22.heap.size ≤ T26.heap.size := Nat.le_trans kz_24 K26.1
  have st27 : own_S p e below T26 (mkF m 119 #[.val (.int p0), .val (.int p1), .val (.int p2), .val (.int la), .val (.int lb), .val (.ref aa), .val (.ref ba), .val (.ref t20), .val (.ref t22), .val (.ref li), .unset, .unset] [(.ref t20), (.ref li)]) (mkF m 113 #[.val (.int p0), .val (.int p1), .val (.int p2), .val (.int la), .val (.int lb), .val (.ref aa), .val (.ref ba), .val (.ref t20), .val (.ref t22), .unset, .unset, .unset] [(.ref li)]) := by
    intro target kt
    refine XS.astore X26.here hx rfl (hb hby at_113) rfl rfl (l' := #[.val (.int p0), .val (.int p1), .val (.int p2), .val (.int la), .val (.int lb), .val (.ref aa), .val (.ref ba), .val (.ref t20), .val (.ref t22), .val (.ref li), .unset, .unset]) rfl ?_
    refine XS.aload X26.here hx rfl (hb hby at_115) rfl rfl ?_
    refine XS.aload X26.here hx rfl (hb hby at_117) rfl rfl ?_
    exact kt
  obtain ⟨cq28, kq28, qv28a, qv28b, qv28c⟩ := isOf hZ rfl Eli
  obtain ⟨_, _, ⟨T28, L28, k28, n28⟩, -, X28, ⟨Lc28, hQ28, l28, y28, z28⟩, st28⟩ := X26.virtualBack hx (y := (⟨"com/example/murray_hill/murrayhill/AsciiLine", "append", "(Ljava/lang/String;)Lcom/example/murray_hill/murrayhill/AsciiLine;"⟩ : MethodName)) (z := (⟨"com/example/murray_hill/murrayhill/AsciiLine", "append", "(Ljava/lang/String;)Lcom/example/murray_hill/murrayhill/AsciiLine;"⟩ : MethodName)) hown (mvT hZ (own_w hw 35 rfl)) (mvT hZ (own_w hw 36 rfl)) (notFace_of_selects (args := #[]) (mvT hZ (own_w hw 38 rfl))) (mvT hZ (own_w hw 38 rfl)) (mvT hZ (own_w hw 37 rfl)) (by decide) (backOf (W := 0) (rmAp l Z a0 hw [] li t20 cs fm bb kb ([] : List (Int32 × Value)) (0 : Int32) yy20 ky20 xa0 xa1 xa2 cs1 la T26.heap n0 Z_26 SB Od_26 Fbb Fll Eli Hbb Fvt20_26 Ct20_26 Et20_26 Vy20_26 (Ne.symm ne_li_bb) ne_t20_li ne_yy20_li ne_t20_bb ne_yy20_bb g_li g_bb cxa0 cxa1 cxa2 ⟨by decide, by decide⟩ hk1) hZ (own_w hw 39 rfl) (own_w hw 28 rfl) (by decide) (by decide)) qv28a qv28c (g := (mkF m 119 #[.val (.int p0), .val (.int p1), .val (.int p2), .val (.int la), .val (.int lb), .val (.ref aa), .val (.ref ba), .val (.ref t20), .val (.ref t22), .val (.ref li), .unset, .unset] [(.ref t20), (.ref li)])) rfl (by rw [hml]; rfl) (Steps.refl _) (argsL := [(.ref t20)]) (rest := []) (lenOf pd_5 rfl) rfl (by show 2 * 0 + _ ≤ _; exact Nat.le_of_eq rfl) (hb hby at_119) (fun _ _ => ⟨rfl, rfl, (by decide : 16 + 0 ≤ _), (by decide : 38 + 0 ≤ _)⟩)
  dsimp only [Pt.U, Pt.locs, Pt.cells, Pt.slots] at X28 l28 y28 z28 st28 hQ28
  subst l28 y28 z28
  obtain ⟨rfl, Nq28, K28, Fb28, Fl28, Hh28⟩ := hQ28
  have N28 := Fr.app N26 Nq28
  have Od_28 := Od_26.keep K28 (allS g_li (allS g_bb (all0)))
  have Sf_aa_28 := Safe.keep K28 (allS Sf_li_26 (allS Sf_bb_26 all0)) CA_26.1 Sf_aa_26
  have V_aa_28 := V_aa_26.keep K28 (ninS ne_aa_li (ninS ne_aa_bb nin0))
  have Sf_ba_28 := Safe.keep K28 (allS Sf_li_26 (allS Sf_bb_26 all0)) CA_26.1 Sf_ba_26
  have V_ba_28 := V_ba_26.keep K28 (ninS ne_ba_li (ninS ne_ba_bb nin0))
  have Et20_28 := Et20_26.keep K28
  have Ct20_28 := Ct20_26.keep K28 (ninS ne_t20_li (ninS ne_t20_bb nin0))
  have Fvt20_28 := Fvt20_26.keep K28 (ninS ne_t20_li (ninS ne_t20_bb nin0))
  have Vy20_28 := Vy20_26.keep K28 (ninS ne_yy20_li (ninS ne_yy20_bb nin0))
  have Et22_28 := Et22_26.keep K28
  have Ct22_28 := Ct22_26.keep K28 (ninS ne_t22_li (ninS ne_t22_bb nin0))
  have Fvt22_28 := Fvt22_26.keep K28 (ninS ne_t22_li (ninS ne_t22_bb nin0))
  have Vy22_28 := Vy22_26.keep K28 (ninS ne_yy22_li (ninS ne_yy22_bb nin0))
  have Sf_li_28 := Safe.keep K28 (allS Sf_li_26 (allS Sf_bb_26 all0)) CA_26.1 Sf_li_26
  have Eli_28 := Eli.keep K28
  have Sf_bb_28 := Safe.keep K28 (allS Sf_li_26 (allS Sf_bb_26 all0)) CA_26.1 Sf_bb_26
  have CA_28 := CA_26.trans (CHr.keep K28 (allS Sf_li_26 (allS Sf_bb_26 all0)) CA_26.1)
  have Z_28 : n0 ≤ T28.heap.size := Nat.le_trans Z_26 K28.1
  have kz_28 : T22.heap.size ≤ T28.heap.size := Nat.le_trans kz_26 K28.1
  rw [(own_plb hk1).1] at Fl28
  have st29 : own_S p e below T28 (mkF m 133 #[.val (.int p0), .val (.int p1), .val (.int p2), .val (.int la), .val (.int lb), .val (.ref aa), .val (.ref ba), .val (.ref t20), .val (.ref t22), .val (.ref li), .unset, .unset] [(.ref t22), (.ref li)]) (mkF m 122 #[.val (.int p0), .val (.int p1), .val (.int p2), .val (.int la), .val (.int lb), .val (.ref aa), .val (.ref ba), .val (.ref t20), .val (.ref t22), .val (.ref li), .unset, .unset] [(.ref li)]) := by
    intro target kt
    refine XS.aload X28.here hx rfl (hb hby at_122) rfl rfl ?_
    refine Jvm.RoadKit.acmp (g := (mkF m 124 #[.val (.int p0), .val (.int p1), .val (.int p2), .val (.int la), .val (.int lb), .val (.ref aa), .val (.ref ba), .val (.ref t20), .val (.ref t22), .val (.ref li), .unset, .unset] [(.ref li), (.ref li)])) X28 hx rfl rfl rfl (pc0 := 124) (pc' := 129) (same := true) rfl (hb hby at_124) rfl (decide_eq_true rfl) (by decide) (by decide) ?_
    refine XS.aload X28.here hx rfl (hb hby at_129) rfl rfl ?_
    refine XS.aload X28.here hx rfl (hb hby at_131) rfl rfl ?_
    exact kt
  obtain ⟨cq30, kq30, qv30a, qv30b, qv30c⟩ := isOf hZ rfl Eli_28
  obtain ⟨_, _, ⟨T30, L30, k30, n30⟩, -, X30, ⟨Lc30, hQ30, l30, y30, z30⟩, st30⟩ := X28.virtualBack hx (y := (⟨"com/example/murray_hill/murrayhill/AsciiLine", "append", "(Ljava/lang/String;)Lcom/example/murray_hill/murrayhill/AsciiLine;"⟩ : MethodName)) (z := (⟨"com/example/murray_hill/murrayhill/AsciiLine", "append", "(Ljava/lang/String;)Lcom/example/murray_hill/murrayhill/AsciiLine;"⟩ : MethodName)) hown (mvT hZ (own_w hw 35 rfl)) (mvT hZ (own_w hw 36 rfl)) (notFace_of_selects (args := #[]) (mvT hZ (own_w hw 38 rfl))) (mvT hZ (own_w hw 38 rfl)) (mvT hZ (own_w hw 37 rfl)) (by decide) (backOf (W := 0) (rmAp l Z a0 hw [] li t22 cs fm bb kb (own_hs (0 : Int32) cs1 ([] : List (Int32 × Value))) la yy22 ky22 xb0 xb1 xb2 cs2 lb T28.heap n0 Z_28 SB Od_28 Fb28 Fl28 Eli_28 Hh28 Fvt22_28 Ct22_28 Et22_28 Vy22_28 (Ne.symm ne_li_bb) ne_t22_li ne_yy22_li ne_t22_bb ne_yy22_bb g_li g_bb cxb0 cxb1 cxb2 (own_plb hk1).2 hk2) hZ (own_w hw 39 rfl) (own_w hw 28 rfl) (by decide) (by decide)) qv30a qv30c (g := (mkF m 133 #[.val (.int p0), .val (.int p1), .val (.int p2), .val (.int la), .val (.int lb), .val (.ref aa), .val (.ref ba), .val (.ref t20), .val (.ref t22), .val (.ref li), .unset, .unset] [(.ref t22), (.ref li)])) rfl (by rw [hml]; rfl) (Steps.refl _) (argsL := [(.ref t22)]) (rest := []) (lenOf pd_5 rfl) rfl (by show 2 * 0 + _ ≤ _; exact Nat.le_of_eq rfl) (hb hby at_133) (fun _ _ => ⟨rfl, rfl, (by decide : 16 + 0 ≤ _), (by decide : 38 + 0 ≤ _)⟩)
  dsimp only [Pt.U, Pt.locs, Pt.cells, Pt.slots] at X30 l30 y30 z30 st30 hQ30
  subst l30 y30 z30
  obtain ⟨rfl, Nq30, K30, Fb30, Fl30, Hh30⟩ := hQ30
  have N30 := Fr.app N28 Nq30
  have Od_30 := Od_28.keep K30 (allS g_li (allS g_bb (all0)))
  have Sf_aa_30 := Safe.keep K30 (allS Sf_li_28 (allS Sf_bb_28 all0)) CA_28.1 Sf_aa_28
  have V_aa_30 := V_aa_28.keep K30 (ninS ne_aa_li (ninS ne_aa_bb nin0))
  have Sf_ba_30 := Safe.keep K30 (allS Sf_li_28 (allS Sf_bb_28 all0)) CA_28.1 Sf_ba_28
  have V_ba_30 := V_ba_28.keep K30 (ninS ne_ba_li (ninS ne_ba_bb nin0))
  have Et20_30 := Et20_28.keep K30
  have Ct20_30 := Ct20_28.keep K30 (ninS ne_t20_li (ninS ne_t20_bb nin0))
  have Fvt20_30 := Fvt20_28.keep K30 (ninS ne_t20_li (ninS ne_t20_bb nin0))
  have Vy20_30 := Vy20_28.keep K30 (ninS ne_yy20_li (ninS ne_yy20_bb nin0))
  have Et22_30 := Et22_28.keep K30
  have Ct22_30 := Ct22_28.keep K30 (ninS ne_t22_li (ninS ne_t22_bb nin0))
  have Fvt22_30 := Fvt22_28.keep K30 (ninS ne_t22_li (ninS ne_t22_bb nin0))
  have Vy22_30 := Vy22_28.keep K30 (ninS ne_yy22_li (ninS ne_yy22_bb nin0))
  have Sf_li_30 := Safe.keep K30 (allS Sf_li_28 (allS Sf_bb_28 all0)) CA_28.1 Sf_li_28
  have Eli_30 := Eli_28.keep K30
  have Sf_bb_30 := Safe.keep K30 (allS Sf_li_28 (allS Sf_bb_28 all0)) CA_28.1 Sf_bb_28
  have CA_30 := CA_28.trans (CHr.keep K30 (allS Sf_li_28 (allS Sf_bb_28 all0)) CA_28.1)
  have Z_30 : n0 ≤ T30.heap.size := Nat.le_trans Z_28 K30.1
  have kz_30 : T22.heap.size ≤ T30.heap.size := Nat.le_trans kz_28 K30.1
  obtain ⟨cx, hcx⟩ : ∃ z : List Int32, z = cs1 ++ cs2 := ⟨_, rfl⟩
  obtain ⟨nx, hnx⟩ : ∃ z : Int32, z = own_pl la cs2 := ⟨_, rfl⟩
  rw [← hnx] at Fl30
  obtain ⟨hsx, hhsx⟩ : ∃ z : List (Int32 × Value), z = (own_hs la cs2 (own_hs (0 : Int32) cs1 ([] : List (Int32 × Value)))) := ⟨_, rfl⟩
  rw [← hhsx] at Hh30
  have hts : own_ts nx cx hsx ∧ Int32.ofNat cx.length = la + lb := by rw [hcx, hnx, hhsx]; exact own_tsl hk1 hk2 hc1 hc2
  have hD0 : own_D0 (la + lb) la cx xa0 xa1 xa2 xb0 xb1 xb2 := by rw [hcx]; exact own_Dl0 hk1 hk2
  have hD1 : own_D1 (la + lb) la cx xa0 xa1 xa2 xb0 xb1 xb2 := by rw [hcx]; exact own_Dl1 hk1 hk2
  have hD2 : own_D2 (la + lb) la cx xa0 xa1 xa2 xb0 xb1 xb2 := by rw [hcx]; exact own_Dl2 hk1 hk2
  have hD3 : own_D3 (la + lb) la cx xa0 xa1 xa2 xb0 xb1 xb2 := by rw [hcx]; exact own_Dl3 hk1 hk2
  have hD4 : own_D4 (la + lb) la cx xa0 xa1 xa2 xb0 xb1 xb2 := by rw [hcx]; exact own_Dl4 hk1 hk2
  have hD5 : own_D5 (la + lb) la cx xa0 xa1 xa2 xb0 xb1 xb2 := by rw [hcx]; exact own_Dl5 hk1 hk2
  have st31 : own_S p e below T30 (mkF m 145 #[.val (.int p0), .val (.int p1), .val (.int p2), .val (.int la), .val (.int lb), .val (.ref aa), .val (.ref ba), .val (.ref t20), .val (.ref t22), .val (.ref li), .unset, .unset] [(.ref li)]) (mkF m 136 #[.val (.int p0), .val (.int p1), .val (.int p2), .val (.int la), .val (.int lb), .val (.ref aa), .val (.ref ba), .val (.ref t20), .val (.ref t22), .val (.ref li), .unset, .unset] [(.ref li)]) := by
    intro target kt
    refine XS.aload X30.here hx rfl (hb hby at_136) rfl rfl ?_
    refine Jvm.RoadKit.acmp (g := (mkF m 138 #[.val (.int p0), .val (.int p1), .val (.int p2), .val (.int la), .val (.int lb), .val (.ref aa), .val (.ref ba), .val (.ref t20), .val (.ref t22), .val (.ref li), .unset, .unset] [(.ref li), (.ref li)])) X30 hx rfl rfl rfl (pc0 := 138) (pc' := 143) (same := true) rfl (hb hby at_138) rfl (decide_eq_true rfl) (by decide) (by decide) ?_
    refine XS.aload X30.here hx rfl (hb hby at_143) rfl rfl ?_
    exact kt
  obtain ⟨cq32, kq32, qv32a, qv32b, qv32c⟩ := isOf hZ rfl Eli_30
  obtain ⟨_, _, ⟨T32, L32, k32, n32⟩, -, X32, hSi32, hge32, ⟨Lc32, hQ32, l32, y32, z32, CHn32⟩, st32⟩ := X30.virtualBackS hx (y := (⟨"com/example/murray_hill/murrayhill/AsciiLine", "toString", "()Ljava/lang/String;"⟩ : MethodName)) (z := (⟨"com/example/murray_hill/murrayhill/AsciiLine", "toString", "()Ljava/lang/String;"⟩ : MethodName)) hown (mvT hZ (own_w hw 51 rfl)) (mvT hZ (own_w hw 52 rfl)) (notFace_of_selects (args := #[]) (mvT hZ (own_w hw 54 rfl))) (mvT hZ (own_w hw 54 rfl)) (mvT hZ (own_w hw 53 rfl)) (by decide) (backOfSH (vm0 := T22.vm) (s := s) (W := 0) (rmTs l Z a0 hw [] li cs fm bb kb hsx cx nx T30.heap n0 Z_30 SB Od_30 Fb30 Fl30 Eli_30 Hh30 hts.1) hZ (own_w hw 55 rfl) (own_w hw 28 rfl) (by decide) (by decide) hEL CA_30.1) qv32a qv32c (g := (mkF m 145 #[.val (.int p0), .val (.int p1), .val (.int p2), .val (.int la), .val (.int lb), .val (.ref aa), .val (.ref ba), .val (.ref t20), .val (.ref t22), .val (.ref li), .unset, .unset] [(.ref li)])) rfl (by rw [hml]; rfl) (Steps.refl _) (argsL := []) (rest := []) (lenOf pd_8 rfl) rfl (by show 2 * 0 + _ ≤ _; exact Nat.le_of_eq rfl) (hb hby at_145) (fun _ _ => ⟨rfl, rfl, (by decide : 16 + 6 ≤ _), (by decide : 38 + 16 ≤ _)⟩)
  dsimp only [Pt.U, Pt.locs, Pt.cells, Pt.slots] at X32 l32 y32 z32 st32 hQ32 hSi32 hge32 CHn32
  subst l32 y32 z32
  have hS := foldS (s := s) (vm0 := T22.vm) hS kz_30 hSi32 hge32
  have hZ : Z.Warmed39 (s.setVm T32.vm).vm := State.Warmed39.trans (t := s.setVm T22.vm) hZ hSi32.1
  have hown : (s.setVm T32.vm).vm.findClass "com/example/murray_hill/murrayhill/AsciiLineAppendPinLaw" = some m.cls := by rw [show (s.setVm T32.vm).vm = T32.vm from rfl, hSi32.1.alike.findClass]; exact hown
  have X32 : Stand p l e room_1 (s.setVm T32.vm) m #[(.int p0), (.int p1), (.int p2)] below meth c T32 _ _ _ := X32
  obtain ⟨t32, rfl, Nq32, K32, szt32, Et32, Ct32, yy32, ky32, Fvt32, Vy32⟩ := hQ32
  have N32 := Fr.app N30 Nq32
  have g_t32 : n0 ≤ t32 := Nat.le_trans Z_30 szt32
  have ne_aa_t32 : aa ≠ t32 := Nat.ne_of_lt (Nat.lt_of_lt_of_le V_aa_30.lt szt32)
  have ne_ba_t32 : ba ≠ t32 := Nat.ne_of_lt (Nat.lt_of_lt_of_le V_ba_30.lt szt32)
  have ne_li_t32 : li ≠ t32 := Nat.ne_of_lt (Nat.lt_of_lt_of_le Eli_30.lt szt32)
  have ne_bb_t32 : bb ≠ t32 := Nat.ne_of_lt (Nat.lt_of_lt_of_le Hh30.lt szt32)
  have Od_32 := Od_30.keep K32 (all0)
  have Sf_aa_32 := CHr.safe CHn32 V_aa_30.lt Sf_aa_30
  have V_aa_32 := V_aa_30.keep K32 nin0
  have Sf_ba_32 := CHr.safe CHn32 V_ba_30.lt Sf_ba_30
  have V_ba_32 := V_ba_30.keep K32 nin0
  have Sf_li_32 := CHr.safe CHn32 Eli_30.lt Sf_li_30
  have Eli_32 := Eli_30.keep K32
  have Sf_bb_32 := CHr.safe CHn32 Hh30.lt Sf_bb_30
  have Fb30_32 := Fb30.keep K32 nin0
  have Fl30_32 := Fl30.keep K32 nin0
  have Hh30_32 := Hh30.keep K32 nin0
  have CA_32 := CA_30.trans CHn32
  have Z_32 : n0 ≤ T32.heap.size := Nat.le_trans Z_30 K32.1
  have kz_32 : T32.heap.size ≤ T32.heap.size := Nat.le_refl _
  rw [hts.1.1] at Vy32
  have hc7 := hts.1.2.2.1
  have hl4 : cx.length ≤ 4000 := Nat.le_trans hts.1.2.1 (by decide)
  have hwordsLen : ∀ d ∈ StrChars.Road.wordsLen, d.before a0 Z = true := fun d hd => hw d ((by decide +kernel : ∀ d ∈ StrChars.Road.wordsLen, d ∈ tables_1) d hd)
  have st33 : own_S p e below T32 (mkF m 158 #[.val (.int p0), .val (.int p1), .val (.int p2), .val (.int la), .val (.int lb), .val (.ref aa), .val (.ref ba), .val (.ref t20), .val (.ref t22), .val (.ref li), .val (.ref t32), .val (.int (la + lb))] [(.ref t32)]) (mkF m 148 #[.val (.int p0), .val (.int p1), .val (.int p2), .val (.int la), .val (.int lb), .val (.ref aa), .val (.ref ba), .val (.ref t20), .val (.ref t22), .val (.ref li), .unset, .unset] [(.ref t32)]) := by
    intro target kt
    refine XS.astore X32.here hx rfl (hb hby at_148) rfl rfl (l' := #[.val (.int p0), .val (.int p1), .val (.int p2), .val (.int la), .val (.int lb), .val (.ref aa), .val (.ref ba), .val (.ref t20), .val (.ref t22), .val (.ref li), .val (.ref t32), .unset]) rfl ?_
    refine XS.iloadN X32.here hx rfl (hb hby at_150) rfl ?_
    refine XS.iload X32.here hx rfl (hb hby at_151) rfl ?_
    refine XS.iadd X32.here hx rfl (hb hby at_153) rfl ?_
    refine XS.istore X32.here hx rfl (hb hby at_154) rfl (l' := #[.val (.int p0), .val (.int p1), .val (.int p2), .val (.int la), .val (.int lb), .val (.ref aa), .val (.ref ba), .val (.ref t20), .val (.ref t22), .val (.ref li), .val (.ref t32), .val (.int (la + lb))]) rfl ?_
    refine XS.aload X32.here hx rfl (hb hby at_156) rfl rfl ?_
    exact kt
  obtain ⟨cq34, kq34, qv34a, qv34b, qv34c⟩ := isOf hZ rfl Et32
  obtain ⟨_, _, ⟨T34, L34, k34, n34⟩, -, X34, ⟨Lc34, hQ34, l34, y34, z34⟩, st34⟩ := X32.virtualBack hx (y := (⟨"java/lang/String", "length", "()I"⟩ : MethodName)) (z := (⟨"java/lang/String", "length", "()I"⟩ : MethodName)) hown (mvT hZ (own_w hw 60 rfl)) (mvT hZ (own_w hw 41 rfl)) (notFace_of_selects (args := #[]) (mvT hZ (own_w hw 43 rfl))) (mvT hZ (own_w hw 43 rfl)) (mvT hZ (own_w hw 42 rfl)) (by decide) (StrChars.Road.lenW (W := 0) hZ hwordsLen (kI := 4) (own_w hw 6 rfl) (cs := cx) Et32 Fvt32 Ct32 Vy32 (StrChars.Road.codOf rfl (own_hp1 hc7)) (own_hp2 hc7) (SB.1.ext Od_32.2) SB.2.1 hl4 (by decide) (by decide)) qv34a qv34c (g := (mkF m 158 #[.val (.int p0), .val (.int p1), .val (.int p2), .val (.int la), .val (.int lb), .val (.ref aa), .val (.ref ba), .val (.ref t20), .val (.ref t22), .val (.ref li), .val (.ref t32), .val (.int (la + lb))] [(.ref t32)])) rfl (by rw [hml]; rfl) (Steps.refl _) (argsL := []) (rest := []) (lenOf pd_6 rfl) rfl (by show 2 * 0 + _ ≤ _; exact Nat.le_of_eq rfl) (hb hby at_158) (fun _ _ => ⟨rfl, rfl, (by decide : 22 + 0 ≤ _), (by decide : 54 + 0 ≤ _)⟩)
  dsimp only [Pt.U, Pt.locs, Pt.cells, Pt.slots] at X34 l34 y34 z34 st34 hQ34
  subst l34 y34 z34
  obtain ⟨rfl, Lq34, e34⟩ := hQ34
  subst Lq34
  have Nq34 := Fr.nil n0
  have N34 := Fr.app N32 Nq34
  rw [hts.2] at st34
  have st35 : own_S p e below T34 (mkF m 178 #[.val (.int p0), .val (.int p1), .val (.int p2), .val (.int la), .val (.int lb), .val (.ref aa), .val (.ref ba), .val (.ref t20), .val (.ref t22), .val (.ref li), .val (.ref t32), .val (.int (la + lb))] [(.ref ba), (.ref aa), (.int la), (.int (la + lb)), (.int (0 : Int32)), (.ref t32)]) (mkF m 161 #[.val (.int p0), .val (.int p1), .val (.int p2), .val (.int la), .val (.int lb), .val (.ref aa), .val (.ref ba), .val (.ref t20), .val (.ref t22), .val (.ref li), .val (.ref t32), .val (.int (la + lb))] [(.int (la + lb))]) := by
    intro target kt
    refine XS.iload X34.here hx rfl (hb hby at_161) rfl ?_
    refine XS.icmpYes X34.here hx rfl (pc0 := 163) (pc' := 168) rfl (hb hby at_163) rfl (teq (rfl : (la + lb) = (la + lb))).1 (by decide) (by decide) ?_
    refine XS.aload X34.here hx rfl (hb hby at_168) rfl rfl ?_
    refine XS.iconst X34.here hx rfl (hb hby at_170) ?_
    refine XS.iload X34.here hx rfl (hb hby at_171) rfl ?_
    refine XS.iloadN X34.here hx rfl (hb hby at_173) rfl ?_
    refine XS.aload X34.here hx rfl (hb hby at_174) rfl rfl ?_
    refine XS.aload X34.here hx rfl (hb hby at_176) rfl rfl ?_
    exact kt
  obtain ⟨_, _, ⟨T36, L36, k36, n36⟩, -, X36, ⟨Lc36, hQ36, l36, y36, z36⟩, st36⟩ := Jvm.LawKit.callS X34 hx (y := (⟨"com/example/murray_hill/murrayhill/AsciiLineAppendPinLaw", "at", "(Ljava/lang/String;III[C[C)Z"⟩ : MethodName)) hown (mvT hZ (own_w hw 61 rfl)) (mvT hZ (own_w hw 62 rfl)) (mvT hZ (own_w hw 3 rfl)) (mvT hZ (own_w hw 63 rfl)) (by decide) (backOf (W := 0) (rmAt0 l Z a0 hw [] t32 (la + lb) la aa ba cs fm yy32 ky32 cx k4 k12 xa0 xa1 xa2 xb0 xb1 xb2 T32.heap n0 Z_32 SB Od_32 Fvt32 Ct32 Et32 Vy32 hc7 hl4 V_aa_32 V_ba_32 hD0) hZ (own_w hw 63 rfl) (own_w hw 3 rfl) (by decide) (by decide)) (g := (mkF m 178 #[.val (.int p0), .val (.int p1), .val (.int p2), .val (.int la), .val (.int lb), .val (.ref aa), .val (.ref ba), .val (.ref t20), .val (.ref t22), .val (.ref li), .val (.ref t32), .val (.int (la + lb))] [(.ref ba), (.ref aa), (.int la), (.int (la + lb)), (.int (0 : Int32)), (.ref t32)])) rfl (by rw [hml]; rfl) (argsL := [(.ref t32), (.int (0 : Int32)), (.int (la + lb)), (.int la), (.ref aa), (.ref ba)]) (rest := []) (lenOf pd_9 rfl) rfl (by show 2 * 0 + _ ≤ _; exact Nat.le_of_eq rfl) (hb hby at_178) (fun _ _ => ⟨rfl, e34, (by decide : 22 + 0 ≤ _), (by decide : 54 + 0 ≤ _)⟩)
  dsimp only [Pt.U, Pt.locs, Pt.cells, Pt.slots] at X36 l36 y36 z36 st36 hQ36
  subst l36 y36 z36
  obtain ⟨rfl, Nq36, e36⟩ := hQ36
  have N36 := Fr.app N34 Nq36
  have st37 : own_S p e below T36 (mkF m 194 #[.val (.int p0), .val (.int p1), .val (.int p2), .val (.int la), .val (.int lb), .val (.ref aa), .val (.ref ba), .val (.ref t20), .val (.ref t22), .val (.ref li), .val (.ref t32), .val (.int (la + lb))] [(.ref ba), (.ref aa), (.int la), (.int (la + lb)), (.int (1 : Int32)), (.ref t32)]) (mkF m 181 #[.val (.int p0), .val (.int p1), .val (.int p2), .val (.int la), .val (.int lb), .val (.ref aa), .val (.ref ba), .val (.ref t20), .val (.ref t22), .val (.ref li), .val (.ref t32), .val (.int (la + lb))] [(.int (1 : Int32))]) := by
    intro target kt
    refine XS.ifNo X36.here hx rfl (hb hby at_181) rfl ((if0 _ _).trans (feq (by decide : ¬ ((1 : Int32) = (0 : Int32)))).1) ?_
    refine XS.aload X36.here hx rfl (hb hby at_184) rfl rfl ?_
    refine XS.iconst X36.here hx rfl (hb hby at_186) ?_
    refine XS.iload X36.here hx rfl (hb hby at_187) rfl ?_
    refine XS.iloadN X36.here hx rfl (hb hby at_189) rfl ?_
    refine XS.aload X36.here hx rfl (hb hby at_190) rfl rfl ?_
    refine XS.aload X36.here hx rfl (hb hby at_192) rfl rfl ?_
    exact kt
  obtain ⟨_, _, ⟨T38, L38, k38, n38⟩, -, X38, ⟨Lc38, hQ38, l38, y38, z38⟩, st38⟩ := Jvm.LawKit.callS X36 hx (y := (⟨"com/example/murray_hill/murrayhill/AsciiLineAppendPinLaw", "at", "(Ljava/lang/String;III[C[C)Z"⟩ : MethodName)) hown (mvT hZ (own_w hw 61 rfl)) (mvT hZ (own_w hw 62 rfl)) (mvT hZ (own_w hw 3 rfl)) (mvT hZ (own_w hw 63 rfl)) (by decide) (backOf (W := 0) (rmAt1 l Z a0 hw [] t32 (la + lb) la aa ba cs fm yy32 ky32 cx k4 k12 xa0 xa1 xa2 xb0 xb1 xb2 T32.heap n0 Z_32 SB Od_32 Fvt32 Ct32 Et32 Vy32 hc7 hl4 V_aa_32 V_ba_32 hD1) hZ (own_w hw 63 rfl) (own_w hw 3 rfl) (by decide) (by decide)) (g := (mkF m 194 #[.val (.int p0), .val (.int p1), .val (.int p2), .val (.int la), .val (.int lb), .val (.ref aa), .val (.ref ba), .val (.ref t20), .val (.ref t22), .val (.ref li), .val (.ref t32), .val (.int (la + lb))] [(.ref ba), (.ref aa), (.int la), (.int (la + lb)), (.int (1 : Int32)), (.ref t32)])) rfl (by rw [hml]; rfl) (argsL := [(.ref t32), (.int (1 : Int32)), (.int (la + lb)), (.int la), (.ref aa), (.ref ba)]) (rest := []) (lenOf pd_9 rfl) rfl (by show 2 * 0 + _ ≤ _; exact Nat.le_of_eq rfl) (hb hby at_194) (fun _ _ => ⟨rfl, e36, (by decide : 22 + 0 ≤ _), (by decide : 54 + 0 ≤ _)⟩)
  dsimp only [Pt.U, Pt.locs, Pt.cells, Pt.slots] at X38 l38 y38 z38 st38 hQ38
  subst l38 y38 z38
  obtain ⟨rfl, Nq38, e38⟩ := hQ38
  have N38 := Fr.app N36 Nq38
  have st39 : own_S p e below T38 (mkF m 210 #[.val (.int p0), .val (.int p1), .val (.int p2), .val (.int la), .val (.int lb), .val (.ref aa), .val (.ref ba), .val (.ref t20), .val (.ref t22), .val (.ref li), .val (.ref t32), .val (.int (la + lb))] [(.ref ba), (.ref aa), (.int la), (.int (la + lb)), (.int (2 : Int32)), (.ref t32)]) (mkF m 197 #[.val (.int p0), .val (.int p1), .val (.int p2), .val (.int la), .val (.int lb), .val (.ref aa), .val (.ref ba), .val (.ref t20), .val (.ref t22), .val (.ref li), .val (.ref t32), .val (.int (la + lb))] [(.int (1 : Int32))]) := by
    intro target kt
    refine XS.ifNo X38.here hx rfl (hb hby at_197) rfl ((if0 _ _).trans (feq (by decide : ¬ ((1 : Int32) = (0 : Int32)))).1) ?_
    refine XS.aload X38.here hx rfl (hb hby at_200) rfl rfl ?_
    refine XS.iconst X38.here hx rfl (hb hby at_202) ?_
    refine XS.iload X38.here hx rfl (hb hby at_203) rfl ?_
    refine XS.iloadN X38.here hx rfl (hb hby at_205) rfl ?_
    refine XS.aload X38.here hx rfl (hb hby at_206) rfl rfl ?_
    refine XS.aload X38.here hx rfl (hb hby at_208) rfl rfl ?_
    exact kt
  obtain ⟨_, _, ⟨T40, L40, k40, n40⟩, -, X40, ⟨Lc40, hQ40, l40, y40, z40⟩, st40⟩ := Jvm.LawKit.callS X38 hx (y := (⟨"com/example/murray_hill/murrayhill/AsciiLineAppendPinLaw", "at", "(Ljava/lang/String;III[C[C)Z"⟩ : MethodName)) hown (mvT hZ (own_w hw 61 rfl)) (mvT hZ (own_w hw 62 rfl)) (mvT hZ (own_w hw 3 rfl)) (mvT hZ (own_w hw 63 rfl)) (by decide) (backOf (W := 0) (rmAt2 l Z a0 hw [] t32 (la + lb) la aa ba cs fm yy32 ky32 cx k4 k12 xa0 xa1 xa2 xb0 xb1 xb2 T32.heap n0 Z_32 SB Od_32 Fvt32 Ct32 Et32 Vy32 hc7 hl4 V_aa_32 V_ba_32 hD2) hZ (own_w hw 63 rfl) (own_w hw 3 rfl) (by decide) (by decide)) (g := (mkF m 210 #[.val (.int p0), .val (.int p1), .val (.int p2), .val (.int la), .val (.int lb), .val (.ref aa), .val (.ref ba), .val (.ref t20), .val (.ref t22), .val (.ref li), .val (.ref t32), .val (.int (la + lb))] [(.ref ba), (.ref aa), (.int la), (.int (la + lb)), (.int (2 : Int32)), (.ref t32)])) rfl (by rw [hml]; rfl) (argsL := [(.ref t32), (.int (2 : Int32)), (.int (la + lb)), (.int la), (.ref aa), (.ref ba)]) (rest := []) (lenOf pd_9 rfl) rfl (by show 2 * 0 + _ ≤ _; exact Nat.le_of_eq rfl) (hb hby at_210) (fun _ _ => ⟨rfl, e38, (by decide : 22 + 0 ≤ _), (by decide : 54 + 0 ≤ _)⟩)
  dsimp only [Pt.U, Pt.locs, Pt.cells, Pt.slots] at X40 l40 y40 z40 st40 hQ40
  subst l40 y40 z40
  obtain ⟨rfl, Nq40, e40⟩ := hQ40
  have N40 := Fr.app N38 Nq40
  have st41 : own_S p e below T40 (mkF m 226 #[.val (.int p0), .val (.int p1), .val (.int p2), .val (.int la), .val (.int lb), .val (.ref aa), .val (.ref ba), .val (.ref t20), .val (.ref t22), .val (.ref li), .val (.ref t32), .val (.int (la + lb))] [(.ref ba), (.ref aa), (.int la), (.int (la + lb)), (.int (3 : Int32)), (.ref t32)]) (mkF m 213 #[.val (.int p0), .val (.int p1), .val (.int p2), .val (.int la), .val (.int lb), .val (.ref aa), .val (.ref ba), .val (.ref t20), .val (.ref t22), .val (.ref li), .val (.ref t32), .val (.int (la + lb))] [(.int (1 : Int32))]) := by
    intro target kt
    refine XS.ifNo X40.here hx rfl (hb hby at_213) rfl ((if0 _ _).trans (feq (by decide : ¬ ((1 : Int32) = (0 : Int32)))).1) ?_
    refine XS.aload X40.here hx rfl (hb hby at_216) rfl rfl ?_
    refine XS.iconst X40.here hx rfl (hb hby at_218) ?_
    refine XS.iload X40.here hx rfl (hb hby at_219) rfl ?_
    refine XS.iloadN X40.here hx rfl (hb hby at_221) rfl ?_
    refine XS.aload X40.here hx rfl (hb hby at_222) rfl rfl ?_
    refine XS.aload X40.here hx rfl (hb hby at_224) rfl rfl ?_
    exact kt
  obtain ⟨_, _, ⟨T42, L42, k42, n42⟩, -, X42, ⟨Lc42, hQ42, l42, y42, z42⟩, st42⟩ := Jvm.LawKit.callS X40 hx (y := (⟨"com/example/murray_hill/murrayhill/AsciiLineAppendPinLaw", "at", "(Ljava/lang/String;III[C[C)Z"⟩ : MethodName)) hown (mvT hZ (own_w hw 61 rfl)) (mvT hZ (own_w hw 62 rfl)) (mvT hZ (own_w hw 3 rfl)) (mvT hZ (own_w hw 63 rfl)) (by decide) (backOf (W := 0) (rmAt3 l Z a0 hw [] t32 (la + lb) la aa ba cs fm yy32 ky32 cx k4 k12 xa0 xa1 xa2 xb0 xb1 xb2 T32.heap n0 Z_32 SB Od_32 Fvt32 Ct32 Et32 Vy32 hc7 hl4 V_aa_32 V_ba_32 hD3) hZ (own_w hw 63 rfl) (own_w hw 3 rfl) (by decide) (by decide)) (g := (mkF m 226 #[.val (.int p0), .val (.int p1), .val (.int p2), .val (.int la), .val (.int lb), .val (.ref aa), .val (.ref ba), .val (.ref t20), .val (.ref t22), .val (.ref li), .val (.ref t32), .val (.int (la + lb))] [(.ref ba), (.ref aa), (.int la), (.int (la + lb)), (.int (3 : Int32)), (.ref t32)])) rfl (by rw [hml]; rfl) (argsL := [(.ref t32), (.int (3 : Int32)), (.int (la + lb)), (.int la), (.ref aa), (.ref ba)]) (rest := []) (lenOf pd_9 rfl) rfl (by show 2 * 0 + _ ≤ _; exact Nat.le_of_eq rfl) (hb hby at_226) (fun _ _ => ⟨rfl, e40, (by decide : 22 + 0 ≤ _), (by decide : 54 + 0 ≤ _)⟩)
  dsimp only [Pt.U, Pt.locs, Pt.cells, Pt.slots] at X42 l42 y42 z42 st42 hQ42
  subst l42 y42 z42
  obtain ⟨rfl, Nq42, e42⟩ := hQ42
  have N42 := Fr.app N40 Nq42
  have st43 : own_S p e below T42 (mkF m 242 #[.val (.int p0), .val (.int p1), .val (.int p2), .val (.int la), .val (.int lb), .val (.ref aa), .val (.ref ba), .val (.ref t20), .val (.ref t22), .val (.ref li), .val (.ref t32), .val (.int (la + lb))] [(.ref ba), (.ref aa), (.int la), (.int (la + lb)), (.int (4 : Int32)), (.ref t32)]) (mkF m 229 #[.val (.int p0), .val (.int p1), .val (.int p2), .val (.int la), .val (.int lb), .val (.ref aa), .val (.ref ba), .val (.ref t20), .val (.ref t22), .val (.ref li), .val (.ref t32), .val (.int (la + lb))] [(.int (1 : Int32))]) := by
    intro target kt
    refine XS.ifNo X42.here hx rfl (hb hby at_229) rfl ((if0 _ _).trans (feq (by decide : ¬ ((1 : Int32) = (0 : Int32)))).1) ?_
    refine XS.aload X42.here hx rfl (hb hby at_232) rfl rfl ?_
    refine XS.iconst X42.here hx rfl (hb hby at_234) ?_
    refine XS.iload X42.here hx rfl (hb hby at_235) rfl ?_
    refine XS.iloadN X42.here hx rfl (hb hby at_237) rfl ?_
    refine XS.aload X42.here hx rfl (hb hby at_238) rfl rfl ?_
    refine XS.aload X42.here hx rfl (hb hby at_240) rfl rfl ?_
    exact kt
  obtain ⟨_, _, ⟨T44, L44, k44, n44⟩, -, X44, ⟨Lc44, hQ44, l44, y44, z44⟩, st44⟩ := Jvm.LawKit.callS X42 hx (y := (⟨"com/example/murray_hill/murrayhill/AsciiLineAppendPinLaw", "at", "(Ljava/lang/String;III[C[C)Z"⟩ : MethodName)) hown (mvT hZ (own_w hw 61 rfl)) (mvT hZ (own_w hw 62 rfl)) (mvT hZ (own_w hw 3 rfl)) (mvT hZ (own_w hw 63 rfl)) (by decide) (backOf (W := 0) (rmAt4 l Z a0 hw [] t32 (la + lb) la aa ba cs fm yy32 ky32 cx k4 k12 xa0 xa1 xa2 xb0 xb1 xb2 T32.heap n0 Z_32 SB Od_32 Fvt32 Ct32 Et32 Vy32 hc7 hl4 V_aa_32 V_ba_32 hD4) hZ (own_w hw 63 rfl) (own_w hw 3 rfl) (by decide) (by decide)) (g := (mkF m 242 #[.val (.int p0), .val (.int p1), .val (.int p2), .val (.int la), .val (.int lb), .val (.ref aa), .val (.ref ba), .val (.ref t20), .val (.ref t22), .val (.ref li), .val (.ref t32), .val (.int (la + lb))] [(.ref ba), (.ref aa), (.int la), (.int (la + lb)), (.int (4 : Int32)), (.ref t32)])) rfl (by rw [hml]; rfl) (argsL := [(.ref t32), (.int (4 : Int32)), (.int (la + lb)), (.int la), (.ref aa), (.ref ba)]) (rest := []) (lenOf pd_9 rfl) rfl (by show 2 * 0 + _ ≤ _; exact Nat.le_of_eq rfl) (hb hby at_242) (fun _ _ => ⟨rfl, e42, (by decide : 22 + 0 ≤ _), (by decide : 54 + 0 ≤ _)⟩)
  dsimp only [Pt.U, Pt.locs, Pt.cells, Pt.slots] at X44 l44 y44 z44 st44 hQ44
  subst l44 y44 z44
  obtain ⟨rfl, Nq44, e44⟩ := hQ44
  have N44 := Fr.app N42 Nq44
  have st45 : own_S p e below T44 (mkF m 258 #[.val (.int p0), .val (.int p1), .val (.int p2), .val (.int la), .val (.int lb), .val (.ref aa), .val (.ref ba), .val (.ref t20), .val (.ref t22), .val (.ref li), .val (.ref t32), .val (.int (la + lb))] [(.ref ba), (.ref aa), (.int la), (.int (la + lb)), (.int (5 : Int32)), (.ref t32)]) (mkF m 245 #[.val (.int p0), .val (.int p1), .val (.int p2), .val (.int la), .val (.int lb), .val (.ref aa), .val (.ref ba), .val (.ref t20), .val (.ref t22), .val (.ref li), .val (.ref t32), .val (.int (la + lb))] [(.int (1 : Int32))]) := by
    intro target kt
    refine XS.ifNo X44.here hx rfl (hb hby at_245) rfl ((if0 _ _).trans (feq (by decide : ¬ ((1 : Int32) = (0 : Int32)))).1) ?_
    refine XS.aload X44.here hx rfl (hb hby at_248) rfl rfl ?_
    refine XS.iconst X44.here hx rfl (hb hby at_250) ?_
    refine XS.iload X44.here hx rfl (hb hby at_251) rfl ?_
    refine XS.iloadN X44.here hx rfl (hb hby at_253) rfl ?_
    refine XS.aload X44.here hx rfl (hb hby at_254) rfl rfl ?_
    refine XS.aload X44.here hx rfl (hb hby at_256) rfl rfl ?_
    exact kt
  obtain ⟨_, _, ⟨T46, L46, k46, n46⟩, -, X46, ⟨Lc46, hQ46, l46, y46, z46⟩, st46⟩ := Jvm.LawKit.callS X44 hx (y := (⟨"com/example/murray_hill/murrayhill/AsciiLineAppendPinLaw", "at", "(Ljava/lang/String;III[C[C)Z"⟩ : MethodName)) hown (mvT hZ (own_w hw 61 rfl)) (mvT hZ (own_w hw 62 rfl)) (mvT hZ (own_w hw 3 rfl)) (mvT hZ (own_w hw 63 rfl)) (by decide) (backOf (W := 0) (rmAt5 l Z a0 hw [] t32 (la + lb) la aa ba cs fm yy32 ky32 cx k4 k12 xa0 xa1 xa2 xb0 xb1 xb2 T32.heap n0 Z_32 SB Od_32 Fvt32 Ct32 Et32 Vy32 hc7 hl4 V_aa_32 V_ba_32 hD5) hZ (own_w hw 63 rfl) (own_w hw 3 rfl) (by decide) (by decide)) (g := (mkF m 258 #[.val (.int p0), .val (.int p1), .val (.int p2), .val (.int la), .val (.int lb), .val (.ref aa), .val (.ref ba), .val (.ref t20), .val (.ref t22), .val (.ref li), .val (.ref t32), .val (.int (la + lb))] [(.ref ba), (.ref aa), (.int la), (.int (la + lb)), (.int (5 : Int32)), (.ref t32)])) rfl (by rw [hml]; rfl) (argsL := [(.ref t32), (.int (5 : Int32)), (.int (la + lb)), (.int la), (.ref aa), (.ref ba)]) (rest := []) (lenOf pd_9 rfl) rfl (by show 2 * 0 + _ ≤ _; exact Nat.le_of_eq rfl) (hb hby at_258) (fun _ _ => ⟨rfl, e44, (by decide : 22 + 0 ≤ _), (by decide : 54 + 0 ≤ _)⟩)
  dsimp only [Pt.U, Pt.locs, Pt.cells, Pt.slots] at X46 l46 y46 z46 st46 hQ46
  subst l46 y46 z46
  obtain ⟨rfl, Nq46, e46⟩ := hQ46
  have N46 := Fr.app N44 Nq46
  obtain ⟨fs, hr, hrun, hended, hRW⟩ := Jvm.Stand.leaveW (s := s) X46 hS (by rw [e46]; exact kz_32) (v := some (.int (1 : Int32))) (fun h => by rw [Bd.returns] at h; cases h)
  have CE : CHr Z own_EL s.vm s.heap T46.vm T46.heap := by
    rw [hh, e46]
    exact CA_32.trans (CHv.at (vm0 := T32.vm) (s := s) X46 hZ hEL CA_32.1)
  refine ⟨_, _, pre0 _ (st1 _ (st2 _ (st3 _ (st4 _ (st5 _ (st6 _ (st7 _ (st8 _ (st9 _ (st10 _ (st11 _ (st12 _ (st13 _ (st14 _ (st15 _ (st16 _ (st17 _ (st18 _ (st19 _ (st20.trans (st21 _ (st22.trans (st23 _ (st24 _ (st25 _ (st26.trans (st27 _ (st28.trans (st29 _ (st30.trans (st31 _ (st32.trans (st33 _ (st34.trans (st35 _ (st36 _ (st37 _ (st38 _ (st39 _ (st40 _ (st41 _ (st42 _ (st43 _ (st44 _ (st45 _ (st46 _ ?_)))))))))))))))))))))))))))))))))))))))))))))), hrun, hended, _, _, rfl, ?_, CE, hRW.1, hRW.2.1, hRW.2.2.1, hRW.2.2.2.mono (by decide) (by decide)⟩
  · refine XS.ifNo X46.here hx rfl (hb hby at_261) rfl ((if0 _ _).trans (feq (by decide : ¬ ((1 : Int32) = (0 : Int32)))).1) ?_
    refine XS.iconst X46.here hx rfl (hb hby at_264) ?_
    refine XS.goto X46.here hx rfl (pc0 := 265) (pc' := 269) rfl (hb hby at_265) (by decide) (by decide) ?_
    show Steps p.tables e below (T46.setTop (mkF m 269 #[.val (.int p0), .val (.int p1), .val (.int p2), .val (.int la), .val (.int lb), .val (.ref aa), .val (.ref ba), .val (.ref t20), .val (.ref t22), .val (.ref li), .val (.ref t32), .val (.int (la + lb))] [(.int (1 : Int32))])) _
    exact retN X46 hx (t := .boolean) Bd.returns (by simp) (hb hby at_269) hr
  · show Q_rm0 Z p0 p1 p2 cs fm h0 n0 _ T46.heap _
    rw [e46]
    exact ⟨rfl, N46⟩
set_option maxRecDepth 65536 in
set_option maxHeartbeats 40000000 in
theorem comes_1 {Post : Tables → Env → Array Value → State → Outcome → State → Prop} (hpost : ∀ tb e args s v u, (limb_1_1.after args s (.returned v) u = true ∧ limb_1_2.after args s (.returned v) u = true ∧ True) → FramedW s (.returned v) u (Jvm.fieldLocs frame_1_writes args s ++ Jvm.arrayLocs frame_1_arrays args s ++ Jvm.staticLocs frame_1_statics s) 40 1216 → Post tb e args s (.returned v) u) :
    ArmFor flags0 classFile x code maxLocals ret World_1 tables_1 room_1 Calls_1 rest_1 Pre_1 Post := by
  intro l hfl _ _ p e ha hc hk s m args below hf hA hF happ hP
  obtain ⟨hcalls, hrest, hpre⟩ := hP
  obtain ⟨-, -, -, hnamed, -, -, -, hat⟩ := (Spec.applies_iff hf).mp happ
  obtain ⟨hg, hn⟩ := and_e (Cond.before_iff.mp (show (Jvm.Cond.and given_1 narrow_1).before args s = true from hpre))
  obtain ⟨gg1, gg2⟩ := and_e hg
  obtain ⟨gg3, gg4⟩ := and_e gg2
  obtain ⟨gg5, gg6⟩ := and_e gg4
  obtain ⟨w0, w1, w2, rfl⟩ : ∃ w0 w1 w2 : Value, args = #[w0, w1, w2] := by
    have hs : args.size = 3 := by simpa [Cond.value, given_1] using gg1
    obtain ⟨L⟩ := args
    match L, hs with
    | [w0, w1, w2], _ => exact ⟨w0, w1, w2, rfl⟩
  have hw := fun d (hd : d ∈ tables_1) => atoms_spec (ws := Jvm.Cond.code x code maxLocals ret :: tables_1) hat d (List.mem_cons_of_mem _ hd)
  have hfit : Fit s := fun {y c} hc i hi => by
    obtain ⟨ha, rfl⟩ := Array.getElem?_eq_some_iff.mp hc
    have q := List.all_eq_true.mp ((Array.all_eq_true_iff_forall_mem.mp hF) _ (Array.getElem_mem ha)) i (List.mem_range.mpr hi)
    simpa [Array.getElem?_eq_getElem hi] using q
  obtain ⟨hsets, hown0⟩ := atoms_of _ (rest_1_c_eq ▸ (show rest_1_c.before _ s = true from hrest))
  have hr0 := Cond.before_iff.mp hown0
  obtain ⟨i0, ei0⟩ := is_v gg3
  obtain rfl : w0 = (.int i0) := Option.some.inj ei0
  obtain ⟨i1, ei1⟩ := is_v gg5
  obtain rfl : w1 = (.int i1) := Option.some.inj ei1
  obtain ⟨i2, ei2⟩ := is_v gg6
  obtain rfl : w2 = (.int i2) := Option.some.inj ei2
  obtain ⟨cs, ev_cs⟩ := is_v (Cond.before_iff.mp (hsets _ (List.mem_of_getElem? (i := 1) rfl)))
  have S_cs : Sta s s.heap "java/lang/String" "COMPACT_STRINGS" "Z" (.int cs) := Sta.start ev_cs (Or.inl (hsets _ (List.mem_of_getElem? (i := 0) rfl)))
  have hcs : ¬ cs = 0 := by
    intro q
    have u := not_v (Cond.before_iff.mp (hsets _ (List.mem_of_getElem? (i := 2) rfl)))
    have u2 := eq_i (o := none) (idx := []) ev_cs (Term.int_eval (0 : Int32)) (by rw [q])
    rw [u2] at u; cases u
  obtain ⟨fm, ev_fm, r_fm⟩ := isR_v (Cond.before_iff.mp (hsets _ (List.mem_of_getElem? (i := 8) rfl)))
  have S_fm : Sta s s.heap "jdk/internal/util/Preconditions" "SIOOBE_FORMATTER" "Ljava/util/function/BiFunction;" fm := Sta.start ev_fm (Or.inl (hsets _ (List.mem_of_getElem? (i := 7) rfl)))
  have hh0 : ∀ p ∈ own_EL, Jvm.Lit.constHeld s p.1 p.2 := fun p hp => (show _ ∧ True from hcalls).1 p hp
  obtain ⟨n, o, h1, h2, h3, _, L, rfl, ⟨rfl, N⟩, -, hq⟩ := rm0 l s _ hw tables_1 i0 i1 i2 cs fm s.heap s.heap.size (Nat.le_refl _) ⟨S_cs, hcs, S_fm, r_fm⟩ (Old.start s) p e ha hc hk s m _ below hf ((Spec.applies_iff_loose hf).mp happ).1 ⟨rfl, State.Warmed39.refl s, rfl, CHv.start (own_hEL hw) hh0 (hsets _ (List.mem_of_getElem? (i := 2) rfl)) (own_w hw 19 rfl) (own_w hw 6 rfl)⟩ trivial
  refine ⟨n, _, h1, h2, h3, hpost _ _ _ _ _ _ ⟨Cond.after_iff.mpr rfl, Cond.after_iff.mpr (eq_i res_at (Term.int_eval (1)) rfl), trivial⟩ ⟨hq.1, hq.2.1, hq.2.2.1, (hq.2.2.2.sift fun y hy => Or.inr (N y hy)).mono (by decide) (by decide)⟩⟩
theorem main_1_1 : Claimed_1_1 := comes_1 fun _ _ _ _ _ _ h hF => ⟨h.1, hF⟩
theorem main_1_2 : Claimed_1_2 := comes_1 fun _ _ _ _ _ _ h hF => ⟨h.2.1, hF⟩
end Jvm.Pilot.@@N@@
namespace Jvm.Pilot.@@N@@
open Jvm Jvm.ClassFile Sem Op Lib Jvm.Free Jvm.Stand Jvm.Pilot.@@N@@.Jvm.D
/-! MADE BY PROGRAM (witnessworld.py) out of the Statement's table words and the real class files: 20 classes; the members and pool entries that the words name. The judged class is class 1, her method 1. -/
namespace start1
open Jvm.ClassFile
def u (s : String) : CpInfo := .utf8 (stringToUtf16 s)
/-- a pool by its gaps: so many unusable entries, then the entry; so many at the end -/
def gap : Nat → List CpInfo → List CpInfo
  | 0, r => r
  | n + 1, r => .unusable :: gap n r
def poolList (es : List (Nat × CpInfo)) (last : Nat) : List CpInfo := es.foldr (fun e r => gap e.1 (e.2 :: r)) (gap last [])
def pool (es : List (Nat × CpInfo)) (last : Nat) : Array CpInfo := ⟨poolList es last⟩
def fileOf (pool : Array CpInfo) (this : Nat) (attrs : Array Attribute := #[]) (ms : Array MethodInfo := #[]) (fl : Nat := 33) (sup : Nat := 0) (ifs : Array Nat := #[]) (fds : Array FieldInfo := #[]) : ClassFile where
  minorVersion := 0
  majorVersion := 65
  constantPool := pool
  accessFlags := fl
  thisClass := this
  superClass := sup
  interfaces := ifs
  fields := fds
  methods := ms
  attributes := attrs
def plain (name : String) (sup : Option ClassId) : Class where
  name := name
  kind := .ordinary
  loader := none
  accessFlags := 33
  super := sup
  interfaces := #[]
  cf := none
  fields := #[]
  methods := #[]
  instanceTypes := #[]
  staticTypes := #[]
  resolved := #[]
  callSites := []
  init := .initialized
  statics := none
  mirror := none

def pool0 : Array CpInfo := pool [(5, u "<init>"), (0, u "()V"), (1, .class_ 10), (1, u "java/lang/Object")] 113

def k0c0 : Code := { maxStack := 0, maxLocals := 1, code := object_method_1_code, exceptionTable := #[], attributes := #[] }
def k0m0 : Method := { name := "<init>", desc := "()V", sig := { parameters := [], returnType := none }, accessFlags := 1, code := some k0c0 }
/-- java/lang/Object -/
def k0 : Class := { plain "java/lang/Object" none with
  accessFlags := 33
  interfaces := #[]
  cf := some (fileOf pool0 8 #[] #[{ accessFlags := 1, nameIndex := 5, descriptorIndex := 6, attributes := #[] }] 33 0 #[] #[])
  fields := #[]
  methods := #[k0m0]
  instanceTypes := #[]
  staticTypes := #[]
  resolved := Array.replicate 124 none
  statics := none }

def pool1 : Array CpInfo := pool [(2, .class_ 4), (1, u "java/lang/Object"), (0, u "<init>"), (0, u "()V"), (0, .methodref 8 9), (0, .class_ 10), (0, .nameAndType 11 12), (0, u "com/example/murray_hill/murrayhill/AsciiLineAppendPinLaw"), (0, u "make"), (0, u "(I[C)Ljava/lang/String;"), (0, .class_ 14), (0, u "com/example/murray_hill/murrayhill/AsciiLine"), (0, .methodref 13 16), (0, .nameAndType 5 17), (0, u "(I)V"), (0, .methodref 13 19), (0, .nameAndType 20 21), (0, u "append"), (0, u "(Ljava/lang/String;)Lcom/example/murray_hill/murrayhill/AsciiLine;"), (0, .methodref 13 23), (0, .nameAndType 24 25), (0, u "toString"), (0, u "()Ljava/lang/String;"), (0, .methodref 27 28), (0, .class_ 29), (0, .nameAndType 30 31), (0, u "java/lang/String"), (0, u "length"), (0, u "()I"), (0, .methodref 8 33), (0, .nameAndType 34 35), (0, u "at"), (0, u "(Ljava/lang/String;III[C[C)Z"), (0, .methodref 27 37), (0, .nameAndType 5 38), (0, u "([C)V"), (0, .methodref 27 40), (0, .nameAndType 41 42), (0, u "charAt"), (0, u "(I)C"), (2, u "law"), (0, u "(III)Z")] 5

def k1m0 : Method := { name := "<init>", desc := "()V", sig := { parameters := [], returnType := none }, accessFlags := 1, code := none }
def k1c1 : Code := { maxStack := 6, maxLocals := 12, code := code, exceptionTable := #[], attributes := #[] }
def k1m1 : Method := { name := "law", desc := "(III)Z", sig := { parameters := [.int, .int, .int], returnType := some .boolean }, accessFlags := 9, code := some k1c1 }
def k1c2 : Code := { maxStack := 7, maxLocals := 2, code := method_3_code, exceptionTable := #[], attributes := #[] }
def k1m2 : Method := { name := "make", desc := "(I[C)Ljava/lang/String;", sig := { parameters := [.int, (.array .char)], returnType := some (.object "java/lang/String") }, accessFlags := 10, code := some k1c2 }
def k1c3 : Code := { maxStack := 3, maxLocals := 7, code := method_4_code, exceptionTable := #[], attributes := #[] }
def k1m3 : Method := { name := "at", desc := "(Ljava/lang/String;III[C[C)Z", sig := { parameters := [(.object "java/lang/String"), .int, .int, .int, (.array .char), (.array .char)], returnType := some .boolean }, accessFlags := 10, code := some k1c3 }
/-- com/example/murray_hill/murrayhill/AsciiLineAppendPinLaw -/
def k1 : Class := { plain "com/example/murray_hill/murrayhill/AsciiLineAppendPinLaw" (some 0) with
  accessFlags := 49
  interfaces := #[]
  cf := some (fileOf pool1 8 #[] #[{ accessFlags := 1, nameIndex := 5, descriptorIndex := 6, attributes := #[] }, { accessFlags := 9, nameIndex := 45, descriptorIndex := 46, attributes := #[] }, { accessFlags := 10, nameIndex := 11, descriptorIndex := 12, attributes := #[] }, { accessFlags := 10, nameIndex := 34, descriptorIndex := 35, attributes := #[] }] 49 2 #[] #[])
  fields := #[]
  methods := #[k1m0, k1m1, k1m2, k1m3]
  instanceTypes := #[]
  staticTypes := #[]
  resolved := Array.replicate 52 none
  statics := none }

def pool2 : Array CpInfo := pool [(1, .class_ 2), (0, u "java/io/Serializable"), (0, .class_ 4), (0, u "java/lang/Object")] 2

/-- java/io/Serializable -/
def k2 : Class := { plain "java/io/Serializable" (some 0) with
  accessFlags := 1537
  interfaces := #[]
  cf := some (fileOf pool2 1 #[] #[] 1537 3 #[] #[])
  fields := #[]
  methods := #[]
  instanceTypes := #[]
  staticTypes := #[]
  resolved := Array.replicate 7 none
  statics := none }

def pool3 : Array CpInfo := pool [(1, .class_ 2), (0, u "java/lang/Comparable"), (0, .class_ 4), (0, u "java/lang/Object")] 7

/-- java/lang/Comparable -/
def k3 : Class := { plain "java/lang/Comparable" (some 0) with
  accessFlags := 1537
  interfaces := #[]
  cf := some (fileOf pool3 1 #[] #[] 1537 3 #[] #[])
  fields := #[]
  methods := #[]
  instanceTypes := #[]
  staticTypes := #[]
  resolved := Array.replicate 12 none
  statics := none }

def pool4 : Array CpInfo := pool [(2, .class_ 4), (1, u "java/lang/CharSequence"), (42, .class_ 48), (0, u "java/lang/CharSequence$1CodePointIterator"), (10, .class_ 60), (0, u "java/lang/CharSequence$1CharIterator"), (5, .class_ 67), (0, u "java/lang/Object")] 63

/-- java/lang/CharSequence -/
def k4 : Class := { plain "java/lang/CharSequence" (some 0) with
  accessFlags := 1537
  interfaces := #[]
  cf := some (fileOf pool4 2 #[.nestMembers #[47, 59]] #[] 1537 66 #[] #[])
  fields := #[]
  methods := #[]
  instanceTypes := #[]
  staticTypes := #[]
  resolved := Array.replicate 131 none
  statics := none }

def pool5 : Array CpInfo := pool [(1, .class_ 2), (0, u "java/lang/constant/Constable"), (0, .class_ 4), (0, u "java/lang/Object")] 6

/-- java/lang/constant/Constable -/
def k5 : Class := { plain "java/lang/constant/Constable" (some 0) with
  accessFlags := 1537
  interfaces := #[]
  cf := some (fileOf pool5 1 #[] #[] 1537 3 #[] #[])
  fields := #[]
  methods := #[]
  instanceTypes := #[]
  staticTypes := #[]
  resolved := Array.replicate 11 none
  statics := none }

def pool6 : Array CpInfo := pool [(1, .class_ 2), (0, u "java/lang/constant/ConstantDesc"), (0, .class_ 4), (0, u "java/lang/Object")] 32

/-- java/lang/constant/ConstantDesc -/
def k6 : Class := { plain "java/lang/constant/ConstantDesc" (some 0) with
  accessFlags := 1537
  interfaces := #[]
  cf := some (fileOf pool6 1 #[] #[] 1537 3 #[] #[])
  fields := #[]
  methods := #[]
  instanceTypes := #[]
  staticTypes := #[]
  resolved := Array.replicate 37 none
  statics := none }

def pool7 : Array CpInfo := pool [(1, .methodref 2 3), (0, .class_ 4), (0, .nameAndType 5 6), (0, u "java/lang/Object"), (0, u "<init>"), (0, u "()V"), (0, .string 8), (0, u ""), (0, .fieldref 10 11), (0, .class_ 12), (0, .nameAndType 13 14), (0, u "java/lang/String"), (0, u "value"), (0, u "[B"), (0, .fieldref 10 16), (0, .nameAndType 17 18), (0, u "coder"), (0, u "B"), (2, u "hash"), (0, u "I"), (2, u "hashIsZero"), (0, u "Z"), (0, .methodref 10 28), (0, .nameAndType 5 29), (0, u "([CIILjava/lang/Void;)V"), (8, .fieldref 10 39), (0, .nameAndType 40 26), (0, u "COMPACT_STRINGS"), (1, .class_ 44), (1, u "java/lang/StringUTF16"), (0, u "compress"), (1, .methodref 42 48), (0, .nameAndType 49 50), (0, u "coderFromArrayLen"), (0, u "([BI)B"), (56, .class_ 109), (1, u "java/lang/StringLatin1"), (32, u "()Z"), (34, .methodref 42 178), (0, .nameAndType 45 179), (0, u "([CII)[B"), (154, u "()I"), (0, .methodref 10 336), (0, .nameAndType 17 337), (0, u "()B"), (25, u "([BI)C"), (27, u "(II)V"), (35, u "(I)C"), (64, .methodref 10 493), (0, .nameAndType 494 142), (0, u "isLatin1"), (0, .methodref 107 496), (0, .nameAndType 497 363), (0, u "charAt"), (3, u "checkIndex"), (5, u "length"), (67, .class_ 576), (0, u "java/lang/CharSequence"), (22, u "CASE_INSENSITIVE_ORDER"), (0, u "Ljava/util/Comparator;"), (409, u "([C)V"), (42, .fieldref 1054 1055), (0, .class_ 1056), (0, .nameAndType 1057 1058), (0, u "jdk/internal/util/Preconditions"), (0, u "SIOOBE_FORMATTER"), (0, u "Ljava/util/function/BiFunction;"), (0, .methodref 1054 1060), (0, .nameAndType 501 1061), (0, u "(IILjava/util/function/BiFunction;)I"), (39, u "serialPersistentFields"), (0, u "[Ljava/io/ObjectStreamField;"), (0, .class_ 1104), (0, u "java/lang/String$CaseInsensitiveComparator"), (1, .class_ 1107), (0, u "java/io/Serializable"), (0, .class_ 1109), (0, u "java/lang/Comparable"), (0, .class_ 1111), (0, u "java/lang/constant/Constable"), (0, .class_ 1113), (0, u "java/lang/constant/ConstantDesc"), (2, u "serialVersionUID"), (0, u "J"), (3, u "REPL"), (0, u "C"), (2, u "LATIN1"), (1, u "UTF16")] 323

def k7m0 : Method := { name := "<init>", desc := "()V", sig := { parameters := [], returnType := none }, accessFlags := 1, code := none }
def k7c1 : Code := { maxStack := 5, maxLocals := 2, code := jdk_42_method_3_code, exceptionTable := #[], attributes := #[] }
def k7m1 : Method := { name := "<init>", desc := "([C)V", sig := { parameters := [(.array .char)], returnType := none }, accessFlags := 1, code := some k7c1 }
def k7c2 : Code := { maxStack := 2, maxLocals := 1, code := jdk_42_method_54_code, exceptionTable := #[], attributes := #[] }
def k7m2 : Method := { name := "length", desc := "()I", sig := { parameters := [], returnType := some .int }, accessFlags := 1, code := some k7c2 }
def k7c3 : Code := { maxStack := 2, maxLocals := 2, code := jdk_42_method_56_code, exceptionTable := #[], attributes := #[] }
def k7m3 : Method := { name := "charAt", desc := "(I)C", sig := { parameters := [.int], returnType := some .char }, accessFlags := 1, code := some k7c3 }
def k7c4 : Code := { maxStack := 4, maxLocals := 6, code := jdk_42_method_149_code, exceptionTable := #[], attributes := #[] }
def k7m4 : Method := { name := "<init>", desc := "([CIILjava/lang/Void;)V", sig := { parameters := [(.array .char), .int, .int, (.object "java/lang/Void")], returnType := none }, accessFlags := 2, code := some k7c4 }
def k7c5 : Code := { maxStack := 1, maxLocals := 1, code := jdk_42_method_152_code, exceptionTable := #[], attributes := #[] }
def k7m5 : Method := { name := "coder", desc := "()B", sig := { parameters := [], returnType := some .byte }, accessFlags := 0, code := some k7c5 }
def k7c6 : Code := { maxStack := 1, maxLocals := 1, code := jdk_42_method_154_code, exceptionTable := #[], attributes := #[] }
def k7m6 : Method := { name := "isLatin1", desc := "()Z", sig := { parameters := [], returnType := some .boolean }, accessFlags := 0, code := some k7c6 }
def k7c7 : Code := { maxStack := 3, maxLocals := 2, code := jdk_42_method_155_code, exceptionTable := #[], attributes := #[] }
def k7m7 : Method := { name := "checkIndex", desc := "(II)V", sig := { parameters := [.int, .int], returnType := none }, accessFlags := 8, code := some k7c7 }
/-- java/lang/String -/
def k7 : Class := { plain "java/lang/String" (some 0) with
  accessFlags := 49
  interfaces := #[2, 3, 4, 5, 6]
  cf := some (fileOf pool7 10 #[.nestMembers #[1103]] #[{ accessFlags := 1, nameIndex := 5, descriptorIndex := 6, attributes := #[] }, { accessFlags := 1, nameIndex := 5, descriptorIndex := 1010, attributes := #[] }, { accessFlags := 1, nameIndex := 507, descriptorIndex := 334, attributes := #[] }, { accessFlags := 1, nameIndex := 497, descriptorIndex := 427, attributes := #[] }, { accessFlags := 2, nameIndex := 5, descriptorIndex := 29, attributes := #[] }, { accessFlags := 0, nameIndex := 17, descriptorIndex := 337, attributes := #[] }, { accessFlags := 0, nameIndex := 494, descriptorIndex := 142, attributes := #[] }, { accessFlags := 8, nameIndex := 501, descriptorIndex := 391, attributes := #[] }] 49 2 #[1106, 1108, 575, 1110, 1112] #[{ accessFlags := 18, nameIndex := 13, descriptorIndex := 14, attributes := #[] }, { accessFlags := 18, nameIndex := 17, descriptorIndex := 18, attributes := #[] }, { accessFlags := 2, nameIndex := 21, descriptorIndex := 22, attributes := #[] }, { accessFlags := 2, nameIndex := 25, descriptorIndex := 26, attributes := #[] }, { accessFlags := 26, nameIndex := 1116, descriptorIndex := 1117, attributes := #[] }, { accessFlags := 24, nameIndex := 40, descriptorIndex := 26, attributes := #[] }, { accessFlags := 26, nameIndex := 1101, descriptorIndex := 1102, attributes := #[] }, { accessFlags := 26, nameIndex := 1121, descriptorIndex := 1122, attributes := #[] }, { accessFlags := 25, nameIndex := 599, descriptorIndex := 600, attributes := #[] }, { accessFlags := 24, nameIndex := 1125, descriptorIndex := 18, attributes := #[] }, { accessFlags := 24, nameIndex := 1127, descriptorIndex := 18, attributes := #[] }])
  fields := #[{ name := "value", type := (.array .byte), accessFlags := 18, slot := 0, constantValue := 0 }, { name := "coder", type := .byte, accessFlags := 18, slot := 1, constantValue := 0 }, { name := "hash", type := .int, accessFlags := 2, slot := 2, constantValue := 0 }, { name := "hashIsZero", type := .boolean, accessFlags := 2, slot := 3, constantValue := 0 }, { name := "serialVersionUID", type := .long, accessFlags := 26, slot := 0, constantValue := 0 }, { name := "COMPACT_STRINGS", type := .boolean, accessFlags := 24, slot := 1, constantValue := 0 }, { name := "serialPersistentFields", type := (.array (.object "java/io/ObjectStreamField")), accessFlags := 26, slot := 2, constantValue := 0 }, { name := "REPL", type := .char, accessFlags := 26, slot := 3, constantValue := 0 }, { name := "CASE_INSENSITIVE_ORDER", type := (.object "java/util/Comparator"), accessFlags := 25, slot := 4, constantValue := 0 }, { name := "LATIN1", type := .byte, accessFlags := 24, slot := 5, constantValue := 0 }, { name := "UTF16", type := .byte, accessFlags := 24, slot := 6, constantValue := 0 }]
  methods := #[k7m0, k7m1, k7m2, k7m3, k7m4, k7m5, k7m6, k7m7]
  instanceTypes := #[(.array .byte), .byte, .int, .boolean]
  staticTypes := #[.long, .boolean, (.array (.object "java/io/ObjectStreamField")), .char, (.object "java/util/Comparator"), .byte, .byte]
  resolved := Array.replicate 1451 none
  statics := some 0 }

def pool8 : Array CpInfo := pool [(1, .methodref 2 3), (0, .class_ 4), (0, .nameAndType 5 6), (0, u "java/lang/Object"), (0, u "<init>"), (0, u "()V"), (0, .fieldref 8 9), (0, .class_ 10), (0, .nameAndType 11 12), (0, u "com/example/murray_hill/murrayhill/AsciiLine"), (0, u "bytes"), (0, u "[B"), (0, .fieldref 8 14), (0, .nameAndType 15 16), (0, u "length"), (0, u "I"), (0, .methodref 18 19), (0, .class_ 20), (0, .nameAndType 15 21), (0, u "java/lang/String"), (0, u "()I"), (0, .methodref 18 23), (0, .nameAndType 24 25), (0, u "charAt"), (0, u "(I)C"), (12, .methodref 18 39), (0, .nameAndType 5 40), (0, u "([C)V"), (0, u "HEX_DIGITS"), (0, u "Ljava/lang/String;"), (1, u "(I)V"), (4, u "append"), (0, u "(Ljava/lang/String;)Lcom/example/murray_hill/murrayhill/AsciiLine;"), (7, u "toString"), (0, u "()Ljava/lang/String;")] 4

def k8c0 : Code := { maxStack := 2, maxLocals := 2, code := prog_2_method_1_code, exceptionTable := #[], attributes := #[] }
def k8m0 : Method := { name := "<init>", desc := "(I)V", sig := { parameters := [.int], returnType := none }, accessFlags := 0, code := some k8c0 }
def k8c1 : Code := { maxStack := 5, maxLocals := 3, code := prog_2_method_3_code, exceptionTable := #[], attributes := #[] }
def k8m1 : Method := { name := "append", desc := "(Ljava/lang/String;)Lcom/example/murray_hill/murrayhill/AsciiLine;", sig := { parameters := [(.object "java/lang/String")], returnType := some (.object "com/example/murray_hill/murrayhill/AsciiLine") }, accessFlags := 0, code := some k8c1 }
def k8c2 : Code := { maxStack := 4, maxLocals := 3, code := prog_2_method_8_code, exceptionTable := #[], attributes := #[] }
def k8m2 : Method := { name := "toString", desc := "()Ljava/lang/String;", sig := { parameters := [], returnType := some (.object "java/lang/String") }, accessFlags := 1, code := some k8c2 }
/-- com/example/murray_hill/murrayhill/AsciiLine -/
def k8 : Class := { plain "com/example/murray_hill/murrayhill/AsciiLine" (some 0) with
  accessFlags := 32
  interfaces := #[]
  cf := some (fileOf pool8 8 #[] #[{ accessFlags := 0, nameIndex := 5, descriptorIndex := 44, attributes := #[] }, { accessFlags := 0, nameIndex := 49, descriptorIndex := 50, attributes := #[] }, { accessFlags := 1, nameIndex := 58, descriptorIndex := 59, attributes := #[] }] 32 2 #[] #[{ accessFlags := 26, nameIndex := 41, descriptorIndex := 42, attributes := #[] }, { accessFlags := 18, nameIndex := 11, descriptorIndex := 12, attributes := #[] }, { accessFlags := 2, nameIndex := 15, descriptorIndex := 16, attributes := #[] }])
  fields := #[{ name := "HEX_DIGITS", type := (.object "java/lang/String"), accessFlags := 26, slot := 0, constantValue := 0 }, { name := "bytes", type := (.array .byte), accessFlags := 18, slot := 0, constantValue := 0 }, { name := "length", type := .int, accessFlags := 2, slot := 1, constantValue := 0 }]
  methods := #[k8m0, k8m1, k8m2]
  instanceTypes := #[(.array .byte), .int]
  staticTypes := #[(.object "java/lang/String")]
  resolved := Array.replicate 64 none
  statics := none }

def pool9 : Array CpInfo := pool [(6, .class_ 8), (1, u "java/lang/Object"), (0, u "<init>"), (0, u "()V"), (1, .class_ 14), (1, u "java/lang/StringUTF16"), (31, u "$assertionsDisabled"), (0, u "Z"), (13, u "HI_BYTE_SHIFT"), (0, u "I"), (2, u "LO_BYTE_SHIFT"), (49, .methodref 12 116), (0, .nameAndType 117 118), (0, u "compress"), (0, u "([CI[BII)I"), (3, u "([CII)[B"), (138, u "coderFromArrayLen"), (0, u "([BI)B"), (106, .class_ 371), (1, u "java/lang/StringUTF16$LinesSpliterator"), (58, u "MAX_LENGTH"), (196, .class_ 628), (0, u "java/lang/StringUTF16$CodePointsSpliterator"), (0, .class_ 630), (0, u "java/lang/StringUTF16$CharsSpliterator")] 4

def k9m0 : Method := { name := "<init>", desc := "()V", sig := { parameters := [], returnType := none }, accessFlags := 0, code := none }
def k9c1 : Code := { maxStack := 2, maxLocals := 2, code := jdk_52_method_15_code, exceptionTable := #[], attributes := #[] }
def k9m1 : Method := { name := "coderFromArrayLen", desc := "([BI)B", sig := { parameters := [(.array .byte), .int], returnType := some .byte }, accessFlags := 8, code := some k9c1 }
def k9c2 : Code := { maxStack := 5, maxLocals := 6, code := jdk_52_method_16_code, exceptionTable := #[], attributes := #[] }
def k9m2 : Method := { name := "compress", desc := "([CII)[B", sig := { parameters := [(.array .char), .int, .int], returnType := some (.array .byte) }, accessFlags := 9, code := some k9c2 }
def k9c3 : Code := { maxStack := 3, maxLocals := 7, code := jdk_52_method_21_code, exceptionTable := #[], attributes := #[] }
def k9m3 : Method := { name := "compress", desc := "([CI[BII)I", sig := { parameters := [(.array .char), .int, (.array .byte), .int, .int], returnType := some .int }, accessFlags := 9, code := some k9c3 }
/-- java/lang/StringUTF16 -/
def k9 : Class := { plain "java/lang/StringUTF16" (some 0) with
  accessFlags := 48
  interfaces := #[]
  cf := some (fileOf pool9 12 #[.nestMembers #[627, 629, 369]] #[{ accessFlags := 0, nameIndex := 9, descriptorIndex := 10, attributes := #[] }, { accessFlags := 8, nameIndex := 261, descriptorIndex := 262, attributes := #[] }, { accessFlags := 9, nameIndex := 117, descriptorIndex := 122, attributes := #[] }, { accessFlags := 9, nameIndex := 117, descriptorIndex := 118, attributes := #[] }] 48 6 #[] #[{ accessFlags := 26, nameIndex := 61, descriptorIndex := 62, attributes := #[] }, { accessFlags := 26, nameIndex := 65, descriptorIndex := 62, attributes := #[] }, { accessFlags := 24, nameIndex := 430, descriptorIndex := 62, attributes := #[] }, { accessFlags := 4120, nameIndex := 46, descriptorIndex := 47, attributes := #[] }])
  fields := #[{ name := "HI_BYTE_SHIFT", type := .int, accessFlags := 26, slot := 0, constantValue := 0 }, { name := "LO_BYTE_SHIFT", type := .int, accessFlags := 26, slot := 1, constantValue := 0 }, { name := "MAX_LENGTH", type := .int, accessFlags := 24, slot := 2, constantValue := 0 }, { name := "$assertionsDisabled", type := .boolean, accessFlags := 4120, slot := 3, constantValue := 0 }]
  methods := #[k9m0, k9m1, k9m2, k9m3]
  instanceTypes := #[]
  staticTypes := #[.int, .int, .int, .boolean]
  resolved := Array.replicate 635 none
  statics := none }

def pool10 : Array CpInfo := pool [(1, .class_ 2), (0, u "java/lang/String"), (1, .class_ 6), (1, u "java/lang/Object"), (0, u "<init>"), (0, u "()V"), (0, .methodref 1 10), (0, .nameAndType 11 12), (0, u "checkIndex"), (0, u "(II)V"), (1, .class_ 16), (1, u "java/lang/StringLatin1"), (36, u "([BI)C"), (67, u "$assertionsDisabled"), (0, u "Z"), (98, .class_ 223), (1, u "java/lang/StringLatin1$LinesSpliterator"), (28, u "charAt"), (137, .class_ 391), (0, u "java/lang/StringLatin1$CharsSpliterator")] 3

def k10m0 : Method := { name := "<init>", desc := "()V", sig := { parameters := [], returnType := none }, accessFlags := 0, code := none }
def k10c1 : Code := { maxStack := 2, maxLocals := 2, code := jdk_43_method_2_code, exceptionTable := #[], attributes := #[] }
def k10m1 : Method := { name := "charAt", desc := "([BI)C", sig := { parameters := [(.array .byte), .int], returnType := some .char }, accessFlags := 9, code := some k10c1 }
/-- java/lang/StringLatin1 -/
def k10 : Class := { plain "java/lang/StringLatin1" (some 0) with
  accessFlags := 48
  interfaces := #[]
  cf := some (fileOf pool10 14 #[.nestMembers #[390, 221]] #[{ accessFlags := 0, nameIndex := 7, descriptorIndex := 8, attributes := #[] }, { accessFlags := 9, nameIndex := 252, descriptorIndex := 53, attributes := #[] }] 48 4 #[] #[{ accessFlags := 4120, nameIndex := 121, descriptorIndex := 122, attributes := #[] }])
  fields := #[{ name := "$assertionsDisabled", type := .boolean, accessFlags := 4120, slot := 0, constantValue := 0 }]
  methods := #[k10m0, k10m1]
  instanceTypes := #[]
  staticTypes := #[.boolean]
  resolved := Array.replicate 395 none
  statics := none }

def pool11 : Array CpInfo := pool [(2, .class_ 4), (1, u "java/lang/Object"), (0, u "<init>"), (0, u "()V"), (17, .class_ 26), (1, u "jdk/internal/util/Preconditions"), (6, u "checkIndex"), (21, .class_ 56), (0, u "jdk/internal/util/Preconditions$4"), (57, .class_ 115), (0, u "jdk/internal/util/Preconditions$1"), (7, u "SIOOBE_FORMATTER"), (0, u "Ljava/util/function/BiFunction;"), (0, .class_ 126), (0, u "jdk/internal/util/Preconditions$2"), (3, u "AIOOBE_FORMATTER"), (0, .class_ 132), (0, u "jdk/internal/util/Preconditions$3"), (3, u "IOOBE_FORMATTER"), (41, u "(IILjava/util/function/BiFunction;)I")] 15

def k11m0 : Method := { name := "<init>", desc := "()V", sig := { parameters := [], returnType := none }, accessFlags := 1, code := none }
def k11c1 : Code := { maxStack := 3, maxLocals := 3, code := jdk_41_method_11_code, exceptionTable := #[], attributes := #[] }
def k11m1 : Method := { name := "checkIndex", desc := "(IILjava/util/function/BiFunction;)I", sig := { parameters := [.int, .int, (.object "java/util/function/BiFunction")], returnType := some .int }, accessFlags := 9, code := some k11c1 }
/-- jdk/internal/util/Preconditions -/
def k11 : Class := { plain "jdk/internal/util/Preconditions" (some 0) with
  accessFlags := 33
  interfaces := #[]
  cf := some (fileOf pool11 24 #[.nestMembers #[55, 131, 125, 114]] #[{ accessFlags := 1, nameIndex := 5, descriptorIndex := 6, attributes := #[] }, { accessFlags := 9, nameIndex := 33, descriptorIndex := 178, attributes := #[] }] 33 2 #[] #[{ accessFlags := 25, nameIndex := 123, descriptorIndex := 124, attributes := #[] }, { accessFlags := 25, nameIndex := 130, descriptorIndex := 124, attributes := #[] }, { accessFlags := 25, nameIndex := 136, descriptorIndex := 124, attributes := #[] }])
  fields := #[{ name := "SIOOBE_FORMATTER", type := (.object "java/util/function/BiFunction"), accessFlags := 25, slot := 0, constantValue := 0 }, { name := "AIOOBE_FORMATTER", type := (.object "java/util/function/BiFunction"), accessFlags := 25, slot := 1, constantValue := 0 }, { name := "IOOBE_FORMATTER", type := (.object "java/util/function/BiFunction"), accessFlags := 25, slot := 2, constantValue := 0 }]
  methods := #[k11m0, k11m1]
  instanceTypes := #[]
  staticTypes := #[(.object "java/util/function/BiFunction"), (.object "java/util/function/BiFunction"), (.object "java/util/function/BiFunction")]
  resolved := Array.replicate 194 none
  statics := some 1 }

def pool12 : Array CpInfo := pool [(9, u "<init>"), (6, .class_ 18), (1, u "java/lang/Object"), (0, u "()V"), (1, .class_ 23), (1, u "jdk/internal/util/ArraysSupport"), (0, u "LOG2_ARRAY_LONG_INDEX_SCALE"), (0, u "I"), (2, u "U"), (0, u "Ljdk/internal/misc/Unsafe;"), (8, u "BIG_ENDIAN"), (0, u "Z"), (8, u "LOG2_BYTE_BIT_SIZE"), (4, u "LOG2_ARRAY_INT_INDEX_SCALE"), (54, u "JLA"), (0, u "Ljdk/internal/access/JavaLangAccess;"), (11, u "LOG2_ARRAY_BOOLEAN_INDEX_SCALE"), (9, u "LOG2_ARRAY_BYTE_INDEX_SCALE"), (5, u "LOG2_ARRAY_CHAR_INDEX_SCALE"), (5, u "LOG2_ARRAY_SHORT_INDEX_SCALE"), (18, u "LOG2_ARRAY_FLOAT_INDEX_SCALE"), (24, u "LOG2_ARRAY_DOUBLE_INDEX_SCALE"), (89, u "T_BOOLEAN"), (2, u "T_CHAR"), (1, u "T_FLOAT"), (1, u "T_DOUBLE"), (1, u "T_BYTE"), (1, u "T_SHORT"), (1, u "T_INT"), (1, u "T_LONG"), (1, u "SOFT_MAX_ARRAY_LENGTH")] 83

def k12m0 : Method := { name := "<init>", desc := "()V", sig := { parameters := [], returnType := none }, accessFlags := 2, code := none }
/-- jdk/internal/util/ArraysSupport -/
def k12 : Class := { plain "jdk/internal/util/ArraysSupport" (some 0) with
  accessFlags := 33
  interfaces := #[]
  cf := some (fileOf pool12 21 #[] #[{ accessFlags := 2, nameIndex := 9, descriptorIndex := 19, attributes := #[] }] 33 16 #[] #[{ accessFlags := 24, nameIndex := 28, descriptorIndex := 29, attributes := #[] }, { accessFlags := 26, nameIndex := 38, descriptorIndex := 39, attributes := #[] }, { accessFlags := 25, nameIndex := 121, descriptorIndex := 25, attributes := #[] }, { accessFlags := 25, nameIndex := 131, descriptorIndex := 25, attributes := #[] }, { accessFlags := 25, nameIndex := 137, descriptorIndex := 25, attributes := #[] }, { accessFlags := 25, nameIndex := 143, descriptorIndex := 25, attributes := #[] }, { accessFlags := 25, nameIndex := 53, descriptorIndex := 25, attributes := #[] }, { accessFlags := 25, nameIndex := 24, descriptorIndex := 25, attributes := #[] }, { accessFlags := 25, nameIndex := 162, descriptorIndex := 25, attributes := #[] }, { accessFlags := 25, nameIndex := 187, descriptorIndex := 25, attributes := #[] }, { accessFlags := 26, nameIndex := 48, descriptorIndex := 25, attributes := #[] }, { accessFlags := 25, nameIndex := 277, descriptorIndex := 25, attributes := #[] }, { accessFlags := 25, nameIndex := 280, descriptorIndex := 25, attributes := #[] }, { accessFlags := 25, nameIndex := 282, descriptorIndex := 25, attributes := #[] }, { accessFlags := 25, nameIndex := 284, descriptorIndex := 25, attributes := #[] }, { accessFlags := 25, nameIndex := 286, descriptorIndex := 25, attributes := #[] }, { accessFlags := 25, nameIndex := 288, descriptorIndex := 25, attributes := #[] }, { accessFlags := 25, nameIndex := 290, descriptorIndex := 25, attributes := #[] }, { accessFlags := 25, nameIndex := 292, descriptorIndex := 25, attributes := #[] }, { accessFlags := 26, nameIndex := 108, descriptorIndex := 109, attributes := #[] }, { accessFlags := 25, nameIndex := 294, descriptorIndex := 25, attributes := #[] }])
  fields := #[{ name := "U", type := (.object "jdk/internal/misc/Unsafe"), accessFlags := 24, slot := 0, constantValue := 0 }, { name := "BIG_ENDIAN", type := .boolean, accessFlags := 26, slot := 1, constantValue := 0 }, { name := "LOG2_ARRAY_BOOLEAN_INDEX_SCALE", type := .int, accessFlags := 25, slot := 2, constantValue := 0 }, { name := "LOG2_ARRAY_BYTE_INDEX_SCALE", type := .int, accessFlags := 25, slot := 3, constantValue := 0 }, { name := "LOG2_ARRAY_CHAR_INDEX_SCALE", type := .int, accessFlags := 25, slot := 4, constantValue := 0 }, { name := "LOG2_ARRAY_SHORT_INDEX_SCALE", type := .int, accessFlags := 25, slot := 5, constantValue := 0 }, { name := "LOG2_ARRAY_INT_INDEX_SCALE", type := .int, accessFlags := 25, slot := 6, constantValue := 0 }, { name := "LOG2_ARRAY_LONG_INDEX_SCALE", type := .int, accessFlags := 25, slot := 7, constantValue := 0 }, { name := "LOG2_ARRAY_FLOAT_INDEX_SCALE", type := .int, accessFlags := 25, slot := 8, constantValue := 0 }, { name := "LOG2_ARRAY_DOUBLE_INDEX_SCALE", type := .int, accessFlags := 25, slot := 9, constantValue := 0 }, { name := "LOG2_BYTE_BIT_SIZE", type := .int, accessFlags := 26, slot := 10, constantValue := 0 }, { name := "T_BOOLEAN", type := .int, accessFlags := 25, slot := 11, constantValue := 0 }, { name := "T_CHAR", type := .int, accessFlags := 25, slot := 12, constantValue := 0 }, { name := "T_FLOAT", type := .int, accessFlags := 25, slot := 13, constantValue := 0 }, { name := "T_DOUBLE", type := .int, accessFlags := 25, slot := 14, constantValue := 0 }, { name := "T_BYTE", type := .int, accessFlags := 25, slot := 15, constantValue := 0 }, { name := "T_SHORT", type := .int, accessFlags := 25, slot := 16, constantValue := 0 }, { name := "T_INT", type := .int, accessFlags := 25, slot := 17, constantValue := 0 }, { name := "T_LONG", type := .int, accessFlags := 25, slot := 18, constantValue := 0 }, { name := "JLA", type := (.object "jdk/internal/access/JavaLangAccess"), accessFlags := 26, slot := 19, constantValue := 0 }, { name := "SOFT_MAX_ARRAY_LENGTH", type := .int, accessFlags := 25, slot := 20, constantValue := 0 }]
  methods := #[k12m0]
  instanceTypes := #[]
  staticTypes := #[(.object "jdk/internal/misc/Unsafe"), .boolean, .int, .int, .int, .int, .int, .int, .int, .int, .int, .int, .int, .int, .int, .int, .int, .int, .int, (.object "jdk/internal/access/JavaLangAccess"), .int]
  resolved := Array.replicate 378 none
  statics := none }

def pool13 : Array CpInfo := pool [(1, u "java/lang/Cloneable"), (0, .class_ 1), (0, u "java/lang/Object"), (0, .class_ 3)] 3

/-- java/lang/Cloneable -/
def k13 : Class := { plain "java/lang/Cloneable" (some 0) with
  accessFlags := 1537
  interfaces := #[]
  cf := some (fileOf pool13 2 #[] #[] 1537 4 #[] #[])
  fields := #[]
  methods := #[]
  instanceTypes := #[]
  staticTypes := #[]
  resolved := Array.replicate 8 none
  statics := none }

/-- the primitive byte -/
def k14 : Class := { plain "byte" none with kind := .primitive 'B', accessFlags := 0x411 }
/-- [B -/
def k15 : Class := { plain "[B" (some 0) with kind := .array 14 .byte, interfaces := #[13, 2], accessFlags := 1041 }

/-- the primitive char -/
def k16 : Class := { plain "char" none with kind := .primitive 'C', accessFlags := 0x411 }
/-- [C -/
def k17 : Class := { plain "[C" (some 0) with kind := .array 16 .char, interfaces := #[13, 2], accessFlags := 1041 }

/-- the primitive int -/
def k18 : Class := { plain "int" none with kind := .primitive 'I', accessFlags := 0x411 }
/-- [I -/
def k19 : Class := { plain "[I" (some 0) with kind := .array 18 .int, interfaces := #[13, 2], accessFlags := 1041 }

def heap : Heap := #[{ cls := 7, slots := #[.long 0, .int 1, .null, .int 0, .null, .int 0, .int 0], vm := .statics 7 },
  { cls := 11, slots := #[.null, .null, .null], vm := .statics 11 }]
def classes : Array Class := #[k0, k1, k2, k3, k4, k5, k6, k7, k8, k9, k10, k11, k12, k13, k14, k15, k16, k17, k18, k19]
def interned : List (Array UInt16 × Addr) := []
def slotsUsed : Nat := 10
def theMethod : MethodId := ⟨1, 1⟩
def args0 : Array Value := #[.int 5, .int 5, .int 5]
def aboutOver (below : List Frame) : State where
  vm := { classes := classes, interned := interned.toArray }
  heap := heap
  slotsUsed := slotsUsed
  threads := #[{ frames := .invoking theMethod args0 :: below }]
def below0 : List Frame := [.native { method := ⟨0, 0⟩, args := #[] }]
def about1 : State := aboutOver below0
def p0 : Program := .bare "" "" ""
def e0 : Env := launch0.env 0 0 0
theorem w_frames : about1.frames = Frame.invoking theMethod args0 :: below0 := rfl
set_option maxRecDepth 65536 in
theorem w_args : argsFit about1.vm theMethod args0 = true := by decide +kernel
set_option maxRecDepth 65536 in
theorem w_heap : heapFits about1 = true := by decide +kernel
set_option maxRecDepth 65536 in
theorem w_runnable : about1.curStatus? = some .runnable := by decide +kernel
set_option maxRecDepth 65536 in
theorem w_alone : about1.alone = true := by decide +kernel
set_option maxRecDepth 65536 in
theorem w_named : about1.methodNamed? x = some theMethod := by decide +kernel
set_option maxRecDepth 65536 in
theorem w_hears : about1.hears theMethod below0 = true := by decide +kernel
set_option maxRecDepth 65536 in
theorem w_ripe : about1.ripe theMethod args0 below0 = true := by decide +kernel
theorem w_running : about1.status = .running := rfl
set_option maxRecDepth 65536 in
theorem w_room : about1.hasRoom e0.platform room_1 = true :=
  launch0.hasRoom_least _ room_1 (by decide +kernel) (by decide +kernel) (by decide +kernel) (by decide +kernel) (by decide +kernel) (by decide +kernel)
theorem allAtoms_all (ts : List Jvm.Cond) (a : Array Jvm.Value) (st : Jvm.State) : (allAtoms ts).before a st = ts.all (fun c => c.before a st) := by
  induction ts with
  | nil => rfl
  | cons c t ih =>
    show (Jvm.Cond.and c (allAtoms t)).before a st = _
    rw [Jvm.Cond.before_and, ih, List.all_cons]
def words1 : List Jvm.Cond := Jvm.Cond.code x code maxLocals ret :: tables_1
/-- a 'code' word, met by the world's own term for the bytes: nothing is compared byte by byte -/
theorem code_word {y : MethodName} {bytes : ByteArray} {mx : Nat} {rt : Option FieldType} {a : Array Value} {s : State} {m : MethodId} {meth : Method} {c : Code} (h1 : s.methodNamed? y = some m) (h2 : s.vm.method? m = some meth) (h3 : meth.code = some c) (h4 : c.code = bytes)
    (h5 : (c.maxLocals == mx && c.exceptionTable.isEmpty && decide (c.maxStack ≤ mostOperands) && decide (meth.sig.returnType = rt) && !meth.locks && decide (parseMethodDescriptor y.desc = some meth.sig)) = true) : (Jvm.Cond.code y bytes mx rt).before a s = true := by
  simp only [Bool.and_eq_true, beq_iff_eq, Bool.not_eq_true', decide_eq_true_eq] at h5
  obtain ⟨⟨⟨⟨⟨g1, g2⟩, g3⟩, g4⟩, g5⟩, g6⟩ := h5
  simp [Cond.before, Cond.holds, Cond.value, h1, h2, h3, h4, g1, g2, g3, g4, g5, g6]
def isCode : Jvm.Cond → Bool
  | .code _ _ _ _ => true
  | _ => false
theorem all_split {L : List Jvm.Cond} {P : Jvm.Cond → Bool} (h1 : L.all (fun c => isCode c || P c) = true) (h2 : ∀ c ∈ L.filter isCode, P c = true) : L.all P = true := by
  refine List.all_eq_true.mpr fun c hc => ?_
  have h := List.all_eq_true.mp h1 c hc
  rcases Bool.eq_false_or_eq_true (isCode c) with hi | hi
  · exact h2 c (List.mem_filter.mpr ⟨hc, hi⟩)
  · simpa [hi] using h
set_option maxRecDepth 65536 in
theorem w_c0 : (Jvm.Cond.code x code maxLocals ret).before args0 about1 = true := code_word (m := ⟨1, 1⟩) (meth := k1m1) (c := k1c1) (by decide +kernel) rfl rfl rfl (by decide +kernel)
set_option maxRecDepth 65536 in
theorem w_c1 : (Jvm.Cond.code ({ cls := "com/example/murray_hill/murrayhill/AsciiLineAppendPinLaw", name := "make", desc := "(I[C)Ljava/lang/String;" } : Jvm.MethodName) method_3_code (2 : Nat) (Option.some (Jvm.ClassFile.FieldType.object "java/lang/String"))).before args0 about1 = true := code_word (m := ⟨1, 2⟩) (meth := k1m2) (c := k1c2) (by decide +kernel) rfl rfl rfl (by decide +kernel)
set_option maxRecDepth 65536 in
theorem w_c2 : (Jvm.Cond.code ({ cls := "java/lang/String", name := "<init>", desc := "([C)V" } : Jvm.MethodName) jdk_42_method_3_code (2 : Nat) (Option.none : Option Jvm.ClassFile.FieldType)).before args0 about1 = true := code_word (m := ⟨7, 1⟩) (meth := k7m1) (c := k7c1) (by decide +kernel) rfl rfl rfl (by decide +kernel)
set_option maxRecDepth 65536 in
theorem w_c3 : (Jvm.Cond.code ({ cls := "java/lang/String", name := "<init>", desc := "([CIILjava/lang/Void;)V" } : Jvm.MethodName) jdk_42_method_149_code (6 : Nat) (Option.none : Option Jvm.ClassFile.FieldType)).before args0 about1 = true := code_word (m := ⟨7, 4⟩) (meth := k7m4) (c := k7c4) (by decide +kernel) rfl rfl rfl (by decide +kernel)
set_option maxRecDepth 65536 in
theorem w_c4 : (Jvm.Cond.code ({ cls := "java/lang/Object", name := "<init>", desc := "()V" } : Jvm.MethodName) object_method_1_code (1 : Nat) (Option.none : Option Jvm.ClassFile.FieldType)).before args0 about1 = true := code_word (m := ⟨0, 0⟩) (meth := k0m0) (c := k0c0) (by decide +kernel) rfl rfl rfl (by decide +kernel)
set_option maxRecDepth 65536 in
theorem w_c5 : (Jvm.Cond.code ({ cls := "com/example/murray_hill/murrayhill/AsciiLine", name := "<init>", desc := "(I)V" } : Jvm.MethodName) prog_2_method_1_code (2 : Nat) (Option.none : Option Jvm.ClassFile.FieldType)).before args0 about1 = true := code_word (m := ⟨8, 0⟩) (meth := k8m0) (c := k8c0) (by decide +kernel) rfl rfl rfl (by decide +kernel)
set_option maxRecDepth 65536 in
theorem w_c6 : (Jvm.Cond.code ({ cls := "com/example/murray_hill/murrayhill/AsciiLine", name := "append", desc := "(Ljava/lang/String;)Lcom/example/murray_hill/murrayhill/AsciiLine;" } : Jvm.MethodName) prog_2_method_3_code (3 : Nat) (Option.some (Jvm.ClassFile.FieldType.object "com/example/murray_hill/murrayhill/AsciiLine"))).before args0 about1 = true := code_word (m := ⟨8, 1⟩) (meth := k8m1) (c := k8c1) (by decide +kernel) rfl rfl rfl (by decide +kernel)
set_option maxRecDepth 65536 in
theorem w_c7 : (Jvm.Cond.code ({ cls := "java/lang/String", name := "length", desc := "()I" } : Jvm.MethodName) jdk_42_method_54_code (1 : Nat) (Option.some Jvm.ClassFile.FieldType.int)).before args0 about1 = true := code_word (m := ⟨7, 2⟩) (meth := k7m2) (c := k7c2) (by decide +kernel) rfl rfl rfl (by decide +kernel)
set_option maxRecDepth 65536 in
theorem w_c8 : (Jvm.Cond.code ({ cls := "java/lang/String", name := "coder", desc := "()B" } : Jvm.MethodName) jdk_42_method_152_code (1 : Nat) (Option.some Jvm.ClassFile.FieldType.byte)).before args0 about1 = true := code_word (m := ⟨7, 5⟩) (meth := k7m5) (c := k7c5) (by decide +kernel) rfl rfl rfl (by decide +kernel)
set_option maxRecDepth 65536 in
theorem w_c9 : (Jvm.Cond.code ({ cls := "com/example/murray_hill/murrayhill/AsciiLine", name := "toString", desc := "()Ljava/lang/String;" } : Jvm.MethodName) prog_2_method_8_code (3 : Nat) (Option.some (Jvm.ClassFile.FieldType.object "java/lang/String"))).before args0 about1 = true := code_word (m := ⟨8, 2⟩) (meth := k8m2) (c := k8c2) (by decide +kernel) rfl rfl rfl (by decide +kernel)
set_option maxRecDepth 65536 in
theorem w_c10 : (Jvm.Cond.code ({ cls := "com/example/murray_hill/murrayhill/AsciiLineAppendPinLaw", name := "at", desc := "(Ljava/lang/String;III[C[C)Z" } : Jvm.MethodName) method_4_code (7 : Nat) (Option.some Jvm.ClassFile.FieldType.boolean)).before args0 about1 = true := code_word (m := ⟨1, 3⟩) (meth := k1m3) (c := k1c3) (by decide +kernel) rfl rfl rfl (by decide +kernel)
set_option maxRecDepth 65536 in
theorem w_c11 : (Jvm.Cond.code ({ cls := "java/lang/StringUTF16", name := "compress", desc := "([CII)[B" } : Jvm.MethodName) jdk_52_method_16_code (6 : Nat) (Option.some (Jvm.ClassFile.FieldType.array Jvm.ClassFile.FieldType.byte))).before args0 about1 = true := code_word (m := ⟨9, 2⟩) (meth := k9m2) (c := k9c2) (by decide +kernel) rfl rfl rfl (by decide +kernel)
set_option maxRecDepth 65536 in
theorem w_c12 : (Jvm.Cond.code ({ cls := "java/lang/StringUTF16", name := "compress", desc := "([CI[BII)I" } : Jvm.MethodName) jdk_52_method_21_code (7 : Nat) (Option.some Jvm.ClassFile.FieldType.int)).before args0 about1 = true := code_word (m := ⟨9, 3⟩) (meth := k9m3) (c := k9c3) (by decide +kernel) rfl rfl rfl (by decide +kernel)
set_option maxRecDepth 65536 in
theorem w_c13 : (Jvm.Cond.code ({ cls := "java/lang/StringUTF16", name := "coderFromArrayLen", desc := "([BI)B" } : Jvm.MethodName) jdk_52_method_15_code (2 : Nat) (Option.some Jvm.ClassFile.FieldType.byte)).before args0 about1 = true := code_word (m := ⟨9, 1⟩) (meth := k9m1) (c := k9c1) (by decide +kernel) rfl rfl rfl (by decide +kernel)
set_option maxRecDepth 65536 in
theorem w_c14 : (Jvm.Cond.code ({ cls := "java/lang/String", name := "charAt", desc := "(I)C" } : Jvm.MethodName) jdk_42_method_56_code (2 : Nat) (Option.some Jvm.ClassFile.FieldType.char)).before args0 about1 = true := code_word (m := ⟨7, 3⟩) (meth := k7m3) (c := k7c3) (by decide +kernel) rfl rfl rfl (by decide +kernel)
set_option maxRecDepth 65536 in
theorem w_c15 : (Jvm.Cond.code ({ cls := "java/lang/String", name := "isLatin1", desc := "()Z" } : Jvm.MethodName) jdk_42_method_154_code (1 : Nat) (Option.some Jvm.ClassFile.FieldType.boolean)).before args0 about1 = true := code_word (m := ⟨7, 6⟩) (meth := k7m6) (c := k7c6) (by decide +kernel) rfl rfl rfl (by decide +kernel)
set_option maxRecDepth 65536 in
theorem w_c16 : (Jvm.Cond.code ({ cls := "java/lang/StringLatin1", name := "charAt", desc := "([BI)C" } : Jvm.MethodName) jdk_43_method_2_code (2 : Nat) (Option.some Jvm.ClassFile.FieldType.char)).before args0 about1 = true := code_word (m := ⟨10, 1⟩) (meth := k10m1) (c := k10c1) (by decide +kernel) rfl rfl rfl (by decide +kernel)
set_option maxRecDepth 65536 in
theorem w_c17 : (Jvm.Cond.code ({ cls := "java/lang/String", name := "checkIndex", desc := "(II)V" } : Jvm.MethodName) jdk_42_method_155_code (2 : Nat) (Option.none : Option Jvm.ClassFile.FieldType)).before args0 about1 = true := code_word (m := ⟨7, 7⟩) (meth := k7m7) (c := k7c7) (by decide +kernel) rfl rfl rfl (by decide +kernel)
set_option maxRecDepth 65536 in
theorem w_c18 : (Jvm.Cond.code ({ cls := "jdk/internal/util/Preconditions", name := "checkIndex", desc := "(IILjava/util/function/BiFunction;)I" } : Jvm.MethodName) jdk_41_method_11_code (3 : Nat) (Option.some Jvm.ClassFile.FieldType.int)).before args0 about1 = true := code_word (m := ⟨11, 1⟩) (meth := k11m1) (c := k11c1) (by decide +kernel) rfl rfl rfl (by decide +kernel)
def codes1 : List Jvm.Cond := [Jvm.Cond.code x code maxLocals ret, Jvm.Cond.code ({ cls := "com/example/murray_hill/murrayhill/AsciiLineAppendPinLaw", name := "make", desc := "(I[C)Ljava/lang/String;" } : Jvm.MethodName) method_3_code (2 : Nat) (Option.some (Jvm.ClassFile.FieldType.object "java/lang/String")), Jvm.Cond.code ({ cls := "java/lang/String", name := "<init>", desc := "([C)V" } : Jvm.MethodName) jdk_42_method_3_code (2 : Nat) (Option.none : Option Jvm.ClassFile.FieldType), Jvm.Cond.code ({ cls := "java/lang/String", name := "<init>", desc := "([CIILjava/lang/Void;)V" } : Jvm.MethodName) jdk_42_method_149_code (6 : Nat) (Option.none : Option Jvm.ClassFile.FieldType), Jvm.Cond.code ({ cls := "java/lang/Object", name := "<init>", desc := "()V" } : Jvm.MethodName) object_method_1_code (1 : Nat) (Option.none : Option Jvm.ClassFile.FieldType), Jvm.Cond.code ({ cls := "com/example/murray_hill/murrayhill/AsciiLine", name := "<init>", desc := "(I)V" } : Jvm.MethodName) prog_2_method_1_code (2 : Nat) (Option.none : Option Jvm.ClassFile.FieldType), Jvm.Cond.code ({ cls := "com/example/murray_hill/murrayhill/AsciiLine", name := "append", desc := "(Ljava/lang/String;)Lcom/example/murray_hill/murrayhill/AsciiLine;" } : Jvm.MethodName) prog_2_method_3_code (3 : Nat) (Option.some (Jvm.ClassFile.FieldType.object "com/example/murray_hill/murrayhill/AsciiLine")), Jvm.Cond.code ({ cls := "java/lang/String", name := "length", desc := "()I" } : Jvm.MethodName) jdk_42_method_54_code (1 : Nat) (Option.some Jvm.ClassFile.FieldType.int), Jvm.Cond.code ({ cls := "java/lang/String", name := "coder", desc := "()B" } : Jvm.MethodName) jdk_42_method_152_code (1 : Nat) (Option.some Jvm.ClassFile.FieldType.byte), Jvm.Cond.code ({ cls := "com/example/murray_hill/murrayhill/AsciiLine", name := "toString", desc := "()Ljava/lang/String;" } : Jvm.MethodName) prog_2_method_8_code (3 : Nat) (Option.some (Jvm.ClassFile.FieldType.object "java/lang/String")), Jvm.Cond.code ({ cls := "com/example/murray_hill/murrayhill/AsciiLineAppendPinLaw", name := "at", desc := "(Ljava/lang/String;III[C[C)Z" } : Jvm.MethodName) method_4_code (7 : Nat) (Option.some Jvm.ClassFile.FieldType.boolean), Jvm.Cond.code ({ cls := "java/lang/StringUTF16", name := "compress", desc := "([CII)[B" } : Jvm.MethodName) jdk_52_method_16_code (6 : Nat) (Option.some (Jvm.ClassFile.FieldType.array Jvm.ClassFile.FieldType.byte)), Jvm.Cond.code ({ cls := "java/lang/StringUTF16", name := "compress", desc := "([CI[BII)I" } : Jvm.MethodName) jdk_52_method_21_code (7 : Nat) (Option.some Jvm.ClassFile.FieldType.int), Jvm.Cond.code ({ cls := "java/lang/StringUTF16", name := "coderFromArrayLen", desc := "([BI)B" } : Jvm.MethodName) jdk_52_method_15_code (2 : Nat) (Option.some Jvm.ClassFile.FieldType.byte), Jvm.Cond.code ({ cls := "java/lang/String", name := "charAt", desc := "(I)C" } : Jvm.MethodName) jdk_42_method_56_code (2 : Nat) (Option.some Jvm.ClassFile.FieldType.char), Jvm.Cond.code ({ cls := "java/lang/String", name := "isLatin1", desc := "()Z" } : Jvm.MethodName) jdk_42_method_154_code (1 : Nat) (Option.some Jvm.ClassFile.FieldType.boolean), Jvm.Cond.code ({ cls := "java/lang/StringLatin1", name := "charAt", desc := "([BI)C" } : Jvm.MethodName) jdk_43_method_2_code (2 : Nat) (Option.some Jvm.ClassFile.FieldType.char), Jvm.Cond.code ({ cls := "java/lang/String", name := "checkIndex", desc := "(II)V" } : Jvm.MethodName) jdk_42_method_155_code (2 : Nat) (Option.none : Option Jvm.ClassFile.FieldType), Jvm.Cond.code ({ cls := "jdk/internal/util/Preconditions", name := "checkIndex", desc := "(IILjava/util/function/BiFunction;)I" } : Jvm.MethodName) jdk_41_method_11_code (3 : Nat) (Option.some Jvm.ClassFile.FieldType.int)]
set_option maxRecDepth 65536 in
theorem codes_eq : words1.filter isCode = codes1 := rfl
theorem w_codes : ∀ c ∈ words1.filter isCode, c.before args0 about1 = true := by
  rw [codes_eq]
  intro c hc
  simp only [codes1, List.mem_cons, List.not_mem_nil, or_false] at hc
  rcases hc with rfl | rfl | rfl | rfl | rfl | rfl | rfl | rfl | rfl | rfl | rfl | rfl | rfl | rfl | rfl | rfl | rfl | rfl | rfl
  · exact w_c0
  · exact w_c1
  · exact w_c2
  · exact w_c3
  · exact w_c4
  · exact w_c5
  · exact w_c6
  · exact w_c7
  · exact w_c8
  · exact w_c9
  · exact w_c10
  · exact w_c11
  · exact w_c12
  · exact w_c13
  · exact w_c14
  · exact w_c15
  · exact w_c16
  · exact w_c17
  · exact w_c18
set_option maxRecDepth 65536 in
theorem w_t1 : (words1.take 24).all (fun c => isCode c || c.before args0 about1) = true := by decide +kernel
set_option maxRecDepth 65536 in
theorem w_t2 : ((words1.drop 24).take 24).all (fun c => isCode c || c.before args0 about1) = true := by decide +kernel
set_option maxRecDepth 65536 in
theorem w_t3 : (((words1.drop 24).drop 24).take 24).all (fun c => isCode c || c.before args0 about1) = true := by decide +kernel
set_option maxRecDepth 65536 in
theorem w_t4 : ((((words1.drop 24).drop 24).drop 24).take 24).all (fun c => isCode c || c.before args0 about1) = true := by decide +kernel
set_option maxRecDepth 65536 in
theorem w_t5 : ((((words1.drop 24).drop 24).drop 24).drop 24).all (fun c => isCode c || c.before args0 about1) = true := by decide +kernel
theorem w_tables : (allAtoms (Jvm.Cond.code x code maxLocals ret :: tables_1)).before args0 about1 = true := by
  rw [allAtoms_all]
  show words1.all (fun c => c.before args0 about1) = true
  refine all_split ?_ w_codes
  rw [← List.take_append_drop 24 words1, List.all_append, w_t1, ← List.take_append_drop 24 (words1.drop 24), List.all_append, w_t2, ← List.take_append_drop 24 ((words1.drop 24).drop 24), List.all_append, w_t3, ← List.take_append_drop 24 (((words1.drop 24).drop 24).drop 24), List.all_append, w_t4, w_t5]
  rfl
set_option maxRecDepth 65536 in
theorem w_rest : rest_1_c.before args0 about1 = true := by decide +kernel
set_option maxRecDepth 65536 in
theorem w_case : (Jvm.Cond.and given_1 narrow_1).before args0 about1 = true := by decide +kernel
set_option maxRecDepth 65536 in
theorem w_consts : constsHeld consts_1 about1 := Jvm.Lit.constsHeldB_iff.mp (by decide +kernel)
theorem w_applies : (headSpec (Jvm.Cond.code x code maxLocals ret :: tables_1) room_1).applies x e0.platform about1 = true :=
  (Spec.applies_iff w_frames).mpr ⟨w_running, w_runnable, w_alone, w_named, w_hears, w_ripe, w_room, w_tables⟩
theorem atStart : AtStart classFile x code maxLocals ret World_1 tables_1 room_1 Calls_1 rest_1 Pre_1 launch0 p0 e0 about1 theMethod args0 below0 :=
  ⟨lists_1, trivial, launch0.admits_env _ _ _, launch0.least_env, fairChoices_fair.cas, fairChoices_fair.clock, w_frames, w_args, w_heap, w_applies, ⟨w_consts, trivial⟩, w_rest, w_case⟩
end start1
theorem witness_1 : WitnessClaimed_1 := ⟨start1.p0, start1.e0, start1.about1, start1.theMethod, start1.args0, start1.below0, start1.atStart⟩
end Jvm.Pilot.@@N@@
